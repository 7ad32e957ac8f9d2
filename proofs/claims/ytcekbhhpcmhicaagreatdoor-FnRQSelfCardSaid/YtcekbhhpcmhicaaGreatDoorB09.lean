/- Polynomials in memory: NewGenericGFPoly and what reads one. -/
import Derived.Test.YtcekbhhpcmhicaaGreatDoorProg
import Derived.BigQuiet
import Derived.BigRegion
import Derived.Deep.RegionHeld3
import Derived.Deep.DeepCutAuto
import Derived.Deep.CutBlock
import Derived.LaidEqlPtr
import Derived.Lib.Builder
import Derived.Outline
import Derived.Test.YtcekbhhpcmhicaaGreatDoorB01
import Derived.Test.YtcekbhhpcmhicaaGreatDoorB03
set_option linter.unusedSimpArgs false
set_option linter.unusedVariables false
namespace Go.Proofs.YtcekbhhpcmhicaaGreatDoor
open Go Go.RowKit Go.Deep
set_option maxRecDepth 100000
/-- a slice of numbers -/
structure CoAt (w : World) (lo b o cap : Nat) (cs : List Nat) : Prop where
  ex : ∃ N G, w.rowIs b 3 N G ∧ (∀ i, i < cs.length → G (o + i) = i64 (cs.getD i 0)) ∧ o + cs.length ≤ N
  cap : cs.length ≤ cap
  lob : lo ≤ b
theorem CoAt.cell {w : World} {lo b o cap : Nat} {cs : List Nat} (h : CoAt w lo b o cap cs) {i : Nat} (hi : i < cs.length) : w.cell? ⟨b, o + i, none⟩ = some (i64 (cs.getD i 0)) := by
  obtain ⟨N, G, h1, h2, h3⟩ := h.ex
  rw [← h2 i hi]; exact h1.cell (by omega)
theorem CoAt.fr {w w' : World} {F : Nat → Prop} {lo b o cap : Nat} {cs : List Nat} (h : CoAt w lo b o cap cs) (hf : Fr F w w') (hb : ¬ F b) : CoAt w' lo b o cap cs := by
  obtain ⟨N, G, h1, h2, h3⟩ := h.ex
  exact ⟨⟨N, G, rowFr h1 hf hb, h2, h3⟩, h.cap, h.lob⟩
theorem CoAt.drop {w : World} {lo b o cap : Nat} {cs : List Nat} (h : CoAt w lo b o cap cs) (k : Nat) (hk : k ≤ cs.length) : CoAt w lo b (o + k) (cap - k) (cs.drop k) := by
  obtain ⟨N, G, h1, h2, h3⟩ := h.ex
  refine ⟨⟨N, G, h1, fun i hi => ?_, by rw [List.length_drop]; omega⟩, by rw [List.length_drop]; have := h.cap; omega, h.lob⟩
  rw [List.length_drop] at hi
  rw [Nat.add_assoc, h2 (k + i) (by omega)]
  simp [List.getD_eq_getElem?_getD, List.getElem?_drop]
/-- a polynomial at block p -/
structure PolyAt (w : World) (lo p f : Nat) (cs : List Nat) : Prop where
  ex : ∃ b o cap, Blk w p 330 #[.pointer (some ⟨f, 0, none⟩), .slice (some ⟨b, o, none⟩) cs.length cap] ∧ CoAt w lo b o cap cs
  lop : lo ≤ p
  pos : 0 < cs.length
  small : cs.length ≤ 1000
  el : Elems cs
theorem PolyAt.fr {w w' : World} {F : Nat → Prop} {lo p f : Nat} {cs : List Nat} (h : PolyAt w lo p f cs) (hf : Fr F w w') (hp : ¬ F p) (hF : ∀ b, lo ≤ b → (∃ N G, w.rowIs b 3 N G) → ¬ F b) : PolyAt w' lo p f cs := by
  obtain ⟨b, o, cap, h1, h2⟩ := h.ex
  obtain ⟨N, G, h3, _⟩ := h2.ex
  exact ⟨⟨b, o, cap, h1.fr hf hp, h2.fr hf (hF b h2.lob ⟨N, G, h3⟩)⟩, h.lop, h.pos, h.small, h.el⟩
theorem PolyAt.nil {w w' : World} {lo p f : Nat} {cs : List Nat} (h : PolyAt w lo p f cs) (hf : Fr Nil w w') : PolyAt w' lo p f cs := h.fr hf (fun e => e) (fun _ _ _ e => e)
theorem PolyAt.lo {w : World} {lo lo' p f : Nat} {cs : List Nat} (h : PolyAt w lo p f cs) (hl : lo' ≤ lo) : PolyAt w lo' p f cs := by
  obtain ⟨b, o, cap, h1, h2⟩ := h.ex
  exact ⟨⟨b, o, cap, h1, h2.ex, h2.cap, Nat.le_trans hl h2.lob⟩, Nat.le_trans hl h.lop, h.pos, h.small, h.el⟩
theorem PolyAt.c0 {w : World} {lo p f : Nat} {cs : List Nat} (h : PolyAt w lo p f cs) : w.cell? ⟨p, 0, none⟩ = some (.pointer (some ⟨f, 0, none⟩)) := by
  obtain ⟨b, o, cap, h1, h2⟩ := h.ex
  simpa using h1.cell 0
/-- the field, at block f -/
structure GFAt (w : World) (lo f : Nat) : Prop where
  ex : ∃ e l z o, Blk w f 277 #[sl e 256, sl l 256, .pointer (some ⟨z, 0, none⟩), .pointer (some ⟨o, 0, none⟩), i64 256, i64 285, i64 0] ∧ w.rowIs e 3 256 (fun i => i64 (gexp i)) ∧ w.rowIs l 3 256 (fun i => i64 (glog i)) ∧
    PolyAt w lo z f [0] ∧ PolyAt w lo o f [1] ∧ lo ≤ e ∧ lo ≤ l
  lof : lo ≤ f
theorem GFAt.fr {w w' : World} {F : Nat → Prop} {lo f : Nat} (h : GFAt w lo f) (hf : Fr F w w') (h0 : ¬ F f) (h1 : ∀ p, lo ≤ p → (∃ cs, Blk w p 330 cs) → ¬ F p) (hF : ∀ b, lo ≤ b → (∃ N G, w.rowIs b 3 N G) → ¬ F b) : GFAt w' lo f := by
  obtain ⟨e, l, z, o, a1, a2, a3, a4, a5, a6, a7⟩ := h.ex
  have hz : ¬ F z := by obtain ⟨b, o', c, hb, _⟩ := a4.ex; exact h1 z a4.lop ⟨_, hb⟩
  have ho : ¬ F o := by obtain ⟨b, o', c, hb, _⟩ := a5.ex; exact h1 o a5.lop ⟨_, hb⟩
  exact ⟨⟨e, l, z, o, a1.fr hf h0, rowFr a2 hf (hF e a6 ⟨_, _, a2⟩), rowFr a3 hf (hF l a7 ⟨_, _, a3⟩), a4.fr hf hz hF, a5.fr hf ho hF, a6, a7⟩, h.lof⟩
theorem GFAt.nil {w w' : World} {lo f : Nat} (h : GFAt w lo f) (hf : Fr Nil w w') : GFAt w' lo f := h.fr hf (fun e => e) (fun _ _ _ e => e) (fun _ _ _ e => e)
theorem norm_big : ∀ cs : List Nat, cs.length = 1 ∨ cs.getD 0 0 ≠ 0 → norm cs = cs
  | [], _ => rfl
  | [c], _ => by simp [norm]
  | 0 :: c :: r, h => by simp at h
  | (n + 1) :: c :: r, _ => by simp [norm]
theorem norm_at : ∀ (k : Nat) (cs : List Nat), k < cs.length → (∀ i, i < k → cs.getD i 0 = 0) → (k + 1 = cs.length ∨ cs.getD k 0 ≠ 0) → norm cs = cs.drop k
  | 0, cs, _, _, h => by rw [List.drop_zero]; exact norm_big cs (h.imp (fun e => e.symm) id)
  | k + 1, [], h, _, _ => by simp at h
  | k + 1, [c], h, _, _ => by simp at h
  | k + 1, c :: d :: r, h, hz, hk => by
    have h0 : c = 0 := by simpa using hz 0 (by omega)
    subst h0
    simp only [norm, List.drop_succ_cons]
    exact norm_at k (d :: r) (by simpa using h) (fun i hi => by simpa using hz (i + 1) (by omega)) (by simpa using hk)
theorem drop_last_zero {cs : List Nat} {k : Nat} (h : k + 1 = cs.length) (hz : cs.getD k 0 = 0) : cs.drop k = [0] := by
  rw [List.drop_eq_getElem_cons (by omega), List.drop_of_length_le (by omega)]
  congr 1
  rw [List.getD_eq_getElem?_getD, List.getElem?_eq_getElem (by omega)] at hz
  simpa using hz
theorem Tryz.info330 : (Tryz.prog.info? 330).map (fun i => (i.zero, i.size, i.bytes)) = some (some (.agg #[.pointer none, .slice none 0 0]), 2, 32) := by kernel_rfl
theorem poly_new {wx w1 : World} {lo f b o cap : Nat} {cs : List Nat} (hc : CoAt w1 lo b o cap cs) (hlo : lo ≤ wx.heap.size) (hpos : 0 < cs.length) (hs : cs.length ≤ 1000) (he : Elems cs)
    (hw : w1 = wx.alloc (.cells #[.pointer (some ⟨f, 0, none⟩), .slice (some ⟨b, o, none⟩) cs.length cap] 330)) : PolyAt w1 lo wx.heap.size f cs := by
  subst hw
  exact ⟨⟨b, o, cap, Blk.new wx 330 #[.pointer (some ⟨f, 0, none⟩), .slice (some ⟨b, o, none⟩) cs.length cap], hc⟩, hlo, hpos, hs, he⟩
set_option maxHeartbeats 1600000 in
theorem newPoly_calls {w : World} {lo f b o cap : Nat} {cs : List Nat} (h : CoAt w lo b o cap cs) (hpos : 0 < cs.length) (hsmall : cs.length ≤ 1000) (hel : Elems cs) (hlo : lo ≤ w.heap.size) :
    Calls Tryz.prog 172 #[.pointer (some ⟨f, 0, none⟩), .slice (some ⟨b, o, none⟩) cs.length cap] w fun e w' => ∃ p, e = .returned (.tuple #[.pointer (some ⟨p, 0, none⟩), .nilIface]) ∧ PolyAt w' lo p f (norm cs) ∧ Fr Nil w w' := by
  have hcw : ∀ i, i < cs.length → (w.alloc (.cells #[.pointer (some ⟨f, 0, none⟩), .slice none 0 0] 330)).cell? ⟨b, o + i, none⟩ = some (i64 (cs.getD i 0)) := fun i hi => (h.fr ((Fr.refl Nil _).alloc _) (fun e => e)).cell hi
  have HCW := Lib.hid hcw
  clear hcw
  have c0 := HCW.out 0 hpos
  simp only [Nat.add_zero] at c0
  have hcap := h.cap
  have hne0 : ((cs.length : Int) == 0) = false := beq_eq_false_iff_ne.2 (by omega)
  have hf1 : Fr Nil w (w.alloc (.cells #[.pointer (some ⟨f, 0, none⟩), .slice none 0 0] 330)) := (Fr.refl _ _).alloc _
  have hf2 : ∀ o' l c : Nat, Fr Nil w (w.alloc (.cells #[.pointer (some ⟨f, 0, none⟩), .slice (some ⟨b, o', none⟩) l c] 330)) :=
    fun o' l c => (Fr.refl _ _).alloc _
  have hfin : ∀ k, k < cs.length → Hid (norm cs = cs.drop k) → PolyAt (w.alloc (.cells #[.pointer (some ⟨f, 0, none⟩), .slice (some ⟨b, o + k, none⟩) (cs.length - k) (cap - k)] 330)) lo w.heap.size f (norm cs) := by
    intro k hk hn
    rw [hn.out]
    have hl : (cs.drop k).length = cs.length - k := List.length_drop
    have hd := (h.drop k (by omega)).fr (hf2 (o + k) (cs.length - k) (cap - k)) (fun e => e)
    exact poly_new hd hlo (by omega) (by omega) (fun x hx => hel x (List.mem_of_mem_drop hx)) (by rw [hl])
  have HF := Lib.hid hfin
  have HF2 := Lib.hid hf2
  clear hfin hf2 hf1
  by_cases hbig : cs.length = 1 ∨ cs.getD 0 0 ≠ 0
  · have HN := Lib.hid (norm_big cs hbig)
    have HG := HF.out 0 hpos (Lib.hid (by rw [HN.out, List.drop_zero]))
    simp only [Nat.add_zero, Nat.sub_zero] at HG
    have HG' := Lib.hid HG
    clear HG
    by_cases h1 : cs.length = 1
    · have hgt : ¬ (1 : Int) < cs.length := by omega
      have H1 := Lib.hid h1
      clear h1 hbig
      go_enter Tryz.func172, Tryz.ntmps172
      go_wp2
      go_ret2
      exact ⟨_, rfl, HG'.out, HF2.out _ _ _⟩
    · have hgt : (1 : Int) < cs.length := by omega
      have hc : ((cs.getD 0 0 : Nat) : Int) ≠ 0 := by have := hbig.resolve_left h1; omega
      have hcb : (((cs.getD 0 0 : Nat) : Int) == 0) = false := beq_eq_false_iff_ne.2 hc
      generalize cs.getD 0 0 = c at *
      clear hbig hc h1
      go_enter Tryz.func172, Tryz.ntmps172
      go_wp2
      go_ret2
      exact ⟨_, rfl, HG'.out, HF2.out _ _ _⟩
  · have h1 : 1 < cs.length := by
      rcases Nat.lt_or_ge 1 cs.length with hx | hx
      · exact hx
      · exact absurd (.inl (by omega)) hbig
    have hgt : (1 : Int) < cs.length := by omega
    have h0 : cs.getD 0 0 = 0 := by
      by_cases hx : cs.getD 0 0 = 0
      · exact hx
      · exact absurd (.inr hx) hbig
    rw [h0] at c0
    have HZ0 : Hid (∀ j, j < 1 → cs.getD j 0 = 0) := Lib.hid (fun j hj => by
      have hj0 : j = 0 := by omega
      rw [hj0]; exact h0)
    clear hbig h0
    go_enter Tryz.func172, Tryz.ntmps172
    go_wp2_with fail
    go_loopg [8] (cs.length - 1) (fun r s8 wr => ∃ i : Nat, Hid (wr = w.alloc (.cells #[.pointer (some ⟨f, 0, none⟩), .slice none 0 0] 330)) ∧ i + r = cs.length ∧ 1 ≤ i ∧ Hid (∀ j, j < i → cs.getD j 0 = 0) ∧ s8 = .int .i64 i)
    case atStart => exact ⟨1, Lib.hid rfl, by omega, by omega, HZ0, rfl⟩
    case round =>
      obtain ⟨i, HW, hi, hi1, HJ, rfl⟩ := hrel
      have hW := HW.out
      subst hW
      clear HW
      cases gk with
      | zero =>
        obtain rfl : i = cs.length := by omega
        have HN : Hid (norm cs = [0]) := Lib.hid (by rw [norm_at (cs.length - 1) cs (by omega) (fun j hj => HJ.out j (by omega)) (.inl (by omega)), drop_last_zero (by omega) (HJ.out _ (by omega))])
        go_wp2_with fail
        go_ret2
        refine ⟨_, rfl, ?_, ((Fr.refl _ _).alloc _).alloc _⟩
        rw [HN.out]
        have h1 : Fr Nil (w.alloc (.cells #[.pointer (some ⟨f, 0, none⟩), .slice (some ⟨w.heap.size + 1, 0, none⟩) 1 1] 330)) _ := (Fr.refl _ _).alloc (.cells #[.int .i64 0] 3)
        have hr := World.rowIs_alloc (w.alloc (.cells #[.pointer (some ⟨f, 0, none⟩), .slice (some ⟨w.heap.size + 1, 0, none⟩) 1 1] 330)) #[.int .i64 0] 3 (fun _ => .int .i64 0) (fun i hi => by
          have hi0 : i = 0 := by simpa using hi
          rw [hi0]; rfl)
        rw [World.size_alloc] at hr
        exact ⟨⟨w.heap.size + 1, 0, 1, (Blk.new w 330 _).fr h1 (fun e => e), ⟨⟨1, _, hr, fun i hi => by
          have hi0 : i = 0 := by simpa using hi
          rw [hi0]; rfl, by simp⟩, by simp, by omega⟩⟩, hlo, by simp, by simp, fun x hx => by simp at hx; omega⟩
      | succ r =>
        have hz : (i : Int) < cs.length := by omega
        have hce := HCW.out i (by omega)
        by_cases hcz : cs.getD i 0 = 0
        · rw [hcz] at hce
          have HZ := Lib.hid hcz
          clear hcz
          go_wp2
          go_roundg r
          case measure => omega
          case rel => exact ⟨i + 1, Lib.hid rfl, by omega, by omega, Lib.hid (fun j hj => by
            rcases Nat.lt_or_ge j i with hx | hx
            · exact HJ.out j hx
            · obtain rfl : j = i := by omega
              exact HZ.out), by go_num⟩
        · have hx := HF.out i (by omega) (Lib.hid (norm_at _ _ (by omega) (fun j hj => HJ.out j hj) (.inr hcz)))
          have HX := Lib.hid hx
          have hcb : (((cs.getD i 0 : Nat) : Int) == 0) = false := beq_eq_false_iff_ne.2 (by omega)
          have hie : ((i : Int) == cs.length) = false := beq_eq_false_iff_ne.2 (by omega)
          generalize cs.getD i 0 = c at *
          clear hx hcz
          go_wp2
          go_ret2
          exact ⟨_, rfl, by simpa using HX.out, HF2.out _ _ _⟩
end Go.Proofs.YtcekbhhpcmhicaaGreatDoor
/- What reads the field and a polynomial. -/
namespace Go.Proofs.YtcekbhhpcmhicaaGreatDoor
open Go Go.RowKit Go.Deep
set_option maxRecDepth 100000
theorem i64_xor_nat (a b : Nat) (ha : a < 9223372036854775808) (hb : b < 9223372036854775808) : bits .xor .i64 (a : Int) (b : Int) = ((a ^^^ b : Nat) : Int) := by
  have e : ∀ a : Nat, a < 9223372036854775808 → (BitVec.ofInt 64 (a : Int)).toNat = a := fun a ha => by rw [BitVec.ofInt_natCast, BitVec.toNat_ofNat]; exact Nat.mod_eq_of_lt (by omega)
  have hx : a ^^^ b < 2 ^ 63 := Nat.xor_lt_two_pow (by omega) (by omega)
  show IntKind.i64.wrap ((BitVec.ofInt 64 (a : Int) ^^^ BitVec.ofInt 64 (b : Int)).toNat : Int) = _
  rw [BitVec.toNat_xor, e a ha, e b hb, IntKind.wrap_i64]
  omega
theorem addSub_calls (w : World) (a b : Nat) (ha : a < 256) (hb : b < 256) :
    Calls Tryz.prog 267 #[.int .i64 a, .int .i64 b] w fun e w' => e = .returned (.int .i64 ((a ^^^ b : Nat) : Int)) ∧ w = w' := by
  have HX := Lib.hid (i64_xor_nat a b (by omega) (by omega))
  go_enter Tryz.func267, Tryz.ntmps267
  go_wp2
  go_ret
  exact ⟨by rw [← HX.out]; rfl, rfl⟩
theorem getZero_calls {w : World} {lo f : Nat} (h : GFAt w lo f) : Calls Tryz.prog 228 #[.pointer (some ⟨f, 0, none⟩)] w fun e w' => (∃ z, e = .returned (.pointer (some ⟨z, 0, none⟩)) ∧ PolyAt w lo z f [0]) ∧ w = w' := by
  obtain ⟨e, l, z, o, a1, a2, a3, a4, a5, a6, a7⟩ := h.ex
  have c0 := a1.cell 2
  simp only [Nat.reduceAdd, List.getElem?_toArray, List.getElem?_cons_succ, List.getElem?_cons_zero] at c0
  have H4 := Lib.hid a4
  clear a1 a2 a3 a4 a5
  go_enter Tryz.func228, Tryz.ntmps228
  go_wp2
  go_ret
  exact ⟨⟨z, rfl, H4.out⟩, rfl⟩
theorem genBase_calls {w : World} {lo f : Nat} (h : GFAt w lo f) : Calls Tryz.prog 226 #[.pointer (some ⟨f, 0, none⟩)] w fun e w' => e = .returned (.int .i64 0) ∧ w = w' := by
  obtain ⟨e, l, z, o, a1, a2, a3, a4, a5, a6, a7⟩ := h.ex
  have c0 := a1.cell 6
  simp only [Nat.reduceAdd, List.getElem?_toArray, List.getElem?_cons_succ, List.getElem?_cons_zero] at c0
  clear a1 a2 a3 a4 a5
  go_enter Tryz.func226, Tryz.ntmps226
  go_wp2
  go_ret
  exact ⟨rfl, rfl⟩
theorem exp_calls {w : World} {lo f : Nat} (h : GFAt w lo f) (i : Nat) (hi : i < 256) : Calls Tryz.prog 225 #[.pointer (some ⟨f, 0, none⟩), .int .i64 i] w fun e w' => e = .returned (.int .i64 (gexp i)) ∧ w = w' := by
  obtain ⟨e, l, z, o, a1, a2, a3, a4, a5, a6, a7⟩ := h.ex
  have c0 := a1.cell 0
  simp only [Nat.reduceAdd, List.getElem?_toArray, List.getElem?_cons_succ, List.getElem?_cons_zero] at c0
  have c1 := a2.cell hi
  clear a1 a2 a3 a4 a5
  generalize gexp i = x at *
  go_enter Tryz.func225, Tryz.ntmps225
  go_wp2
  go_ret
  exact ⟨rfl, rfl⟩
theorem mul_calls {w : World} {lo f : Nat} (h : GFAt w lo f) (a b : Nat) (ha : a < 256) (hb : b < 256) :
    Calls Tryz.prog 229 #[.pointer (some ⟨f, 0, none⟩), .int .i64 a, .int .i64 b] w fun e w' => e = .returned (.int .i64 (gmul a b)) ∧ Fr Nil w w' := by
  obtain ⟨e, l, z, o, a1, a2, a3, a4, a5, a6, a7⟩ := h.ex
  have hf := Fr.refl Nil w
  by_cases h0 : a = 0
  · subst h0
    have hg := Lib.hid (gmul_zero_left b)
    clear a1 a2 a3 a4 a5
    go_enter Tryz.func229, Tryz.ntmps229
    go_wp2
    go_ret
    exact ⟨by rw [hg.out]; rfl, hf⟩
  have h0b : ((a : Int) == 0) = false := beq_eq_false_iff_ne.2 (by omega)
  by_cases h1 : b = 0
  · subst h1
    have hg := Lib.hid (gmul_zero_right a)
    clear a1 a2 a3 a4 a5
    go_enter Tryz.func229, Tryz.ntmps229
    go_wp2
    go_ret
    exact ⟨by rw [hg.out]; rfl, hf⟩
  have h1b : ((b : Int) == 0) = false := beq_eq_false_iff_ne.2 (by omega)
  have c0 := a1.cell 0
  have c1 := a1.cell 1
  have c4 := a1.cell 4
  simp only [Nat.reduceAdd, List.getElem?_toArray, List.getElem?_cons_succ, List.getElem?_cons_zero] at c0 c1 c4
  have d1 := a3.cell ha
  have d2 := a3.cell hb
  have hla := glog_lt ha
  have hlb := glog_lt hb
  have hg : Hid (gmul a b = gexp ((glog a + glog b) % 255)) := Lib.hid (by unfold gmul; rw [if_neg (by omega)])
  have d3 := a2.cell (i := (glog a + glog b) % 255) (by omega)
  rw [← hg.out] at d3
  generalize gmul a b = x at *
  generalize glog a = la at *
  generalize glog b = lb at *
  have hm : (la + lb) % 255 < 256 := by omega
  clear a1 a2 a3 a4 a5 hg h0 h1
  go_enter Tryz.func229, Tryz.ntmps229
  go_wp2_with (go_quiet (fail))
  go_ret
  exact ⟨rfl, hf.drewN _⟩
theorem inv_calls {w : World} {lo f : Nat} (h : GFAt w lo f) (a : Nat) (ha : a < 256) (h0 : 0 < a) :
    Calls Tryz.prog 233 #[.pointer (some ⟨f, 0, none⟩), .int .i64 a] w fun e w' => e = .returned (.tuple #[.int .i64 (ginv a), .nilIface]) ∧ Fr Nil w w' := by
  obtain ⟨e, l, z, o, a1, a2, a3, a4, a5, a6, a7⟩ := h.ex
  have hf := Fr.refl Nil w
  have h0b : ((a : Int) == 0) = false := beq_eq_false_iff_ne.2 (by omega)
  have c0 := a1.cell 0
  have c1 := a1.cell 1
  have c4 := a1.cell 4
  simp only [Nat.reduceAdd, List.getElem?_toArray, List.getElem?_cons_succ, List.getElem?_cons_zero] at c0 c1 c4
  have d1 := a3.cell ha
  have hla := glog_lt ha
  have d3 := a2.cell (i := 256 - glog a - 1) (by omega)
  rw [show gexp (256 - glog a - 1) = ginv a from rfl] at d3
  generalize ginv a = x at *
  generalize glog a = la at *
  obtain ⟨k, hk⟩ : ∃ k, k = 256 - la - 1 := ⟨_, rfl⟩
  rw [← hk] at d3
  have hi : (256 - (la : Int) - 1) = (k : Int) := by omega
  have hk' : k < 256 := by omega
  clear a1 a2 a3 a4 a5 hk
  go_enter Tryz.func233, Tryz.ntmps233
  go_wp2_with (go_quiet (fail))
  go_ret2
  exact ⟨rfl, hf.drewN _⟩
theorem isZero_calls {w : World} {lo p f : Nat} {cs : List Nat} (h : PolyAt w lo p f cs) :
    Calls Tryz.prog 230 #[.pointer (some ⟨p, 0, none⟩)] w fun e w' => e = .returned (.bool (((cs.getD 0 0 : Nat) : Int) == 0)) ∧ w = w' := by
  obtain ⟨b, o, cap, h1, h2⟩ := h.ex
  have c0 := h1.cell 1
  simp only [Nat.reduceAdd, List.getElem?_toArray, List.getElem?_cons_succ, List.getElem?_cons_zero] at c0
  have c1 := h2.cell h.pos
  simp only [Nat.add_zero] at c1
  have hp := h.pos
  have hs := h.small
  generalize cs.getD 0 0 = c at *
  clear h1 h2 h
  go_enter Tryz.func230, Tryz.ntmps230
  go_wp2
  go_ret
  exact ⟨rfl, rfl⟩
theorem degree_calls {w : World} {lo p f : Nat} {cs : List Nat} (h : PolyAt w lo p f cs) :
    Calls Tryz.prog 232 #[.pointer (some ⟨p, 0, none⟩)] w fun e w' => e = .returned (.int .i64 ((cs.length - 1 : Nat) : Int)) ∧ w = w' := by
  obtain ⟨b, o, cap, h1, h2⟩ := h.ex
  have c0 := h1.cell 1
  simp only [Nat.reduceAdd, List.getElem?_toArray, List.getElem?_cons_succ, List.getElem?_cons_zero] at c0
  have hp := h.pos
  have hs := h.small
  clear h1 h2 h
  go_enter Tryz.func232, Tryz.ntmps232
  go_wp2
  go_ret
  exact ⟨by rw [show ((cs.length - 1 : Nat) : Int) = (cs.length : Int) - 1 from by omega]; rfl, rfl⟩
theorem coefs_calls {w : World} {lo p f : Nat} {cs : List Nat} (h : PolyAt w lo p f cs) :
    Calls Tryz.prog 193 #[.pointer (some ⟨p, 0, none⟩)] w fun e w' => (∃ b o cap, e = .returned (.slice (some ⟨b, o, none⟩) cs.length cap) ∧ CoAt w lo b o cap cs) ∧ w = w' := by
  obtain ⟨b, o, cap, h1, h2⟩ := h.ex
  have c0 := h1.cell 1
  simp only [Nat.reduceAdd, List.getElem?_toArray, List.getElem?_cons_succ, List.getElem?_cons_zero] at c0
  have H2 := Lib.hid h2
  clear h1 h2 h
  go_enter Tryz.func193, Tryz.ntmps193
  go_wp2
  go_ret
  exact ⟨⟨b, o, cap, rfl, H2.out⟩, rfl⟩
theorem coef_calls {w : World} {lo p f : Nat} {cs : List Nat} (h : PolyAt w lo p f cs) (d : Nat) (hd : d < cs.length) :
    Calls Tryz.prog 231 #[.pointer (some ⟨p, 0, none⟩), .int .i64 d] w fun e w' => e = .returned (.int .i64 (cs.getD (cs.length - 1 - d) 0 : Nat)) ∧ Fr Nil w w' := by
  obtain ⟨b, o, cap, h1, h2⟩ := h.ex
  have c0 := h1.cell 1
  simp only [Nat.reduceAdd, List.getElem?_toArray, List.getElem?_cons_succ, List.getElem?_cons_zero] at c0
  have hp := h.pos
  have hs := h.small
  have hf := Fr.refl Nil w
  obtain ⟨k, hk⟩ : ∃ k, k = cs.length - 1 - d := ⟨_, rfl⟩
  rw [← hk]
  have c1 := h2.cell (i := k) (by omega)
  have hcap := h2.cap
  have hi : ((cs.length : Int) - 1 - (d : Int)) = (k : Int) := by omega
  have hkl : k < cs.length := by omega
  generalize cs.getD k 0 = c at *
  generalize cs.length = n at *
  clear h1 h2 h hk
  go_enter Tryz.func231, Tryz.ntmps231
  go_wp2_with (go_quiet (fail))
  go_ret
  exact ⟨rfl, hf.drewN _⟩
end Go.Proofs.YtcekbhhpcmhicaaGreatDoor
