/- The generators: NewReedSolomonEncoder, buildGenerator. -/
import Derived.Deep.AppendLies
import Derived.Lib.AppendZeros
import Derived.Test.YtcekbhhpcmhicaaGreatDoorB14
set_option linter.unusedSimpArgs false
set_option linter.unusedVariables false
namespace Go.Proofs.YtcekbhhpcmhicaaGreatDoor
open Go Go.RowKit Go.Deep
set_option maxRecDepth 100000
/-- the generator of degree d -/
def genP : Nat → List Nat
  | 0 => [1]
  | d + 1 => pm2 (genP d) 1 (gexp d)
theorem genP_length : ∀ d, (genP d).length = d + 1
  | 0 => rfl
  | d + 1 => by rw [genP, pm2_length, genP_length d]
theorem genP_elems : ∀ d, Elems (genP d)
  | 0 => by intro x hx; simp [genP] at hx; omega
  | d + 1 => pm2_elems _ _
theorem gmul_one_one : gmul 1 1 = 1 := by decide +kernel
theorem genP_head : ∀ d, (genP d).getD 0 0 = 1
  | 0 => rfl
  | d + 1 => by
    have h := genP_head d
    rw [genP, pm2_getD _ _ _ _ (by omega)]
    unfold m2
    rw [if_pos (by rw [genP_length]; omega), if_neg (by omega), h, gmul_one_one]; rfl
theorem genP_norm (d : Nat) : norm (genP d) = genP d := norm_big _ (.inr (by rw [genP_head]; omega))
theorem gexp_lt' (i : Nat) : gexp i < 256 := by
  rcases Nat.lt_or_ge i 256 with h | h
  · exact gexp_lt h
  · unfold gexp; rw [List.getD_eq_getElem?_getD, List.getElem?_eq_none (by simpa [expTbl] using h)]; simp
theorem genP_root : ∀ d i, i < d → ev (genP d) (gexp i) = 0
  | 0, i, h => by omega
  | d + 1, i, h => by
    rw [genP, ev_pm2 (genP_elems d) (by omega) (gexp_lt' d) (gexp_lt' i), gmul_one (ev_lt (genP_elems d) _)]
    by_cases hi : i = d
    · rw [hi, Nat.xor_self]
    · rw [genP_root d i (by omega), gmul_zero_right, gmul_zero_right]; rfl
theorem Tryz.und313 : Tryz.prog.underlying 313 = some (.slice 275) := by kernel_rfl
theorem Tryz.inf275 : (Tryz.prog.info? 275).map (fun i => (i.zero, i.size, i.bytes)) = some (some (.pointer none), 1, 8) := by kernel_rfl
/-- the encoder at block p: the field f, the generators xs in row g -/
structure RSAt (w : World) (lo p f g cap : Nat) (xs : List Value) : Prop where
  st : Blk w p 315 #[.pointer (some ⟨f, 0, none⟩), .slice (some ⟨g, 0, none⟩) xs.length cap]
  own : w.ownsRow lo 275 1 (.slice (some ⟨g, 0, none⟩) xs.length cap) xs.length xs
  lop : lo ≤ p
theorem own_cell {w : World} {lo g n cap : Nat} {e : TypeId} {xs : List Value} (h : w.ownsRow lo e 1 (.slice (some ⟨g, 0, none⟩) n cap) n xs) {i : Nat} {v : Value} (hv : xs[i]? = some v) : w.cell? ⟨g, i, none⟩ = some v := by
  rcases h.2 with ⟨h0, _⟩ | ⟨g', cap', cur, hv', _, hb, hn, _, hs, htake⟩
  · cases h0
  · cases hv'
    have : cur[i]? = some v := by
      rw [← htake, Nat.mul_one, List.getElem?_take] at hv
      split at hv
      · simpa using hv
      · cases hv
    exact (cell_of_row w g i cur e (0, 0) hb).trans this
theorem own_fr {w w' : World} {F : Nat → Prop} {lo g n cap : Nat} {e : TypeId} {xs : List Value} (h : w.ownsRow lo e 1 (.slice (some ⟨g, 0, none⟩) n cap) n xs) (hf : Fr F w w') (hg : ¬ F g) : w'.ownsRow lo e 1 (.slice (some ⟨g, 0, none⟩) n cap) n xs := by
  refine ⟨h.1, ?_⟩
  rcases h.2 with ⟨h0, _⟩ | ⟨g', cap', cur, hv', h1, hb, h2⟩
  · cases h0
  · cases hv'
    have hlt : g < w.heap.size := by
      rcases Nat.lt_or_ge g w.heap.size with h | h
      · exact h
      · rw [Array.getElem?_eq_none h] at hb; cases hb
    exact .inr ⟨g, cap, cur, rfl, h1, (hf.block g hlt hg).trans hb, h2⟩
theorem own_blk {w : World} {lo g n cap : Nat} {e : TypeId} {xs : List Value} (h : w.ownsRow lo e 1 (.slice (some ⟨g, 0, none⟩) n cap) n xs) : ∃ cur, Blk w g e cur ∧ n ≤ cap := by
  rcases h.2 with ⟨h0, _⟩ | ⟨g', cap', cur, hv', _, hb, hn, _⟩
  · cases h0
  · cases hv'; exact ⟨cur, hb, hn⟩
theorem own_one (w : World) (lo : Nat) (e : TypeId) (v : Value) (hlo : lo ≤ w.heap.size) : (w.alloc (.cells #[v] e)).ownsRow lo e 1 (.slice (some ⟨w.heap.size, 0, none⟩) 1 1) 1 [v] :=
  ⟨rfl, .inr ⟨w.heap.size, 1, #[v], rfl, hlo, heap_alloc_new w _, Nat.le_refl _, by decide, rfl, rfl⟩⟩
set_option maxHeartbeats 1600000 in
theorem newRS_calls {w : World} {lo f : Nat} (h : GFAt w lo f) (hlo : lo ≤ w.heap.size) :
    Calls Tryz.prog 153 #[.pointer (some ⟨f, 0, none⟩)] w fun e w' => ∃ p g t, e = .returned (.pointer (some ⟨p, 0, none⟩)) ∧ RSAt w' lo p f g 1 [.pointer (some ⟨t, 0, none⟩)] ∧ PolyAt w' lo t f [1] ∧ Fr Nil w w' := by
  have hone := one_cell_row w (i64 1) 3
  have HP := Lib.hid (newPoly_calls (lo := lo) (f := f) (coAt_one 1 hone (by omega) hlo) (by simp) (by simp) (fun x hx => by simp at hx; omega) (by rw [nblk_alloc]; omega))
  clear hone
  go_enter Tryz.func153, Tryz.ntmps153
  go_wp2_with fail
  refine HP.out.mono ?_
  rintro e w1 ⟨t, rfl, hP, hF⟩
  rw [norm_one] at hP
  have hF2 : Fr Nil w w1 := ((Fr.refl _ _).alloc _).trans hF
  have hsz := hF2.size
  have HX := Lib.hid (own_one w1 lo 275 (.pointer (some ⟨t, 0, none⟩)) (by omega))
  have HPP := Lib.hid hP
  have HFF := Lib.hid hF2
  clear hP hF hF2
  go_wp2_with fail
  go_ret
  have hal : Fr Nil w1 ((w1.alloc (.cells #[.pointer (some ⟨t, 0, none⟩)] 275)).alloc (.cells #[.pointer (some ⟨f, 0, none⟩), .slice (some ⟨w1.heap.size, 0, none⟩) 1 1] 315)) := ((Fr.refl _ _).alloc _).alloc _
  refine ⟨w1.heap.size + 1, w1.heap.size, t, rfl, ⟨?_, own_fr HX.out ((Fr.refl Nil _).alloc _) (fun e => e), by omega⟩, HPP.out.nil hal, HFF.out.trans hal⟩
  have := Blk.new (w1.alloc (.cells #[.pointer (some ⟨t, 0, none⟩)] 275)) 315 #[.pointer (some ⟨f, 0, none⟩), .slice (some ⟨w1.heap.size, 0, none⟩) 1 1]
  rwa [nblk_alloc] at this
theorem two_poly {w : World} {lo f : Nat} (hlo : lo ≤ w.heap.size) (a b : Nat) (ha : a < 256) (hb : b < 256) (h0 : a ≠ 0) :
    Calls Tryz.prog 172 #[.pointer (some ⟨f, 0, none⟩), .slice (some ⟨w.heap.size, 0, none⟩) 2 2] (w.alloc (.cells #[i64 a, i64 b] 3)) fun e w' => ∃ p, e = .returned (.tuple #[.pointer (some ⟨p, 0, none⟩), .nilIface]) ∧ PolyAt w' lo p f [a, b] ∧ Fr Nil w w' := by
  have hr := World.rowIs_alloc w #[i64 a, i64 b] 3 (fun i => i64 ([a, b].getD i 0)) (fun i hi => by
    have : i = 0 ∨ i = 1 := by simp at hi; omega
    rcases this with rfl | rfl <;> rfl)
  have hco : CoAt (w.alloc (.cells #[i64 a, i64 b] 3)) lo w.heap.size 0 2 [a, b] := ⟨⟨2, _, hr, fun i hi => by rw [Nat.zero_add], by simp⟩, by simp, hlo⟩
  have hp := newPoly_calls (f := f) hco (by simp) (by simp) (fun x hx => by
    simp at hx
    rcases hx with rfl | rfl
    · exact ha
    · exact hb) (by rw [nblk_alloc]; omega)
  refine hp.mono ?_
  rintro e w1 ⟨p, rfl, hP, hF⟩
  rw [norm_big _ (.inr (by simpa using h0))] at hP
  exact ⟨p, rfl, hP, ((Fr.refl _ _).alloc _).trans hF⟩
set_option maxHeartbeats 3200000 in
theorem buildGen_calls {w : World} {lo f p g0 cap0 t0 : Nat} (h : GFAt w lo f) (hr : RSAt w lo p f g0 cap0 [.pointer (some ⟨t0, 0, none⟩)]) (ht : PolyAt w lo t0 f [1]) (hlo : lo ≤ w.heap.size) (D : Nat) (hD1 : 1 ≤ D) (hD : D ≤ 200) :
    Calls Tryz.prog 190 #[.pointer (some ⟨p, 0, none⟩), .int .i64 D] w fun e w' => ∃ t, e = .returned (.pointer (some ⟨t, 0, none⟩)) ∧ PolyAt w' lo t f (genP D) ∧ Fr (Two p g0) w w' ∧ w'.cell? ⟨p, 0, none⟩ = some (.pointer (some ⟨f, 0, none⟩)) := by
  have c1 := hr.st.cell 1
  simp only [List.length_cons, List.length_nil, List.getElem?_toArray, List.getElem?_cons_succ, List.getElem?_cons_zero, Nat.zero_add, Nat.reduceAdd] at c1
  have hcap0 : 1 ≤ cap0 := by obtain ⟨cur, _, h2⟩ := own_blk hr.own; simpa using h2
  have e0 := own_cell hr.own (i := 0) (v := .pointer (some ⟨t0, 0, none⟩)) rfl
  have hDz : (1 : Int) ≤ (D : Int) := by omega
  have HR := Lib.hid hr
  have HT := Lib.hid ht
  have HG := Lib.hid h
  clear hr ht h
  go_enter Tryz.func190, Tryz.ntmps190
  go_wp2_with fail
  clear c1 e0
  go_loopg [6, 7, 8, 9, 10, 11] D (fun r s6 s7 s8 s9 s10 s11 wr => ∃ (j t g cap : Nat) (xs : List Value), j + r = D ∧ s7 = .int .i64 ((j : Int) + 1) ∧ s6 = .pointer (some ⟨t, 0, none⟩) ∧ xs.length = j + 1 ∧ xs[j]? = some (.pointer (some ⟨t, 0, none⟩)) ∧
    Hid (RSAt wr lo p f g cap xs) ∧ Hid (PolyAt wr lo t f (genP j)) ∧ Hid (GFAt wr lo f) ∧ Hid (g = g0 ∨ w.heap.size ≤ g) ∧ Fr (Two p g0) w wr)
  case atStart => exact ⟨0, t0, g0, cap0, _, by omega, rfl, rfl, rfl, rfl, HR, HT, HG, Lib.hid (.inl rfl), Fr.refl _ _⟩
  case round =>
    obtain ⟨j, t, g, cap, xs, hj, rfl, rfl, hxl, hxj, HR2, HT2, HG2, HGG, hF⟩ := hrel
    clear HR HT HG
    have c0 := HR2.out.st.cell 0
    have c1 := HR2.out.st.cell 1
    simp only [List.getElem?_toArray, List.getElem?_cons_succ, List.getElem?_cons_zero, Nat.zero_add, Nat.reduceAdd] at c0 c1
    rw [hxl] at c1
    have hcap : j + 1 ≤ cap := by obtain ⟨cur, _, h2⟩ := own_blk HR2.out.own; omega
    cases gk with
    | zero =>
      have hjD : j = D := by omega
      subst hjD
      have e0 := own_cell HR2.out.own hxj
      have hz : ¬ (j : Int) + 1 ≤ (j : Int) := by omega
      have C0 := Lib.hid c0
      clear hxl hxj
      go_wp2_with fail
      go_ret
      exact ⟨t, rfl, HT2.out, hF, C0.out⟩
    | succ r =>
      have hz : (j : Int) + 1 ≤ (D : Int) := by omega
      have hsz := hF.size
      have hloW := Nat.le_trans hlo hsz
      have HKK := Lib.hid (fun w' (hw : Fr Nil wr w') => hw.cell_some c0 (fun e => e))
      have HB := Lib.hid (fun w' (hw : Fr Nil wr w') => genBase_calls (HG2.out.nil hw))
      have HE := Lib.hid (fun w' (hw : Fr Nil wr w') => exp_calls (HG2.out.nil hw) j (by omega))
      have HNP := Lib.hid (fun w' (hw : Fr Nil wr w') => two_poly (w := w') (f := f) (Nat.le_trans hloW hw.size) 1 (gexp j) (by omega) (gexp_lt' j) (by omega))
      have hxl' := Lib.hid hxl
      have hxj' := Lib.hid hxj
      have hwr : IntKind.i64.wrap (j : Int) = (j : Int) := IntWalk.i64_in _ (by omega)
      have hJ := Lib.hid hj
      clear hxl hxj hj
      go_wp2_with fail
      go_region_held3 (fun w' => w'.cell? ⟨p, 0, none⟩ = some (.pointer (some ⟨f, 0, none⟩)))
        (first
          | exact HKK.out _ (Fr.refl _ _).drew
          | exact HKK.out _ ((Fr.refl _ _).drew.alloc _)
          | exact HKK.out _ hfa)
        ((first
          | (go_at_call 226; refine (HB.out _ (Fr.refl _ _).drew).mono ?_; rintro e w3 ⟨rfl, rfl⟩)
          | (go_at_call 225; refine (HE.out _ (Fr.refl _ _).drew).mono ?_; rintro e w4 ⟨rfl, rfl⟩)
          | (go_at_call 172; refine (HNP.out _ (Fr.refl _ _).drew).mono ?_; rintro e w5 ⟨t2, rfl, hP2, hf5⟩; have hfa : Fr Nil wr w5 := hf5.from_drew)))
      have HP2 := Lib.hid hP2
      clear hP2 hf5 HNP HE HB HKK c0 c1
      go_wp2_with fail
      refine (mul2_calls (HG2.out.nil hfa) (HT2.out.nil hfa) HP2.out (Nat.le_trans hloW hfa.size) (by rw [genP_head]; omega) (by omega) (by rw [genP_length]; omega)).mono ?_
      rintro e w6 ⟨t3, rfl, hP3, hf6⟩
      have hfb := hfa.trans hf6
      have HP3 : Hid (PolyAt w6 lo t3 f (genP (j + 1))) := Lib.hid (by
        have h1 := genP_norm (j + 1)
        rw [genP] at h1 ⊢
        rwa [h1] at hP3)
      have hal : Fr Nil wr (w6.alloc (.cells #[.pointer (some ⟨t3, 0, none⟩)] 275)) := hfb.alloc _
      obtain ⟨i275, hi275, hzi⟩ := Option.map_eq_some_iff.1 Tryz.inf275
      simp only [Prod.mk.injEq] at hzi
      have hsz6 := hal.size
      obtain ⟨g2, cap2, w7, hap, hown2, hgrow, hlies, hlt⟩ := run_append_lies (P := Tryz.prog) (w := w6.alloc (.cells #[.pointer (some ⟨t3, 0, none⟩)] 275)) 313 313 lo 275 i275 (.pointer none) 1 8 Tryz.und313 hi275 hzi.1 hzi.2.1 hzi.2.2 rfl (by omega)
        (.slice (some ⟨g, 0, none⟩) xs.length cap) xs.length xs (own_fr HR2.out.own hal (fun e => e)) ⟨w6.heap.size, 0, none⟩ 1 1 [.pointer (some ⟨t3, 0, none⟩)] rfl
        (fun k u hu => by
          have hk : k = 0 := by
            rcases Nat.lt_or_ge k 1 with h | h
            · omega
            · rw [List.getElem?_eq_none (by simpa using h)] at hu; cases hu
          subst hk
          rw [← hu, addr_add_row, Nat.zero_add]
          exact (Blk.new w6 275 #[.pointer (some ⟨t3, 0, none⟩)]).cell 0) (fun u hu => by
          have : u = .pointer (some ⟨t3, 0, none⟩) := by simpa using hu
          rw [this]; rfl) (by omega) (by rw [hxl'.out]; have : maxLen = 9223372036854775807 := rfl; omega) (by rw [hxl'.out]; omega) (by omega) _ rfl
      have hfg := Fr.of_grown hgrow
      have hstW := HR2.out.st.fr hal (fun e => e)
      have hpg : p ≠ g := by
        obtain ⟨cur, hb, _⟩ := own_blk (own_fr HR2.out.own hal (fun e => e))
        exact hstW.ne_ hb (by decide)
      have hst7 := hstW.fr hfg (fun e => hpg (by cases e; rfl))
      have k1 := hst7.cell 1
      have z1 := hst7.frozen 1
      have q1 := (HR2.out.st.fr hfb (fun e => e)).cell 1
      simp only [List.getElem?_toArray, List.getElem?_cons_succ, List.getElem?_cons_zero, Nat.zero_add, Nat.reduceAdd] at k1 q1
      have hst8 := hst7.set_ 1 (.slice (some ⟨g2, 0, none⟩) (xs.length + 1) cap2)
      have hf8 : Fr (One p) w7 (w7.setCell ⟨p, 1, none⟩ (.slice (some ⟨g2, 0, none⟩) (xs.length + 1) cap2)) := (Fr.refl _ _).set1 1 _
      have hpg2 : g2 ≠ p := by
        obtain ⟨cur, hb, _⟩ := own_blk hown2
        exact fun e => (hst7.ne_ hb (by decide)) e.symm
      have hRS : RSAt (w7.setCell ⟨p, 1, none⟩ (.slice (some ⟨g2, 0, none⟩) (xs.length + 1) cap2)) lo p f g2 cap2 (xs ++ [.pointer (some ⟨t3, 0, none⟩)]) := by
        have hl : (xs ++ [Value.pointer (some ⟨t3, 0, none⟩)]).length = xs.length + 1 := by simp
        refine ⟨?_, ?_, HR2.out.lop⟩
        · rw [hl]; simpa using hst8
        · rw [hl]; exact own_fr hown2 hf8 hpg2
      have hrow : ∀ b, lo ≤ b → (∃ N G, (w6.alloc (.cells #[.pointer (some ⟨t3, 0, none⟩)] 275)).rowIs b 3 N G) → b ≠ g := fun b _ hb => by
        obtain ⟨N, G, hr⟩ := hb
        obtain ⟨cur, hb2, _⟩ := own_blk (own_fr HR2.out.own hal (fun e => e))
        exact fun e => (hb2.row_ne hr (by decide)) e.symm
      have hpol : ∀ q, (∃ cs, Blk (w6.alloc (.cells #[.pointer (some ⟨t3, 0, none⟩)] 275)) q 330 cs) → q ≠ g := fun q hq => by
        obtain ⟨cs, hr⟩ := hq
        obtain ⟨cur, hb2, _⟩ := own_blk (own_fr HR2.out.own hal (fun e => e))
        exact fun e => (hb2.ne_ hr (by decide)) e.symm
      have hfield : f ≠ g := by
        obtain ⟨e', l, z, o, a1, _⟩ := (HG2.out.nil hal).ex
        obtain ⟨cur, hb2, _⟩ := own_blk (own_fr HR2.out.own hal (fun e => e))
        exact fun e => (hb2.ne_ a1 (by decide)) e.symm
      have HP7 : PolyAt w7 lo t3 f (genP (j + 1)) := ((HP3.out.nil ((Fr.refl Nil _).alloc (.cells #[.pointer (some ⟨t3, 0, none⟩)] 275)))).fr hfg (fun e => by
          obtain ⟨b, o, c, hb, _⟩ := (HP3.out.nil ((Fr.refl Nil _).alloc (.cells #[.pointer (some ⟨t3, 0, none⟩)] 275))).ex
          exact hpol t3 ⟨_, hb⟩ (by cases e; rfl)) (fun b hb hr e => hrow b hb hr (by cases e; rfl))
      have HG7 : GFAt w7 lo f := (HG2.out.nil hal).fr hfg (fun e => hfield (by cases e; rfl)) (fun q _ hq e => hpol q hq (by cases e; rfl)) (fun b hb hr e => hrow b hb hr (by cases e; rfl))
      have hrow8 : ∀ b, lo ≤ b → (∃ N G, w7.rowIs b 3 N G) → ¬ One p b := fun b _ hb => by
        obtain ⟨N, G, hr⟩ := hb
        exact fun e => (hst7.row_ne hr (by decide)) e.symm
      have hpol8 : ∀ q, (∃ cs, Blk w7 q 330 cs) → ¬ One p q := fun q hq => by
        obtain ⟨cs, hr⟩ := hq
        exact fun e => (hst7.ne_ hr (by decide)) e.symm
      have HP8 := Lib.hid (HP7.fr hf8 (by
        obtain ⟨b, o, c, hb, _⟩ := HP7.ex
        exact hpol8 t3 ⟨_, hb⟩) hrow8)
      have HG8 := Lib.hid (HG7.fr hf8 (by
        obtain ⟨e', l, z, o, a1, _⟩ := HG7.ex
        exact fun e => (hst7.ne_ a1 (by decide)) e.symm) (fun q _ => hpol8 q) hrow8)
      have hF8 : Fr (Two p g0) w (w7.setCell ⟨p, 1, none⟩ (.slice (some ⟨g2, 0, none⟩) (xs.length + 1) cap2)) := by
        refine ((hF.trans' hal (fun i _ e => e.elim)).trans' hfg (fun i hi e => ?_)).trans' hf8 (fun i _ e => .inl e)
        have hig : i = g := by cases e; rfl
        rcases HGG.out with h | h
        · exact .inr (by rw [hig, h])
        · omega
      have HF8 := Lib.hid hF8
      have HRS := Lib.hid hRS
      have HGG2 : Hid (g2 = g0 ∨ w.heap.size ≤ g2) := Lib.hid (by
        rcases hlies with h | h
        · have : g2 = g := by cases h; rfl
          rw [this]; exact HGG.out
        · right; omega)
      rw [hxl'.out] at hap k1 q1
      have hl2 : Hid ((xs ++ [Value.pointer (some ⟨t3, 0, none⟩)]).length = j + 1 + 1 ∧ (xs ++ [Value.pointer (some ⟨t3, 0, none⟩)])[j + 1]? = some (.pointer (some ⟨t3, 0, none⟩))) := Lib.hid (by
        constructor
        · simp [hxl'.out]
        · rw [List.getElem?_append_right (by rw [hxl'.out]; exact Nat.le_refl _), hxl'.out, Nat.sub_self]; rfl)
      have hxx := hxl'.out
      have hsz7 := hf6.size
      clear hF8 hRS HP7 HG7 hrow8 hpol8 hf8 hst8 hst7 hpg2 hpg hrow hpol hfield hstW hfg hgrow hlies hown2 hlt hsz6 hal hP3
      rw [hxx] at HF8 HRS HP8 HG8
      clear hxx
      have HAP := Lib.hid hap
      clear hap
      go_wp2_with (at_builtin; refine Lib.wpList_append_run _ rfl _ _ _ _ rfl _ _ rfl rfl _ _ HAP.out ?_)
      go_roundg r
      case measure => omega
      case rel => exact ⟨j + 1, t3, g2, cap2, _, by have := hJ.out; omega, by go_num, rfl, hl2.out.1, hl2.out.2, HRS, HP8, HG8, HGG2, HF8.out⟩
theorem gf_two {w w' : World} {lo f p g0 cap0 t0 : Nat} (h : GFAt w lo f) (hr : RSAt w lo p f g0 cap0 [.pointer (some ⟨t0, 0, none⟩)]) (hF : Fr (Two p g0) w w') : GFAt w' lo f := by
  obtain ⟨cur, hgb, _⟩ := own_blk hr.own
  refine h.fr hF ?_ ?_ ?_
  · obtain ⟨e', l, z, o, a1, _⟩ := h.ex
    intro e
    rcases e with e | e
    · exact hr.st.ne_ a1 (by decide) e.symm
    · exact hgb.ne_ a1 (by decide) e.symm
  · intro q _ hq e
    obtain ⟨cs, hb⟩ := hq
    rcases e with e | e
    · exact hr.st.ne_ hb (by decide) e.symm
    · exact hgb.ne_ hb (by decide) e.symm
  · intro b _ hb e
    obtain ⟨N, G, hrow⟩ := hb
    rcases e with e | e
    · exact hr.st.row_ne hrow (by decide) e.symm
    · exact hgb.row_ne hrow (by decide) e.symm
end Go.Proofs.YtcekbhhpcmhicaaGreatDoor
/- The encoder of Reed and Solomon: Encode. -/
namespace Go.Proofs.YtcekbhhpcmhicaaGreatDoor
open Go Go.RowKit Go.Deep
set_option maxRecDepth 100000
theorem map_gmul_one {cs : List Nat} (h : Elems cs) : cs.map (gmul 1) = cs := by
  conv => rhs; rw [← List.map_id cs]
  exact List.map_congr_left fun c hc => gmul_one (h c hc)
/-- data and its check symbols have each root -/
theorem ev_code {data rs : List Nat} {E y : Nat} (hd : Elems data) (hr : Elems rs) (hl : rs.length ≤ E) (hy : y < 256) (h : ev rs y = ev (data ++ List.replicate E 0) y) :
    ev (data ++ (List.replicate (E - rs.length) 0 ++ rs)) y = 0 := by
  have hx : data ++ (List.replicate (E - rs.length) 0 ++ rs) = List.zipWith (fun a b => a ^^^ b) (data ++ List.replicate E 0) (List.replicate data.length 0 ++ (List.replicate (E - rs.length) 0 ++ rs)) := by
    have hE : (List.replicate E 0).length = (List.replicate (E - rs.length) 0 ++ rs).length := by simp; omega
    rw [List.zipWith_append (by simp)]
    congr 1
    · apply List.ext_getElem
      · simp
      · intro i h1 h2; simp
    · apply List.ext_getElem
      · rw [List.length_zipWith]; omega
      · intro i h1 h2
        rw [List.getElem_zipWith]
        simp
  rw [hx, ev_zip y hy _ _ (by simp; omega) (append_elems hd (zeros_elems _)) (append_elems (zeros_elems _) (append_elems (zeros_elems _) hr)), ← h, ev_zeros_left, ev_zeros_left, Nat.xor_self]
def Three (a b c : Nat) : Nat → Prop := fun k => k = a ∨ k = b ∨ k = c
set_option maxHeartbeats 3200000 in
theorem encode_calls {w : World} {lo f p g0 cap0 t0 tb : Nat} {data : List Nat} {E : Nat} (h : GFAt w lo f) (hr : RSAt w lo p f g0 cap0 [.pointer (some ⟨t0, 0, none⟩)]) (ht : PolyAt w lo t0 f [1]) (hlo : lo ≤ w.heap.size)
    (hd : Elems data) (hd0 : 0 < data.length) (hE0 : 1 ≤ E) (hE : E ≤ 200) (hN : data.length + E ≤ 1000) (htb : w.rowIs tb 3 (data.length + E) (fun i => i64 (data.getD i 0))) (htlo : tb < lo) :
    Calls Tryz.prog 154 #[.pointer (some ⟨p, 0, none⟩), .slice (some ⟨tb, 0, none⟩) (data.length + E) (data.length + E), .int .i64 E] w fun e w' => e = .returned .nilIface ∧ ∃ ecc : List Nat, ecc.length = E ∧ Elems ecc ∧ (∀ i, i < E → ev (data ++ ecc) (gexp i) = 0) ∧
      w'.rowIs tb 3 (data.length + E) (fun i => i64 ((data ++ ecc).getD i 0)) ∧ Fr (Three tb p g0) w w' := by
  have HG := Lib.hid h
  have HR := Lib.hid hr
  have HT := Lib.hid ht
  have HTB := Lib.hid htb
  have HD := Lib.hid hd
  have hEz : ¬ (E : Int) ≤ 0 := by omega
  obtain ⟨n, hn⟩ : ∃ n, data.length = n := ⟨_, rfl⟩
  rw [hn] at hd0 hN htb HTB ⊢
  have HN := Lib.hid hn
  have hnz : ¬ (n : Int) ≤ 0 := by omega
  have hBG := Lib.hid (buildGen_calls h hr ht hlo E hE0 hE)
  clear h hr ht hd hn htb
  go_enter Tryz.func154, Tryz.ntmps154
  go_wp2_with fail
  refine hBG.out.mono ?_
  rintro e w1 ⟨tg, rfl, hPG, hF1, hpc⟩
  have hp1 : tb ≠ p := by have := HR.out.lop; omega
  obtain ⟨cur, hgb, _⟩ := own_blk HR.out.own
  have hg1 : tb ≠ g0 := fun e => hgb.row_ne HTB.out (by decide) e.symm
  have htb1 := rowFr HTB.out hF1 (fun e => by
    rcases e with e | e
    · exact hp1 e
    · exact hg1 e)
  have HG1 := Lib.hid (gf_two HG.out HR.out hF1)
  have HPG := Lib.hid hPG
  have hsz1 := hF1.size
  have HF1 := Lib.hid hF1
  clear HG HT hPG hF1 hp1 hgb hg1 HTB hBG HR
  obtain ⟨G, hG⟩ : ∃ G, w1.heap.size = G := ⟨_, rfl⟩
  have hmk := mkInts n (by omega) w1
  rw [hG] at hmk
  have hr := World.rowIs_made w1 (.int .i64 0) n 3
  rw [hG] at hr
  have hal : Fr Nil w1 (w1.alloc (.cells (madeCells #[.int .i64 0] n) 3)) := (Fr.refl _ _).alloc _
  obtain ⟨w2, hcp, hw2, hf2, hs2⟩ := copy_ex (P := Tryz.prog) (ty := 3) (dT := 138) (sT := 138) (o := 0) (dLen := n) (dCap := n) (G := fun j => i64 (data.getD j 0)) (⟨tb, 0, none⟩ : Addr) (n + E) (n + E) n Tryz.und138 Tryz.siz3 hr
    (by exact (Nat.min_eq_right (by omega)).symm) (by omega) (fun j hj => by rw [addr_add_row, Nat.zero_add]; exact (rowFr htb1 hal (fun e => e)).cell (by omega)) (fun j _ => rfl)
  have hfw : Fr Nil w1 w2 := hal.trans' hf2 (fun i hi e => by have : i = G := e; omega)
  have hco : CoAt w2 lo G 0 n data := ⟨⟨n, _, hw2, fun i hi => by rw [if_pos (by rw [HN.out] at hi; omega)]; simp, by rw [HN.out]; omega⟩, by rw [HN.out]; exact Nat.le_refl _, by omega⟩
  have hpc2 := hfw.cell_some hpc (fun e => e)
  have hsz2 := hfw.size
  have hNP := newPoly_calls (f := f) hco (by rw [HN.out]; omega) (by rw [HN.out]; omega) HD.out (by omega)
  rw [HN.out] at hNP
  have HNP := Lib.hid hNP
  have HFW := Lib.hid hfw
  have HTB1 := Lib.hid (rowFr htb1 hfw (fun e => e))
  clear hNP hfw hco hw2 hf2 hs2 hal hr htb1
  go_wp2_with fail
  refine HNP.out.mono ?_
  rintro e w3 ⟨ti, rfl, hPI, hf3⟩
  have HPI := Lib.hid hPI
  clear hPI hcp hmk hpc hpc2 HNP
  go_wp2_with fail
  refine (mulMono_calls (HG1.out.nil (HFW.out.trans hf3)) HPI.out (by have := hf3.size; omega) E 1 (by have := norm_length data; rw [HN.out] at this; omega) (by omega) (by omega)).mono ?_
  rintro e w4 ⟨tm, rfl, hPM, hf4⟩
  have HPM : Hid (PolyAt w4 lo tm f (norm (norm data ++ List.replicate E 0))) := Lib.hid (by rwa [map_gmul_one (norm_elems HD.out)] at hPM)
  have hf34 := (HFW.out.trans hf3).trans hf4
  have hsz4 := hf34.size
  clear hPM
  go_wp2_with fail
  refine (divide_calls (HG1.out.nil hf34) HPM.out (HPG.out.nil hf34) (by omega) (norm_head _ (by have := norm_ne data (by intro e; rw [e] at HN; have := HN.out; simp at this; omega); intro e; exact this (List.append_eq_nil_iff.1 e).1)) (genP_head E) (by rw [genP_length]; omega)).mono ?_
  rintro e w5 ⟨ta, tr, rs, rfl, hPR, hf5, hrl, hev⟩
  rw [genP_length] at hrl
  have hPRl := hPR.small
  have hRSE := Lib.hid hPR.el
  have hPRp := hPR.pos
  have HPR := Lib.hid hPR
  have HEV : Hid (∀ i, i < E → ev rs (gexp i) = ev (data ++ List.replicate E 0) (gexp i)) := Lib.hid (fun i hi => by
    rw [hev _ (gexp_lt' i) (genP_root E i hi), ev_norm]
    obtain ⟨k, _, hk, _⟩ := norm_drop data
    conv => rhs; rw [hk, List.append_assoc, ev_zeros_left])
  have hC := coefs_calls hPR
  have HC := Lib.hid hC
  have hf45 := hf34.trans hf5
  have HTB5 := Lib.hid (rowFr HTB1.out (hf3.trans (hf4.trans hf5)) (fun e => e))
  clear hPR hev hC hf34 hf3 hf4 hf5 HPM HPI HPG HTB1
  go_wp2_with fail
  refine HC.out.mono ?_
  rintro e w6 ⟨⟨cb, co, cc, rfl, hCo⟩, rfl⟩
  have HCo := Lib.hid hCo
  have hcc := hCo.cap
  obtain ⟨k, hk⟩ : ∃ k, rs.length = k := ⟨_, rfl⟩
  have HK := Lib.hid hk
  rw [hk] at hrl hPRl hPRp hcc ⊢
  obtain ⟨z, hz⟩ : ∃ z, E = z + k := ⟨E - k, by omega⟩
  have HZ := Lib.hid hz
  have hzz : (E : Int) - (k : Int) = (z : Int) := by omega
  have hzl : z ≤ 200 := by omega
  have hkz : z + k = E := hz.symm
  have HKZ := Lib.hid hkz
  clear hCo hk hz HC HPR hkz
  go_wp2_with fail
  go_loopg [17] z (fun r s17 wr => ∃ i : Nat, i + r = z ∧ s17 = .int .i64 i ∧ wr.rowIs tb 3 (n + E) (fun i => i64 (data.getD i 0)) ∧ Fr (One tb) w5 wr)
  case atStart => exact ⟨0, by omega, rfl, HTB5.out, Fr.refl _ _⟩
  case round =>
    obtain ⟨i, hi, rfl, hrow, hF⟩ := hrel
    clear HTB5
    cases gk with
    | succ r =>
      have hiz : (i : Int) < (z : Int) := by omega
      have hin : (n : Int) + (i : Int) < (n : Int) + (E : Int) := by have := HKZ.out; omega
      have hinn : n + i < n + E := by have := HKZ.out; omega
      have hc := hrow.cell (i := n + i) hinn
      have hfz := hrow.frozen (n + i)
      have h0 : data.getD (n + i) 0 = 0 := by rw [List.getD_eq_getElem?_getD, List.getElem?_eq_none (by rw [HN.out]; omega)]; rfl
      rw [h0] at hc
      have HS := Lib.hid (show _ ∧ _ from ⟨(hrow.set (n + i) (i64 0)).congr (g := fun i => i64 (data.getD i 0)) (fun j hj => by
        by_cases hji : j = n + i
        · rw [if_pos hji, hji, h0]
        · rw [if_neg hji]), hF.set1 (n + i) (i64 0)⟩)
      have HI := Lib.hid hi
      clear hrow hF h0 hi
      go_wp2_with fail
      go_roundg r
      case measure => omega
      case rel => exact ⟨i + 1, by have := HI.out; omega, by go_num, HS.out.1, HS.out.2⟩
    | zero =>
      have hiz : i = z := by omega
      subst hiz
      have hiz : ¬ (i : Int) < (i : Int) := by omega
      have hcbt : cb ≠ tb := by have := HCo.out.lob; omega
      obtain ⟨w7, hcp, hw7, hf7, hs7⟩ := copy_ex (P := Tryz.prog) (ty := 3) (dT := 138) (sT := 138) (o := n + i) (dLen := n + E - (n + i)) (dCap := n + E - (n + i)) (G := fun j => i64 (rs.getD j 0)) (⟨cb, co, none⟩ : Addr) k cc k Tryz.und138 Tryz.siz3 hrow
        (by exact (Nat.min_eq_left (by have := HKZ.out; omega)).symm) (by have := HKZ.out; omega) (fun j hj => by rw [addr_add_row]; exact (HCo.out.fr hF hcbt).cell (by rw [HK.out]; exact hj)) (fun j _ => rfl)
      have hfin : Hid (∃ ecc : List Nat, ecc.length = E ∧ Elems ecc ∧ (∀ i, i < E → ev (data ++ ecc) (gexp i) = 0) ∧
          w7.rowIs tb 3 (n + E) (fun i => i64 ((data ++ ecc).getD i 0)) ∧ Fr (Three tb p g0) w w7) := Lib.hid (by
        have hrse : Elems rs := hRSE.out
        have hiE : E - rs.length = i := by rw [HK.out]; have := HKZ.out; omega
        refine ⟨List.replicate i 0 ++ rs, by simp [HK.out, HKZ.out], append_elems (zeros_elems _) hrse, fun j hj => ?_, hw7.congr (fun j hj => ?_), ?_⟩
        · have := ev_code (y := gexp j) HD.out hrse (by rw [HK.out]; have := HKZ.out; omega) (gexp_lt' j) (HEV.out j hj)
          rwa [hiE] at this
        · have hE := HKZ.out
          simp only [List.getD_eq_getElem?_getD]
          by_cases h1 : j < n
          · rw [if_neg (by omega), List.getElem?_append_left (by rw [HN.out]; exact h1)]
          · by_cases h2 : j < n + i
            · rw [if_neg (by omega), List.getElem?_append_right (by rw [HN.out]; omega), List.getElem?_append_left (by rw [HN.out]; simp; omega), List.getElem?_eq_none (l := data) (by rw [HN.out]; omega), HN.out, List.getElem?_replicate_of_lt (by omega)]; rfl
            · rw [if_pos (by omega), List.getElem?_append_right (by rw [HN.out]; omega), List.getElem?_append_right (by rw [HN.out]; simp; omega), HN.out, List.length_replicate, Nat.sub_sub]
        · refine ((((HF1.out.mono (fun i _ e => ?_)).trans' hf45 (fun i _ e => e.elim)).trans' hF (fun i _ e => .inl e)).trans' hf7 (fun i _ e => .inl e))
          rcases e with e | e
          · exact .inr (.inl e)
          · exact .inr (.inr e))
      clear hw7 hf7 hs7 hrow hF
      go_wp2_with fail
      go_ret
      exact ⟨rfl, hfin.out⟩
end Go.Proofs.YtcekbhhpcmhicaaGreatDoor
/- generateECBytes: the check bytes of one block. -/
namespace Go.Proofs.YtcekbhhpcmhicaaGreatDoor
open Go Go.RowKit Go.Deep
set_option maxRecDepth 100000
theorem Tryz.und30 : Tryz.prog.underlying 30 = some (.slice 5) := by kernel_rfl
theorem Tryz.inf5 : (Tryz.prog.info? 5).map (fun i => (i.zero, i.size, i.bytes)) = some (some (.int .u8 0), 1, 1) := by kernel_rfl
theorem mkBytes (n : Nat) (h : n ≤ 1000000) (w : World) : (Instr.makeSlice 30 (.int .i64 (n : Int)) (.int .i64 (n : Int))).run Tryz.prog w = .ok (.slice (some ⟨w.heap.size, 0, none⟩) n n) (w.alloc (.cells (madeCells #[.int .u8 0] n) 5)) :=
  run_make_row' (P := Tryz.prog) 30 5 (.int .u8 0) 1 Tryz.und30 Tryz.inf5 rfl .i64 .i64 n (by omega) (by omega) w
abbrev u8 (n : Nat) : Value := .int .u8 (n : Int)
theorem and255 (x : Nat) (h : x < 256) : bits .and .i64 (x : Int) 255 = (x : Int) := by
  have := i64_and_nat x 255 (by omega) (by omega)
  have e : x &&& 255 = x % 256 := Nat.and_two_pow_sub_one_eq_mod x 8
  rw [e, Nat.mod_eq_of_lt h] at this
  exact this
set_option maxHeartbeats 3200000 in
theorem ecBytes_calls {w : World} {db cap : Nat} {data : List Nat} {E : Nat} (hd : Elems data) (hd0 : 0 < data.length) (hE0 : 1 ≤ E) (hE : E ≤ 200) (hN : data.length + E ≤ 1000) (hcap : data.length ≤ cap)
    (hdb : ∀ i, i < data.length → w.cell? ⟨db, i, none⟩ = some (u8 (data.getD i 0))) (hlt : db < w.heap.size) :
    Calls Tryz.prog 117 #[.slice (some ⟨db, 0, none⟩) data.length cap, .int .i64 E] w fun e w' => ∃ (eb : Nat) (ecc : List Nat), e = .returned (.tuple #[.slice (some ⟨eb, 0, none⟩) E E, .nilIface]) ∧ ecc.length = E ∧ Elems ecc ∧ (∀ i, i < E → ev (data ++ ecc) (gexp i) = 0) ∧
      w'.rowIs eb 5 E (fun i => u8 (ecc.getD i 0)) ∧ w.heap.size ≤ eb ∧ Fr Nil w w' := by
  have HD := Lib.hid hd
  have HDB := Lib.hid hdb
  obtain ⟨n, hn⟩ : ∃ n, data.length = n := ⟨_, rfl⟩
  have HN := Lib.hid hn
  rw [hn] at hd0 hN hcap HDB ⊢
  have hmk := mkInts (n + E) (by omega) w
  have hr := World.rowIs_made w (.int .i64 0) (n + E) 3
  obtain ⟨tb, htb⟩ : ∃ tb, w.heap.size = tb := ⟨_, rfl⟩
  rw [htb, show ((n + E : Nat) : Int) = (n : Int) + (E : Int) from by omega] at hmk
  rw [htb] at hr
  have HR := Lib.hid hr
  rw [htb] at hlt
  clear hd hdb hn hr
  go_enter Tryz.func117, Tryz.ntmps117
  go_wp2_with fail
  clear hmk
  go_loopg [8] n (fun r s8 wr => ∃ i : Nat, i + r = n ∧ s8 = .int .i64 i ∧ wr.rowIs tb 3 (n + E) (fun j => i64 (if j < i then data.getD j 0 else 0)) ∧ Fr Nil w wr)
  case atStart => exact ⟨0, by omega, rfl, HR.out.congr (fun j _ => by rw [if_neg (by omega)]; rfl), (Fr.refl _ _).alloc _⟩
  case round =>
    obtain ⟨i, hi, rfl, hrow, hF⟩ := hrel
    clear HR
    cases gk with
    | succ r =>
      have hz : (i : Int) < (n : Int) := by omega
      have hx := getD_lt HD.out i
      have hc := hF.cell_some (HDB.out i (by omega)) (fun e => e)
      have hcc := hrow.cell (i := i) (by omega)
      have hfz := hrow.frozen i
      rw [if_neg (by omega)] at hcc
      have hand := and255 (data.getD i 0) hx
      have HS := Lib.hid (show _ ∧ _ from ⟨(hrow.set i (i64 (data.getD i 0))).congr (g := fun j => i64 (if j < i + 1 then data.getD j 0 else 0)) (fun j hj => by
        by_cases hji : j = i
        · rw [if_pos hji, if_pos (by omega), hji]
        · rw [if_neg hji]
          by_cases h : j < i
          · rw [if_pos h, if_pos (by omega)]
          · rw [if_neg h, if_neg (by omega)]), hF.setNew (by rw [htb]; exact Nat.le_refl _) i (i64 (data.getD i 0))⟩)
      have HI := Lib.hid hi
      clear hrow hF hi
      generalize data.getD i 0 = x at *
      go_wp2_with fail
      go_roundg r
      case measure => omega
      case rel => exact ⟨i + 1, by have := HI.out; omega, by go_num, HS.out.1, HS.out.2⟩
    | zero =>
      have hin : i = n := by omega
      subst hin
      have hz : ¬ (i : Int) < (i : Int) := by omega
      have htbr := Lib.hid (hrow.congr (g := fun j => i64 (data.getD j 0)) (fun j hj => by
        by_cases h : j < i
        · rw [if_pos h]
        · rw [if_neg h, List.getD_eq_getElem?_getD, List.getElem?_eq_none (by rw [HN.out]; omega)]; rfl))
      have htbl := hrow.lt
      have HF := Lib.hid hF
      clear hrow hF
      go_wp2_with fail
      refine (qrField_calls wr).mono ?_
      rintro e w1 ⟨rfl, hG1, hf1⟩
      have HG1 := Lib.hid hG1
      have hs1 := hf1.size
      clear hG1
      go_wp2_with fail
      refine (newRS_calls HG1.out hs1).mono ?_
      rintro e w2 ⟨p, g0, t0, rfl, hRS, hPT, hf2⟩
      have HG2 := Lib.hid (HG1.out.nil hf2)
      have HRS := Lib.hid hRS
      have HPT := Lib.hid hPT
      have hf12 := hf1.trans hf2
      have hs2 := hf12.size
      have hpl := hRS.lop
      have HT2 := Lib.hid (rowFr htbr.out hf12 (fun e => e))
      have hbase : wr.heap.size ≤ g0 := by
        rcases hRS.own.2 with ⟨h0, _⟩ | ⟨g', cap', cur, hv', h1, _⟩
        · cases h0
        · cases hv'; exact h1
      clear hRS hPT htbr HG1
      go_wp2_with fail
      have hEnc := encode_calls HG2.out HRS.out HPT.out hs2 HD.out (by rw [HN.out]; exact hd0) hE0 hE (by rw [HN.out]; exact hN) (by rw [HN.out]; exact HT2.out) htbl
      rw [HN.out] at hEnc
      refine hEnc.mono ?_
      rintro e w3 ⟨rfl, ecc, hel, hee, hroot, hrow3, hf3⟩
      have HE := Lib.hid (show _ ∧ _ ∧ _ from ⟨hel, hee, hroot⟩)
      have hs23 := hf3.size
      have hfw : Fr Nil w w3 := ((HF.out.trans hf12).trans' hf3 (fun j hj e => by
        have hsz := HF.out.size
        rcases e with e | e | e <;> omega))
      clear hel hee hroot hEnc hf3 HRS HPT HG2 HT2
      have hsz3 := hfw.size
      have hmk3 := mkBytes E (by omega) w3
      have hr3 := World.rowIs_made w3 (.int .u8 0) E 5
      have hal3 : Fr Nil w3 (w3.alloc (.cells (madeCells #[.int .u8 0] E) 5)) := (Fr.refl _ _).alloc _
      obtain ⟨eb, heb⟩ : ∃ eb, w3.heap.size = eb := ⟨_, rfl⟩
      rw [heb] at hmk3 hr3
      have HR3 := Lib.hid (show _ ∧ _ ∧ _ from ⟨hr3, rowFr hrow3 hal3 (fun e => e), hfw.trans hal3⟩)
      clear hr3 hal3 hrow3
      go_wp2_with fail
      have hebt : w.heap.size ≤ eb := by omega
      have htbe : tb ≠ eb := by have := hf12.size; intro e; omega
      go_loopg [11] E (fun r s11 wq => ∃ k : Nat, k + r = E ∧ s11 = .int .i64 k ∧ wq.rowIs eb 5 E (fun j => u8 (if j < k then ecc.getD j 0 else 0)) ∧ wq.rowIs tb 3 (i + E) (fun j => i64 ((data ++ ecc).getD j 0)) ∧ Fr Nil w wq)
      case atStart => exact ⟨0, by omega, rfl, HR3.out.1.congr (fun j _ => by rw [if_neg (by omega)]; rfl), HR3.out.2.1, HR3.out.2.2⟩
      case round =>
        obtain ⟨k, hk, rfl, hrow, hrow2, hF⟩ := hrel
        clear HR3 hmk3 HF hfw
        cases gk with
        | zero =>
          have hkE : k = E := by omega
          subst hkE
          have hzz : ¬ (k : Int) < (k : Int) := by omega
          have HFIN := Lib.hid (show _ ∧ _ from ⟨hrow.congr (g := fun j => u8 (ecc.getD j 0)) (fun j hj => by rw [if_pos hj]), hF⟩)
          clear hrow hrow2 hF
          go_wp2_with fail
          go_ret2
          exact ⟨eb, rfl, ecc, HE.out.1, HE.out.2.1, HE.out.2.2, HFIN.out.1, by omega, HFIN.out.2⟩
        | succ r =>
          have hkz : (k : Int) < (E : Int) := by omega
          have hx := getD_lt HE.out.2.1 k
          have hc := hrow2.cell (i := i + k) (by omega)
          have hgd : (data ++ ecc).getD (i + k) 0 = ecc.getD k 0 := by
            rw [List.getD_eq_getElem?_getD, List.getD_eq_getElem?_getD, List.getElem?_append_right (by rw [HN.out]; omega), HN.out, Nat.add_sub_cancel_left]
          rw [hgd] at hc
          have hcc := hrow.cell (i := k) (by omega)
          have hfz := hrow.frozen k
          rw [if_neg (by omega)] at hcc
          have hikz : (i : Int) + (k : Int) < (i : Int) + (E : Int) := by omega
          have hwk : IntKind.u8.wrap ((ecc.getD k 0 : Nat) : Int) = ((ecc.getD k 0 : Nat) : Int) := by rw [IntKind.wrap_u8]; omega
          have HS := Lib.hid (show _ ∧ _ ∧ _ from ⟨(hrow.set k (u8 (ecc.getD k 0))).congr (g := fun j => u8 (if j < k + 1 then ecc.getD j 0 else 0)) (fun j hj => by
            by_cases hji : j = k
            · rw [if_pos hji, if_pos (by omega), hji]
            · rw [if_neg hji]
              by_cases h : j < k
              · rw [if_pos h, if_pos (by omega)]
              · rw [if_neg h, if_neg (by omega)]), hrow2.setOther (a := ⟨eb, k, none⟩) htbe (u8 (ecc.getD k 0)), hF.setNew hebt k (u8 (ecc.getD k 0))⟩)
          have HK := Lib.hid hk
          clear hrow hrow2 hF hk hgd
          generalize ecc.getD k 0 = x at *
          go_wp2_with fail
          go_roundg r
          case measure => omega
          case rel => exact ⟨k + 1, by have := HK.out; omega, by go_num, HS.out.1, HS.out.2.1, HS.out.2.2⟩
end Go.Proofs.YtcekbhhpcmhicaaGreatDoor
/- The blocks: how many data bytes and check bytes each has; the pair of a block. -/
namespace Go.Proofs.YtcekbhhpcmhicaaGreatDoor
open Go Go.RowKit Go.Deep
set_option maxRecDepth 100000
/-- the data bytes of block i -/
def bsz (T D nb i : Nat) : Nat := if i < nb - T % nb then D / nb else D / nb + 1
/-- its check bytes -/
def bec (T D nb : Nat) : Nat := T / nb - D / nb
set_option maxHeartbeats 1600000 in
theorem blockId_calls (w : World) (T D nb i : Nat) (hi : i < nb) (hnb : nb ≤ 200) (hT : T ≤ 10000) (hD : D ≤ T) :
    Calls Tryz.prog 115 #[.int .i64 T, .int .i64 D, .int .i64 nb, .int .i64 i] w fun e w' => e = .returned (.tuple #[.int .i64 (bsz T D nb i), .int .i64 (bec T D nb), .nilIface]) ∧ w = w' := by
  have hiz : ¬ (nb : Int) ≤ (i : Int) := by omega
  obtain ⟨t, ht⟩ : ∃ t, T / nb = t := ⟨_, rfl⟩
  obtain ⟨r, hr⟩ : ∃ r, T % nb = r := ⟨_, rfl⟩
  obtain ⟨d, hd⟩ : ∃ d, D / nb = d := ⟨_, rfl⟩
  have hTt : nb * t + r = T := by rw [← ht, ← hr]; exact Nat.div_add_mod T nb
  have hrn : r < nb := by rw [← hr]; exact Nat.mod_lt _ (by omega)
  have hdt : d ≤ t := by rw [← ht, ← hd]; exact Nat.div_le_div_right hD
  have htT : t ≤ T := by rw [← ht]; exact Nat.div_le_self _ _
  obtain ⟨c, hc⟩ : ∃ c, d + c = t := ⟨t - d, by omega⟩
  obtain ⟨g, hg⟩ : ∃ g, g + r = nb := ⟨nb - r, by omega⟩
  have e1 : Int.tdiv (T : Int) (nb : Int) = (t : Int) := by rw [← Int.ofNat_tdiv, ht]
  have e2 : Int.tmod (T : Int) (nb : Int) = (r : Int) := by rw [← Int.ofNat_tmod, hr]
  have e3 : Int.tdiv (D : Int) (nb : Int) = (d : Int) := by rw [← Int.ofNat_tdiv, hd]
  have hb : Hid (bsz T D nb i = (if i < g then d else d + 1) ∧ bec T D nb = c) := Lib.hid (by
    unfold bsz bec
    rw [ht, hr, hd, show nb - r = g from by omega]
    exact ⟨rfl, by omega⟩)
  have hmul : t * g + (t + 1) * r = T := by
    rw [← hTt, ← hg, Nat.add_mul, Nat.add_mul, Nat.one_mul, Nat.mul_comm g t, Nat.mul_comm r t]; omega
  obtain ⟨P, hP⟩ : ∃ P, P = t * g := ⟨_, rfl⟩
  obtain ⟨Q, hQ⟩ : ∃ Q, Q = (t + 1) * r := ⟨_, rfl⟩
  have hPQ : P + Q = T := by rw [hP, hQ]; exact hmul
  have f1 : (nb : Int) - (r : Int) = (g : Int) := by omega
  have f2 : (t : Int) - (d : Int) = (c : Int) := by omega
  have f3 : (t : Int) + 1 - ((d : Int) + 1) = (c : Int) := by omega
  have m1 : ((d : Int) + (c : Int)) * (g : Int) = (P : Int) := by rw [show (d : Int) + (c : Int) = (t : Int) from by omega, hP, Int.natCast_mul]
  have m2 : ((d : Int) + 1 + (c : Int)) * (r : Int) = (Q : Int) := by rw [show (d : Int) + 1 + (c : Int) = ((t + 1 : Nat) : Int) from by omega, hQ, Int.natCast_mul]
  have n1 : ((c : Int) != (c : Int)) = false := by simp
  have n2 : ((nb : Int) != (g : Int) + (r : Int)) = false := by simp; omega
  have n3 : ((T : Int) != (P : Int) + (Q : Int)) = false := by simp; omega
  have hgb : g ≤ 200 := by omega
  have hcb : c ≤ 10000 := by omega
  have hdb : d ≤ 10000 := by omega
  have htb : t ≤ 10000 := by omega
  have hPb : P ≤ 10000 := by omega
  have hQb : Q ≤ 10000 := by omega
  have hnb0 : ((nb : Int) == 0) = false := beq_eq_false_iff_ne.2 (by omega)
  clear hP hQ hmul ht hr hd hTt hc hg hPQ hdt htT hrn
  by_cases hig : i < g
  · have higz : (i : Int) < (g : Int) := by omega
    rw [if_pos hig] at hb
    go_enter Tryz.func115, Tryz.ntmps115
    go_wp2_with fail
    go_ret3
    exact ⟨by rw [hb.out.1, hb.out.2]; rfl, rfl⟩
  · have higz : ¬ (i : Int) < (g : Int) := by omega
    rw [if_neg hig] at hb
    go_enter Tryz.func115, Tryz.ntmps115
    go_wp2_with fail
    go_ret3
    exact ⟨by rw [hb.out.1, hb.out.2]; simp, rfl⟩
end Go.Proofs.YtcekbhhpcmhicaaGreatDoor
