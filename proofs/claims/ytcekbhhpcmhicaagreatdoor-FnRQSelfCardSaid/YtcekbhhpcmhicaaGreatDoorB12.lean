/- The bits of level and mask, and of the version. -/
import Derived.Test.YtcekbhhpcmhicaaGreatDoorB10
import Derived.Test.YtcekbhhpcmhicaaGreatDoorB06
import Derived.Test.YtcekbhhpcmhicaaGreatDoorB11
set_option linter.unusedSimpArgs false
set_option linter.unusedVariables false
namespace Go.Proofs.YtcekbhhpcmhicaaGreatDoor
open Go Go.RowKit Go.Deep
set_option maxRecDepth 100000
theorem i64_or_nat (a b : Nat) (ha : a < 9223372036854775808) (hb : b < 9223372036854775808) : bits .or .i64 (a : Int) (b : Int) = ((a ||| b : Nat) : Int) := by
  have e : ∀ a : Nat, a < 9223372036854775808 → (BitVec.ofInt 64 (a : Int)).toNat = a := fun a ha => by rw [BitVec.ofInt_natCast, BitVec.toNat_ofNat]; exact Nat.mod_eq_of_lt (by omega)
  have hx : a ||| b < 2 ^ 63 := Nat.or_lt_two_pow (by omega) (by omega)
  show IntKind.i64.wrap ((BitVec.ofInt 64 (a : Int) ||| BitVec.ofInt 64 (b : Int)).toNat : Int) = _
  rw [BitVec.toNat_or, e a ha, e b hb, IntKind.wrap_i64]
  omega
/-- the check bits -/
def bchTv (s : Nat) : Nat := (bchF 1335 11 20 (s * 1024)).getD 0
def bchVv (s : Nat) : Nat := (bchF 7973 13 20 (s * 4096)).getD 0
theorem bchTv_ok (s : Nat) (h : s < 32) : bchF 1335 11 20 (s * 1024) = some (bchTv s) ∧ bchTv s < 1024 := by
  have := all_lt (p := fun s => decide (bchF 1335 11 20 (s * 1024) = some (bchTv s) ∧ bchTv s < 1024)) (n := 32) (by decide +kernel) h
  simpa using this
theorem bchVv_ok (s : Nat) (h : s < 64) : bchF 7973 13 20 (s * 4096) = some (bchVv s) ∧ bchVv s < 4096 := by
  have := all_lt (p := fun s => decide (bchF 7973 13 20 (s * 4096) = some (bchVv s) ∧ bchVv s < 4096)) (n := 64) (by decide +kernel) h
  simpa using this
theorem or_lk (l k : Nat) (hl : l < 4) (hk : k < 8) : l * 8 ||| k = l * 8 + k := by
  have h : ∀ l : Fin 4, ∀ k : Fin 8, l.val * 8 ||| k.val = l.val * 8 + k.val := by decide
  exact h ⟨l, hl⟩ ⟨k, hk⟩
/-- the fifteen bits of level l and mask k -/
def tiBits (l k : Nat) : List Bool := List.zipWith (fun a b => a ^^ b) (msb (l * 8 + k) 5 ++ msb (bchTv (l * 8 + k)) 10) (msb 21522 15)
theorem tiBits_length (l k : Nat) : (tiBits l k).length = 15 := by simp [tiBits, msb_length]
/-- the eighteen bits of version v -/
def viBits (v : Nat) : List Bool := msb v 6 ++ msb (bchVv v) 12
theorem viBits_length (v : Nat) : (viBits v).length = 18 := by simp [viBits, msb_length]
theorem validMask_calls (k : Nat) (hk : k < 8) (w : World) : Calls Tryz.prog 69 #[.int .i64 k] w fun e w' => e = .returned (.bool true) ∧ w = w' := by
  have h1 : (0 : Int) ≤ (k : Int) := by omega
  have h2 : (k : Int) < 8 := by omega
  go_enter Tryz.func69, Tryz.ntmps69
  go_wp2
  go_ret
  exact ⟨by simp, rfl⟩
set_option maxHeartbeats 1600000 in
theorem typeBits_calls {w : World} {p g : Nat} (h : BA w p g 1 []) (l k : Nat) (hl : l < 4) (hk : k < 8) :
    Calls Tryz.prog 164 #[i64 l, .int .i64 k, .pointer (some ⟨p, 0, none⟩)] w fun e w' => e = .returned .nilIface ∧ BA w' p g 1 (tiBits l k) ∧ Fr (Two p g) w w' := by
  have H := Lib.hid h
  have HV := Lib.hid (validMask_calls k hk w)
  have HL := Lib.hid (levelBits_calls l w)
  have hor := i64_or_nat (l * 8) k (by omega) (by omega)
  rw [or_lk l k hl hk] at hor
  obtain ⟨s, hs⟩ : ∃ s, l * 8 + k = s := ⟨_, rfl⟩
  rw [hs] at hor
  have hs32 : s < 32 := by omega
  have hb := bchTv_ok s hs32
  have HB := Lib.hid (fun w' => bchT_calls w' s (by omega) _ hb.1)
  have hb2 := hb.2
  have HS := Lib.hid hs
  have hor2 : bits .or .i64 ((l : Int) * 8) (k : Int) = (s : Int) := by rw [← hor]; push_cast; rfl
  have hp := h.ne
  have hpl := h.st.lt
  have hgl := h.ws.lt
  clear h hb hor hs
  generalize hbt : bchTv s = bt at *
  have HBT := Lib.hid hbt
  clear hbt
  go_enter Tryz.func164, Tryz.ntmps164
  go_wp2_with fail
  refine HV.out.mono ?_
  rintro e w1 ⟨rfl, rfl⟩
  go_wp2_with fail
  refine HL.out.mono ?_
  rintro e w1 ⟨rfl, rfl⟩
  go_wp2_with fail
  refine (appendBits_room H.out s 5 (by simp) (by omega) (by omega)).mono ?_
  rintro e w1 ⟨rfl, hb1, hf1⟩
  have HB1 := Lib.hid hb1
  clear hb1
  go_wp2_with fail
  refine (HB.out _).mono ?_
  rintro e w2 ⟨rfl, rfl⟩
  go_wp2_with fail
  refine (appendBits_room HB1.out bt 10 (by simp [msb_length]) (by omega) (by omega)).mono ?_
  rintro e w2 ⟨rfl, hb2', hf2⟩
  have HB2 := Lib.hid hb2'
  have HF2 := Lib.hid (hf1.trans hf2)
  have hsz := (hf1.trans hf2).size
  clear hb2' hf1 hf2 HB1
  go_wp2_with fail
  refine (newEmpty_calls w2).mono ?_
  rintro e w3 ⟨rfl, hb3, hf3, hsz3⟩
  obtain ⟨q, hq⟩ : ∃ q, w2.heap.size + 1 = q := ⟨_, rfl⟩
  obtain ⟨gq, hgq⟩ : ∃ gq, w2.heap.size = gq := ⟨_, rfl⟩
  rw [hq, hgq] at hb3
  rw [hq]
  have HB3 := Lib.hid hb3
  have HB2' := Lib.hid (HB2.out.fr hf3 (fun e => e) (fun e => e))
  have HF3 := Lib.hid (HF2.out.trans' hf3 (fun _ _ e => e.elim))
  clear hb3 hf3 HB2 HF2
  go_wp2_with fail
  refine (appendBits_room HB3.out 21522 15 (by simp) (by omega) (by omega)).mono ?_
  rintro e w4 ⟨rfl, hb4, hf4⟩
  have HB4 := Lib.hid hb4
  have hn : ∀ x, x < w2.heap.size → ¬ Two q gq x := fun x hx e => by rcases e with e | e <;> omega
  have HB2'' := Lib.hid (HB2'.out.fr hf4 (hn p (by omega)) (hn g (by omega)))
  have HF4 := Lib.hid (HF3.out.trans' hf4 (fun i hi e => by exact absurd e (hn i (by omega))))
  clear hb4 hf4 HB3 HB2' HF3
  go_wp2_with fail
  refine (xor_calls HB2''.out HB4.out (by simp [msb_length]) (Nat.le_refl _) (by omega) (by omega)).mono ?_
  rintro e w5 ⟨rfl, hb5, hf5⟩
  have HB5 : Hid (BA w5 p g 1 (tiBits l k)) := Lib.hid (by
    unfold tiBits
    rw [HS.out, HBT.out]
    simpa using hb5)
  have HF5 := Lib.hid (HF4.out.trans' hf5 (fun i hi e => .inr e))
  clear hb5 hf5 HB4 HB2'' HF4
  have HZ := size_calls HB5.out
  rw [tiBits_length] at HZ
  have HZ' : Hid (Calls Tryz.prog 109 #[.pointer (some ⟨p, 0, none⟩)] w5 fun e w' => e = .returned (.int .i64 15) ∧ w5 = w') := Lib.hid HZ
  clear HZ
  go_wp2_with fail
  refine HZ'.out.mono ?_
  rintro e w6 ⟨rfl, rfl⟩
  go_wp2_with fail
  go_ret
  exact ⟨rfl, HB5.out, HF5.out⟩
set_option maxHeartbeats 1600000 in
theorem verBits_calls {w : World} {lo hi q v p g : Nat} (hv : VerAt w lo hi q v) (h : BA w p g 1 []) (hp : hi ≤ p) (hg : hi ≤ g) :
    Calls Tryz.prog 167 #[.pointer (some ⟨q, 0, none⟩), .pointer (some ⟨p, 0, none⟩)] w fun e w' => e = .returned .nilIface ∧ BA w' p g 1 (viBits v) ∧ Fr (Two p g) w w' := by
  have H := Lib.hid h
  have HV := Lib.hid hv
  have hv2 := hv.v2
  have hb := bchVv_ok v (by omega)
  have HB := Lib.hid (fun w' => bchV_calls w' v (by omega) _ hb.1)
  have hb2 := hb.2
  clear h hb hv
  generalize hbt : bchVv v = bt at *
  have HBT := Lib.hid hbt
  clear hbt
  go_enter Tryz.func167, Tryz.ntmps167
  go_wp2_with fail
  refine (verNumber_calls HV.out).mono ?_
  rintro e w1 ⟨rfl, rfl⟩
  go_wp2_with fail
  refine (appendBits_room H.out v 6 (by simp) (by omega) (by omega)).mono ?_
  rintro e w1 ⟨rfl, hb1, hf1⟩
  have HB1 := Lib.hid hb1
  have HF1 := Lib.hid hf1
  have HV1 := Lib.hid (HV.out.fr hf1 (fun i _ h2 e => by rcases e with e | e <;> omega))
  clear hb1 hf1
  go_wp2_with fail
  refine (verNumber_calls HV1.out).mono ?_
  rintro e w2 ⟨rfl, rfl⟩
  go_wp2_with fail
  refine (HB.out _).mono ?_
  rintro e w2 ⟨rfl, rfl⟩
  go_wp2_with fail
  refine (appendBits_room HB1.out bt 12 (by simp [msb_length]) (by omega) (by omega)).mono ?_
  rintro e w2 ⟨rfl, hb2', hf2⟩
  have HB2 : Hid (BA w2 p g 1 (viBits v)) := Lib.hid (by unfold viBits; rw [HBT.out]; simpa using hb2')
  have HF2 := Lib.hid (HF1.out.trans hf2)
  clear hb2' hf2 HB1 HF1
  have HZ := size_calls HB2.out
  rw [viBits_length] at HZ
  have HZ' : Hid (Calls Tryz.prog 109 #[.pointer (some ⟨p, 0, none⟩)] w2 fun e w' => e = .returned (.int .i64 18) ∧ w2 = w') := Lib.hid HZ
  clear HZ
  go_wp2_with fail
  refine HZ'.out.mono ?_
  rintro e w6 ⟨rfl, rfl⟩
  go_wp2_with fail
  go_ret
  exact ⟨rfl, HB2.out, HF2.out⟩
end Go.Proofs.YtcekbhhpcmhicaaGreatDoor
/- embedTypeInfo, maybeEmbedVersionInfo. -/
namespace Go.Proofs.YtcekbhhpcmhicaaGreatDoor
open Go Go.RowKit Go.Deep
set_option maxRecDepth 100000
theorem upd_upd (M : Nat → Nat → Int) (x y : Nat) (v : Int) : upd (upd M x y v) x y v = upd M x y v := by
  funext y' x'; unfold upd
  by_cases h : y' = y ∧ x' = x
  · rw [if_pos h, if_pos h]
  · rw [if_neg h, if_neg h]
def tyX (n i : Nat) : Nat := if i < 8 then n - i - 1 else 8
def tyY (n i : Nat) : Nat := if i < 8 then 8 else n - 7 + (i - 8)
/-- the two cells of type bit i -/
def tyStep (n : Nat) (bits : List Bool) (M : Nat → Nat → Int) (i : Nat) : Nat → Nat → Int :=
  upd (upd M (at2 ticT i 0).toNat (at2 ticT i 1).toNat (b01 (bits.getD (14 - i) false))) (tyX n i) (tyY n i) (b01 (bits.getD (14 - i) false))
def tyAll (n : Nat) (bits : List Bool) (k : Nat) (M : Nat → Nat → Int) : Nat → Nat → Int := (List.range k).foldl (tyStep n bits) M
theorem tyAll_succ (n : Nat) (bits : List Bool) (k : Nat) (M : Nat → Nat → Int) : tyAll n bits (k + 1) M = tyStep n bits (tyAll n bits k M) k := by
  unfold tyAll; rw [List.range_succ, List.foldl_append]; rfl
theorem tic_ok : ∀ i, i < 15 → i < ticT.length ∧ (0 < (ticT.getD i []).length ∧ 1 < (ticT.getD i []).length) ∧ 0 ≤ at2 ticT i 0 ∧ at2 ticT i 0 ≤ 8 ∧ 0 ≤ at2 ticT i 1 ∧ at2 ticT i 1 ≤ 8 := by decide
set_option maxHeartbeats 6400000 in
theorem typeInfo_calls {w : World} {m r n : Nat} {M : Nat → Nat → Int} (h : BM w m r n M) (hn : 21 ≤ n) (l k : Nat) (hl : l < 4) (hk : k < 8) :
    Calls Tryz.prog 125 #[i64 l, .int .i64 k, .pointer (some ⟨m, 0, none⟩)] w fun e w' => e = .returned .nilIface ∧ BM w' m r n (tyAll n (tiBits l k) 15 M) ∧ Fr (Rw r n) w w' := by
  have hlim := h.lim
  have H := Lib.hid h
  have hmr : r + 1 + n ≤ w.heap.size := by
    have := (h.row (n - 1) (by omega)).lt
    omega
  have hml := h.st.lt
  clear h
  go_enter Tryz.func125, Tryz.ntmps125
  go_wp2_with fail
  refine (newEmpty_calls w).mono ?_
  rintro e w1 ⟨rfl, hb1, hf1, hs1⟩
  obtain ⟨q, hq⟩ : ∃ q, w.heap.size + 1 = q := ⟨_, rfl⟩
  obtain ⟨gq, hgq⟩ : ∃ gq, w.heap.size = gq := ⟨_, rfl⟩
  rw [hq, hgq] at hb1
  rw [hq]
  have HB1 := Lib.hid hb1
  have HF1 := Lib.hid hf1
  clear hb1 hf1
  go_wp2_with fail
  refine (typeBits_calls HB1.out l k hl hk).mono ?_
  rintro e w2 ⟨rfl, hb2, hf2⟩
  have HF2 : Hid (Fr Nil w w2) := Lib.hid (HF1.out.trans' hf2 (fun i hi e => by rcases e with e | e <;> omega))
  have hs2 := HF2.out.size
  have hs12 := hf2.size
  have hbl := Lib.hid (tiBits_length l k)
  obtain ⟨bits, hbq⟩ : ∃ bits, tiBits l k = bits := ⟨_, rfl⟩
  rw [hbq] at hb2 hbl
  have HBQ := Lib.hid hbq
  clear hbq
  have HB2 := Lib.hid hb2
  clear hb2 hf2 HB1 HF1
  have HM2 := Lib.hid (H.out.nil HF2.out)
  go_wp2_with fail
  go_loopg [9, 10, 11, 12, 13, 14, 15] 15 (fun c s9 s10 s11 s12 s13 s14 s15 wr => ∃ i : Nat, i + c = 15 ∧ s9 = .int .i64 i ∧ Hid (BM wr m r n (tyAll n bits i M)) ∧ Hid (BA wr q gq 1 bits) ∧ Fr (Rw r n) w2 wr)
  case atStart => exact ⟨0, by omega, rfl, HM2, HB2, Fr.refl _ _⟩
  case round =>
    obtain ⟨i, hi, rfl, HM, HB, hF⟩ := hrel
    clear HM2 HB2
    have HZ := size_calls HB.out
    rw [hbl.out] at HZ
    have HZ' : Hid (Calls Tryz.prog 109 #[.pointer (some ⟨q, 0, none⟩)] wr fun e w' => e = .returned (.int .i64 15) ∧ wr = w') := Lib.hid HZ
    clear HZ
    cases gk with
    | zero =>
      have hi15 : i = 15 := by omega
      subst hi15
      go_wp2_with fail
      refine HZ'.out.mono ?_
      rintro e w3 ⟨rfl, rfl⟩
      go_wp2_with fail
      go_ret
      exact ⟨rfl, by rw [HBQ.out]; exact HM.out, (HF2.out.any _).trans hF⟩
    | succ c =>
      have hiz : (i : Int) < 15 := by omega
      have hi15 : i < 15 := by omega
      have htic := tic_ok i hi15
      obtain ⟨hti1, hti2, hx0, hx8, hy0, hy8⟩ := htic
      have HT := Lib.hid (tic_calls wr)
      have hfr := tab_fr wr 3 138 (tab64 ticT) 2
      obtain ⟨row, hrow1, hrx⟩ := tab64_get ticT hti1 hti2.1
      obtain ⟨row2, hrow2, hry⟩ := tab64_get ticT hti1 hti2.2
      have htr := (tab_row wr 3 138 (tab64 ticT) 2 hrow1).1
      have hcx := tab_cell wr 3 138 (tab64 ticT) 2 hrow1 hrx
      have hcy := tab_cell wr 3 138 (tab64 ticT) 2 hrow2 hry
      have hlen : (tab64 ticT).length = 15 := rfl
      rw [hlen] at htr
      obtain ⟨x1, hx1⟩ : ∃ x1 : Nat, at2 ticT i 0 = (x1 : Int) := ⟨(at2 ticT i 0).toNat, by omega⟩
      obtain ⟨y1, hy1⟩ : ∃ y1 : Nat, at2 ticT i 1 = (y1 : Int) := ⟨(at2 ticT i 1).toNat, by omega⟩
      rw [hx1] at hcx hx8
      rw [hy1] at hcy hy8
      have hx1n : x1 < n := by omega
      have hy1n : y1 < n := by omega
      generalize hW : tabW wr 3 138 (tab64 ticT) 2 = W at *
      have HGET := get_calls HB.out (14 - i) (by omega)
      obtain ⟨b, hbb⟩ : ∃ b, bits.getD (14 - i) false = b := ⟨_, rfl⟩
      rw [hbb] at HGET
      have HGET' := Lib.hid HGET
      have hstep : Hid (tyAll n bits (i + 1) M = upd (upd (tyAll n bits i M) x1 y1 (b01 b)) (tyX n i) (tyY n i) (b01 b)) := Lib.hid (by rw [tyAll_succ]; unfold tyStep; rw [hbb, hx1, hy1]; rfl)
      have HMW := Lib.hid (HM.out.nil hfr)
      have HBW := Lib.hid (HB.out.fr hfr (fun e => e) (fun e => e))
      have hFW := Rw.nil hF hfr
      have HI := Lib.hid hi
      have hsub : (15 : Int) - 1 - (i : Int) = ((14 - i : Nat) : Int) := by omega
      have hq2 : r + 1 + n ≤ gq := by omega
      have hgq1 : gq + 1 = q := by omega
      have HQ := Lib.hid (show _ ∧ _ from ⟨hq2, hgq1⟩)
      clear hrow1 hrow2 hrx hry hti1 hti2 hx1 hy1 HGET hbb hW HM HB hF hfr hi hx0 hy0 hgq1
      generalize tyAll n bits i M = Mi at *
      go_wp2_with fail
      refine HZ'.out.mono ?_
      rintro e w3 ⟨rfl, rfl⟩
      go_wp2_with fail
      refine HZ'.out.mono ?_
      rintro e w3 ⟨rfl, rfl⟩
      go_wp2_with fail
      rw [show (14 : Int) - (i : Int) = ((14 - i : Nat) : Int) from by omega]
      refine HGET'.out.mono ?_
      rintro e w3 ⟨rfl, rfl⟩
      go_wp2_with fail
      refine HT.out.mono ?_
      rintro e w3 ⟨rfl, rfl⟩
      go_wp2_with fail
      have HS1 := Lib.hid (bmSetBool_calls HMW.out x1 y1 hx1n hy1n b)
      have hno : ¬ Rw r n q ∧ ¬ Rw r n gq := ⟨fun e => by have := e.2; omega, fun e => by have := e.2; omega⟩
      have HNO := Lib.hid hno
      clear hno hcx hcy htr HT HGET' HZ'
      refine HS1.out.mono ?_
      rintro e w4 ⟨rfl, hb4, hf4⟩
      have HB4 := Lib.hid hb4
      have HA4 := Lib.hid (HBW.out.fr hf4 HNO.out.1 HNO.out.2)
      have hF4 := hFW.trans hf4
      clear hb4 hf4 HS1 HBW hFW HMW
      by_cases h8 : i < 8
      · have h8z : (i : Int) < 8 := by omega
        have HST : Hid (tyAll n bits (i + 1) M = upd (upd Mi x1 y1 (b01 b)) (n - i - 1) 8 (b01 b)) := Lib.hid (by rw [hstep.out]; unfold tyX tyY; rw [if_pos h8, if_pos h8])
        have HW := Lib.hid (width_calls HB4.out)
        have HS2 := Lib.hid (bmSetBool_calls HB4.out (n - i - 1) 8 (by omega) (by omega) b)
        clear hstep
        go_wp2_with fail
        refine HW.out.mono ?_
        rintro e w5 ⟨rfl, rfl⟩
        go_wp2_with fail
        rw [show (n : Int) - (i : Int) - 1 = ((n - i - 1 : Nat) : Int) from by omega]
        refine HS2.out.mono ?_
        rintro e w6 ⟨rfl, hb6, hf6⟩
        have HB6 : Hid (BM w6 m r n (tyAll n bits (i + 1) M)) := Lib.hid (by rw [HST.out]; exact hb6)
        have HA6 := Lib.hid (HA4.out.fr hf6 HNO.out.1 HNO.out.2)
        have hF6 := hF4.trans hf6
        clear hb6 hf6 HB4 HA4 hF4
        go_wp2_with fail
        go_roundg c
        case measure => omega
        case rel => exact ⟨i + 1, by have := HI.out; omega, by go_num, HB6, HA6, hF6⟩
      · have h8z : ¬ (i : Int) < 8 := by omega
        have HST : Hid (tyAll n bits (i + 1) M = upd (upd (upd Mi x1 y1 (b01 b)) 8 (n - 7 + (i - 8)) (b01 b)) 8 (n - 7 + (i - 8)) (b01 b)) := Lib.hid (by rw [hstep.out, upd_upd]; unfold tyX tyY; rw [if_neg h8, if_neg h8])
        obtain ⟨y2, hy2⟩ : ∃ y2, n - 7 + (i - 8) = y2 := ⟨_, rfl⟩
        have hy2z : (n : Int) - 7 + ((i : Int) - 8) = (y2 : Int) := by omega
        have hy2n : y2 < n := by omega
        rw [hy2] at HST
        have HY2 := Lib.hid hy2z
        clear hy2 hy2z
        have HH := Lib.hid (height_calls HB4.out)
        have HS2 := Lib.hid (bmSetBool_calls HB4.out 8 y2 (by omega) hy2n b)
        clear hstep
        go_wp2_with fail
        refine HH.out.mono ?_
        rintro e w5 ⟨rfl, rfl⟩
        go_wp2_with fail
        rw [HY2.out]
        refine HS2.out.mono ?_
        rintro e w6 ⟨rfl, hb6, hf6⟩
        have HB5 := Lib.hid hb6
        have HA5 := Lib.hid (HA4.out.fr hf6 HNO.out.1 HNO.out.2)
        have hF5 := hF4.trans hf6
        have HS3 := Lib.hid (bmSetBool_calls HB5.out 8 y2 (by omega) hy2n b)
        clear hb6 hf6 HB4 HA4 hF4 HS2 HH
        go_wp2_with fail
        refine HS3.out.mono ?_
        rintro e w7 ⟨rfl, hb6, hf6⟩
        have HB6 : Hid (BM w7 m r n (tyAll n bits (i + 1) M)) := Lib.hid (by rw [HST.out]; exact hb6)
        have HA6 := Lib.hid (HA5.out.fr hf6 HNO.out.1 HNO.out.2)
        have hF6 := hF5.trans hf6
        clear hb6 hf6 HB5 HA5 hF5
        go_wp2_with fail
        go_roundg c
        case measure => omega
        case rel => exact ⟨i + 1, by have := HI.out; omega, by go_num, HB6, HA6, hF6⟩
end Go.Proofs.YtcekbhhpcmhicaaGreatDoor
/- maybeEmbedVersionInfo. -/
namespace Go.Proofs.YtcekbhhpcmhicaaGreatDoor
open Go Go.RowKit Go.Deep
set_option maxRecDepth 100000
/-- the two cells of version bit t = 3 i + j -/
def viStep (n : Nat) (bits : List Bool) (M : Nat → Nat → Int) (t : Nat) : Nat → Nat → Int :=
  upd (upd M (t / 3) (n - 11 + t % 3) (b01 (bits.getD (17 - t) false))) (n - 11 + t % 3) (t / 3) (b01 (bits.getD (17 - t) false))
def viAll (n : Nat) (bits : List Bool) (k : Nat) (M : Nat → Nat → Int) : Nat → Nat → Int := (List.range k).foldl (viStep n bits) M
theorem viAll_succ (n : Nat) (bits : List Bool) (k : Nat) (M : Nat → Nat → Int) : viAll n bits (k + 1) M = viStep n bits (viAll n bits k M) k := by
  unfold viAll; rw [List.range_succ, List.foldl_append]; rfl
def viM (v : Nat) (M : Nat → Nat → Int) : Nat → Nat → Int := if v < 7 then M else viAll (17 + 4 * v) (viBits v) 18 M
set_option maxHeartbeats 6400000 in
theorem verInfo_calls {w : World} {lo hi p v m r : Nat} {M : Nat → Nat → Int} (hv : VerAt w lo hi p v) (h : BM w m r (17 + 4 * v) M) (hr : hi ≤ r + 1) :
    Calls Tryz.prog 126 #[.pointer (some ⟨p, 0, none⟩), .pointer (some ⟨m, 0, none⟩)] w fun e w' => e = .returned .nilIface ∧ BM w' m r (17 + 4 * v) (viM v M) ∧ Fr (Rw r (17 + 4 * v)) w w' := by
  have hlim := h.lim
  have hv1 := hv.v1
  have HV := Lib.hid hv
  have H := Lib.hid h
  have hmr : r + 1 + (17 + 4 * v) ≤ w.heap.size := by
    have := (h.row (17 + 4 * v - 1) (by omega)).lt
    omega
  have hml := h.st.lt
  by_cases h7 : v < 7
  · have h7z : (v : Int) < 7 := by omega
    have HE : Hid (viM v M = M) := Lib.hid (by unfold viM; rw [if_pos h7])
    clear h hv
    go_enter Tryz.func126, Tryz.ntmps126
    go_wp2_with fail
    refine (verNumber_calls HV.out).mono ?_
    rintro e w1 ⟨rfl, rfl⟩
    go_wp2_with fail
    go_ret
    exact ⟨rfl, by rw [HE.out]; exact H.out, Fr.refl _ _⟩
  · have h7z : ¬ (v : Int) < 7 := by omega
    have HE : Hid (viM v M = viAll (17 + 4 * v) (viBits v) 18 M) := Lib.hid (by unfold viM; rw [if_neg h7])
    obtain ⟨n, hnn⟩ : ∃ n, 17 + 4 * v = n := ⟨_, rfl⟩
    rw [hnn] at H hlim hmr HE ⊢
    have hn45 : 45 ≤ n := by omega
    clear h hv hnn
    go_enter Tryz.func126, Tryz.ntmps126
    go_wp2_with fail
    refine (verNumber_calls HV.out).mono ?_
    rintro e w1 ⟨rfl, rfl⟩
    go_wp2_with fail
    refine (newEmpty_calls w).mono ?_
    rintro e w1 ⟨rfl, hb1, hf1, hs1⟩
    obtain ⟨q, hq⟩ : ∃ q, w.heap.size + 1 = q := ⟨_, rfl⟩
    obtain ⟨gq, hgq⟩ : ∃ gq, w.heap.size = gq := ⟨_, rfl⟩
    rw [hq, hgq] at hb1
    rw [hq]
    have HB1 := Lib.hid hb1
    have HF1 := Lib.hid hf1
    have HV1 := Lib.hid (HV.out.fr hf1 (fun _ _ _ e => e))
    clear hb1 hf1
    go_wp2_with fail
    refine (verBits_calls HV1.out HB1.out (by omega) (by omega)).mono ?_
    rintro e w2 ⟨rfl, hb2, hf2⟩
    have HF2 : Hid (Fr Nil w w2) := Lib.hid (HF1.out.trans' hf2 (fun i hi e => by rcases e with e | e <;> omega))
    have hbl := Lib.hid (viBits_length v)
    obtain ⟨bits, hbq⟩ : ∃ bits, viBits v = bits := ⟨_, rfl⟩
    rw [hbq] at hb2 hbl HE
    have HB2 := Lib.hid hb2
    clear hb2 hf2 HB1 HF1 hbq
    have HM2 := Lib.hid (H.out.nil HF2.out)
    have hno : ¬ Rw r n q ∧ ¬ Rw r n gq := ⟨fun e => by have := e.2; omega, fun e => by have := e.2; omega⟩
    have HNO := Lib.hid hno
    clear hno
    go_wp2_with fail
    go_loopg [7, 8, 9, 10] 6 (fun c s7 s8 s9 s10 wr => ∃ i : Nat, i + c = 6 ∧ s8 = .int .i64 i ∧ s7 = .int .i64 (17 - 3 * (i : Int)) ∧ Hid (BM wr m r n (viAll n bits (3 * i) M)) ∧ Hid (BA wr q gq 1 bits) ∧ Fr (Rw r n) w2 wr)
    case atStart => exact ⟨0, by omega, rfl, rfl, HM2, HB2, Fr.refl _ _⟩
    case round =>
      obtain ⟨i, hi, rfl, rfl, HM, HB, hF⟩ := hrel
      clear HM2 HB2
      cases gk with
      | zero =>
        have hi6 : i = 6 := by omega
        subst hi6
        go_wp2_with fail
        go_ret
        exact ⟨rfl, by rw [HE.out]; exact HM.out, (HF2.out.any _).trans hF⟩
      | succ c =>
        have hiz : (i : Int) < 6 := by omega
        have HI := Lib.hid hi
        clear hi
        go_wp2_with fail
        go_loopg [7, 9, 10] 3 (fun d s7 s9 s10 wr => ∃ j : Nat, j + d = 3 ∧ s9 = .int .i64 j ∧ s7 = .int .i64 (17 - 3 * (i : Int) - (j : Int)) ∧ Hid (BM wr m r n (viAll n bits (3 * i + j) M)) ∧ Hid (BA wr q gq 1 bits) ∧ Fr (Rw r n) w2 wr)
        case atStart => exact ⟨0, by omega, rfl, by go_num, HM, HB, hF⟩
        case round =>
          obtain ⟨j, hj, rfl, rfl, HM3, HB3, hF3⟩ := hrel
          clear HM HB hF
          cases gk with
          | zero =>
            have hj3 : j = 3 := by omega
            subst hj3
            go_wp2_with fail
            go_roundg c
            case measure => omega
            case rel => exact ⟨i + 1, by have := HI.out; omega, by go_num, by go_num, HM3, HB3, hF3⟩
          | succ d =>
            have hjz : (j : Int) < 3 := by omega
            obtain ⟨t, ht⟩ : ∃ t, 3 * i + j = t := ⟨_, rfl⟩
            have ht17 : t ≤ 17 := by have := HI.out; omega
            have hGET := get_calls HB3.out (17 - t) (by omega)
            obtain ⟨b, hbb⟩ : ∃ b, bits.getD (17 - t) false = b := ⟨_, rfl⟩
            rw [hbb] at hGET
            have HGET := Lib.hid hGET
            have hi6 : i < 6 := by omega
            have hj3 : j < 3 := by omega
            obtain ⟨y, hy⟩ : ∃ y, n - 11 + j = y := ⟨_, rfl⟩
            have hyn : y < n := by omega
            have hin : i < n := by omega
            have hyz : (n : Int) - 11 + (j : Int) = (y : Int) := by omega
            have hsl : 17 - 3 * (i : Int) - (j : Int) = ((17 - t : Nat) : Int) := by omega
            have HST : Hid (viAll n bits (3 * i + (j + 1)) M = upd (upd (viAll n bits t M) i y (b01 b)) y i (b01 b)) := Lib.hid (by
              rw [show 3 * i + (j + 1) = t + 1 from by omega, viAll_succ]; unfold viStep
              rw [hbb, show t / 3 = i from by omega, show t % 3 = j from by omega, hy])
            have HSL := Lib.hid hsl
            have HJ := Lib.hid hj
            have hy2 := Lib.hid hyz
            rw [ht] at HM3
            have HT := Lib.hid ht
            have HH := Lib.hid (height_calls HM3.out)
            have HS := Lib.hid (bmSetBool_calls HM3.out i y hin hyn b)
            clear hGET hbb hj ht hy hyz hsl
            rw [HSL.out]
            go_wp2_with fail
            refine HGET.out.mono ?_
            rintro e w3 ⟨rfl, rfl⟩
            go_wp2_with fail
            refine HH.out.mono ?_
            rintro e w3 ⟨rfl, rfl⟩
            go_wp2_with fail
            rw [hy2.out]
            refine HS.out.mono ?_
            rintro e w4 ⟨rfl, hb4, hf4⟩
            have HB4 := Lib.hid hb4
            have HA4 := Lib.hid (HB3.out.fr hf4 HNO.out.1 HNO.out.2)
            have hF4 := hF3.trans hf4
            have HH4 := Lib.hid (height_calls HB4.out)
            have HS4 := Lib.hid (bmSetBool_calls HB4.out y i hyn hin b)
            clear hb4 hf4 HS HH HGET HM3 HB3 hF3
            go_wp2_with fail
            refine HH4.out.mono ?_
            rintro e w5 ⟨rfl, rfl⟩
            go_wp2_with fail
            rw [hy2.out]
            refine HS4.out.mono ?_
            rintro e w6 ⟨rfl, hb6, hf6⟩
            have HB6 : Hid (BM w6 m r n (viAll n bits (3 * i + (j + 1)) M)) := Lib.hid (by rw [HST.out]; exact hb6)
            have HA6 := Lib.hid (HA4.out.fr hf6 HNO.out.1 HNO.out.2)
            have hF6 := hF4.trans hf6
            clear hb6 hf6 HB4 HA4 hF4
            go_wp2_with fail
            go_roundg d
            case measure => omega
            case rel => exact ⟨j + 1, by have := HJ.out; omega, by go_num, by have := HSL.out; go_num, HB6, HA6, hF6⟩
end Go.Proofs.YtcekbhhpcmhicaaGreatDoor
/- The masks. -/
namespace Go.Proofs.YtcekbhhpcmhicaaGreatDoor
open Go Go.RowKit Go.Deep
set_option maxRecDepth 100000
def maskV (k x y : Nat) : Nat :=
  match k with
  | 0 => (y + x) % 2
  | 1 => y % 2
  | 2 => x % 3
  | 3 => (y + x) % 3
  | 4 => (y / 2 + x / 3) % 2
  | 5 => (y * x) % 2 + (y * x) % 3
  | 6 => ((y * x) % 2 + (y * x) % 3) % 2
  | _ => ((y * x) % 3 + (y + x) % 2) % 2
def maskB (k x y : Nat) : Bool := maskV k x y == 0
theorem and1i (q : Nat) (h : q < 1000000) : bits .and .i64 (q : Int) 1 = ((q % 2 : Nat) : Int) := by
  have := i64_and_nat q 1 (by omega) (by omega)
  have e : q &&& 1 = q % 2 := Nat.and_two_pow_sub_one_eq_mod q 1
  rw [e] at this
  exact this
theorem beqz (n : Nat) : ((n : Int) == 0) = (n == 0) := by
  rw [Bool.eq_iff_iff]; simp
set_option maxHeartbeats 1600000 in
theorem mask0 (w : World) (x y : Nat) (hx : x < 200) (hy : y < 200) : Calls Tryz.prog 169 #[.int .i64 0, .int .i64 x, .int .i64 y] w fun e w' => e = .returned (.tuple #[.bool (maskB 0 x y), .nilIface]) ∧ w = w' := by
  have h := and1i (y + x) (by omega)
  rw [show ((y + x : Nat) : Int) = (y : Int) + (x : Int) from by omega] at h
  obtain ⟨v, hv⟩ : ∃ v, (y + x) % 2 = v := ⟨_, rfl⟩
  rw [hv] at h
  have HB : Hid (maskB 0 x y = (v == 0)) := Lib.hid (by rw [← hv]; rfl)
  have hbz := Lib.hid (beqz v)
  clear hv
  go_enter Tryz.func169, Tryz.ntmps169
  go_wp2_with fail
  go_ret2
  exact ⟨by rw [HB.out, ← hbz.out]; rfl, rfl⟩
set_option maxHeartbeats 1600000 in
theorem mask1 (w : World) (x y : Nat) (hx : x < 200) (hy : y < 200) : Calls Tryz.prog 169 #[.int .i64 1, .int .i64 x, .int .i64 y] w fun e w' => e = .returned (.tuple #[.bool (maskB 1 x y), .nilIface]) ∧ w = w' := by
  have h := and1i y (by omega)
  obtain ⟨v, hv⟩ : ∃ v, y % 2 = v := ⟨_, rfl⟩
  rw [hv] at h
  have HB : Hid (maskB 1 x y = (v == 0)) := Lib.hid (by rw [← hv]; rfl)
  have hbz := Lib.hid (beqz v)
  clear hv
  go_enter Tryz.func169, Tryz.ntmps169
  go_wp2_with fail
  go_ret2
  exact ⟨by rw [HB.out, ← hbz.out]; rfl, rfl⟩
set_option maxHeartbeats 1600000 in
theorem mask2 (w : World) (x y : Nat) (hx : x < 200) (hy : y < 200) : Calls Tryz.prog 169 #[.int .i64 2, .int .i64 x, .int .i64 y] w fun e w' => e = .returned (.tuple #[.bool (maskB 2 x y), .nilIface]) ∧ w = w' := by
  obtain ⟨v, hv⟩ : ∃ v, x % 3 = v := ⟨_, rfl⟩
  have h : (x : Int) % 3 = (v : Int) := by omega
  have hvl : v < 3 := by omega
  have HB : Hid (maskB 2 x y = (v == 0)) := Lib.hid (by rw [← hv]; rfl)
  have hbz := Lib.hid (beqz v)
  clear hv
  go_enter Tryz.func169, Tryz.ntmps169
  go_wp2_with fail
  go_ret2
  exact ⟨by rw [HB.out, ← hbz.out]; rfl, rfl⟩
set_option maxHeartbeats 1600000 in
theorem mask3 (w : World) (x y : Nat) (hx : x < 200) (hy : y < 200) : Calls Tryz.prog 169 #[.int .i64 3, .int .i64 x, .int .i64 y] w fun e w' => e = .returned (.tuple #[.bool (maskB 3 x y), .nilIface]) ∧ w = w' := by
  obtain ⟨v, hv⟩ : ∃ v, (y + x) % 3 = v := ⟨_, rfl⟩
  have h : ((y : Int) + (x : Int)) % 3 = (v : Int) := by omega
  have hvl : v < 3 := by omega
  have HB : Hid (maskB 3 x y = (v == 0)) := Lib.hid (by rw [← hv]; rfl)
  have hbz := Lib.hid (beqz v)
  clear hv
  go_enter Tryz.func169, Tryz.ntmps169
  go_wp2_with fail
  go_ret2
  exact ⟨by rw [HB.out, ← hbz.out]; rfl, rfl⟩
set_option maxHeartbeats 1600000 in
theorem mask4 (w : World) (x y : Nat) (hx : x < 200) (hy : y < 200) : Calls Tryz.prog 169 #[.int .i64 4, .int .i64 x, .int .i64 y] w fun e w' => e = .returned (.tuple #[.bool (maskB 4 x y), .nilIface]) ∧ w = w' := by
  obtain ⟨a, ha⟩ : ∃ a, y / 2 = a := ⟨_, rfl⟩
  obtain ⟨b, hb⟩ : ∃ b, x / 3 = b := ⟨_, rfl⟩
  have h1 : (y : Int) / 2 = (a : Int) := by omega
  have h2 : (x : Int) / 3 = (b : Int) := by omega
  have hal : a < 200 := by omega
  have hbl : b < 200 := by omega
  have h := and1i (a + b) (by omega)
  rw [show ((a + b : Nat) : Int) = (a : Int) + (b : Int) from by omega] at h
  obtain ⟨v, hv⟩ : ∃ v, (a + b) % 2 = v := ⟨_, rfl⟩
  rw [hv] at h
  have HB : Hid (maskB 4 x y = (v == 0)) := Lib.hid (by rw [← hv, ← ha, ← hb]; rfl)
  have hbz := Lib.hid (beqz v)
  clear hv ha hb
  go_enter Tryz.func169, Tryz.ntmps169
  go_wp2_with fail
  go_ret2
  exact ⟨by rw [HB.out, ← hbz.out]; rfl, rfl⟩
set_option maxHeartbeats 1600000 in
theorem mask5 (w : World) (x y : Nat) (hx : x < 200) (hy : y < 200) : Calls Tryz.prog 169 #[.int .i64 5, .int .i64 x, .int .i64 y] w fun e w' => e = .returned (.tuple #[.bool (maskB 5 x y), .nilIface]) ∧ w = w' := by
  obtain ⟨p, hp⟩ : ∃ p, y * x = p := ⟨_, rfl⟩
  have hpl : p < 40000 := by
    have : y * x ≤ 199 * 199 := Nat.mul_le_mul (by omega) (by omega)
    omega
  have hm : (y : Int) * (x : Int) = (p : Int) := by rw [← hp, Int.natCast_mul]
  have h1 := and1i p (by omega)
  obtain ⟨a, ha⟩ : ∃ a, p % 2 = a := ⟨_, rfl⟩
  rw [ha] at h1
  obtain ⟨b, hb⟩ : ∃ b, p % 3 = b := ⟨_, rfl⟩
  have h2 : (p : Int) % 3 = (b : Int) := by omega
  have hal : a < 2 := by omega
  have hbl : b < 3 := by omega
  obtain ⟨v, hv⟩ : ∃ v, a + b = v := ⟨_, rfl⟩
  have h3 : (a : Int) + (b : Int) = (v : Int) := by omega
  have HB : Hid (maskB 5 x y = (v == 0)) := Lib.hid (by rw [← hv, ← ha, ← hb, ← hp]; rfl)
  have hbz := Lib.hid (beqz v)
  clear hv ha hb hp
  go_enter Tryz.func169, Tryz.ntmps169
  go_wp2_with fail
  go_ret2
  exact ⟨by rw [HB.out, ← hbz.out]; rfl, rfl⟩
set_option maxHeartbeats 1600000 in
theorem mask6 (w : World) (x y : Nat) (hx : x < 200) (hy : y < 200) : Calls Tryz.prog 169 #[.int .i64 6, .int .i64 x, .int .i64 y] w fun e w' => e = .returned (.tuple #[.bool (maskB 6 x y), .nilIface]) ∧ w = w' := by
  obtain ⟨p, hp⟩ : ∃ p, y * x = p := ⟨_, rfl⟩
  have hpl : p < 40000 := by
    have : y * x ≤ 199 * 199 := Nat.mul_le_mul (by omega) (by omega)
    omega
  have hm : (y : Int) * (x : Int) = (p : Int) := by rw [← hp, Int.natCast_mul]
  have h1 := and1i p (by omega)
  obtain ⟨a, ha⟩ : ∃ a, p % 2 = a := ⟨_, rfl⟩
  rw [ha] at h1
  obtain ⟨b, hb⟩ : ∃ b, p % 3 = b := ⟨_, rfl⟩
  have h2 : (p : Int) % 3 = (b : Int) := by omega
  have hal : a < 2 := by omega
  have hbl : b < 3 := by omega
  obtain ⟨d, hd⟩ : ∃ d, a + b = d := ⟨_, rfl⟩
  have h3 : (a : Int) + (b : Int) = (d : Int) := by omega
  have h := and1i d (by omega)
  obtain ⟨v, hv⟩ : ∃ v, d % 2 = v := ⟨_, rfl⟩
  rw [hv] at h
  have HB : Hid (maskB 6 x y = (v == 0)) := Lib.hid (by rw [← hv, ← hd, ← ha, ← hb, ← hp]; rfl)
  have hbz := Lib.hid (beqz v)
  clear hv hd ha hb hp
  go_enter Tryz.func169, Tryz.ntmps169
  go_wp2_with fail
  go_ret2
  exact ⟨by rw [HB.out, ← hbz.out]; rfl, rfl⟩
set_option maxHeartbeats 1600000 in
theorem mask7 (w : World) (x y : Nat) (hx : x < 200) (hy : y < 200) : Calls Tryz.prog 169 #[.int .i64 7, .int .i64 x, .int .i64 y] w fun e w' => e = .returned (.tuple #[.bool (maskB 7 x y), .nilIface]) ∧ w = w' := by
  obtain ⟨p, hp⟩ : ∃ p, y * x = p := ⟨_, rfl⟩
  have hpl : p < 40000 := by
    have : y * x ≤ 199 * 199 := Nat.mul_le_mul (by omega) (by omega)
    omega
  have hm : (y : Int) * (x : Int) = (p : Int) := by rw [← hp, Int.natCast_mul]
  obtain ⟨b, hb⟩ : ∃ b, p % 3 = b := ⟨_, rfl⟩
  have h2 : (p : Int) % 3 = (b : Int) := by omega
  have hbl : b < 3 := by omega
  have h1 := and1i (y + x) (by omega)
  rw [show ((y + x : Nat) : Int) = (y : Int) + (x : Int) from by omega] at h1
  obtain ⟨c, hc⟩ : ∃ c, (y + x) % 2 = c := ⟨_, rfl⟩
  rw [hc] at h1
  have hcl : c < 2 := by omega
  obtain ⟨d, hd⟩ : ∃ d, b + c = d := ⟨_, rfl⟩
  have h3 : (b : Int) + (c : Int) = (d : Int) := by omega
  have h := and1i d (by omega)
  obtain ⟨v, hv⟩ : ∃ v, d % 2 = v := ⟨_, rfl⟩
  rw [hv] at h
  have HB : Hid (maskB 7 x y = (v == 0)) := Lib.hid (by rw [← hv, ← hd, ← hc, ← hb, ← hp]; rfl)
  have hbz := Lib.hid (beqz v)
  clear hv hd hc hb hp
  go_enter Tryz.func169, Tryz.ntmps169
  go_wp2_with fail
  go_ret2
  exact ⟨by rw [HB.out, ← hbz.out]; rfl, rfl⟩
theorem mask_calls (w : World) (k x y : Nat) (hk : k < 8) (hx : x < 200) (hy : y < 200) : Calls Tryz.prog 169 #[.int .i64 k, .int .i64 x, .int .i64 y] w fun e w' => e = .returned (.tuple #[.bool (maskB k x y), .nilIface]) ∧ w = w' := by
  match k, hk with
  | 0, _ => exact mask0 w x y hx hy
  | 1, _ => exact mask1 w x y hx hy
  | 2, _ => exact mask2 w x y hx hy
  | 3, _ => exact mask3 w x y hx hy
  | 4, _ => exact mask4 w x y hx hy
  | 5, _ => exact mask5 w x y hx hy
  | 6, _ => exact mask6 w x y hx hy
  | 7, _ => exact mask7 w x y hx hy
end Go.Proofs.YtcekbhhpcmhicaaGreatDoor
/- NewByteMatrix. -/
namespace Go.Proofs.YtcekbhhpcmhicaaGreatDoor
open Go Go.RowKit Go.Deep
set_option maxRecDepth 100000
theorem Tryz.und142 : Tryz.prog.underlying 142 = some (.slice 145) := by kernel_rfl
theorem Tryz.und145 : Tryz.prog.underlying 145 = some (.slice 64) := by kernel_rfl
theorem Tryz.inf145 : (Tryz.prog.info? 145).map (fun i => (i.zero, i.size, i.bytes)) = some (some (.slice none 0 0), 1, 24) := by kernel_rfl
theorem Tryz.inf64 : (Tryz.prog.info? 64).map (fun i => (i.zero, i.size, i.bytes)) = some (some (.int .i8 0), 1, 1) := by kernel_rfl
theorem mkRows (n : Nat) (h : n ≤ 1000000) (w : World) : (Instr.makeSlice 142 (.int .i64 (n : Int)) (.int .i64 (n : Int))).run Tryz.prog w = .ok (.slice (some ⟨w.heap.size, 0, none⟩) n n) (w.alloc (.cells (madeCells #[.slice none 0 0] n) 145)) :=
  run_make_row' (P := Tryz.prog) 142 145 (.slice none 0 0) 24 Tryz.und142 Tryz.inf145 rfl .i64 .i64 n (by omega) (by omega) w
theorem mkCells (n : Nat) (h : n ≤ 1000000) (w : World) : (Instr.makeSlice 145 (.int .i64 (n : Int)) (.int .i64 (n : Int))).run Tryz.prog w = .ok (.slice (some ⟨w.heap.size, 0, none⟩) n n) (w.alloc (.cells (madeCells #[.int .i8 0] n) 64)) :=
  run_make_row' (P := Tryz.prog) 145 64 (.int .i8 0) 1 Tryz.und145 Tryz.inf64 rfl .i64 .i64 n (by omega) (by omega) w
set_option maxHeartbeats 1600000 in
theorem newBM_calls (w : World) (n : Nat) (hn : n ≤ 200) :
    Calls Tryz.prog 68 #[.int .i64 n, .int .i64 n] w fun e w' => ∃ m, e = .returned (.pointer (some ⟨m, 0, none⟩)) ∧ BM w' m w.heap.size n (fun _ _ => 0) ∧ Fr Nil w w' := by
  have hmk := mkRows n (by omega) w
  have hr := World.rowIs_made w (.slice none 0 0) n 145
  have hf0 : Fr Nil w (w.alloc (.cells (madeCells #[.slice none 0 0] n) 145)) := (Fr.refl _ _).alloc _
  have HR := Lib.hid (show _ ∧ _ from ⟨hr, hf0⟩)
  obtain ⟨r, hrq⟩ : ∃ r, w.heap.size = r := ⟨_, rfl⟩
  rw [hrq] at HR hmk ⊢
  clear hr hf0
  go_enter Tryz.func68, Tryz.ntmps68
  go_wp2_with fail
  clear hmk
  go_loopg [6] n (fun c s6 wr => ∃ i : Nat, i + c = n ∧ s6 = .int .i64 i ∧ wr.rowIs r 145 n (fun j => if j < i then .slice (some ⟨r + 1 + j, 0, none⟩) n n else .slice none 0 0) ∧ Hid (∀ y, y < i → wr.rowIs (r + 1 + y) 64 n (fun _ => i8 0)) ∧ wr.heap.size = r + 1 + i ∧ Fr Nil w wr)
  case atStart => exact ⟨0, by omega, rfl, HR.out.1.congr (fun j _ => by rw [if_neg (by omega)]), Lib.hid (fun y hy => by omega), by simp [hrq], HR.out.2⟩
  case round =>
    obtain ⟨i, hi, rfl, hrow, HY, hsz, hF⟩ := hrel
    clear HR
    cases gk with
    | zero =>
      have hin : i = n := by omega
      subst hin
      have hz : ¬ (i : Int) < (i : Int) := by omega
      have hrow2 := hrow.congr (g := fun j => .slice (some ⟨r + 1 + j, 0, none⟩) i i) (fun j hj => by rw [if_pos hj])
      have hal : Fr Nil wr (wr.alloc (.cells #[.slice (some ⟨r, 0, none⟩) i i, i64 i, i64 i] 144)) := (Fr.refl _ _).alloc _
      have HF := Lib.hid (show _ ∧ _ from ⟨(⟨Blk.new wr 144 _, rowFr hrow2 hal (fun e => e), fun y hy => rowFr (HY.out y hy) hal (fun e => e), hn⟩ : BM (wr.alloc (.cells #[.slice (some ⟨r, 0, none⟩) i i, i64 i, i64 i] 144)) wr.heap.size r i (fun _ _ => 0)), hF.trans hal⟩)
      have HF2 := HF.out
      rw [hsz] at HF2
      have HF3 := Lib.hid HF2
      clear hrow hrow2 hal hF HF HF2
      go_wp2_with fail
      go_ret
      exact ⟨_, rfl, HF3.out.1, HF3.out.2⟩
    | succ c =>
      have hz : (i : Int) < (n : Int) := by omega
      have hin : i < n := by omega
      have hmk2 := mkCells n (by omega) wr
      have hr2 := World.rowIs_made wr (.int .i8 0) n 64
      have hal : Fr Nil wr (wr.alloc (.cells (madeCells #[.int .i8 0] n) 64)) := (Fr.refl _ _).alloc _
      have hrow' := rowFr hrow hal (fun e => e)
      have hc := hrow'.cell hin
      rw [if_neg (by omega)] at hc
      have hfz := hrow'.frozen i
      rw [hsz] at hmk2 hr2
      have hset := (hrow'.set i (.slice (some ⟨r + 1 + i, 0, none⟩) n n)).congr (g := fun j => if j < i + 1 then .slice (some ⟨r + 1 + j, 0, none⟩) n n else .slice none 0 0) (fun j hj => by
        by_cases hji : j = i
        · rw [if_pos hji, if_pos (by omega), hji]
        · rw [if_neg hji]
          by_cases h : j < i
          · rw [if_pos h, if_pos (by omega)]
          · rw [if_neg h, if_neg (by omega)])
      have hrows : ∀ y, y < i + 1 → ((wr.alloc (.cells (madeCells #[.int .i8 0] n) 64)).setCell ⟨r, i, none⟩ (.slice (some ⟨r + 1 + i, 0, none⟩) n n)).rowIs (r + 1 + y) 64 n (fun _ => i8 0) := fun y hy => by
        have hne : r + 1 + y ≠ r := by omega
        by_cases hyi : y = i
        · rw [hyi]; exact hr2.setOther (a := ⟨r, i, none⟩) (by simp; omega) _
        · exact (rowFr (HY.out y (by omega)) hal (fun e => e)).setOther (a := ⟨r, i, none⟩) hne _
      have HS := Lib.hid (show _ ∧ _ ∧ _ from ⟨hset, hrows, (hF.trans hal).setNew (g := r) (by omega) i (.slice (some ⟨r + 1 + i, 0, none⟩) n n)⟩)
      have HI := Lib.hid hi
      clear hset hrows hrow hrow' hal hF hr2 hi
      go_wp2_with fail
      go_roundg c
      case measure => omega
      case rel => exact ⟨i + 1, by have := HI.out; omega, by go_num, HS.out.1, Lib.hid HS.out.2.1, by simp [hsz]; omega, HS.out.2.2⟩
end Go.Proofs.YtcekbhhpcmhicaaGreatDoor
/- The path over the symbol, and the data bits laid along it (plain). -/
namespace Go.Proofs.YtcekbhhpcmhicaaGreatDoor
open Go
/-- the right column of pair c -/
def xr (n c : Nat) : Nat := if n - 1 - 2 * c ≤ 6 then n - 2 - 2 * c else n - 1 - 2 * c
/-- the row at step s of pair c: up for an even c -/
def yy (n c s : Nat) : Nat := if c % 2 = 0 then n - 1 - s else s
def cellsOf (n c s : Nat) : List (Nat × Nat) := [(xr n c, yy n c s), (xr n c - 1, yy n c s)]
def colOf (n c s : Nat) : List (Nat × Nat) := (List.range s).flatMap (cellsOf n c)
def pathOf (n c : Nat) : List (Nat × Nat) := (List.range c).flatMap fun c => colOf n c n
/-- one cell: the matrix and how many bits are laid -/
def embStep (bits : List Bool) (k : Nat) (s : (Nat → Nat → Int) × Nat) (p : Nat × Nat) : (Nat → Nat → Int) × Nat :=
  if s.1 p.2 p.1 = -1 then (upd s.1 p.1 p.2 (b01 (bits.getD s.2 false ^^ maskB k p.1 p.2)), if s.2 < bits.length then s.2 + 1 else s.2) else s
def emb (bits : List Bool) (k : Nat) (M : Nat → Nat → Int) (ps : List (Nat × Nat)) : (Nat → Nat → Int) × Nat := ps.foldl (embStep bits k) (M, 0)
theorem emb_append (bits : List Bool) (k : Nat) (M : Nat → Nat → Int) (ps qs : List (Nat × Nat)) : emb bits k M (ps ++ qs) = qs.foldl (embStep bits k) (emb bits k M ps) := by unfold emb; rw [List.foldl_append]
theorem emb_snoc (bits : List Bool) (k : Nat) (M : Nat → Nat → Int) (ps : List (Nat × Nat)) (p : Nat × Nat) : emb bits k M (ps ++ [p]) = embStep bits k (emb bits k M ps) p := by rw [emb_append]; rfl
theorem colOf_succ (n c s : Nat) : colOf n c (s + 1) = colOf n c s ++ cellsOf n c s := by unfold colOf; rw [List.range_succ, List.flatMap_append]; simp
theorem pathOf_succ (n c : Nat) : pathOf n (c + 1) = pathOf n c ++ colOf n c n := by unfold pathOf; rw [List.range_succ, List.flatMap_append]; simp
theorem emb_le (bits : List Bool) (k : Nat) (M : Nat → Nat → Int) : ∀ ps : List (Nat × Nat), (emb bits k M ps).2 ≤ bits.length := by
  intro ps
  unfold emb
  suffices h : ∀ (ps : List (Nat × Nat)) (s : (Nat → Nat → Int) × Nat), s.2 ≤ bits.length → (ps.foldl (embStep bits k) s).2 ≤ bits.length from h ps _ (Nat.zero_le _)
  intro ps
  induction ps with
  | nil => intro s h; exact h
  | cons p ps ih =>
    intro s h
    refine ih _ ?_
    unfold embStep
    split
    · show (if s.2 < bits.length then s.2 + 1 else s.2) ≤ bits.length
      split <;> omega
    · exact h
theorem xr_lt (n c : Nat) (h : 2 * c + 2 < n) : xr n c < n ∧ 1 ≤ xr n c := by
  unfold xr; split <;> omega
theorem yy_lt (n c s : Nat) (h : s < n) : yy n c s < n := by unfold yy; split <;> omega
end Go.Proofs.YtcekbhhpcmhicaaGreatDoor
/- embedDataBits. -/
namespace Go.Proofs.YtcekbhhpcmhicaaGreatDoor
open Go Go.RowKit Go.Deep
set_option maxRecDepth 100000
theorem cells_take (n c s i : Nat) (hi : i < 2) : (cellsOf n c s).take (i + 1) = (cellsOf n c s).take i ++ [(xr n c - i, yy n c s)] := by
  have h : i = 0 ∨ i = 1 := by omega
  rcases h with rfl | rfl <;> rfl
theorem cells_take2 (n c s : Nat) : (cellsOf n c s).take 2 = cellsOf n c s := rfl
def hdX (n c : Nat) : Int := if (n : Int) - 1 - 2 * c ≤ 5 then (n : Int) - 2 - 2 * c else (n : Int) - 1 - 2 * c
def hdY (n c : Nat) : Int := if c % 2 = 0 then (n : Int) - 1 else 0
def hdD (c : Nat) : Int := if c % 2 = 0 then -1 else 1
def rowY (n c s : Nat) : Int := if c % 2 = 0 then (n : Int) - 1 - s else s
theorem rowY_zero (n c : Nat) : rowY n c 0 = hdY n c := by
  unfold rowY hdY
  split
  · simp
  · rfl
theorem rowY_nat (n c s : Nat) (h : s < n) : rowY n c s = (yy n c s : Nat) := by
  unfold rowY yy
  by_cases hp : c % 2 = 0
  · rw [if_pos hp, if_pos hp]; omega
  · rw [if_neg hp, if_neg hp]
theorem rowY_succ (n c s : Nat) : rowY n c (s + 1) = rowY n c s + hdD c := by
  unfold rowY hdD
  by_cases hp : c % 2 = 0
  · rw [if_pos hp, if_pos hp, if_pos hp]; omega
  · rw [if_neg hp, if_neg hp, if_neg hp]; omega
set_option maxHeartbeats 6400000 in
theorem embedData_calls {w : World} {p g nb m r n : Nat} {bits : List Bool} {M : Nat → Nat → Int} (hb : BA w p g nb bits) (h : BM w m r n M) (hn : 21 ≤ n) (hodd : n % 2 = 1) (k : Nat) (hk : k < 8)
    (hp : ¬ Rw r n p) (hg : ¬ Rw r n g) (hall : (emb bits k M (pathOf n ((n - 1) / 2))).2 = bits.length) :
    Calls Tryz.prog 127 #[.pointer (some ⟨p, 0, none⟩), .int .i64 k, .pointer (some ⟨m, 0, none⟩)] w fun e w' => e = .returned .nilIface ∧ BM w' m r n (emb bits k M (pathOf n ((n - 1) / 2))).1 ∧ Fr (Rw r n) w w' := by
  have hlim := h.lim
  have hbl := hb.fit
  have hbl2 := hb.lim
  have H := Lib.hid h
  have HBA := Lib.hid hb
  have HNO := Lib.hid (show _ ∧ _ from ⟨hp, hg⟩)
  have HALL := Lib.hid hall
  obtain ⟨C, hC⟩ : ∃ C, (n - 1) / 2 = C := ⟨_, rfl⟩
  have hnC : n = 2 * C + 1 := by omega
  have HC := Lib.hid hC
  have HN := Lib.hid hnC
  rw [hC] at HALL ⊢
  have HW := Lib.hid (width_calls h)
  have HH := Lib.hid (height_calls h)
  clear h hb hp hg hall hC hnC
  go_enter Tryz.func127, Tryz.ntmps127
  go_wp2_with fail
  refine HW.out.mono ?_
  rintro e w1 ⟨rfl, rfl⟩
  go_wp2_with fail
  refine HH.out.mono ?_
  rintro e w1 ⟨rfl, rfl⟩
  go_wp2_with fail
  clear HW HH
  go_loopg [7, 8, 9, 10, 11, 12, 13, 14, 15] C (fun q s7 s8 s9 s10 s11 s12 s13 s14 s15 wr => ∃ (c t : Nat) (d x y : Int) (M1 : Nat → Nat → Int), c + q = C ∧ s7 = .int .i64 t ∧ s8 = .int .i64 d ∧ s9 = .int .i64 x ∧ s10 = .int .i64 y ∧
    Hid (x = hdX n c ∧ y = hdY n c ∧ d = hdD c ∧ emb bits k M (pathOf n c) = (M1, t)) ∧ Hid (BM wr m r n M1) ∧ Fr (Rw r n) w wr)
  case atStart => exact ⟨0, 0, -1, (n : Int) - 1, (n : Int) - 1, M, by omega, rfl, rfl, rfl, rfl, Lib.hid ⟨by unfold hdX; rw [if_neg (by omega)]; omega, rfl, rfl, rfl⟩, H, Fr.refl _ _⟩
  case round =>
    obtain ⟨c, t, d, x, y, M1, hc, rfl, rfl, rfl, rfl, HE, HB, hF⟩ := hrel
    clear H
    have ht : t ≤ bits.length := by have := emb_le bits k M (pathOf n c); rw [HE.out.2.2.2] at this; exact this
    cases gk with
    | zero =>
      have hcC : c = C := by omega
      subst hcC
      have hx : ¬ (0 : Int) < x := by have := HE.out.1; unfold hdX at this; rw [if_pos (by have := HN.out; omega)] at this; have := HN.out; omega
      have htl : t = bits.length := by have h1 := HALL.out; rw [HE.out.2.2.2] at h1; exact h1
      have HZ := Lib.hid (size_calls (HBA.out.fr hF HNO.out.1 HNO.out.2))
      have hne : ((t : Int) != (bits.length : Int)) = false := by rw [htl]; simp
      have HBM := Lib.hid (show BM wr m r n (emb bits k M (pathOf n c)).1 by rw [HE.out.2.2.2]; exact HB.out)
      clear htl
      go_wp2_with fail
      refine HZ.out.mono ?_
      rintro e w2 ⟨rfl, rfl⟩
      go_wp2_with fail
      go_ret
      exact ⟨rfl, HBM.out, hF⟩
    | succ q =>
      have hcC : c < C := by omega
      have hnn := HN.out
      have hx0 : (0 : Int) < x := by have := HE.out.1; unfold hdX at this; split at this <;> omega
      obtain ⟨X, hX⟩ : ∃ X, xr n c = X := ⟨_, rfl⟩
      have hXx : (x = 6 ∧ X = 5) ∨ (x ≠ 6 ∧ x = (X : Int)) := by
        have := HE.out.1; unfold hdX at this; unfold xr at hX
        split at this <;> split at hX <;> omega
      have hXn : X < n ∧ 1 ≤ X := by rw [← hX]; exact xr_lt n c (by omega)
      have HX := Lib.hid hX
      have HCC := Lib.hid hc
      have HXX := Lib.hid hXx
      have hhd : Hid (hdX n (c + 1) = (X : Int) - 2) := Lib.hid (by
        unfold xr at hX; unfold hdX
        split at hX <;> split <;> omega)
      clear hX hc hnn hXx
      go_upto_if 25 with fail
      go_cut [9] (fun s9 wc => s9 = .int .i64 (X : Int) ∧ wc = wr)
      case first =>
        by_cases h6 : x = 6
        · have hX5 : X = 5 := by rcases HXX.out with h | h; exact h.2; exact absurd h6 h.1
          subst h6
          subst hX5
          go_wp2_with fail
          go_meet
          exact ⟨rfl, rfl⟩
        · have h6b : (x == 6) = false := beq_eq_false_iff_ne.2 h6
          have hxX : x = (X : Int) := by rcases HXX.out with h | h; exact absurd h.1 h6; exact h.2
          subst hxX
          rw [h6b]
          go_wp2_with fail
          go_meet
          exact ⟨rfl, rfl⟩
      case rest =>
        obtain ⟨rfl, rfl⟩ := hcut
        have HE2 := Lib.hid HE.out.2.2.2
        have hyd := Lib.hid (show _ ∧ _ from ⟨HE.out.2.1, HE.out.2.2.1⟩)
        have hdv : d = -1 ∨ d = 1 := by have := HE.out.2.2.1; unfold hdD at this; split at this <;> omega
        clear HXX HE hx0
        go_wp2_with fail
        go_loopg [7, 10, 11, 12, 13, 14, 15] n (fun q2 s7 s10 s11 s12 s13 s14 s15 wr => ∃ (s t2 : Nat) (Y : Int) (M2 : Nat → Nat → Int), s + q2 = n ∧ s7 = .int .i64 t2 ∧ s10 = .int .i64 Y ∧
          Hid (Y = rowY n c s ∧ emb bits k M (pathOf n c ++ colOf n c s) = (M2, t2)) ∧ Hid (BM wr m r n M2) ∧ Fr (Rw r n) w wr)
        case atStart => exact ⟨0, t, y, M1, by omega, rfl, rfl, Lib.hid ⟨hyd.out.1.trans (rowY_zero n c).symm, by have := HE2.out; rw [show colOf n c 0 = [] from rfl, List.append_nil]; exact this⟩, HB, hF⟩
        case round =>
          obtain ⟨s, t2, Y, M2, hs, rfl, rfl, HE3, HB2, hF2⟩ := hrel
          clear HB hF HE2
          have ht2 : t2 ≤ bits.length := by have := emb_le bits k M (pathOf n c ++ colOf n c s); rw [HE3.out.2] at this; exact this
          have HHT := Lib.hid (height_calls HB2.out)
          cases gk with
          | zero =>
            have hsn : s = n := by omega
            have HNX : Hid (Y + -d = hdY n (c + 1) ∧ -d = hdD (c + 1) ∧ emb bits k M (pathOf n (c + 1)) = (M2, t2)) := Lib.hid (by
              have h1 := HE3.out.1
              have h2 := hyd.out.2
              have h3 := HE3.out.2
              rw [hsn] at h1 h3
              unfold rowY at h1
              unfold hdD at h2
              refine ⟨?_, ?_, by rw [pathOf_succ]; exact h3⟩
              · unfold hdY
                by_cases hp : c % 2 = 0
                · rw [if_pos hp] at h1 h2; rw [if_neg (by omega)]; omega
                · rw [if_neg hp] at h1 h2; rw [if_pos (by omega)]; omega
              · unfold hdD
                by_cases hp : c % 2 = 0
                · rw [if_pos hp] at h2; rw [if_neg (by omega)]; omega
                · rw [if_neg hp] at h2; rw [if_pos (by omega)]; omega)
            have hY : Y = -1 ∨ Y = (n : Int) := by
              have h1 := HE3.out.1
              rw [hsn] at h1
              unfold rowY at h1
              split at h1 <;> omega
            have hYb1 : -1 ≤ Y := by omega
            have hYb2 : Y ≤ 200 := by omega
            clear hs hsn
            by_cases hY1 : Y = -1
            · have hYz : ¬ (0 : Int) ≤ Y := by omega
              clear hY hY1
              go_wp2_with fail
              go_roundg q
              case measure => omega
              case rel => exact ⟨c + 1, t2, -d, (X : Int) - 2, Y + -d, M2, by have := HCC.out; omega, rfl, rfl, by go_num, by go_num, Lib.hid ⟨hhd.out.symm, HNX.out.1, HNX.out.2.1, HNX.out.2.2⟩, HB2, hF2⟩
            · have hYz : (0 : Int) ≤ Y := by omega
              have hYn : ¬ Y < (n : Int) := by omega
              clear hY hY1
              go_wp2_with fail
              refine HHT.out.mono ?_
              rintro e w2 ⟨rfl, rfl⟩
              go_wp2_with fail
              go_roundg q
              case measure => omega
              case rel => exact ⟨c + 1, t2, -d, (X : Int) - 2, Y + -d, M2, by have := HCC.out; omega, rfl, rfl, by go_num, by go_num, Lib.hid ⟨hhd.out.symm, HNX.out.1, HNX.out.2.1, HNX.out.2.2⟩, HB2, hF2⟩
          | succ q2 =>
            have hsn : s < n := by omega
            obtain ⟨Z, hZ⟩ : ∃ Z, yy n c s = Z := ⟨_, rfl⟩
            have hZn : Z < n := by rw [← hZ]; exact yy_lt n c s hsn
            have hYZ : Y = (Z : Int) := by rw [HE3.out.1, rowY_nat n c s hsn, hZ]
            have hnx := Lib.hid (show rowY n c (s + 1) = Y + d by rw [rowY_succ, HE3.out.1, hyd.out.2])
            have HZ := Lib.hid hZ
            have HS := Lib.hid hs
            have HE4 := Lib.hid HE3.out.2
            have hY0 : (0 : Int) ≤ (Z : Int) := by omega
            have hYn : (Z : Int) < (n : Int) := by omega
            clear HE3 hZ hs
            subst hYZ
            go_wp2_with fail
            refine HHT.out.mono ?_
            rintro e w2 ⟨rfl, rfl⟩
            clear HHT
            go_wp2_with fail
            go_loopg [7, 11, 12, 13, 14, 15] 2 (fun q3 s7 s11 s12 s13 s14 s15 wr => ∃ (i t3 : Nat) (M3 : Nat → Nat → Int), i + q3 = 2 ∧ s7 = .int .i64 t3 ∧ s11 = .int .i64 i ∧
              Hid (emb bits k M (pathOf n c ++ colOf n c s ++ (cellsOf n c s).take i) = (M3, t3)) ∧ Hid (BM wr m r n M3) ∧ Fr (Rw r n) w wr)
            case atStart => exact ⟨0, t2, M2, by omega, rfl, rfl, Lib.hid (by rw [List.take_zero, List.append_nil]; exact HE4.out), HB2, hF2⟩
            case round =>
              obtain ⟨i, t3, M3, hi, rfl, rfl, HE5, HB3, hF3⟩ := hrel
              clear HB2 hF2 HE4
              have ht3 : t3 ≤ bits.length := by have := emb_le bits k M (pathOf n c ++ colOf n c s ++ (cellsOf n c s).take i); rw [HE5.out] at this; exact this
              cases gk with
              | zero =>
                have hi2 : i = 2 := by omega
                subst hi2
                go_wp2_with fail
                go_roundg q2
                case measure => omega
                case rel => exact ⟨s + 1, t3, (Z : Int) + d, M3, by have := HS.out; omega, rfl, rfl, Lib.hid ⟨hnx.out.symm, by rw [colOf_succ, ← List.append_assoc]; have := HE5.out; rwa [cells_take2] at this⟩, HB3, hF3⟩
              | succ q3 =>
                have hi2 : i < 2 := by omega
                have hiz : (i : Int) < 2 := by omega
                have hXi : (X : Int) - (i : Int) = ((X - i : Nat) : Int) := by omega
                have hXiz : IntKind.i64.wrap ((X : Int) - (i : Int)) = ((X - i : Nat) : Int) := by rw [hXi]; exact IntWalk.i64_in _ (by omega)
                obtain ⟨x', hx'⟩ : ∃ x', X - i = x' := ⟨_, rfl⟩
                have hx'n : x' < n := by omega
                rw [hx'] at hXi
                have hst : Hid (emb bits k M (pathOf n c ++ colOf n c s ++ (cellsOf n c s).take (i + 1)) = embStep bits k (M3, t3) (x', Z)) := Lib.hid (by
                  rw [cells_take n c s i hi2, ← List.append_assoc, emb_snoc, HE5.out, HX.out, HZ.out, hx'])
                have HI := Lib.hid hi
                have HXI := Lib.hid hXi
                have HGT := Lib.hid (bmGet_calls HB3.out x' Z hx'n hZn)
                clear hi hx' hXi hXiz HE5
                have hXY2 : x' < 200 ∧ Z < 200 := ⟨by omega, by omega⟩
                have hkm : ((k : Int) != -1) = true := by simp
                by_cases hu : M3 Z x' = -1
                · have HEM : Hid (Calls Tryz.prog 168 #[.int .i8 (M3 Z x')] wr fun e w' => e = .returned (.bool true) ∧ wr = w') := Lib.hid (by
                    have := isEmpty_calls (M3 Z x') wr
                    rwa [show (M3 Z x' == -1) = true from by rw [hu]; rfl] at this)
                  have HSZ := Lib.hid (size_calls (HBA.out.fr hF3 HNO.out.1 HNO.out.2))
                  have HMK := mask_calls wr k x' Z hk hXY2.1 hXY2.2
                  by_cases hlt : t3 < bits.length
                  · skip
                    have hlz : (t3 : Int) < (bits.length : Int) := by omega
                    obtain ⟨b, hbb⟩ : ∃ b, bits.getD t3 false = b := ⟨_, rfl⟩
                    have HGB := get_calls (HBA.out.fr hF3 HNO.out.1 HNO.out.2) t3 (by omega)
                    rw [hbb] at HGB
                    have HGB' := Lib.hid HGB
                    have hst2 : embStep bits k (M3, t3) (x', Z) = (upd M3 x' Z (b01 (b ^^ maskB k x' Z)), t3 + 1) := by unfold embStep; rw [if_pos hu]; show (upd M3 x' Z (b01 (bits.getD t3 false ^^ maskB k x' Z)), if t3 < bits.length then t3 + 1 else t3) = _; rw [if_pos hlt, hbb]
                    clear hbb HGB
                    have HST2 := Lib.hid hst2
                    clear hst2 hlt hu
                    cases hmb : maskB k x' Z with
                    | true =>
                      rw [hmb] at HMK HST2
                      have HMK' := Lib.hid HMK
                      have HSB := Lib.hid (bmSetBool_calls HB3.out x' Z hx'n hZn (!b))
                      clear HMK hmb
                      go_wp2_with fail
                      rw [HXI.out]
                      refine HGT.out.mono ?_
                      rintro e w2 ⟨rfl, rfl⟩
                      go_wp2_with fail
                      refine HEM.out.mono ?_
                      rintro e w2 ⟨rfl, rfl⟩
                      go_wp2_with fail
                      refine HSZ.out.mono ?_
                      rintro e w2 ⟨rfl, rfl⟩
                      go_wp2_with fail
                      refine HGB'.out.mono ?_
                      rintro e w2 ⟨rfl, rfl⟩
                      go_wp2_with fail
                      refine HMK'.out.mono ?_
                      rintro e w2 ⟨rfl, rfl⟩
                      go_wp2_with fail
                      refine HSB.out.mono ?_
                      rintro e w2 ⟨rfl, hb4, hf4⟩
                      have HB4 := Lib.hid hb4
                      have hF4 := hF3.trans hf4
                      clear hb4 hf4 hF3 HB3 HSB HGT HSZ HEM
                      go_wp2_with fail
                      go_roundg q3
                      case measure => omega
                      case rel => exact ⟨i + 1, t3 + 1, _, by have := HI.out; omega, by go_num, by go_num, Lib.hid (hst.out.trans (HST2.out.trans (by cases b <;> rfl))), HB4, hF4⟩
                    | false =>
                      rw [hmb] at HMK HST2
                      have HMK' := Lib.hid HMK
                      have HSB := Lib.hid (bmSetBool_calls HB3.out x' Z hx'n hZn b)
                      clear HMK hmb
                      go_wp2_with fail
                      rw [HXI.out]
                      refine HGT.out.mono ?_
                      rintro e w2 ⟨rfl, rfl⟩
                      go_wp2_with fail
                      refine HEM.out.mono ?_
                      rintro e w2 ⟨rfl, rfl⟩
                      go_wp2_with fail
                      refine HSZ.out.mono ?_
                      rintro e w2 ⟨rfl, rfl⟩
                      go_wp2_with fail
                      refine HGB'.out.mono ?_
                      rintro e w2 ⟨rfl, rfl⟩
                      go_wp2_with fail
                      refine HMK'.out.mono ?_
                      rintro e w2 ⟨rfl, rfl⟩
                      go_wp2_with fail
                      refine HSB.out.mono ?_
                      rintro e w2 ⟨rfl, hb4, hf4⟩
                      have HB4 := Lib.hid hb4
                      have hF4 := hF3.trans hf4
                      clear hb4 hf4 hF3 HB3 HSB HGT HSZ HEM
                      go_wp2_with fail
                      go_roundg q3
                      case measure => omega
                      case rel => exact ⟨i + 1, t3 + 1, _, by have := HI.out; omega, by go_num, by go_num, Lib.hid (hst.out.trans (HST2.out.trans (by cases b <;> rfl))), HB4, hF4⟩
                  · skip
                    have hlz : ¬ (t3 : Int) < (bits.length : Int) := by omega
                    have hst2 : embStep bits k (M3, t3) (x', Z) = (upd M3 x' Z (b01 (false ^^ maskB k x' Z)), t3) := by
                      unfold embStep; rw [if_pos hu]; show (upd M3 x' Z (b01 (bits.getD t3 false ^^ maskB k x' Z)), if t3 < bits.length then t3 + 1 else t3) = _
                      rw [if_neg hlt, List.getD_eq_getElem?_getD, List.getElem?_eq_none (by omega)]; rfl
                    have HST2 := Lib.hid hst2
                    clear hst2 hlt hu
                    cases hmb : maskB k x' Z with
                    | true =>
                      rw [hmb] at HMK HST2
                      have HMK' := Lib.hid HMK
                      have HSB := Lib.hid (bmSetBool_calls HB3.out x' Z hx'n hZn true)
                      clear HMK hmb
                      go_wp2_with fail
                      rw [HXI.out]
                      refine HGT.out.mono ?_
                      rintro e w2 ⟨rfl, rfl⟩
                      go_wp2_with fail
                      refine HEM.out.mono ?_
                      rintro e w2 ⟨rfl, rfl⟩
                      go_wp2_with fail
                      refine HSZ.out.mono ?_
                      rintro e w2 ⟨rfl, rfl⟩
                      go_wp2_with fail
                      refine HMK'.out.mono ?_
                      rintro e w2 ⟨rfl, rfl⟩
                      go_wp2_with fail
                      refine HSB.out.mono ?_
                      rintro e w2 ⟨rfl, hb4, hf4⟩
                      have HB4 := Lib.hid hb4
                      have hF4 := hF3.trans hf4
                      clear hb4 hf4 hF3 HB3 HSB HGT HSZ HEM
                      go_wp2_with fail
                      go_roundg q3
                      case measure => omega
                      case rel => exact ⟨i + 1, t3, _, by have := HI.out; omega, by go_num, by go_num, Lib.hid (hst.out.trans (HST2.out.trans (by rfl))), HB4, hF4⟩
                    | false =>
                      rw [hmb] at HMK HST2
                      have HMK' := Lib.hid HMK
                      have HSB := Lib.hid (bmSetBool_calls HB3.out x' Z hx'n hZn false)
                      clear HMK hmb
                      go_wp2_with fail
                      rw [HXI.out]
                      refine HGT.out.mono ?_
                      rintro e w2 ⟨rfl, rfl⟩
                      go_wp2_with fail
                      refine HEM.out.mono ?_
                      rintro e w2 ⟨rfl, rfl⟩
                      go_wp2_with fail
                      refine HSZ.out.mono ?_
                      rintro e w2 ⟨rfl, rfl⟩
                      go_wp2_with fail
                      refine HMK'.out.mono ?_
                      rintro e w2 ⟨rfl, rfl⟩
                      go_wp2_with fail
                      refine HSB.out.mono ?_
                      rintro e w2 ⟨rfl, hb4, hf4⟩
                      have HB4 := Lib.hid hb4
                      have hF4 := hF3.trans hf4
                      clear hb4 hf4 hF3 HB3 HSB HGT HSZ HEM
                      go_wp2_with fail
                      go_roundg q3
                      case measure => omega
                      case rel => exact ⟨i + 1, t3, _, by have := HI.out; omega, by go_num, by go_num, Lib.hid (hst.out.trans (HST2.out.trans (by rfl))), HB4, hF4⟩
                · have HEM : Hid (Calls Tryz.prog 168 #[.int .i8 (M3 Z x')] wr fun e w' => e = .returned (.bool false) ∧ wr = w') := Lib.hid (by
                    have := isEmpty_calls (M3 Z x') wr
                    rwa [show (M3 Z x' == -1) = false from beq_eq_false_iff_ne.2 hu] at this)
                  have HST2 : Hid (embStep bits k (M3, t3) (x', Z) = (M3, t3)) := Lib.hid (by unfold embStep; rw [if_neg hu])
                  clear hu
                  go_wp2_with fail
                  rw [HXI.out]
                  refine HGT.out.mono ?_
                  rintro e w2 ⟨rfl, rfl⟩
                  go_wp2_with fail
                  refine HEM.out.mono ?_
                  rintro e w2 ⟨rfl, rfl⟩
                  go_wp2_with fail
                  go_roundg q3
                  case measure => omega
                  case rel => exact ⟨i + 1, t3, M3, by have := HI.out; omega, rfl, by go_num, Lib.hid (hst.out.trans HST2.out), HB3, hF3⟩
end Go.Proofs.YtcekbhhpcmhicaaGreatDoor
/- MatrixUtil_buildMatrix. -/
namespace Go.Proofs.YtcekbhhpcmhicaaGreatDoor
open Go Go.RowKit Go.Deep
set_option maxRecDepth 100000
/-- all but the data -/
def funM (v l k : Nat) : Nat → Nat → Int := viM v (tyAll (17 + 4 * v) (tiBits l k) 15 (basicM v))
/-- the whole symbol -/
def symM (v l k : Nat) (bits : List Bool) : (Nat → Nat → Int) × Nat := emb bits k (funM v l k) (pathOf (17 + 4 * v) (8 + 2 * v))
set_option maxHeartbeats 1600000 in
theorem build_calls {w : World} {lo hi q v p g nb m r : Nat} {bits : List Bool} {M : Nat → Nat → Int} (hv : VerAt w lo hi q v) (hb : BA w p g nb bits) (h : BM w m r (17 + 4 * v) M) (hr : hi ≤ r + 1)
    (hp : ¬ Rw r (17 + 4 * v) p) (hg : ¬ Rw r (17 + 4 * v) g) (l k : Nat) (hl : l < 4) (hk : k < 8) (hall : (symM v l k bits).2 = bits.length) :
    Calls Tryz.prog 72 #[.pointer (some ⟨p, 0, none⟩), i64 l, .pointer (some ⟨q, 0, none⟩), .int .i64 k, .pointer (some ⟨m, 0, none⟩)] w fun e w' => e = .returned .nilIface ∧ BM w' m r (17 + 4 * v) (symM v l k bits).1 ∧ Fr (Rw r (17 + 4 * v)) w w' := by
  have hv1 := hv.v1
  have HV := Lib.hid hv
  have HBA := Lib.hid hb
  have HNO := Lib.hid (show _ ∧ _ from ⟨hp, hg⟩)
  have HALL := Lib.hid hall
  have H := Lib.hid h
  clear hv hb h hp hg hall
  go_enter Tryz.func72, Tryz.ntmps72
  go_wp2_with fail
  refine (clearM_calls H.out).mono ?_
  rintro e w1 ⟨rfl, hb1, hf1⟩
  have HB1 := Lib.hid hb1
  have HF1 := Lib.hid hf1
  clear hb1 hf1
  go_wp2_with fail
  refine (basic_calls (HV.out.far HF1.out hr) HB1.out hr).mono ?_
  rintro e w2 ⟨rfl, hb1, hf1⟩
  have HB2 := Lib.hid hb1
  have HF2 := Lib.hid (HF1.out.trans hf1)
  clear hb1 hf1 HB1 HF1
  go_wp2_with fail
  refine (typeInfo_calls HB2.out (by omega) l k hl hk).mono ?_
  rintro e w3 ⟨rfl, hb1, hf1⟩
  have HB3 := Lib.hid hb1
  have HF3 := Lib.hid (HF2.out.trans hf1)
  clear hb1 hf1 HB2 HF2
  go_wp2_with fail
  refine (verInfo_calls (HV.out.far HF3.out hr) HB3.out hr).mono ?_
  rintro e w4 ⟨rfl, hb1, hf1⟩
  have HB4 := Lib.hid hb1
  have HF4 := Lib.hid (HF3.out.trans hf1)
  clear hb1 hf1 HB3 HF3
  have HE := Lib.hid (embedData_calls (HBA.out.fr HF4.out HNO.out.1 HNO.out.2) HB4.out (by omega) (by omega) k hk HNO.out.1 HNO.out.2 (by
    rw [show (17 + 4 * v - 1) / 2 = 8 + 2 * v from by omega]; exact HALL.out))
  go_wp2_with fail
  refine HE.out.mono ?_
  rintro e w5 ⟨rfl, hb1, hf1⟩
  have HB5 : Hid (BM w5 m r (17 + 4 * v) (symM v l k bits).1) := Lib.hid (by
    rw [show (17 + 4 * v - 1) / 2 = 8 + 2 * v from by omega] at hb1; exact hb1)
  have HF5 := Lib.hid (HF4.out.trans hf1)
  clear hb1 hf1 HB4 HF4 HE
  go_wp2_with fail
  go_ret
  exact ⟨rfl, HB5.out, HF5.out⟩
end Go.Proofs.YtcekbhhpcmhicaaGreatDoor
/- Small laws of lists. -/
namespace Go.Proofs.YtcekbhhpcmhicaaGreatDoor
theorem gdE {α : Type} (l : List α) (d : α) {n : Nat} (h : n < l.length) : l.getD n d = l[n] := by
  rw [List.getD_eq_getElem?_getD, List.getElem?_eq_getElem h]; rfl
theorem gdN {α : Type} (l : List α) (d : α) {n : Nat} (h : l.length ≤ n) : l.getD n d = d := by
  rw [List.getD_eq_getElem?_getD, List.getElem?_eq_none h]; rfl
theorem gdL {α : Type} (l k : List α) (d : α) (n : Nat) (h : n < l.length) : (l ++ k).getD n d = l.getD n d := by
  rw [List.getD_eq_getElem?_getD, List.getD_eq_getElem?_getD, List.getElem?_append_left h]
theorem gdR {α : Type} (l k : List α) (d : α) (n : Nat) (h : l.length ≤ n) : (l ++ k).getD n d = k.getD (n - l.length) d := by
  rw [List.getD_eq_getElem?_getD, List.getD_eq_getElem?_getD, List.getElem?_append_right h]
end Go.Proofs.YtcekbhhpcmhicaaGreatDoor
/- Which cells of a symbol its fixed patterns fill (plain). -/
namespace Go.Proofs.YtcekbhhpcmhicaaGreatDoor
open Go
set_option maxRecDepth 100000
/-- within two cells -/
def near (c x : Nat) : Prop := c ≤ x + 2 ∧ x ≤ c + 2
def base0 (n : Nat) : Nat → Nat → Int := upd (sep6 n (sq3 n blank)) 8 (n - 8) 1
theorem lai_empty (T : List (List Int)) (k xs ys : Nat) (M : Nat → Nat → Int) (hT : ∀ i, i < k → ∀ j, j < k → at2 T i j ≠ -1) (y x : Nat) : lai T k xs ys M y x = -1 ↔ M y x = -1 ∧ ¬ (ys ≤ y ∧ y < ys + k ∧ xs ≤ x ∧ x < xs + k) := by
  unfold lai
  split
  · rename_i h
    exact ⟨fun e => absurd e (hT _ (by omega) _ (by omega)), fun e => absurd h e.2⟩
  · rename_i h
    exact ⟨fun e => ⟨e, h⟩, fun e => e.1⟩
theorem hz0_empty (k xs ys : Nat) (M : Nat → Nat → Int) (y x : Nat) : hz0 k xs ys M y x = -1 ↔ M y x = -1 ∧ ¬ (y = ys ∧ xs ≤ x ∧ x < xs + k) := by
  unfold hz0
  split
  · rename_i h
    exact ⟨fun e => absurd e (by decide), fun e => absurd h e.2⟩
  · rename_i h
    exact ⟨fun e => ⟨e, h⟩, fun e => e.1⟩
theorem vz0_empty (k xs ys : Nat) (M : Nat → Nat → Int) (y x : Nat) : vz0 k xs ys M y x = -1 ↔ M y x = -1 ∧ ¬ (x = xs ∧ ys ≤ y ∧ y < ys + k) := by
  unfold vz0
  split
  · rename_i h
    exact ⟨fun e => absurd e (by decide), fun e => absurd h e.2⟩
  · rename_i h
    exact ⟨fun e => ⟨e, h⟩, fun e => e.1⟩
theorem upd_empty (M : Nat → Nat → Int) (x y : Nat) (v : Int) (hv : v ≠ -1) (y' x' : Nat) : upd M x y v y' x' = -1 ↔ M y' x' = -1 ∧ ¬ (y' = y ∧ x' = x) := by
  unfold upd
  split
  · rename_i h
    exact ⟨fun e => absurd e hv, fun e => absurd h e.2⟩
  · rename_i h
    exact ⟨fun e => ⟨e, h⟩, fun e => e.1⟩
theorem pdp_full : ∀ i, i < 7 → ∀ j, j < 7 → at2 pdpT i j ≠ -1 := by decide
theorem pap_full : ∀ i, i < 5 → ∀ j, j < 5 → at2 papT i j ≠ -1 := by decide
theorem base0_empty (n : Nat) (hn : 21 ≤ n) (y x : Nat) (hy : y < n) (hx : x < n) : base0 n y x = -1 ↔ ¬ (x < 8 ∧ y < 8) ∧ ¬ (n - 8 ≤ x ∧ y < 8) ∧ ¬ (x < 8 ∧ n - 8 ≤ y) ∧ ¬ (x = 8 ∧ y = n - 8) := by
  unfold base0 sep6 sq3
  rw [upd_empty _ _ _ _ (by decide), vz0_empty, vz0_empty, vz0_empty, hz0_empty, hz0_empty, hz0_empty, lai_empty _ _ _ _ _ pdp_full, lai_empty _ _ _ _ _ pdp_full, lai_empty _ _ _ _ _ pdp_full]
  simp only [blank, true_and]
  omega
/-- a small square, where its middle is free -/
def stA (M : Nat → Nat → Int) (p : Nat × Nat) : Nat → Nat → Int := if M p.1 p.2 = -1 then lai papT 5 (p.2 - 2) (p.1 - 2) M else M
theorem stA_empty (M : Nat → Nat → Int) (p : Nat × Nat) (h2 : 2 ≤ p.1 ∧ 2 ≤ p.2) (y x : Nat) : stA M p y x = -1 ↔ M y x = -1 ∧ (M p.1 p.2 = -1 → ¬ (near p.1 y ∧ near p.2 x)) := by
  unfold stA near
  split
  · rename_i h
    rw [lai_empty papT 5 _ _ M pap_full]
    constructor
    · rintro ⟨a, b⟩
      exact ⟨a, fun _ => by omega⟩
    · rintro ⟨a, b⟩
      have b := b h
      exact ⟨a, by omega⟩
  · rename_i h
    exact ⟨fun a => ⟨a, fun b => absurd b h⟩, fun a => a.1⟩
theorem stA_fold : ∀ (ps : List (Nat × Nat)) (M : Nat → Nat → Int), (∀ p ∈ ps, 2 ≤ p.1 ∧ 2 ≤ p.2) →
    ps.Pairwise (fun p q => p.1 + 5 ≤ q.1 ∨ q.1 + 5 ≤ p.1 ∨ p.2 + 5 ≤ q.2 ∨ q.2 + 5 ≤ p.2) → ∀ y x, (ps.foldl stA M) y x = -1 ↔ M y x = -1 ∧ ∀ p ∈ ps, M p.1 p.2 = -1 → ¬ (near p.1 y ∧ near p.2 x)
  | [], M, _, _, y, x => by simp
  | p :: ps, M, h2, hp, y, x => by
    rw [List.pairwise_cons] at hp
    rw [List.foldl_cons, stA_fold ps (stA M p) (fun q hq => h2 q (by simp [hq])) hp.2 y x]
    have hb := h2 p (by simp)
    rw [stA_empty M p hb]
    constructor
    · rintro ⟨⟨a, b⟩, c⟩
      refine ⟨a, fun q hq => ?_⟩
      rcases List.mem_cons.1 hq with e | e
      · subst e; exact b
      · intro hm
        refine c q e ((stA_empty M p hb q.1 q.2).2 ⟨hm, fun _ => ?_⟩)
        have := hp.1 q e
        unfold near; omega
    · rintro ⟨a, b⟩
      exact ⟨⟨a, b p (by simp)⟩, fun q hq hm => b q (by simp [hq]) ((stA_empty M p hb _ _).1 hm).1⟩
def cnat (cs : List Int) : List Nat := (cs.filter fun c => decide (0 ≤ c)).map Int.toNat
def prs (cs : List Nat) : List (Nat × Nat) := cs.flatMap fun y => cs.map fun x => (y, x)
theorem cnat_yes (c : Int) (cs : List Int) (h : 0 ≤ c) : cnat (c :: cs) = c.toNat :: cnat cs := by
  unfold cnat; rw [List.filter_cons_of_pos (by simpa using h), List.map_cons]
theorem cnat_no (c : Int) (cs : List Int) (h : ¬ 0 ≤ c) : cnat (c :: cs) = cnat cs := by
  unfold cnat; rw [List.filter_cons_of_neg (by simpa using h)]
theorem adjIn_fold (y : Nat) : ∀ (cs : List Int) (M : Nat → Nat → Int), cs.foldl (adjIn y) M = ((cnat cs).map fun x => (y, x)).foldl stA M
  | [], M => rfl
  | c :: cs, M => by
    rw [List.foldl_cons, adjIn_fold y cs]
    by_cases h : 0 ≤ c
    · rw [cnat_yes c cs h, List.map_cons, List.foldl_cons]
      congr 1
      unfold adjIn stA
      simp only [h, true_and]
    · rw [cnat_no c cs h]
      congr 1
      unfold adjIn
      rw [if_neg (fun e => h e.1)]
theorem adjAll_fold (cs : List Int) (M : Nat → Nat → Int) : adjAll cs M = (prs (cnat cs)).foldl stA M := by
  unfold adjAll prs
  suffices h : ∀ (l : List Int) (M : Nat → Nat → Int), l.foldl (adjOut cs) M = ((cnat l).flatMap fun y => (cnat cs).map fun x => (y, x)).foldl stA M from h cs M
  intro l
  induction l with
  | nil => intro M; rfl
  | cons c l ih =>
    intro M
    rw [List.foldl_cons, ih]
    by_cases h : 0 ≤ c
    · rw [cnat_yes c l h, List.flatMap_cons, List.foldl_append]
      congr 1
      unfold adjOut
      rw [if_pos h, adjIn_fold]
    · rw [cnat_no c l h]
      congr 1
      unfold adjOut
      rw [if_neg h]
/-- the centers are as the standard has them -/
def cenOk (n : Nat) (cs : List Nat) : Bool := cs.all fun c => (c == 6 || decide (16 ≤ c)) && (c + 7 == n || decide (c + 9 ≤ n))
def gaps : List Nat → Bool
  | a :: b :: r => decide (a + 5 ≤ b) && gaps (b :: r)
  | _ => true
theorem cen_all : ∀ v, v < 41 → 1 ≤ v → cnat (adjOf v) = cen v ∧ cenOk (17 + 4 * v) (cen v) = true ∧ gaps (cen v) = true := by decide +kernel
theorem gaps_le : ∀ (a : Nat) (l : List Nat), gaps (a :: l) = true → ∀ b ∈ l, a + 5 ≤ b
  | a, [], _, b, hb => by simp at hb
  | a, c :: l, h, b, hb => by
    simp only [gaps, Bool.and_eq_true, decide_eq_true_eq] at h
    rcases List.mem_cons.1 hb with e | e
    · rw [e]; exact h.1
    · have := gaps_le c l h.2 b e
      omega
theorem gaps_pw : ∀ (l : List Nat), gaps l = true → l.Pairwise (fun a b => a + 5 ≤ b)
  | [], _ => List.Pairwise.nil
  | [a], _ => by simp
  | a :: b :: l, h => by
    refine List.Pairwise.cons (gaps_le a (b :: l) h) (gaps_pw (b :: l) ?_)
    simp only [gaps, Bool.and_eq_true] at h
    exact h.2
theorem prs_pw (cs : List Nat) (h : cs.Pairwise (fun a b => a + 5 ≤ b)) : (prs cs).Pairwise (fun p q => p.1 + 5 ≤ q.1 ∨ q.1 + 5 ≤ p.1 ∨ p.2 + 5 ≤ q.2 ∨ q.2 + 5 ≤ p.2) := by
  unfold prs
  rw [List.pairwise_flatMap]
  constructor
  · intro y _
    rw [List.pairwise_map]
    exact h.imp fun e => .inr (.inr (.inl e))
  · refine h.imp fun {a b} e p hp q hq => ?_
    rw [List.mem_map] at hp hq
    obtain ⟨x, _, rfl⟩ := hp
    obtain ⟨z, _, rfl⟩ := hq
    exact .inl e
theorem tim_empty (k : Nat) (M : Nat → Nat → Int) (y x : Nat) : tim k M y x = -1 ↔ M y x = -1 ∧ ¬ (y = 6 ∧ 8 ≤ x ∧ x < 8 + k) ∧ ¬ (x = 6 ∧ 8 ≤ y ∧ y < 8 + k) := by
  unfold tim
  split
  · omega
  · split <;> omega
theorem fold_empty (f : (Nat → Nat → Int) → Nat → (Nat → Nat → Int)) (P : Nat → Nat → Nat → Prop) (hf : ∀ M i y x, f M i y x = -1 ↔ M y x = -1 ∧ ¬ P i y x) :
    ∀ (l : List Nat) (M : Nat → Nat → Int) (y x : Nat), (l.foldl f M) y x = -1 ↔ M y x = -1 ∧ ∀ i ∈ l, ¬ P i y x
  | [], M, y, x => by simp
  | i :: l, M, y, x => by
    rw [List.foldl_cons, fold_empty f P hf l, hf]
    simp only [List.forall_mem_cons, and_assoc]
/-- the cell (x, y) of type bit i beside the first square -/
def tcell (i : Nat) : Nat × Nat := if i < 6 then (8, i) else if i < 8 then (8, i + 1) else if i = 8 then (7, 8) else (14 - i, 8)
theorem tic_tab : ∀ i, i < 15 → ((at2 ticT i 0).toNat, (at2 ticT i 1).toNat) = tcell i := by decide
theorem b01_full (b : Bool) : b01 b ≠ -1 := by cases b <;> decide
theorem ty_empty (n : Nat) (hn : 21 ≤ n) (bits : List Bool) (M : Nat → Nat → Int) (y x : Nat) (hy : y < n) (hx : x < n) : tyAll n bits 15 M y x = -1 ↔ M y x = -1 ∧ ¬ (x = 8 ∧ y ≤ 8 ∧ y ≠ 6) ∧ ¬ (y = 8 ∧ x ≤ 8 ∧ x ≠ 6) ∧ ¬ (y = 8 ∧ n - 8 ≤ x) ∧ ¬ (x = 8 ∧ n - 7 ≤ y) := by
  unfold tyAll
  rw [fold_empty (tyStep n bits) (fun i y x => (y = (at2 ticT i 1).toNat ∧ x = (at2 ticT i 0).toNat) ∨ (y = tyY n i ∧ x = tyX n i)) (fun M i y x => by
    unfold tyStep
    rw [upd_empty _ _ _ _ (b01_full _), upd_empty _ _ _ _ (b01_full _), and_assoc, not_or])]
  refine and_congr_right fun _ => ?_
  constructor
  · intro h
    have h1 : ∀ i, i < 15 → ¬ ((x, y) = tcell i) ∧ ¬ (y = tyY n i ∧ x = tyX n i) := by
      intro i hi
      have h2 := h i (List.mem_range.2 hi)
      rw [not_or] at h2
      refine ⟨fun e => h2.1 ?_, h2.2⟩
      rw [← tic_tab i hi] at e
      exact ⟨(Prod.mk.inj e).2, (Prod.mk.inj e).1⟩
    refine ⟨fun e => ?_, fun e => ?_, fun e => ?_, fun e => ?_⟩
    · refine (h1 (if y < 6 then y else y - 1) (by split <;> omega)).1 ?_
      obtain ⟨rfl, e1, e2⟩ := e
      unfold tcell
      by_cases c : y < 6
      · rw [if_pos c, if_pos c]
      · rw [if_neg c, if_neg (by omega), if_pos (by omega)]
        rw [show y - 1 + 1 = y from by omega]
    · obtain ⟨rfl, e1, e2⟩ := e
      by_cases c : x = 8
      · exact (h1 7 (by omega)).1 (by rw [c]; rfl)
      · by_cases c2 : x = 7
        · exact (h1 8 (by omega)).1 (by rw [c2]; rfl)
        · refine (h1 (14 - x) (by omega)).1 ?_
          unfold tcell
          rw [if_neg (by omega), if_neg (by omega), if_neg (by omega), show 14 - (14 - x) = x from by omega]
    · refine (h1 (n - 1 - x) (by omega)).2 ⟨?_, ?_⟩
      · unfold tyY; rw [if_pos (by omega)]; exact e.1
      · unfold tyX; rw [if_pos (by omega)]; omega
    · refine (h1 (y - (n - 7) + 8) (by omega)).2 ⟨?_, ?_⟩
      · unfold tyY; rw [if_neg (by omega)]; omega
      · unfold tyX; rw [if_neg (by omega)]; exact e.1
  · intro h i hi
    have hi := List.mem_range.1 hi
    have ht := tic_tab i hi
    rintro (e | e)
    · rw [← e.1, ← e.2] at ht
      unfold tcell at ht
      split at ht
      · have := Prod.mk.inj ht; omega
      · split at ht
        · have := Prod.mk.inj ht; omega
        · split at ht
          · have := Prod.mk.inj ht; omega
          · have := Prod.mk.inj ht; omega
    · unfold tyY tyX at e
      by_cases c : i < 8
      · rw [if_pos c, if_pos c] at e; omega
      · rw [if_neg c, if_neg c] at e; omega
theorem vi_empty (v : Nat) (hv : 1 ≤ v) (M : Nat → Nat → Int) (y x : Nat) : viM v M y x = -1 ↔ M y x = -1 ∧ ¬ (7 ≤ v ∧ x < 6 ∧ 17 + 4 * v - 11 ≤ y ∧ y < 17 + 4 * v - 8) ∧ ¬ (7 ≤ v ∧ y < 6 ∧ 17 + 4 * v - 11 ≤ x ∧ x < 17 + 4 * v - 8) := by
  unfold viM
  split
  · rename_i h
    exact ⟨fun e => ⟨e, by omega, by omega⟩, fun e => e.1⟩
  · rename_i h
    unfold viAll
    generalize viBits v = bits
    rw [fold_empty (viStep (17 + 4 * v) bits) (fun t y x => (y = 17 + 4 * v - 11 + t % 3 ∧ x = t / 3) ∨ (y = t / 3 ∧ x = 17 + 4 * v - 11 + t % 3)) (fun M i y x => by
      unfold viStep
      rw [upd_empty _ _ _ _ (b01_full _), upd_empty _ _ _ _ (b01_full _), and_assoc, not_or])]
    refine and_congr_right fun _ => ?_
    constructor
    · intro h1
      refine ⟨fun e => ?_, fun e => ?_⟩
      · have := h1 (3 * x + (y - (17 + 4 * v - 11))) (List.mem_range.2 (by omega))
        omega
      · have := h1 (3 * y + (x - (17 + 4 * v - 11))) (List.mem_range.2 (by omega))
        omega
    · intro h1 t ht
      have ht := List.mem_range.1 ht
      omega
/-- the corners' middles -/
def corner (n : Nat) (p : Nat × Nat) : Prop := (p.1 < 8 ∧ p.2 < 8) ∨ (p.1 < 8 ∧ n - 8 ≤ p.2) ∨ (n - 8 ≤ p.1 ∧ p.2 < 8)
/-- the cells that the data do not use -/
def fArea (v y x : Nat) : Prop :=
  (x < 9 ∧ y < 9) ∨ (17 + 4 * v - 8 ≤ x ∧ y < 9) ∨ (x < 9 ∧ 17 + 4 * v - 8 ≤ y) ∨ (y = 6 ∧ 9 ≤ x ∧ x < 17 + 4 * v - 8) ∨ (x = 6 ∧ 9 ≤ y ∧ y < 17 + 4 * v - 8) ∨
  (7 ≤ v ∧ x < 6 ∧ 17 + 4 * v - 11 ≤ y ∧ y < 17 + 4 * v - 8) ∨ (7 ≤ v ∧ y < 6 ∧ 17 + 4 * v - 11 ≤ x ∧ x < 17 + 4 * v - 8) ∨
  ∃ p ∈ prs (cen v), ¬ corner (17 + 4 * v) p ∧ near p.1 y ∧ near p.2 x
theorem prs_mem {cs : List Nat} {p : Nat × Nat} : p ∈ prs cs ↔ p.1 ∈ cs ∧ p.2 ∈ cs := by
  unfold prs
  rw [List.mem_flatMap]
  constructor
  · rintro ⟨y, hy, h⟩
    rw [List.mem_map] at h
    obtain ⟨x, hx, rfl⟩ := h
    exact ⟨hy, hx⟩
  · rintro ⟨h1, h2⟩
    exact ⟨p.1, h1, List.mem_map.2 ⟨p.2, h2, rfl⟩⟩
theorem cen_ok {v : Nat} (h1 : 1 ≤ v) (h2 : v ≤ 40) {c : Nat} (hc : c ∈ cen v) : (c = 6 ∨ 16 ≤ c) ∧ (c + 7 = 17 + 4 * v ∨ c + 9 ≤ 17 + 4 * v) := by
  have := (cen_all v (by omega) h1).2.1
  unfold cenOk at this
  rw [List.all_eq_true] at this
  have := this c hc
  simp only [Bool.and_eq_true, Bool.or_eq_true, beq_iff_eq, decide_eq_true_eq] at this
  exact this
theorem area_eq (v y x : Nat) (hy : y < 17 + 4 * v) (hx : x < 17 + 4 * v) :
    (((((¬(x < 8 ∧ y < 8) ∧ ¬(17 + 4 * v - 8 ≤ x ∧ y < 8) ∧ ¬(x < 8 ∧ 17 + 4 * v - 8 ≤ y) ∧ ¬(x = 8 ∧ y = 17 + 4 * v - 8)) ∧
      ¬(y = 6 ∧ 8 ≤ x ∧ x < 8 + (17 + 4 * v - 16)) ∧ ¬(x = 6 ∧ 8 ≤ y ∧ y < 8 + (17 + 4 * v - 16))) ∧
      ¬(x = 8 ∧ y ≤ 8 ∧ y ≠ 6) ∧ ¬(y = 8 ∧ x ≤ 8 ∧ x ≠ 6) ∧ ¬(y = 8 ∧ 17 + 4 * v - 8 ≤ x) ∧ ¬(x = 8 ∧ 17 + 4 * v - 7 ≤ y)) ∧
      ¬(7 ≤ v ∧ x < 6 ∧ 17 + 4 * v - 11 ≤ y ∧ y < 17 + 4 * v - 8) ∧ ¬(7 ≤ v ∧ y < 6 ∧ 17 + 4 * v - 11 ≤ x ∧ x < 17 + 4 * v - 8)) ↔
    ¬((x < 9 ∧ y < 9) ∨ (17 + 4 * v - 8 ≤ x ∧ y < 9) ∨ (x < 9 ∧ 17 + 4 * v - 8 ≤ y) ∨ (y = 6 ∧ 9 ≤ x ∧ x < 17 + 4 * v - 8) ∨ (x = 6 ∧ 9 ≤ y ∧ y < 17 + 4 * v - 8) ∨
      (7 ≤ v ∧ x < 6 ∧ 17 + 4 * v - 11 ≤ y ∧ y < 17 + 4 * v - 8) ∨ 7 ≤ v ∧ y < 6 ∧ 17 + 4 * v - 11 ≤ x ∧ x < 17 + 4 * v - 8)) := by
  constructor
  · rintro ⟨⟨⟨⟨h1, h2, h3, h4⟩, h5, h6⟩, h7, h8, h9, h10⟩, h11, h12⟩ (a | a | a | a | a | a | a)
    · clear h2 h3 h4 h9 h10 h11 h12
      by_cases e : x = 8
      · subst e
        by_cases e2 : y = 6
        · exact h5 ⟨e2, by omega, by omega⟩
        · exact h7 ⟨rfl, by omega, e2⟩
      · by_cases e2 : y = 8
        · by_cases e3 : x = 6
          · exact h6 ⟨e3, by omega, by omega⟩
          · exact h8 ⟨e2, by omega, e3⟩
        · exact h1 ⟨by omega, by omega⟩
    · by_cases e2 : y = 8
      · exact h9 ⟨e2, a.1⟩
      · exact h2 ⟨a.1, by omega⟩
    · by_cases e : x = 8
      · by_cases e2 : y = 17 + 4 * v - 8
        · exact h4 ⟨e, e2⟩
        · exact h10 ⟨e, by omega⟩
      · exact h3 ⟨by omega, a.2⟩
    · exact h5 ⟨a.1, by omega, by omega⟩
    · exact h6 ⟨a.1, by omega, by omega⟩
    · exact h11 a
    · exact h12 a
  · intro h
    simp only [not_or] at h
    obtain ⟨a, b, c, d, e, f, g⟩ := h
    refine ⟨⟨⟨⟨fun t => a ⟨by omega, by omega⟩, fun t => b ⟨t.1, by omega⟩, fun t => c ⟨by omega, t.2⟩, fun t => c ⟨by omega, by omega⟩⟩, fun t => ?_, fun t => ?_⟩, fun t => a ⟨by omega, by omega⟩, fun t => a ⟨by omega, by omega⟩, fun t => b ⟨t.2, by omega⟩, fun t => c ⟨by omega, by omega⟩⟩, f, g⟩
    · by_cases e2 : x = 8
      · exact a ⟨by omega, by omega⟩
      · exact d ⟨t.1, by omega, by omega⟩
    · by_cases e2 : y = 8
      · exact a ⟨by omega, by omega⟩
      · exact e ⟨t.1, by omega, by omega⟩
theorem fun_empty (v l k : Nat) (h1 : 1 ≤ v) (h2 : v ≤ 40) (y x : Nat) (hy : y < 17 + 4 * v) (hx : x < 17 + 4 * v) : funM v l k y x = -1 ↔ ¬ fArea v y x := by
  have hcn := cen_all v (by omega) h1
  unfold funM basicM
  rw [vi_empty v h1, ty_empty _ (by omega) _ _ _ _ hy hx, tim_empty, adjAll_fold, hcn.1, stA_fold _ _ ?_ (prs_pw _ (gaps_pw _ hcn.2.2))]
  · show (((base0 (17 + 4 * v) y x = -1 ∧ _) ∧ _) ∧ _) ∧ _ ↔ _
    rw [base0_empty _ (by omega) _ _ hy hx]
    have hb : (∀ p ∈ prs (cen v), base0 (17 + 4 * v) p.1 p.2 = -1 → ¬ (near p.1 y ∧ near p.2 x)) ↔ ¬ ∃ p ∈ prs (cen v), ¬ corner (17 + 4 * v) p ∧ near p.1 y ∧ near p.2 x := by
      have hc : ∀ p ∈ prs (cen v), base0 (17 + 4 * v) p.1 p.2 = -1 ↔ ¬ corner (17 + 4 * v) p := by
        intro p hp
        have hm := prs_mem.1 hp
        have e1 := cen_ok h1 h2 hm.1
        have e2 := cen_ok h1 h2 hm.2
        rw [base0_empty _ (by omega) _ _ (by omega) (by omega)]
        unfold corner
        omega
      constructor
      · rintro h ⟨p, hp, e, e2⟩
        exact h p hp ((hc p hp).2 e) e2
      · intro h p hp e e2
        exact h ⟨p, hp, (hc p hp).1 e, e2⟩
    have hb' : (∀ p ∈ prs (cen v), upd (sep6 (17 + 4 * v) (sq3 (17 + 4 * v) blank)) 8 (17 + 4 * v - 8) 1 p.1 p.2 = -1 → ¬ (near p.1 y ∧ near p.2 x)) ↔ ¬ ∃ p ∈ prs (cen v), ¬ corner (17 + 4 * v) p ∧ near p.1 y ∧ near p.2 x := hb
    rw [hb']
    unfold fArea
    generalize (∃ p ∈ prs (cen v), ¬ corner (17 + 4 * v) p ∧ near p.1 y ∧ near p.2 x) = Al
    by_cases hA : Al
    · simp only [hA, not_true_eq_false, and_false, false_and, or_true]
    · simp only [hA, not_false_eq_true, and_true, or_false]
      exact area_eq v y x hy hx
  · intro p hp
    have hm := prs_mem.1 hp
    have e1 := cen_ok h1 h2 hm.1
    have e2 := cen_ok h1 h2 hm.2
    omega
end Go.Proofs.YtcekbhhpcmhicaaGreatDoor
/- The path has each cell once; what is laid along it is found along it (plain). -/
namespace Go.Proofs.YtcekbhhpcmhicaaGreatDoor
open Go
set_option maxRecDepth 100000
theorem xr_down (n a b : Nat) (h : a < b) (hb : 2 * b + 2 < n) (ho : n % 2 = 1) : xr n b < xr n a - 1 := by
  unfold xr; split <;> split <;> omega
theorem cells_mem {n c s : Nat} {p : Nat × Nat} (h : p ∈ cellsOf n c s) : p.2 = yy n c s ∧ (p.1 = xr n c ∨ p.1 = xr n c - 1) := by
  unfold cellsOf at h
  rcases List.mem_cons.1 h with e | e
  · rw [e]; exact ⟨rfl, .inl rfl⟩
  · rcases List.mem_cons.1 e with e | e
    · rw [e]; exact ⟨rfl, .inr rfl⟩
    · simp at e
theorem col_mem {n c s : Nat} {p : Nat × Nat} (h : p ∈ colOf n c s) : ∃ t, t < s ∧ p ∈ cellsOf n c t := by
  unfold colOf at h
  rw [List.mem_flatMap] at h
  obtain ⟨t, ht, hp⟩ := h
  exact ⟨t, List.mem_range.1 ht, hp⟩
theorem path_mem {n c : Nat} {p : Nat × Nat} (h : p ∈ pathOf n c) : ∃ d t, d < c ∧ t < n ∧ p ∈ cellsOf n d t := by
  unfold pathOf at h
  rw [List.mem_flatMap] at h
  obtain ⟨d, hd, hp⟩ := h
  obtain ⟨t, ht, hp⟩ := col_mem hp
  exact ⟨d, t, List.mem_range.1 hd, ht, hp⟩
theorem path_in {n c : Nat} {p : Nat × Nat} (h : p ∈ pathOf n c) (hc : 2 * c < n) : p.1 < n ∧ p.2 < n := by
  obtain ⟨d, t, hd, ht, hp⟩ := path_mem h
  have h1 := cells_mem hp
  have h2 := xr_lt n d (by omega)
  have h3 := yy_lt n d t ht
  omega
theorem path_nodup (n c : Nat) (ho : n % 2 = 1) (hc : 2 * c < n) : (pathOf n c).Nodup := by
  unfold pathOf
  unfold List.Nodup
  rw [List.pairwise_flatMap]
  constructor
  · intro d hd
    have hd := List.mem_range.1 hd
    unfold colOf
    rw [List.pairwise_flatMap]
    constructor
    · intro s _
      have h2 := xr_lt n d (by omega)
      unfold cellsOf
      refine List.Pairwise.cons (fun q hq => ?_) (List.pairwise_singleton _ _)
      rcases List.mem_cons.1 hq with e | e
      · rw [e]; intro e2
        have := (Prod.mk.inj e2).1
        omega
      · simp at e
    · refine List.Pairwise.imp_of_mem (fun {a b} ha hb hab p hp q hq => ?_) (List.pairwise_lt_range (n := n))
      have ha := List.mem_range.1 ha
      have hb := List.mem_range.1 hb
      have h1 := (cells_mem hp).1
      have h2 := (cells_mem hq).1
      intro e
      rw [e, h2] at h1
      unfold yy at h1
      split at h1 <;> omega
  · refine List.Pairwise.imp_of_mem (fun {a b} ha hb hab p hp q hq => ?_) (List.pairwise_lt_range (n := c))
    have hb := List.mem_range.1 hb
    obtain ⟨s, _, hp⟩ := col_mem hp
    obtain ⟨t, _, hq⟩ := col_mem hq
    have h1 := (cells_mem hp).2
    have h2 := (cells_mem hq).2
    have h3 := xr_down n a b hab (by omega) ho
    intro e
    rw [e] at h1
    have := xr_lt n a (by omega)
    omega
def embAll (bits : List Bool) (k : Nat) (ps : List (Nat × Nat)) (s : (Nat → Nat → Int) × Nat) : (Nat → Nat → Int) × Nat := ps.foldl (embStep bits k) s
def free (M : Nat → Nat → Int) (p : Nat × Nat) : Bool := decide (M p.2 p.1 = -1)
def seen (k : Nat) (S : Nat → Nat → Int) (p : Nat × Nat) : Bool := (S p.2 p.1 == 1) ^^ maskB k p.1 p.2
theorem emb_law (bits : List Bool) (k : Nat) : ∀ (ps : List (Nat × Nat)) (M : Nat → Nat → Int) (i : Nat), ps.Nodup → i ≤ bits.length →
    (embAll bits k ps (M, i)).2 = min bits.length (i + (ps.filter (free M)).length) ∧
    (∀ p, p ∉ ps.filter (free M) → (embAll bits k ps (M, i)).1 p.2 p.1 = M p.2 p.1) ∧
    (ps.filter (free M)).map (seen k (embAll bits k ps (M, i)).1) = (List.range (ps.filter (free M)).length).map fun t => bits.getD (i + t) false
  | [], M, i, _, hi => ⟨by show i = min bits.length (i + 0); omega, fun _ _ => rfl, rfl⟩
  | p :: ps, M, i, hn, hi => by
    have hn := List.nodup_cons.1 hn
    by_cases h : M p.2 p.1 = -1
    · have hstep : embStep bits k (M, i) p = (upd M p.1 p.2 (b01 (bits.getD i false ^^ maskB k p.1 p.2)), if i < bits.length then i + 1 else i) := by
        unfold embStep; rw [if_pos h]
      have hff : ps.filter (free (upd M p.1 p.2 (b01 (bits.getD i false ^^ maskB k p.1 p.2)))) = ps.filter (free M) := by
        refine List.filter_congr fun q hq => ?_
        unfold free upd
        have hne : ¬ (q.2 = p.2 ∧ q.1 = p.1) := fun e => hn.1 (by rw [show p = q from Prod.ext e.2.symm e.1.symm]; exact hq)
        simp only [hne, if_false]
      obtain ⟨i1, i2, i3⟩ := emb_law bits k ps (upd M p.1 p.2 (b01 (bits.getD i false ^^ maskB k p.1 p.2))) (if i < bits.length then i + 1 else i) hn.2 (by split <;> omega)
      rw [hff] at i1 i2 i3
      have hfc : (p :: ps).filter (free M) = p :: ps.filter (free M) := List.filter_cons_of_pos (by simpa [free] using h)
      have hun : embAll bits k (p :: ps) (M, i) = embAll bits k ps (upd M p.1 p.2 (b01 (bits.getD i false ^^ maskB k p.1 p.2)), if i < bits.length then i + 1 else i) := by
        unfold embAll; rw [List.foldl_cons, hstep]
      rw [hun, hfc]
      refine ⟨?_, fun q hq => ?_, ?_⟩
      · rw [i1, List.length_cons]
        split <;> omega
      · have hq2 : ¬ q = p ∧ q ∉ ps.filter (free M) := by rw [List.mem_cons, not_or] at hq; exact hq
        rw [i2 q hq2.2]
        unfold upd
        rw [if_neg (fun e => hq2.1 (Prod.ext e.2 e.1))]
      · rw [List.map_cons, i3, List.length_cons, List.range_succ_eq_map, List.map_cons, List.map_map]
        congr 1
        · unfold seen
          rw [i2 p (fun e => hn.1 (List.mem_filter.1 e).1)]
          unfold upd
          rw [if_pos ⟨rfl, rfl⟩, Nat.add_zero]
          cases bits.getD i false <;> cases maskB k p.1 p.2 <;> rfl
        · refine List.map_congr_left fun t _ => ?_
          show bits.getD _ false = bits.getD (i + (t + 1)) false
          split
          · rw [show i + 1 + t = i + (t + 1) from by omega]
          · rw [gdN _ _ (by omega), gdN _ _ (by omega)]
    · have hstep : embStep bits k (M, i) p = (M, i) := by unfold embStep; rw [if_neg h]
      have hfc : (p :: ps).filter (free M) = ps.filter (free M) := List.filter_cons_of_neg (by simpa [free] using h)
      have hun : embAll bits k (p :: ps) (M, i) = embAll bits k ps (M, i) := by unfold embAll; rw [List.foldl_cons, hstep]
      rw [hun, hfc]
      exact emb_law bits k ps M i hn.2 hi
end Go.Proofs.YtcekbhhpcmhicaaGreatDoor
/- How many cells of the path are free: counted column by column, by intervals (plain). -/
namespace Go.Proofs.YtcekbhhpcmhicaaGreatDoor
open Go
set_option maxRecDepth 100000
def nearB (c x : Nat) : Bool := Nat.ble c (x + 2) && Nat.ble x (c + 2)
def cornerB (n a b : Nat) : Bool := (Nat.ble (a + 1) 8 && (Nat.ble (b + 1) 8 || Nat.ble (n - 8) b)) || (Nat.ble (n - 8) a && Nat.ble (b + 1) 8)
theorem nearB_iff (c x : Nat) : nearB c x = true ↔ near c x := by
  unfold nearB near
  rw [Bool.and_eq_true, Nat.ble_eq, Nat.ble_eq]
theorem cornerB_iff (n : Nat) (p : Nat × Nat) : cornerB n p.1 p.2 = true ↔ corner n p := by
  unfold cornerB corner
  simp only [Bool.or_eq_true, Bool.and_eq_true, Nat.ble_eq]
  omega
/-- y lies in one of the intervals -/
def hit (I : List (Nat × Nat)) (y : Nat) : Prop := ∃ p ∈ I, p.1 ≤ y ∧ y < p.2
/-- how many from p on below n lie in none, the intervals rising -/
def sweep (n : Nat) : Nat → List (Nat × Nat) → Nat
  | p, [] => n - p
  | p, i :: I => (i.1 - p) + sweep n (max p i.2) I
def rising : List (Nat × Nat) → Bool
  | [] => true
  | i :: I => (I.all fun j => Nat.ble i.1 j.1) && rising I
/-- the sum of g from p on, k terms -/
def sumF (g : Nat → Nat) (p : Nat) : Nat → Nat
  | 0 => 0
  | k + 1 => g p + sumF g (p + 1) k
theorem sumF_congr {g h : Nat → Nat} : ∀ (k p : Nat), (∀ y, p ≤ y → y < p + k → g y = h y) → sumF g p k = sumF h p k
  | 0, _, _ => rfl
  | k + 1, p, e => by
    unfold sumF
    rw [e p (by omega) (by omega), sumF_congr k (p + 1) (fun y a b => e y (by omega) (by omega))]
theorem sumF_const (c : Nat) : ∀ (k p : Nat), sumF (fun _ => c) p k = k * c
  | 0, _ => by simp [sumF]
  | k + 1, p => by unfold sumF; rw [sumF_const c k, Nat.add_mul]; omega
theorem sumF_add (g : Nat → Nat) : ∀ (a b p : Nat), sumF g p (a + b) = sumF g p a + sumF g (p + a) b
  | 0, b, p => by simp [sumF]
  | a + 1, b, p => by
    rw [show a + 1 + b = (a + b) + 1 from by omega, show sumF g p (a + b + 1) = g p + sumF g (p + 1) (a + b) from rfl, show sumF g p (a + 1) = g p + sumF g (p + 1) a from rfl,
      sumF_add g a b (p + 1), show p + 1 + a = p + (a + 1) from by omega]; omega
theorem sweep_eq (n : Nat) (g : Nat → Nat) : ∀ (I : List (Nat × Nat)) (p : Nat), rising I = true → (∀ i ∈ I, i.1 ≤ i.2 ∧ i.2 ≤ n) → (∀ y, p ≤ y → y < n → (hit I y → g y = 0) ∧ (¬ hit I y → g y = 1)) → sumF g p (n - p) = sweep n p I
  | [], p, _, _, h => by
    unfold sweep
    rw [sumF_congr (h := fun _ => 1) (n - p) p (fun y a b => (h y a (by omega)).2 (by rintro ⟨i, hi, _⟩; simp at hi)), sumF_const]; omega
  | i :: I, p, hr, hb, h => by
    unfold rising at hr
    rw [Bool.and_eq_true, List.all_eq_true] at hr
    have hi2 := hb i (by simp)
    unfold sweep
    have hlo : ∀ j ∈ I, i.1 ≤ j.1 := fun j hj => Nat.le_of_ble_eq_true (hr.1 j hj)
    have ih := sweep_eq n g I (max p i.2) hr.2 (fun j hj => hb j (by simp [hj])) (fun y a b => by
      have := h y (by omega) b
      refine ⟨fun t => this.1 ?_, fun t => this.2 ?_⟩
      · obtain ⟨j, hj, e⟩ := t
        exact ⟨j, by simp [hj], e⟩
      · rintro ⟨j, hj, e⟩
        rcases List.mem_cons.1 hj with q | q
        · subst q; omega
        · exact t ⟨j, q, e⟩)
    rw [← ih]
    have e1 : n - p = (i.1 - p) + ((max p i.2 - max p i.1) + (n - max p i.2)) := by omega
    have s1 : sumF g p (i.1 - p) = i.1 - p := by
      rw [sumF_congr (h := fun _ => 1) (i.1 - p) p (fun y a b => (h y a (by omega)).2 ?_), sumF_const]
      · omega
      · rintro ⟨j, hj, e⟩
        rcases List.mem_cons.1 hj with q | q
        · subst q; omega
        · have := hlo j q; omega
    have s2 : sumF g (max p i.1) (max p i.2 - max p i.1) = 0 := by
      rw [sumF_congr (h := fun _ => 0) (max p i.2 - max p i.1) (max p i.1) (fun y a b => (h y (by omega) (by omega)).1 ⟨i, by simp, by omega, by omega⟩), sumF_const]
      omega
    rw [e1, sumF_add, sumF_add, s1, show p + (i.1 - p) = max p i.1 from by omega, s2, show max p i.1 + (max p i.2 - max p i.1) = max p i.2 from by omega]
    omega
/-- the intervals of column x -/
def b7 (n : Nat) (cs : List Nat) (x a : Nat) : Bool := cs.any fun b => nearB b x && !cornerB n a b
def iv7 (n : Nat) (cs : List Nat) (x : Nat) (l : List Nat) : List (Nat × Nat) := (l.filter (b7 n cs x)).map fun a => (a - 2, a + 3)
def ivs (v n : Nat) (cs : List Nat) (x : Nat) : List (Nat × Nat) :=
  (bif Nat.ble (x + 1) 9 || Nat.ble (n - 8) x then [(0, 9)] else []) ++ ((bif Nat.ble 7 v && (Nat.ble (n - 11) x && Nat.ble (x + 1) (n - 8)) then [(0, 6)] else []) ++
  (iv7 n cs x (cs.filter fun a => Nat.beq a 6) ++ ((bif Nat.ble 9 x && Nat.ble (x + 1) (n - 8) then [(6, 7)] else []) ++ (iv7 n cs x (cs.filter fun a => !Nat.beq a 6) ++
  ((bif Nat.ble 7 v && Nat.ble (x + 1) 6 then [(n - 11, n - 8)] else []) ++ (bif Nat.ble (x + 1) 9 then [(n - 8, n)] else []))))))
theorem hit_app (I J : List (Nat × Nat)) (y : Nat) : hit (I ++ J) y ↔ hit I y ∨ hit J y := by
  unfold hit
  constructor
  · rintro ⟨p, hp, e⟩
    rcases List.mem_append.1 hp with h | h
    · exact .inl ⟨p, h, e⟩
    · exact .inr ⟨p, h, e⟩
  · rintro (⟨p, hp, e⟩ | ⟨p, hp, e⟩)
    · exact ⟨p, List.mem_append.2 (.inl hp), e⟩
    · exact ⟨p, List.mem_append.2 (.inr hp), e⟩
theorem hit_if (c : Bool) (a b y : Nat) : hit (bif c then [(a, b)] else []) y ↔ c = true ∧ a ≤ y ∧ y < b := by
  unfold hit
  cases c <;> simp
theorem hit_iv7 (n : Nat) (cs : List Nat) (x : Nat) (l : List Nat) (y : Nat) : hit (iv7 n cs x l) y ↔ ∃ a ∈ l, b7 n cs x a = true ∧ a - 2 ≤ y ∧ y < a + 3 := by
  unfold hit iv7
  constructor
  · rintro ⟨p, hp, e⟩
    obtain ⟨a, ha, rfl⟩ := List.mem_map.1 hp
    have := List.mem_filter.1 ha
    exact ⟨a, this.1, this.2, e⟩
  · rintro ⟨a, ha, hb, e⟩
    exact ⟨(a - 2, a + 3), List.mem_map.2 ⟨a, List.mem_filter.2 ⟨ha, hb⟩, rfl⟩, e⟩
theorem hit_two (n : Nat) (cs : List Nat) (x y : Nat) (h2 : ∀ c ∈ cs, 2 ≤ c) :
    (hit (iv7 n cs x (cs.filter fun a => Nat.beq a 6)) y ∨ hit (iv7 n cs x (cs.filter fun a => !Nat.beq a 6)) y) ↔ ∃ p ∈ prs cs, ¬ corner n p ∧ near p.1 y ∧ near p.2 x := by
  rw [hit_iv7, hit_iv7]
  have key : ∀ a ∈ cs, (b7 n cs x a = true ∧ a - 2 ≤ y ∧ y < a + 3) ↔ ∃ b ∈ cs, ¬ corner n (a, b) ∧ near a y ∧ near b x := by
    intro a ha
    have h2a := h2 a ha
    unfold b7
    rw [List.any_eq_true]
    constructor
    · rintro ⟨⟨b, hb, e⟩, e1, e2⟩
      rw [Bool.and_eq_true, Bool.not_eq_true'] at e
      refine ⟨b, hb, fun t => ?_, by unfold near; omega, (nearB_iff b x).1 e.1⟩
      rw [(cornerB_iff n (a, b)).2 t] at e
      exact Bool.noConfusion e.2
    · rintro ⟨b, hb, e0, e1, e2⟩
      unfold near at e1
      refine ⟨⟨b, hb, ?_⟩, by omega, by omega⟩
      rw [Bool.and_eq_true, Bool.not_eq_true']
      refine ⟨(nearB_iff b x).2 e2, ?_⟩
      cases e : cornerB n a b with
      | false => rfl
      | true => exact absurd ((cornerB_iff n (a, b)).1 e) e0
  constructor
  · rintro (⟨a, ha, e⟩ | ⟨a, ha, e⟩)
    · have ha := (List.mem_filter.1 ha).1
      obtain ⟨b, hb, e⟩ := (key a ha).1 e
      exact ⟨(a, b), prs_mem.2 ⟨ha, hb⟩, e⟩
    · have ha := (List.mem_filter.1 ha).1
      obtain ⟨b, hb, e⟩ := (key a ha).1 e
      exact ⟨(a, b), prs_mem.2 ⟨ha, hb⟩, e⟩
  · rintro ⟨p, hp, e⟩
    have hm := prs_mem.1 hp
    have e := (key p.1 hm.1).2 ⟨p.2, hm.2, e⟩
    cases h6 : Nat.beq p.1 6 with
    | true => exact .inl ⟨p.1, List.mem_filter.2 ⟨hm.1, h6⟩, e⟩
    | false => exact .inr ⟨p.1, List.mem_filter.2 ⟨hm.1, by simp [h6]⟩, e⟩
theorem ivs_area (v : Nat) (h1 : 1 ≤ v) (h2 : v ≤ 40) (y x : Nat) (hy : y < 17 + 4 * v) (hx : x < 17 + 4 * v) (h6 : x ≠ 6) : hit (ivs v (17 + 4 * v) (cen v) x) y ↔ fArea v y x := by
  have ht := hit_two (17 + 4 * v) (cen v) x y (fun c hc => by have := cen_ok h1 h2 hc; omega)
  unfold ivs
  simp only [hit_app, hit_if]
  unfold fArea
  rw [← ht]
  generalize hit (iv7 (17 + 4 * v) (cen v) x ((cen v).filter fun a => Nat.beq a 6)) y = A
  generalize hit (iv7 (17 + 4 * v) (cen v) x ((cen v).filter fun a => !Nat.beq a 6)) y = B
  simp only [Bool.or_eq_true, Bool.and_eq_true, Nat.ble_eq]
  constructor
  · rintro (h | h | h | h | h | h | h)
    · rcases h.1 with e | e
      · exact .inl ⟨by omega, by omega⟩
      · exact .inr (.inl ⟨by omega, by omega⟩)
    · exact .inr (.inr (.inr (.inr (.inr (.inr (.inl ⟨h.1.1, by omega, by omega, by omega⟩))))))
    · exact .inr (.inr (.inr (.inr (.inr (.inr (.inr (.inl h)))))))
    · exact .inr (.inr (.inr (.inl ⟨by omega, by omega, by omega⟩)))
    · exact .inr (.inr (.inr (.inr (.inr (.inr (.inr (.inr h)))))))
    · exact .inr (.inr (.inr (.inr (.inr (.inl ⟨h.1.1, by omega, by omega, by omega⟩)))))
    · exact .inr (.inr (.inl ⟨by omega, by omega⟩))
  · rintro (h | h | h | h | h | h | h | h)
    · exact .inl ⟨.inl (by omega), by omega, by omega⟩
    · exact .inl ⟨.inr (by omega), by omega, by omega⟩
    · exact .inr (.inr (.inr (.inr (.inr (.inr ⟨by omega, by omega, by omega⟩)))))
    · exact .inr (.inr (.inr (.inl ⟨⟨by omega, by omega⟩, by omega, by omega⟩)))
    · exact absurd h.1 h6
    · exact .inr (.inr (.inr (.inr (.inr (.inl ⟨⟨h.1, by omega⟩, by omega, by omega⟩)))))
    · exact .inr (.inl ⟨⟨h.1, by omega, by omega⟩, by omega, by omega⟩)
    · rcases h with h | h
      · exact .inr (.inr (.inl h))
      · exact .inr (.inr (.inr (.inr (.inl h))))
def opn (f : Nat → Nat → Bool) (p : Nat × Nat) : Bool := !f p.2 p.1
def fr (f : Nat → Nat → Bool) (x y : Nat) : Nat := bif f y x then 0 else 1
theorem sumF_down (g : Nat → Nat) (n : Nat) : ∀ k, k ≤ n → sumF (fun s => g (n - 1 - s)) 0 k + sumF g 0 (n - k) = sumF g 0 n := by
  have snoc : ∀ (h : Nat → Nat) (k p : Nat), sumF h p (k + 1) = sumF h p k + h (p + k) := by
    intro h k p
    have := sumF_add h k 1 p
    rw [this]; unfold sumF; simp [sumF]
  intro k
  induction k with
  | zero => intro _; simp [sumF]
  | succ k ih =>
    intro hk
    have ih := ih (by omega)
    rw [snoc, Nat.zero_add, ← ih, show n - k = (n - (k + 1)) + 1 from by omega, snoc, Nat.zero_add, show n - (k + 1) = n - 1 - k from by omega]
    omega
theorem col_count (f : Nat → Nat → Bool) (n c : Nat) : ∀ s, ((colOf n c s).filter (opn f)).length = sumF (fun t => fr f (xr n c) (yy n c t) + fr f (xr n c - 1) (yy n c t)) 0 s := by
  intro s
  induction s with
  | zero => rfl
  | succ s ih =>
    rw [colOf_succ, List.filter_append, List.length_append, ih, sumF_add _ s 1 0]
    congr 1
    show ([(xr n c, yy n c s), (xr n c - 1, yy n c s)].filter (opn f)).length = (fr f (xr n c) (yy n c (0 + s)) + fr f (xr n c - 1) (yy n c (0 + s))) + 0
    rw [Nat.zero_add, Nat.add_zero]
    unfold fr
    by_cases h1 : f (yy n c s) (xr n c) = true <;> by_cases h2 : f (yy n c s) (xr n c - 1) = true <;> simp [List.filter, opn, h1, h2]
theorem sumF_two (g h : Nat → Nat) : ∀ (k p : Nat), sumF (fun t => g t + h t) p k = sumF g p k + sumF h p k
  | 0, _ => rfl
  | k + 1, p => by unfold sumF; rw [sumF_two g h k (p + 1)]; omega
theorem col_full (f : Nat → Nat → Bool) (n c : Nat) : ((colOf n c n).filter (opn f)).length = sumF (fr f (xr n c)) 0 n + sumF (fr f (xr n c - 1)) 0 n := by
  rw [col_count]
  by_cases hc : c % 2 = 0
  · have e : ∀ t, yy n c t = n - 1 - t := fun t => by unfold yy; rw [if_pos hc]
    simp only [e]
    have h := sumF_down (fun y => fr f (xr n c) y + fr f (xr n c - 1) y) n n (Nat.le_refl _)
    rw [Nat.sub_self] at h
    rw [← sumF_two, ← h]
    rfl
  · have e : ∀ t, yy n c t = t := fun t => by unfold yy; rw [if_neg hc]
    simp only [e]
    exact sumF_two _ _ n 0
/-- the count by intervals -/
def cnt (v n : Nat) (cs : List Nat) : Nat → Nat
  | 0 => 0
  | c + 1 => cnt v n cs c + (sweep n 0 (ivs v n cs (xr n c)) + sweep n 0 (ivs v n cs (xr n c - 1)))
def okI (n : Nat) (I : List (Nat × Nat)) : Bool := rising I && I.all fun i => Nat.ble i.1 i.2 && Nat.ble i.2 n
theorem cells_all : ∀ v, v < 28 → 1 ≤ v → cnt v (17 + 4 * v) (cen v) (8 + 2 * v) / 8 = tot v ∧ (List.range (17 + 4 * v)).all (fun x => okI (17 + 4 * v) (ivs v (17 + 4 * v) (cen v) x)) = true := by decide +kernel
theorem path_count (v : Nat) (h1 : 1 ≤ v) (h2 : v ≤ 27) (f : Nat → Nat → Bool) (hf : ∀ y x, y < 17 + 4 * v → x < 17 + 4 * v → (f y x = true ↔ fArea v y x)) :
    ((pathOf (17 + 4 * v) (8 + 2 * v)).filter (opn f)).length = cnt v (17 + 4 * v) (cen v) (8 + 2 * v) := by
  have hok := (cells_all v (by omega) h1).2
  rw [List.all_eq_true] at hok
  have hcol : ∀ x, x < 17 + 4 * v → x ≠ 6 → sumF (fr f x) 0 (17 + 4 * v) = sweep (17 + 4 * v) 0 (ivs v (17 + 4 * v) (cen v) x) := by
    intro x hx h6
    have ho := hok x (List.mem_range.2 hx)
    unfold okI at ho
    rw [Bool.and_eq_true, List.all_eq_true] at ho
    refine sweep_eq (17 + 4 * v) (fr f x) _ 0 ho.1 (fun i hi => ?_) (fun y _ hy => ?_)
    · have := ho.2 i hi
      rw [Bool.and_eq_true, Nat.ble_eq, Nat.ble_eq] at this
      exact this
    · have ha := ivs_area v h1 (by omega) y x hy hx h6
      have hfy := hf y x hy hx
      unfold fr
      refine ⟨fun t => ?_, fun t => ?_⟩
      · rw [hfy.2 (ha.1 t)]; rfl
      · have : f y x = false := by
          cases e : f y x with
          | false => rfl
          | true => exact absurd (ha.2 (hfy.1 e)) t
        rw [this]; rfl
  have key : ∀ c, c ≤ 8 + 2 * v → ((pathOf (17 + 4 * v) c).filter (opn f)).length = cnt v (17 + 4 * v) (cen v) c := by
    intro c
    induction c with
    | zero => intro _; rfl
    | succ c ih =>
      intro hc
      have hx := xr_lt (17 + 4 * v) c (by omega)
      rw [pathOf_succ, List.filter_append, List.length_append, ih (by omega), col_full]
      have a1 : xr (17 + 4 * v) c ≠ 6 := by unfold xr; split <;> omega
      have a2 : xr (17 + 4 * v) c - 1 ≠ 6 := by unfold xr; split <;> omega
      rw [hcol _ hx.1 a1, hcol _ (by omega) a2]
      rfl
  exact key _ (Nat.le_refl _)
end Go.Proofs.YtcekbhhpcmhicaaGreatDoor
/- The reader's pattern of cells that are not data is the writer's (plain). -/
namespace Go.Proofs.YtcekbhhpcmhicaaGreatDoor
open Go
set_option maxRecDepth 100000
def reg (l t w h : Nat) (B : Nat → Nat → Bool) : Nat → Nat → Bool := fun y x => B y x || decide (t ≤ y ∧ y < t + h ∧ l ≤ x ∧ x < l + w)
def exA (m i j : Nat) : Bool := (i == 0 && (j == 0 || j + 1 == m)) || (i + 1 == m && j == 0)
def alJ (cs : List Nat) (i : Nat) (B : Nat → Nat → Bool) (j : Nat) : Nat → Nat → Bool := if exA cs.length i j then B else reg (cs.getD j 0 - 2) (cs.getD i 0 - 2) 5 5 B
def alI (cs : List Nat) (B : Nat → Nat → Bool) (i : Nat) : Nat → Nat → Bool := (List.range cs.length).foldl (alJ cs i) B
def alF (cs : List Nat) (B : Nat → Nat → Bool) : Nat → Nat → Bool := (List.range cs.length).foldl (alI cs) B
def noB : Nat → Nat → Bool := fun _ _ => false
def fpA (v : Nat) : Nat → Nat → Bool := reg 0 (17 + 4 * v - 8) 9 8 (reg (17 + 4 * v - 8) 0 8 9 (reg 0 0 9 9 noB))
def fpC (v : Nat) : Nat → Nat → Bool := reg 9 6 (17 + 4 * v - 17) 1 (reg 6 9 1 (17 + 4 * v - 17) (alF (cen v) (fpA v)))
def fpM (v : Nat) : Nat → Nat → Bool := if 6 < v then reg 0 (17 + 4 * v - 11) 6 3 (reg (17 + 4 * v - 11) 0 3 6 (fpC v)) else fpC v
theorem reg_iff (l t w h : Nat) (B : Nat → Nat → Bool) (y x : Nat) : reg l t w h B y x = true ↔ B y x = true ∨ (t ≤ y ∧ y < t + h ∧ l ≤ x ∧ x < l + w) := by
  unfold reg; rw [Bool.or_eq_true, decide_eq_true_eq]
theorem fold_or (f : (Nat → Nat → Bool) → Nat → (Nat → Nat → Bool)) (P : Nat → Nat → Nat → Prop) (hf : ∀ B i y x, f B i y x = true ↔ B y x = true ∨ P i y x) :
    ∀ (l : List Nat) (B : Nat → Nat → Bool) (y x : Nat), (l.foldl f B) y x = true ↔ B y x = true ∨ ∃ i ∈ l, P i y x
  | [], B, y, x => by simp
  | i :: l, B, y, x => by
    rw [List.foldl_cons, fold_or f P hf l, hf]
    constructor
    · rintro ((h | h) | ⟨j, hj, h⟩)
      · exact .inl h
      · exact .inr ⟨i, by simp, h⟩
      · exact .inr ⟨j, by simp [hj], h⟩
    · rintro (h | ⟨j, hj, h⟩)
      · exact .inl (.inl h)
      · rcases List.mem_cons.1 hj with e | e
        · subst e; exact .inl (.inr h)
        · exact .inr ⟨j, e, h⟩
def hitA (cs : List Nat) (i j y x : Nat) : Prop := exA cs.length i j = false ∧ cs.getD i 0 - 2 ≤ y ∧ y < cs.getD i 0 - 2 + 5 ∧ cs.getD j 0 - 2 ≤ x ∧ x < cs.getD j 0 - 2 + 5
theorem alF_iff (cs : List Nat) (B : Nat → Nat → Bool) (y x : Nat) : alF cs B y x = true ↔ B y x = true ∨ ∃ i ∈ List.range cs.length, ∃ j ∈ List.range cs.length, hitA cs i j y x := by
  unfold alF
  refine fold_or (alI cs) (fun i y x => ∃ j ∈ List.range cs.length, hitA cs i j y x) (fun B i y x => ?_) _ B y x
  unfold alI
  refine fold_or (alJ cs i) (fun j y x => hitA cs i j y x) (fun B j y x => ?_) _ B y x
  unfold alJ hitA
  cases e : exA cs.length i j with
  | true => simp
  | false => rw [if_neg (by decide), reg_iff]; simp
theorem exA_all : ∀ v, v < 41 → 1 ≤ v → ∀ i, i < (cen v).length → ∀ j, j < (cen v).length → exA (cen v).length i j = cornerB (17 + 4 * v) ((cen v).getD i 0) ((cen v).getD j 0) := by decide +kernel
theorem alF_area (v : Nat) (h1 : 1 ≤ v) (h2 : v ≤ 40) (y x : Nat) : (∃ i ∈ List.range (cen v).length, ∃ j ∈ List.range (cen v).length, hitA (cen v) i j y x) ↔ ∃ p ∈ prs (cen v), ¬ corner (17 + 4 * v) p ∧ near p.1 y ∧ near p.2 x := by
  have hmem : ∀ i, i < (cen v).length → (cen v).getD i 0 ∈ cen v := fun i hi => by
    rw [gdE _ _ hi]; exact List.getElem_mem hi
  constructor
  · rintro ⟨i, hi, j, hj, h⟩
    have hi := List.mem_range.1 hi
    have hj := List.mem_range.1 hj
    have e1 := cen_ok h1 h2 (hmem i hi)
    have e2 := cen_ok h1 h2 (hmem j hj)
    refine ⟨((cen v).getD i 0, (cen v).getD j 0), prs_mem.2 ⟨hmem i hi, hmem j hj⟩, fun e => ?_, ?_, ?_⟩
    · have e3 := (cornerB_iff (17 + 4 * v) ((cen v).getD i 0, (cen v).getD j 0)).2 e
      rw [← exA_all v (by omega) h1 i hi j hj, h.1] at e3
      exact Bool.noConfusion e3
    · have h := h.2; unfold near; dsimp only; omega
    · have h := h.2; unfold near; dsimp only; omega
  · rintro ⟨p, hp, h0, hn1, hn2⟩
    have hm := prs_mem.1 hp
    have e1 := cen_ok h1 h2 hm.1
    have e2 := cen_ok h1 h2 hm.2
    obtain ⟨i, hi, ei⟩ := List.getElem_of_mem hm.1
    obtain ⟨j, hj, ej⟩ := List.getElem_of_mem hm.2
    have gi : (cen v).getD i 0 = p.1 := by rw [gdE _ _ hi, ei]
    have gj : (cen v).getD j 0 = p.2 := by rw [gdE _ _ hj, ej]
    refine ⟨i, List.mem_range.2 hi, j, List.mem_range.2 hj, ?_⟩
    unfold hitA
    rw [exA_all v (by omega) h1 i hi j hj, gi, gj]
    unfold near at hn1 hn2
    refine ⟨?_, by omega, by omega, by omega, by omega⟩
    cases e : cornerB (17 + 4 * v) p.1 p.2 with
    | false => rfl
    | true => exact absurd ((cornerB_iff _ p).1 e) h0
theorem fpM_iff (v : Nat) (h1 : 1 ≤ v) (h2 : v ≤ 40) (y x : Nat) (hy : y < 17 + 4 * v) (hx : x < 17 + 4 * v) : fpM v y x = true ↔ fArea v y x := by
  have hC : fpC v y x = true ↔ ((noB y x = true ∨ (0 ≤ y ∧ y < 0 + 9 ∧ 0 ≤ x ∧ x < 0 + 9)) ∨ (0 ≤ y ∧ y < 0 + 9 ∧ 17 + 4 * v - 8 ≤ x ∧ x < 17 + 4 * v - 8 + 8)) ∨ (17 + 4 * v - 8 ≤ y ∧ y < 17 + 4 * v - 8 + 8 ∧ 0 ≤ x ∧ x < 0 + 9) ∨ (∃ p ∈ prs (cen v), ¬ corner (17 + 4 * v) p ∧ near p.1 y ∧ near p.2 x) ∨ (9 ≤ y ∧ y < 9 + (17 + 4 * v - 17) ∧ 6 ≤ x ∧ x < 6 + 1) ∨ (6 ≤ y ∧ y < 6 + 1 ∧ 9 ≤ x ∧ x < 9 + (17 + 4 * v - 17)) := by
    unfold fpC fpA
    rw [reg_iff, reg_iff, alF_iff, alF_area v h1 h2, reg_iff, reg_iff, reg_iff]
    simp only [or_assoc]
  have hno : ¬ (noB y x = true) := by simp [noB]
  have hM : fpM v y x = true ↔ fpC v y x = true ∨ (6 < v ∧ ((0 ≤ y ∧ y < 0 + 6 ∧ 17 + 4 * v - 11 ≤ x ∧ x < 17 + 4 * v - 11 + 3) ∨ (17 + 4 * v - 11 ≤ y ∧ y < 17 + 4 * v - 11 + 3 ∧ 0 ≤ x ∧ x < 0 + 6))) := by
    unfold fpM
    split
    · rename_i h
      rw [reg_iff, reg_iff]
      simp only [h, true_and, or_assoc]
    · rename_i h
      simp only [h, false_and, or_false]
  rw [hM, hC]
  unfold fArea
  generalize (∃ p ∈ prs (cen v), ¬ corner (17 + 4 * v) p ∧ near p.1 y ∧ near p.2 x) = Al
  by_cases hA : Al
  · simp only [hA, or_true, true_or]
  · simp only [hA, hno, or_false, false_or]
    constructor
    · rintro ((((h0 | h) | h) | h | h | h) | ⟨hv, h | h⟩)
      · exact absurd h0 (by decide)
      · exact .inl ⟨by omega, by omega⟩
      · exact .inr (.inl ⟨by omega, by omega⟩)
      · exact .inr (.inr (.inl ⟨by omega, by omega⟩))
      · exact .inr (.inr (.inr (.inr (.inl ⟨by omega, by omega, by omega⟩))))
      · exact .inr (.inr (.inr (.inl ⟨by omega, by omega, by omega⟩)))
      · exact .inr (.inr (.inr (.inr (.inr (.inr ⟨by omega, by omega, by omega, by omega⟩)))))
      · exact .inr (.inr (.inr (.inr (.inr (.inl ⟨by omega, by omega, by omega, by omega⟩)))))
    · rintro (h | h | h | h | h | h | h)
      · exact .inl (.inl (.inl (.inr ⟨by omega, by omega, by omega, by omega⟩)))
      · exact .inl (.inl (.inr ⟨by omega, by omega, by omega, by omega⟩))
      · exact .inl (.inr (.inl ⟨by omega, by omega, by omega, by omega⟩))
      · exact .inl (.inr (.inr (.inr ⟨by omega, by omega, by omega, by omega⟩)))
      · exact .inl (.inr (.inr (.inl ⟨by omega, by omega, by omega, by omega⟩)))
      · exact .inr ⟨by omega, .inr ⟨by omega, by omega, by omega, by omega⟩⟩
      · exact .inr ⟨by omega, .inl ⟨by omega, by omega, by omega, by omega⟩⟩
theorem fp_free (v l k : Nat) (h1 : 1 ≤ v) (h2 : v ≤ 40) {p : Nat × Nat} (hy : p.2 < 17 + 4 * v) (hx : p.1 < 17 + 4 * v) : opn (fpM v) p = free (funM v l k) p := by
  rw [Bool.eq_iff_iff]
  unfold opn free
  rw [Bool.not_eq_true', decide_eq_true_eq, fun_empty v l k h1 h2 _ _ hy hx, ← fpM_iff v h1 h2 _ _ hy hx]
  cases fpM v p.2 p.1 <;> simp
end Go.Proofs.YtcekbhhpcmhicaaGreatDoor
/- The symbol's cells are -1, 0 or 1 (plain). -/
namespace Go.Proofs.YtcekbhhpcmhicaaGreatDoor
open Go
set_option maxRecDepth 100000
def Tri (M : Nat → Nat → Int) : Prop := ∀ y x, -1 ≤ M y x ∧ M y x ≤ 1
theorem Tri.upd {M : Nat → Nat → Int} (h : Tri M) (x y : Nat) (v : Int) (hv : -1 ≤ v ∧ v ≤ 1) : Tri (upd M x y v) := by
  intro y' x'
  unfold Go.Proofs.YtcekbhhpcmhicaaGreatDoor.upd
  split
  · exact hv
  · exact h _ _
theorem Tri.lai {M : Nat → Nat → Int} (h : Tri M) (T : List (List Int)) (k xs ys : Nat) (hT : ∀ i, i < k → ∀ j, j < k → -1 ≤ at2 T i j ∧ at2 T i j ≤ 1) : Tri (lai T k xs ys M) := by
  intro y x
  unfold Go.Proofs.YtcekbhhpcmhicaaGreatDoor.lai
  split
  · rename_i c; exact hT _ (by omega) _ (by omega)
  · exact h _ _
theorem Tri.hz0 {M : Nat → Nat → Int} (h : Tri M) (k xs ys : Nat) : Tri (hz0 k xs ys M) := by
  intro y x
  unfold Go.Proofs.YtcekbhhpcmhicaaGreatDoor.hz0
  split
  · decide
  · exact h _ _
theorem Tri.vz0 {M : Nat → Nat → Int} (h : Tri M) (k xs ys : Nat) : Tri (vz0 k xs ys M) := by
  intro y x
  unfold Go.Proofs.YtcekbhhpcmhicaaGreatDoor.vz0
  split
  · decide
  · exact h _ _
theorem Tri.fold {α : Type} (f : (Nat → Nat → Int) → α → (Nat → Nat → Int)) (hf : ∀ M i, Tri M → Tri (f M i)) : ∀ (l : List α) (M : Nat → Nat → Int), Tri M → Tri (l.foldl f M)
  | [], _, h => h
  | i :: l, M, h => by rw [List.foldl_cons]; exact Tri.fold f hf l _ (hf M i h)
theorem b01_tri (b : Bool) : -1 ≤ b01 b ∧ b01 b ≤ 1 := by cases b <;> decide
theorem tri_blank : Tri blank := fun _ _ => by unfold blank; decide
theorem tri_pdp : ∀ i, i < 7 → ∀ j, j < 7 → -1 ≤ at2 pdpT i j ∧ at2 pdpT i j ≤ 1 := by decide
theorem tri_pap : ∀ i, i < 5 → ∀ j, j < 5 → -1 ≤ at2 papT i j ∧ at2 papT i j ≤ 1 := by decide
theorem tri_basic (v : Nat) : Tri (basicM v) := by
  have h0 : Tri (Go.Proofs.YtcekbhhpcmhicaaGreatDoor.upd (sep6 (17 + 4 * v) (sq3 (17 + 4 * v) blank)) 8 (17 + 4 * v - 8) 1) := by
    unfold sep6 sq3
    exact (((((((((tri_blank.lai _ _ _ _ tri_pdp).lai _ _ _ _ tri_pdp).lai _ _ _ _ tri_pdp).hz0 _ _ _).hz0 _ _ _).hz0 _ _ _).vz0 _ _ _).vz0 _ _ _).vz0 _ _ _).upd _ _ _ (by decide)
  have h1 : Tri (adjAll (adjOf v) (Go.Proofs.YtcekbhhpcmhicaaGreatDoor.upd (sep6 (17 + 4 * v) (sq3 (17 + 4 * v) blank)) 8 (17 + 4 * v - 8) 1)) := by
    unfold adjAll
    refine Tri.fold _ (fun M y hM => ?_) _ _ h0
    unfold adjOut
    split
    · refine Tri.fold _ (fun M x hM => ?_) _ _ hM
      unfold adjIn
      split
      · exact hM.lai _ _ _ _ tri_pap
      · exact hM
    · exact hM
  intro y x
  unfold basicM tim
  have := h1 y x
  split
  · omega
  · split
    · omega
    · exact this
theorem tri_fun (v l k : Nat) : Tri (funM v l k) := by
  have h1 : Tri (tyAll (17 + 4 * v) (tiBits l k) 15 (basicM v)) := by
    unfold tyAll
    refine Tri.fold _ (fun M i hM => ?_) _ _ (tri_basic v)
    unfold tyStep
    exact (hM.upd _ _ _ (b01_tri _)).upd _ _ _ (b01_tri _)
  unfold funM viM
  split
  · exact h1
  · unfold viAll
    refine Tri.fold _ (fun M i hM => ?_) _ _ h1
    unfold viStep
    exact (hM.upd _ _ _ (b01_tri _)).upd _ _ _ (b01_tri _)
theorem tri_sym (v l k : Nat) (bits : List Bool) : Tri (symM v l k bits).1 := by
  unfold symM emb
  suffices h : ∀ (ps : List (Nat × Nat)) (s : (Nat → Nat → Int) × Nat), Tri s.1 → Tri (ps.foldl (embStep bits k) s).1 from h _ _ (tri_fun v l k)
  intro ps
  induction ps with
  | nil => intro s h; exact h
  | cons p ps ih =>
    intro s h
    refine ih _ ?_
    unfold embStep
    split
    · exact h.upd _ _ _ (b01_tri _)
    · exact h
end Go.Proofs.YtcekbhhpcmhicaaGreatDoor
