/- The encoder: terminateBits. -/
import Derived.Deep.DeepCutAuto
import Derived.Deep.CutBlock
import Derived.Test.YtcekbhhpcmhicaaGreatDoorB11
set_option linter.unusedSimpArgs false
set_option linter.unusedVariables false
namespace Go.Proofs.YtcekbhhpcmhicaaGreatDoor
open Go Go.RowKit Go.Deep
set_option maxRecDepth 100000
theorem Put.size {w w1 : World} {p g : Nat} {bs : List Bool} (h : Put w p g bs w1) : Calls Tryz.prog 109 #[.pointer (some ⟨p, 0, none⟩)] w1 fun e w' => e = .returned (.int .i64 (bs.length : Nat)) ∧ w1 = w' := by
  obtain ⟨g', n', hb, _, _⟩ := h
  exact size_calls hb
theorem Put.sizeBytes {w w1 : World} {p g : Nat} {bs : List Bool} (h : Put w p g bs w1) : Calls Tryz.prog 55 #[.pointer (some ⟨p, 0, none⟩)] w1 fun e w' => e = .returned (.int .i64 ((bs.length + 7) / 8 : Nat)) ∧ w1 = w' := by
  obtain ⟨g', n', hb, _, _⟩ := h
  exact sizeBytes_calls hb
theorem and7 (q : Nat) (h : q < 9223372036854775808) : bits .and .i64 (q : Int) 7 = (q : Int) % 8 := by
  have := i64_and_nat q 7 h (by omega)
  have e : q &&& 7 = q % 8 := Nat.and_two_pow_sub_one_eq_mod q 3
  rw [e] at this
  exact this
theorem and1 (q : Nat) (h : q < 9223372036854775808) : bits .and .i64 (q : Int) 1 = (q : Int) % 2 := by
  have := i64_and_nat q 1 h (by omega)
  have e : q &&& 1 = q % 2 := Nat.and_two_pow_sub_one_eq_mod q 1
  rw [e] at this
  exact this
/-- bits that begin with t zeros -/
def Zs (t : Nat) (zs : List Bool) : Prop := ∃ r, zs = List.replicate t false ++ r
set_option maxHeartbeats 3200000 in
theorem terminate_calls {w : World} {p g n : Nat} {bs : List Bool} (h : BA w p g n bs) (nd : Nat) (hnd : nd ≤ 4000) (hfit : bs.length ≤ 8 * nd) :
    Calls Tryz.prog 60 #[i64 nd, .pointer (some ⟨p, 0, none⟩)] w fun e w' => e = .returned .nilIface ∧ ∃ zs, Zs (min 4 (8 * nd - bs.length)) zs ∧ (bs ++ zs).length = 8 * nd ∧ Put w p g (bs ++ zs) w' := by
  have hP0 : Put w p g (bs ++ []) w := by rw [List.append_nil]; exact Put.refl h
  have HS := Lib.hid (size_calls h)
  have hc1 : ¬ ((nd : Int) * 8) < bs.length := by omega
  go_enter Tryz.func60, Tryz.ntmps60
  go_wp2_with fail
  refine HS.out.mono ?_
  rintro e w1 ⟨rfl, rfl⟩
  clear HS
  go_upto_block 0 with (fail)
  go_cut [6] (fun s6 wc => ∃ zs : List Bool, Hid (Zs (min 4 (8 * nd - bs.length)) zs ∧ bs.length + zs.length ≤ 8 * nd ∧ zs.length ≤ 4) ∧ Put w p g (bs ++ zs) wc)
  case first =>
    go_wp2_with fail
    -- the end: at most four zeros
    go_loopg [6] 4 (fun r s6 wr => ∃ i : Nat, i + r = 4 ∧ s6 = .int .i64 i ∧ Hid (bs.length + i ≤ 8 * nd ∨ i = 0) ∧ Put w p g (bs ++ List.replicate i false) wr)
    case atStart => exact ⟨0, by omega, rfl, Lib.hid (.inr rfl), hP0⟩
    case round =>
      obtain ⟨i, hi, rfl, HB, hP⟩ := hrel
      have HI := Lib.hid hi
      have hi4 : i ≤ 4 := by omega
      clear hi hP0
      have hlen : (bs ++ List.replicate i false).length = bs.length + i := by simp
      have hS := hP.size
      rw [hlen] at hS
      have HS := Lib.hid hS
      clear hS hlen
      by_cases hgo : i < 4 ∧ bs.length + i < 8 * nd
      · obtain ⟨g1, g2⟩ := hgo
        have g2z : ((bs.length + i : Nat) : Int) < (nd : Int) * 8 := by omega
        have HA := Lib.hid (hP.appendBit (by simp; omega) false)
        go_wp2_with fail
        refine HS.out.mono ?_
        rintro e w2 ⟨rfl, rfl⟩
        go_wp2_with fail
        refine HA.out.mono ?_
        rintro e w2 ⟨rfl, hP2⟩
        go_wp2
        go_roundg (3 - i)
        case measure => have := HI.out; omega
        case rel => exact ⟨i + 1, by omega, by go_num, Lib.hid (.inl (by omega)), by rw [List.replicate_succ', ← List.append_assoc]; exact hP2⟩
      · have HT : Hid (i = min 4 (8 * nd - bs.length) ∧ bs.length + i ≤ 8 * nd) := Lib.hid (by have := HB.out; omega)
        have hfin : Hid (Zs (min 4 (8 * nd - bs.length)) (List.replicate i false) ∧ bs.length + (List.replicate i false).length ≤ 8 * nd ∧ (List.replicate i false).length ≤ 4) :=
          Lib.hid ⟨⟨[], by rw [← HT.out.1, List.append_nil]⟩, by simpa using HT.out.2, by simpa using hi4⟩
        by_cases h1 : i < 4
        · have g2 : ¬ bs.length + i < 8 * nd := fun hx => hgo ⟨h1, hx⟩
          have g2z : ¬ ((bs.length + i : Nat) : Int) < (nd : Int) * 8 := by omega
          clear hgo
          go_wp2_with fail
          refine HS.out.mono ?_
          rintro e w2 ⟨rfl, rfl⟩
          go_wp2_with fail
          go_meet
          exact ⟨_, hfin, hP⟩
        · go_wp2_with fail
          go_meet
          exact ⟨_, hfin, hP⟩
  case rest =>
    obtain ⟨zs, HZ, hP⟩ := hcut
    clear hP0
    obtain ⟨q, hq⟩ : ∃ q, q = (bs ++ zs).length := ⟨_, rfl⟩
    have hS := hP.size
    rw [← hq] at hS
    have HS := Lib.hid hS
    have hq8 : q ≤ 8 * nd := by rw [hq, List.length_append]; exact HZ.out.2.1
    have HQ := Lib.hid hq
    clear hS hq
    have hand := and7 q (by omega)
    go_upto_if 42 with (go_at_call 109; refine HS.out.mono ?_; rintro e w2 ⟨rfl, rfl⟩)
    clear HS
    go_cut [8] (fun s8 wc => ∃ ys : List Bool, Hid (Zs (min 4 (8 * nd - bs.length)) ys ∧ bs.length + ys.length ≤ 8 * nd ∧ (bs ++ ys).length % 8 = 0) ∧ Put w p g (bs ++ ys) wc)
    case first =>
      by_cases h0 : q % 8 = 0
      · have h0z : ¬ (0 : Int) < (q : Int) % 8 := by omega
        go_wp2_with fail
        go_meet
        exact ⟨zs, Lib.hid ⟨HZ.out.1, HZ.out.2.1, by rw [← HQ.out]; exact h0⟩, hP⟩
      · have h0z : decide ((0 : Int) < (q : Int) % 8) = true := decide_eq_true (by omega)
        rw [h0z]
        go_wp2_with fail
        go_loopg [8] (8 - q % 8) (fun r s8 wr => ∃ i : Nat, i + r = 8 - q % 8 ∧ s8 = .int .i64 ((q : Int) % 8 + i) ∧ Put w p g ((bs ++ zs) ++ List.replicate i false) wr)
        case atStart => exact ⟨0, by omega, by simp, by simpa using hP⟩
        case round =>
          obtain ⟨i, hi, rfl, hP2⟩ := hrel
          clear hP
          cases gk with
          | zero =>
            have hz : ¬ (q : Int) % 8 + i < 8 := by omega
            have HI := Lib.hid hi
            clear hi
            go_wp2_with fail
            go_meet
            refine ⟨zs ++ List.replicate i false, Lib.hid ⟨?_, ?_, ?_⟩, by rw [← List.append_assoc]; exact hP2⟩
            · obtain ⟨r, hr⟩ := HZ.out.1
              exact ⟨r ++ List.replicate i false, by rw [hr, List.append_assoc]⟩
            · have := HQ.out; have := HI.out; rw [List.length_append] at *; simp; omega
            · have := HQ.out; have := HI.out; rw [← List.append_assoc, List.length_append, ← HQ.out]; simp; omega
          | succ r =>
            have hz : (q : Int) % 8 + i < 8 := by omega
            have HA := Lib.hid (hP2.appendBit (by rw [List.length_append, ← HQ.out]; simp; omega) false)
            have HI := Lib.hid hi
            clear hi
            go_wp2_with fail
            refine HA.out.mono ?_
            rintro e w2 ⟨rfl, hP3⟩
            go_wp2
            go_roundg r
            case measure => omega
            case rel => exact ⟨i + 1, by have := HI.out; omega, by go_num, by rw [List.replicate_succ', ← List.append_assoc]; exact hP3⟩
    case rest =>
      obtain ⟨ys, HY, hP2⟩ := hcut
      clear hP hand
      obtain ⟨m, hm⟩ : ∃ m, 8 * m = (bs ++ ys).length := ⟨(bs ++ ys).length / 8, by have := HY.out.2.2; omega⟩
      have hmd : m ≤ nd := by have := HY.out.2.1; rw [List.length_append] at hm; omega
      have hSB := hP2.sizeBytes
      rw [← hm, show (8 * m + 7) / 8 = m from by omega] at hSB
      have HSB := Lib.hid hSB
      have HM := Lib.hid hm
      clear hSB hm
      go_upto_block 4 with (go_at_call 55; refine HSB.out.mono ?_; rintro e w2 ⟨rfl, rfl⟩)
      go_cut [10, 11] (fun s10 s11 wc => ∃ xs : List Bool, Hid (Zs (min 4 (8 * nd - bs.length)) xs ∧ (bs ++ xs).length = 8 * nd) ∧ Put w p g (bs ++ xs) wc)
      case first =>
        go_wp2_with fail
        clear HSB
        go_loopg [10, 11] (nd - m) (fun r s10 s11 wr => ∃ (i : Nat) (xs : List Bool), Hid (i + r = nd - m ∧ Zs (min 4 (8 * nd - bs.length)) xs ∧ (bs ++ xs).length = 8 * (m + i)) ∧ s10 = .int .i64 i ∧ Put w p g (bs ++ xs) wr)
        case atStart => exact ⟨0, ys, Lib.hid ⟨by omega, HY.out.1, HM.out.symm⟩, rfl, hP2⟩
        case round =>
          obtain ⟨i, xs, HX, rfl, hP3⟩ := hrel
          clear hP2
          cases gk with
          | zero =>
            have hz : ¬ (i : Int) < (nd : Int) - m := by have := HX.out.1; omega
            go_wp2_with fail
            go_meet
            exact ⟨xs, Lib.hid ⟨HX.out.2.1, by have := HX.out.2.2; have := HX.out.1; omega⟩, hP3⟩
          | succ r =>
            have hz : (i : Int) < (nd : Int) - m := by have := HX.out.1; omega
            have hi : i ≤ 4000 := by omega
            have hl : (bs ++ xs).length ≤ 1800000 := by have := HX.out.2.2; omega
            have hand := and1 i (by omega)
            have HFin : ∀ v : Nat, Hid (Zs (min 4 (8 * nd - bs.length)) (xs ++ msb v 8) ∧ (bs ++ (xs ++ msb v 8)).length = 8 * (m + (i + 1))) := fun v => Lib.hid (by
              obtain ⟨r, hr⟩ := HX.out.2.1
              refine ⟨⟨r ++ msb v 8, by rw [hr, List.append_assoc]⟩, ?_⟩
              have := HX.out.2.2
              rw [← List.append_assoc, List.length_append, msb_length]; omega)
            by_cases hpar : i % 2 = 0
            · have hp1 : ((i : Int) % 2 == 0) = true := by simp; omega
              have HA := Lib.hid (hP3.appendBits hl 236 8 (by omega) (by omega))
              go_wp2_with fail
              refine HA.out.mono ?_
              rintro e w2 ⟨rfl, hP4⟩
              go_wp2
              go_roundg r
              case measure => omega
              case rel => exact ⟨i + 1, _, Lib.hid ⟨by have := HX.out.1; omega, (HFin 236).out⟩, by go_num, by rw [← List.append_assoc]; exact hP4⟩
            · have hp1 : ((i : Int) % 2 == 0) = false := by simp; omega
              have HA := Lib.hid (hP3.appendBits hl 17 8 (by omega) (by omega))
              go_wp2_with fail
              refine HA.out.mono ?_
              rintro e w2 ⟨rfl, hP4⟩
              go_wp2
              go_roundg r
              case measure => omega
              case rel => exact ⟨i + 1, _, Lib.hid ⟨by have := HX.out.1; omega, (HFin 17).out⟩, by go_num, by rw [← List.append_assoc]; exact hP4⟩
      case rest =>
        obtain ⟨xs, HX, hP3⟩ := hcut
        clear hP2 HSB
        have hS := hP3.size
        rw [HX.out.2] at hS
        have HS := Lib.hid hS
        clear hS
        have hne : (((8 * nd : Nat) : Int) != (nd : Int) * 8) = false := by simp; omega
        go_wp2_with (go_at_call 109; refine HS.out.mono ?_; rintro e w2 ⟨rfl, rfl⟩)
        go_ret
        exact ⟨rfl, xs, HX.out.1, HX.out.2, hP3⟩
end Go.Proofs.YtcekbhhpcmhicaaGreatDoor
