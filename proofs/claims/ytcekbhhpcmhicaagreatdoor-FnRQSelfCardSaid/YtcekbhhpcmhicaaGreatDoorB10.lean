/- The length of a number in bits: the shelf's contracts of math/bits, laid for this program; findMSBSet; the check bits of Bose, Chaudhuri and Hocquenghem. -/
import Derived.Test.YtcekbhhpcmhicaaGreatDoorB00
import Derived.Test.YtcekbhhpcmhicaaGreatDoorB08
import Derived.Test.YtcekbhhpcmhicaaGreatDoorB09
import Derived.Test.YtcekbhhpcmhicaaGreatDoorB06
set_option linter.unusedSimpArgs false
set_option linter.unusedVariables false
namespace Go.Proofs.YtcekbhhpcmhicaaGreatDoor
open Go Go.RowKit Go.Deep

set_option maxRecDepth 100000
theorem findMSB_calls (x : Nat) (hx : x ≤ 4294967295) (w : World) : Calls Tryz.prog 237 #[.int .i64 x] w fun e w' => e = .returned (.int .i64 (Lib.bitLen x)) ∧ w = w' := by
  have HL := Lib.hid (Tryz.bits_LeadingZeros32 (x : Int) w (by omega) (by omega))
  have hle := Lib.bitLen_le x 32 (by omega) (by omega)
  have hw : IntKind.u32.wrap (x : Int) = (x : Int) := IntWalk.u32_in _ (by omega)
  generalize hb : Lib.bitLen x = b at *
  have HB := Lib.hid hb
  have HL2 : Hid (Calls Tryz.prog 268 #[.int .u32 (x : Int)] w fun e w' => e = .returned (.int .i64 (32 - (b : Int))) ∧ w' = w) := Lib.hid (by
    have := HL.out
    rw [Int.toNat_natCast, hb] at this; exact this)
  clear hb HL
  go_enter Tryz.func237, Tryz.ntmps237
  go_wp2_with fail
  refine HL2.out.mono ?_
  rintro e w1 ⟨rfl, rfl⟩
  go_wp2_with fail
  go_ret
  exact ⟨by rw [show (32 : Int) - (32 - (b : Int)) = (b : Int) from by omega]; rfl, rfl⟩
/-- the division by poly (L bits), with fuel -/
def bchF (poly L : Nat) : Nat → Nat → Option Nat
  | 0, _ => none
  | k + 1, v => if 1048576 ≤ v then none else if Lib.bitLen v < L then some v else bchF poly L k (v ^^^ (poly * 2 ^ (Lib.bitLen v - L)))
set_option maxHeartbeats 1600000 in
theorem bchT_calls (w : World) (s : Nat) (hs : s < 64) (R : Nat) (hR : bchF 1335 11 20 (s * 1024) = some R) :
    Calls Tryz.prog 205 #[.int .i64 s, .int .i64 1335] w fun e w' => e = .returned (.tuple #[.int .i64 R, .nilIface]) ∧ w = w' := by
  have H1 : Hid (Calls Tryz.prog 237 #[.int .i64 1335] w fun e w' => e = .returned (.int .i64 11) ∧ w = w') := Lib.hid (by
    have := findMSB_calls 1335 (by omega) w
    rwa [show Lib.bitLen 1335 = 11 from by decide] at this)
  have HR := Lib.hid hR
  clear hR
  go_enter Tryz.func205, Tryz.ntmps205
  go_wp2_with fail
  refine H1.out.mono ?_
  rintro e w1 ⟨rfl, rfl⟩
  go_wp2_with fail
  go_loopg [0] 20 (fun k s0 wr => ∃ v : Nat, s0 = .int .i64 v ∧ Hid (bchF 1335 11 k v = some R) ∧ wr = w)
  case atStart => exact ⟨s * 1024, by go_num, HR, rfl⟩
  case round =>
    obtain ⟨v, rfl, HV, rfl⟩ := hrel
    cases gk with
    | zero => exact absurd HV.out (by simp [bchF])
    | succ k =>
      have hv := HV.out
      unfold bchF at hv
      have hvb : v < 1048576 := by
        by_cases h : 1048576 ≤ v
        · rw [if_pos h] at hv; cases hv
        · omega
      rw [if_neg (by omega)] at hv
      have HF := Lib.hid (findMSB_calls v (by omega) wr)
      have hbl := Lib.bitLen_le v 20 (by omega) (by omega)
      generalize hb : Lib.bitLen v = b at *
      have HB := Lib.hid hb
      clear hb
      by_cases hlt : b < 11
      · rw [if_pos hlt] at hv
        have hvR : v = R := by simpa using hv
        have HVR := Lib.hid hvR
        have hz : ¬ (11 : Int) ≤ (b : Int) := by omega
        clear hv hvR
        go_wp2_with fail
        refine HF.out.mono ?_
        rintro e w1 ⟨rfl, rfl⟩
        go_wp2_with fail
        go_ret2
        exact ⟨by rw [HVR.out]; rfl, rfl⟩
      · rw [if_neg hlt] at hv
        have hz : (11 : Int) ≤ (b : Int) := by omega
        obtain ⟨d, hd⟩ : ∃ d, b = 11 + d := ⟨b - 11, by omega⟩
        rw [show b - 11 = d from by omega] at hv
        have hp : 2 ^ d ≤ 512 := by
          have : 2 ^ d ≤ 2 ^ 9 := Nat.pow_le_pow_right (by omega) (by omega)
          simpa using this
        have hx := i64_xor_nat v (1335 * 2 ^ d) (by omega) (by omega)
        have hc : wrap64 (1335 * 2 ^ d) = ((1335 * 2 ^ d : Nat) : Int) := by
          have := wrap64_small (1335 * 2 ^ d) (by omega)
          rw [← this]; push_cast; rfl
        have HX := Lib.hid hx
        have HC := Lib.hid hc
        have HVR := Lib.hid hv
        clear hv hx hc hp
        go_wp2_with fail
        refine HF.out.mono ?_
        rintro e w1 ⟨rfl, rfl⟩
        go_wp2_with fail
        refine HF.out.mono ?_
        rintro e w1 ⟨rfl, rfl⟩
        go_wp2_with fail
        go_roundg k
        case measure => omega
        case rel => exact ⟨v ^^^ (1335 * 2 ^ d), by rw [HC.out, HX.out], HVR, rfl⟩
set_option maxHeartbeats 1600000 in
theorem bchV_calls (w : World) (s : Nat) (hs : s < 64) (R : Nat) (hR : bchF 7973 13 20 (s * 4096) = some R) :
    Calls Tryz.prog 205 #[.int .i64 s, .int .i64 7973] w fun e w' => e = .returned (.tuple #[.int .i64 R, .nilIface]) ∧ w = w' := by
  have H1 : Hid (Calls Tryz.prog 237 #[.int .i64 7973] w fun e w' => e = .returned (.int .i64 13) ∧ w = w') := Lib.hid (by
    have := findMSB_calls 7973 (by omega) w
    rwa [show Lib.bitLen 7973 = 13 from by decide] at this)
  have HR := Lib.hid hR
  clear hR
  go_enter Tryz.func205, Tryz.ntmps205
  go_wp2_with fail
  refine H1.out.mono ?_
  rintro e w1 ⟨rfl, rfl⟩
  go_wp2_with fail
  go_loopg [0] 20 (fun k s0 wr => ∃ v : Nat, s0 = .int .i64 v ∧ Hid (bchF 7973 13 k v = some R) ∧ wr = w)
  case atStart => exact ⟨s * 4096, by go_num, HR, rfl⟩
  case round =>
    obtain ⟨v, rfl, HV, rfl⟩ := hrel
    cases gk with
    | zero => exact absurd HV.out (by simp [bchF])
    | succ k =>
      have hv := HV.out
      unfold bchF at hv
      have hvb : v < 1048576 := by
        by_cases h : 1048576 ≤ v
        · rw [if_pos h] at hv; cases hv
        · omega
      rw [if_neg (by omega)] at hv
      have HF := Lib.hid (findMSB_calls v (by omega) wr)
      have hbl := Lib.bitLen_le v 20 (by omega) (by omega)
      generalize hb : Lib.bitLen v = b at *
      have HB := Lib.hid hb
      clear hb
      by_cases hlt : b < 13
      · rw [if_pos hlt] at hv
        have hvR : v = R := by simpa using hv
        have HVR := Lib.hid hvR
        have hz : ¬ (13 : Int) ≤ (b : Int) := by omega
        clear hv hvR
        go_wp2_with fail
        refine HF.out.mono ?_
        rintro e w1 ⟨rfl, rfl⟩
        go_wp2_with fail
        go_ret2
        exact ⟨by rw [HVR.out]; rfl, rfl⟩
      · rw [if_neg hlt] at hv
        have hz : (13 : Int) ≤ (b : Int) := by omega
        obtain ⟨d, hd⟩ : ∃ d, b = 13 + d := ⟨b - 13, by omega⟩
        rw [show b - 13 = d from by omega] at hv
        have hp : 2 ^ d ≤ 512 := by
          have : 2 ^ d ≤ 2 ^ 9 := Nat.pow_le_pow_right (by omega) (by omega)
          simpa using this
        have hx := i64_xor_nat v (7973 * 2 ^ d) (by omega) (by omega)
        have hc : wrap64 (7973 * 2 ^ d) = ((7973 * 2 ^ d : Nat) : Int) := by
          have := wrap64_small (7973 * 2 ^ d) (by omega)
          rw [← this]; push_cast; rfl
        have HX := Lib.hid hx
        have HC := Lib.hid hc
        have HVR := Lib.hid hv
        clear hv hx hc hp
        go_wp2_with fail
        refine HF.out.mono ?_
        rintro e w1 ⟨rfl, rfl⟩
        go_wp2_with fail
        refine HF.out.mono ?_
        rintro e w1 ⟨rfl, rfl⟩
        go_wp2_with fail
        go_roundg k
        case measure => omega
        case rel => exact ⟨v ^^^ (7973 * 2 ^ d), by rw [HC.out, HX.out], HVR, rfl⟩
end Go.Proofs.YtcekbhhpcmhicaaGreatDoor
