/- The shelf's contracts of math/bits.Len32 and LeadingZeros32, laid for this program (the shelf's templates with the numbers filled in). -/
import Derived.Test.YtcekbhhpcmhicaaGreatDoorProg
import Derived.Lib.Strings
import Derived.Lib.Slices
import Derived.Lib.Small
import Derived.Lib.Walk
import Derived.Lib.BitFns
set_option linter.unusedSimpArgs false
set_option linter.unusedVariables false
namespace Go.Proofs.YtcekbhhpcmhicaaGreatDoor
open Go

set_option maxHeartbeats 4000000 in
set_option maxRecDepth 100000 in
/-- bits.Len32: "Len32 returns the minimum number of bits required to represent x; the result is 0 for x == 0.": IT RETURNS 'Lib.bitLen x'; the world is as it was. ('h0', 'h1': x is a uint32.) -/
theorem Tryz.bits_Len32 (x : Int) (w : World) (h0 : 0 ≤ x) (h1 : x ≤ 4294967295) :
    Calls Tryz.prog 286 #[.int .u32 x] w fun e w' => e = .returned (.int .i64 (Lib.bitLen x.toNat)) ∧ w' = w := by
  go_enter Tryz.func286, Tryz.ntmps286
  go_wp2
  all_goals (go_ret; refine ⟨congrArg Ending.returned (congrArg (Value.int IntKind.i64) ?_), rfl⟩)
  all_goals first
    | (rw [Lib.len8_of (x / 65536 / 256 % 256) (by omega) (by omega)]
       have e : (x / 65536 / 256 % 256).toNat = x.toNat / 16777216 := by omega
       have l := Lib.bitLen_le8' (x / 65536 / 256 % 256) (by omega) (by omega)
       have s := Lib.bitLen_shift24 x.toNat (by omega) (by omega)
       rw [e] at l ⊢
       omega)
    | (rw [Lib.len8_of (x / 65536 % 256) (by omega) (by omega)]
       have e : (x / 65536 % 256).toNat = x.toNat / 65536 := by omega
       have l := Lib.bitLen_le8' (x / 65536 % 256) (by omega) (by omega)
       have s := Lib.bitLen_shift16 x.toNat (by omega) (by omega)
       rw [e] at l ⊢
       omega)
    | (rw [Lib.len8_of (x / 256 % 256) (by omega) (by omega)]
       have e : (x / 256 % 256).toNat = x.toNat / 256 := by omega
       have l := Lib.bitLen_le8' (x / 256 % 256) (by omega) (by omega)
       have s := Lib.bitLen_shift8 x.toNat (by omega) (by omega)
       rw [e] at l ⊢
       omega)
    | (rw [Lib.len8_of (x % 256) (by omega) (by omega)]
       have e : (x % 256).toNat = x.toNat := by omega
       have l := Lib.bitLen_le8' (x % 256) (by omega) (by omega)
       rw [e] at l ⊢
       omega)


theorem Tryz.bitLen_le32 (x : Int) (h0 : 0 ≤ x) (h1 : x ≤ 4294967295) : Lib.bitLen x.toNat ≤ 32 := Lib.bitLen_le x.toNat 32 (by omega) (by omega)

/-- bits.LeadingZeros32: "LeadingZeros32 returns the number of leading zero bits in x; the result is 32 for x == 0.": IT RETURNS '32 - Lib.bitLen x'; the world is as it was. ITS CALLEE bits.Len32 IS MET BY ITS OWN CONTRACT OFF THE SHELF (lay that first): entered in place it sends the kernel out of memory. -/
theorem Tryz.bits_LeadingZeros32 (x : Int) (w : World) (h0 : 0 ≤ x) (h1 : x ≤ 4294967295) :
    Calls Tryz.prog 268 #[.int .u32 x] w fun e w' => e = .returned (.int .i64 (32 - (Lib.bitLen x.toNat : Int))) ∧ w' = w := by
  have l := Tryz.bitLen_le32 x h0 h1
  have e8 : (32 - (Lib.bitLen x.toNat : Int) + 9223372036854775808) % 18446744073709551616 - 9223372036854775808 = 32 - (Lib.bitLen x.toNat : Int) := by omega
  go_enter Tryz.func268, Tryz.ntmps268
  go_wp2_with (go_at_call 286; refine (Tryz.bits_Len32 x _ h0 h1).mono ?_; rintro e w' ⟨rfl, rfl⟩)
  go_ret
  refine ⟨?_, rfl⟩
  rw [← e8]
  rfl


end Go.Proofs.YtcekbhhpcmhicaaGreatDoor
