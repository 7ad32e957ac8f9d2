/- The first and the last dark pixel of a BitMatrix. -/
import Derived.Test.YtcekbhhpcmhicaaGreatDoorB25
set_option linter.unusedSimpArgs false
set_option linter.unusedVariables false
namespace Go.Proofs.YtcekbhhpcmhicaaGreatDoor
open Go Go.RowKit Go.Deep
set_option maxRecDepth 100000
theorem low_zero (V b : Nat) (h : ∀ i, i < b → V.testBit i = false) : V % 2 ^ b = 0 := by
  apply Nat.eq_of_testBit_eq
  intro i
  rw [Nat.testBit_mod_two_pow, Nat.zero_testBit]
  by_cases e : i < b
  · rw [h i e, Bool.and_false]
  · rw [decide_eq_false e, Bool.false_and]
theorem shl_zero (V b : Nat) (hb : b < 32) (h : ∀ i, i ≤ b → V.testBit i = false) : V * 2 ^ (31 - b) % 4294967296 = 0 := by
  have h1 := low_zero V (b + 1) (fun i hi => h i (by omega))
  obtain ⟨q, hq⟩ := Nat.dvd_of_mod_eq_zero h1
  rw [hq, Nat.mul_right_comm, ← Nat.pow_add, show b + 1 + (31 - b) = 32 from by omega]
  exact Nat.mul_mod_right 4294967296 q
theorem shl_pos (V b : Nat) (hb : b < 32) (h : V.testBit b = true) : V * 2 ^ (31 - b) % 4294967296 ≠ 0 := by
  intro e
  have h1 : (V * 2 ^ (31 - b) % 2 ^ 32).testBit 31 = false := by
    rw [show (2 : Nat) ^ 32 = 4294967296 from rfl, e, Nat.zero_testBit]
  rw [Nat.testBit_mod_two_pow, ← Nat.shiftLeft_eq, Nat.testBit_shiftLeft, decide_eq_true (by omega : 31 < 32), decide_eq_true (by omega : 31 ≥ 31 - b), show 31 - (31 - b) = b from by omega, h] at h1
  cases h1
/-- the first number below n of which p holds -/
theorem first_of {p : Nat → Prop} : ∀ {n : Nat}, (∃ k, k < n ∧ p k) → ∃ k, k < n ∧ p k ∧ ∀ i, i < k → ¬ p i
  | 0, ⟨k, h, _⟩ => absurd h (by omega)
  | n + 1, ⟨k, h, hp⟩ => by
    by_cases e : ∃ k, k < n ∧ p k
    · obtain ⟨k, h1, h2, h3⟩ := first_of e
      exact ⟨k, by omega, h2, h3⟩
    · have hk : k = n := by
        rcases Nat.lt_or_ge k n with h4 | h4
        · exact absurd ⟨k, h4, hp⟩ e
        · omega
      exact ⟨k, h, hp, fun i hi hpi => e ⟨i, by omega, hpi⟩⟩
theorem last_of {p : Nat → Prop} : ∀ {n : Nat}, (∃ k, k < n ∧ p k) → ∃ k, k < n ∧ p k ∧ ∀ i, k < i → i < n → ¬ p i
  | 0, ⟨k, h, _⟩ => absurd h (by omega)
  | n + 1, ⟨k, h, hp⟩ => by
    by_cases e : p n
    · exact ⟨n, by omega, e, fun i h1 h2 => absurd h1 (by omega)⟩
    · have hk : k < n := by
        rcases Nat.lt_or_ge k n with h4 | h4
        · exact h4
        · have : k = n := by omega
          subst this
          exact absurd hp e
      obtain ⟨k2, h1, h2, h3⟩ := last_of ⟨k, hk, hp⟩
      exact ⟨k2, by omega, h2, fun i h4 h5 => by
        by_cases e2 : i = n
        · subst e2; exact e
        · exact h3 i h4 (by omega)⟩
theorem qw_ne {B : Nat → Nat → Bool} {rs k : Nat} (h : qw B rs k ≠ 0) : ∃ b, b < 32 ∧ (qw B rs k).testBit b = true := by
  refine Classical.byContradiction fun e => h ?_
  apply Nat.eq_of_testBit_eq
  intro i
  rw [Nat.zero_testBit]
  by_cases hi : i < 32
  · cases hb : (qw B rs k).testBit i with
    | false => rfl
    | true => exact absurd ⟨i, hi, hb⟩ e
  · have h1 : (2 : Nat) ^ 32 ≤ 2 ^ i := Nat.pow_le_pow_right (by decide) (Nat.le_of_not_lt hi)
    exact Nat.testBit_lt_two_pow (Nat.lt_of_lt_of_le (qw_lt B rs k) h1)
/-- where a bit of a word stands -/
theorem qw_tb (B : Nat → Nat → Bool) (rs k b : Nat) (hb : b < 32) : (qw B rs k).testBit b = B (k / rs) (32 * (k % rs) + b) := by
  unfold qw
  rw [wf_testBit]
  simp only [hb, decide_true, Bool.true_and]
set_option maxHeartbeats 3200000 in
theorem topLeft_calls {w : World} {p g W H : Nat} {B : Nat → Nat → Bool} (h : QX w p g W H B) (hex : ∃ k, k < qs W * H ∧ qw B (qs W) k ≠ 0) :
    Calls Tryz.prog 138 #[.pointer (some ⟨p, 0, none⟩)] w fun e w' => ∃ s x y k b : Nat, e = .returned (.slice (some ⟨s, 0, none⟩) 2 2) ∧ Hid (Blk w' s 3 #[i64 x, i64 y] ∧ Fr Nil w w') ∧
      Hid (b < 32 ∧ k < qs W * H ∧ y = k / qs W ∧ x = k % qs W * 32 + b ∧ (qw B (qs W) k).testBit b = true ∧ (∀ i, i < b → (qw B (qs W) k).testBit i = false) ∧ ∀ j, j < k → qw B (qs W) j = 0) := by
  obtain ⟨k0, hk0, hne, hz⟩ := first_of hex
  obtain ⟨b0, hb0, htb, hfb⟩ := first_of (qw_ne hne)
  have HZ := Lib.hid (show _ ∧ _ ∧ _ ∧ _ from ⟨hne, (fun j hj => Decidable.byContradiction fun e => hz j hj e : ∀ j, j < k0 → qw B (qs W) j = 0), htb, (fun i hi => by
    cases e : (qw B (qs W) k0).testBit i with
    | false => rfl
    | true => exact absurd e (hfb i hi) : ∀ i, i < b0 → (qw B (qs W) k0).testBit i = false)⟩)
  obtain ⟨c0, c1, c2, c3⟩ := h.c
  have hl := h.w2
  have hl2 := h.h2
  have ⟨hr1, hr2⟩ := ql2_le W H hl hl2
  have hrs : 1 ≤ qs W := by have := h.w1; unfold qs; omega
  have HWS := Lib.hid h.ws
  obtain ⟨rs, hrse⟩ : ∃ rs, qs W = rs := ⟨_, rfl⟩
  rw [hrse] at hk0 HZ c2 c3 hr1 hr2 HWS hrs ⊢
  obtain ⟨L, hL⟩ : ∃ L, rs * H = L := ⟨_, rfl⟩
  rw [hL] at hk0 c3 hr2 HWS ⊢
  clear hex hne hz htb hfb h hrse hL c0 c1
  go_enter Tryz.func138, Tryz.ntmps138
  go_wp2_with fail
  go_loopg [3] k0 (fun c s3 wr => ∃ k : Nat, Hid (k + c = k0) ∧ s3 = .int .i64 k ∧ w = wr)
  case atStart => exact ⟨0, Lib.hid (by omega), rfl, rfl⟩
  case round =>
    obtain ⟨k, HK, rfl, hw⟩ := hrel
    subst hw
    have hkL : (k : Int) < (L : Int) := by have := HK.out; omega
    have ck := HWS.out.cell (show k < L by have := HK.out; omega)
    unfold qwV at ck
    cases gk with
    | succ c =>
      rw [HZ.out.2.1 k (by have := HK.out; omega)] at ck
      go_wp2_with fail
      go_roundg c
      case measure => omega
      case rel => exact ⟨k + 1, Lib.hid (by have := HK.out; omega), by go_num, rfl⟩
    | zero =>
      obtain rfl : k = k0 := by have := HK.out; omega
      obtain ⟨V, hV⟩ : ∃ V, qw B rs k = V := ⟨_, rfl⟩
      rw [hV] at ck HZ
      have hV0 : ((V : Int) == 0) = false := by rw [beq_eq_false_iff_ne]; have := HZ.out.1; omega
      have hkne : ((k : Int) == (L : Int)) = false := by rw [beq_eq_false_iff_ne]; omega
      have hV32 : V < 4294967296 := by rw [← hV]; exact qw_lt B rs k
      obtain ⟨yq, hyq⟩ : ∃ yq, k / rs = yq := ⟨_, rfl⟩
      obtain ⟨xr, hxr⟩ : ∃ xr, k % rs = xr := ⟨_, rfl⟩
      have eq1 : Int.tdiv (k : Int) (rs : Int) = (yq : Int) := by rw [← Int.ofNat_tdiv, hyq]
      have eq2 : Int.tmod (k : Int) (rs : Int) = (xr : Int) := by rw [← Int.ofNat_tmod, hxr]
      have hrz : (rs : Int) ≠ 0 := by omega
      have hyqb : yq ≤ 126000 := by rw [← hyq]; exact Nat.le_trans (Nat.div_le_self _ _) (by omega)
      have hxrb : xr < rs := by rw [← hxr]; exact Nat.mod_lt _ (by omega)
      have HXY := Lib.hid (show k / rs = yq ∧ k % rs = xr ∧ qw B rs k = V from ⟨hyq, hxr, hV⟩)
      clear hV hyq hxr HK
      go_wp2_with fail
      go_loopg [7] b0 (fun c s7 wz => ∃ b : Nat, Hid (b + c = b0) ∧ s7 = .int .u64 b ∧ w = wz)
      case atStart => exact ⟨0, Lib.hid (by omega), rfl, rfl⟩
      case round =>
        obtain ⟨b, HB, rfl, hw⟩ := hrel
        subst hw
        have hb32 : b < 32 := by have := HB.out; omega
        obtain ⟨r, hr⟩ : ∃ r, 31 - b = r := ⟨_, rfl⟩
        have er : (31 : Int) - (b : Int) = (r : Int) := by omega
        have hr31 : r ≤ 31 := by omega
        cases gk with
        | succ c =>
          have hs := shl_zero V b hb32 (fun i hi => HZ.out.2.2.2 i (by have := HB.out; omega))
          rw [hr] at hs
          have hsz : (V : Int) * 2 ^ r % 4294967296 = 0 := by
            have := congrArg (fun n : Nat => (n : Int)) hs
            simpa using this
          clear hs hr
          go_wp2_with fail
          go_roundg c
          case measure => omega
          case rel => exact ⟨b + 1, Lib.hid (by have := HB.out; omega), by go_num, rfl⟩
        | zero =>
          obtain rfl : b = b0 := by have := HB.out; omega
          have hs := shl_pos V b hb32 HZ.out.2.2.1
          rw [hr] at hs
          have hsz : ((V : Int) * 2 ^ r % 4294967296 == 0) = false := by
            rw [beq_eq_false_iff_ne]
            intro e
            apply hs
            have h2 : ((V * 2 ^ r % 4294967296 : Nat) : Int) = 0 := by
              rw [← e]; simp
            exact Int.ofNat.inj h2
          clear hs hr
          go_wp2_with fail
          have hx : (.int .i64 ((xr : Int) * 32 + (b : Int)) : Value) = i64 (xr * 32 + b) := by
            show Value.int .i64 _ = Value.int .i64 _
            congr 1
          rw [hx]
          go_ret
          exact ⟨_, _, _, k, b, rfl, Lib.hid ⟨Blk.new _ _ _, (Fr.refl _ _).alloc _⟩, Lib.hid ⟨hb32, hk0, by rw [HXY.out.1], by rw [HXY.out.2.1], by rw [HXY.out.2.2]; exact HZ.out.2.2.1, by rw [HXY.out.2.2]; exact HZ.out.2.2.2, HZ.out.2.1⟩⟩
end Go.Proofs.YtcekbhhpcmhicaaGreatDoor
/- The last dark pixel of a BitMatrix. -/
namespace Go.Proofs.YtcekbhhpcmhicaaGreatDoor
open Go Go.RowKit Go.Deep
set_option maxRecDepth 100000
theorem shr_zero (V b : Nat) (hV : V < 4294967296) (h : ∀ i, b ≤ i → i < 32 → V.testBit i = false) : V / 2 ^ b = 0 := by
  apply Nat.eq_of_testBit_eq
  intro i
  rw [Nat.testBit_div_two_pow, Nat.zero_testBit]
  by_cases e : i + b < 32
  · exact h (i + b) (by omega) e
  · have h1 : (2 : Nat) ^ 32 ≤ 2 ^ (i + b) := Nat.pow_le_pow_right (by decide) (Nat.le_of_not_lt e)
    exact Nat.testBit_lt_two_pow (Nat.lt_of_lt_of_le hV h1)
theorem shr_pos (V b : Nat) (h : V.testBit b = true) : V / 2 ^ b ≠ 0 := by
  intro e
  have h1 : (V / 2 ^ b).testBit 0 = false := by rw [e]; rfl
  rw [Nat.testBit_div_two_pow, Nat.zero_add, h] at h1
  cases h1
set_option maxHeartbeats 3200000 in
theorem bottomRight_calls {w : World} {p g W H : Nat} {B : Nat → Nat → Bool} (h : QX w p g W H B) (hex : ∃ k, k < qs W * H ∧ qw B (qs W) k ≠ 0) :
    Calls Tryz.prog 139 #[.pointer (some ⟨p, 0, none⟩)] w fun e w' => ∃ s x y k b : Nat, e = .returned (.slice (some ⟨s, 0, none⟩) 2 2) ∧ Hid (Blk w' s 3 #[i64 x, i64 y] ∧ Fr Nil w w') ∧
      Hid (b < 32 ∧ k < qs W * H ∧ y = k / qs W ∧ x = k % qs W * 32 + b ∧ (qw B (qs W) k).testBit b = true ∧ (∀ i, b < i → i < 32 → (qw B (qs W) k).testBit i = false) ∧ ∀ j, k < j → j < qs W * H → qw B (qs W) j = 0) := by
  obtain ⟨k0, hk0, hne, hz⟩ := last_of hex
  obtain ⟨b0, hb0, htb, hfb⟩ := last_of (qw_ne hne)
  have HZ := Lib.hid (show _ ∧ _ ∧ _ ∧ _ from ⟨hne, (fun j hj hj2 => Decidable.byContradiction fun e => hz j hj hj2 e : ∀ j, k0 < j → j < qs W * H → qw B (qs W) j = 0), htb, (fun i hi hi2 => by
    cases e : (qw B (qs W) k0).testBit i with
    | false => rfl
    | true => exact absurd e (hfb i hi hi2) : ∀ i, b0 < i → i < 32 → (qw B (qs W) k0).testBit i = false)⟩)
  obtain ⟨c0, c1, c2, c3⟩ := h.c
  have hl := h.w2
  have hl2 := h.h2
  have ⟨hr1, hr2⟩ := ql2_le W H hl hl2
  have hrs : 1 ≤ qs W := by have := h.w1; unfold qs; omega
  have HWS := Lib.hid h.ws
  obtain ⟨rs, hrse⟩ : ∃ rs, qs W = rs := ⟨_, rfl⟩
  rw [hrse] at hk0 HZ c2 c3 hr1 hr2 HWS hrs ⊢
  obtain ⟨L, hL⟩ : ∃ L, rs * H = L := ⟨_, rfl⟩
  rw [hL] at hk0 HZ c3 hr2 HWS ⊢
  clear hex hne hz htb hfb h hrse hL c0 c1
  go_enter Tryz.func139, Tryz.ntmps139
  go_wp2_with fail
  go_loopg [3] (L - 1 - k0) (fun c s3 wr => ∃ k : Nat, Hid (k = k0 + c ∧ k < L) ∧ s3 = .int .i64 k ∧ w = wr)
  case atStart =>
    refine ⟨L - 1, Lib.hid (by omega), ?_, rfl⟩
    show Value.int .i64 _ = Value.int .i64 _
    congr 1; omega
  case round =>
    obtain ⟨k, HK, rfl, hw⟩ := hrel
    subst hw
    have hkL : (k : Int) < (L : Int) := by have := HK.out; omega
    have hk00 : (0 : Int) ≤ (k : Int) := by omega
    have ck := HWS.out.cell (show k < L from HK.out.2)
    unfold qwV at ck
    cases gk with
    | succ c =>
      rw [HZ.out.2.1 k (by have := HK.out; omega) HK.out.2] at ck
      have hk1 : 1 ≤ k := by have := HK.out; omega
      go_wp2_with fail
      go_roundg c
      case measure => omega
      case rel => exact ⟨k - 1, Lib.hid (by have := HK.out; omega), by show Value.int .i64 _ = Value.int .i64 _; congr 1; omega, rfl⟩
    | zero =>
      obtain rfl : k = k0 := by have := HK.out; omega
      obtain ⟨V, hV⟩ : ∃ V, qw B rs k = V := ⟨_, rfl⟩
      rw [hV] at ck HZ
      have hV0 : ((V : Int) == 0) = false := by rw [beq_eq_false_iff_ne]; have := HZ.out.1; omega
      have hV32 : V < 4294967296 := by rw [← hV]; exact qw_lt B rs k
      obtain ⟨yq, hyq⟩ : ∃ yq, k / rs = yq := ⟨_, rfl⟩
      obtain ⟨xr, hxr⟩ : ∃ xr, k % rs = xr := ⟨_, rfl⟩
      have eq1 : Int.tdiv (k : Int) (rs : Int) = (yq : Int) := by rw [← Int.ofNat_tdiv, hyq]
      have eq2 : Int.tmod (k : Int) (rs : Int) = (xr : Int) := by rw [← Int.ofNat_tmod, hxr]
      have hrz : (rs : Int) ≠ 0 := by omega
      have hyqb : yq ≤ 126000 := by rw [← hyq]; exact Nat.le_trans (Nat.div_le_self _ _) (by omega)
      have hxrb : xr < rs := by rw [← hxr]; exact Nat.mod_lt _ (by omega)
      have HXY := Lib.hid (show k / rs = yq ∧ k % rs = xr ∧ qw B rs k = V from ⟨hyq, hxr, hV⟩)
      have hnl : ¬ (k : Int) < 0 := by omega
      clear hV hyq hxr HK
      go_wp2_with fail
      go_loopg [7] (31 - b0) (fun c s7 wz => ∃ b : Nat, Hid (b = b0 + c ∧ b < 32) ∧ s7 = .int .u64 b ∧ w = wz)
      case atStart => exact ⟨31, Lib.hid (by omega), rfl, rfl⟩
      case round =>
        obtain ⟨b, HB, rfl, hw⟩ := hrel
        subst hw
        have hb32 : b < 32 := HB.out.2
        cases gk with
        | succ c =>
          have hs := shr_zero V b hV32 (fun i hi h3 => HZ.out.2.2.2 i (by have := HB.out; omega) h3)
          have hsz : (V : Int) / 2 ^ b = 0 := by
            have := congrArg (fun n : Nat => (n : Int)) hs
            simpa using this
          have hb1 : 1 ≤ b := by have := HB.out; omega
          have hb1z : (1 : Int) ≤ (b : Int) := by omega
          clear hs
          go_wp2_with fail
          go_roundg c
          case measure => omega
          case rel => exact ⟨b - 1, Lib.hid (by have := HB.out; omega), by show Value.int .u64 _ = Value.int .u64 _; congr 1; omega, rfl⟩
        | zero =>
          obtain rfl : b = b0 := by have := HB.out; omega
          have hs := shr_pos V b HZ.out.2.2.1
          have hsz : ((V : Int) / 2 ^ b == 0) = false := by
            rw [beq_eq_false_iff_ne]
            intro e
            apply hs
            have h2 : ((V / 2 ^ b : Nat) : Int) = 0 := by
              rw [← e]; simp
            exact Int.ofNat.inj h2
          clear hs
          go_wp2_with fail
          have hx : (.int .i64 ((xr : Int) * 32 + (b : Int)) : Value) = i64 (xr * 32 + b) := by
            show Value.int .i64 _ = Value.int .i64 _
            congr 1
          rw [hx]
          go_ret
          exact ⟨_, _, _, k, b, rfl, Lib.hid ⟨Blk.new _ _ _, (Fr.refl _ _).alloc _⟩, Lib.hid ⟨hb32, hk0, by rw [HXY.out.1], by rw [HXY.out.2.1], by rw [HXY.out.2.2]; exact HZ.out.2.2.1, by rw [HXY.out.2.2]; exact HZ.out.2.2.2, HZ.out.2.1⟩⟩
end Go.Proofs.YtcekbhhpcmhicaaGreatDoor
/- The first and the last dark pixel, as pixels. -/
namespace Go.Proofs.YtcekbhhpcmhicaaGreatDoor
open Go Go.RowKit Go.Deep
set_option maxRecDepth 100000
theorem qw_some {B : Nat → Nat → Bool} {rs y x : Nat} (hx : x / 32 < rs) (h : B y x = true) : qw B rs (y * rs + x / 32) ≠ 0 := by
  intro e
  have h1 := qw_bit B rs y x hx
  rw [e, Nat.zero_testBit, h] at h1
  cases h1
theorem qw_exists {B : Nat → Nat → Bool} {W H y x : Nat} (hx : x < W) (hy : y < H) (h : B y x = true) : ∃ k, k < qs W * H ∧ qw B (qs W) k ≠ 0 :=
  ⟨y * qs W + x / 32, qo2_lt W H x y hx hy, qw_some (qs_lt W x hx) h⟩
theorem first_px {B : Nat → Nat → Bool} {rs k b x y : Nat} (hb : b < 32) (hy : y = k / rs) (hx : x = k % rs * 32 + b) (ht : (qw B rs k).testBit b = true) (hf : ∀ i, i < b → (qw B rs k).testBit i = false) (hz : ∀ j, j < k → qw B rs j = 0) :
    B y x = true ∧ ∀ y' x', x' / 32 < rs → B y' x' = true → y < y' ∨ (y = y' ∧ x ≤ x') := by
  rw [qw_tb B rs k b hb, Nat.mul_comm 32, ← hx, ← hy] at ht
  refine ⟨ht, fun y' x' h1 h2 => ?_⟩
  obtain ⟨e1, e2⟩ := qw_idx rs y' x' h1
  have h3 := qw_some h1 h2
  have h4 : k ≤ y' * rs + x' / 32 := Nat.le_of_not_lt fun h => h3 (hz _ h)
  have h5 : k / rs ≤ (y' * rs + x' / 32) / rs := Nat.div_le_div_right h4
  rw [e1, ← hy] at h5
  by_cases e : y = y'
  · right
    refine ⟨e, ?_⟩
    have d1 := Nat.div_add_mod k rs
    rw [← hy, Nat.mul_comm, e] at d1
    by_cases e3 : x' / 32 = k % rs
    · have h6 : b ≤ x' % 32 := Nat.le_of_not_lt fun h => by
        have h7 := hf _ h
        have h8 := qw_bit B rs y' x' h1
        rw [e3, d1, h7, h2] at h8
        cases h8
      omega
    · omega
  · left; omega
theorem last_px {B : Nat → Nat → Bool} {rs k b x y N : Nat} (hb : b < 32) (hy : y = k / rs) (hx : x = k % rs * 32 + b) (ht : (qw B rs k).testBit b = true) (hf : ∀ i, b < i → i < 32 → (qw B rs k).testBit i = false) (hz : ∀ j, k < j → j < N → qw B rs j = 0) :
    B y x = true ∧ ∀ y' x', x' / 32 < rs → y' * rs + x' / 32 < N → B y' x' = true → y' < y ∨ (y = y' ∧ x' ≤ x) := by
  rw [qw_tb B rs k b hb, Nat.mul_comm 32, ← hx, ← hy] at ht
  refine ⟨ht, fun y' x' h1 h9 h2 => ?_⟩
  obtain ⟨e1, e2⟩ := qw_idx rs y' x' h1
  have h3 := qw_some h1 h2
  have h4 : y' * rs + x' / 32 ≤ k := Nat.le_of_not_lt fun h => h3 (hz _ h h9)
  have h5 : (y' * rs + x' / 32) / rs ≤ k / rs := Nat.div_le_div_right h4
  rw [e1, ← hy] at h5
  by_cases e : y = y'
  · right
    refine ⟨e, ?_⟩
    have d1 := Nat.div_add_mod k rs
    rw [← hy, Nat.mul_comm, e] at d1
    by_cases e3 : x' / 32 = k % rs
    · have h6 : x' % 32 ≤ b := Nat.le_of_not_lt fun h => by
        have h7 := hf _ h (by omega)
        have h8 := qw_bit B rs y' x' h1
        rw [e3, d1, h7, h2] at h8
        cases h8
      omega
    · omega
  · left; omega
end Go.Proofs.YtcekbhhpcmhicaaGreatDoor
/- moduleSize: the diagonal of the finder pattern. -/
namespace Go.Proofs.YtcekbhhpcmhicaaGreatDoor
open Go Go.RowKit Go.Deep
set_option maxRecDepth 100000
/-- how often the diagonal has turned behind module d; which modules are dark -/
def trm (d : Nat) : Nat := [0, 1, 2, 2, 2, 3, 4].getD d 5
def mdk (d : Nat) : Bool := [true, false, true, true, true, false, true].getD d false
theorem mdk_trm : ∀ d : Fin 8, mdk d.val = (trm d.val % 2 == 0) := by decide
theorem trm_step : ∀ d : Fin 7, if mdk (d.val + 1) = mdk d.val then trm (d.val + 1) = trm d.val else trm (d.val + 1) = trm d.val + 1 := by decide
theorem trm_le : ∀ d : Fin 7, trm d.val ≤ 4 := by decide
/-- the module of the pixel before pixel i -/
def mbe (s i : Nat) : Nat := (i - 1) / s
theorem mbe_step {s i : Nat} (hs : 1 ≤ s) : (i / s = mbe s i) ∨ (i / s = mbe s i + 1 ∧ 0 < i) := by
  unfold mbe
  rcases Nat.eq_zero_or_pos i with h | h
  · subst h; left; rw [Nat.zero_sub]
  · obtain ⟨j, rfl⟩ : ∃ j, i = j + 1 := ⟨i - 1, by omega⟩
    rw [Nat.add_sub_cancel, Nat.succ_div]
    split
    · right; exact ⟨rfl, by omega⟩
    · left; rfl
set_option maxHeartbeats 3200000 in
theorem moduleSize_calls {w : World} {rd s p g W H X Y sc : Nat} {B : Nat → Nat → Bool} (hq : QX w p g W H B) (ht : Blk w s 3 #[i64 X, i64 Y]) (s1 : 1 ≤ sc) (s2 : sc ≤ 6) (hX : X + 7 * sc < W) (hY : Y + 7 * sc < H) (hf : ∀ i, i ≤ 7 * sc → B (Y + i) (X + i) = mdk (i / sc)) :
    Calls Tryz.prog 141 #[.pointer (some ⟨rd, 0, none⟩), .slice (some ⟨s, 0, none⟩) 2 2, .pointer (some ⟨p, 0, none⟩)] w fun e w' => e = .returned (.tuple #[.float .f64 (fb sc), .nilIface]) ∧ w = w' := by
  have HQ := Lib.hid hq
  have HF := Lib.hid hf
  have HH := Lib.hid (qxHeight_calls hq)
  have HW := Lib.hid (qxWidth_calls hq)
  have c0 := ht.cell 0
  have c1 := ht.cell 1
  have hw2 := hq.w2
  have hh2 := hq.h2
  obtain ⟨M, hM⟩ : ∃ M, 7 * sc = M := ⟨_, rfl⟩
  rw [hM] at hX hY HF
  have hM42 : M ≤ 42 := by omega
  have hM1 : 1 ≤ M := by omega
  have hcv := run_cv M w
  have hdv := run_fdiv (by have := f_q7 ⟨sc, by omega⟩ s1; rw [show 7 * (⟨sc, by omega⟩ : Fin 7).val = M from hM] at this; exact this) w
  have HM := Lib.hid hM
  clear hq hf ht hM
  go_enter Tryz.func141, Tryz.ntmps141
  go_wp2_with fail
  refine HH.out.mono ?_
  rintro e w3 ⟨rfl, rfl⟩
  go_wp2_with fail
  refine HW.out.mono ?_
  rintro e w3 ⟨rfl, rfl⟩
  go_wp2_with fail
  go_loopg [10, 11, 12, 13] M (fun c s10 s11 s12 s13 wr => ∃ x y t i : Nat, Hid (i + c = M ∧ x = X + i ∧ y = Y + i ∧ t = trm (mbe sc i)) ∧ s10 = .int .i64 x ∧ s11 = .int .i64 y ∧ s13 = .int .i64 t ∧ s12 = .bool (mdk (mbe sc i)) ∧ w = wr)
  case atStart => exact ⟨X, Y, 0, 0, Lib.hid ⟨by omega, rfl, rfl, by unfold mbe; rw [Nat.zero_sub, Nat.zero_div]; rfl⟩, rfl, rfl, rfl, by unfold mbe; rw [Nat.zero_sub, Nat.zero_div]; rfl, rfl⟩
  case round =>
    obtain ⟨x, y, t, i, HI, rfl, rfl, rfl, rfl, hw⟩ := hrel
    subst hw
    have hxW : x < W := by have := HI.out; omega
    have hyH : y < H := by have := HI.out; omega
    have hxz : (x : Int) < (W : Int) := by omega
    have hyz : (y : Int) < (H : Int) := by omega
    have hbit : B y x = mdk (i / sc) := by have h := HF.out i (by have := HI.out; omega); rw [HI.out.2.1, HI.out.2.2.1]; exact h
    have HG := Lib.hid (qxGet_calls HQ.out x y hxW hyH)
    have hd7 : mbe sc i < 7 := by
      unfold mbe
      exact Nat.div_lt_of_lt_mul (by rw [Nat.mul_comm, HM.out]; have := HI.out; omega)
    have htl : t ≤ 4 := by rw [HI.out.2.2.2]; exact trm_le ⟨mbe sc i, hd7⟩
    have hnx : mbe sc (i + 1) = i / sc := by unfold mbe; rw [Nat.add_sub_cancel]
    have hst := mbe_step (s := sc) (i := i) s1
    have HST := Lib.hid (show _ ∧ _ ∧ _ from ⟨hbit, hnx, hst⟩)
    clear hbit hnx hst
    cases gk with
    | succ c =>
      have hd : i / sc < 7 := Nat.div_lt_of_lt_mul (by rw [Nat.mul_comm, HM.out]; have := HI.out; omega)
      by_cases e : mdk (i / sc) = mdk (mbe sc i)
      · have HN := Lib.hid (show i + 1 + c = M ∧ x + 1 = X + (i + 1) ∧ y + 1 = Y + (i + 1) ∧ t = trm (mbe sc (i + 1)) from ⟨by have := HI.out; omega, by have := HI.out; omega, by have := HI.out; omega, by
          rw [HST.out.2.1, HI.out.2.2.2]
          rcases HST.out.2.2 with h | ⟨h, _⟩
          · rw [h]
          · have h3 := trm_step ⟨mbe sc i, hd7⟩
            rw [← h] at h3
            rw [if_pos e] at h3
            exact h3.symm⟩)
        have HK := Lib.hid (show mdk (mbe sc (i + 1)) = mdk (mbe sc i) from by rw [HST.out.2.1, e])
        rw [HST.out.1, e] at HG
        obtain ⟨kb, hkb⟩ : ∃ kb, mdk (mbe sc i) = kb := ⟨_, rfl⟩
        rw [hkb] at HG HK ⊢
        clear e hd hkb HST hd7 HI
        cases kb with
        | false =>
          go_wp2_with fail
          refine HG.out.mono ?_
          rintro e w4 ⟨rfl, rfl⟩
          go_wp2_with fail
          go_roundg c
          case measure => omega
          case rel => exact ⟨x + 1, y + 1, t, i + 1, HN, by go_num, by go_num, rfl, by rw [HK.out], rfl⟩
        | true =>
          go_wp2_with fail
          refine HG.out.mono ?_
          rintro e w4 ⟨rfl, rfl⟩
          go_wp2_with fail
          go_roundg c
          case measure => omega
          case rel => exact ⟨x + 1, y + 1, t, i + 1, HN, by go_num, by go_num, rfl, by rw [HK.out], rfl⟩
      · have h3 : trm (i / sc) = t + 1 := by
          rcases HST.out.2.2 with h | ⟨h, _⟩
          · exact absurd (by rw [h]) e
          · have h4 := trm_step ⟨mbe sc i, hd7⟩
            rw [← h] at h4
            rw [if_neg e] at h4
            rw [HI.out.2.2.2]
            exact h4
        have h5 : t + 1 ≤ 4 := by rw [← h3]; exact trm_le ⟨i / sc, hd⟩
        have HN := Lib.hid (show i + 1 + c = M ∧ x + 1 = X + (i + 1) ∧ y + 1 = Y + (i + 1) ∧ t + 1 = trm (mbe sc (i + 1)) from ⟨by have := HI.out; omega, by have := HI.out; omega, by have := HI.out; omega, by rw [HST.out.2.1, h3]⟩)
        have HK := Lib.hid (show mdk (mbe sc (i + 1)) = !mdk (mbe sc i) from by
          rw [HST.out.2.1]
          cases h6 : mdk (i / sc) <;> cases h7 : mdk (mbe sc i) <;> first | rfl | exact absurd (by rw [h6, h7]) e)
        have HB := Lib.hid (show B y x = !mdk (mbe sc i) from by rw [HST.out.1, ← HST.out.2.1]; exact HK.out)
        rw [HB.out] at HG
        have ht5 : ((t : Int) + 1 == 5) = false := by rw [beq_eq_false_iff_ne]; omega
        obtain ⟨kb, hkb⟩ : ∃ kb, mdk (mbe sc i) = kb := ⟨_, rfl⟩
        rw [hkb] at HG HK ⊢
        clear e hd hkb HST hd7 HI HB h3
        cases kb with
        | false =>
          go_wp2_with fail
          refine HG.out.mono ?_
          rintro e w4 ⟨rfl, rfl⟩
          go_wp2_with fail
          go_roundg c
          case measure => omega
          case rel => exact ⟨x + 1, y + 1, t + 1, i + 1, HN, by go_num, by go_num, by go_num, by rw [HK.out]; rfl, rfl⟩
        | true =>
          go_wp2_with fail
          refine HG.out.mono ?_
          rintro e w4 ⟨rfl, rfl⟩
          go_wp2_with fail
          go_roundg c
          case measure => omega
          case rel => exact ⟨x + 1, y + 1, t + 1, i + 1, HN, by go_num, by go_num, by go_num, by rw [HK.out]; rfl, rfl⟩
    | zero =>
      have hi : i = M := by have := HI.out; omega
      have hv : i / sc = 7 := by rw [hi, ← HM.out]; exact Nat.mul_div_cancel 7 (by omega)
      have hm6 : mbe sc i = 6 := by
        rcases HST.out.2.2 with h | ⟨h, _⟩
        · omega
        · omega
      have hgv : B y x = false := by rw [HST.out.1, hv]; rfl
      have ht4 : t = 4 := by rw [HI.out.2.2.2, hm6]; rfl
      have hkt : mdk (mbe sc i) = true := by rw [hm6]; rfl
      rw [hgv] at HG
      rw [hkt]
      subst ht4
      have exm : (x : Int) - (X : Int) = (M : Int) := by have := HI.out; omega
      have hne1 : ((x : Int) == (W : Int)) = false := by rw [beq_eq_false_iff_ne]; omega
      have hne2 : ((y : Int) == (H : Int)) = false := by rw [beq_eq_false_iff_ne]; omega
      clear hi hv hm6 hgv hkt HST HI hd7
      go_wp2_with fail
      refine HG.out.mono ?_
      rintro e w4 ⟨rfl, rfl⟩
      go_wp2_with fail
      go_ret2
      exact ⟨rfl, rfl⟩
end Go.Proofs.YtcekbhhpcmhicaaGreatDoor
/- rowsOf: a BitMatrix as rows. -/
namespace Go.Proofs.YtcekbhhpcmhicaaGreatDoor
open Go Go.RowKit Go.Deep
set_option maxRecDepth 100000
set_option maxHeartbeats 6400000 in
theorem rowsOf_calls {w : World} {p q n : Nat} {D : Nat → Nat → Bool} (h : QX w p q n n D) (n2 : n ≤ 200) :
    Calls Tryz.prog 94 #[.pointer (some ⟨p, 0, none⟩)] w fun e w' => ∃ b, e = .returned (.slice (some ⟨b, 0, none⟩) n n) ∧ (∃ R, MM w' b n R D) ∧ Fr Nil w w' := by
  have HQ := Lib.hid h
  have n1 := h.w1
  have HHH := Lib.hid (qxHeight_calls h)
  have hmk := mkPics n (by omega) w
  have hst := RP.start (Fr.refl Nil w) n n D
  obtain ⟨g, hg⟩ : ∃ g, w.heap.size = g := ⟨_, rfl⟩
  rw [hg] at hmk hst
  obtain ⟨w2, hw2⟩ : ∃ w2, w.alloc (.cells (madeCells #[.slice none 0 0] n) 42) = w2 := ⟨_, rfl⟩
  rw [hw2] at hmk hst
  have HST := Lib.hid hst
  clear h hst hg hw2
  go_enter Tryz.func94, Tryz.ntmps94
  go_wp2_with fail
  refine HHH.out.mono ?_
  rintro e w3 ⟨rfl, rfl⟩
  go_wp2_with fail
  go_loopg [4, 5, 11] n (fun c s4 s5 s11 wr => ∃ (i : Nat) (R : Nat → Nat), Hid (i + c = n) ∧ s11 = .int .i64 i ∧ Hid (RP w wr g n n i i R D))
  case atStart => exact ⟨0, fun _ => 0, Lib.hid (by omega), rfl, HST⟩
  case round =>
    clear HST hmk HHH
    obtain ⟨i, R, HI, rfl, HR⟩ := hrel
    cases gk with
    | zero =>
      have hz : ¬ (i : Int) < (n : Int) := by have := HI.out; omega
      obtain rfl : i = n := by have := HI.out; omega
      go_wp2_with fail
      go_ret
      exact ⟨g, rfl, ⟨R, HR.out.done.top, HR.out.done.row⟩, HR.out.fr⟩
    | succ c =>
      have hz : (i : Int) < (n : Int) := by have := HI.out; omega
      have hin : i < n := by omega
      have hmk := mkBools n (by omega) wr
      obtain ⟨A, hA⟩ : ∃ A, wr.heap.size = A := ⟨_, rfl⟩
      obtain ⟨hadd, hrw⟩ := HR.out.add
      have hgc := (rowFr HR.out.top ((Fr.refl Nil wr).alloc (.cells (madeCells #[.bool false] n) 4)) (fun e => e)).cell hin
      have hgf := (rowFr HR.out.top ((Fr.refl Nil wr).alloc (.cells (madeCells #[.bool false] n) 4)) (fun e => e)).frozen i
      rw [if_neg (by omega)] at hgc
      rw [hA] at hmk hadd hrw
      obtain ⟨w3, hw3⟩ : ∃ w3, wr.alloc (.cells (madeCells #[.bool false] n) 4) = w3 := ⟨_, rfl⟩
      rw [hw3] at hmk hadd hrw hgc hgf
      have HA := Lib.hid (show g < A ∧ w.heap.size ≤ A ∧ (∀ j, j < i → R j ≠ A) from ⟨by rw [← hA]; exact HR.out.lt, by rw [← hA]; exact HR.out.fr.size, fun j hj e => by
        have := row_lt (HR.out.row j hj)
        omega⟩)
      obtain ⟨w4, hw4⟩ : ∃ w4, w3.setCell ⟨g, i, none⟩ (.slice (some ⟨A, 0, none⟩) n n) = w4 := ⟨_, rfl⟩
      rw [hw4] at hadd hrw
      have HW4 := Lib.hid hw4
      have H4 := Lib.hid (show _ ∧ _ from ⟨hadd, hrw⟩)
      have HWD := Lib.hid (qxWidth_calls (HQ.out.nil HR.out.fr))
      have ct := hadd.top.cell hin
      rw [if_pos (by omega), if_pos rfl, ← hw4] at ct
      clear hadd hrw hw3 hw4 hA
      go_wp2_with fail
      refine HWD.out.mono ?_
      rintro e w5 ⟨rfl, rfl⟩
      go_wp2_with fail
      rw [HW4.out]
      have HR4 := Lib.hid (H4.out.2.congr (g := fun x => .bool (decide (x < 0) && D i x)) (fun x _ => by rw [decide_eq_false (by omega), Bool.false_and]))
      clear hgf hgc hmk ct HWD HR
      go_loopg [5, 25] n (fun r s5 s25 wz => ∃ x : Nat, Hid (x + r = n) ∧ s25 = .int .i64 x ∧ Hid (wz.rowIs A 4 n (fun j => .bool (decide (j < x) && D i j))) ∧ Hid (Fr (One A) w4 wz))
      case atStart => exact ⟨0, Lib.hid (by omega), rfl, HR4, Lib.hid (Fr.refl _ _)⟩
      case round =>
        clear HR4
        obtain ⟨x, HX, rfl, HRX, HFX⟩ := hrel
        cases gk with
        | zero =>
          have hxz : ¬ (x : Int) < (n : Int) := by have := HX.out; omega
          have hxn : x = n := by have := HX.out; omega
          go_wp2_with fail
          go_roundg c
          case measure => have := HI.out; omega
          case rel => exact ⟨i + 1, _, Lib.hid (by have := HI.out; omega), by go_num, Lib.hid (H4.out.1.close (if_pos rfl) (fun j hj => by rw [if_neg (by omega)]; exact HA.out.2.2 j hj) HA.out.2.1 (by have := HA.out.1; omega) HFX.out (HRX.out.congr (fun y hy => by rw [decide_eq_true (by omega), Bool.true_and])))⟩
        | succ r =>
          have hxz : (x : Int) < (n : Int) := by have := HX.out; omega
          have hxn : x < n := by omega
          have hfz : Fr Nil w wr := H4.out.1.fr.trans' HFX.out (fun k hk e => by
            have e : k = A := e
            have := HA.out.2.1
            omega)
          have HG := Lib.hid (show ∀ w', Fr Nil wr w' → Hid (Calls Tryz.prog 137 #[.pointer (some ⟨p, 0, none⟩), i64 x, i64 i] w' fun e w'' => e = .returned (.bool (D i x)) ∧ w' = w'') from fun w' hf => Lib.hid (qxGet_calls ((HQ.out.nil hfz).nil hf) x i hxn hin))
          have HTP := (rowFr H4.out.1.top HFX.out (fun e => by
            have e : g = A := e
            have := HA.out.1
            omega)).cell hin
          rw [if_pos (by omega), if_pos rfl] at HTP
          have z0 := HRX.out.cell hxn
          have z1 := HRX.out.frozen x
          have HN := Lib.hid (show _ ∧ _ from ⟨(HRX.out.set x (.bool (D i x))).congr (g := fun j => .bool (decide (j < x + 1) && D i j)) (fun j hj => by
            by_cases e : j = x
            · rw [if_pos e, decide_eq_true (by omega), Bool.true_and, e]
            · rw [if_neg e]
              congr 2
              rw [decide_eq_decide]
              omega), HFX.out.set1 x (.bool (D i x))⟩)
          clear HRX HFX hfz
          obtain ⟨bv, hbv⟩ : ∃ bv, D i x = bv := ⟨_, rfl⟩
          rw [hbv] at HG HN
          clear hbv
          go_wp2_with fail
          go_region_with
            ((go_at_call 137; refine ((HG.out _ (Fr.refl _ _).drew).out).mono ?_; rintro e w7 ⟨rfl, rfl⟩; go_wp2_with fail))
          all_goals
            go_wp2_with fail
            go_roundg r
            case measure => omega
            case rel => exact ⟨x + 1, Lib.hid (by have := HX.out; omega), by go_num, Lib.hid (rowFr HN.out.1 (Fr.refl Nil _).drew (fun e => e)), Lib.hid HN.out.2.drew⟩
end Go.Proofs.YtcekbhhpcmhicaaGreatDoor
/- extractPureBits: the modules of a symbol that stands alone. -/
namespace Go.Proofs.YtcekbhhpcmhicaaGreatDoor
open Go Go.RowKit Go.Deep
set_option maxRecDepth 100000
/-- a symbol that stands alone: n modules a side, each sc pixels, from (X, Y) on -/
structure Alone (B : Nat → Nat → Bool) (W H X Y sc n : Nat) (D : Nat → Nat → Bool) : Prop where
  b0 : B Y X = true
  first : ∀ y x, B y x = true → Y < y ∨ (Y = y ∧ X ≤ x)
  last : ∃ x1, X < x1 ∧ B (Y + sc * n - 1) x1 = true
  low : ∀ y x, B y x = true → y ≤ Y + sc * n - 1
  bnd : ∀ y x, B y x = true → y < H ∧ x < W
  diag : ∀ i, i ≤ 7 * sc → B (Y + i) (X + i) = mdk (i / sc)
  mod : ∀ b a, b < n → a < n → B (Y + sc * b + sc / 2) (X + sc * a + sc / 2) = D b a
  s1 : 1 ≤ sc
  s2 : sc ≤ 6
  n1 : 21 ≤ n
  n2 : n ≤ 177
  w : X + sc * n < W
  h : Y + sc * n < H
theorem f_div' {s n : Nat} (h1 : 1 ≤ s) (h2 : s < 7) (h3 : n < 178) : FloatKind.f64.format.div (fb (s * n)) (fb s) = some (fb n) := f_div ⟨s, h2⟩ ⟨n, h3⟩ h1
theorem f_mul' {s n : Nat} (h2 : s < 7) (h3 : n < 178) : FloatKind.f64.format.mul (fb n) (fb s) = some (fb (n * s)) := f_mul ⟨s, h2⟩ ⟨n, h3⟩
theorem f_int' {n : Nat} (h : n < 1100) : fint (fb n) = some (n : Int) := f_int ⟨n, h⟩
theorem f_half' {s : Nat} (h : s < 7) : ∃ r, FloatKind.f64.format.div (fb s) 4611686018427387904 = some r ∧ fint r = some ((s / 2 : Nat) : Int) := by
  obtain ⟨r, h1, h2⟩ := Option.bind_eq_some_iff.1 (f_half ⟨s, h⟩)
  exact ⟨r, h1, h2⟩
theorem Tryz.eql138 (a : Addr) (n c : Nat) (w : World) : (binOp BinOp.eql 138 (.slice (some a) n c) (.slice none 0 0)).run Tryz.prog w = .ok (.bool false) w := by kernel_rfl
set_option maxHeartbeats 12800000 in
theorem extract_calls {w : World} {rd p g W H X Y sc n : Nat} {B D : Nat → Nat → Bool} (hq : QX w p g W H B) (ha : Alone B W H X Y sc n D) :
    Calls Tryz.prog 95 #[.pointer (some ⟨rd, 0, none⟩), .pointer (some ⟨p, 0, none⟩)] w fun e w' => ∃ m, e = .returned (.tuple #[.pointer (some ⟨m, 0, none⟩), .nilIface]) ∧ (∃ mg, QX w' m mg n n (cutX D n n)) ∧ Fr Nil w w' := by
  have HQ := Lib.hid hq
  have HA := Lib.hid ha
  have hX : X < W ∧ Y < H := by have := ha.w; have := ha.h; omega
  have HT := Lib.hid (topLeft_calls hq (qw_exists hX.1 hX.2 ha.b0))
  go_enter Tryz.func95, Tryz.ntmps95
  go_wp2_with fail
  refine HT.out.mono ?_
  rintro e w1 ⟨s, x, y, k, b, rfl, H1, H2⟩
  have hxy : x = X ∧ y = Y := by
    obtain ⟨h1, h2, h3, h4, h5, h6, h7⟩ := H2.out
    obtain ⟨h8, h9⟩ := first_px h1 h3 h4 h5 h6 h7
    have h10 := h9 Y X (qs_lt W X hX.1) ha.b0
    have h11 := ha.first y x h8
    omega
  obtain ⟨rfl, rfl⟩ := hxy
  have hq1 := hq.nil H1.out.2
  have HB := Lib.hid (bottomRight_calls hq1 (qw_exists hX.1 hX.2 ha.b0))
  clear HT H2
  go_wp2_with fail
  refine HB.out.mono ?_
  rintro e w2 ⟨s2, x2, y2, k2, b2, rfl, H3, H4⟩
  have hxy : y2 = y + sc * n - 1 ∧ x < x2 ∧ x2 < W := by
    obtain ⟨h1, h2, h3, h4, h5, h6, h7⟩ := H4.out
    obtain ⟨h8, h9⟩ := last_px h1 h3 h4 h5 h6 h7
    obtain ⟨x1, h10, h11⟩ := ha.last
    have h12 := (ha.bnd _ _ h11)
    have h13 := h9 (y + sc * n - 1) x1 (qs_lt W x1 h12.2) (qo2_lt W H x1 _ h12.2 h12.1) h11
    have h14 := ha.low y2 x2 h8
    have h15 := ha.bnd y2 x2 h8
    omega
  obtain ⟨rfl, hx2, hx2W⟩ := hxy
  have HMS := Lib.hid (moduleSize_calls (rd := rd) (hq1.nil H3.out.2) (H1.out.1.fr H3.out.2 (fun e => e)) ha.s1 ha.s2 (by have := ha.w; have := Nat.mul_le_mul_left sc (show 7 ≤ n by have := ha.n1; omega); omega) (by have := ha.h; have := Nat.mul_le_mul_left sc (show 7 ≤ n by have := ha.n1; omega); omega) ha.diag)
  have q1 := Tryz.eql138 ⟨s, 0, none⟩ 2 2 w2
  have q2 := Tryz.eql138 ⟨s2, 0, none⟩ 2 2 w2
  clear HB H4
  go_wp2_with fail
  refine HMS.out.mono ?_
  rintro e w3 ⟨rfl, rfl⟩
  obtain ⟨S, hS⟩ : ∃ S, sc * n = S := ⟨_, rfl⟩
  obtain ⟨S1, hS1⟩ : ∃ S1, S - 1 = S1 := ⟨_, rfl⟩
  obtain ⟨bt, hbt⟩ : ∃ bt, y + sc * n - 1 = bt := ⟨_, rfl⟩
  obtain ⟨rt, hrt⟩ : ∃ rt, x + S1 = rt := ⟨_, rfl⟩
  have hSb : 21 ≤ S ∧ S ≤ 1062 := by
    rw [← hS]
    exact ⟨Nat.le_trans ha.n1 (Nat.le_mul_of_pos_left n ha.s1), Nat.le_trans (Nat.mul_le_mul ha.s2 ha.n2) (by decide)⟩
  have hSW : x + S < W ∧ y + S < H := by have := ha.w; have := ha.h; omega
  have hWW := hq.w2
  have hHH := hq.h2
  have hq2 := hq1.nil H3.out.2
  have HWD := Lib.hid (qxWidth_calls hq2)
  have c0 := (H1.out.1.fr H3.out.2 (fun e => e)).cell 0
  have c1 := (H1.out.1.fr H3.out.2 (fun e => e)).cell 1
  have d0 := H3.out.1.cell 0
  have d1 := H3.out.1.cell 1
  rw [hbt] at d0 d1
  have e1 : (bt : Int) - (y : Int) = (S1 : Int) := by omega
  have e2 : (rt : Int) - (x : Int) = (S1 : Int) := by omega
  have e3 : (S1 : Int) + 1 = (S : Int) := by omega
  have e4 : (x : Int) + (S1 : Int) = (rt : Int) := by omega
  have z1 : ¬ (x2 : Int) ≤ (x : Int) := by omega
  have z2 : ¬ (bt : Int) ≤ (y : Int) := by omega
  have z3 : decide (x2 ≤ x) = false := decide_eq_false (by omega)
  have z4 : decide (bt ≤ y) = false := decide_eq_false (by omega)
  have hn178 : n < 178 := by have := ha.n2; omega
  have hs7 : sc < 7 := by have := ha.s2; omega
  have HSN := Lib.hid hS
  have HQ2 := Lib.hid hq2
  have HF02 := Lib.hid (H1.out.2.trans H3.out.2)
  clear hq hq1 hq2 HMS q1 q2 hS hS1 hbt hrt
  go_upto_if 82 with fail
  go_cut [13] from 76 to 99 (fun s13 wc => s13 = .int .i64 rt ∧ w2 = wc)
  case first =>
    by_cases hne : x2 = rt
    · have HNE := Lib.hid hne
      have e5 : (x2 : Int) - (x : Int) = (S1 : Int) := by omega
      have hz : ((S1 : Int) == (S1 : Int)) = true := by rw [beq_iff_eq]
      clear hne
      go_wp2_with fail
      go_meet
      case rel => exact ⟨by rw [HNE.out], rfl⟩
    · obtain ⟨dd, hdd⟩ : ∃ dd : Int, (x2 : Int) - (x : Int) = dd := ⟨_, rfl⟩
      have hz : ((S1 : Int) == dd) = false := by rw [beq_eq_false_iff_ne]; omega
      have hddb : -3000 ≤ dd ∧ dd ≤ 3000 := by omega
      have hrtW : ¬ (W : Int) ≤ (rt : Int) := by omega
      go_wp2_with fail
      refine HWD.out.mono ?_
      rintro e w3 ⟨rfl, rfl⟩
      go_wp2_with fail
      go_meet
      case rel => exact ⟨rfl, rfl⟩
  case rest =>
    obtain ⟨rfl, hw⟩ := hcut
    subst hw
    have hcv := run_cv S w2
    have hdv := run_fdiv (a := fb S) (b := fb sc) (r := fb n) (by rw [← HSN.out]; exact f_div' ha.s1 hs7 hn178) w2
    have HRD := Lib.hid (round_calls n hn178 w2)
    go_wp2_with fail
    refine HRD.out.mono ?_
    rintro e w3 ⟨rfl, rfl⟩
    go_wp2_with fail
    refine HRD.out.mono ?_
    rintro e w3 ⟨rfl, rfl⟩
    clear hcv hdv HRD HWD
    obtain ⟨nu, hnu⟩ : ∃ nu, sc / 2 = nu := ⟨_, rfl⟩
    obtain ⟨hb, hh1, hh2⟩ := f_half' hs7
    rw [hnu] at hh2
    have f1 := run_fdiv hh1 w2
    have f2 := run_fint hh2 (by omega) (by omega) w2
    obtain ⟨n1, hn1⟩ : ∃ n1, n - 1 = n1 := ⟨_, rfl⟩
    have en1 : (n : Int) - 1 = (n1 : Int) := by have := ha.n1; omega
    obtain ⟨Q, hQ⟩ : ∃ Q, n1 * sc = Q := ⟨_, rfl⟩
    have hQS : Q + sc = S := by rw [← hQ, ← HSN.out, ← hn1, Nat.sub_mul, Nat.mul_comm n sc, Nat.one_mul]; have := Nat.le_mul_of_pos_right sc (show 0 < n by have := ha.n1; omega); omega
    have f3 := run_cv n1 w2
    have f4 := run_fmul (a := fb n1) (b := fb sc) (r := fb Q) (by rw [← hQ]; exact f_mul' hs7 (by omega)) w2
    have f5 := run_fint (f_int' (n := Q) (by omega)) (by omega) (by omega) w2
    obtain ⟨ty, hty⟩ : ∃ ty, y + nu = ty := ⟨_, rfl⟩
    obtain ⟨lx, hlx⟩ : ∃ lx, x + nu = lx := ⟨_, rfl⟩
    have ety : (y : Int) + (nu : Int) = (ty : Int) := by omega
    have elx : (x : Int) + (nu : Int) = (lx : Int) := by omega
    obtain ⟨m1, hm1⟩ : ∃ m1, lx + Q = m1 := ⟨_, rfl⟩
    have em1 : (lx : Int) + (Q : Int) = (m1 : Int) := by omega
    obtain ⟨m2, hm2⟩ : ∃ m2, ty + Q = m2 := ⟨_, rfl⟩
    have em2 : (ty : Int) + (Q : Int) = (m2 : Int) := by omega
    obtain ⟨δ, hδ⟩ : ∃ δ : Int, (m1 : Int) - (rt : Int) = δ := ⟨_, rfl⟩
    obtain ⟨ε, hε⟩ : ∃ ε : Int, (m2 : Int) - (bt : Int) = ε := ⟨_, rfl⟩
    have hs1 := ha.s1
    have hδ0 : ¬ (0 : Int) < δ := by omega
    have hε0 : ¬ (0 : Int) < ε := by omega
    have hδb : -3000 ≤ δ ∧ -3000 ≤ ε := by omega
    obtain ⟨hδb, hεb⟩ := hδb
    have hnz : (0 : Int) < (n : Int) := by have := ha.n1; omega
    have hnn : ((n : Int) == (n : Int)) = true := by rw [beq_iff_eq]
    have HP := Lib.hid (show sc / 2 = nu ∧ y + nu = ty ∧ x + nu = lx ∧ ty ≤ 1100 + 2000 ∧ lx ≤ 1100 + 2000 from by omega)
    have htyb : ty ≤ 3100 := by omega
    have hlxb : lx ≤ 3100 := by omega
    clear hnu hn1 hQ hty hlx hm1 hm2 hh1 hh2
    go_wp2_with fail
    have hN := newQX_calls w2 n n (by have := ha.n1; omega) (by omega) (by have := ha.n1; omega) (by omega)
    obtain ⟨mg, hmg⟩ : ∃ mg, w2.heap.size = mg := ⟨_, rfl⟩
    obtain ⟨m, hm⟩ : ∃ m, mg + 1 = m := ⟨_, rfl⟩
    rw [hmg, hm] at hN
    refine hN.mono ?_
    rintro e w5 ⟨rfl, hq5, hf5, hs5⟩
    have HI := Lib.hid (show QX w5 m mg n n (rdd D n 0 0) ∧ QX w5 p g W H B ∧ Fr Nil w w5 ∧ w.heap.size ≤ mg ∧ p ≠ mg ∧ g ≠ mg from ⟨hq5.congr (rdd_zero D n).symm, HQ2.out.nil hf5, HF02.out.trans hf5, by have := HF02.out.size; omega, by have := HQ2.out.st.lt; omega, by have := row_lt HQ2.out.ws; omega⟩)
    clear hN hq5 hf5 hs5 hmg hm f1 f2 f3 f4 f5 c0 c1 d0 d1
    go_wp2_with fail
    go_loopg [21, 22, 23] n (fun c s21 s22 s23 wr => ∃ b : Nat, Hid (b + c = n) ∧ s21 = .int .i64 b ∧ Hid (QX wr m mg n n (rdd D n b 0) ∧ QX wr p g W H B ∧ Fr Nil w wr ∧ w.heap.size ≤ mg ∧ p ≠ mg ∧ g ≠ mg))
    case atStart => exact ⟨0, Lib.hid (by omega), rfl, HI⟩
    case round =>
      clear HI
      obtain ⟨b, HB, rfl, HI⟩ := hrel
      cases gk with
      | zero =>
        have hz : ¬ (b : Int) < (n : Int) := by have := HB.out; omega
        have hbn : b = n := by have := HB.out; omega
        have HE := Lib.hid (HI.out.1.congr (C := cutX D n n) (by
          funext a c
          unfold rdd cutX
          congr 1
          rw [decide_eq_decide, hbn]
          omega))
        clear hbn
        go_wp2_with fail
        go_ret2
        exact ⟨m, rfl, ⟨mg, HE.out⟩, HI.out.2.2.1⟩
      | succ c =>
        have hz : (b : Int) < (n : Int) := by have := HB.out; omega
        have hbn : b < n := by omega
        obtain ⟨Qb, hQb⟩ : ∃ Qb, b * sc = Qb := ⟨_, rfl⟩
        have hQbS : Qb + sc ≤ S := by
          rw [← hQb, ← HSN.out, Nat.mul_comm sc n]
          have := Nat.mul_le_mul_right sc (show b + 1 ≤ n by omega)
          rw [Nat.add_mul] at this
          omega
        have g3 := run_cv b wr
        have g4 := run_fmul (a := fb b) (b := fb sc) (r := fb Qb) (by rw [← hQb]; exact f_mul' hs7 (by omega)) wr
        have g5 := run_fint (f_int' (n := Qb) (by omega)) (by omega) (by omega) wr
        obtain ⟨py, hpy⟩ : ∃ py, ty + Qb = py := ⟨_, rfl⟩
        have epy : (ty : Int) + (Qb : Int) = (py : Int) := by omega
        have HPY := Lib.hid (show b * sc = Qb ∧ ty + Qb = py from ⟨hQb, hpy⟩)
        clear hQb hpy
        go_wp2_with fail
        clear g3 g4 g5
        go_loopg [23] n (fun k s23 wz => ∃ a : Nat, Hid (a + k = n) ∧ s23 = .int .i64 a ∧ Hid (QX wz m mg n n (rdd D n b a) ∧ QX wz p g W H B ∧ Fr Nil w wz ∧ w.heap.size ≤ mg ∧ p ≠ mg ∧ g ≠ mg))
        case atStart => exact ⟨0, Lib.hid (by omega), rfl, HI⟩
        case round =>
          clear HI
          obtain ⟨a, HAA, rfl, HI⟩ := hrel
          cases gk with
          | zero =>
            have haz : ¬ (a : Int) < (n : Int) := by have := HAA.out; omega
            have han : a = n := by have := HAA.out; omega
            have HI2 := Lib.hid (show QX wr m mg n n (rdd D n (b + 1) 0) ∧ QX wr p g W H B ∧ Fr Nil w wr ∧ w.heap.size ≤ mg ∧ p ≠ mg ∧ g ≠ mg from ⟨HI.out.1.congr (by rw [han]; exact rdd_row D n b), HI.out.2⟩)
            clear han
            go_wp2_with fail
            go_roundg c
            case measure => have := HB.out; omega
            case rel => exact ⟨b + 1, Lib.hid (by have := HB.out; omega), by go_num, HI2⟩
          | succ k =>
            have haz : (a : Int) < (n : Int) := by have := HAA.out; omega
            have han : a < n := by omega
            obtain ⟨Qa, hQa⟩ : ∃ Qa, a * sc = Qa := ⟨_, rfl⟩
            have hQaS : Qa + sc ≤ S := by
              rw [← hQa, ← HSN.out, Nat.mul_comm sc n]
              have := Nat.mul_le_mul_right sc (show a + 1 ≤ n by omega)
              rw [Nat.add_mul] at this
              omega
            have g3 := run_cv a wr
            have g4 := run_fmul (a := fb a) (b := fb sc) (r := fb Qa) (by rw [← hQa]; exact f_mul' hs7 (by omega)) wr
            have g5 := run_fint (f_int' (n := Qa) (by omega)) (by omega) (by omega) wr
            obtain ⟨px, hpx⟩ : ∃ px, lx + Qa = px := ⟨_, rfl⟩
            have epx : (lx : Int) + (Qa : Int) = (px : Int) := by omega
            have hnuS : nu < sc := by have := HP.out; omega
            have hpxW : px < W ∧ py < H := by have := HP.out; have := HPY.out; omega
            have hBD : B py px = D b a := by
              have h := ha.mod b a hbn han
              have e1 : y + sc * b + sc / 2 = py := by rw [Nat.mul_comm sc b]; have := HP.out; have := HPY.out; omega
              have e2 : x + sc * a + sc / 2 = px := by rw [Nat.mul_comm sc a]; have := HP.out; omega
              rw [e1, e2] at h
              exact h
            have HG := Lib.hid (qxGet_calls HI.out.2.1 px py hpxW.1 hpxW.2)
            rw [hBD] at HG
            clear hBD hQa hpx
            obtain ⟨bv, hbv⟩ : ∃ bv, D b a = bv := ⟨_, rfl⟩
            rw [hbv] at HG
            cases bv with
            | false =>
              have HI2 := Lib.hid (show QX wr m mg n n (rdd D n b (a + 1)) ∧ QX wr p g W H B ∧ Fr Nil w wr ∧ w.heap.size ≤ mg ∧ p ≠ mg ∧ g ≠ mg from ⟨HI.out.1.congr (rdd_no D n b a hbv).symm, HI.out.2⟩)
              clear hbv
              go_wp2_with fail
              refine HG.out.mono ?_
              rintro e w6 ⟨rfl, rfl⟩
              go_wp2_with fail
              go_roundg k
              case measure => omega
              case rel => exact ⟨a + 1, Lib.hid (by have := HAA.out; omega), by go_num, HI2⟩
            | true =>
              have HSET := Lib.hid (qxSet_calls HI.out.1 a b han hbn)
              have HYES := Lib.hid (rdd_yes D n b a hbv han)
              clear hbv
              go_wp2_with fail
              refine HG.out.mono ?_
              rintro e w6 ⟨rfl, rfl⟩
              go_wp2_with fail
              refine HSET.out.mono ?_
              rintro e w7 ⟨rfl, hq7, hf7⟩
              have HI2 := Lib.hid (show QX w7 m mg n n (rdd D n b (a + 1)) ∧ QX w7 p g W H B ∧ Fr Nil w w7 ∧ w.heap.size ≤ mg ∧ p ≠ mg ∧ g ≠ mg from
                ⟨hq7.congr HYES.out, HI.out.2.1.fr hf7 (fun e => HI.out.2.2.2.2.1 e) (fun e => HI.out.2.2.2.2.2 e), HI.out.2.2.1.trans' hf7 (fun i hi e => by
                  have e : i = mg := e
                  have := HI.out.2.2.2.1
                  omega), HI.out.2.2.2⟩)
              clear hq7 hf7
              go_wp2_with fail
              go_roundg k
              case measure => omega
              case rel => exact ⟨a + 1, Lib.hid (by have := HAA.out; omega), by go_num, HI2⟩
end Go.Proofs.YtcekbhhpcmhicaaGreatDoor
/- ExtractPureBits and taken. -/
namespace Go.Proofs.YtcekbhhpcmhicaaGreatDoor
open Go Go.RowKit Go.Deep
set_option maxRecDepth 100000
theorem taken_calls {w : World} {p q n : Nat} {D : Nat → Nat → Bool} (h : QX w p q n n D) (n2 : n ≤ 200) :
    Calls Tryz.prog 39 #[.pointer (some ⟨p, 0, none⟩), .nilIface] w fun e w' => ∃ b, e = .returned (.tuple #[.slice (some ⟨b, 0, none⟩) n n, .bool true]) ∧ (∃ R, MM w' b n R D) ∧ Fr Nil w w' := by
  have HR := Lib.hid (rowsOf_calls h n2)
  clear h
  go_enter Tryz.func39, Tryz.ntmps39
  go_wp2_with fail
  refine HR.out.mono ?_
  rintro e w1 ⟨b, rfl, hm, hf⟩
  have HE := Lib.hid (show _ ∧ _ from ⟨hm, hf⟩)
  clear hm hf
  go_wp2_with fail
  go_ret2
  exact ⟨b, rfl, HE.out⟩
theorem pureBits_calls {w : World} {p g W H X Y sc n : Nat} {B D : Nat → Nat → Bool} (hq : QX w p g W H B) (ha : Alone B W H X Y sc n D) :
    Calls Tryz.prog 40 #[.pointer (some ⟨p, 0, none⟩)] w fun e w' => ∃ m, e = .returned (.tuple #[.pointer (some ⟨m, 0, none⟩), .nilIface]) ∧ (∃ mg, QX w' m mg n n (cutX D n n)) ∧ Fr Nil w w' := by
  have HQ := Lib.hid hq
  have HA := Lib.hid ha
  clear hq ha
  go_enter Tryz.func40, Tryz.ntmps40
  go_wp2_with fail
  have hal : Fr Nil w (w.alloc (.cells #[.pointer none] 176)) := (Fr.refl _ _).alloc _
  refine (extract_calls (HQ.out.nil hal) HA.out).mono ?_
  rintro e w1 ⟨m, rfl, hm, hf⟩
  have HE := Lib.hid (show _ ∧ _ from ⟨hm, hal.trans hf⟩)
  clear hm hf hal
  go_wp2_with fail
  go_ret2
  exact ⟨m, rfl, HE.out⟩
end Go.Proofs.YtcekbhhpcmhicaaGreatDoor
