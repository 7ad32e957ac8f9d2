/- The black point of a histogram of two grays. -/
import Derived.Deep.CutRange
import Derived.Test.YtcekbhhpcmhicaaGreatDoorB24
import Derived.Test.YtcekbhhpcmhicaaGreatDoorB13
set_option linter.unusedSimpArgs false
set_option linter.unusedVariables false
namespace Go.Proofs.YtcekbhhpcmhicaaGreatDoor
open Go Go.RowKit Go.Deep
set_option maxRecDepth 100000
/-- the two peaks of a histogram of two grays -/
theorem peaks {b : Nat → Nat} {d l : Nat} (hdl : d < l) (hl : l < 32) (hbl : 0 < b l) (hz : ∀ i, i < 32 → i ≠ d → i ≠ l → b i = 0) :
    ∃ f m s, pk b 32 = (f, m) ∧ (pk (sc2 b f) 32).1 = s ∧ 0 < m ∧ ((f = l ∧ (s = d ∨ s = 0)) ∨ (f = d ∧ s = l)) ∧ ∀ x, min f s < x → x < max f s → b x = 0 := by
  have hp := pk_two hdl hbl hl (fun i hi h1 h2 => hz i hi h1 h2)
  by_cases hd : 0 < b d
  · by_cases hlt : b d < b l
    · rw [if_pos hlt] at hp
      have h2 := pk_one (b := sc2 b l) (g := d) (sc2_pos hd (by omega)) (x := 32) (by omega) (fun i hi hid => sc2_zero (by
        by_cases e : i = l
        · exact .inr e
        · exact .inl (hz i hi hid e)))
      exact ⟨l, b l, d, hp, by rw [h2], hbl, .inl ⟨rfl, .inl rfl⟩, fun x h3 h4 => hz x (by omega) (by omega) (by omega)⟩
    · rw [if_neg hlt] at hp
      have h2 := pk_one (b := sc2 b d) (g := l) (sc2_pos hbl (by omega)) (x := 32) (by omega) (fun i hi hid => sc2_zero (by
        by_cases e : i = d
        · exact .inr e
        · exact .inl (hz i hi e hid)))
      exact ⟨d, b d, l, hp, by rw [h2], hd, .inr ⟨rfl, rfl⟩, fun x h3 h4 => hz x (by omega) (by omega) (by omega)⟩
  · rw [if_pos (by omega)] at hp
    have h2 := pk_zero (b := sc2 b l) (x := 32) (fun i hi => sc2_zero (by
      by_cases e : i = l
      · exact .inr e
      · by_cases e2 : i = d
        · rw [e2]; left; omega
        · exact .inl (hz i hi e2 e)))
    exact ⟨l, b l, 0, hp, by rw [h2], hbl, .inl ⟨rfl, .inr rfl⟩, fun x h3 h4 => by
      by_cases e2 : x = d
      · rw [e2]; omega
      · exact hz x (by omega) e2 (by omega)⟩
theorem pk_le {b : Nat → Nat} {M : Nat} (h : ∀ i, i < 32 → b i ≤ M) : ∀ {x : Nat}, x ≤ 32 → (pk b x).1 < 32 ∧ (pk b x).2 ≤ M
  | 0, _ => by simp [pk]
  | x + 1, hx => by
    have ih := pk_le h (x := x) (by omega)
    by_cases e : (pk b x).2 < b x
    · rw [pk_yes e]; exact ⟨by show x < 32; omega, h x (by omega)⟩
    · rw [pk_no e]; exact ih
theorem sc2_int (b : Nat → Nat) (f x : Nat) : (b x : Int) * ((x : Int) - (f : Int)) * ((x : Int) - (f : Int)) = (sc2 b f x : Nat) := by
  unfold sc2
  rw [Int.natCast_mul, Int.natCast_mul]
  rcases Nat.le_total f x with h | h
  · rw [show ((x - f + (f - x) : Nat) : Int) = (x : Int) - (f : Int) from by omega]
  · rw [show ((x - f + (f - x) : Nat) : Int) = -((x : Int) - (f : Int)) from by omega]
    rw [Int.mul_neg, Int.mul_neg, Int.neg_mul, Int.neg_neg]
theorem sc2_le {b : Nat → Nat} {f x M : Nat} (h : b x ≤ M) (hf : f < 32) (hx : x < 32) : sc2 b f x ≤ M * 31 * 31 := by
  unfold sc2
  exact Nat.mul_le_mul (Nat.mul_le_mul h (by omega)) (by omega)
set_option maxHeartbeats 3200000 in
theorem blackPoint_calls {w : World} {p bb d l : Nat} {b : Nat → Nat} (hr : w.rowIs bb 3 32 (fun i => i64 (b i))) (hdl : 3 * d ≤ l) (hl1 : 16 ≤ l) (hl : l < 32) (hbl : 0 < b l) (hz : ∀ i, i < 32 → i ≠ d → i ≠ l → b i = 0) (hM : ∀ i, i < 32 → b i ≤ 100000) :
    Calls Tryz.prog 333 #[.pointer (some ⟨p, 0, none⟩), .slice (some ⟨bb, 0, none⟩) 32 32] w fun e w' => ∃ v, e = .returned (.tuple #[i64 (8 * v), .nilIface]) ∧ Hid (d < v ∧ v < l) ∧ w = w' := by
  obtain ⟨f0, m, s0, hp, hs, hm, hcase, hbz⟩ := peaks (b := b) (d := d) (l := l) (by omega) hl hbl hz
  have HP := Lib.hid (show _ ∧ _ ∧ _ ∧ _ ∧ _ from ⟨hp, hs, hm, hcase, hbz⟩)
  have HR := Lib.hid hr
  have HM := Lib.hid hM
  have HL := Lib.hid (show _ ∧ _ ∧ _ from ⟨hdl, hl1, hl⟩)
  have hm2 : m ≤ 100000 := by have := (pk_le (b := b) hM (x := 32) (Nat.le_refl _)).2; rw [hp] at this; exact this
  have hf2 : f0 < 32 := by omega
  clear hr hM hz hdl hbl hp hs hcase hbz hl1
  go_enter Tryz.func333, Tryz.ntmps333
  go_wp2_with fail
  go_loopg [7, 8, 9, 10] 32 (fun c s7 s8 s9 s10 wr => ∃ x k1 k2 : Nat, Hid (x + c = 32 ∧ pk b x = (k1, k2)) ∧ s10 = .int .i64 x ∧ s8 = .int .i64 k1 ∧ s9 = .int .i64 k2 ∧ s7 = .int .i64 k2 ∧ w = wr)
  case atStart => exact ⟨0, 0, 0, Lib.hid ⟨by omega, rfl⟩, rfl, rfl, rfl, rfl, rfl⟩
  case round =>
    obtain ⟨x, k1, k2, HX, rfl, rfl, rfl, rfl, hw⟩ := hrel
    subst hw
    cases gk with
    | succ c =>
      have hxz : (x : Int) < 32 := by have := HX.out.1; omega
      have hx : x < 32 := by omega
      have c0 := HR.out.cell hx
      have hk2 : k2 ≤ 100000 := by have := (pk_le (b := b) HM.out (x := x) (by omega)).2; rw [HX.out.2] at this; exact this
      have hbx := HM.out x hx
      by_cases hlt : k2 < b x
      · have HN := Lib.hid (show x + 1 + c = 32 ∧ pk b (x + 1) = (x, b x) from ⟨by have := HX.out.1; omega, pk_yes (by rw [HX.out.2]; exact hlt)⟩)
        generalize b x = bx at *
        have hltz : (k2 : Int) < (bx : Int) := by omega
        go_wp2_with fail
        go_roundg c
        case measure => omega
        case rel => exact ⟨x + 1, x, bx, HN, by go_num, rfl, rfl, rfl, rfl⟩
      · have HN := Lib.hid (show x + 1 + c = 32 ∧ pk b (x + 1) = (k1, k2) from ⟨by have := HX.out.1; omega, by rw [pk_no (by rw [HX.out.2]; exact hlt), HX.out.2]⟩)
        generalize b x = bx at *
        have hltz : ¬ (k2 : Int) < (bx : Int) := by omega
        go_wp2_with fail
        go_roundg c
        case measure => omega
        case rel => exact ⟨x + 1, k1, k2, HN, by go_num, rfl, rfl, rfl, rfl⟩
    | zero =>
      have hxz : ¬ (x : Int) < 32 := by have := HX.out.1; omega
      have hx : x = 32 := by have := HX.out.1; omega
      have hk : k1 = f0 ∧ k2 = m := by have h := HX.out.2; rw [hx, HP.out.1] at h; cases h; exact ⟨rfl, rfl⟩
      obtain ⟨rfl, rfl⟩ := hk
      clear HX hx
      go_wp2_with fail
      go_loopg [11, 12, 13, 14, 15] 32 (fun c s11 s12 s13 s14 s15 wr => ∃ x q1 q2 : Nat, Hid (x + c = 32 ∧ pk (sc2 b k1) x = (q1, q2)) ∧ s13 = .int .i64 x ∧ s11 = .int .i64 q1 ∧ s12 = .int .i64 q2 ∧ w = wr)
      case atStart => exact ⟨0, 0, 0, Lib.hid ⟨by omega, rfl⟩, rfl, rfl, rfl, rfl⟩
      case round =>
        clear hxz
        obtain ⟨x, q1, q2, HX, rfl, rfl, rfl, hw⟩ := hrel
        subst hw
        cases gk with
        | succ c =>
          have hxz : (x : Int) < 32 := by have := HX.out.1; omega
          have hx : x < 32 := by omega
          have c0 := HR.out.cell hx
          have hsl : ∀ i, i < 32 → sc2 b k1 i ≤ 96100000 := fun i hi => sc2_le (HM.out i hi) hf2 hi
          have hq2 : q2 ≤ 96100000 := by have := (pk_le (b := sc2 b k1) hsl (x := x) (by omega)).2; rw [HX.out.2] at this; exact this
          have hsx := hsl x hx
          clear hsl
          have hsi := sc2_int b k1 x
          have hbx := HM.out x hx
          obtain ⟨δ, hδ⟩ : ∃ δ : Int, (x : Int) - (k1 : Int) = δ := ⟨_, rfl⟩
          rw [hδ] at hsi
          have hd1 : -32 < δ := by omega
          have hd2 : δ < 32 := by omega
          obtain ⟨P, hP⟩ : ∃ P : Int, (b x : Int) * δ = P := ⟨_, rfl⟩
          rw [hP] at hsi
          have hP1 : P ≤ 3100000 := by
            rw [← hP]
            exact Int.le_trans (Int.mul_le_mul_of_nonneg_left (show δ ≤ 31 by omega) (Int.natCast_nonneg _)) (by omega)
          have hP2 : -3100000 ≤ P := by
            rw [← hP]
            exact Int.le_trans (by omega) (Int.mul_le_mul_of_nonneg_left (show -31 ≤ δ by omega) (Int.natCast_nonneg _))
          by_cases hlt : q2 < sc2 b k1 x
          · have HN := Lib.hid (show x + 1 + c = 32 ∧ pk (sc2 b k1) (x + 1) = (x, sc2 b k1 x) from ⟨by have := HX.out.1; omega, pk_yes (by rw [HX.out.2]; exact hlt)⟩)
            generalize sc2 b k1 x = sx at *
            generalize b x = bx at *
            have hltz : (q2 : Int) < (sx : Int) := by omega
            go_wp2_with fail
            go_roundg c
            case measure => omega
            case rel => exact ⟨x + 1, x, sx, HN, by go_num, rfl, rfl, rfl⟩
          · have HN := Lib.hid (show x + 1 + c = 32 ∧ pk (sc2 b k1) (x + 1) = (q1, q2) from ⟨by have := HX.out.1; omega, by rw [pk_no (by rw [HX.out.2]; exact hlt), HX.out.2]⟩)
            generalize sc2 b k1 x = sx at *
            generalize b x = bx at *
            have hltz : ¬ (q2 : Int) < (sx : Int) := by omega
            go_wp2_with fail
            go_roundg c
            case measure => omega
            case rel => exact ⟨x + 1, q1, q2, HN, by go_num, rfl, rfl, rfl⟩
        | zero =>
          have hxz : ¬ (x : Int) < 32 := by have := HX.out.1; omega
          have hx : x = 32 := by have := HX.out.1; omega
          have hk : q1 = s0 := by have h := HX.out.2; rw [hx] at h; have := HP.out.2.1; rw [h] at this; exact this
          subst hk
          clear HX hx
          have hkey : ∃ f s, ((k1 = s ∧ q1 = f) ∨ (k1 = f ∧ q1 = s)) ∧ f < s ∧ s = l ∧ (f = d ∨ f = 0) ∧ 3 ≤ s - f ∧ ∀ x, f < x → x < s → b x = 0 := by
            have h1 := HL.out
            obtain ⟨-, -, -, h2, h3⟩ := HP.out
            rcases h2 with ⟨e1, e2⟩ | ⟨e1, e2⟩
            · exact ⟨q1, k1, .inl ⟨rfl, rfl⟩, by omega, e1, e2, by omega, fun x h4 h5 => h3 x (by omega) (by omega)⟩
            · exact ⟨k1, q1, .inr ⟨rfl, rfl⟩, by omega, e2, .inl e1, by omega, fun x h4 h5 => h3 x (by omega) (by omega)⟩
          obtain ⟨f, s, hks, hfs, hsl, hfd, h3, hbz⟩ := hkey
          have HF := Lib.hid (show _ ∧ _ ∧ _ from ⟨hsl, hfd, hbz⟩)
          have hs32 : s < 32 := by omega
          have hfsz : (f : Int) < (s : Int) := by omega
          have h3z : ¬ (s : Int) - (f : Int) ≤ 2 := by omega
          clear hsl hfd hbz HP
          rcases hks with ⟨e1, e2⟩ | ⟨e1, e2⟩
          all_goals
            have e1 := e1.symm
            have e2 := e2.symm
            subst e1
            subst e2
            go_wp2_with fail
            clear hxz h3z
            go_loopg [16, 17, 18, 19, 20] (s - 1 - f) (fun c s16 s17 s18 s19 s20 wr => ∃ (x v : Nat) (B : Int), Hid (x = f + c) ∧ s18 = .int .i64 x ∧ s16 = .int .i64 v ∧ s17 = .int .i64 B ∧ Hid (x < s ∧ ((x = s - 1 ∧ B = -1) ∨ (f < v ∧ v < s ∧ B = (scV f s k2 v : Nat) ∧ ∀ y, x < y → y < s → scV f s k2 y ≤ scV f s k2 v))) ∧ w = wr)
            case atStart =>
              refine ⟨s - 1, s - 1, -1, Lib.hid (by omega), ?_, ?_, rfl, Lib.hid ⟨by omega, .inl ⟨rfl, rfl⟩⟩, rfl⟩
              · show Value.int .i64 _ = Value.int .i64 _
                congr 1; omega
              · show Value.int .i64 _ = Value.int .i64 _
                congr 1; omega
            case round =>
              obtain ⟨x, v, B, HX, rfl, rfl, rfl, HB, hw⟩ := hrel
              subst hw
              cases gk with
              | succ c =>
                have hfx : f < x := by have := HX.out; omega
                have hxs : x < s := HB.out.1
                have hfxz : (f : Int) < (x : Int) := by omega
                have c0 := HR.out.cell (show x < 32 by omega)
                rw [HF.out.2.2 x hfx hxs] at c0
                obtain ⟨T, hT⟩ : ∃ T, x - f = T := ⟨_, rfl⟩
                obtain ⟨U, hU⟩ : ∃ U, s - x = U := ⟨_, rfl⟩
                obtain ⟨V, hV⟩ : ∃ V, scV f s k2 x = V := ⟨_, rfl⟩
                have e1 : (x : Int) - (f : Int) = (T : Int) := by omega
                have e2 : (s : Int) - (x : Int) = (U : Int) := by omega
                obtain ⟨T2, hT2⟩ : ∃ T2, T * T = T2 := ⟨_, rfl⟩
                obtain ⟨T3, hT3⟩ : ∃ T3, T2 * U = T3 := ⟨_, rfl⟩
                have e3 : (T : Int) * (T : Int) = (T2 : Int) := by rw [← hT2, Int.natCast_mul]
                have e4 : (T2 : Int) * (U : Int) = (T3 : Int) := by rw [← hT3, Int.natCast_mul]
                have e5 : (T3 : Int) * (k2 : Int) = (V : Int) := by
                  rw [← hV]; unfold scV; rw [hT, hU, hT2, hT3, Int.natCast_mul]
                have b1 : T2 ≤ 961 := by rw [← hT2]; exact Nat.mul_le_mul (show T ≤ 31 by omega) (show T ≤ 31 by omega)
                have b2 : T3 ≤ 29791 := by rw [← hT3]; exact Nat.mul_le_mul b1 (show U ≤ 31 by omega)
                have b3 : V ≤ 2979100000 := by
                  rw [← hV]; unfold scV; rw [hT, hU, hT2, hT3]; exact Nat.mul_le_mul b2 hm2
                have b4 : -1 ≤ B ∧ B ≤ 2979100000 := by
                  rcases HB.out.2 with ⟨_, h⟩ | ⟨h4, h5, h, _⟩
                  · omega
                  · have : scV f s k2 v ≤ 2979100000 := by
                      unfold scV
                      exact Nat.mul_le_mul (Nat.mul_le_mul (Nat.mul_le_mul (show v - f ≤ 31 by omega) (show v - f ≤ 31 by omega)) (show s - v ≤ 31 by omega)) hm2
                    omega
                obtain ⟨b5, b6⟩ := b4
                have HX2 := Lib.hid (show x - 1 = f + c from by have := HX.out; omega)
                have hx1 : (1 : Int) ≤ (x : Int) := by omega
                by_cases hlt : B < (V : Int)
                · have HN := Lib.hid (show x - 1 < s ∧ ((x - 1 = s - 1 ∧ (V : Int) = -1) ∨ (f < x ∧ x < s ∧ (V : Int) = (scV f s k2 x : Nat) ∧ ∀ y, x - 1 < y → y < s → scV f s k2 y ≤ scV f s k2 x)) from ⟨by omega, .inr ⟨hfx, hxs, by rw [hV], fun y h6 h7 => by
                    by_cases e : y = x
                    · rw [e]; exact Nat.le_refl _
                    · rcases HB.out.2 with ⟨h, _⟩ | ⟨_, _, h, h8⟩
                      · omega
                      · have := h8 y (by omega) h7
                        omega⟩⟩)
                  clear HX HB hT hU hV hT2 hT3
                  go_wp2_with fail
                  go_roundg c
                  case measure => omega
                  case rel => exact ⟨x - 1, x, (V : Int), HX2, by show Value.int .i64 _ = Value.int .i64 _; congr 1; omega, rfl, rfl, HN, rfl⟩
                · have HN := Lib.hid (show x - 1 < s ∧ ((x - 1 = s - 1 ∧ B = -1) ∨ (f < v ∧ v < s ∧ B = (scV f s k2 v : Nat) ∧ ∀ y, x - 1 < y → y < s → scV f s k2 y ≤ scV f s k2 v)) from ⟨by omega, .inr (by
                    rcases HB.out.2 with ⟨_, h⟩ | ⟨h4, h5, h, h8⟩
                    · omega
                    · refine ⟨h4, h5, h, fun y h6 h7 => ?_⟩
                      by_cases e : y = x
                      · rw [e, hV]; omega
                      · exact h8 y (by omega) h7)⟩)
                  clear HX HB hT hU hV hT2 hT3
                  have hltz : (V : Int) ≤ B := by omega
                  clear hlt
                  go_wp2_with fail
                  go_roundg c
                  case measure => omega
                  case rel => exact ⟨x - 1, v, B, HX2, by show Value.int .i64 _ = Value.int .i64 _; congr 1; omega, rfl, rfl, HN, rfl⟩
              | zero =>
                obtain rfl : x = f := HX.out
                have hv : d < v ∧ v < l := by
                  rcases HB.out.2 with ⟨h, _⟩ | ⟨h4, h5, h, h8⟩
                  · omega
                  · exact valley_fine HL.out.1 (by have := HL.out; omega) hm HF.out.1 HF.out.2.1 h4 h5 h8
                have HV := Lib.hid hv
                have hv32 : v < 32 := by omega
                have hxx : ¬ (x : Int) < (x : Int) := by omega
                clear HB HX hv
                go_wp2_with fail
                go_ret2
                refine ⟨v, ?_, HV, rfl⟩
                show Ending.returned (.tuple #[.int .i64 ((v : Int) * 8), .nilIface]) = Ending.returned (.tuple #[.int .i64 ((8 * v : Nat) : Int), .nilIface])
                rw [show ((8 * v : Nat) : Int) = (v : Int) * 8 from by omega]
end Go.Proofs.YtcekbhhpcmhicaaGreatDoor
/- GlobalHistogramBinarizer.GetBlackMatrix of a picture in two grays. -/
namespace Go.Proofs.YtcekbhhpcmhicaaGreatDoor
open Go Go.RowKit Go.Deep
set_option maxRecDepth 100000
theorem Tryz.invW (b : Nat) (w : World) : (method 546 298 (.pointer (some ⟨b, 0, none⟩)) "GetWidth").run Tryz.prog w = .ok (348, .pointer (some ⟨b, 0, none⟩)) w := by kernel_rfl
theorem Tryz.entW (a : Array Value) (w : World) : (callFunc 348 a).run Tryz.prog w = .ok (.enter 348 a) w := by kernel_rfl
theorem Tryz.invH (b : Nat) (w : World) : (method 546 298 (.pointer (some ⟨b, 0, none⟩)) "GetHeight").run Tryz.prog w = .ok (345, .pointer (some ⟨b, 0, none⟩)) w := by kernel_rfl
theorem Tryz.entH (a : Array Value) (w : World) : (callFunc 345 a).run Tryz.prog w = .ok (.enter 345 a) w := by kernel_rfl
theorem Tryz.invR (b : Nat) (w : World) : (method 546 298 (.pointer (some ⟨b, 0, none⟩)) "GetRow").run Tryz.prog w = .ok (347, .pointer (some ⟨b, 0, none⟩)) w := by kernel_rfl
theorem Tryz.entR (a : Array Value) (w : World) : (callFunc 347 a).run Tryz.prog w = .ok (.enter 347 a) w := by kernel_rfl
theorem Tryz.invM (b : Nat) (w : World) : (method 546 298 (.pointer (some ⟨b, 0, none⟩)) "GetMatrix").run Tryz.prog w = .ok (346, .pointer (some ⟨b, 0, none⟩)) w := by kernel_rfl
theorem Tryz.entM (a : Array Value) (w : World) : (callFunc 346 a).run Tryz.prog w = .ok (.enter 346 a) w := by kernel_rfl
theorem Tryz.invG (b : Nat) (w : World) : (method 546 231 (.pointer (some ⟨b, 0, none⟩)) "GetBlackMatrix").run Tryz.prog w = .ok (327, .pointer (some ⟨b, 0, none⟩)) w := by kernel_rfl
theorem Tryz.entG (a : Array Value) (w : World) : (callFunc 327 a).run Tryz.prog w = .ok (.enter 327 a) w := by kernel_rfl
theorem Tryz.invY (b : Nat) (w : World) : (method 546 234 (.pointer (some ⟨b, 0, none⟩)) "GetBlackMatrix").run Tryz.prog w = .ok (335, .pointer (some ⟨b, 0, none⟩)) w := by kernel_rfl
theorem Tryz.entY (a : Array Value) (w : World) : (callFunc 335 a).run Tryz.prog w = .ok (.enter 335 a) w := by kernel_rfl
theorem Tryz.ahR (b : Nat) (w : World) : (nilAhead 546 298 (.pointer (some ⟨b, 0, none⟩)) "GetRow").run Tryz.prog w = .ok (some false) w := by kernel_rfl
def cutX (D : Nat → Nat → Bool) (W H : Nat) : Nat → Nat → Bool := fun y x => decide (y < H ∧ x < W) && D y x
theorem source_get {w : World} {p lb bb : Nat} {src : Value} (h : GH w p lb bb src) (q : Nat) (hs : src = .iface 298 (.pointer (some ⟨q, 0, none⟩))) : Calls Tryz.prog 330 #[.pointer (some ⟨p, 0, none⟩)] w fun e w' => e = .returned src ∧ w = w' := by
  subst hs
  have c0 := h.st.cell 0
  clear h
  go_enter Tryz.func330, Tryz.ntmps330
  go_wp2_with fail
  go_ret
  exact ⟨rfl, rfl⟩
/-- a picture in two grays: how its grays lie -/
structure Gray2 (W H dk lt : Nat) (D : Nat → Nat → Bool) (F : Nat → Nat) : Prop where
  px : ∀ y, y < H → ∀ x, x < W → F (y * W + x) = if D y x then dk else lt
  d3 : 3 * dk ≤ lt
  l1 : 128 ≤ lt
  l2 : lt < 256
/-- a histogram of two grays, of N pixels -/
structure Hist (b : Nat → Nat) (d l N : Nat) : Prop where
  z : ∀ i, i < 32 → i ≠ d → i ≠ l → b i = 0
  le : ∀ i, i < 32 → b i ≤ N
  pos : 0 < N → 0 < b l
/-- what GetBlackMatrix keeps -/
structure GS (w0 w : World) (p l2 bb q g m mg W H dk lt N : Nat) (F : Nat → Nat) (B : Nat → Nat → Bool) (Lm : Nat → Value) (b : Nat → Nat) : Prop where
  gl : GL w p l2 bb W (.iface 298 (.pointer (some ⟨q, 0, none⟩))) Lm b
  hi : Hist b (dk / 8) (lt / 8) N
  qm : QX w m mg W H B
  pl : PL w q g W H F
  fr : Fr (Two p bb) w0 w
  n0 : w0.heap.size ≤ l2
  n1 : w0.heap.size ≤ m
  n2 : w0.heap.size ≤ mg
  n3 : g < w0.heap.size
  n4 : q < w0.heap.size
  n5 : p < w0.heap.size
  n6 : bb < w0.heap.size
  n7 : p ≠ bb
theorem GS.lum {w0 w w' : World} {p l2 bb q g m mg W H dk lt N : Nat} {F : Nat → Nat} {B : Nat → Nat → Bool} {Lm Lm' : Nat → Value} {b : Nat → Nat} (h : GS w0 w p l2 bb q g m mg W H dk lt N F B Lm b) (hf : Fr (One l2) w w') (hl : w'.rowIs l2 5 W Lm') : GS w0 w' p l2 bb q g m mg W H dk lt N F B Lm' b := by
  have a0 := h.n0
  have a3 := h.n3
  have a4 := h.n4
  have a5 := h.n5
  have a6 := h.n6
  refine ⟨⟨h.gl.st.fr hf (fun e => ?_), hl, rowFr h.gl.bk hf (fun e => ?_)⟩, h.hi, h.qm.fr hf (fun e => ?_) (fun e => ?_), h.pl.fr hf (fun e => ?_) (fun e => ?_), h.fr.trans' hf (fun k hk e => ?_), a0, h.n1, h.n2, a3, a4, a5, a6, h.n7⟩
  · have e : p = l2 := e; omega
  · have e : bb = l2 := e; omega
  · exact h.qm.st.row_ne h.gl.lm (by decide) e
  · exact row_ne h.qm.ws h.gl.lm (by decide) e
  · have e : q = l2 := e; omega
  · have e : g = l2 := e; omega
  · have e : k = l2 := e; omega
theorem GS.tick {w0 w : World} {p l2 bb q g m mg W H dk lt N : Nat} {F : Nat → Nat} {B : Nat → Nat → Bool} {Lm : Nat → Value} {b : Nat → Nat} (h : GS w0 w p l2 bb q g m mg W H dk lt N F B Lm b) {i : Nat} (hi : i = dk / 8 ∨ i = lt / 8) (h0 : N = 0 → i = lt / 8) :
    GS w0 (w.setCell ⟨bb, i, none⟩ (i64 (b i + 1))) p l2 bb q g m mg W H dk lt (N + 1) F B Lm (fun j => if j = i then b i + 1 else b j) := by
  have hf : Fr (One bb) w (w.setCell ⟨bb, i, none⟩ (i64 (b i + 1))) := (Fr.refl _ _).set1 i _
  have a0 := h.n0
  have a6 := h.n6
  have a7 := h.n7
  have a1 := h.n1
  have a2 := h.n2
  obtain ⟨_, _, hqb⟩ := h.pl.st
  obtain ⟨_, hgb⟩ := h.pl.gb
  refine ⟨⟨h.gl.st.fr hf (fun e => a7 e), rowFr h.gl.lm hf (fun e => ?_), (h.gl.bk.set i (i64 (b i + 1))).congr (fun j _ => by split <;> rfl)⟩, ⟨fun j hj h1 h2 => ?_, fun j hj => ?_, fun _ => ?_⟩, h.qm.fr hf (fun e => ?_) (fun e => ?_), h.pl.fr hf (fun e => hqb.row_ne h.gl.bk (by decide) e) (fun e => hgb.row_ne h.gl.bk (by decide) e), h.fr.trans' hf (fun k hk e => .inr e), a0, a1, a2, h.n3, h.n4, h.n5, a6, a7⟩
  · exact row_ne h.gl.lm h.gl.bk (by decide) e
  · show (if j = i then b i + 1 else b j) = 0
    rw [if_neg (by omega)]
    exact h.hi.z j hj h1 h2
  · show (if j = i then b i + 1 else b j) ≤ N + 1
    have h1 := h.hi.le j hj
    split
    · rename_i e; rw [← e]; omega
    · omega
  · show 0 < if lt / 8 = i then b i + 1 else b (lt / 8)
    split
    · omega
    · rename_i e
      exact h.hi.pos (by rcases Nat.eq_zero_or_pos N with h3 | h3 <;> omega)
  · have e : m = bb := e; omega
  · have e : mg = bb := e; omega
set_option maxHeartbeats 6400000 in
theorem globalMatrix_calls {w : World} {p lb bb q g W H dk lt : Nat} {D : Nat → Nat → Bool} {F : Nat → Nat} (hg : GH w p lb bb (.iface 298 (.pointer (some ⟨q, 0, none⟩)))) (hp : PL w q g W H F) (h2 : Gray2 W H dk lt D F) (hfirst : ∀ y, y < H → D y (W / 5) = false)
    (w1 : 20 ≤ W) (w2 : W ≤ 1500) (k1 : 20 ≤ H) (k2 : H ≤ 1500) :
    Calls Tryz.prog 327 #[.pointer (some ⟨p, 0, none⟩)] w fun e w' => ∃ m, e = .returned (.tuple #[.pointer (some ⟨m, 0, none⟩), .nilIface]) ∧ (∃ mg, QX w' m mg W H (cutX D W H)) ∧ Fr (Two p bb) w w' := by
  have HS := Lib.hid (source_get hg q rfl)
  have HW := Lib.hid (plWidth_calls hp)
  have HH := Lib.hid (plHeight_calls hp)
  have HG := Lib.hid hg
  have HP := Lib.hid hp
  have H2 := Lib.hid (show _ ∧ _ from ⟨h2, hfirst⟩)
  clear hg hp h2 hfirst
  go_enter Tryz.func327, Tryz.ntmps327
  go_wp2_with fail
  refine HS.out.mono ?_
  rintro e w3 ⟨rfl, rfl⟩
  have i1 := Tryz.invW q w
  have i2 := Tryz.entW #[.pointer (some ⟨q, 0, none⟩)] w
  have i3 := Tryz.invH q w
  have i4 := Tryz.entH #[.pointer (some ⟨q, 0, none⟩)] w
  go_wp2_with fail
  refine HW.out.mono ?_
  rintro e w3 ⟨rfl, rfl⟩
  go_wp2_with fail
  refine HH.out.mono ?_
  rintro e w3 ⟨rfl, rfl⟩
  go_wp2_with fail
  have hq4 := newQX_calls w W H (by omega) (by omega) (by omega) (by omega)
  obtain ⟨mg, hmg⟩ : ∃ mg, w.heap.size = mg := ⟨_, rfl⟩
  obtain ⟨m, hm⟩ : ∃ m, mg + 1 = m := ⟨_, rfl⟩
  rw [hmg, hm] at hq4
  refine hq4.mono ?_
  rintro e w4 ⟨rfl, hq, hf4, hs4⟩
  have hg4 : GH w4 p lb bb (.iface 298 (.pointer (some ⟨q, 0, none⟩))) := ⟨HG.out.st.fr hf4 (fun e => e), rowFr HG.out.bk hf4 (fun e => e)⟩
  have HI := Lib.hid (initArrays_calls hg4 (W := W) (by omega) w2)
  have hpb : p ≠ bb := HG.out.st.row_ne HG.out.bk (by decide)
  have hpl := HG.out.st.lt
  have hbl : bb < w.heap.size := by obtain ⟨c, hc, _⟩ := HG.out.bk; exact (Array.getElem?_eq_some_iff.1 hc).1
  obtain ⟨qc, -, hqb⟩ := HP.out.st
  have hql := hqb.lt
  have hqp : q ≠ p := hqb.ne_ HG.out.st (by decide)
  have hqbb : q ≠ bb := hqb.row_ne HG.out.bk (by decide)
  obtain ⟨gcs, hgb⟩ := HP.out.gb
  have hgl := hgb.lt
  have hgp : g ≠ p := hgb.ne_ HG.out.st (by decide)
  have hgbb : g ≠ bb := hgb.row_ne HG.out.bk (by decide)
  have HGS := Lib.hid (show ∀ w5 l2, GL w5 p l2 bb W (.iface 298 (.pointer (some ⟨q, 0, none⟩))) (fun _ => u8 0) (fun _ => 0) → Fr (Two p bb) w4 w5 → w4.heap.size ≤ l2 → GS w w5 p l2 bb q g m mg W H dk lt 0 F noB (fun _ => u8 0) (fun _ => 0) from fun w5 l2 h1 hf h3 =>
    ⟨h1, ⟨fun _ _ _ _ => rfl, fun _ _ => Nat.le_refl _, fun e => absurd e (by omega)⟩, hq.fr hf (by rintro (e | e) <;> omega) (by rintro (e | e) <;> omega), (HP.out.nil hf4).fr hf (by rintro (e | e) <;> omega) (by rintro (e | e) <;> omega),
      (hf4.any _).trans hf, by omega, by omega, by omega, hgl, hql, hpl, hbl, hpb⟩)
  clear hq hf4 hg4 hq4 hs4 hpb hpl hbl hqb hql hqp hqbb hgb hgl hgp hgbb HG HP HW HH HS i1 i2 i3 i4 hmg hm
  go_wp2_with fail
  refine HI.out.mono ?_
  rintro e w5 ⟨rfl, l2, hgl, hf5, hl2⟩
  have HGS0 := Lib.hid (HGS.out w5 l2 hgl hf5 hl2)
  clear hgl hf5 hl2 HGS HI
  have a2 := HGS0.out.gl.st.cell 2
  go_wp2_with fail
  clear a2
  go_loopg [10, 11, 12, 13, 14, 15, 16] 4 (fun c s10 s11 s12 s13 s14 s15 s16 wr => ∃ (y N : Nat) (Lm : Nat → Value) (b : Nat → Nat), Hid (y + c = 5 ∧ 1 ≤ y ∧ N + 1500 ≤ y * 1500 ∧ (1 < y → 0 < N)) ∧ s10 = .int .i64 y ∧ Hid (GS w wr p l2 bb q g m mg W H dk lt N F noB Lm b))
  case atStart => exact ⟨1, 0, _, _, Lib.hid (by omega), rfl, HGS0⟩
  case round =>
    clear HGS0
    obtain ⟨y, N, Lm, b, HY, rfl, HGS⟩ := hrel
    cases gk with
    | succ c =>
      have hyz : (y : Int) < 5 := by have := HY.out; omega
      have hy5 : y < 5 := by omega
      have hy1 : 1 ≤ y := HY.out.2.1
      have hPle : H * y ≤ 6000 := Nat.mul_le_mul k2 (show y ≤ 4 by omega)
      have hPH : H * y / 5 < H := by
        have : H * y ≤ H * 4 := Nat.mul_le_mul_left _ (by omega)
        omega
      obtain ⟨P, hP⟩ : ∃ P, H * y = P := ⟨_, rfl⟩
      have hPz : (H : Int) * (y : Int) = (P : Int) := by rw [← hP, Int.natCast_mul]
      rw [hP] at hPle hPH
      obtain ⟨r, hr⟩ : ∃ r, P / 5 = r := ⟨_, rfl⟩
      have hrz : (P : Int) / 5 = (r : Int) := by omega
      rw [hr] at hPH
      have hlg : l2 ≠ g ∧ l2 ≠ q := by
        have h := HGS.out
        have := h.n0
        have := h.n3
        have := h.n4
        omega
      have HROW := Lib.hid (show ∀ w', Fr Nil wr w' → Hid (Calls Tryz.prog 347 #[.pointer (some ⟨q, 0, none⟩), i64 r, .slice (some ⟨l2, 0, none⟩) W W] w' fun e w'' => e = .returned (.tuple #[.slice (some ⟨l2, 0, none⟩) W W, .nilIface]) ∧ w''.rowIs l2 5 W (fun x => u8 (F (r * W + x))) ∧ Fr (One l2) w' w'') from
        fun w' hf => Lib.hid (plRow_calls (HGS.out.pl.nil hf) (rowFr HGS.out.gl.lm hf (fun e => e)) hlg.1 hlg.2 (by omega) w2 k2 r hPH))
      have a1 := HGS.out.gl.st.cell 1
      have i1 := fun w => Tryz.invR q w
      have i2 := fun w => Tryz.entR #[.pointer (some ⟨q, 0, none⟩), .int .i64 (r : Int), .slice (some ⟨l2, 0, none⟩) W W] w
      have i3 := fun w => Tryz.ahR q w
      have HPR := Lib.hid (show H * y = P ∧ P / 5 = r ∧ r < H from ⟨hP, hr, hPH⟩)
      clear hP hr hPH hlg
      go_wp2_with fail
      go_region_with
        ((go_at_call 347; refine ((HROW.out _ (Fr.refl _ _).drew).out).mono ?_; rintro e w7 ⟨rfl, hlm, hf7⟩; have HLM := Lib.hid (show _ ∧ _ from ⟨hlm, hf7⟩); clear hlm hf7; go_wp2_with fail))
      all_goals
        have HGS7 := Lib.hid (HGS.out.lum ((Fr.refl (One l2) wr).drew.trans (by exact HLM.out.2)) HLM.out.1)
        clear HLM
        have hX1 : (W : Int) * 4 / 5 = ((W * 4 / 5 : Nat) : Int) := by omega
        have hX0 : (W : Int) / 5 = ((W / 5 : Nat) : Int) := by omega
        have HX01 := Lib.hid (show ∀ y, y < H → D y (W / 5) = false from H2.out.2)
        obtain ⟨X1, hX1e⟩ : ∃ X1, W * 4 / 5 = X1 := ⟨_, rfl⟩
        obtain ⟨X0, hX0e⟩ : ∃ X0, W / 5 = X0 := ⟨_, rfl⟩
        rw [hX1e] at hX1
        rw [hX0e] at hX0 HX01
        have hlt01 : X0 < X1 := by omega
        have hX1W : X1 ≤ W := by omega
        have HD := Lib.hid (show W * 4 / 5 = X1 ∧ W / 5 = X0 from ⟨hX1e, hX0e⟩)
        clear hX1e hX0e
        go_wp2_with fail
        go_loopg [15, 16] (X1 - X0) (fun k s15 s16 wz => ∃ (x N2 : Nat) (b : Nat → Nat), Hid (x + k = X1 ∧ X0 ≤ x ∧ N2 + X0 = N + x) ∧ s15 = .int .i64 x ∧ Hid (GS w wz p l2 bb q g m mg W H dk lt N2 F noB (fun x => u8 (F (r * W + x))) b))
        case atStart => exact ⟨X0, N, b, Lib.hid (by omega), rfl, HGS7⟩
        case round =>
          clear HGS7 HGS
          obtain ⟨x, N2, b2, HX, rfl, HGZ⟩ := hrel
          cases gk with
          | zero =>
            have hxz : ¬ (x : Int) < (X1 : Int) := by have := HX.out; omega
            go_wp2_with fail
            go_roundg c
            case measure => have := HY.out; omega
            case rel => exact ⟨y + 1, N2, _, b2, Lib.hid (by have := HY.out; have := HX.out; omega), by go_num, HGZ⟩
          | succ k =>
            have hxz : (x : Int) < (X1 : Int) := by have := HX.out; omega
            have hxW : x < W := by have := HX.out; omega
            have hvx := H2.out.1.px r HPR.out.2.2 x hxW
            have lx := HGZ.out.gl.lm.cell hxW
            have hg2 := H2.out.1
            have hdl : F (r * W + x) < 256 ∧ (F (r * W + x) / 8 = dk / 8 ∨ F (r * W + x) / 8 = lt / 8) ∧ (N2 = 0 → F (r * W + x) / 8 = lt / 8) := by
              have := hg2.l2
              have := hg2.d3
              rw [hvx]
              refine ⟨?_, ?_, fun e => ?_⟩
              · split <;> omega
              · split
                · exact .inl rfl
                · exact .inr rfl
              · have : x = X0 := by have := HX.out; omega
                rw [this, HX01.out r HPR.out.2.2]
                rfl
            obtain ⟨v, hv⟩ : ∃ v, F (r * W + x) = v := ⟨_, rfl⟩
            rw [hv] at lx hdl
            obtain ⟨i, hi⟩ : ∃ i, v / 8 = i := ⟨_, rfl⟩
            rw [hi] at hdl
            have hiz : (v : Int) / 8 = (i : Int) := by omega
            have hi32 : i < 32 := by omega
            have hand := u8_and255 v hdl.1
            have HT := Lib.hid (HGZ.out.tick hdl.2.1 hdl.2.2)
            have b0 := HGZ.out.gl.bk.cell hi32
            have b1 := HGZ.out.gl.bk.frozen i
            have hble := HGZ.out.hi.le i hi32
            have hN2 : N2 ≤ 100000 := by have := HX.out; have := HY.out; omega
            have hv256 := hdl.1
            clear hdl hv hi hvx hg2 HGZ
            obtain ⟨bi, hbi⟩ : ∃ bi, b2 i = bi := ⟨_, rfl⟩
            rw [hbi] at b0 hble HT
            clear hbi
            go_wp2_with fail
            go_roundg k
            case measure => omega
            case rel => exact ⟨x + 1, N2 + 1, _, Lib.hid (by have := HX.out; omega), by go_num, HT⟩
    | zero =>
      have hyz : ¬ (y : Int) < 5 := by have := HY.out; omega
      have hN : 0 < N := by have := HY.out; omega
      have hN2 : N ≤ 6000 := by have := HY.out; omega
      have hg2 := H2.out.1
      have HB := Lib.hid (blackPoint_calls (p := p) (d := dk / 8) (l := lt / 8) HGS.out.gl.bk (by have := hg2.d3; omega) (by have := hg2.l1; omega) (by have := hg2.l2; omega) (HGS.out.hi.pos hN) HGS.out.hi.z (fun i hi => by have := HGS.out.hi.le i hi; omega))
      have HMX := Lib.hid (plMatrix_calls HGS.out.pl)
      have i1 := Tryz.invM q wr
      have i2 := Tryz.entM #[.pointer (some ⟨q, 0, none⟩)] wr
      have HDL := Lib.hid (show dk / 8 < lt / 8 ∧ lt < 256 from ⟨by have := hg2.d3; have := hg2.l1; omega, hg2.l2⟩)
      have HQ0 := Lib.hid (show QX wr m mg W H (rdd D W 0 0) ∧ PL wr q g W H F ∧ Fr (Two p bb) w wr ∧ g ≠ mg ∧ q ≠ mg ∧ w.heap.size ≤ mg from
        ⟨HGS.out.qm.congr (rdd_zero D W).symm, HGS.out.pl, HGS.out.fr, by have := HGS.out.n3; have := HGS.out.n2; omega, by have := HGS.out.n4; have := HGS.out.n2; omega, HGS.out.n2⟩)
      clear hN hN2 hg2 HGS HY
      go_wp2_with fail
      refine HB.out.mono ?_
      rintro e w8 ⟨v, rfl, HV, rfl⟩
      have hv32 : v < 32 := by have := HV.out; have := HDL.out; omega
      obtain ⟨bp, hbp⟩ : ∃ bp, 8 * v = bp := ⟨_, rfl⟩
      have HBP := Lib.hid (show dk < bp ∧ bp ≤ lt from by have := HV.out; omega)
      have hbp2 : bp ≤ 256 := by omega
      rw [hbp]
      clear hbp hv32 HV HDL HB hyz
      go_wp2_with fail
      refine HMX.out.mono ?_
      rintro e w8 ⟨gc, rfl, rfl⟩
      clear HMX i1 i2
      go_wp2_with fail
      go_loopg [19, 20, 21, 22] H (fun c s19 s20 s21 s22 wz => ∃ y : Nat, Hid (y + c = H) ∧ s19 = .int .i64 y ∧ Hid (QX wz m mg W H (rdd D W y 0) ∧ PL wz q g W H F ∧ Fr (Two p bb) w wz ∧ g ≠ mg ∧ q ≠ mg ∧ w.heap.size ≤ mg))
      case atStart => exact ⟨0, Lib.hid (by omega), rfl, HQ0⟩
      case round =>
        clear HQ0
        obtain ⟨y, HY, rfl, HQ⟩ := hrel
        cases gk with
        | zero =>
          have hyz : ¬ (y : Int) < (H : Int) := by have := HY.out; omega
          have hyH : y = H := by have := HY.out; omega
          have HE := Lib.hid (HQ.out.1.congr (C := cutX D W H) (by
            funext a c
            unfold rdd cutX
            congr 1
            rw [decide_eq_decide, hyH]
            omega))
          clear hyH
          go_wp2_with fail
          go_ret2
          exact ⟨m, rfl, ⟨mg, HE.out⟩, HQ.out.2.2.1⟩
        | succ c =>
          have hyz : (y : Int) < (H : Int) := by have := HY.out; omega
          have hyH : y < H := by omega
          obtain ⟨S, hS⟩ : ∃ S, y * W = S := ⟨_, rfl⟩
          have hSz : (y : Int) * (W : Int) = (S : Int) := by rw [← hS, Int.natCast_mul]
          have hSW : S + W ≤ H * W := by
            rw [← hS]
            have h2 : (y + 1) * W ≤ H * W := Nat.mul_le_mul_right _ (by omega)
            rw [Nat.add_mul, Nat.one_mul] at h2
            exact h2
          have hHW : H * W ≤ 2250000 := Nat.mul_le_mul k2 w2
          have HS := Lib.hid hS
          clear hS
          go_wp2_with fail
          go_loopg [21, 22] W (fun k s21 s22 wq => ∃ x : Nat, Hid (x + k = W) ∧ s21 = .int .i64 x ∧ Hid (QX wq m mg W H (rdd D W y x) ∧ PL wq q g W H F ∧ Fr (Two p bb) w wq ∧ g ≠ mg ∧ q ≠ mg ∧ w.heap.size ≤ mg))
          case atStart => exact ⟨0, Lib.hid (by omega), rfl, HQ⟩
          case round =>
            clear HQ
            obtain ⟨x, HX, rfl, HQ⟩ := hrel
            cases gk with
            | zero =>
              have hxz : ¬ (x : Int) < (W : Int) := by have := HX.out; omega
              have hxW : x = W := by have := HX.out; omega
              have HQ2 := Lib.hid (show QX wr m mg W H (rdd D W (y + 1) 0) ∧ PL wr q g W H F ∧ Fr (Two p bb) w wr ∧ g ≠ mg ∧ q ≠ mg ∧ w.heap.size ≤ mg from ⟨HQ.out.1.congr (by rw [hxW]; exact rdd_row D W y), HQ.out.2⟩)
              clear hxW
              go_wp2_with fail
              go_roundg c
              case measure => have := HY.out; omega
              case rel => exact ⟨y + 1, Lib.hid (by have := HY.out; omega), by go_num, HQ2⟩
            | succ k =>
              have hxz : (x : Int) < (W : Int) := by have := HX.out; omega
              have hxW : x < W := by omega
              have hpx := H2.out.1.px y hyH x hxW
              rw [HS.out] at hpx
              have cx := HQ.out.2.1.px (S + x) (by omega)
              rw [hpx] at cx
              obtain ⟨T, hT⟩ : ∃ T, S + x = T := ⟨_, rfl⟩
              have hTz : (S : Int) + (x : Int) = (T : Int) := by omega
              have hTH : T < H * W := by omega
              rw [hT] at cx
              have hl2 := H2.out.1.l2
              have hbpp := HBP.out
              clear hpx hT
              obtain ⟨bv, hbv⟩ : ∃ bv, D y x = bv := ⟨_, rfl⟩
              rw [hbv] at cx
              cases bv with
              | false =>
                have HQ2 := Lib.hid (show QX wr m mg W H (rdd D W y (x + 1)) ∧ PL wr q g W H F ∧ Fr (Two p bb) w wr ∧ g ≠ mg ∧ q ≠ mg ∧ w.heap.size ≤ mg from ⟨HQ.out.1.congr (rdd_no D W y x hbv).symm, HQ.out.2⟩)
                have hand := u8_and255 lt hl2
                have hltz : ¬ (lt : Int) < (bp : Int) := by omega
                rw [if_neg (by simp)] at cx
                clear hbv HQ hbpp
                go_wp2_with fail
                go_roundg k
                case measure => omega
                case rel => exact ⟨x + 1, Lib.hid (by have := HX.out; omega), by go_num, HQ2⟩
              | true =>
                have HSET := Lib.hid (qxSet_calls HQ.out.1 x y hxW hyH)
                have hdk : dk < 256 := by omega
                have hand := u8_and255 dk hdk
                have hltz : (dk : Int) < (bp : Int) := by omega
                have HYES := Lib.hid (rdd_yes D W y x hbv hxW)
                rw [if_pos rfl] at cx
                clear hbv hbpp
                go_wp2_with fail
                refine HSET.out.mono ?_
                rintro e w9 ⟨rfl, hq9, hf9⟩
                have HQ2 := Lib.hid (show QX w9 m mg W H (rdd D W y (x + 1)) ∧ PL w9 q g W H F ∧ Fr (Two p bb) w w9 ∧ g ≠ mg ∧ q ≠ mg ∧ w.heap.size ≤ mg from
                  ⟨hq9.congr HYES.out, HQ.out.2.1.fr hf9 (fun e => HQ.out.2.2.2.2.1 e) (fun e => HQ.out.2.2.2.1 e), HQ.out.2.2.1.trans' hf9 (fun i hi e => by
                    have e : i = mg := e
                    have := HQ.out.2.2.2.2.2
                    omega), HQ.out.2.2.2⟩)
                clear hq9 hf9 HQ
                go_wp2_with fail
                go_roundg k
                case measure => omega
                case rel => exact ⟨x + 1, Lib.hid (by have := HX.out; omega), by go_num, HQ2⟩
end Go.Proofs.YtcekbhhpcmhicaaGreatDoor
/- calculateBlackPoints: each black point lies below the light gray. -/
namespace Go.Proofs.YtcekbhhpcmhicaaGreatDoor
open Go Go.RowKit Go.Deep
set_option maxRecDepth 100000
theorem Tryz.und268 : Tryz.prog.underlying 268 = some (.slice 138) := by kernel_rfl
theorem Tryz.inf138 : (Tryz.prog.info? 138).map (fun i => (i.zero, i.size, i.bytes)) = some (some (.slice none 0 0), 1, 24) := by kernel_rfl
theorem mkIntRows (n : Nat) (h : n ≤ 1000000) (w : World) : (Instr.makeSlice 268 (.int .i64 (n : Int)) (.int .i64 (n : Int))).run Tryz.prog w = .ok (.slice (some ⟨w.heap.size, 0, none⟩) n n) (w.alloc (.cells (madeCells #[.slice none 0 0] n) 138)) :=
  run_make_row' (P := Tryz.prog) 268 138 (.slice none 0 0) 24 Tryz.und268 Tryz.inf138 rfl .i64 .i64 n (by omega) (by omega) w
/-- black points in memory: i rows laid -/
structure BPm (w0 w : World) (g W H i lt : Nat) (R : Nat → Nat) (V : Nat → Nat → Nat) : Prop where
  fr : Fr Nil w0 w
  lo : w0.heap.size ≤ g
  top : w.rowIs g 138 H (fun y => if y < i then .slice (some ⟨R y, 0, none⟩) W W else .slice none 0 0)
  row : ∀ y, y < i → w.rowIs (R y) 3 W (fun x => i64 (V y x))
  rlo : ∀ y, y < i → w0.heap.size ≤ R y
  ne : ∀ y z, y < i → z < i → y ≠ z → R y ≠ R z
  bd : ∀ y, y < i → ∀ x, x < W → V y x < lt
theorem BPm.nil {w0 w w' : World} {g W H i lt : Nat} {R : Nat → Nat} {V : Nat → Nat → Nat} (h : BPm w0 w g W H i lt R V) (hf : Fr Nil w w') : BPm w0 w' g W H i lt R V :=
  ⟨h.fr.trans hf, h.lo, rowFr h.top hf (fun e => e), fun y hy => rowFr (h.row y hy) hf (fun e => e), h.rlo, h.ne, h.bd⟩
theorem BPm.start {w0 w : World} (hf : Fr Nil w0 w) (W H lt : Nat) : BPm w0 (w.alloc (.cells (madeCells #[.slice none 0 0] H) 138)) w.heap.size W H 0 lt (fun _ => 0) (fun _ _ => 0) :=
  ⟨hf.alloc _, hf.size, (World.rowIs_made w (.slice none 0 0) H 138).congr (fun y _ => by rw [if_neg (by omega)]), fun y hy => absurd hy (by omega), fun y hy => absurd hy (by omega), fun y z hy => absurd hy (by omega), fun y hy => absurd hy (by omega)⟩
theorem row_lt {w : World} {g n : Nat} {t : TypeId} {f : Nat → Value} (h : w.rowIs g t n f) : g < w.heap.size := by
  obtain ⟨c, hc, _⟩ := h
  exact (Array.getElem?_eq_some_iff.1 hc).1
theorem BPm.add {w0 w : World} {g W H i lt : Nat} {R : Nat → Nat} {V : Nat → Nat → Nat} (h : BPm w0 w g W H i lt R V) (hl : 0 < lt) :
    BPm w0 ((w.alloc (.cells (madeCells #[.int .i64 0] W) 3)).setCell ⟨g, i, none⟩ (.slice (some ⟨w.heap.size, 0, none⟩) W W)) g W H (i + 1) lt (fun j => if j = i then w.heap.size else R j) (fun j x => if j = i then 0 else V j x) := by
  have hfa : Fr Nil w (w.alloc (.cells (madeCells #[.int .i64 0] W) 3)) := (Fr.refl _ _).alloc _
  have hg := row_lt h.top
  have hfs : Fr (One g) (w.alloc (.cells (madeCells #[.int .i64 0] W) 3)) ((w.alloc (.cells (madeCells #[.int .i64 0] W) 3)).setCell ⟨g, i, none⟩ (.slice (some ⟨w.heap.size, 0, none⟩) W W)) := (Fr.refl _ _).set1 i _
  refine ⟨(h.fr.trans hfa).setNew h.lo i _, h.lo, ((rowFr h.top hfa (fun e => e)).set i _).congr (fun y _ => ?_), fun y hy => ?_, fun y hy => ?_, fun y z hy hz hyz => ?_, fun y hy x hx => ?_⟩
  · by_cases e : y = i
    · subst e; rw [if_pos rfl, if_pos (by omega), if_pos rfl]
    · rw [if_neg e]
      by_cases hy : y < i
      · rw [if_pos hy, if_pos (by omega), if_neg e]
      · rw [if_neg hy, if_neg (by omega)]
  · by_cases e : y = i
    · subst e
      simp only [if_pos]
      exact rowFr (World.rowIs_made w (.int .i64 0) W 3) hfs (fun e => by
        have e : w.heap.size = g := e
        omega)
    · simp only [if_neg e]
      have hr := h.row y (by omega)
      exact rowFr (rowFr hr hfa (fun e => e)) hfs (fun e => by
        have e : R y = g := e
        exact row_ne hr h.top (by decide) e)
  · show w0.heap.size ≤ if y = i then w.heap.size else R y
    split
    · exact h.fr.size
    · exact h.rlo y (by omega)
  · show (if y = i then w.heap.size else R y) ≠ (if z = i then w.heap.size else R z)
    split
    · rw [if_neg (by omega)]
      have := row_lt (h.row z (by omega))
      omega
    · have := row_lt (h.row y (by omega))
      split
      · omega
      · exact h.ne y z (by omega) (by omega) hyz
  · show (if y = i then 0 else V y x) < lt
    split
    · exact hl
    · exact h.bd y (by omega) x hx
theorem BPm.put {w0 w : World} {g W H i lt : Nat} {R : Nat → Nat} {V : Nat → Nat → Nat} (h : BPm w0 w g W H i lt R V) {y x v : Nat} (hy : y < i) (hv : v < lt) :
    BPm w0 (w.setCell ⟨R y, x, none⟩ (i64 v)) g W H i lt R (fun j k => if j = y ∧ k = x then v else V j k) := by
  have hf : Fr (One (R y)) w (w.setCell ⟨R y, x, none⟩ (i64 v)) := (Fr.refl _ _).set1 x _
  refine ⟨h.fr.setNew (h.rlo y hy) x _, h.lo, rowFr h.top hf (fun e => row_ne (h.row y hy) h.top (by decide) e.symm), fun z hz => ?_, h.rlo, h.ne, fun z hz k hk => ?_⟩
  · by_cases e : z = y
    · subst e
      refine ((h.row z hz).set x (i64 v)).congr (fun k _ => ?_)
      by_cases e : k = x
      · rw [if_pos e, if_pos ⟨rfl, e⟩]
      · rw [if_neg e, if_neg (fun h => e h.2)]
    · refine (rowFr (h.row z hz) hf (fun e2 => h.ne z y hz hy e e2)).congr (fun k _ => ?_)
      rw [if_neg (fun h => e h.1)]
  · show (if z = y ∧ k = x then v else V z k) < lt
    split
    · exact hv
    · exact h.bd z hz k hk
/-- a block's pixels so far: how many, their sum, the least, the greatest -/
structure BS (lt cnt sm mn mx : Nat) : Prop where
  a : mn ≤ 255
  b : mx ≤ 255
  c : sm ≤ lt * cnt
  d : sm + lt ≤ lt * cnt ∨ (mx ≤ lt ∧ lt ≤ mn)
theorem BS.zero {lt : Nat} (h : lt ≤ 255) : BS lt 0 0 255 0 := ⟨Nat.le_refl _, by omega, Nat.zero_le _, .inr ⟨by omega, h⟩⟩
theorem BS.step {lt cnt sm mn mx u mn' mx' : Nat} (h : BS lt cnt sm mn mx) (hu : u = 0 ∨ u = lt) (hl : lt ≤ 255) (h1 : mn' = if u < mn then u else mn) (h2 : mx' = if mx < u then u else mx) : BS lt (cnt + 1) (sm + u) mn' mx' := by
  have hc := h.c
  have hd := h.d
  have ha := h.a
  have hb := h.b
  subst h1 h2
  refine ⟨?_, ?_, ?_, ?_⟩
  · split <;> omega
  · split <;> omega
  · rw [Nat.mul_succ]; omega
  · rw [Nat.mul_succ]
    rcases hu with e | e
    · left; omega
    · rcases hd with hd | hd
      · left; omega
      · right
        rw [e]
        constructor
        · split <;> omega
        · split <;> omega
theorem BS.le {lt cnt sm mn mx : Nat} (h : BS lt cnt sm mn mx) (hl : lt ≤ 255) (hc : cnt ≤ 64) : sm ≤ 16320 := Nat.le_trans h.c (Nat.mul_le_mul hl hc)
theorem sum_le {lt cnt sm : Nat} (h : sm + lt ≤ lt * cnt) (hl : lt ≤ 255) (hc : cnt ≤ 64) : sm ≤ 16320 := by
  have := Nat.mul_le_mul hl hc
  omega
/-- the rest of the rows, when the range is wide -/
theorem BS.more {lt cnt sm u : Nat} (h : sm + lt ≤ lt * cnt) (hu : u = 0 ∨ u = lt) : sm + u + lt ≤ lt * (cnt + 1) := by
  rw [Nat.mul_succ]; omega
end Go.Proofs.YtcekbhhpcmhicaaGreatDoor
/- calculateBlackPoints walked. -/
namespace Go.Proofs.YtcekbhhpcmhicaaGreatDoor
open Go Go.RowKit Go.Deep
set_option maxRecDepth 100000
set_option maxHeartbeats 12800000 in
theorem blackPoints_calls {w : World} {hp q g W H A C lt gc : Nat} {F : Nat → Nat} (hpl : PL w q g W H F) (hu : ∀ k, k < H * W → F k = 0 ∨ F k = lt) (l1 : 128 ≤ lt) (l2 : lt < 256) (w1 : 40 ≤ W) (w2 : W ≤ 1500) (k1 : 40 ≤ H) (k2 : H ≤ 1500) (hA : A = (W + 7) / 8) (hC : C = (H + 7) / 8) :
    Calls Tryz.prog 336 #[.pointer (some ⟨hp, 0, none⟩), .slice (some ⟨g, 0, none⟩) (H * W) gc, i64 A, i64 C, i64 W, i64 H] w fun e w' => ∃ b, e = .returned (.slice (some ⟨b, 0, none⟩) C C) ∧ (∃ R V, BPm w w' b A C C lt R V) ∧ Fr Nil w w' := by
  have HP := Lib.hid hpl
  have HU := Lib.hid hu
  have HL := Lib.hid (show _ ∧ _ from ⟨l1, l2⟩)
  have HAC := Lib.hid (show _ ∧ _ from ⟨hA, hC⟩)
  have hAb : A ≤ 200 ∧ 5 ≤ A := by omega
  have hCb : C ≤ 200 ∧ 5 ≤ C := by omega
  obtain ⟨hA2, hA1⟩ := hAb
  obtain ⟨hC2, hC1⟩ := hCb
  obtain ⟨MY, hMY⟩ : ∃ MY, H - 8 = MY := ⟨_, rfl⟩
  obtain ⟨MX, hMX⟩ : ∃ MX, W - 8 = MX := ⟨_, rfl⟩
  have eMY : (H : Int) - 8 = (MY : Int) := by omega
  have eMX : (W : Int) - 8 = (MX : Int) := by omega
  have HMM := Lib.hid (show MY + 8 = H ∧ MX + 8 = W from by omega)
  have hMYb : MY ≤ 1500 := by omega
  have hMXb : MX ≤ 1500 := by omega
  have hmk := mkIntRows C (by omega) w
  have hst := BPm.start (Fr.refl Nil w) A C lt
  obtain ⟨gb, hgb⟩ : ∃ gb, w.heap.size = gb := ⟨_, rfl⟩
  rw [hgb] at hmk hst
  obtain ⟨w2', hw2⟩ : ∃ w2, w.alloc (.cells (madeCells #[.slice none 0 0] C) 138) = w2 := ⟨_, rfl⟩
  rw [hw2] at hmk hst
  have HST := Lib.hid hst
  clear hpl hu hA hC hMY hMX hst hgb hw2
  go_enter Tryz.func336, Tryz.ntmps336
  go_wp2_with fail
  go_loopg [16, 17, 18, 19, 20, 21, 22, 23, 24, 25, 26, 27, 28, 29] C (fun c s16 s17 s18 s19 s20 s21 s22 s23 s24 s25 s26 s27 s28 s29 wr => ∃ (y : Nat) (R : Nat → Nat) (V : Nat → Nat → Nat), Hid (y + c = C) ∧ s16 = .int .i64 y ∧ Hid (BPm w wr gb A C y lt R V))
  case atStart => exact ⟨0, _, _, Lib.hid (by omega), rfl, HST⟩
  case round =>
    clear HST hmk
    obtain ⟨y, R, V, HY, rfl, HB⟩ := hrel
    cases gk with
    | zero =>
      have hyz : ¬ (y : Int) < (C : Int) := by have := HY.out; omega
      obtain rfl : y = C := by have := HY.out; omega
      go_wp2_with fail
      go_ret
      exact ⟨gb, rfl, ⟨R, V, HB.out⟩, HB.out.fr⟩
    | succ c =>
      have hyz : (y : Int) < (C : Int) := by have := HY.out; omega
      have hyC : y < C := by omega
      have hmk := mkInts A (by omega) wr
      have hadd := HB.out.add (show 0 < lt by have := HL.out; omega)
      obtain ⟨N, hN⟩ : ∃ N, wr.heap.size = N := ⟨_, rfl⟩
      have hgN : gb < N := by rw [← hN]; exact row_lt HB.out.top
      have hgc := (rowFr HB.out.top ((Fr.refl Nil wr).alloc (.cells (madeCells #[.int .i64 0] A) 3)) (fun e => e)).cell hyC
      have hgf := (rowFr HB.out.top ((Fr.refl Nil wr).alloc (.cells (madeCells #[.int .i64 0] A) 3)) (fun e => e)).frozen y
      rw [if_neg (by omega)] at hgc
      rw [hN] at hmk hadd
      obtain ⟨w3, hw3⟩ : ∃ w3, wr.alloc (.cells (madeCells #[.int .i64 0] A) 3) = w3 := ⟨_, rfl⟩
      rw [hw3] at hmk hadd hgc hgf
      obtain ⟨w4, hw4⟩ : ∃ w4, w3.setCell ⟨gb, y, none⟩ (.slice (some ⟨N, 0, none⟩) A A) = w4 := ⟨_, rfl⟩
      rw [hw4] at hadd
      have HW4 := Lib.hid hw4
      have HB4 := Lib.hid hadd
      clear hadd hN hw3 hw4 HB
      obtain ⟨y8, hy8⟩ : ∃ y8, y * 8 = y8 := ⟨_, rfl⟩
      have ey8 : (y : Int) * 8 = (y8 : Int) := by omega
      have hy8b : y8 ≤ 1600 := by omega
      clear hy8
      go_upto_if 50 with fail
      rw [HW4.out]
      clear hmk hgc hgf HW4
      go_cut [17] from 48 to 51 (fun s17 wc => ∃ yo : Nat, Hid (yo ≤ MY) ∧ s17 = .int .i64 yo ∧ w4 = wc)
      case first =>
        by_cases hc : MY < y8
        · have hcz : (MY : Int) < (y8 : Int) := by omega
          go_wp2_with fail
          go_meet
          case rel => exact ⟨MY, Lib.hid (Nat.le_refl _), rfl, rfl⟩
        · have hcz : ¬ (MY : Int) < (y8 : Int) := by omega
          go_wp2_with fail
          go_meet
          case rel => exact ⟨y8, Lib.hid (by omega), rfl, rfl⟩
      case rest =>
        obtain ⟨yo, HYO, rfl, hw⟩ := hcut
        subst hw
        clear ey8 hy8b
        have hyob : yo ≤ 1500 := by have := HYO.out; omega
        go_wp2_with fail
        go_loopg [18, 19, 20, 21, 22, 23, 24, 25, 26, 27, 28, 29] A (fun k s18 s19 s20 s21 s22 s23 s24 s25 s26 s27 s28 s29 wz => ∃ (x : Nat) (R : Nat → Nat) (V : Nat → Nat → Nat), Hid (x + k = A) ∧ s18 = .int .i64 x ∧ Hid (BPm w wz gb A C (y + 1) lt R V))
        case atStart => exact ⟨0, _, _, Lib.hid (by omega), rfl, HB4⟩
        case round =>
          clear HB4
          obtain ⟨x, R, V, HX, rfl, HB⟩ := hrel
          cases gk with
          | zero =>
            have hxz : ¬ (x : Int) < (A : Int) := by have := HX.out; omega
            go_wp2_with fail
            go_roundg c
            case measure => have := HY.out; omega
            case rel => exact ⟨y + 1, R, V, Lib.hid (by have := HY.out; omega), by go_num, HB⟩
          | succ k =>
            have hxz : (x : Int) < (A : Int) := by have := HX.out; omega
            have hxA : x < A := by omega
            obtain ⟨x8, hx8⟩ : ∃ x8, x * 8 = x8 := ⟨_, rfl⟩
            have ex8 : (x : Int) * 8 = (x8 : Int) := by omega
            have hx8b : x8 ≤ 1600 := by omega
            clear hx8
            go_upto_if 61 with fail
            go_cut [19] from 57 to 62 (fun s19 wc => ∃ xo : Nat, Hid (xo ≤ MX) ∧ s19 = .int .i64 xo ∧ wr = wc)
            case first =>
              by_cases hc : MX < x8
              · have hcz : (MX : Int) < (x8 : Int) := by omega
                go_wp2_with fail
                go_meet
                case rel => exact ⟨MX, Lib.hid (Nat.le_refl _), rfl, rfl⟩
              · have hcz : ¬ (MX : Int) < (x8 : Int) := by omega
                go_wp2_with fail
                go_meet
                case rel => exact ⟨x8, Lib.hid (by omega), rfl, rfl⟩
            case rest =>
              obtain ⟨xo, HXO, rfl, hw⟩ := hcut
              subst hw
              clear ex8 hx8b
              have hxob : xo ≤ 1500 := by have := HXO.out; omega
              have HIN := Lib.hid (show ∀ yy xx, yy < 8 → xx < 8 → (yo + yy) * W + xo + xx < H * W from fun yy xx hyy hxx => by
                have h3 := idx_lt (W := W) (H := H) (x := xo + xx) (y := yo + yy) (by have := HMM.out; have := HXO.out; omega) (by have := HMM.out; have := HYO.out; omega)
                omega)
              have hHW : H * W ≤ 2250000 := Nat.mul_le_mul k2 w2
              obtain ⟨o0, ho0⟩ : ∃ o0, yo * W = o0 := ⟨_, rfl⟩
              have eo0 : (yo : Int) * (W : Int) = (o0 : Int) := by rw [← ho0, Int.natCast_mul]
              have ho0b : o0 ≤ 2250000 := by rw [← ho0]; exact Nat.mul_le_mul hyob w2
              obtain ⟨o1, ho1⟩ : ∃ o1, o0 + xo = o1 := ⟨_, rfl⟩
              have eo1 : (o0 : Int) + (xo : Int) = (o1 : Int) := by omega
              have HO := Lib.hid (show yo * W + xo = o1 from by omega)
              clear ho0 ho1
              go_wp2_with fail
              have HPX := Lib.hid (show ∀ T, T < H * W → wr.cell? ⟨g, T, none⟩ = some (u8 (F T)) from (HP.out.nil HB.out.fr).px)
              go_loopg [20, 21, 22, 23, 24, 25, 26, 27] 8 (fun c3 s20 s21 s22 s23 s24 s25 s26 s27 wz => ∃ yy o sm mn mx : Nat, Hid (o ≤ 2300000 ∧ ((yy + c3 = 8 ∧ o = o1 + yy * W ∧ BS lt (8 * yy) sm mn mx) ∨ (c3 = 0 ∧ yy = 9 ∧ BS lt 64 sm mn mx))) ∧ s20 = .int .i64 sm ∧ s21 = .int .i64 mn ∧ s22 = .int .i64 mx ∧ s23 = .int .i64 yy ∧ s24 = .int .i64 o ∧ wr = wz)
              case atStart => exact ⟨0, o1, 0, 255, 0, Lib.hid ⟨by omega, .inl ⟨rfl, by omega, BS.zero (by omega)⟩⟩, rfl, rfl, rfl, rfl, rfl, rfl⟩
              case round =>
                obtain ⟨yy, o, sm, mn, mx, HS, rfl, rfl, rfl, rfl, rfl, hw⟩ := hrel
                subst hw
                cases gk with
                | zero =>
                  have hyyz : ¬ (yy : Int) < 8 := by have := HS.out; omega
                  have HBS := Lib.hid (show BS lt 64 sm mn mx from by
                    rcases HS.out.2 with ⟨h1, h2, h3⟩ | ⟨_, _, h3⟩
                    · have : yy = 8 := by omega
                      subst this; exact h3
                    · exact h3)
                  clear HS
                  have hb1 := HBS.out.a
                  have hb2 := HBS.out.b
                  have hb3 := HBS.out.le (by omega) (Nat.le_refl _)
                  obtain ⟨av, hav⟩ : ∃ av, sm / 64 = av := ⟨_, rfl⟩
                  have eav : (sm : Int) / 64 = (av : Int) := by omega
                  obtain ⟨mh, hmh⟩ : ∃ mh, mn / 2 = mh := ⟨_, rfl⟩
                  have emh : (mn : Int) / 2 = (mh : Int) := by omega
                  have HMH := Lib.hid (show mh < lt from by omega)
                  go_upto_if 133 with fail
                  go_cut [28] from 128 to 174 (fun s28 wc => ∃ v : Nat, Hid (v < lt) ∧ s28 = .int .i64 v ∧ Hid (Fr Nil wr wc))
                  case rest =>
                    obtain ⟨v, HV, rfl, HF⟩ := hcut
                    have HB2 := Lib.hid (HB.out.nil HF.out)
                    have ct := HB2.out.top.cell hyC
                    rw [if_pos (by omega)] at ct
                    have cv := (HB2.out.row y (by omega)).cell hxA
                    have cf := (HB2.out.row y (by omega)).frozen x
                    have HPUT := Lib.hid (HB2.out.put (x := x) (show y < y + 1 by omega) HV.out)
                    clear HB HB2
                    go_wp2_with fail
                    go_roundg k
                    case measure => omega
                    case rel => exact ⟨x + 1, R, _, Lib.hid (by have := HX.out; omega), by go_num, HPUT⟩
                  case first =>
                    by_cases hn : mx ≤ mn + 24
                    · have hnz : (mx : Int) - (mn : Int) ≤ 24 := by omega
                      by_cases hy0 : 0 < y
                      · have hy0z : (0 : Int) < (y : Int) := by omega
                        by_cases hx0 : 0 < x
                        · have hx0z : (0 : Int) < (x : Int) := by omega
                          obtain ⟨yp, hyp⟩ : ∃ yp, y - 1 = yp := ⟨_, rfl⟩
                          obtain ⟨xp, hxp⟩ : ∃ xp, x - 1 = xp := ⟨_, rfl⟩
                          have eyp : IntKind.i64.wrap ((y : Int) - 1) = (yp : Int) := by rw [show (y : Int) - 1 = (yp : Int) from by omega]; exact IntWalk.i64_in _ (by omega)
                          have exp : IntKind.i64.wrap ((x : Int) - 1) = (xp : Int) := by rw [show (x : Int) - 1 = (xp : Int) from by omega]; exact IntWalk.i64_in _ (by omega)
                          have hypz : (yp : Int) < (C : Int) := by omega
                          have hxpz : (xp : Int) < (A : Int) := by omega
                          have hyz3 : (y : Int) < (C : Int) := by omega
                          have hypC : yp < C := by omega
                          have hxpA : xp < A := by omega
                          have HK := Lib.hid (show ∀ w', Fr Nil wr w' → (w'.cell? ⟨gb, yp, none⟩ = some (.slice (some ⟨R yp, 0, none⟩) A A) ∧ w'.cell? ⟨gb, y, none⟩ = some (.slice (some ⟨R y, 0, none⟩) A A) ∧ w'.cell? ⟨R yp, x, none⟩ = some (i64 (V yp x)) ∧ w'.cell? ⟨R y, xp, none⟩ = some (i64 (V y xp)) ∧ w'.cell? ⟨R yp, xp, none⟩ = some (i64 (V yp xp))) from fun w' hf => by
                            have h := HB.out.nil hf
                            have t1 := h.top.cell hypC
                            rw [if_pos (by omega)] at t1
                            have t2 := h.top.cell hyC
                            rw [if_pos (by omega)] at t2
                            exact ⟨t1, t2, (h.row yp (by omega)).cell hxA, (h.row y (by omega)).cell hxpA, (h.row yp (by omega)).cell hxpA⟩)
                          have q1 := HB.out.bd yp (by omega) x hxA
                          have q2 := HB.out.bd y (by omega) xp hxpA
                          have q3 := HB.out.bd yp (by omega) xp hxpA
                          clear hyp hxp
                          generalize V yp x = b1 at *
                          generalize V y xp = b2 at *
                          generalize V yp xp = b3 at *
                          obtain ⟨nb, hnb⟩ : ∃ nb, (b1 + 2 * b2 + b3) / 4 = nb := ⟨_, rfl⟩
                          have enb : ((b1 : Int) + 2 * (b2 : Int) + (b3 : Int)) / 4 = (nb : Int) := by omega
                          have HNB := Lib.hid (show nb < lt from by omega)
                          have HWR := Lib.hid (show IntKind.i64.wrap ((IntKind.i64.wrap (IntKind.i64.wrap ((b1 : Int) + IntKind.i64.wrap (2 * (b2 : Int))) + (b3 : Int))).tdiv 4) = (nb : Int) from by
                            rw [IntWalk.i64_in (2 * (b2 : Int)) (by omega), IntWalk.i64_in ((b1 : Int) + 2 * (b2 : Int)) (by omega), IntWalk.i64_in ((b1 : Int) + 2 * (b2 : Int) + (b3 : Int)) (by omega), Int.tdiv_eq_ediv_of_nonneg (by omega), enb]
                            exact IntWalk.i64_in _ (by omega))
                          have hb1' : b1 < 256 := by omega
                          have hb2' : b2 < 256 := by omega
                          have hb3' : b3 < 256 := by omega
                          clear hnb q1 q2 q3
                          obtain ⟨r1, hr1⟩ : ∃ r1, R yp = r1 := ⟨_, rfl⟩
                          obtain ⟨r2, hr2⟩ : ∃ r2, R y = r2 := ⟨_, rfl⟩
                          rw [hr1, hr2] at HK
                          clear hr1 hr2
                          have HK0 := HK.out _ (Fr.refl _ _)
                          clear HK0
                          go_wp2_with fail
                          go_region_held3 (fun w' => w'.cell? ⟨gb, yp, none⟩ = some (.slice (some ⟨r1, 0, none⟩) A A) ∧ w'.cell? ⟨gb, y, none⟩ = some (.slice (some ⟨r2, 0, none⟩) A A) ∧ w'.cell? ⟨r1, x, none⟩ = some (i64 b1) ∧ w'.cell? ⟨r2, xp, none⟩ = some (i64 b2) ∧ w'.cell? ⟨r1, xp, none⟩ = some (i64 b3))
                            (exact HK.out _ (Fr.refl _ _).drew)
                            (fail)
                          all_goals
                            by_cases hlt : mn < nb
                            · have hltz : (mn : Int) < (nb : Int) := by omega
                              go_wp2_with fail
                              go_meet
                              case rel => exact ⟨nb, HNB, congrArg (Value.int .i64) HWR.out, Lib.hid (Fr.refl _ _).drew⟩
                            · have hltz : ¬ (mn : Int) < (nb : Int) := by omega
                              go_wp2_with fail
                              go_meet
                              case rel => exact ⟨mh, HMH, rfl, Lib.hid (Fr.refl _ _).drew⟩
                        · have hx0z : ¬ (0 : Int) < (x : Int) := by omega
                          go_wp2_with fail
                          go_meet
                          case rel => exact ⟨mh, HMH, rfl, Lib.hid (Fr.refl _ _)⟩
                      · have hy0z : ¬ (0 : Int) < (y : Int) := by omega
                        go_wp2_with fail
                        go_meet
                        case rel => exact ⟨mh, HMH, rfl, Lib.hid (Fr.refl _ _)⟩
                    · have hnz : ¬ (mx : Int) - (mn : Int) ≤ 24 := by omega
                      have HAV := Lib.hid (show av < lt from by
                        rcases HBS.out.d with h | h
                        · rw [← hav]
                          exact Nat.div_lt_of_lt_mul (by rw [Nat.mul_comm]; omega)
                        · omega)
                      go_wp2_with fail
                      go_meet
                      case rel => exact ⟨av, HAV, rfl, Lib.hid (Fr.refl _ _)⟩
                | succ c3 =>
                  have hcase : yy + (c3 + 1) = 8 ∧ o = o1 + yy * W ∧ BS lt (8 * yy) sm mn mx := by
                    rcases HS.out.2 with h | ⟨h, _⟩
                    · exact h
                    · omega
                  have HC := Lib.hid hcase
                  have hob := HS.out.1
                  have hyyz : (yy : Int) < 8 := by omega
                  have hyy : yy < 8 := by omega
                  have HBS0 := Lib.hid hcase.2.2
                  have HT := Lib.hid (show ∀ xx, xx < 8 → o + xx < H * W from fun xx hxx => by
                    have h := HIN.out yy xx hyy hxx
                    rw [Nat.add_mul] at h
                    have := HO.out
                    have := hcase.2.1
                    omega)
                  clear HS hcase
                  go_wp2_with fail
                  go_loopg [20, 21, 22, 25, 26] 8 (fun k4 s20 s21 s22 s25 s26 wz => ∃ xx sm mn mx : Nat, Hid (xx + k4 = 8 ∧ BS lt (8 * yy + xx) sm mn mx) ∧ s20 = .int .i64 sm ∧ s21 = .int .i64 mn ∧ s22 = .int .i64 mx ∧ s25 = .int .i64 xx ∧ wr = wz)
                  case atStart => exact ⟨0, sm, mn, mx, Lib.hid ⟨rfl, HBS0.out⟩, rfl, rfl, rfl, rfl, rfl⟩
                  case round =>
                    clear HBS0
                    obtain ⟨xx, sm4, mn4, mx4, HS4, rfl, rfl, rfl, rfl, hw⟩ := hrel
                    subst hw
                    have hb1 := HS4.out.2.a
                    have hb2 := HS4.out.2.b
                    have hb3 := HS4.out.2.le (by omega) (by have := HS4.out.1; omega)
                    cases gk with
                    | succ k4 =>
                      have hxxz : (xx : Int) < 8 := by have := HS4.out; omega
                      have hxx : xx < 8 := by omega
                      obtain ⟨T, hT⟩ : ∃ T, o + xx = T := ⟨_, rfl⟩
                      have eT : (o : Int) + (xx : Int) = (T : Int) := by omega
                      have hTH : T < H * W := by rw [← hT]; exact HT.out xx hxx
                      have cx := HPX.out T hTH
                      have hux := HU.out T hTH
                      clear hT
                      obtain ⟨u, hu⟩ : ∃ u, F T = u := ⟨_, rfl⟩
                      rw [hu] at cx hux
                      have hu2 : u < 256 := by omega
                      have hand := u8_and255 u hu2
                      have HUX := Lib.hid hux
                      clear hu hux
                      by_cases h1 : u < mn4 <;> by_cases h2 : mx4 < u
                      · have z1 : (u : Int) < (mn4 : Int) := by omega
                        have z2 : (mx4 : Int) < (u : Int) := by omega
                        go_wp2_with fail
                        go_roundg k4
                        case measure => omega
                        case rel => exact ⟨xx + 1, sm4 + u, u, u, Lib.hid ⟨by have := HS4.out.1; omega, HS4.out.2.step HUX.out (by omega) (by rw [if_pos h1]) (by rw [if_pos h2])⟩, by go_num, rfl, rfl, by go_num, rfl⟩
                      · have z1 : (u : Int) < (mn4 : Int) := by omega
                        have z2 : ¬ (mx4 : Int) < (u : Int) := by omega
                        go_wp2_with fail
                        go_roundg k4
                        case measure => omega
                        case rel => exact ⟨xx + 1, sm4 + u, u, mx4, Lib.hid ⟨by have := HS4.out.1; omega, HS4.out.2.step HUX.out (by omega) (by rw [if_pos h1]) (by rw [if_neg h2])⟩, by go_num, rfl, rfl, by go_num, rfl⟩
                      · have z1 : ¬ (u : Int) < (mn4 : Int) := by omega
                        have z2 : (mx4 : Int) < (u : Int) := by omega
                        go_wp2_with fail
                        go_roundg k4
                        case measure => omega
                        case rel => exact ⟨xx + 1, sm4 + u, mn4, u, Lib.hid ⟨by have := HS4.out.1; omega, HS4.out.2.step HUX.out (by omega) (by rw [if_neg h1]) (by rw [if_pos h2])⟩, by go_num, rfl, rfl, by go_num, rfl⟩
                      · have z1 : ¬ (u : Int) < (mn4 : Int) := by omega
                        have z2 : ¬ (mx4 : Int) < (u : Int) := by omega
                        go_wp2_with fail
                        go_roundg k4
                        case measure => omega
                        case rel => exact ⟨xx + 1, sm4 + u, mn4, mx4, Lib.hid ⟨by have := HS4.out.1; omega, HS4.out.2.step HUX.out (by omega) (by rw [if_neg h1]) (by rw [if_neg h2])⟩, by go_num, rfl, rfl, by go_num, rfl⟩
                    | zero =>
                      have hxxz : ¬ (xx : Int) < 8 := by have := HS4.out; omega
                      have HS5 := Lib.hid (show BS lt (8 * (yy + 1)) sm4 mn4 mx4 from by
                        have h := HS4.out
                        have e : 8 * yy + xx = 8 * (yy + 1) := by omega
                        rw [e] at h
                        exact h.2)
                      have HOW := Lib.hid (show o + W = o1 + (yy + 1) * W ∧ o + W ≤ 2300000 from ⟨by rw [HC.out.2.1, Nat.add_mul, Nat.one_mul]; omega, by have := HT.out 0 (by omega); omega⟩)
                      clear HS4
                      by_cases hwide : mn4 + 24 < mx4
                      · have hwz : (24 : Int) < (mx4 : Int) - (mn4 : Int) := by omega
                        have HW5 := Lib.hid (show sm4 + lt ≤ lt * (8 * (yy + 1)) from by
                          rcases HS5.out.d with h | h
                          · exact h
                          · omega)
                        have HO8 := Lib.hid (show o1 + 7 * W + 7 < H * W from by
                          have h := HIN.out 7 7 (by omega) (by omega)
                          rw [Nat.add_mul] at h
                          have := HO.out
                          omega)
                        go_wp2_with fail
                        go_loopg [20, 23, 24, 27] c3 (fun k5 s20 s23 s24 s27 wz => ∃ y2 o2 sm2 : Nat, Hid (y2 + k5 = 8 ∧ o2 = o1 + y2 * W ∧ o2 ≤ 2260000 ∧ sm2 + lt ≤ lt * (8 * y2)) ∧ s20 = .int .i64 sm2 ∧ s23 = .int .i64 y2 ∧ s24 = .int .i64 o2 ∧ wr = wz)
                        case atStart => exact ⟨yy + 1, o + W, sm4, Lib.hid ⟨by have := HC.out.1; omega, HOW.out.1, by have := HT.out 0 (by omega); omega, HW5.out⟩, rfl, by go_num, by go_num, rfl⟩
                        case round =>
                          obtain ⟨y2, o2, sm2, H5, rfl, rfl, rfl, hw⟩ := hrel
                          subst hw
                          have ho2b := H5.out.2.2.1
                          have hsb := sum_le H5.out.2.2.2 (by omega) (by have := H5.out.1; omega)
                          have hy2b : y2 ≤ 8 := by have := H5.out.1; omega
                          cases gk with
                          | zero =>
                            have h8 : y2 = 8 := by have := H5.out.1; omega
                            have hyz2 : ¬ (y2 : Int) < 8 := by omega
                            have HF5 := Lib.hid (show BS lt 64 sm2 mn4 mx4 from ⟨hb1, hb2, by have := H5.out.2.2.2; rw [h8] at this; omega, .inl (by have := H5.out.2.2.2; rw [h8] at this; omega)⟩)
                            have H9 := Lib.hid (show y2 + 1 = 9 from by omega)
                            clear h8 H5
                            go_wp2_with fail
                            go_roundg 0
                            case measure => omega
                            case rel => exact ⟨y2 + 1, o2 + W, sm2, mn4, mx4, Lib.hid ⟨by omega, .inr ⟨rfl, H9.out, HF5.out⟩⟩, rfl, rfl, rfl, by go_num, by go_num, rfl⟩
                          | succ k5 =>
                            have hyz2 : (y2 : Int) < 8 := by have := H5.out.1; omega
                            have HT2 := Lib.hid (show ∀ xx, xx < 8 → o2 + xx < H * W from fun xx hxx => by
                              have h := HIN.out y2 xx (by have := H5.out.1; omega) hxx
                              rw [Nat.add_mul] at h
                              have := HO.out
                              have := H5.out.2.1
                              omega)
                            go_wp2_with fail
                            go_loopg [20, 27] 8 (fun k6 s20 s27 wz => ∃ xx sm3 : Nat, Hid (xx + k6 = 8 ∧ sm3 + lt ≤ lt * (8 * y2 + xx)) ∧ s20 = .int .i64 sm3 ∧ s27 = .int .i64 xx ∧ wr = wz)
                            case atStart => exact ⟨0, sm2, Lib.hid ⟨rfl, H5.out.2.2.2⟩, rfl, rfl, rfl⟩
                            case round =>
                              clear hsb
                              obtain ⟨xx, sm3, H6, rfl, rfl, hw⟩ := hrel
                              subst hw
                              have hsb := sum_le H6.out.2 (by omega) (by have := H6.out.1; have := H5.out.1; omega)
                              cases gk with
                              | zero =>
                                have hxxz : ¬ (xx : Int) < 8 := by have := H6.out.1; omega
                                have HE6 := Lib.hid (show sm3 + lt ≤ lt * (8 * (y2 + 1)) from by
                                  have h := H6.out
                                  have e : 8 * y2 + xx = 8 * (y2 + 1) := by omega
                                  rw [e] at h
                                  exact h.2)
                                have HOW2 := Lib.hid (show o2 + W = o1 + (y2 + 1) * W ∧ o2 + W ≤ 2260000 from ⟨by rw [H5.out.2.1, Nat.add_mul, Nat.one_mul]; omega, by have := HT2.out 0 (by omega); omega⟩)
                                go_wp2_with fail
                                go_roundg k5
                                case measure => omega
                                case rel => exact ⟨y2 + 1, o2 + W, sm3, Lib.hid ⟨by have := H5.out.1; omega, HOW2.out.1, HOW2.out.2, HE6.out⟩, rfl, by go_num, by go_num, rfl⟩
                              | succ k6 =>
                                have hxxz : (xx : Int) < 8 := by have := H6.out.1; omega
                                have hxx : xx < 8 := by omega
                                obtain ⟨T, hT⟩ : ∃ T, o2 + xx = T := ⟨_, rfl⟩
                                have eT : (o2 : Int) + (xx : Int) = (T : Int) := by omega
                                have hTH : T < H * W := by rw [← hT]; exact HT2.out xx hxx
                                have cx := HPX.out T hTH
                                have hux := HU.out T hTH
                                clear hT
                                obtain ⟨u, hu⟩ : ∃ u, F T = u := ⟨_, rfl⟩
                                rw [hu] at cx hux
                                have hu2 : u < 256 := by omega
                                have hand := u8_and255 u hu2
                                have HUX := Lib.hid hux
                                clear hu hux
                                go_wp2_with fail
                                go_roundg k6
                                case measure => omega
                                case rel => exact ⟨xx + 1, sm3 + u, Lib.hid ⟨by have := H6.out.1; omega, BS.more H6.out.2 HUX.out⟩, by go_num, by go_num, rfl⟩
                      · have hwz : ¬ (24 : Int) < (mx4 : Int) - (mn4 : Int) := by omega
                        go_wp2_with fail
                        go_roundg c3
                        case measure => omega
                        case rel => exact ⟨yy + 1, o + W, sm4, mn4, mx4, Lib.hid ⟨HOW.out.2, .inl ⟨by have := HC.out.1; omega, HOW.out.1, HS5.out⟩⟩, rfl, rfl, rfl, by go_num, by go_num, rfl⟩
end Go.Proofs.YtcekbhhpcmhicaaGreatDoor
/- HybridBinarizer: the blocks' thresholds. -/
namespace Go.Proofs.YtcekbhhpcmhicaaGreatDoor
open Go Go.RowKit Go.Deep
set_option maxRecDepth 100000
theorem cap_calls (hp : Nat) (w : World) (x hi : Nat) (h : 2 ≤ hi) (h2 : hi ≤ 1000) (hx : x ≤ 1000) : Calls Tryz.prog 338 #[.pointer (some ⟨hp, 0, none⟩), i64 x, .int .i64 2, i64 hi] w fun e w' => ∃ t : Nat, e = .returned (i64 t) ∧ Hid (2 ≤ t ∧ t ≤ hi) ∧ w = w' := by
  go_enter Tryz.func338, Tryz.ntmps338
  by_cases h1 : x < 2
  · have z1 : (x : Int) < 2 := by omega
    go_wp2_with fail
    go_ret
    exact ⟨2, rfl, Lib.hid (by omega), rfl⟩
  · have z1 : ¬ (x : Int) < 2 := by omega
    by_cases h3 : hi < x
    · have z2 : (hi : Int) < (x : Int) := by omega
      go_wp2_with fail
      go_ret
      exact ⟨hi, rfl, Lib.hid (by omega), rfl⟩
    · have z2 : ¬ (hi : Int) < (x : Int) := by omega
      go_wp2_with fail
      go_ret
      exact ⟨x, rfl, Lib.hid (by omega), rfl⟩
/-- the dark pixels found so far: only dark ones; all of those that P says -/
structure DM (W H : Nat) (D B : Nat → Nat → Bool) (P : Nat → Nat → Prop) : Prop where
  snd : ∀ y x, B y x = true → y < H ∧ x < W ∧ D y x = true
  cpl : ∀ y x, P y x → y < H → x < W → D y x = true → B y x = true
theorem DM.set {W H : Nat} {D B : Nat → Nat → Bool} {P P' : Nat → Nat → Prop} (h : DM W H D B P) {y x : Nat} (hy : y < H) (hx : x < W) (hd : D y x = true) (hP : ∀ j k, P' j k → P j k ∨ (j = y ∧ k = x)) : DM W H D (setB B y x) P' := by
  refine ⟨fun j k hb => ?_, fun j k hp hj hk hd => ?_⟩
  · unfold setB at hb
    rw [Bool.or_eq_true] at hb
    rcases hb with hb | hb
    · exact h.snd j k hb
    · obtain ⟨e1, e2⟩ := of_decide_eq_true hb
      rw [e1, e2]; exact ⟨hy, hx, hd⟩
  · unfold setB
    rw [Bool.or_eq_true]
    rcases hP j k hp with hp | ⟨e1, e2⟩
    · exact .inl (h.cpl j k hp hj hk hd)
    · exact .inr (decide_eq_true ⟨e1, e2⟩)
theorem DM.skip {W H : Nat} {D B : Nat → Nat → Bool} {P P' : Nat → Nat → Prop} (h : DM W H D B P) {y x : Nat} (hd : D y x = false) (hP : ∀ j k, P' j k → P j k ∨ (j = y ∧ k = x)) : DM W H D B P' :=
  ⟨h.snd, fun j k hp hj hk hd2 => by
    rcases hP j k hp with hp | ⟨e1, e2⟩
    · exact h.cpl j k hp hj hk hd2
    · rw [e1, e2, hd] at hd2; cases hd2⟩
theorem DM.weak {W H : Nat} {D B : Nat → Nat → Bool} {P P' : Nat → Nat → Prop} (h : DM W H D B P) (hP : ∀ j k, j < H → k < W → P' j k → P j k) : DM W H D B P' :=
  ⟨h.snd, fun j k hp hj hk hd => h.cpl j k (hP j k hj hk hp) hj hk hd⟩
theorem DM.all {W H : Nat} {D B : Nat → Nat → Bool} {P : Nat → Nat → Prop} (h : DM W H D B P) (hP : ∀ j k, j < H → k < W → P j k) : B = cutX D W H := by
  funext y x
  unfold cutX
  by_cases hr : y < H ∧ x < W
  · rw [decide_eq_true hr, Bool.true_and]
    cases hd : D y x with
    | true => exact h.cpl y x (hP y x hr.1 hr.2) hr.1 hr.2 hd
    | false =>
      cases hb : B y x with
      | false => rfl
      | true => have := (h.snd y x hb).2.2; rw [hd] at this; cases this
  · rw [decide_eq_false hr, Bool.false_and]
    cases hb : B y x with
    | false => rfl
    | true => exact absurd ⟨(h.snd y x hb).1, (h.snd y x hb).2.1⟩ hr
set_option maxHeartbeats 3200000 in
theorem threshold_calls {w : World} {hp q g m mg W H gc lt T xo yo : Nat} {F : Nat → Nat} {D B : Nat → Nat → Bool} {P : Nat → Nat → Prop} (hpl : PL w q g W H F) (hg : g ≠ mg) (hq : q ≠ mg) (h2 : Gray2 W H 0 lt D F) (hT : T < lt) (hm : QX w m mg W H B) (hd : DM W H D B P) (hy : yo + 8 ≤ H) (hx : xo + 8 ≤ W) (w2 : W ≤ 1500) (k2 : H ≤ 1500) :
    Calls Tryz.prog 339 #[.pointer (some ⟨hp, 0, none⟩), .slice (some ⟨g, 0, none⟩) (H * W) gc, i64 xo, i64 yo, i64 T, i64 W, .pointer (some ⟨m, 0, none⟩)] w fun e w' => e = .returned (.tuple #[]) ∧ (∃ B', QX w' m mg W H B' ∧ DM W H D B' (fun y x => P y x ∨ (yo ≤ y ∧ y < yo + 8 ∧ xo ≤ x ∧ x < xo + 8))) ∧ Fr (One mg) w w' := by
  have HP := Lib.hid hpl
  have H2 := Lib.hid h2
  have HNE := Lib.hid (show _ ∧ _ from ⟨hg, hq⟩)
  have HQ0 := Lib.hid (show QX w m mg W H B ∧ DM W H D B (fun y x => P y x ∨ (yo ≤ y ∧ y < yo + 0 ∧ xo ≤ x ∧ x < xo + 8)) ∧ Fr (One mg) w w from ⟨hm, hd.weak (fun j k _ _ h => by rcases h with h | h; exact h; omega), Fr.refl _ _⟩)
  have hl2 := h2.l2
  have hHW : H * W ≤ 2250000 := Nat.mul_le_mul k2 w2
  have HIN := Lib.hid (show ∀ yy xx, yy < 8 → xx < 8 → (yo + yy) * W + xo + xx < H * W from fun yy xx hyy hxx => by
    have h3 := idx_lt (W := W) (H := H) (x := xo + xx) (y := yo + yy) (by omega) (by omega)
    omega)
  obtain ⟨o0, ho0⟩ : ∃ o0, yo * W = o0 := ⟨_, rfl⟩
  have eo0 : (yo : Int) * (W : Int) = (o0 : Int) := by rw [← ho0, Int.natCast_mul]
  have ho0b : o0 ≤ 2250000 := by rw [← ho0]; exact Nat.mul_le_mul (show yo ≤ 1500 by omega) w2
  obtain ⟨o1, ho1⟩ : ∃ o1, o0 + xo = o1 := ⟨_, rfl⟩
  have eo1 : (o0 : Int) + (xo : Int) = (o1 : Int) := by omega
  have HO := Lib.hid (show yo * W + xo = o1 from by omega)
  clear ho0 ho1 hpl h2 hg hq hm hd
  go_enter Tryz.func339, Tryz.ntmps339
  go_wp2_with fail
  go_loopg [14, 15, 16] 8 (fun c s14 s15 s16 wr => ∃ (yy o : Nat) (B : Nat → Nat → Bool), Hid (yy + c = 8 ∧ o = o1 + yy * W ∧ o ≤ 2300000) ∧ s14 = .int .i64 yy ∧ s15 = .int .i64 o ∧ Hid (QX wr m mg W H B ∧ DM W H D B (fun y x => P y x ∨ (yo ≤ y ∧ y < yo + yy ∧ xo ≤ x ∧ x < xo + 8)) ∧ Fr (One mg) w wr))
  case atStart => exact ⟨0, o1, B, Lib.hid (by omega), rfl, rfl, HQ0⟩
  case round =>
    clear HQ0
    obtain ⟨yy, o, B1, HY, rfl, rfl, HQ⟩ := hrel
    have hob := HY.out.2.2
    cases gk with
    | zero =>
      have hyz : ¬ (yy : Int) < 8 := by have := HY.out; omega
      obtain rfl : yy = 8 := by have := HY.out; omega
      go_wp2_with fail
      go_end0
      exact ⟨rfl, ⟨B1, HQ.out.1, HQ.out.2.1⟩, HQ.out.2.2⟩
    | succ c =>
      have hyz : (yy : Int) < 8 := by have := HY.out; omega
      have hyy : yy < 8 := by omega
      have HQ1 := Lib.hid (show QX wr m mg W H B1 ∧ DM W H D B1 (fun y x => P y x ∨ (yo ≤ y ∧ y < yo + yy ∧ xo ≤ x ∧ x < xo + 8) ∨ (y = yo + yy ∧ xo ≤ x ∧ x < xo + 0)) ∧ Fr (One mg) w wr from
        ⟨HQ.out.1, HQ.out.2.1.weak (fun j k _ _ h => by rcases h with h | h | h; exact .inl h; exact .inr h; omega), HQ.out.2.2⟩)
      have HTT := Lib.hid (show (∀ xx, xx < 8 → o + xx = (yo + yy) * W + (xo + xx) ∧ o + xx < H * W) ∧ o + W = o1 + (yy + 1) * W from by
        have h3 := HY.out.2.1
        have h4 := HO.out
        refine ⟨fun xx hxx => ?_, by rw [Nat.add_mul, Nat.one_mul]; omega⟩
        have h := HIN.out yy xx hyy hxx
        rw [Nat.add_mul] at h ⊢
        omega)
      go_wp2_with fail
      go_loopg [16] 8 (fun k s16 wz => ∃ (xx : Nat) (B : Nat → Nat → Bool), Hid (xx + k = 8) ∧ s16 = .int .i64 xx ∧ Hid (QX wz m mg W H B ∧ DM W H D B (fun y x => P y x ∨ (yo ≤ y ∧ y < yo + yy ∧ xo ≤ x ∧ x < xo + 8) ∨ (y = yo + yy ∧ xo ≤ x ∧ x < xo + xx)) ∧ Fr (One mg) w wz))
      case atStart => exact ⟨0, B1, Lib.hid (by omega), rfl, HQ1⟩
      case round =>
        clear HQ1 HQ
        obtain ⟨xx, B2, HX, rfl, HQ⟩ := hrel
        cases gk with
        | zero =>
          have hxz : ¬ (xx : Int) < 8 := by have := HX.out; omega
          have HQ2 := Lib.hid (show QX wr m mg W H B2 ∧ DM W H D B2 (fun y x => P y x ∨ (yo ≤ y ∧ y < yo + (yy + 1) ∧ xo ≤ x ∧ x < xo + 8)) ∧ Fr (One mg) w wr from
            ⟨HQ.out.1, HQ.out.2.1.weak (fun j k _ _ h => by
              have := HX.out
              rcases h with h | h
              · exact .inl h
              · by_cases e : j = yo + yy
                · right; right; omega
                · right; left; omega), HQ.out.2.2⟩)
          have ho2 : o + W ≤ 2300000 := by have := (HTT.out.1 0 (by omega)).2; omega
          clear HQ
          go_wp2_with fail
          go_roundg c
          case measure => have := HY.out; omega
          case rel => exact ⟨yy + 1, o + W, B2, Lib.hid ⟨by have := HY.out; omega, HTT.out.2, ho2⟩, by go_num, by go_num, HQ2⟩
        | succ k =>
          have hxz : (xx : Int) < 8 := by have := HX.out; omega
          have hxx : xx < 8 := by omega
          have hTT := HTT.out.1 xx hxx
          have hpx := H2.out.px (yo + yy) (by omega) (xo + xx) (by omega)
          rw [← hTT.1] at hpx
          have cx := (HP.out.fr HQ.out.2.2 (fun e => HNE.out.2 e) (fun e => HNE.out.1 e)).px (o + xx) hTT.2
          rw [hpx] at cx
          obtain ⟨K, hK⟩ : ∃ K, o + xx = K := ⟨_, rfl⟩
          have eK : (o : Int) + (xx : Int) = (K : Int) := by omega
          have hKH : K < H * W := by omega
          rw [hK] at cx
          have HPP := Lib.hid (show ∀ j k, (P j k ∨ (yo ≤ j ∧ j < yo + yy ∧ xo ≤ k ∧ k < xo + 8) ∨ (j = yo + yy ∧ xo ≤ k ∧ k < xo + (xx + 1))) → (P j k ∨ (yo ≤ j ∧ j < yo + yy ∧ xo ≤ k ∧ k < xo + 8) ∨ (j = yo + yy ∧ xo ≤ k ∧ k < xo + xx)) ∨ (j = yo + yy ∧ k = xo + xx) from fun j k h => by
            rcases h with h | h | h
            · exact .inl (.inl h)
            · exact .inl (.inr (.inl h))
            · by_cases e : k = xo + xx
              · exact .inr ⟨h.1, e⟩
              · left; right; right; omega)
          clear hTT hpx hK
          obtain ⟨bv, hbv⟩ : ∃ bv, D (yo + yy) (xo + xx) = bv := ⟨_, rfl⟩
          rw [hbv] at cx
          cases bv with
          | false =>
            have HQ2 := Lib.hid (show _ ∧ _ ∧ _ from ⟨HQ.out.1, HQ.out.2.1.skip hbv HPP.out, HQ.out.2.2⟩)
            rw [if_neg (by simp)] at cx
            have hand := u8_and255 lt hl2
            have hltz : ¬ (lt : Int) ≤ (T : Int) := by omega
            clear hbv HQ HPP
            go_wp2_with fail
            go_roundg k
            case measure => omega
            case rel => exact ⟨xx + 1, B2, Lib.hid (by have := HX.out; omega), by go_num, HQ2⟩
          | true =>
            obtain ⟨X, hX⟩ : ∃ X, xo + xx = X := ⟨_, rfl⟩
            obtain ⟨Y, hY⟩ : ∃ Y, yo + yy = Y := ⟨_, rfl⟩
            have eX : (xo : Int) + (xx : Int) = (X : Int) := by omega
            have eY : (yo : Int) + (yy : Int) = (Y : Int) := by omega
            have hXW : X < W := by omega
            have hYH : Y < H := by omega
            rw [hX, hY] at hbv
            have HSET := Lib.hid (qxSet_calls HQ.out.1 X Y hXW hYH)
            have HDM := Lib.hid (HQ.out.2.1.set hYH hXW hbv (P' := fun y x => P y x ∨ (yo ≤ y ∧ y < yo + yy ∧ xo ≤ x ∧ x < xo + 8) ∨ (y = yo + yy ∧ xo ≤ x ∧ x < xo + (xx + 1))) (by rw [← hX, ← hY]; exact HPP.out))
            rw [if_pos rfl] at cx
            have hand : bits .and .u8 (0 : Int) 255 = 0 := u8_and255 0 (by omega)
            have hTz : (0 : Int) ≤ (T : Int) := by omega
            have cx : wr.cell? ⟨g, K, none⟩ = some (.int .u8 0) := cx
            clear hbv hX hY HPP
            go_wp2_with fail
            refine HSET.out.mono ?_
            rintro e w9 ⟨rfl, hq9, hf9⟩
            have HQ2 := Lib.hid (show _ ∧ _ ∧ _ from ⟨hq9, HDM.out, HQ.out.2.2.trans hf9⟩)
            clear hq9 hf9 HQ
            go_wp2_with fail
            go_roundg k
            case measure => omega
            case rel => exact ⟨xx + 1, _, Lib.hid (by have := HX.out; omega), by go_num, HQ2⟩
end Go.Proofs.YtcekbhhpcmhicaaGreatDoor
/- calculateThresholdForBlock. -/
namespace Go.Proofs.YtcekbhhpcmhicaaGreatDoor
open Go Go.RowKit Go.Deep
set_option maxRecDepth 100000
/-- black points that are read -/
structure BR (w : World) (b A C lt mg : Nat) (R : Nat → Nat) (V : Nat → Nat → Nat) : Prop where
  top : ∀ y, y < C → w.cell? ⟨b, y, none⟩ = some (.slice (some ⟨R y, 0, none⟩) A A)
  row : ∀ y, y < C → ∀ x, x < A → w.cell? ⟨R y, x, none⟩ = some (i64 (V y x))
  bd : ∀ y, y < C → ∀ x, x < A → V y x < lt
  n1 : b ≠ mg
  n2 : ∀ y, y < C → R y ≠ mg
theorem BR.fr {w w' : World} {b A C lt mg : Nat} {R : Nat → Nat} {V : Nat → Nat → Nat} (h : BR w b A C lt mg R V) (hf : Fr (One mg) w w') : BR w' b A C lt mg R V :=
  ⟨fun y hy => hf.cell_some (h.top y hy) (fun e => h.n1 e), fun y hy x hx => hf.cell_some (h.row y hy x hx) (fun e => h.n2 y hy e), h.bd, h.n1, h.n2⟩
theorem sum5 (sm a b c d e r : Nat) (h : sm + (a + b + c + d + e) = r) (hr : r ≤ 1000000) :
    IntKind.i64.wrap ((sm : Int) + IntKind.i64.wrap (IntKind.i64.wrap (IntKind.i64.wrap (IntKind.i64.wrap ((a : Int) + (b : Int)) + (c : Int)) + (d : Int)) + (e : Int))) = (r : Int) := by
  rw [IntWalk.i64_in ((a : Int) + (b : Int)) (by omega), IntWalk.i64_in ((a : Int) + (b : Int) + (c : Int)) (by omega), IntWalk.i64_in ((a : Int) + (b : Int) + (c : Int) + (d : Int)) (by omega), IntWalk.i64_in ((a : Int) + (b : Int) + (c : Int) + (d : Int) + (e : Int)) (by omega), IntWalk.i64_in _ (by omega)]
  omega
set_option maxHeartbeats 6400000 in
theorem blocks_calls {w : World} {hp q g m mg b W H A C gc lt : Nat} {F : Nat → Nat} {D : Nat → Nat → Bool} {R : Nat → Nat} {V : Nat → Nat → Nat} (hpl : PL w q g W H F) (hg : g ≠ mg) (hq : q ≠ mg) (h2 : Gray2 W H 0 lt D F) (hm : QX w m mg W H noB) (hb : BR w b A C lt mg R V)
    (w1 : 40 ≤ W) (w2 : W ≤ 1500) (k1 : 40 ≤ H) (k2 : H ≤ 1500) (hA : A = (W + 7) / 8) (hC : C = (H + 7) / 8) :
    Calls Tryz.prog 337 #[.pointer (some ⟨hp, 0, none⟩), .slice (some ⟨g, 0, none⟩) (H * W) gc, i64 A, i64 C, i64 W, i64 H, .slice (some ⟨b, 0, none⟩) C C, .pointer (some ⟨m, 0, none⟩)] w fun e w' => e = .returned (.tuple #[]) ∧ QX w' m mg W H (cutX D W H) ∧ Fr (One mg) w w' := by
  have HP := Lib.hid hpl
  have H2 := Lib.hid h2
  have hl2 := h2.l2
  have hl1 := h2.l1
  have HNE := Lib.hid (show _ ∧ _ from ⟨hg, hq⟩)
  have HBR := Lib.hid hb
  have HQ0 := Lib.hid (show QX w m mg W H noB ∧ DM W H D noB (fun j _ => j < 8 * 0) ∧ Fr (One mg) w w from ⟨hm, ⟨fun y x h => (by cases h), fun y x h => absurd h (by omega)⟩, Fr.refl _ _⟩)
  have hAb : A ≤ 200 ∧ 5 ≤ A := by omega
  have hCb : C ≤ 200 ∧ 5 ≤ C := by omega
  obtain ⟨hA2, hA1⟩ := hAb
  obtain ⟨hC2, hC1⟩ := hCb
  obtain ⟨MY, hMY⟩ : ∃ MY, H - 8 = MY := ⟨_, rfl⟩
  obtain ⟨MX, hMX⟩ : ∃ MX, W - 8 = MX := ⟨_, rfl⟩
  have eMY : (H : Int) - 8 = (MY : Int) := by omega
  have eMX : (W : Int) - 8 = (MX : Int) := by omega
  have HMM := Lib.hid (show MY + 8 = H ∧ MX + 8 = W ∧ H ≤ 8 * C ∧ W ≤ 8 * A from by omega)
  have hMYb : MY ≤ 1500 := by omega
  have hMXb : MX ≤ 1500 := by omega
  obtain ⟨C3, hC3⟩ : ∃ C3, C - 3 = C3 := ⟨_, rfl⟩
  obtain ⟨A3, hA3⟩ : ∃ A3, A - 3 = A3 := ⟨_, rfl⟩
  have eC3 : (C : Int) - 3 = (C3 : Int) := by omega
  have eA3 : (A : Int) - 3 = (A3 : Int) := by omega
  have H3 := Lib.hid (show C3 + 3 = C ∧ A3 + 3 = A from by omega)
  have hC3b : C3 ≤ 200 := by omega
  have hA3b : A3 ≤ 200 := by omega
  clear hpl hg hq h2 hm hb hA hC hMY hMX hC3 hA3
  go_enter Tryz.func337, Tryz.ntmps337
  go_wp2_with fail
  go_loopg [18, 19, 20, 21, 22, 23, 24, 25, 26, 27] C (fun c s18 s19 s20 s21 s22 s23 s24 s25 s26 s27 wr => ∃ (y : Nat) (B : Nat → Nat → Bool), Hid (y + c = C) ∧ s18 = .int .i64 y ∧ Hid (QX wr m mg W H B ∧ DM W H D B (fun j _ => j < 8 * y) ∧ Fr (One mg) w wr))
  case atStart => exact ⟨0, noB, Lib.hid (by omega), rfl, HQ0⟩
  case round =>
    clear HQ0
    obtain ⟨y, B, HY, rfl, HQ⟩ := hrel
    cases gk with
    | zero =>
      have hyz : ¬ (y : Int) < (C : Int) := by have := HY.out; omega
      have hyC : y = C := by have := HY.out; omega
      have HE := Lib.hid (HQ.out.1.congr (HQ.out.2.1.all (fun j k hj hk => by have := HMM.out; omega)))
      clear hyC
      go_wp2_with fail
      go_end0
      exact ⟨rfl, HE.out, HQ.out.2.2⟩
    | succ c =>
      have hyz : (y : Int) < (C : Int) := by have := HY.out; omega
      have hyC : y < C := by omega
      obtain ⟨y8, hy8⟩ : ∃ y8, y * 8 = y8 := ⟨_, rfl⟩
      have ey8 : (y : Int) * 8 = (y8 : Int) := by omega
      have hy8b : y8 ≤ 1600 := by omega
      have HY8 := Lib.hid (show y8 = 8 * y from by omega)
      clear hy8
      go_upto_if 41 with fail
      go_cut [19] from 37 to 42 (fun s19 wc => ∃ yo : Nat, Hid ((yo = y8 ∧ y8 ≤ MY) ∨ (yo = MY ∧ MY < y8)) ∧ s19 = .int .i64 yo ∧ wr = wc)
      case first =>
        by_cases hc : MY < y8
        · have hcz : (MY : Int) < (y8 : Int) := by omega
          go_wp2_with fail
          go_meet
          case rel => exact ⟨MY, Lib.hid (.inr ⟨rfl, hc⟩), rfl, rfl⟩
        · have hcz : ¬ (MY : Int) < (y8 : Int) := by omega
          go_wp2_with fail
          go_meet
          case rel => exact ⟨y8, Lib.hid (.inl ⟨rfl, by omega⟩), rfl, rfl⟩
      case rest =>
        obtain ⟨yo, HYO, rfl, hw⟩ := hcut
        subst hw
        clear ey8
        have hyob : yo ≤ 1500 := by have := HYO.out; omega
        go_wp2_with fail
        refine (cap_calls hp wr y C3 (by have := H3.out; omega) (by omega) (by omega)).mono ?_
        rintro e w3 ⟨t, rfl, HT, hw3⟩
        subst hw3
        have htb : t ≤ 200 := by have := HT.out; omega
        have HQ1 := Lib.hid (show QX wr m mg W H B ∧ DM W H D B (fun j k => j < 8 * y ∨ (j < 8 * (y + 1) ∧ k < 8 * 0)) ∧ Fr (One mg) w wr from ⟨HQ.out.1, HQ.out.2.1.weak (fun j k _ _ h => by omega), HQ.out.2.2⟩)
        go_wp2_with fail
        go_loopg [21, 22, 23, 24, 25, 26, 27] A (fun k s21 s22 s23 s24 s25 s26 s27 wz => ∃ (x : Nat) (B : Nat → Nat → Bool), Hid (x + k = A) ∧ s21 = .int .i64 x ∧ Hid (QX wz m mg W H B ∧ DM W H D B (fun j k => j < 8 * y ∨ (j < 8 * (y + 1) ∧ k < 8 * x)) ∧ Fr (One mg) w wz))
        case atStart => exact ⟨0, B, Lib.hid (by omega), rfl, HQ1⟩
        case round =>
          clear HQ1 HQ
          obtain ⟨x, B, HX, rfl, HQ⟩ := hrel
          cases gk with
          | zero =>
            have hxz : ¬ (x : Int) < (A : Int) := by have := HX.out; omega
            have HQ2 := Lib.hid (show QX wr m mg W H B ∧ DM W H D B (fun j _ => j < 8 * (y + 1)) ∧ Fr (One mg) w wr from ⟨HQ.out.1, HQ.out.2.1.weak (fun j k _ _ h => by have := HMM.out; have := HX.out; omega), HQ.out.2.2⟩)
            clear HQ
            go_wp2_with fail
            go_roundg c
            case measure => have := HY.out; omega
            case rel => exact ⟨y + 1, B, Lib.hid (by have := HY.out; omega), by go_num, HQ2⟩
          | succ k =>
            have hxz : (x : Int) < (A : Int) := by have := HX.out; omega
            have hxA : x < A := by omega
            obtain ⟨x8, hx8⟩ : ∃ x8, x * 8 = x8 := ⟨_, rfl⟩
            have ex8 : (x : Int) * 8 = (x8 : Int) := by omega
            have hx8b : x8 ≤ 1600 := by omega
            have HX8 := Lib.hid (show x8 = 8 * x from by omega)
            clear hx8
            go_upto_if 57 with fail
            go_cut [22] from 53 to 58 (fun s22 wc => ∃ xo : Nat, Hid ((xo = x8 ∧ x8 ≤ MX) ∨ (xo = MX ∧ MX < x8)) ∧ s22 = .int .i64 xo ∧ wr = wc)
            case first =>
              by_cases hc : MX < x8
              · have hcz : (MX : Int) < (x8 : Int) := by omega
                go_wp2_with fail
                go_meet
                case rel => exact ⟨MX, Lib.hid (.inr ⟨rfl, hc⟩), rfl, rfl⟩
              · have hcz : ¬ (MX : Int) < (x8 : Int) := by omega
                go_wp2_with fail
                go_meet
                case rel => exact ⟨x8, Lib.hid (.inl ⟨rfl, by omega⟩), rfl, rfl⟩
            case rest =>
              obtain ⟨xo, HXO, rfl, hw⟩ := hcut
              subst hw
              clear ex8
              have hxob : xo ≤ 1500 := by have := HXO.out; omega
              go_wp2_with fail
              refine (cap_calls hp wr x A3 (by have := H3.out; omega) (by omega) (by omega)).mono ?_
              rintro e w3 ⟨l, rfl, HLL, hw3⟩
              subst hw3
              have hlb : l ≤ 200 := by have := HLL.out; omega
              obtain ⟨wx, hwx⟩ : ∃ wx, wx = wr := ⟨_, rfl⟩
              subst hwx
              have HB2 := Lib.hid (HBR.out.fr HQ.out.2.2)
              go_wp2_with fail
              go_loopg [24, 25, 26] 5 (fun k5 s24 s25 s26 wz => ∃ (i sm : Nat) (z : Int), Hid (i + k5 = 5 ∧ z = (i : Int) - 2 ∧ sm ≤ i * (5 * (lt - 1))) ∧ s25 = .int .i64 z ∧ s24 = .int .i64 sm ∧ Hid (Fr Nil wx wz))
              case atStart => exact ⟨0, 0, -2, Lib.hid ⟨by omega, by omega, by omega⟩, rfl, rfl, Lib.hid (Fr.refl _ _)⟩
              case round =>
                obtain ⟨i, sm, z, HZ, rfl, rfl, HF⟩ := hrel
                have hsmb : sm ≤ 6500 := by
                  have h1 := HZ.out.2.2
                  have h2 : i * (5 * (lt - 1)) ≤ 5 * (5 * 254) := Nat.mul_le_mul (by have := HZ.out.1; omega) (by omega)
                  omega
                have hzb : -2 ≤ z ∧ z ≤ 3 := by have := HZ.out; omega
                obtain ⟨hzb1, hzb2⟩ := hzb
                cases gk with
                | zero =>
                  have hz2 : ¬ z ≤ 2 := by have := HZ.out; omega
                  have h5 : i = 5 := by have := HZ.out; omega
                  obtain ⟨av, hav⟩ : ∃ av, sm / 25 = av := ⟨_, rfl⟩
                  have eav : (sm : Int) / 25 = (av : Int) := by omega
                  have havl : av < lt := by
                    have h1 := HZ.out.2.2
                    rw [h5] at h1
                    omega
                  have hyy : yo + 8 ≤ H := by have := HYO.out; have := HMM.out; omega
                  have hxx : xo + 8 ≤ W := by have := HXO.out; have := HMM.out; omega
                  have HTC := Lib.hid (threshold_calls (hp := hp) (gc := gc) ((HP.out.fr HQ.out.2.2 (fun e => HNE.out.2 e) (fun e => HNE.out.1 e)).nil HF.out) HNE.out.1 HNE.out.2 H2.out havl (HQ.out.1.nil HF.out) HQ.out.2.1 hyy hxx w2 k2)
                  clear hav h5
                  go_wp2_with fail
                  refine HTC.out.mono ?_
                  rintro e w9 ⟨rfl, ⟨B', hq9, hd9⟩, hf9⟩
                  have HQ9 := Lib.hid (show QX w9 m mg W H B' ∧ DM W H D B' (fun j k => j < 8 * y ∨ (j < 8 * (y + 1) ∧ k < 8 * (x + 1))) ∧ Fr (One mg) w w9 from
                    ⟨hq9, hd9.weak (fun j k hj hk h => by
                      have a1 := HYO.out
                      have a2 := HXO.out
                      have a3 := HMM.out
                      have a4 := HY8.out
                      have a5 := HX8.out
                      omega), (HQ.out.2.2.trans (HF.out.any _)).trans hf9⟩)
                  clear hq9 hd9 hf9
                  go_wp2_with fail
                  go_roundg k
                  case measure => have := HX.out; omega
                  case rel => exact ⟨x + 1, B', Lib.hid (by have := HX.out; omega), by go_num, HQ9⟩
                | succ k5 =>
                  have hz2 : z ≤ 2 := by have := HZ.out; omega
                  obtain ⟨ti, hti⟩ : ∃ ti, t + i - 2 = ti := ⟨_, rfl⟩
                  have eti : (t : Int) + z = (ti : Int) := by have := HZ.out; have := HT.out; omega
                  have htiC : ti < C := by have := HZ.out; have := HT.out; have := H3.out; omega
                  obtain ⟨l1, hl1e⟩ : ∃ l1, l - 2 = l1 := ⟨_, rfl⟩
                  obtain ⟨l2, hl2e⟩ : ∃ l2, l - 1 = l2 := ⟨_, rfl⟩
                  obtain ⟨l4, hl4e⟩ : ∃ l4, l + 1 = l4 := ⟨_, rfl⟩
                  obtain ⟨l5, hl5e⟩ : ∃ l5, l + 2 = l5 := ⟨_, rfl⟩
                  have hlA : l1 < A ∧ l2 < A ∧ l < A ∧ l4 < A ∧ l5 < A := by have := HLL.out; have := H3.out; omega
                  have q1 : IntKind.i64.wrap ((l : Int) - 2) = (l1 : Int) := by rw [show (l : Int) - 2 = (l1 : Int) from by have := HLL.out; omega]; exact IntWalk.i64_in _ (by omega)
                  have q2 : IntKind.i64.wrap ((l : Int) - 1) = (l2 : Int) := by rw [show (l : Int) - 1 = (l2 : Int) from by have := HLL.out; omega]; exact IntWalk.i64_in _ (by omega)
                  have q4 : IntKind.i64.wrap ((l : Int) + 1) = (l4 : Int) := by rw [show (l : Int) + 1 = (l4 : Int) from by omega]; exact IntWalk.i64_in _ (by omega)
                  have q5 : IntKind.i64.wrap ((l : Int) + 2) = (l5 : Int) := by rw [show (l : Int) + 2 = (l5 : Int) from by omega]; exact IntWalk.i64_in _ (by omega)
                  have z1 : (l1 : Int) < (A : Int) := by omega
                  have z2 : (l2 : Int) < (A : Int) := by omega
                  have z3 : (l : Int) < (A : Int) := by omega
                  have z4 : (l4 : Int) < (A : Int) := by omega
                  have z5 : (l5 : Int) < (A : Int) := by omega
                  have ct := HF.out.cell_some (HB2.out.top ti htiC) (fun e => e)
                  have HK := Lib.hid (show ∀ w', Fr Nil wr w' → (w'.cell? ⟨R ti, l1, none⟩ = some (i64 (V ti l1)) ∧ w'.cell? ⟨R ti, l2, none⟩ = some (i64 (V ti l2)) ∧ w'.cell? ⟨R ti, l, none⟩ = some (i64 (V ti l)) ∧ w'.cell? ⟨R ti, l4, none⟩ = some (i64 (V ti l4)) ∧ w'.cell? ⟨R ti, l5, none⟩ = some (i64 (V ti l5))) from fun w' hf => by
                    have h : ∀ x, x < A → w'.cell? ⟨R ti, x, none⟩ = some (i64 (V ti x)) := fun x hx => hf.cell_some (HF.out.cell_some (HB2.out.row ti htiC x hx) (fun e => e)) (fun e => e)
                    exact ⟨h _ hlA.1, h _ hlA.2.1, h _ hlA.2.2.1, h _ hlA.2.2.2.1, h _ hlA.2.2.2.2⟩)
                  have b1 := HB2.out.bd ti htiC l1 hlA.1
                  have b2 := HB2.out.bd ti htiC l2 hlA.2.1
                  have b3 := HB2.out.bd ti htiC l hlA.2.2.1
                  have b4 := HB2.out.bd ti htiC l4 hlA.2.2.2.1
                  have b5 := HB2.out.bd ti htiC l5 hlA.2.2.2.2
                  generalize V ti l1 = v1 at *
                  generalize V ti l2 = v2 at *
                  generalize V ti l = v3 at *
                  generalize V ti l4 = v4 at *
                  generalize V ti l5 = v5 at *
                  generalize R ti = rt at *
                  obtain ⟨sn, hsn⟩ : ∃ sn, sm + (v1 + v2 + v3 + v4 + v5) = sn := ⟨_, rfl⟩
                  have HSN := Lib.hid (sum5 sm v1 v2 v3 v4 v5 sn hsn (by omega))
                  have HZ2 := Lib.hid (show i + 1 + k5 = 5 ∧ z + 1 = ((i + 1 : Nat) : Int) - 2 ∧ sn ≤ (i + 1) * (5 * (lt - 1)) from ⟨by have := HZ.out; omega, by have := HZ.out; omega, by rw [Nat.add_mul, Nat.one_mul]; have := HZ.out; omega⟩)
                  clear hti hl1e hl2e hl4e hl5e hlA hsn b1 b2 b3 b4 b5 HZ
                  go_wp2_with fail
                  go_region_held3 (fun w' => w'.cell? ⟨rt, l1, none⟩ = some (i64 v1) ∧ w'.cell? ⟨rt, l2, none⟩ = some (i64 v2) ∧ w'.cell? ⟨rt, l, none⟩ = some (i64 v3) ∧ w'.cell? ⟨rt, l4, none⟩ = some (i64 v4) ∧ w'.cell? ⟨rt, l5, none⟩ = some (i64 v5))
                    (exact HK.out _ (Fr.refl _ _).drew)
                    (fail)
                  all_goals
                    go_wp2_with fail
                    go_roundg k5
                    case measure => omega
                    case rel => exact ⟨i + 1, sn, z + 1, HZ2, by go_num, congrArg (Value.int .i64) HSN.out, Lib.hid HF.out.drew⟩
end Go.Proofs.YtcekbhhpcmhicaaGreatDoor
/- HybridBinarizer.GetBlackMatrix; the dark pixels of a picture. -/
namespace Go.Proofs.YtcekbhhpcmhicaaGreatDoor
open Go Go.RowKit Go.Deep
set_option maxRecDepth 100000
theorem low7 (x : Nat) (h : x < 2048) : bits .and .i64 (x : Int) 7 = ((x % 8 : Nat) : Int) := by
  have := i64_and_nat x 7 (by omega) (by omega)
  have e : x &&& 7 = x % 8 := Nat.and_two_pow_sub_one_eq_mod x 3
  rw [e] at this
  exact this
theorem Tryz.ptrNe (w : World) : (binOp BinOp.neq 91 (.pointer none) (.pointer none)).run Tryz.prog w = .ok (.bool false) w := by kernel_rfl
set_option maxHeartbeats 6400000 in
theorem hybridMatrix_calls {w : World} {h p lb bb q g W H lt : Nat} {D : Nat → Nat → Bool} {F : Nat → Nat} (hh : Blk w h 236 #[.pointer (some ⟨p, 0, none⟩), .pointer none]) (hg : GH w p lb bb (.iface 298 (.pointer (some ⟨q, 0, none⟩)))) (hp : PL w q g W H F) (h2 : Gray2 W H 0 lt D F)
    (w1 : 40 ≤ W) (w2 : W ≤ 1500) (k1 : 40 ≤ H) (k2 : H ≤ 1500) :
    Calls Tryz.prog 335 #[.pointer (some ⟨h, 0, none⟩)] w fun e w' => ∃ m, e = .returned (.tuple #[.pointer (some ⟨m, 0, none⟩), .nilIface]) ∧ (∃ mg, QX w' m mg W H (cutX D W H)) ∧ Fr (One h) w w' := by
  have HS := Lib.hid (source_get hg q rfl)
  have HW := Lib.hid (plWidth_calls hp)
  have HH := Lib.hid (plHeight_calls hp)
  have HMX := Lib.hid (plMatrix_calls hp)
  have hl1 := h2.l1
  have hl2 := h2.l2
  obtain ⟨A, hA⟩ : ∃ A, (W + 7) / 8 = A := ⟨_, rfl⟩
  obtain ⟨C, hC⟩ : ∃ C, (H + 7) / 8 = C := ⟨_, rfl⟩
  have HBP := Lib.hid (fun gc => blackPoints_calls (hp := h) (gc := gc) (lt := lt) hp (fun k hk => by
    have hW0 : 0 < W := by omega
    have hy : k / W < H := Nat.div_lt_of_lt_mul (by rw [Nat.mul_comm]; exact hk)
    have hx := Nat.mod_lt k hW0
    have e := h2.px (k / W) hy (k % W) hx
    rw [Nat.mul_comm, Nat.div_add_mod] at e
    rw [e]
    split
    · exact .inl rfl
    · exact .inr rfl) hl1 hl2 w1 w2 k1 k2 hA.symm hC.symm)
  have HP := Lib.hid hp
  have HHB := Lib.hid hh
  have H2 := Lib.hid h2
  have HAC := Lib.hid (show _ ∧ _ from ⟨hA, hC⟩)
  have c0 := hh.cell 0
  have c1 := hh.cell 1
  have i1 := Tryz.invW q w
  have i2 := Tryz.entW #[.pointer (some ⟨q, 0, none⟩)] w
  have i3 := Tryz.invH q w
  have i4 := Tryz.entH #[.pointer (some ⟨q, 0, none⟩)] w
  have i5 := Tryz.invM q w
  have i6 := Tryz.entM #[.pointer (some ⟨q, 0, none⟩)] w
  have hnn := Tryz.ptrNe w
  have zW : (40 : Int) ≤ (W : Int) := by omega
  have zH : (40 : Int) ≤ (H : Int) := by omega
  clear hh hg hp h2
  go_enter Tryz.func335, Tryz.ntmps335
  go_wp2_with fail
  refine HS.out.mono ?_
  rintro e w3 ⟨rfl, rfl⟩
  go_wp2_with fail
  refine HW.out.mono ?_
  rintro e w3 ⟨rfl, rfl⟩
  go_wp2_with fail
  refine HH.out.mono ?_
  rintro e w3 ⟨rfl, rfl⟩
  go_wp2_with fail
  refine HMX.out.mono ?_
  rintro e w3 ⟨gc, rfl, rfl⟩
  clear i1 i2 i3 i4 i5 i6 hnn HS HW HH HMX zW zH
  obtain ⟨a, ha⟩ : ∃ a, W / 8 = a := ⟨_, rfl⟩
  have ea : (W : Int) / 8 = (a : Int) := by omega
  obtain ⟨ra, hra⟩ : ∃ ra, W % 8 = ra := ⟨_, rfl⟩
  have andA : bits .and .i64 (W : Int) 7 = (ra : Int) := by rw [← hra]; exact low7 W (by omega)
  obtain ⟨d, hd⟩ : ∃ d, H / 8 = d := ⟨_, rfl⟩
  have ed : (H : Int) / 8 = (d : Int) := by omega
  obtain ⟨rd, hrd⟩ : ∃ rd, H % 8 = rd := ⟨_, rfl⟩
  have andH : bits .and .i64 (H : Int) 7 = (rd : Int) := by rw [← hrd]; exact low7 H (by omega)
  have hab : a ≤ 200 := by omega
  have hdb : d ≤ 200 := by omega
  go_upto_if 45 with fail
  go_cut [8] from 41 to 47 (fun s8 wc => s8 = .int .i64 A ∧ w = wc)
  case first =>
    by_cases hz : ra = 0
    · have hAa : A = a := by omega
      subst hz
      go_wp2_with fail
      go_meet
      case rel => exact ⟨by rw [hAa], rfl⟩
    · have hAa : (a : Int) + 1 = (A : Int) := by omega
      have hzz : ((ra : Int) == 0) = false := by rw [beq_eq_false_iff_ne]; omega
      go_wp2_with fail
      go_meet
      case rel => exact ⟨rfl, rfl⟩
  case rest =>
    obtain ⟨rfl, hw⟩ := hcut
    subst hw
    clear ea andA hra
    go_upto_if 52 with fail
    go_cut [9] from 48 to 54 (fun s9 wc => s9 = .int .i64 C ∧ w = wc)
    case first =>
      by_cases hz : rd = 0
      · have hAa : C = d := by omega
        subst hz
        go_wp2_with fail
        go_meet
        case rel => exact ⟨by rw [hAa], rfl⟩
      · have hAa : (d : Int) + 1 = (C : Int) := by omega
        have hzz : ((rd : Int) == 0) = false := by rw [beq_eq_false_iff_ne]; omega
        go_wp2_with fail
        go_meet
        case rel => exact ⟨rfl, rfl⟩
    case rest =>
      obtain ⟨rfl, hw⟩ := hcut
      subst hw
      clear ed andH hrd
      go_wp2_with fail
      refine (HBP.out gc).mono ?_
      rintro e w4 ⟨b, rfl, ⟨R, V, hbp⟩, hf4⟩
      have H4 := Lib.hid (show _ ∧ _ from ⟨hbp, hf4⟩)
      clear hbp hf4 HBP
      go_wp2_with fail
      refine (newQX_calls w4 W H (by omega) (by omega) (by omega) (by omega)).mono ?_
      rintro e w5 ⟨rfl, hq5, hf5, hs5⟩
      have hsz4 := H4.out.2.size
      have hbs := H4.out.1.top
      have hbl := row_lt hbs
      have hgl : g < w.heap.size := by obtain ⟨cs, hgb⟩ := HP.out.gb; exact hgb.lt
      have hql : q < w.heap.size := by obtain ⟨cc, _, hqb⟩ := HP.out.st; exact hqb.lt
      have hhl := HHB.out.lt
      have HTC := Lib.hid (blocks_calls (hp := h) (gc := gc) ((HP.out.nil H4.out.2).nil hf5) (mg := w4.heap.size) (b := b) (A := A) (C := C) (R := R) (V := V) (m := w4.heap.size + 1) (by omega) (by omega) H2.out hq5
        ⟨fun y hy => by
            have := (rowFr H4.out.1.top hf5 (fun e => e)).cell hy
            rw [if_pos hy] at this
            exact this,
          fun y hy x hx => (rowFr (H4.out.1.row y hy) hf5 (fun e => e)).cell hx, H4.out.1.bd, by omega, fun y hy => by have := row_lt (H4.out.1.row y hy); omega⟩ w1 w2 k1 k2 HAC.out.1.symm HAC.out.2.symm)
      have HQ5 := Lib.hid (show _ ∧ _ ∧ _ from ⟨hf5, hsz4, hhl⟩)
      clear hq5 hf5 hs5 hsz4 hbs hbl hgl hql hhl
      go_wp2_with fail
      refine HTC.out.mono ?_
      rintro e w6 ⟨rfl, hq6, hf6⟩
      have hf06 : Fr Nil w w6 := (H4.out.2.trans HQ5.out.1).trans' hf6 (fun i hi e => by
        have e : i = w4.heap.size := e
        have := HQ5.out.2.1
        omega)
      have hh6 := HHB.out.fr hf06 (fun e => e)
      have cz := hh6.cell 1
      have fz := hh6.frozen 1
      have hf7 : Fr (One h) w6 (w6.setCell ⟨h, 1, none⟩ (.pointer (some ⟨w4.heap.size + 1, 0, none⟩))) := (Fr.refl _ _).set1 1 _
      have HE := Lib.hid (show QX (w6.setCell ⟨h, 1, none⟩ (.pointer (some ⟨w4.heap.size + 1, 0, none⟩))) (w4.heap.size + 1) w4.heap.size W H (cutX D W H) ∧ Fr (One h) w (w6.setCell ⟨h, 1, none⟩ (.pointer (some ⟨w4.heap.size + 1, 0, none⟩))) from
        ⟨hq6.fr hf7 (fun e => by have e : w4.heap.size + 1 = h := e; have := HQ5.out.2; omega) (fun e => by have e : w4.heap.size = h := e; have := HQ5.out.2; omega), (hf06.any _).trans hf7⟩)
      clear hf06 hh6 hf7 hq6 hf6 HTC
      go_wp2_with fail
      go_ret2
      exact ⟨w4.heap.size + 1, rfl, ⟨_, HE.out.1⟩, HE.out.2⟩
end Go.Proofs.YtcekbhhpcmhicaaGreatDoor
/- The dark pixels of a picture in two grays. -/
namespace Go.Proofs.YtcekbhhpcmhicaaGreatDoor
open Go Go.RowKit Go.Deep
set_option maxRecDepth 100000
set_option maxHeartbeats 3200000 in
theorem black_calls {w : World} {W H b c dk lt : Nat} {D : Nat → Nat → Bool} {F : Nat → Nat} (w1 : 20 ≤ W) (w2 : W ≤ 1500) (k1 : 20 ≤ H) (k2 : H ≤ 1500) (hc : ∀ k, k < H * W → w.cell? ⟨b, k, none⟩ = some (u8 (F k))) (h2 : Gray2 W H dk lt D F) (hyb : Bool)
    (hyp : (hyb = false ∧ ∀ y, y < H → D y (W / 5) = false) ∨ (hyb = true ∧ 40 ≤ W ∧ 40 ≤ H ∧ dk = 0)) :
    Calls Tryz.prog 38 #[i64 W, i64 H, .slice (some ⟨b, 0, none⟩) (H * W) c, .bool hyb] w fun e w' => ∃ m, e = .returned (.pointer (some ⟨m, 0, none⟩)) ∧ (∃ mg, QX w' m mg W H (cutX D W H)) ∧ Fr Nil w w' := by
  have HS := Lib.hid (source_calls (c := c) (by omega : 1 ≤ W) w2 (by omega : 1 ≤ H) k2 hc)
  have H2 := Lib.hid h2
  have HY := Lib.hid hyp
  clear hc h2 hyp
  go_enter Tryz.func38, Tryz.ntmps38
  go_wp2_with fail
  refine HS.out.mono ?_
  rintro e w3 ⟨q, g, rfl, hp3, hf3⟩
  have HP3 := Lib.hid (show _ ∧ _ from ⟨hp3, hf3⟩)
  clear hp3 hf3 HS
  go_wp2_with fail
  refine (newGlobal_calls w3 q).mono ?_
  rintro e w4 ⟨p, lb, bb, rfl, hg4, hf4, hb4, hp4⟩
  have HG4 := Lib.hid (show _ ∧ _ ∧ _ ∧ _ from ⟨hg4, hf4, hb4, hp4⟩)
  clear hg4 hf4 hb4 hp4
  cases hyb with
  | false =>
    have hfst : ∀ y, y < H → D y (W / 5) = false := by
      rcases HY.out with ⟨_, h⟩ | ⟨h, _⟩
      · exact h
      · cases h
    have HM := Lib.hid (globalMatrix_calls HG4.out.1 (HP3.out.1.nil HG4.out.2.1) H2.out hfst w1 w2 k1 k2)
    have i1 := Tryz.invG p w4
    have i2 := Tryz.entG #[.pointer (some ⟨p, 0, none⟩)] w4
    clear hfst
    go_wp2_with fail
    refine HM.out.mono ?_
    rintro e w5 ⟨m, rfl, hq5, hf5⟩
    have HE := Lib.hid (show (∃ mg, QX w5 m mg W H (cutX D W H)) ∧ Fr Nil w w5 from ⟨hq5, (HP3.out.2.trans HG4.out.2.1).trans' hf5 (fun i hi e => by
      have := HP3.out.2.size
      have := HG4.out.2.2
      rcases e with e | e
      · omega
      · omega)⟩)
    clear hq5 hf5 HM
    go_wp2_with fail
    go_ret
    exact ⟨m, rfl, HE.out⟩
  | true =>
    have hfst : 40 ≤ W ∧ 40 ≤ H ∧ dk = 0 := by
      rcases HY.out with ⟨h, _⟩ | ⟨_, h⟩
      · cases h
      · exact h
    obtain ⟨hw, hh, rfl⟩ := hfst
    go_wp2_with fail
    refine (newHybrid_calls w4 q).mono ?_
    rintro e w5 ⟨h, p2, lb2, bb2, rfl, hh5, hg5, hf5, hb5, hp5, hl5⟩
    have HM := Lib.hid (hybridMatrix_calls hh5 hg5 ((HP3.out.1.nil HG4.out.2.1).nil hf5) H2.out hw w2 hh k2)
    have i1 := Tryz.invY h w5
    have i2 := Tryz.entY #[.pointer (some ⟨h, 0, none⟩)] w5
    have HF5 := Lib.hid (show _ ∧ _ from ⟨hf5, hl5⟩)
    clear hh5 hg5 hf5 hb5 hp5 hl5
    go_wp2_with fail
    refine HM.out.mono ?_
    rintro e w6 ⟨m, rfl, hq6, hf6⟩
    have HE := Lib.hid (show (∃ mg, QX w6 m mg W H (cutX D W H)) ∧ Fr Nil w w6 from ⟨hq6, ((HP3.out.2.trans HG4.out.2.1).trans HF5.out.1).trans' hf6 (fun i hi e => by
      have := HP3.out.2.size
      have := HG4.out.2.1.size
      have := HF5.out.2
      have e : i = h := e
      omega)⟩)
    clear hq6 hf6 HM
    go_wp2_with fail
    go_ret
    exact ⟨m, rfl, HE.out⟩
end Go.Proofs.YtcekbhhpcmhicaaGreatDoor
/- Small whole numbers as floats: the kernel reckons what the code does with them. -/
namespace Go.Proofs.YtcekbhhpcmhicaaGreatDoor
open Go Go.RowKit Go.Deep
set_option maxRecDepth 100000
/-- a whole number as a float64 -/
def fb (n : Nat) : Nat := FloatKind.f64.nearest (n : Int)
def fint (b : Nat) : Option Int := (FloatKind.f64.decode b).toInt .zero
theorem f_q7 : ∀ s : Fin 7, 1 ≤ s.val → FloatKind.f64.format.div (fb (7 * s.val)) 4619567317775286272 = some (fb s.val) := by decide +kernel
theorem f_div : ∀ s : Fin 7, ∀ n : Fin 178, 1 ≤ s.val → FloatKind.f64.format.div (fb (s.val * n.val)) (fb s.val) = some (fb n.val) := by decide +kernel
theorem f_mul : ∀ s : Fin 7, ∀ n : Fin 178, FloatKind.f64.format.mul (fb n.val) (fb s.val) = some (fb (n.val * s.val)) := by decide +kernel
theorem f_int : ∀ n : Fin 1100, fint (fb n.val) = some (n.val : Int) := by decide +kernel
theorem f_half : ∀ s : Fin 7, ((FloatKind.f64.format.div (fb s.val) 4611686018427387904).bind fint) = some ((s.val / 2 : Nat) : Int) := by decide +kernel
theorem f_round : ∀ n : Fin 178, ((FloatKind.f64.format.add (fb n.val) 4602678819172646912).bind fint) = some (n.val : Int) := by decide +kernel
theorem f_pos : ∀ n : Fin 178, (FloatKind.f64.format.order (fb n.val) 0 == some .lt) = false := by decide +kernel
theorem run_cv (n : Nat) (w : World) : (convert 3 242 (.int .i64 (n : Int))).run Tryz.prog w = .ok (.float .f64 (fb n)) w := by kernel_rfl
theorem run_fdiv {a b r : Nat} (h : FloatKind.f64.format.div a b = some r) (w : World) : (binOp .quo 242 (.float .f64 a) (.float .f64 b)).run Tryz.prog w = .ok (.float .f64 r) w := by
  simp [binOp, Op.floatArith, go_sem, h]
theorem run_fmul {a b r : Nat} (h : FloatKind.f64.format.mul a b = some r) (w : World) : (binOp .mul 242 (.float .f64 a) (.float .f64 b)).run Tryz.prog w = .ok (.float .f64 r) w := by
  simp [binOp, Op.floatArith, go_sem, h]
theorem run_fadd {a b r : Nat} (h : FloatKind.f64.format.add a b = some r) (w : World) : (binOp .add 242 (.float .f64 a) (.float .f64 b)).run Tryz.prog w = .ok (.float .f64 r) w := by
  simp [binOp, Op.floatArith, go_sem, h]
theorem run_flss (a b : Nat) (w : World) : (binOp .lss 242 (.float .f64 a) (.float .f64 b)).run Tryz.prog w = .ok (.bool (FloatKind.f64.format.order a b == some .lt)) w := by
  simp [binOp, Op.floatCmp, go_sem]
theorem run_fint {b : Nat} {n : Int} (h : fint b = some n) (h1 : 0 ≤ n) (h2 : n ≤ 100000) (w : World) : (convert 242 3 (.float .f64 b)).run Tryz.prog w = .ok (.int .i64 n) w := by
  have e : (convert 242 3 (.float .f64 b)).run Tryz.prog w = (Conv.floatToInt .f64 b .i64).run Tryz.prog w := by kernel_rfl
  rw [e]
  unfold Conv.floatToInt
  have h : (FloatKind.f64.decode b).toInt .zero = some n := h
  rw [h]
  have e2 : IntKind.i64.min ≤ n ∧ n ≤ IntKind.i64.max := by
    have e3 : IntKind.i64.min = -9223372036854775808 := by decide
    have e4 : IntKind.i64.max = 9223372036854775807 := by decide
    omega
  simp only [if_pos e2]
  rfl
set_option maxHeartbeats 800000 in
theorem round_calls (n : Nat) (h : n < 178) (w : World) : Calls Tryz.prog 142 #[.float .f64 (fb n)] w fun e w' => e = .returned (i64 n) ∧ w = w' := by
  have h1 := run_flss (fb n) 0 w
  rw [f_pos ⟨n, h⟩] at h1
  have hr := f_round ⟨n, h⟩
  obtain ⟨r, ha, hi⟩ := Option.bind_eq_some_iff.1 hr
  have h2 := run_fadd ha w
  have h3 := run_fint hi (by simp) (by show ((n : Nat) : Int) ≤ 100000; omega) w
  clear hr ha hi
  go_enter Tryz.func142, Tryz.ntmps142
  go_wp2_with fail
  go_ret
  exact ⟨rfl, rfl⟩
end Go.Proofs.YtcekbhhpcmhicaaGreatDoor
