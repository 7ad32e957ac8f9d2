/- calculateMaskPenalty: a bound; chooseMaskPattern: some mask below 8. -/
import Derived.Test.YtcekbhhpcmhicaaGreatDoorB22
import Derived.Test.YtcekbhhpcmhicaaGreatDoorB12
import Derived.Test.YtcekbhhpcmhicaaGreatDoorB02
set_option linter.unusedSimpArgs false
set_option linter.unusedVariables false
namespace Go.Proofs.YtcekbhhpcmhicaaGreatDoor
open Go Go.RowKit Go.Deep
set_option maxRecDepth 100000
set_option maxHeartbeats 1600000 in
theorem pen_calls {w : World} {m r n : Nat} {M : Nat → Nat → Int} (h : BM w m r n M) (hn : 21 ≤ n) (hM : Tri M) :
    Calls Tryz.prog 122 #[.pointer (some ⟨m, 0, none⟩)] w fun e w' => (∃ p : Nat, e = .returned (.int .i64 p) ∧ p ≤ 30000000) ∧ w = w' := by
  have H1 := Lib.hid (pen1_calls h hn (fun y x _ _ => by have := hM y x; omega))
  have H2 := Lib.hid (pen2_calls h (by omega))
  have H3 := Lib.hid (pen3_calls h)
  have H4 := Lib.hid (pen4_calls h hn)
  clear h hM
  go_enter Tryz.func122, Tryz.ntmps122
  go_wp2_with fail
  refine H1.out.mono ?_
  rintro e w1 ⟨⟨p1, rfl, b1⟩, rfl⟩
  go_wp2_with fail
  refine H2.out.mono ?_
  rintro e w1 ⟨⟨p2, rfl, b2⟩, rfl⟩
  go_wp2_with fail
  refine H3.out.mono ?_
  rintro e w1 ⟨⟨p3, rfl, b3⟩, rfl⟩
  go_wp2_with fail
  refine H4.out.mono ?_
  rintro e w1 ⟨⟨p4, rfl, b4⟩, rfl⟩
  go_wp2_with fail
  go_ret
  exact ⟨⟨p1 + p2 + p3 + p4, by go_num, by omega⟩, rfl⟩
set_option maxHeartbeats 3200000 in
theorem choose_calls {w : World} {lo hi q v p g nb m r : Nat} {bits : List Bool} {M : Nat → Nat → Int} (hv : VerAt w lo hi q v) (hb : BA w p g nb bits) (h : BM w m r (17 + 4 * v) M) (hr : hi ≤ r + 1)
    (hp : ¬ Rw r (17 + 4 * v) p) (hg : ¬ Rw r (17 + 4 * v) g) (l : Nat) (hl : l < 4) (hall : ∀ k, k < 8 → (symM v l k bits).2 = bits.length) :
    Calls Tryz.prog 70 #[.pointer (some ⟨p, 0, none⟩), i64 l, .pointer (some ⟨q, 0, none⟩), .pointer (some ⟨m, 0, none⟩)] w fun e w' =>
      (∃ k : Nat, e = .returned (.tuple #[.int .i64 k, .nilIface]) ∧ k < 8) ∧ (∃ M', BM w' m r (17 + 4 * v) M') ∧ Fr (Rw r (17 + 4 * v)) w w' := by
  have hv1 := hv.v1
  have HV := Lib.hid hv
  have HBA := Lib.hid hb
  have HNO := Lib.hid (show _ ∧ _ from ⟨hp, hg⟩)
  have HALL := Lib.hid hall
  have H := Lib.hid h
  clear hv hb h hp hg hall
  go_enter Tryz.func70, Tryz.ntmps70
  go_wp2_with fail
  go_loopg [10, 11, 12, 13, 14] 8 (fun c s10 s11 s12 s13 s14 wr => ∃ (k : Nat) (mp be : Int), k + c = 8 ∧ s12 = .int .i64 k ∧ s10 = .int .i64 mp ∧ s11 = .int .i64 be ∧ Hid ((k = 0 → mp = 2147483647) ∧ (0 < k → ∃ b : Nat, be = b ∧ b < 8)) ∧
    Hid (∃ M', BM wr m r (17 + 4 * v) M') ∧ Hid (Fr (Rw r (17 + 4 * v)) w wr))
  case atStart => exact ⟨0, 2147483647, -1, by omega, rfl, rfl, rfl, Lib.hid ⟨fun _ => rfl, fun e => by omega⟩, Lib.hid ⟨_, H.out⟩, Lib.hid (Fr.refl _ _)⟩
  case round =>
    obtain ⟨k, mp, be, hk, rfl, rfl, rfl, HK, HB, HF⟩ := hrel
    cases gk with
    | zero =>
      have hz : ¬ (k : Int) < 8 := by omega
      obtain ⟨b, hbe, hb8⟩ := HK.out.2 (by omega)
      subst hbe
      go_wp2_with fail
      go_ret2
      exact ⟨⟨b, rfl, hb8⟩, HB.out, HF.out⟩
    | succ c =>
      have hz : (k : Int) < 8 := by omega
      have hk8 : k < 8 := by omega
      obtain ⟨M1, hM1⟩ := HB.out
      have HC := Lib.hid (build_calls (HV.out.far HF.out hr) (HBA.out.fr HF.out HNO.out.1 HNO.out.2) hM1 hr HNO.out.1 HNO.out.2 l k hl hk8 (HALL.out k hk8))
      clear hM1
      go_wp2_with fail
      refine HC.out.mono ?_
      rintro e w1 ⟨rfl, hb1, hf1⟩
      have HB1 := Lib.hid (show ∃ M', BM w1 m r (17 + 4 * v) M' from ⟨_, hb1⟩)
      have HF1 := Lib.hid (HF.out.trans hf1)
      have HP := Lib.hid (pen_calls hb1 (by omega) (tri_sym v l k bits))
      clear hb1 hf1 HC
      go_wp2_with fail
      refine HP.out.mono ?_
      rintro e w2 ⟨⟨pn, rfl, hpn⟩, rfl⟩
      by_cases hlt : (pn : Int) < mp
      · go_wp2_with fail
        go_roundg c
        case measure => omega
        case rel => exact ⟨k + 1, pn, k, by omega, by go_num, rfl, rfl, Lib.hid ⟨fun e => by omega, fun _ => ⟨k, rfl, hk8⟩⟩, HB1, HF1⟩
      · have HK2 : Hid (0 < k) := Lib.hid (by
          refine Nat.pos_of_ne_zero fun e => hlt ?_
          rw [HK.out.1 e]; omega)
        go_wp2_with fail
        go_roundg c
        case measure => omega
        case rel => exact ⟨k + 1, mp, be, by omega, by go_num, rfl, rfl, Lib.hid ⟨fun e => by omega, fun _ => HK.out.2 HK2.out⟩, HB1, HF1⟩
end Go.Proofs.YtcekbhhpcmhicaaGreatDoor
