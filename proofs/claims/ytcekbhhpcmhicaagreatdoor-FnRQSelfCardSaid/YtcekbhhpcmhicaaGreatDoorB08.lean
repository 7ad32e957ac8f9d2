/- Timing lines, the squares and separators together, the small squares; a new matrix. -/
import Derived.Test.YtcekbhhpcmhicaaGreatDoorB04
import Derived.Test.YtcekbhhpcmhicaaGreatDoorB07
set_option linter.unusedSimpArgs false
set_option linter.unusedVariables false
namespace Go.Proofs.YtcekbhhpcmhicaaGreatDoor
open Go Go.RowKit Go.Deep
set_option maxRecDepth 100000
/-- the timing lines' cells from 8 on, k of each, where they are free -/
def tim (k : Nat) (M : Nat → Nat → Int) : Nat → Nat → Int := fun y x =>
  if y = 6 ∧ 8 ≤ x ∧ x < 8 + k ∧ M y x = -1 then ((x : Int) + 1) % 2 else if x = 6 ∧ 8 ≤ y ∧ y < 8 + k ∧ M y x = -1 then ((y : Int) + 1) % 2 else M y x
theorem tim_zero (M : Nat → Nat → Int) : tim 0 M = M := by funext y x; unfold tim; rw [if_neg (by omega), if_neg (by omega)]
theorem tim_h (k : Nat) (M : Nat → Nat → Int) : tim k M 6 (8 + k) = M 6 (8 + k) := by unfold tim; rw [if_neg (by omega), if_neg (by omega)]
theorem tim_v (k : Nat) (M : Nat → Nat → Int) : tim k M (8 + k) 6 = M (8 + k) 6 := by unfold tim; rw [if_neg (by omega), if_neg (by omega)]
def timH (k : Nat) (M : Nat → Nat → Int) : Nat → Nat → Int := if M 6 (8 + k) = -1 then upd (tim k M) (8 + k) 6 (((8 + k : Nat) : Int) + 1 - (((8 + k : Nat) : Int) + 1) / 2 * 2) else tim k M
theorem timH_v (k : Nat) (M : Nat → Nat → Int) : timH k M (8 + k) 6 = M (8 + k) 6 := by
  unfold timH; split
  · unfold upd; rw [if_neg (by omega), tim_v]
  · exact tim_v k M
theorem tim_succ (k : Nat) (M : Nat → Nat → Int) : tim (k + 1) M = if M (8 + k) 6 = -1 then upd (timH k M) 6 (8 + k) (((8 + k : Nat) : Int) + 1 - (((8 + k : Nat) : Int) + 1) / 2 * 2) else timH k M := by
  have hmod : ((8 + k : Nat) : Int) + 1 - (((8 + k : Nat) : Int) + 1) / 2 * 2 = (((8 + k : Nat) : Int) + 1) % 2 := by omega
  have hh : ∀ y x, timH k M y x = if y = 6 ∧ x = 8 + k ∧ M y x = -1 then ((x : Int) + 1) % 2 else tim k M y x := by
    intro y x
    unfold timH
    by_cases h : M 6 (8 + k) = -1
    · rw [if_pos h]; unfold upd
      by_cases h2 : y = 6 ∧ x = 8 + k
      · obtain ⟨rfl, rfl⟩ := h2
        rw [if_pos ⟨rfl, rfl⟩, if_pos ⟨rfl, rfl, h⟩, hmod]
      · rw [if_neg h2, if_neg (fun e => h2 ⟨e.1, e.2.1⟩)]
    · rw [if_neg h, if_neg (fun e => h (by rw [← e.1, ← e.2.1]; exact e.2.2))]
  funext y x
  have h1 : (if M (8 + k) 6 = -1 then upd (timH k M) 6 (8 + k) (((8 + k : Nat) : Int) + 1 - (((8 + k : Nat) : Int) + 1) / 2 * 2) else timH k M) y x =
      if x = 6 ∧ y = 8 + k ∧ M y x = -1 then ((y : Int) + 1) % 2 else timH k M y x := by
    by_cases h : M (8 + k) 6 = -1
    · rw [if_pos h]; unfold upd
      by_cases h2 : y = 8 + k ∧ x = 6
      · obtain ⟨rfl, rfl⟩ := h2
        rw [if_pos ⟨rfl, rfl⟩, if_pos ⟨rfl, rfl, h⟩, hmod]
      · rw [if_neg h2, if_neg (fun e => h2 ⟨e.2.1, e.1⟩)]
    · rw [if_neg h, if_neg (fun e => h (by rw [← e.2.1, ← e.1]; exact e.2.2))]
  rw [h1, hh]
  unfold tim
  by_cases a1 : y = 6 ∧ x = 8 + k ∧ M y x = -1
  · rw [if_pos ⟨a1.1, by omega, by omega, a1.2.2⟩, if_neg (by omega), if_pos a1]
  · rw [if_neg a1]
    by_cases a2 : x = 6 ∧ y = 8 + k ∧ M y x = -1
    · rw [if_pos a2, if_neg (by omega), if_pos ⟨a2.1, by omega, by omega, a2.2.2⟩]
    · rw [if_neg a2]
      by_cases a3 : y = 6 ∧ 8 ≤ x ∧ x < 8 + k ∧ M y x = -1
      · rw [if_pos a3, if_pos ⟨a3.1, a3.2.1, by omega, a3.2.2.2⟩]
      · have a3' : ¬ (y = 6 ∧ 8 ≤ x ∧ x < 8 + (k + 1) ∧ M y x = -1) := fun e => by
          by_cases e2 : x = 8 + k
          · exact a1 ⟨e.1, e2, e.2.2.2⟩
          · exact a3 ⟨e.1, e.2.1, by omega, e.2.2.2⟩
        rw [if_neg a3, if_neg a3']
        by_cases a4 : x = 6 ∧ 8 ≤ y ∧ y < 8 + k ∧ M y x = -1
        · rw [if_pos a4, if_pos ⟨a4.1, a4.2.1, by omega, a4.2.2.2⟩]
        · have a4' : ¬ (x = 6 ∧ 8 ≤ y ∧ y < 8 + (k + 1) ∧ M y x = -1) := fun e => by
            by_cases e2 : y = 8 + k
            · exact a2 ⟨e.1, e2, e.2.2.2⟩
            · exact a4 ⟨e.1, e.2.1, by omega, e.2.2.2⟩
          rw [if_neg a4, if_neg a4']
set_option maxHeartbeats 3200000 in
theorem timing_calls {w : World} {m r n : Nat} {M : Nat → Nat → Int} (h : BM w m r n M) (hn : 21 ≤ n) :
    Calls Tryz.prog 163 #[.pointer (some ⟨m, 0, none⟩)] w fun e w' => e = .returned (.tuple #[]) ∧ BM w' m r n (tim (n - 16) M) ∧ Fr (Rw r n) w w' := by
  have hl := h.lim
  have H := Lib.hid h
  clear h
  go_enter Tryz.func163, Tryz.ntmps163
  go_wp2_with fail
  go_loopg [2, 3] (n - 16) (fun q s2 s3 wr => ∃ k : Nat, k + q = n - 16 ∧ s2 = .int .i64 ((8 + k : Nat) : Int) ∧ Hid (BM wr m r n (tim k M)) ∧ Fr (Rw r n) w wr)
  case atStart => exact ⟨0, by omega, rfl, Lib.hid (by rw [tim_zero]; exact H.out), Fr.refl _ _⟩
  case round =>
    obtain ⟨k, hkq, rfl, HB, hF⟩ := hrel
    clear H
    obtain ⟨i, hi⟩ : ∃ i, 8 + k = i := ⟨_, rfl⟩
    have HWD := Lib.hid (width_calls HB.out)
    cases gk with
    | zero =>
      have hkn : k = n - 16 := by omega
      have hz : ¬ (i : Int) < (n : Int) - 8 := by omega
      have HK := Lib.hid hkn
      clear hkn hkq
      rw [hi]
      clear hi
      go_wp2_with fail
      refine HWD.out.mono ?_
      rintro e w1 ⟨rfl, rfl⟩
      go_wp2_with fail
      go_end0
      exact ⟨rfl, by rw [← HK.out]; exact HB.out, hF⟩
    | succ q =>
      have hz : (i : Int) < (n : Int) - 8 := by omega
      have hin : i < n := by omega
      have g1 := bmGet_calls HB.out i 6 hin (by omega)
      rw [← hi, tim_h, hi] at g1
      have G1 := Lib.hid g1
      have E1 := Lib.hid (isEmpty_calls (M 6 i) wr)
      have HQ := Lib.hid hkq
      have hbit : ((i : Int) + 1) % 2 = (i : Int) + 1 - ((i : Int) + 1) / 2 * 2 := by omega
      have hi8 : IntKind.i8.wrap (((i : Int) + 1) % 2) = ((i : Int) + 1) % 2 := IntWalk.i8_in _ (by omega)
      have S1 := Lib.hid (bmSet_calls HB.out i 6 hin (by omega) (((i : Int) + 1) % 2))
      have HI := Lib.hid hi
      have HBIT := Lib.hid hbit
      have hF' := hF
      rw [hi]
      clear g1 hi hbit hkq hF
      by_cases h1 : M 6 i = -1
      · have HB1 : ∀ w2, BM w2 m r n (upd (tim k M) i 6 (((i : Int) + 1) % 2)) → Hid (BM w2 m r n (timH k M)) := fun w2 hb => Lib.hid (by
          unfold timH; rw [HI.out, if_pos h1, ← HBIT.out]; exact hb)
        have HB1' := Lib.hid HB1
        have h1b : ((M 6 i) == -1) = true := by rw [h1]; rfl
        generalize M 6 i = u at *
        clear HB1 HB h1
        go_wp2_with fail
        refine HWD.out.mono ?_
        rintro e w1 ⟨rfl, rfl⟩
        go_wp2_with fail
        refine G1.out.mono ?_
        rintro e w1 ⟨rfl, rfl⟩
        go_wp2_with fail
        refine E1.out.mono ?_
        rintro e w1 ⟨rfl, rfl⟩
        rw [h1b]
        go_wp2_with fail
        refine S1.out.mono ?_
        rintro e w2 ⟨rfl, hb2, hf2⟩
        have HB2 := HB1'.out _ hb2
        have hF2 := hF'.trans hf2
        have g2 := bmGet_calls HB2.out 6 i (by omega) hin
        rw [← HI.out, timH_v, HI.out] at g2
        have G2 := Lib.hid g2
        have E2 := Lib.hid (isEmpty_calls (M i 6) w2)
        have S2 := Lib.hid (bmSet_calls HB2.out 6 i (by omega) hin (((i : Int) + 1) % 2))
        clear hb2 hf2 g2 hF'
        by_cases h2 : M i 6 = -1
        · have HB3 : ∀ w3, BM w3 m r n (upd (timH k M) 6 i (((i : Int) + 1) % 2)) → Hid (BM w3 m r n (tim (k + 1) M)) := fun w3 hb => Lib.hid (by
            rw [tim_succ, HI.out, if_pos h2, ← HBIT.out]; exact hb)
          have HB3' := Lib.hid HB3
          have h2b : ((M i 6) == -1) = true := by rw [h2]; rfl
          generalize M i 6 = u2 at *
          clear HB3 HB2 h2
          go_wp2_with fail
          refine G2.out.mono ?_
          rintro e w1 ⟨rfl, rfl⟩
          go_wp2_with fail
          refine E2.out.mono ?_
          rintro e w1 ⟨rfl, rfl⟩
          rw [h2b]
          go_wp2_with fail
          refine S2.out.mono ?_
          rintro e w3 ⟨rfl, hb3, hf3⟩
          have HB4 := HB3'.out _ hb3
          have hF3 := hF2.trans hf3
          clear hb3 hf3 hF2
          go_wp2_with fail
          go_roundg q
          case measure => omega
          case rel => exact ⟨k + 1, by have := HQ.out; omega, by have := HI.out; go_num, HB4, hF3⟩
        · have HB4 : Hid (BM w2 m r n (tim (k + 1) M)) := Lib.hid (by rw [tim_succ, HI.out, if_neg h2]; exact HB2.out)
          have h2b : ((M i 6) == -1) = false := beq_eq_false_iff_ne.2 h2
          generalize M i 6 = u2 at *
          clear HB2 h2
          go_wp2_with fail
          refine G2.out.mono ?_
          rintro e w1 ⟨rfl, rfl⟩
          go_wp2_with fail
          refine E2.out.mono ?_
          rintro e w1 ⟨rfl, rfl⟩
          rw [h2b]
          go_wp2_with fail
          go_roundg q
          case measure => omega
          case rel => exact ⟨k + 1, by have := HQ.out; omega, by have := HI.out; go_num, HB4, hF2⟩
      · have HB2 : Hid (BM wr m r n (timH k M)) := Lib.hid (by unfold timH; rw [HI.out, if_neg h1]; exact HB.out)
        have h1b : ((M 6 i) == -1) = false := beq_eq_false_iff_ne.2 h1
        generalize M 6 i = u at *
        have hF2 := hF'
        have g2 := bmGet_calls HB2.out 6 i (by omega) hin
        rw [← HI.out, timH_v, HI.out] at g2
        have G2 := Lib.hid g2
        have E2 := Lib.hid (isEmpty_calls (M i 6) wr)
        have S2 := Lib.hid (bmSet_calls HB2.out 6 i (by omega) hin (((i : Int) + 1) % 2))
        clear HB h1 g2 hF'
        go_wp2_with fail
        refine HWD.out.mono ?_
        rintro e w1 ⟨rfl, rfl⟩
        go_wp2_with fail
        refine G1.out.mono ?_
        rintro e w1 ⟨rfl, rfl⟩
        go_wp2_with fail
        refine E1.out.mono ?_
        rintro e w1 ⟨rfl, rfl⟩
        rw [h1b]
        by_cases h2 : M i 6 = -1
        · have HB3 : ∀ w3, BM w3 m r n (upd (timH k M) 6 i (((i : Int) + 1) % 2)) → Hid (BM w3 m r n (tim (k + 1) M)) := fun w3 hb => Lib.hid (by
            rw [tim_succ, HI.out, if_pos h2, ← HBIT.out]; exact hb)
          have HB3' := Lib.hid HB3
          have h2b : ((M i 6) == -1) = true := by rw [h2]; rfl
          generalize M i 6 = u2 at *
          clear HB3 HB2 h2
          go_wp2_with fail
          refine G2.out.mono ?_
          rintro e w1 ⟨rfl, rfl⟩
          go_wp2_with fail
          refine E2.out.mono ?_
          rintro e w1 ⟨rfl, rfl⟩
          rw [h2b]
          go_wp2_with fail
          refine S2.out.mono ?_
          rintro e w3 ⟨rfl, hb3, hf3⟩
          have HB4 := HB3'.out _ hb3
          have hF3 := hF2.trans hf3
          clear hb3 hf3 hF2
          go_wp2_with fail
          go_roundg q
          case measure => omega
          case rel => exact ⟨k + 1, by have := HQ.out; omega, by have := HI.out; go_num, HB4, hF3⟩
        · have HB4 : Hid (BM wr m r n (tim (k + 1) M)) := Lib.hid (by rw [tim_succ, HI.out, if_neg h2]; exact HB2.out)
          have h2b : ((M i 6) == -1) = false := beq_eq_false_iff_ne.2 h2
          generalize M i 6 = u2 at *
          clear HB2 h2
          go_wp2_with fail
          refine G2.out.mono ?_
          rintro e w1 ⟨rfl, rfl⟩
          go_wp2_with fail
          refine E2.out.mono ?_
          rintro e w1 ⟨rfl, rfl⟩
          rw [h2b]
          go_wp2_with fail
          go_roundg q
          case measure => omega
          case rel => exact ⟨k + 1, by have := HQ.out; omega, by have := HI.out; go_num, HB4, hF2⟩
end Go.Proofs.YtcekbhhpcmhicaaGreatDoor
/- The fixed patterns together: embedBasicPatterns; a new matrix. -/
namespace Go.Proofs.YtcekbhhpcmhicaaGreatDoor
open Go Go.RowKit Go.Deep
set_option maxRecDepth 100000
def blank : Nat → Nat → Int := fun _ _ => -1
def sq3 (n : Nat) (M : Nat → Nat → Int) : Nat → Nat → Int := lai pdpT 7 0 (n - 7) (lai pdpT 7 (n - 7) 0 (lai pdpT 7 0 0 M))
def sep6 (n : Nat) (M : Nat → Nat → Int) : Nat → Nat → Int := vz0 7 7 (n - 7) (vz0 7 (n - 8) 0 (vz0 7 7 0 (hz0 8 0 (n - 8) (hz0 8 (n - 8) 7 (hz0 8 0 7 M)))))
set_option maxHeartbeats 3200000 in
theorem seps_calls {w : World} {m r n : Nat} (h : BM w m r n blank) (hn : 21 ≤ n) :
    Calls Tryz.prog 160 #[.pointer (some ⟨m, 0, none⟩)] w fun e w' => e = .returned .nilIface ∧ BM w' m r n (sep6 n (sq3 n blank)) ∧ Fr (Rw r n) w w' := by
  have hl := h.lim
  have HT := Lib.hid (pdp_calls w)
  have hfr := tab_fr w 64 145 (tab8 pdpT) 7
  obtain ⟨row, hrow1, _⟩ := tab8_get pdpT (pdpT_rows 0 (by omega) 0 (by omega)).1 (pdpT_rows 0 (by omega) 0 (by omega)).2
  have htr := (tab_row w 64 145 (tab8 pdpT) 7 hrow1).1
  have hlen : (tab8 pdpT).length = 7 := rfl
  rw [hlen] at htr
  generalize hW : tabW w 64 145 (tab8 pdpT) 7 = W at *
  have HB := Lib.hid (h.nil hfr)
  have HFW := Lib.hid hfr
  clear hfr hW hrow1 h
  go_enter Tryz.func160, Tryz.ntmps160
  go_wp2_with fail
  refine HT.out.mono ?_
  rintro e w1 ⟨rfl, rfl⟩
  go_wp2_with fail
  clear HT htr
  refine (pdpEmbed_calls HB.out 0 0 (by omega) (by omega)).mono ?_
  rintro e w1 ⟨rfl, hb1, hf1⟩
  have HB1 := Lib.hid hb1
  have HF1 := Lib.hid hf1
  clear hb1 hf1
  go_wp2_with fail
  refine (width_calls HB1.out).mono ?_
  rintro e w2 ⟨rfl, rfl⟩
  go_wp2_with fail
  rw [show (n : Int) - 7 = ((n - 7 : Nat) : Int) from by omega]
  refine (pdpEmbed_calls HB1.out (n - 7) 0 (by omega) (by omega)).mono ?_
  rintro e w2 ⟨rfl, hb1, hf1⟩
  have HB2 := Lib.hid hb1
  have HF2 := Lib.hid (HF1.out.trans hf1)
  clear hb1 hf1 HB1 HF1
  go_wp2_with fail
  refine (width_calls HB2.out).mono ?_
  rintro e w3 ⟨rfl, rfl⟩
  go_wp2_with fail
  rw [show (n : Int) - 7 = ((n - 7 : Nat) : Int) from by omega]
  refine (pdpEmbed_calls HB2.out 0 (n - 7) (by omega) (by omega)).mono ?_
  rintro e w3 ⟨rfl, hb1, hf1⟩
  have HB3 := Lib.hid hb1
  have HF3 := Lib.hid (HF2.out.trans hf1)
  clear hb1 hf1 HB2 HF2
  go_wp2_with fail
  refine (hsep_calls HB3.out 0 7 (by omega) (by omega) (fun x hx => by
    simp only [lai]; rw [if_neg (by omega), if_neg (by omega), if_neg (by omega)]; rfl)).mono ?_
  rintro e w4 ⟨rfl, hb1, hf1⟩
  have HB4 := Lib.hid hb1
  have HF4 := Lib.hid (HF3.out.trans hf1)
  clear hb1 hf1 HB3 HF3
  go_wp2_with fail
  refine (width_calls HB4.out).mono ?_
  rintro e w5 ⟨rfl, rfl⟩
  go_wp2_with fail
  rw [show (n : Int) - 8 = ((n - 8 : Nat) : Int) from by omega]
  refine (hsep_calls HB4.out (n - 8) 7 (by omega) (by omega) (fun x hx => by
    simp only [lai, hz0]; rw [if_neg (by omega), if_neg (by omega), if_neg (by omega), if_neg (by omega)]; rfl)).mono ?_
  rintro e w5 ⟨rfl, hb1, hf1⟩
  have HB5 := Lib.hid hb1
  have HF5 := Lib.hid (HF4.out.trans hf1)
  clear hb1 hf1 HB4 HF4
  go_wp2_with fail
  refine (width_calls HB5.out).mono ?_
  rintro e w6 ⟨rfl, rfl⟩
  go_wp2_with fail
  rw [show (n : Int) - 8 = ((n - 8 : Nat) : Int) from by omega]
  refine (hsep_calls HB5.out 0 (n - 8) (by omega) (by omega) (fun x hx => by
    simp only [lai, hz0]; rw [if_neg (by omega), if_neg (by omega), if_neg (by omega), if_neg (by omega), if_neg (by omega)]; rfl)).mono ?_
  rintro e w6 ⟨rfl, hb1, hf1⟩
  have HB6 := Lib.hid hb1
  have HF6 := Lib.hid (HF5.out.trans hf1)
  clear hb1 hf1 HB5 HF5
  go_wp2_with fail
  refine (vsep_calls HB6.out 7 0 (by omega) (by omega) (fun x hx => by
    simp only [lai, hz0]; rw [if_neg (by omega), if_neg (by omega), if_neg (by omega), if_neg (by omega), if_neg (by omega), if_neg (by omega)]; rfl)).mono ?_
  rintro e w7 ⟨rfl, hb1, hf1⟩
  have HB7 := Lib.hid hb1
  have HF7 := Lib.hid (HF6.out.trans hf1)
  clear hb1 hf1 HB6 HF6
  go_wp2_with fail
  refine (height_calls HB7.out).mono ?_
  rintro e w8 ⟨rfl, rfl⟩
  go_wp2_with fail
  rw [show (n : Int) - 7 - 1 = ((n - 8 : Nat) : Int) from by omega]
  refine (vsep_calls HB7.out (n - 8) 0 (by omega) (by omega) (fun x hx => by
    simp only [lai, hz0, vz0]; rw [if_neg (by omega), if_neg (by omega), if_neg (by omega), if_neg (by omega), if_neg (by omega), if_neg (by omega), if_neg (by omega)]; rfl)).mono ?_
  rintro e w8 ⟨rfl, hb1, hf1⟩
  have HB8 := Lib.hid hb1
  have HF8 := Lib.hid (HF7.out.trans hf1)
  clear hb1 hf1 HB7 HF7
  go_wp2_with fail
  refine (height_calls HB8.out).mono ?_
  rintro e w9 ⟨rfl, rfl⟩
  go_wp2_with fail
  rw [show (n : Int) - 7 = ((n - 7 : Nat) : Int) from by omega]
  refine (vsep_calls HB8.out 7 (n - 7) (by omega) (by omega) (fun x hx => by
    simp only [lai, hz0, vz0]; rw [if_neg (by omega), if_neg (by omega), if_neg (by omega), if_neg (by omega), if_neg (by omega), if_neg (by omega), if_neg (by omega), if_neg (by omega)]; rfl)).mono ?_
  rintro e w9 ⟨rfl, hb1, hf1⟩
  have HB9 := Lib.hid hb1
  have HF9 := Lib.hid (HF8.out.trans hf1)
  clear hb1 hf1 HB8 HF8
  go_wp2_with fail
  go_ret
  exact ⟨rfl, HB9.out, (HFW.out.any _).trans HF9.out⟩
/-- the small squares -/
def adjIn (y : Nat) (M : Nat → Nat → Int) (x : Int) : Nat → Nat → Int := if 0 ≤ x ∧ M y x.toNat = -1 then lai papT 5 (x.toNat - 2) (y - 2) M else M
def adjOut (cs : List Int) (M : Nat → Nat → Int) (y : Int) : Nat → Nat → Int := if 0 ≤ y then cs.foldl (adjIn y.toNat) M else M
def adjAll (cs : List Int) (M : Nat → Nat → Int) : Nat → Nat → Int := cs.foldl (adjOut cs) M
def adjOf (v : Nat) : List Int := adjT.getD (v - 1) []
theorem adj_ok {v : Nat} (h1 : 1 ≤ v) (h2 : v ≤ 40) : (adjOf v).length = 7 ∧ ∀ i, i < 7 → (0 ≤ (adjOf v).getD i 0 → 2 ≤ (adjOf v).getD i 0 ∧ (adjOf v).getD i 0 + 3 ≤ 17 + 4 * (v : Int)) := by
  have h : ∀ k : Fin 40, (adjOf (k.val + 1)).length = 7 ∧ ∀ i, i < 7 → (0 ≤ (adjOf (k.val + 1)).getD i 0 → 2 ≤ (adjOf (k.val + 1)).getD i 0 ∧ (adjOf (k.val + 1)).getD i 0 + 3 ≤ 17 + 4 * ((k.val + 1 : Nat) : Int)) := by decide
  have := h ⟨v - 1, by omega⟩
  simp only [show v - 1 + 1 = v from by omega] at this
  exact this
theorem foldl_take_succ {α β : Type} (f : β → α → β) (b : β) (l : List α) (d : α) (i : Nat) (h : i < l.length) : (l.take (i + 1)).foldl f b = f ((l.take i).foldl f b) (l.getD i d) := by
  rw [List.take_add_one, List.getElem?_eq_getElem h, List.foldl_append, List.getD_eq_getElem?_getD, List.getElem?_eq_getElem h]; rfl
end Go.Proofs.YtcekbhhpcmhicaaGreatDoor
/- The small squares; the fixed patterns together; a new matrix. -/
namespace Go.Proofs.YtcekbhhpcmhicaaGreatDoor
open Go Go.RowKit Go.Deep
set_option maxRecDepth 100000
theorem adjAll_one (M : Nat → Nat → Int) : adjAll (adjOf 1) M = M := rfl
set_option maxHeartbeats 6400000 in
theorem adj_calls' {w : World} {lo hi p v m r : Nat} {M : Nat → Nat → Int} (hv : VerAt w lo hi p v) (h : BM w m r (17 + 4 * v) M) :
    Calls Tryz.prog 162 #[.pointer (some ⟨p, 0, none⟩), .pointer (some ⟨m, 0, none⟩)] w fun e w' => e = .returned (.tuple #[]) ∧ BM w' m r (17 + 4 * v) (adjAll (adjOf v) M) ∧ Fr (Rw r (17 + 4 * v)) w w' := by
  have hl := h.lim
  have hv1 := hv.v1
  have hv2 := hv.v2
  have HV := Lib.hid (verNumber_calls hv)
  have H := Lib.hid h
  by_cases h1 : v = 1
  · subst h1
    have HV1 : Hid (Calls Tryz.prog 18 #[.pointer (some ⟨p, 0, none⟩)] w fun e w' => e = .returned (.int .i64 1) ∧ w = w') := HV
    clear h hv HV
    go_enter Tryz.func162, Tryz.ntmps162
    go_wp2_with fail
    refine HV1.out.mono ?_
    rintro e w1 ⟨rfl, rfl⟩
    go_wp2_with fail
    (try simp only [Exit.inBlock, Exit.then])
    refine bodyPost_ret (results_none rfl _ _ _) rfl ?_
    exact ⟨rfl, H.out, Fr.refl _ _⟩
  · have h2z : ¬ (v : Int) < 2 := by omega
    have HT := Lib.hid (adj_calls w)
    have hfr := tab_fr w 3 138 (tab64 adjT) 7
    obtain ⟨k, hk⟩ : ∃ k, k + 1 = v := ⟨v - 1, by omega⟩
    have hk40 : k < 40 := by omega
    have hok := adj_ok hv1 hv2
    have hcs : adjT.getD k [] = adjOf v := by unfold adjOf; rw [show v - 1 = k from by omega]
    have hlenk : ∀ i, i < 7 → k < adjT.length ∧ i < (adjT.getD k []).length := fun i hi => ⟨hk40, by rw [hcs, hok.1]; exact hi⟩
    obtain ⟨row, hrow1, _⟩ := tab64_get adjT (hlenk 0 (by omega)).1 (hlenk 0 (by omega)).2
    have htr := (tab_row w 3 138 (tab64 adjT) 7 hrow1).1
    have hlen : (tab64 adjT).length = 40 := rfl
    rw [hlen] at htr
    have hcell : ∀ i, i < 7 → (tabW w 3 138 (tab64 adjT) 7).cell? ⟨w.heap.size + k, i, none⟩ = some (.int .i64 ((adjOf v).getD i 0)) := fun i hi => by
      obtain ⟨row2, a1, a2⟩ := tab64_get adjT (hlenk i hi).1 (hlenk i hi).2
      have := tab_cell w 3 138 (tab64 adjT) 7 a1 a2
      rw [this]; unfold at2; rw [hcs]
    have hmr : r + 1 + (17 + 4 * v) ≤ w.heap.size := by
      have := (h.row (17 + 4 * v - 1) (by omega)).lt
      omega
    generalize hW : tabW w 3 138 (tab64 adjT) 7 = W at *
    obtain ⟨B, hB⟩ : ∃ B, w.heap.size = B := ⟨_, rfl⟩
    rw [hB] at htr HT hcell hmr
    have HC := Lib.hid hcell
    have HB := Lib.hid (h.nil hfr)
    have HFW := Lib.hid hfr
    have hvk : (v : Int) - 1 = (k : Int) := by omega
    have HOK := Lib.hid hok
    obtain ⟨n, hn⟩ : ∃ n, 17 + 4 * v = n := ⟨_, rfl⟩
    rw [hn] at HB hl hmr ⊢
    have HN := Lib.hid hn
    generalize hcsq : adjOf v = cs at *
    clear hfr hW hrow1 h hv hcell hok hlenk hcs hk H hn hcsq
    go_enter Tryz.func162, Tryz.ntmps162
    go_wp2_with fail
    refine HV.out.mono ?_
    rintro e w1 ⟨rfl, rfl⟩
    go_wp2_with fail
    refine HV.out.mono ?_
    rintro e w1 ⟨rfl, rfl⟩
    go_wp2_with fail
    refine HT.out.mono ?_
    rintro e w1 ⟨rfl, rfl⟩
    go_wp2_with fail
    clear HT HV htr
    go_loopg [7, 9, 22] 7 (fun q s7 s9 s22 wr => ∃ i : Nat, i + q = 7 ∧ s22 = .int .i64 i ∧ Hid (BM wr m r n ((cs.take i).foldl (adjOut cs) M)) ∧ Fr (Rw r n) W wr)
    case atStart => exact ⟨0, by omega, rfl, HB, Fr.refl _ _⟩
    case round =>
      obtain ⟨i, hi, rfl, HB1, hF⟩ := hrel
      clear HB
      cases gk with
      | zero =>
        have hi7 : i = 7 := by omega
        subst hi7
        go_wp2_with fail
        go_end0
        exact ⟨rfl, by have := HB1.out; rwa [List.take_of_length_le (by rw [HOK.out.1]; exact Nat.le_refl _)] at this, (HFW.out.any _).trans hF⟩
      | succ q =>
        have hiz : (i : Int) < 7 := by omega
        have hi7 : i < 7 := by omega
        have hc := hF.cell_some (HC.out i hi7) (fun e => by have := e.2; simp only at this; omega)
        have hst := foldl_take_succ (adjOut cs) M cs 0 i (by rw [HOK.out.1]; exact hi7)
        have hco := HOK.out.2 i hi7
        generalize cs.getD i 0 = c at *
        generalize (cs.take i).foldl (adjOut cs) M = M1 at *
        have HI := Lib.hid hi
        clear hi
        by_cases hcn : 0 ≤ c
        · obtain ⟨y, rfl⟩ : ∃ y : Nat, c = (y : Int) := ⟨c.toNat, by omega⟩
          have hco2 := hco hcn
          have hy2 : 2 ≤ y := by omega
          have hyn : y + 3 ≤ n := by have := HN.out; omega
          have HST : Hid ((cs.take (i + 1)).foldl (adjOut cs) M = cs.foldl (adjIn y) M1) := Lib.hid (by rw [hst]; unfold adjOut; rw [if_pos hcn]; rfl)
          clear hst hco hco2
          go_wp2_with fail
          clear hc
          go_loopg [9, 30] 7 (fun q s9 s30 wq => ∃ j : Nat, j + q = 7 ∧ s30 = .int .i64 j ∧ Hid (BM wq m r n ((cs.take j).foldl (adjIn y) M1)) ∧ Fr (Rw r n) W wq)
          case atStart => exact ⟨0, by omega, rfl, HB1, hF⟩
          case round =>
            obtain ⟨j, hj, rfl, HB2, hF2⟩ := hrel
            clear HB1 hF
            cases gk with
            | zero =>
              have hj7 : j = 7 := by omega
              subst hj7
              go_wp2_with fail
              go_roundg q
              case measure => omega
              case rel => exact ⟨i + 1, by have := HI.out; omega, by go_num, Lib.hid (by rw [HST.out]; have := HB2.out; rwa [List.take_of_length_le (by rw [HOK.out.1]; exact Nat.le_refl _)] at this), hF2⟩
            | succ q2 =>
              have hjz : (j : Int) < 7 := by omega
              have hj7 : j < 7 := by omega
              have hc := hF2.cell_some (HC.out j hj7) (fun e => by have := e.2; simp only at this; omega)
              have hst := foldl_take_succ (adjIn y) M1 cs 0 j (by rw [HOK.out.1]; exact hj7)
              have hco := HOK.out.2 j hj7
              generalize cs.getD j 0 = c at *
              generalize (cs.take j).foldl (adjIn y) M1 = M2 at *
              have HJ := Lib.hid hj
              clear hj
              by_cases hcn2 : 0 ≤ c
              · obtain ⟨x, rfl⟩ : ∃ x : Nat, c = (x : Int) := ⟨c.toNat, by omega⟩
                have hco2 := hco hcn2
                have hx2 : 2 ≤ x := by omega
                have hxn : x + 3 ≤ n := by have := HN.out; omega
                have HG := Lib.hid (bmGet_calls HB2.out x y (by omega) (by omega))
                have HE := Lib.hid (isEmpty_calls (M2 y x) wr)
                by_cases he : M2 y x = -1
                · have HST2 : Hid ((cs.take (j + 1)).foldl (adjIn y) M1 = lai papT 5 (x - 2) (y - 2) M2) := Lib.hid (by rw [hst]; unfold adjIn; rw [if_pos ⟨hcn2, he⟩]; rfl)
                  have hb : (M2 y x == -1) = true := by rw [he]; rfl
                  rw [hb] at HE
                  have HPP := Lib.hid (papEmbed_calls HB2.out (x - 2) (y - 2) (by omega) (by omega))
                  generalize M2 y x = u at *
                  clear hst hco hco2 he hb
                  go_wp2_with fail
                  refine HG.out.mono ?_
                  rintro e w1 ⟨rfl, rfl⟩
                  go_wp2_with fail
                  refine HE.out.mono ?_
                  rintro e w1 ⟨rfl, rfl⟩
                  go_wp2_with fail
                  rw [show (x : Int) - 2 = ((x - 2 : Nat) : Int) from by omega, show (y : Int) - 2 = ((y - 2 : Nat) : Int) from by omega]
                  refine HPP.out.mono ?_
                  rintro e w2 ⟨rfl, hb3, hf3⟩
                  have HB3 := Lib.hid hb3
                  have hF3 := hF2.trans hf3
                  clear hb3 hf3 hF2 hc
                  go_wp2_with fail
                  go_roundg q2
                  case measure => omega
                  case rel => exact ⟨j + 1, by have := HJ.out; omega, by go_num, Lib.hid (by rw [HST2.out]; exact HB3.out), hF3⟩
                · have HST2 : Hid ((cs.take (j + 1)).foldl (adjIn y) M1 = M2) := Lib.hid (by rw [hst]; unfold adjIn; rw [if_neg (fun e => he e.2)])
                  have hb : (M2 y x == -1) = false := beq_eq_false_iff_ne.2 he
                  rw [hb] at HE
                  generalize M2 y x = u at *
                  clear hst hco hco2 he hb
                  go_wp2_with fail
                  refine HG.out.mono ?_
                  rintro e w1 ⟨rfl, rfl⟩
                  go_wp2_with fail
                  refine HE.out.mono ?_
                  rintro e w1 ⟨rfl, rfl⟩
                  go_wp2_with fail
                  go_roundg q2
                  case measure => omega
                  case rel => exact ⟨j + 1, by have := HJ.out; omega, by go_num, Lib.hid (by rw [HST2.out]; exact HB2.out), hF2⟩
              · have hcz : ¬ (0 ≤ c) := hcn2
                have HST2 : Hid ((cs.take (j + 1)).foldl (adjIn y) M1 = M2) := Lib.hid (by rw [hst]; unfold adjIn; rw [if_neg (fun e => hcn2 e.1)])
                clear hst hco
                go_wp2_with fail
                go_roundg q2
                case measure => omega
                case rel => exact ⟨j + 1, by have := HJ.out; omega, by go_num, Lib.hid (by rw [HST2.out]; exact HB2.out), hF2⟩
        · have HST : Hid ((cs.take (i + 1)).foldl (adjOut cs) M = M1) := Lib.hid (by rw [hst]; unfold adjOut; rw [if_neg hcn])
          clear hst hco
          go_wp2_with fail
          go_roundg q
          case measure => omega
          case rel => exact ⟨i + 1, by have := HI.out; omega, by go_num, Lib.hid (by rw [HST.out]; exact HB1.out), hF⟩
/-- the fixed patterns of version v -/
def basicM (v : Nat) : Nat → Nat → Int := tim (17 + 4 * v - 16) (adjAll (adjOf v) (upd (sep6 (17 + 4 * v) (sq3 (17 + 4 * v) blank)) 8 (17 + 4 * v - 8) 1))
theorem VerAt.far {w w' : World} {lo hi p v r n : Nat} (h : VerAt w lo hi p v) (hf : Fr (Rw r n) w w') (hr : hi ≤ r + 1) : VerAt w' lo hi p v := h.fr hf (fun i _ h2 e => by have := e.1; omega)
set_option maxHeartbeats 3200000 in
theorem basic_calls {w : World} {lo hi p v m r : Nat} (hv : VerAt w lo hi p v) (h : BM w m r (17 + 4 * v) blank) (hr : hi ≤ r + 1) :
    Calls Tryz.prog 124 #[.pointer (some ⟨p, 0, none⟩), .pointer (some ⟨m, 0, none⟩)] w fun e w' => e = .returned .nilIface ∧ BM w' m r (17 + 4 * v) (basicM v) ∧ Fr (Rw r (17 + 4 * v)) w w' := by
  have hv1 := hv.v1
  have HV := Lib.hid hv
  have H := Lib.hid h
  clear h hv
  go_enter Tryz.func124, Tryz.ntmps124
  go_wp2_with fail
  refine (seps_calls H.out (by omega)).mono ?_
  rintro e w1 ⟨rfl, hb1, hf1⟩
  have HB1 := Lib.hid hb1
  have HF1 := Lib.hid hf1
  clear hb1 hf1
  go_wp2_with fail
  refine (darkDot_calls HB1.out (by omega) (by
    simp only [sep6, sq3, lai, hz0, vz0]
    rw [if_neg (by omega), if_neg (by omega), if_neg (by omega), if_neg (by omega), if_neg (by omega), if_neg (by omega), if_neg (by omega), if_neg (by omega), if_neg (by omega)]; unfold blank; decide)).mono ?_
  rintro e w2 ⟨rfl, hb1, hf1⟩
  have HB2 := Lib.hid hb1
  have HF2 := Lib.hid (HF1.out.trans hf1)
  clear hb1 hf1 HB1 HF1
  go_wp2_with fail
  refine (adj_calls' (HV.out.far HF2.out hr) HB2.out).mono ?_
  rintro e w3 ⟨rfl, hb1, hf1⟩
  have HB3 := Lib.hid hb1
  have HF3 := Lib.hid (HF2.out.trans hf1)
  clear hb1 hf1 HB2 HF2
  go_wp2_with fail
  refine (timing_calls HB3.out (by omega)).mono ?_
  rintro e w4 ⟨rfl, hb1, hf1⟩
  have HB4 := Lib.hid hb1
  have HF4 := Lib.hid (HF3.out.trans hf1)
  clear hb1 hf1 HB3 HF3
  go_wp2_with fail
  go_ret
  exact ⟨rfl, HB4.out, HF4.out⟩
theorem clearM_calls {w : World} {m r n : Nat} {M : Nat → Nat → Int} (h : BM w m r n M) : Calls Tryz.prog 123 #[.pointer (some ⟨m, 0, none⟩)] w fun e w' => e = .returned (.tuple #[]) ∧ BM w' m r n blank ∧ Fr (Rw r n) w w' := by
  have HC := Lib.hid (bmClear_calls h)
  clear h
  go_enter Tryz.func123, Tryz.ntmps123
  go_wp2_with fail
  refine HC.out.mono ?_
  rintro e w1 ⟨rfl, h1, h2⟩
  have H1 := Lib.hid h1
  clear h1
  go_wp2_with fail
  go_end0
  exact ⟨rfl, H1.out, h2⟩
end Go.Proofs.YtcekbhhpcmhicaaGreatDoor
