/- Versions: NewVersion, versionOf, and the methods that read a version. -/
import Derived.Test.YtcekbhhpcmhicaaGreatDoorProg
import Derived.BigQuiet
import Derived.BigRegion
import Derived.Deep.RegionHeld3
import Derived.Outline
import Derived.Test.YtcekbhhpcmhicaaGreatDoorB01
import Derived.Test.YtcekbhhpcmhicaaGreatDoorB03
set_option linter.unusedSimpArgs false
set_option linter.unusedVariables false
namespace Go.Proofs.YtcekbhhpcmhicaaGreatDoor
open Go Go.RowKit Go.Deep
set_option maxRecDepth 100000
theorem ecbCount_calls (a b : Value) (w : World) : Calls Tryz.prog 121 #[.agg #[a, b]] w fun e w' => e = .returned a ∧ w.alloc (.cells #[a, b] 211) = w' := by
  go_enter Tryz.func121, Tryz.ntmps121
  go_wp2
  go_ret
  exact ⟨rfl, rfl⟩
theorem ecbData_calls (a b : Value) (w : World) : Calls Tryz.prog 189 #[.agg #[a, b]] w fun e w' => e = .returned b ∧ w.alloc (.cells #[a, b] 211) = w' := by
  go_enter Tryz.func189, Tryz.ntmps189
  go_wp2
  go_ret
  exact ⟨rfl, rfl⟩
theorem ecPer_calls (g o : Nat) (v : Value) (w : World) (h : w.cell? ⟨g, o, none⟩ = some v) : Calls Tryz.prog 187 #[.pointer (some ⟨g, o, none⟩)] w fun e w' => e = .returned v ∧ w = w' := by
  go_enter Tryz.func187, Tryz.ntmps187
  go_wp2
  go_ret
  exact ⟨rfl, rfl⟩
theorem ecBlocks_calls (g o : Nat) (v : Value) (w : World) (h : w.cell? ⟨g, o + 1, none⟩ = some v) : Calls Tryz.prog 188 #[.pointer (some ⟨g, o, none⟩)] w fun e w' => e = .returned v ∧ w = w' := by
  go_enter Tryz.func188, Tryz.ntmps188
  go_wp2
  go_ret
  exact ⟨rfl, rfl⟩
theorem sumBl_snoc (ec : Nat) (l : List (Nat × Nat)) (b : Nat × Nat) : sumBl ec (l ++ [b]) = sumBl ec l + b.1 * (b.2 + ec) := by
  induction l with
  | nil => simp [sumBl]
  | cons c r ih => simp only [sumBl, List.cons_append, List.foldr_cons] at ih ⊢; omega
theorem cntBl_snoc (l : List (Nat × Nat)) (b : Nat × Nat) : cntBl (l ++ [b]) = cntBl l + b.1 := by
  induction l with
  | nil => simp [cntBl]
  | cons c r ih => simp only [cntBl, List.cons_append, List.foldr_cons] at ih ⊢; omega
theorem blCells_get : ∀ (l : List (Nat × Nat)) (j : Nat) (h : j < l.length), (blCells l)[2 * j]? = some (i64 l[j].1) ∧ (blCells l)[2 * j + 1]? = some (i64 l[j].2)
  | b :: r, 0, _ => by simp [blCells]
  | b :: r, j + 1, h => by
    have ih := blCells_get r j (by simpa using h)
    have e : blCells (b :: r) = i64 b.1 :: i64 b.2 :: blCells r := by simp [blCells]
    rw [e, show 2 * (j + 1) = 2 * j + 1 + 1 from by omega]
    simpa using ih
structure SmallBl (l : List (Nat × Nat)) : Prop where
  len : l.length ≤ 2
  small : ∀ b ∈ l, b.1 ≤ 100 ∧ b.2 ≤ 200
theorem SmallBl.sum {l : List (Nat × Nat)} (h : SmallBl l) {ec : Nat} (he : ec ≤ 30) (j : Nat) : sumBl ec (l.take j) ≤ 46000 := by
  have key : ∀ l : List (Nat × Nat), (∀ b ∈ l, b.1 ≤ 100 ∧ b.2 ≤ 200) → sumBl ec l ≤ 23000 * l.length := by
    intro l
    induction l with
    | nil => intro _; simp [sumBl]
    | cons b r ih =>
      intro hb
      have h1 := ih (fun c hc => hb c (List.mem_cons_of_mem _ hc))
      have h2 := hb b (List.mem_cons_self ..)
      simp only [sumBl, List.foldr_cons, List.length_cons] at h1 ⊢
      have : b.1 * (b.2 + ec) ≤ 100 * 230 := Nat.mul_le_mul h2.1 (by omega)
      omega
  have h1 := key (l.take j) (fun b hb => h.small b (List.mem_of_mem_take hb))
  have h2 := h.len
  have h3 : (l.take j).length ≤ l.length := List.length_take_le' ..
  omega

set_option maxHeartbeats 800000 in
theorem newVersion_calls {w : World} (v cb nc eb b0 ec0 : Nat) (l0 : List (Nat × Nat)) (hl : SmallBl l0) (hec : ec0 ≤ 30) (c0 : w.cell? ⟨eb, 0, none⟩ = some (i64 ec0)) (c1 : w.cell? ⟨eb, 1, none⟩ = some (sl b0 l0.length))
    (hb : Blk w b0 211 (blCells l0).toArray) :
    Calls Tryz.prog 151 #[i64 v, sl cb nc, sl eb 4] w fun e w' => ∃ p, e = .returned (.pointer (some ⟨p, 0, none⟩)) ∧ w.heap.size ≤ p ∧ p < w'.heap.size ∧ Blk w' p 141 #[i64 v, sl cb nc, sl eb 4, i64 (sumBl ec0 l0)] ∧ Fr Nil w w' := by
  have hlen := hl.len
  go_enter Tryz.func151, Tryz.ntmps151
  go_wp2_with (first
    | (go_at_call 187; refine (ecPer_calls _ _ _ _ c0).mono ?_; rintro e w1 ⟨rfl, rfl⟩)
    | (go_at_call 188; refine (ecBlocks_calls _ _ _ _ c1).mono ?_; rintro e w1 ⟨rfl, rfl⟩))
  go_loopg [7, 20] l0.length (fun r s7 s20 wr => ∃ j t : Nat, Hid (j + r = l0.length ∧ t = sumBl ec0 (l0.take j)) ∧ s20 = .int .i64 j ∧ s7 = .int .i64 t ∧ Fr Nil w wr)
  case atStart => exact ⟨0, 0, Lib.hid ⟨by omega, rfl⟩, rfl, rfl, Fr.refl _ _⟩
  case round =>
    obtain ⟨j, t, HJ, rfl, rfl, hfr⟩ := hrel
    cases gk with
    | zero =>
      have HT : Hid (t = sumBl ec0 l0) := by have h := HJ.out; rw [List.take_of_length_le (by omega)] at h; exact h.2
      have hj : ¬ (j : Int) < l0.length := by have := HJ.out; omega
      go_wp2
      go_ret
      refine ⟨wr.heap.size, rfl, hfr.size, by simp, ?_, hfr.alloc _⟩
      rw [← HT.out]
      exact Blk.new _ _ _
    | succ r =>
      have hj : j < l0.length := by have := HJ.out; omega
      have hjz : (j : Int) < l0.length := by omega
      have hbr := hb.fr hfr (fun e => e)
      obtain ⟨g1, g2⟩ := blCells_get l0 j hj
      have d0 : wr.cell? ⟨b0, j * 2, none⟩ = some (i64 l0[j].1) := by rw [hbr.cell, List.getElem?_toArray, Nat.mul_comm]; exact g1
      have d1 : wr.cell? ⟨b0, j * 2 + 1, none⟩ = some (i64 l0[j].2) := by rw [hbr.cell, List.getElem?_toArray, Nat.mul_comm]; exact g2
      have hsm := hl.small l0[j] (List.getElem_mem hj)
      have HS := Lib.hid (hl.sum hec (j + 1))
      have hs := hl.sum hec j
      have ht : t ≤ 46000 := by have := HJ.out; omega
      have hA : ∃ a, a = l0[j].1 := ⟨_, rfl⟩
      have hB : ∃ a, a = l0[j].2 := ⟨_, rfl⟩
      obtain ⟨a, ha⟩ := hA
      obtain ⟨b, hb'⟩ := hB
      rw [← ha] at d0 hsm
      rw [← hb'] at d1 hsm
      have HAB := Lib.hid (And.intro ha hb')
      clear ha hb' g1 g2 hs
      have e1 : IntKind.i64.wrap ((b : Int) + ec0) = (b : Int) + ec0 := IntWalk.i64_in _ (by omega)
      go_wp2_with fail
      have HM : Hid (t + a * (b + ec0) = sumBl ec0 (l0.take (j + 1)) ∧ t + a * (b + ec0) ≤ 46000) := by
        have e : sumBl ec0 (l0.take (j + 1)) = t + a * (b + ec0) := by
          rw [List.take_succ_eq_append_getElem hj, sumBl_snoc, HAB.out.1, HAB.out.2, HJ.out.2]
        exact ⟨e.symm, e ▸ HS.out⟩
      have e2 : IntKind.i64.wrap ((a : Int) * ((b : Int) + ec0)) = (a : Int) * ((b : Int) + ec0) := IntWalk.i64_in _ (by
        have h := HM.out.2
        have : (a : Int) * ((b : Int) + ec0) = ((a * (b + ec0) : Nat) : Int) := by push_cast; rfl
        omega)
      have e3 : IntKind.i64.wrap ((t : Int) + (a : Int) * ((b : Int) + ec0)) = (t : Int) + (a : Int) * ((b : Int) + ec0) := IntWalk.i64_in _ (by
        have h := HM.out.2
        have : (a : Int) * ((b : Int) + ec0) = ((a * (b + ec0) : Nat) : Int) := by push_cast; rfl
        omega)
      go_region_held3 (fun w' => w'.cell? ⟨wr.heap.size, 0, none⟩ = some (.int .i64 (a : Int)) ∧ w'.cell? ⟨wr.heap.size, 1, none⟩ = some (.int .i64 (b : Int)) ∧ Fr Nil w w')
        (first
          | exact ⟨by simp [go_sem, World.cell?_alloc_past], by simp [go_sem, World.cell?_alloc_past], (hfr.alloc _).drew⟩
          | exact ⟨by simp [go_sem, World.cell?_alloc_past], by simp [go_sem, World.cell?_alloc_past], ((hfr.alloc _).alloc _).drew⟩
          | exact ⟨by simp [go_sem, World.cell?_alloc_past], by simp [go_sem, World.cell?_alloc_past], (((hfr.alloc _).alloc _).alloc _).drew⟩)
        ((first
          | (go_at_call 121; refine (ecbCount_calls _ _ _).mono ?_; rintro e w1 ⟨rfl, rfl⟩)
          | (go_at_call 189; refine (ecbData_calls _ _ _).mono ?_; rintro e w1 ⟨rfl, rfl⟩)))
      go_wp2
      go_roundg r
      case measure => omega
      case rel =>
        exact ⟨j + 1, t + a * (b + ec0), Lib.hid ⟨by have := HJ.out; omega, HM.out.1⟩, by go_num, by go_num, (((hfr.alloc _).alloc _).alloc _).drew⟩
end Go.Proofs.YtcekbhhpcmhicaaGreatDoor
/- versionOf, run by the kernel's own reckoning: one theorem a version (printed by print/vers.py). -/
namespace Go.Proofs.YtcekbhhpcmhicaaGreatDoor
open Go Go.RowKit Go.Deep
set_option maxRecDepth 100000
abbrev VerTail (v : Nat) : Prop := ∀ (w : World) (R : Ending → World → Prop),
  (Calls Tryz.prog 151 #[i64 v, sl w.heap.size (cen v).length, sl (lay w (verBlocks v)).heap.size 4] ((lay w (verBlocks v)).alloc (.cells (verTop w v).toArray 201)) fun e w' => ∃ x, e = .returned x ∧ R (.returned x) w') →
  Calls Tryz.prog 107 #[i64 v] w R
theorem ver_tail_1 : VerTail 1 := fun w R hc => calls_by_tail (args := [i64 1]) Tryz.func107 rfl 812 (by kernel_rfl) 400 10 151 _ _ (by kernel_rfl) (fun v w'' => by kernel_rfl) hc
theorem ver_tail_2 : VerTail 2 := fun w R hc => calls_by_tail (args := [i64 2]) Tryz.func107 rfl 812 (by kernel_rfl) 400 10 151 _ _ (by kernel_rfl) (fun v w'' => by kernel_rfl) hc
theorem ver_tail_3 : VerTail 3 := fun w R hc => calls_by_tail (args := [i64 3]) Tryz.func107 rfl 812 (by kernel_rfl) 400 10 151 _ _ (by kernel_rfl) (fun v w'' => by kernel_rfl) hc
theorem ver_tail_4 : VerTail 4 := fun w R hc => calls_by_tail (args := [i64 4]) Tryz.func107 rfl 812 (by kernel_rfl) 400 10 151 _ _ (by kernel_rfl) (fun v w'' => by kernel_rfl) hc
theorem ver_tail_5 : VerTail 5 := fun w R hc => calls_by_tail (args := [i64 5]) Tryz.func107 rfl 812 (by kernel_rfl) 400 10 151 _ _ (by kernel_rfl) (fun v w'' => by kernel_rfl) hc
theorem ver_tail_6 : VerTail 6 := fun w R hc => calls_by_tail (args := [i64 6]) Tryz.func107 rfl 812 (by kernel_rfl) 400 10 151 _ _ (by kernel_rfl) (fun v w'' => by kernel_rfl) hc
theorem ver_tail_7 : VerTail 7 := fun w R hc => calls_by_tail (args := [i64 7]) Tryz.func107 rfl 812 (by kernel_rfl) 400 10 151 _ _ (by kernel_rfl) (fun v w'' => by kernel_rfl) hc
theorem ver_tail_8 : VerTail 8 := fun w R hc => calls_by_tail (args := [i64 8]) Tryz.func107 rfl 812 (by kernel_rfl) 400 10 151 _ _ (by kernel_rfl) (fun v w'' => by kernel_rfl) hc
theorem ver_tail_9 : VerTail 9 := fun w R hc => calls_by_tail (args := [i64 9]) Tryz.func107 rfl 812 (by kernel_rfl) 400 10 151 _ _ (by kernel_rfl) (fun v w'' => by kernel_rfl) hc
theorem ver_tail_10 : VerTail 10 := fun w R hc => calls_by_tail (args := [i64 10]) Tryz.func107 rfl 812 (by kernel_rfl) 400 10 151 _ _ (by kernel_rfl) (fun v w'' => by kernel_rfl) hc
theorem ver_tail_11 : VerTail 11 := fun w R hc => calls_by_tail (args := [i64 11]) Tryz.func107 rfl 812 (by kernel_rfl) 400 10 151 _ _ (by kernel_rfl) (fun v w'' => by kernel_rfl) hc
theorem ver_tail_12 : VerTail 12 := fun w R hc => calls_by_tail (args := [i64 12]) Tryz.func107 rfl 812 (by kernel_rfl) 400 10 151 _ _ (by kernel_rfl) (fun v w'' => by kernel_rfl) hc
theorem ver_tail_13 : VerTail 13 := fun w R hc => calls_by_tail (args := [i64 13]) Tryz.func107 rfl 812 (by kernel_rfl) 400 10 151 _ _ (by kernel_rfl) (fun v w'' => by kernel_rfl) hc
theorem ver_tail_14 : VerTail 14 := fun w R hc => calls_by_tail (args := [i64 14]) Tryz.func107 rfl 812 (by kernel_rfl) 400 10 151 _ _ (by kernel_rfl) (fun v w'' => by kernel_rfl) hc
theorem ver_tail_15 : VerTail 15 := fun w R hc => calls_by_tail (args := [i64 15]) Tryz.func107 rfl 812 (by kernel_rfl) 400 10 151 _ _ (by kernel_rfl) (fun v w'' => by kernel_rfl) hc
theorem ver_tail_16 : VerTail 16 := fun w R hc => calls_by_tail (args := [i64 16]) Tryz.func107 rfl 812 (by kernel_rfl) 400 10 151 _ _ (by kernel_rfl) (fun v w'' => by kernel_rfl) hc
theorem ver_tail_17 : VerTail 17 := fun w R hc => calls_by_tail (args := [i64 17]) Tryz.func107 rfl 812 (by kernel_rfl) 400 10 151 _ _ (by kernel_rfl) (fun v w'' => by kernel_rfl) hc
theorem ver_tail_18 : VerTail 18 := fun w R hc => calls_by_tail (args := [i64 18]) Tryz.func107 rfl 812 (by kernel_rfl) 400 10 151 _ _ (by kernel_rfl) (fun v w'' => by kernel_rfl) hc
theorem ver_tail_19 : VerTail 19 := fun w R hc => calls_by_tail (args := [i64 19]) Tryz.func107 rfl 812 (by kernel_rfl) 400 10 151 _ _ (by kernel_rfl) (fun v w'' => by kernel_rfl) hc
theorem ver_tail_20 : VerTail 20 := fun w R hc => calls_by_tail (args := [i64 20]) Tryz.func107 rfl 812 (by kernel_rfl) 400 10 151 _ _ (by kernel_rfl) (fun v w'' => by kernel_rfl) hc
theorem ver_tail_21 : VerTail 21 := fun w R hc => calls_by_tail (args := [i64 21]) Tryz.func107 rfl 812 (by kernel_rfl) 400 10 151 _ _ (by kernel_rfl) (fun v w'' => by kernel_rfl) hc
theorem ver_tail_22 : VerTail 22 := fun w R hc => calls_by_tail (args := [i64 22]) Tryz.func107 rfl 812 (by kernel_rfl) 400 10 151 _ _ (by kernel_rfl) (fun v w'' => by kernel_rfl) hc
theorem ver_tail_23 : VerTail 23 := fun w R hc => calls_by_tail (args := [i64 23]) Tryz.func107 rfl 812 (by kernel_rfl) 400 10 151 _ _ (by kernel_rfl) (fun v w'' => by kernel_rfl) hc
theorem ver_tail_24 : VerTail 24 := fun w R hc => calls_by_tail (args := [i64 24]) Tryz.func107 rfl 812 (by kernel_rfl) 400 10 151 _ _ (by kernel_rfl) (fun v w'' => by kernel_rfl) hc
theorem ver_tail_25 : VerTail 25 := fun w R hc => calls_by_tail (args := [i64 25]) Tryz.func107 rfl 812 (by kernel_rfl) 400 10 151 _ _ (by kernel_rfl) (fun v w'' => by kernel_rfl) hc
theorem ver_tail_26 : VerTail 26 := fun w R hc => calls_by_tail (args := [i64 26]) Tryz.func107 rfl 812 (by kernel_rfl) 400 10 151 _ _ (by kernel_rfl) (fun v w'' => by kernel_rfl) hc
theorem ver_tail_27 : VerTail 27 := fun w R hc => calls_by_tail (args := [i64 27]) Tryz.func107 rfl 812 (by kernel_rfl) 400 10 151 _ _ (by kernel_rfl) (fun v w'' => by kernel_rfl) hc
theorem ver_tail_28 : VerTail 28 := fun w R hc => calls_by_tail (args := [i64 28]) Tryz.func107 rfl 812 (by kernel_rfl) 400 10 151 _ _ (by kernel_rfl) (fun v w'' => by kernel_rfl) hc
theorem ver_tail_29 : VerTail 29 := fun w R hc => calls_by_tail (args := [i64 29]) Tryz.func107 rfl 812 (by kernel_rfl) 400 10 151 _ _ (by kernel_rfl) (fun v w'' => by kernel_rfl) hc
theorem ver_tail_30 : VerTail 30 := fun w R hc => calls_by_tail (args := [i64 30]) Tryz.func107 rfl 812 (by kernel_rfl) 400 10 151 _ _ (by kernel_rfl) (fun v w'' => by kernel_rfl) hc
theorem ver_tail_31 : VerTail 31 := fun w R hc => calls_by_tail (args := [i64 31]) Tryz.func107 rfl 812 (by kernel_rfl) 400 10 151 _ _ (by kernel_rfl) (fun v w'' => by kernel_rfl) hc
theorem ver_tail_32 : VerTail 32 := fun w R hc => calls_by_tail (args := [i64 32]) Tryz.func107 rfl 812 (by kernel_rfl) 400 10 151 _ _ (by kernel_rfl) (fun v w'' => by kernel_rfl) hc
theorem ver_tail_33 : VerTail 33 := fun w R hc => calls_by_tail (args := [i64 33]) Tryz.func107 rfl 812 (by kernel_rfl) 400 10 151 _ _ (by kernel_rfl) (fun v w'' => by kernel_rfl) hc
theorem ver_tail_34 : VerTail 34 := fun w R hc => calls_by_tail (args := [i64 34]) Tryz.func107 rfl 812 (by kernel_rfl) 400 10 151 _ _ (by kernel_rfl) (fun v w'' => by kernel_rfl) hc
theorem ver_tail_35 : VerTail 35 := fun w R hc => calls_by_tail (args := [i64 35]) Tryz.func107 rfl 812 (by kernel_rfl) 400 10 151 _ _ (by kernel_rfl) (fun v w'' => by kernel_rfl) hc
theorem ver_tail_36 : VerTail 36 := fun w R hc => calls_by_tail (args := [i64 36]) Tryz.func107 rfl 812 (by kernel_rfl) 400 10 151 _ _ (by kernel_rfl) (fun v w'' => by kernel_rfl) hc
theorem ver_tail_37 : VerTail 37 := fun w R hc => calls_by_tail (args := [i64 37]) Tryz.func107 rfl 812 (by kernel_rfl) 400 10 151 _ _ (by kernel_rfl) (fun v w'' => by kernel_rfl) hc
theorem ver_tail_38 : VerTail 38 := fun w R hc => calls_by_tail (args := [i64 38]) Tryz.func107 rfl 812 (by kernel_rfl) 400 10 151 _ _ (by kernel_rfl) (fun v w'' => by kernel_rfl) hc
theorem ver_tail_39 : VerTail 39 := fun w R hc => calls_by_tail (args := [i64 39]) Tryz.func107 rfl 812 (by kernel_rfl) 400 10 151 _ _ (by kernel_rfl) (fun v w'' => by kernel_rfl) hc
theorem ver_tail_40 : VerTail 40 := fun w R hc => calls_by_tail (args := [i64 40]) Tryz.func107 rfl 812 (by kernel_rfl) 400 10 151 _ _ (by kernel_rfl) (fun v w'' => by kernel_rfl) hc
theorem ver_tail : ∀ v : Nat, 1 ≤ v → v ≤ 40 → VerTail v
  | 0, h, _ => absurd h (by omega)
  | 1, _, _ => ver_tail_1
  | 2, _, _ => ver_tail_2
  | 3, _, _ => ver_tail_3
  | 4, _, _ => ver_tail_4
  | 5, _, _ => ver_tail_5
  | 6, _, _ => ver_tail_6
  | 7, _, _ => ver_tail_7
  | 8, _, _ => ver_tail_8
  | 9, _, _ => ver_tail_9
  | 10, _, _ => ver_tail_10
  | 11, _, _ => ver_tail_11
  | 12, _, _ => ver_tail_12
  | 13, _, _ => ver_tail_13
  | 14, _, _ => ver_tail_14
  | 15, _, _ => ver_tail_15
  | 16, _, _ => ver_tail_16
  | 17, _, _ => ver_tail_17
  | 18, _, _ => ver_tail_18
  | 19, _, _ => ver_tail_19
  | 20, _, _ => ver_tail_20
  | 21, _, _ => ver_tail_21
  | 22, _, _ => ver_tail_22
  | 23, _, _ => ver_tail_23
  | 24, _, _ => ver_tail_24
  | 25, _, _ => ver_tail_25
  | 26, _, _ => ver_tail_26
  | 27, _, _ => ver_tail_27
  | 28, _, _ => ver_tail_28
  | 29, _, _ => ver_tail_29
  | 30, _, _ => ver_tail_30
  | 31, _, _ => ver_tail_31
  | 32, _, _ => ver_tail_32
  | 33, _, _ => ver_tail_33
  | 34, _, _ => ver_tail_34
  | 35, _, _ => ver_tail_35
  | 36, _, _ => ver_tail_36
  | 37, _, _ => ver_tail_37
  | 38, _, _ => ver_tail_38
  | 39, _, _ => ver_tail_39
  | 40, _, _ => ver_tail_40
  | n + 41, _, h => absurd h (by omega)
end Go.Proofs.YtcekbhhpcmhicaaGreatDoor
/- Versions: versionOf whole; the methods that read a version. -/
namespace Go.Proofs.YtcekbhhpcmhicaaGreatDoor
open Go Go.RowKit Go.Deep
set_option maxRecDepth 100000
theorem all40 {p : Nat → Bool} (h : (List.range 40).all (fun k => p (k + 1)) = true) {v : Nat} (h1 : 1 ≤ v) (h2 : v ≤ 40) : p v = true := by
  have := List.all_eq_true.1 h (v - 1) (List.mem_range.2 (by omega))
  simpa [show v - 1 + 1 = v from by omega] using this
theorem ver_small {v : Nat} (h1 : 1 ≤ v) (h2 : v ≤ 40) (l : Nat) : SmallBl (blOf v l) ∧ ecOf v l ≤ 30 := by
  have h := all40 (p := fun v => (verData v).2.all fun e => decide (e.1 ≤ 30) && decide (e.2.length ≤ 2) && e.2.all fun b => decide (b.1 ≤ 100) && decide (b.2 ≤ 200)) (by decide +kernel) h1 h2
  have hall := List.all_eq_true.1 h
  unfold blOf ecOf
  rw [List.getD_eq_getElem?_getD]
  by_cases hl : l < (verData v).2.length
  · rw [List.getElem?_eq_getElem hl]
    have hx := hall _ (List.getElem_mem hl)
    simp only [Bool.and_eq_true, decide_eq_true_eq, List.all_eq_true] at hx
    exact ⟨⟨hx.1.2, fun b hb => hx.2 b hb⟩, hx.1.1⟩
  · rw [List.getElem?_eq_none (by omega)]
    exact ⟨⟨by simp, fun b hb => by cases hb⟩, by simp⟩
theorem ver_four {v : Nat} (h1 : 1 ≤ v) (h2 : v ≤ 40) : ∃ a b c d, (verData v).2 = [a, b, c, d] := by
  have := verData_four h1 h2
  match h : (verData v).2, this with
  | [a, b, c, d], _ => exact ⟨a, b, c, d, rfl⟩
theorem versionOf_calls (v : Nat) (h1 : 1 ≤ v) (h2 : v ≤ 40) (w : World) :
    Calls Tryz.prog 107 #[i64 v] w fun e w' => ∃ p, e = .returned (.pointer (some ⟨p, 0, none⟩)) ∧ VerAt w' w.heap.size w'.heap.size p v ∧ Fr Nil w w' := by
  refine ver_tail v h1 h2 w _ ?_
  obtain ⟨a, b, c, d, hd⟩ := ver_four h1 h2
  have hS : (lay w (verBlocks v)).heap.size = w.heap.size + 5 := by rw [lay_size]; simp [verBlocks, hd]
  have hbl : ∀ l, l < 4 → (verBlocks v)[l + 1]? = some (211, blCells (blOf v l)) := by
    intro l hl
    unfold blOf
    rw [hd]
    match l, hl with
    | 0, _ | 1, _ | 2, _ | 3, _ => simp [verBlocks, hd]
  have htake : ∀ i, i < 4 → (lay w ((verBlocks v).take (i + 1))).heap.size = w.heap.size + (i + 1) := by
    intro i hi
    rw [lay_size, List.length_take]
    have : (verBlocks v).length = 5 := by simp [verBlocks, hd]
    omega
  have htop : verTop w v = [i64 (ecOf v 0), sl (w.heap.size + 1) (blOf v 0).length, i64 (ecOf v 1), sl (w.heap.size + 2) (blOf v 1).length, i64 (ecOf v 2), sl (w.heap.size + 3) (blOf v 2).length,
      i64 (ecOf v 3), sl (w.heap.size + 4) (blOf v 3).length] := by
    unfold verTop
    simp only [List.range_succ, List.range_zero, List.nil_append, List.cons_append, List.flatMap_cons, List.flatMap_nil]
    rw [htake 0 (by omega), htake 1 (by omega), htake 2 (by omega), htake 3 (by omega)]
  have hfr0 : Fr Nil w (lay w (verBlocks v)) := lay_fr _ _
  have hB : ∀ l, l < 4 → Blk ((lay w (verBlocks v)).alloc (.cells (verTop w v).toArray 201)) (w.heap.size + 1 + l) 211 (blCells (blOf v l)).toArray := fun l hl => by
    have := (lay_blk _ w (l + 1) _ _ (hbl l hl)).alloc (.cells (verTop w v).toArray 201)
    rwa [show w.heap.size + (l + 1) = w.heap.size + 1 + l from by omega] at this
  have hC : Blk ((lay w (verBlocks v)).alloc (.cells (verTop w v).toArray 201)) w.heap.size 3 ((cen v).map i64).toArray := (lay_blk _ w 0 3 ((cen v).map i64) (by simp [verBlocks])).alloc _
  have hT : Blk ((lay w (verBlocks v)).alloc (.cells (verTop w v).toArray 201)) (w.heap.size + 5) 201 (verTop w v).toArray := by rw [← hS]; exact Blk.new _ _ _
  obtain ⟨hsm, hec⟩ := ver_small h1 h2 0
  rw [hS]
  refine (newVersion_calls v w.heap.size (cen v).length (w.heap.size + 5) (w.heap.size + 1) (ecOf v 0) (blOf v 0) hsm hec ?_ ?_ (hB 0 (by omega))).mono ?_
  · rw [hT.cell, htop]; rfl
  · rw [hT.cell, htop]; rfl
  rintro e w' ⟨p, rfl, hp1, hp2, hst, hfr⟩
  have hsz : ((lay w (verBlocks v)).alloc (.cells (verTop w v).toArray 201)).heap.size = w.heap.size + 6 := by rw [nblk_alloc, hS]
  have hsz2 := hfr.size
  rw [hsz] at hp1 hsz2
  refine ⟨_, rfl, p, rfl, ⟨⟨w.heap.size, w.heap.size + 5, hst, hC.fr hfr (fun e => e), by omega, by omega, by omega, by omega, fun l => w.heap.size + 1 + l, ?_, fun l hl => ⟨(hB l hl).fr hfr (fun e => e), by show w.heap.size ≤ w.heap.size + 1 + l; omega, by show w.heap.size + 1 + l < _; omega⟩⟩, by omega, hp2, h1, h2⟩, (hfr0.alloc _).trans hfr⟩
  have hTf := hT.fr hfr (fun e => e)
  have hrow := hTf.row (f := fun i => if i % 2 = 0 then i64 (ecOf v (i / 2)) else sl (w.heap.size + 1 + i / 2) (blOf v (i / 2)).length) (fun i hi => by
    rw [htop] at hi ⊢
    simp at hi
    match i, hi with
    | 0, _ | 1, _ | 2, _ | 3, _ | 4, _ | 5, _ | 6, _ | 7, _ => rfl)
  rw [htop] at hrow
  exact hrow
/-- 'Version_GetVersionForNumber' of a version. -/
theorem getVersion_calls (v : Nat) (h1 : 1 ≤ v) (h2 : v ≤ 40) (w : World) :
    Calls Tryz.prog 49 #[i64 v] w fun e w' => ∃ p, e = .returned (.tuple #[.pointer (some ⟨p, 0, none⟩), .nilIface]) ∧ VerAt w' w.heap.size w'.heap.size p v ∧ Fr Nil w w' := by
  have a1 : ¬ (v : Int) < 1 := by omega
  have a2 : ¬ (40 : Int) < v := by omega
  go_enter Tryz.func49, Tryz.ntmps49
  go_wp2_with (go_at_call 107; refine (versionOf_calls v h1 h2 _).mono ?_; rintro e w1 ⟨p, rfl, hv, hf⟩)
  go_ret2
  exact ⟨p, rfl, hv, hf⟩
/-- the place of a level in the table -/
def lvIdx : Nat → Nat
  | 1 => 0
  | 0 => 1
  | 3 => 2
  | _ => 3
/-- an 'ECBlocks' at a place: level l of version v -/
def ECAt (w : World) (lo hi g o v l : Nat) : Prop := l < 4 ∧ 1 ≤ v ∧ v ≤ 40 ∧ w.cell? ⟨g, o, none⟩ = some (i64 (ecOf v l)) ∧ lo ≤ g ∧ g < hi ∧
  ∃ b, w.cell? ⟨g, o + 1, none⟩ = some (sl b (blOf v l).length) ∧ Blk w b 211 (blCells (blOf v l)).toArray ∧ lo ≤ b ∧ b < hi
theorem ECAt.fr {w w' : World} {F : Nat → Prop} {lo hi g o v l : Nat} (h : ECAt w lo hi g o v l) (hf : Fr F w w') (hF : ∀ i, lo ≤ i → i < hi → ¬ F i) : ECAt w' lo hi g o v l := by
  obtain ⟨a, b, c, d, e, f, bb, g1, g2, g3, g4⟩ := h
  exact ⟨a, b, c, hf.cell_some d (hF _ e f), e, f, bb, hf.cell_some g1 (hF _ e f), g2.fr hf (hF _ g3 g4), g3, g4⟩
theorem getEC_calls {w : World} {lo hi p v : Nat} (h : VerAt w lo hi p v) (lv : Nat) (hl : lv < 4) :
    Calls Tryz.prog 57 #[.pointer (some ⟨p, 0, none⟩), i64 lv] w fun e w' => ∃ g o, e = .returned (.pointer (some ⟨g, o, none⟩)) ∧ ECAt w lo hi g o v (lvIdx lv) ∧ w = w' := by
  obtain ⟨⟨cb, eb, h1, h2, a1, a2, a3, a4, bb, h3, h4⟩, b1, b2, b3, b4⟩ := h
  have key : ∀ l, l < 4 → ECAt w lo hi eb (l * 2) v l := by
    intro l hl
    have c0 := h3.cell (i := l * 2) (by omega)
    have c1 := h3.cell (i := l * 2 + 1) (by omega)
    rw [if_pos (by omega), show l * 2 / 2 = l from by omega] at c0
    rw [if_neg (by omega), show (l * 2 + 1) / 2 = l from by omega] at c1
    exact ⟨hl, b3, b4, c0, a3, a4, bb l, c1, (h4 l hl).1, (h4 l hl).2.1, (h4 l hl).2.2⟩
  have c2 : w.cell? ⟨p, 2, none⟩ = some (.slice (some ⟨eb, 0, none⟩) 4 4) := by simpa using h1.cell 2
  clear h1 h2 h3 h4
  match lv, hl with
  | 0, _ =>
    have HK := Lib.hid (key 1 (by omega))
    clear key
    go_enter Tryz.func57, Tryz.ntmps57
    go_wp2
    go_ret
    exact ⟨_, _, rfl, HK.out, rfl⟩
  | 1, _ =>
    have HK := Lib.hid (key 0 (by omega))
    clear key
    go_enter Tryz.func57, Tryz.ntmps57
    go_wp2
    go_ret
    exact ⟨_, _, rfl, HK.out, rfl⟩
  | 2, _ =>
    have HK := Lib.hid (key 3 (by omega))
    clear key
    go_enter Tryz.func57, Tryz.ntmps57
    go_wp2
    go_ret
    exact ⟨_, _, rfl, HK.out, rfl⟩
  | 3, _ =>
    have HK := Lib.hid (key 2 (by omega))
    clear key
    go_enter Tryz.func57, Tryz.ntmps57
    go_wp2
    go_ret
    exact ⟨_, _, rfl, HK.out, rfl⟩
end Go.Proofs.YtcekbhhpcmhicaaGreatDoor
/- Versions: the methods that read a version. -/
namespace Go.Proofs.YtcekbhhpcmhicaaGreatDoor
open Go Go.RowKit Go.Deep
set_option maxRecDepth 100000
theorem VerAt.c0 {w : World} {lo hi p v : Nat} (h : VerAt w lo hi p v) : w.cell? ⟨p, 0, none⟩ = some (i64 v) := by
  obtain ⟨⟨cb, eb, h1, _⟩, _⟩ := h
  simpa using h1.cell 0
theorem VerAt.c3 {w : World} {lo hi p v : Nat} (h : VerAt w lo hi p v) : w.cell? ⟨p, 3, none⟩ = some (i64 (tot v)) := by
  obtain ⟨⟨cb, eb, h1, _⟩, _⟩ := h
  simpa using h1.cell 3
theorem verNumber_calls {w : World} {lo hi p v : Nat} (h : VerAt w lo hi p v) : Calls Tryz.prog 18 #[.pointer (some ⟨p, 0, none⟩)] w fun e w' => e = .returned (i64 v) ∧ w = w' := by
  have c := h.c0
  go_enter Tryz.func18, Tryz.ntmps18
  go_wp2
  go_ret
  exact ⟨rfl, rfl⟩
theorem verTotal_calls {w : World} {lo hi p v : Nat} (h : VerAt w lo hi p v) : Calls Tryz.prog 58 #[.pointer (some ⟨p, 0, none⟩)] w fun e w' => e = .returned (i64 (tot v)) ∧ w = w' := by
  have c := h.c3
  go_enter Tryz.func58, Tryz.ntmps58
  go_wp2
  go_ret
  exact ⟨rfl, rfl⟩
theorem verDim_calls {w : World} {lo hi p v : Nat} (h : VerAt w lo hi p v) : Calls Tryz.prog 67 #[.pointer (some ⟨p, 0, none⟩)] w fun e w' => e = .returned (i64 (17 + 4 * v)) ∧ w = w' := by
  have c := h.c0
  have hv := h.v2
  go_enter Tryz.func67, Tryz.ntmps67
  go_wp2
  go_ret
  exact ⟨by show Ending.returned (Value.int _ _) = _; congr 2, rfl⟩
theorem SmallBl.cnt {l : List (Nat × Nat)} (h : SmallBl l) (j : Nat) : cntBl (l.take j) ≤ 200 := by
  have key : ∀ l : List (Nat × Nat), (∀ b ∈ l, b.1 ≤ 100 ∧ b.2 ≤ 200) → cntBl l ≤ 100 * l.length := by
    intro l
    induction l with
    | nil => intro _; simp [cntBl]
    | cons b r ih =>
      intro hb
      have h1 := ih (fun c hc => hb c (List.mem_cons_of_mem _ hc))
      have h2 := hb b (List.mem_cons_self ..)
      simp only [cntBl, List.foldr_cons, List.length_cons] at h1 ⊢
      omega
  have h1 := key (l.take j) (fun b hb => h.small b (List.mem_of_mem_take hb))
  have h2 := h.len
  have h3 : (l.take j).length ≤ l.length := List.length_take_le' ..
  omega
set_option maxHeartbeats 800000 in
theorem numBlocks_calls {w : World} {lo hi g o v l : Nat} (h : ECAt w lo hi g o v l) :
    Calls Tryz.prog 62 #[.pointer (some ⟨g, o, none⟩)] w fun e w' => e = .returned (i64 (cntBl (blOf v l))) ∧ Fr Nil w w' := by
  obtain ⟨hl4, hv1, hv2, c0, _, _, b, c1, hb, _, _⟩ := h
  have hl := (ver_small hv1 hv2 l).1
  generalize blOf v l = l0 at *
  have hlen := hl.len
  go_enter Tryz.func62, Tryz.ntmps62
  go_wp2_with fail
  go_loopg [3, 11] l0.length (fun r s3 s11 wr => ∃ j t : Nat, Hid (j + r = l0.length ∧ t = cntBl (l0.take j)) ∧ s11 = .int .i64 j ∧ s3 = .int .i64 t ∧ Fr Nil w wr)
  case atStart => exact ⟨0, 0, Lib.hid ⟨by omega, rfl⟩, rfl, rfl, Fr.refl _ _⟩
  case round =>
    obtain ⟨j, t, HJ, rfl, rfl, hfr⟩ := hrel
    cases gk with
    | zero =>
      have HT : Hid (t = cntBl l0) := by have h := HJ.out; rw [List.take_of_length_le (by omega)] at h; exact h.2
      have hj : ¬ (j : Int) < l0.length := by have := HJ.out; omega
      go_wp2
      go_ret
      exact ⟨by rw [← HT.out]; rfl, hfr⟩
    | succ r =>
      have hj : j < l0.length := by have := HJ.out; omega
      have hjz : (j : Int) < l0.length := by omega
      have hbr := hb.fr hfr (fun e => e)
      obtain ⟨g1, g2⟩ := blCells_get l0 j hj
      have d0 : wr.cell? ⟨b, j * 2, none⟩ = some (i64 l0[j].1) := by rw [hbr.cell, List.getElem?_toArray, Nat.mul_comm]; exact g1
      have d1 : wr.cell? ⟨b, j * 2 + 1, none⟩ = some (i64 l0[j].2) := by rw [hbr.cell, List.getElem?_toArray, Nat.mul_comm]; exact g2
      have hsm := hl.small l0[j] (List.getElem_mem hj)
      have ht : t ≤ 200 := by have := hl.cnt j; have := HJ.out; omega
      obtain ⟨x, hx⟩ : ∃ a, a = l0[j].1 := ⟨_, rfl⟩
      obtain ⟨y, hy⟩ : ∃ a, a = l0[j].2 := ⟨_, rfl⟩
      rw [← hx] at d0 hsm
      rw [← hy] at d1 hsm
      have HAB := Lib.hid hx
      clear hx hy g1 g2
      go_wp2_with (go_at_call 121; refine (ecbCount_calls _ _ _).mono ?_; rintro e w1 ⟨rfl, rfl⟩)
      go_roundg r
      case measure => omega
      case rel =>
        refine ⟨j + 1, t + x, Lib.hid ⟨by have := HJ.out; omega, ?_⟩, by go_num, by go_num, (hfr.alloc _).alloc _⟩
        rw [List.take_succ_eq_append_getElem hj, cntBl_snoc, ← HAB.out, ← HJ.out.2]
set_option maxHeartbeats 800000 in
theorem totalEC_calls {w : World} {lo hi g o v l : Nat} (h : ECAt w lo hi g o v l) :
    Calls Tryz.prog 59 #[.pointer (some ⟨g, o, none⟩)] w fun e w' => e = .returned (i64 (ecOf v l * cntBl (blOf v l))) ∧ Fr Nil w w' := by
  have hcopy := h
  obtain ⟨hl4, hv1, hv2, c0, _, _⟩ := hcopy
  obtain ⟨hsm, hec⟩ := ver_small hv1 hv2 l
  have hcnt : cntBl (blOf v l) ≤ 200 := by have := hsm.cnt (blOf v l).length; rwa [List.take_length] at this
  have HN := Lib.hid (fun (w' : World) (hf : Fr Nil w w') => numBlocks_calls (h.fr hf (fun _ _ _ e => e)))
  clear hsm h
  generalize hA : ecOf v l = A at *
  generalize hB : cntBl (blOf v l) = B at *
  have e1 : IntKind.i64.wrap ((A : Int) * (B : Int)) = (A : Int) * (B : Int) := IntWalk.i64_in _ (by
    have : A * B ≤ 30 * 200 := Nat.mul_le_mul hec hcnt
    have : (A : Int) * (B : Int) = ((A * B : Nat) : Int) := by push_cast; rfl
    omega)
  clear hA hB
  go_enter Tryz.func59, Tryz.ntmps59
  go_wp2_with fail
  go_region_held3 (fun w' => w'.cell? ⟨g, o, none⟩ = some (.int .i64 (A : Int)) ∧ Fr Nil w w')
    (first
      | exact ⟨by simpa [go_sem] using c0, (Fr.refl _ _).drew⟩
      | exact ⟨by first | exact hfa.cell_some c0 (fun e => e) | simpa [go_sem] using hfa.cell_some c0 (fun e => e), hfa⟩)
    ((first
      | (go_at_call 62; refine (HN.out _ (by first | exact (Fr.refl _ _).drew | exact (Fr.refl _ _))).mono ?_; rintro e w1 ⟨rfl, hf⟩; have hfa : Fr Nil w w1 := hf.from_drew)))
  all_goals
    go_wp2
    go_ret
    exact ⟨rfl, hfa⟩
end Go.Proofs.YtcekbhhpcmhicaaGreatDoor
