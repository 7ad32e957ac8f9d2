/- NewGenericGF: the field is made. -/
import Derived.Test.YtcekbhhpcmhicaaGreatDoorB09
import Derived.Test.YtcekbhhpcmhicaaGreatDoorB06
set_option linter.unusedSimpArgs false
set_option linter.unusedVariables false
namespace Go.Proofs.YtcekbhhpcmhicaaGreatDoor
open Go Go.RowKit Go.Deep
set_option maxRecDepth 100000
theorem gx_next {i : Nat} (h : i < 256) : gexp ((i + 1) % 255) = if 2 * gexp (i % 255) ≥ 256 then (2 * gexp (i % 255) ^^^ 285) &&& 255 else 2 * gexp (i % 255) := by
  have := all_lt (p := fun i => decide (gexp ((i + 1) % 255) = if 2 * gexp (i % 255) ≥ 256 then (2 * gexp (i % 255) ^^^ 285) &&& 255 else 2 * gexp (i % 255))) (n := 256) (by decide +kernel) h
  simpa using this
theorem gx_at {i : Nat} (h : i < 256) : gexp (i % 255) = gexp i := by
  have := all_lt (p := fun i => decide (gexp (i % 255) = gexp i)) (n := 256) (by decide +kernel) h
  simpa using this
theorem glog_zero : glog 0 = 0 := by decide
/-- the table of logarithms after i rounds -/
def lgAt (i x : Nat) : Nat := if glog x < i ∧ x ≠ 0 then glog x else 0
theorem lgAt_zero (x : Nat) : lgAt 0 x = 0 := by simp [lgAt]
theorem lgAt_end {x : Nat} (h : x < 256) : lgAt 255 x = glog x := by
  unfold lgAt
  by_cases h0 : x = 0
  · subst h0; simp [glog_zero]
  · rw [if_pos ⟨glog_lt h, h0⟩]
theorem lgAt_succ {i x : Nat} (hi : i < 255) (hx : x < 256) : lgAt (i + 1) x = if x = gexp i then i else lgAt i x := by
  unfold lgAt
  by_cases h : x = gexp i
  · have hp := gexp_pos (i := i) (by omega)
    rw [if_pos h, h, glog_gexp hi, if_pos ⟨by omega, by omega⟩]
  · rw [if_neg h]
    by_cases h0 : x = 0
    · subst h0; simp
    · have h1 : glog x ≠ i := fun e => h (by rw [← e, gexp_glog (by omega) hx])
      by_cases h2 : glog x < i
      · rw [if_pos ⟨by omega, h0⟩, if_pos ⟨h2, h0⟩]
      · rw [if_neg (fun e => by omega), if_neg (fun e => by omega)]
theorem Tryz.und138 : Tryz.prog.underlying 138 = some (.slice 3) := by kernel_rfl
theorem Tryz.inf3 : (Tryz.prog.info? 3).map (fun i => (i.zero, i.size, i.bytes)) = some (some (.int .i64 0), 1, 8) := by kernel_rfl
theorem mkInts (n : Nat) (h : n ≤ 1000000) (w : World) : (Instr.makeSlice 138 (.int .i64 (n : Int)) (.int .i64 (n : Int))).run Tryz.prog w = .ok (.slice (some ⟨w.heap.size, 0, none⟩) n n) (w.alloc (.cells (madeCells #[.int .i64 0] n) 3)) :=
  run_make_row' (P := Tryz.prog) 138 3 (.int .i64 0) 8 Tryz.und138 Tryz.inf3 rfl .i64 .i64 n (by omega) (by omega) w
theorem one_cell_row (w : World) (v : Value) (t : TypeId) : (w.alloc (.cells #[v] t)).rowIs w.heap.size t 1 (fun _ => v) := World.rowIs_alloc w #[v] t (fun _ => v) (fun i hi => by
  have hi0 : i = 0 := by simpa using hi
  rw [hi0]; rfl)
theorem coAt_one {w : World} {lo b N : Nat} (v : Nat) (h : w.rowIs b 3 N (fun _ => i64 v)) (hN : 1 ≤ N) (hlo : lo ≤ b) : CoAt w lo b 0 1 [v] :=
  ⟨⟨N, _, h, fun i hi => by
    have hi0 : i = 0 := by simpa using hi
    rw [hi0]; rfl, by simpa using hN⟩, by simp, hlo⟩
theorem norm_one (v : Nat) : norm [v] = [v] := by simp [norm]
set_option maxHeartbeats 1600000 in
theorem newGF_calls (w : World) :
    Calls Tryz.prog 130 #[.int .i64 285, .int .i64 256, .int .i64 0] w fun e w' => e = .returned (.pointer (some ⟨w.heap.size, 0, none⟩)) ∧ GFAt w' w.heap.size w.heap.size ∧ Fr Nil w w' := by
  have hfr := Fr.refl Nil w
  have hmk : ∀ w, (Instr.makeSlice 138 (.int .i64 256) (.int .i64 256)).run Tryz.prog w = .ok (.slice (some ⟨w.heap.size, 0, none⟩) 256 256) (w.alloc (.cells (madeCells #[.int .i64 0] 256) 3)) := mkInts 256 (by omega)
  have hand : ∀ k : Nat, k < 65536 → bits .and .i64 (k : Int) 255 = ((k &&& 255 : Nat) : Int) := fun k hk => by have := i64_and_nat k 255 (by omega) (by omega); simpa using this
  have hxor : ∀ k : Nat, k < 65536 → bits .xor .i64 (k : Int) 285 = ((k ^^^ 285 : Nat) : Int) := fun k hk => by have := i64_xor_nat k 285 (by omega) (by omega); simpa using this
  have HAND := Lib.hid hand
  have HXOR := Lib.hid hxor
  clear hand hxor
  have h0 := Blk.new w 277 #[.slice none 0 0, .slice none 0 0, .pointer none, .pointer none, i64 256, i64 285, i64 0]
  have h1 := World.rowIs_made (w.alloc (.cells #[.slice none 0 0, .slice none 0 0, .pointer none, .pointer none, i64 256, i64 285, i64 0] 277)) (.int .i64 0) 256 3
  have h2 := World.rowIs_made ((w.alloc (.cells #[.slice none 0 0, .slice none 0 0, .pointer none, .pointer none, i64 256, i64 285, i64 0] 277)).alloc (.cells (madeCells #[.int .i64 0] 256) 3)) (.int .i64 0) 256 3
  simp only [nblk_alloc] at h1 h2
  have H012 := Lib.hid (show _ ∧ _ ∧ _ ∧ _ from ⟨(h0.alloc (.cells (madeCells #[.int .i64 0] 256) 3)).alloc (.cells (madeCells #[.int .i64 0] 256) 3), h1.alloc (.cells (madeCells #[.int .i64 0] 256) 3), h2, (((hfr.alloc (.cells #[.slice none 0 0, .slice none 0 0, .pointer none, .pointer none, i64 256, i64 285, i64 0] 277)).alloc (.cells (madeCells #[.int .i64 0] 256) 3)).alloc (.cells (madeCells #[.int .i64 0] 256) 3))⟩)
  clear h0 h1 h2
  obtain ⟨f, hf⟩ : ∃ f, w.heap.size = f := ⟨_, rfl⟩
  go_enter Tryz.func130, Tryz.ntmps130
  go_wp2_with fail
  go_loopg [10, 11] 256 (fun r s10 s11 wr => ∃ i : Nat, i + r = 256 ∧ s11 = .int .i64 i ∧ s10 = .int .i64 (gexp (i % 255)) ∧ Blk wr f 277 #[.slice none 0 0, .slice none 0 0, .pointer none, .pointer none, i64 256, i64 285, i64 0] ∧
    wr.rowIs (f + 1) 3 256 (fun j => if j < i then i64 (gexp j) else i64 0) ∧ wr.rowIs (f + 2) 3 256 (fun _ => i64 0) ∧ Fr Nil w wr ∧ wr.heap.size = f + 3)
  case atStart =>
    refine ⟨0, rfl, rfl, rfl, ?_, ?_, ?_, ?_, by simp [hf]⟩
    · have := H012.out.1; rwa [hf] at this
    · have := H012.out.2.1; rw [hf] at this; exact this.congr (fun i _ => by simp)
    · have := H012.out.2.2.1; rwa [hf] at this
    · exact H012.out.2.2.2
  case round =>
    obtain ⟨i, hi, rfl, rfl, B0, B1, B2, hF, hsz⟩ := hrel
    clear H012
    cases gk with
    | succ r =>
      have hz : (i : Int) < 256 := by omega
      have hi2 : i < 256 := by omega
      have hx := gexp_lt (i := i % 255) (by omega)
      have hnx := Lib.hid (gx_next hi2)
      have hstep : (wr.setCell ⟨f + 1, i, none⟩ (i64 (gexp (i % 255)))).rowIs (f + 1) 3 256 (fun j => if j < i + 1 then i64 (gexp j) else i64 0) := (B1.set i _).congr (fun j hj => by
        by_cases hji : j = i
        · rw [if_pos hji, if_pos (by omega), hji, gx_at (by omega)]
        · rw [if_neg hji]
          by_cases hlt : j < i
          · rw [if_pos hlt, if_pos (by omega)]
          · rw [if_neg hlt, if_neg (by omega)])
      have hF2 : Fr Nil w (wr.setCell ⟨f + 1, i, none⟩ (i64 (gexp (i % 255)))) := hF.setNew (by omega) _ _
      have B02 := B0.far (p := ⟨f + 1, i, none⟩) (by simp) (i64 (gexp (i % 255)))
      have B22 := rowFr B2 (Fr.setCell (F := One (f + 1)) (Fr.refl _ _) (a := ⟨f + 1, i, none⟩) (.inl rfl) (i64 (gexp (i % 255)))) (fun e => by have : f + 2 = f + 1 := e; omega)
      have hc := B1.cell (i := i) hi2
      simp only [Nat.lt_irrefl, if_false] at hc
      have hfz := B1.frozen i
      have HB := Lib.hid (show _ ∧ _ ∧ _ ∧ _ from ⟨B02, hstep, B22, hF2⟩)
      clear hstep B02 B22 hF2 B0 B1 B2 hF
      generalize gexp (i % 255) = x at *
      by_cases hge : 2 * x ≥ 256
      · have hge' : (256 : Int) ≤ (x : Int) * 2 := by omega
        have e1 := HXOR.out (2 * x) (by omega)
        have hxl : 2 * x ^^^ 285 < 65536 := Nat.xor_lt_two_pow (n := 16) (by omega) (by omega)
        have e2 := HAND.out (2 * x ^^^ 285) hxl
        rw [show ((2 * x : Nat) : Int) = (x : Int) * 2 from by omega] at e1
        have hnx2 := hnx.out
        rw [if_pos hge] at hnx2
        rw [← hnx2] at e2
        have hlt2 := gexp_lt (i := (i + 1) % 255) (by omega)
        obtain ⟨y, hy⟩ : ∃ y, gexp ((i + 1) % 255) = y := ⟨_, rfl⟩
        rw [hy] at hnx2 hlt2
        have HN := Lib.hid hnx2
        have HY := Lib.hid hy
        rw [HY.out] at e2
        clear hnx hnx2 hy
        generalize 2 * x ^^^ 285 = z at *
        go_wp2
        go_roundg r
        case measure => omega
        case rel => exact ⟨i + 1, by omega, by go_num, by rw [HY.out], HB.out.1, HB.out.2.1, HB.out.2.2.1, HB.out.2.2.2, by simp [hsz]⟩
      · have hge' : ¬ (256 : Int) ≤ (x : Int) * 2 := by omega
        have hnx2 := hnx.out
        rw [if_neg hge] at hnx2
        have hlt2 := gexp_lt (i := (i + 1) % 255) (by omega)
        obtain ⟨y, hy⟩ : ∃ y, gexp ((i + 1) % 255) = y := ⟨_, rfl⟩
        rw [hy] at hnx2 hlt2
        have HN := Lib.hid hnx2
        have HY := Lib.hid hy
        clear hnx hnx2 hy
        go_wp2
        go_roundg r
        case measure => omega
        case rel => exact ⟨i + 1, by omega, by go_num, by rw [HY.out, show (x : Int) * 2 = (y : Int) from by have := HN.out; omega], HB.out.1, HB.out.2.1, HB.out.2.2.1, HB.out.2.2.2, by simp [hsz]⟩
    | zero =>
      have hi256 : i = 256 := by omega
      subst hi256
      have B1' := Lib.hid (B1.congr (g := fun j => i64 (gexp j)) (fun j hj => by rw [if_pos hj]))
      have HB0 := Lib.hid B0
      have B2' := Lib.hid B2
      clear B0 B1 B2
      go_wp2_with fail
      go_loopg [12] 255 (fun r s12 wq => ∃ i : Nat, i + r = 255 ∧ s12 = .int .i64 i ∧ Blk wq f 277 #[.slice none 0 0, .slice none 0 0, .pointer none, .pointer none, i64 256, i64 285, i64 0] ∧
        wq.rowIs (f + 1) 3 256 (fun j => i64 (gexp j)) ∧ wq.rowIs (f + 2) 3 256 (fun j => i64 (lgAt i j)) ∧ Fr Nil w wq ∧ wq.heap.size = f + 3)
      case atStart => exact ⟨0, rfl, rfl, HB0.out, B1'.out, B2'.out.congr (fun j _ => by rw [lgAt_zero]), hF, hsz⟩
      case round =>
        obtain ⟨i, hi, rfl, B0, B1, B2, hF2, hsz2⟩ := hrel
        clear B1' B2' HB0 hF hsz
        cases gk with
        | succ r =>
          have hz : (i : Int) < 255 := by omega
          have hx := gexp_lt (i := i) (by omega)
          have hc := B1.cell (i := i) (by omega)
          have hc2 := B2.cell (i := gexp i) hx
          have hfz := B2.frozen (gexp i)
          have HB := Lib.hid (show _ ∧ _ ∧ _ ∧ _ from ⟨B0.far (p := ⟨f + 2, gexp i, none⟩) (by simp) (i64 i),
            rowFr B1 (Fr.setCell (F := One (f + 2)) (Fr.refl _ _) (a := ⟨f + 2, gexp i, none⟩) (.inl rfl) (i64 i)) (fun e => by have : f + 1 = f + 2 := e; omega),
            (B2.set (gexp i) (i64 i)).congr (g := fun j => i64 (lgAt (i + 1) j)) (fun j hj => by
              rw [lgAt_succ (by omega) hj]
              by_cases hji : j = gexp i
              · rw [if_pos hji, if_pos hji]
              · rw [if_neg hji, if_neg hji]), hF2.setNew (g := f + 2) (by omega) (gexp i) (i64 i)⟩)
          clear B0 B1 B2 hF2
          generalize lgAt i (gexp i) = u at *
          generalize gexp i = x at *
          go_wp2
          go_roundg r
          case measure => omega
          case rel => exact ⟨i + 1, by omega, by go_num, HB.out.1, HB.out.2.1, HB.out.2.2.1, HB.out.2.2.2, by simp [hsz2]⟩
        | zero =>
          have hi255 : i = 255 := by omega
          subst hi255
          have B2' := Lib.hid (B2.congr (g := fun j => i64 (glog j)) (fun j hj => by rw [lgAt_end hj]))
          have c0 := B0.cell 0
          have c1 := B0.cell 1
          have z0 := B0.frozen 0
          have z1 := B0.frozen 1
          simp only [Nat.reduceAdd, List.getElem?_toArray, List.getElem?_cons_succ, List.getElem?_cons_zero] at c0 c1
          have hs1 := (B0.set_ 0 (sl (f + 1) 256)).set_ 1 (sl (f + 1 + 1) 256)
          have hfs : Fr (One f) wr ((wr.setCell ⟨f, 0, none⟩ (sl (f + 1) 256)).setCell ⟨f, 1, none⟩ (sl (f + 1 + 1) 256)) := ((Fr.refl _ _).set1 0 _).set1 1 _
          have hfw : Fr Nil w ((wr.setCell ⟨f, 0, none⟩ (sl (f + 1) 256)).setCell ⟨f, 1, none⟩ (sl (f + 1 + 1) 256)) := (hF2.setNew (g := f) (by omega) 0 _).setNew (g := f) (by omega) 1 _
          have hr1 := rowFr B1 hfs (fun e => by have : f + 1 = f := e; omega)
          have hr2 := rowFr B2'.out hfs (fun e => by have : f + 2 = f := e; omega)
          have hsz3 : ((wr.setCell ⟨f, 0, none⟩ (sl (f + 1) 256)).setCell ⟨f, 1, none⟩ (sl (f + 1 + 1) 256)).heap.size = f + 3 := by simp [hsz2]
          have HH := Lib.hid (show _ ∧ _ ∧ _ ∧ _ ∧ _ from ⟨hs1, hr1, hr2, hfw, hsz3⟩)
          clear hs1 hfs hfw hr1 hr2 hsz3 B0 B1 B2 B2' hF2
          go_wp2_with fail
          clear c0 c1 z0 z1 hmk
          obtain ⟨W1, hW1⟩ : ∃ W1, W1 = (wr.setCell ⟨f, 0, none⟩ (sl (f + 1) 256)).setCell ⟨f, 1, none⟩ (sl (f + 1 + 1) 256) := ⟨_, rfl⟩
          rw [← hW1] at HH ⊢
          clear hW1
          obtain ⟨A0, A1, A2, A3, A4⟩ := HH.out
          clear HH
          have hone := one_cell_row W1 (i64 0) 3
          rw [A4] at hone
          refine (newPoly_calls (lo := f) (f := f) (coAt_one 0 hone (by omega) (by omega)) (by simp) (by simp) (fun x hx => by simp at hx; omega) (by rw [nblk_alloc]; omega)).mono ?_
          rintro e w3 ⟨z, rfl, hP, hF3⟩
          rw [norm_one] at hP
          have hF4 : Fr Nil W1 w3 := ((Fr.refl _ _).alloc _).trans hF3
          have D0 := A0.fr hF4 (fun e => e)
          have D1 := rowFr A1 hF4 (fun e => e)
          have D2 := rowFr A2 hF4 (fun e => e)
          have D3 := A3.trans hF4
          have D4 := hF4.size
          clear A0 A1 A2 A3 hF3 hF4 hone
          have c2 := D0.cell 2
          have z2 := D0.frozen 2
          simp at c2
          have hs2 := D0.set_ 2 (.pointer (some ⟨z, 0, none⟩))
          have hfs2 : Fr (One f) w3 (w3.setCell ⟨f, 2, none⟩ (.pointer (some ⟨z, 0, none⟩))) := (Fr.refl _ _).set1 2 _
          have hne : f ≠ z := by
            obtain ⟨b, o, c, hb, _⟩ := hP.ex
            exact D0.ne_ hb (by decide)
          have hP2 := hP.fr hfs2 (fun e => hne e.symm) (fun b _ hb => by
            obtain ⟨N, G, hr⟩ := hb
            exact fun e => (D0.row_ne hr (by decide)) e.symm)
          have HH2 := Lib.hid (show _ ∧ _ ∧ _ ∧ _ ∧ _ ∧ _ from ⟨hs2, rowFr D1 hfs2 (fun e => by have : f + 1 = f := e; omega), rowFr D2 hfs2 (fun e => by have : f + 2 = f := e; omega), D3.setNew (g := f) (by omega) 2 (.pointer (some ⟨z, 0, none⟩)), hP2, show f + 3 ≤ (w3.setCell ⟨f, 2, none⟩ (.pointer (some ⟨z, 0, none⟩))).heap.size from by simp; omega⟩)
          clear hs2 hfs2 hP2 hP D0 D1 D2 D3 D4 hne
          go_wp2_with fail
          clear c2 z2
          obtain ⟨W2, hW2⟩ : ∃ W2, W2 = w3.setCell ⟨f, 2, none⟩ (.pointer (some ⟨z, 0, none⟩)) := ⟨_, rfl⟩
          have hs3 : W2.heap.size = w3.heap.size := by rw [hW2]; simp
          rw [← hW2] at HH2 ⊢
          rw [← hs3]
          clear hW2
          obtain ⟨A0, A1, A2, A3, A5, A4'⟩ := HH2.out
          clear HH2
          have hone := one_cell_row W2 (i64 1) 3
          refine (newPoly_calls (lo := f) (f := f) (coAt_one 1 hone (by omega) (by omega)) (by simp) (by simp) (fun x hx => by simp at hx; omega) (by rw [nblk_alloc]; omega)).mono ?_
          rintro e w4 ⟨o, rfl, hP, hF3⟩
          rw [norm_one] at hP
          have hF4 : Fr Nil W2 w4 := ((Fr.refl _ _).alloc _).trans hF3
          have D0 := A0.fr hF4 (fun e => e)
          have D1 := rowFr A1 hF4 (fun e => e)
          have D2 := rowFr A2 hF4 (fun e => e)
          have D3 := A3.trans hF4
          have D5 := A5.nil hF4
          have c2 := D0.cell 3
          have z2 := D0.frozen 3
          simp at c2
          have hs2 := D0.set_ 3 (.pointer (some ⟨o, 0, none⟩))
          have hfs2 : Fr (One f) w4 (w4.setCell ⟨f, 3, none⟩ (.pointer (some ⟨o, 0, none⟩))) := (Fr.refl _ _).set1 3 _
          have hnez : z ≠ f := by
            obtain ⟨b, o, c, hb, _⟩ := D5.ex
            exact fun e => (D0.ne_ hb (by decide)) e.symm
          have hneo : o ≠ f := by
            obtain ⟨b, o, c, hb, _⟩ := hP.ex
            exact fun e => (D0.ne_ hb (by decide)) e.symm
          have hrows : ∀ b, f ≤ b → (∃ N G, w4.rowIs b 3 N G) → ¬ One f b := fun b _ hb => by
            obtain ⟨N, G, hr⟩ := hb
            exact fun e => (D0.row_ne hr (by decide)) e.symm
          have HE := Lib.hid (show _ ∧ _ from ⟨(⟨⟨f + 1, f + 2, z, o, hs2, rowFr D1 hfs2 (fun e => by have : f + 1 = f := e; omega), rowFr D2 hfs2 (fun e => by have : f + 2 = f := e; omega),
            D5.fr hfs2 hnez hrows, hP.fr hfs2 hneo hrows, by omega, by omega⟩, Nat.le_refl _⟩ : GFAt _ f f), D3.setNew (g := f) (by omega) 3 (.pointer (some ⟨o, 0, none⟩))⟩)
          clear hs2 hfs2 hrows hnez hneo D0 D1 D2 D3 D5 hP hF3 hF4 A0 A1 A2 A3 A5
          go_wp2_with fail
          go_ret
          rw [hf]
          exact ⟨rfl, HE.out⟩
theorem qrField_calls (w : World) : Calls Tryz.prog 89 #[] w fun e w' => e = .returned (.pointer (some ⟨w.heap.size, 0, none⟩)) ∧ GFAt w' w.heap.size w.heap.size ∧ Fr Nil w w' := by
  have HC := Lib.hid (newGF_calls w)
  go_enter Tryz.func89, Tryz.ntmps89
  go_wp2_with fail
  refine HC.out.mono ?_
  rintro e w1 ⟨rfl, h1, h2⟩
  go_wp2
  go_ret
  exact ⟨rfl, h1, h2⟩
end Go.Proofs.YtcekbhhpcmhicaaGreatDoor
/- A polynomial of one term; a polynomial times one term. -/
namespace Go.Proofs.YtcekbhhpcmhicaaGreatDoor
open Go Go.RowKit Go.Deep
set_option maxRecDepth 100000
theorem rep_getD (c d i : Nat) : (c :: List.replicate d 0).getD i 0 = if i = 0 then c else 0 := by
  cases i with
  | zero => simp
  | succ i =>
    rw [if_neg (by omega), List.getD_cons_succ, List.getD_eq_getElem?_getD]
    rcases Nat.lt_or_ge i d with h | h
    · rw [List.getElem?_replicate_of_lt h]; rfl
    · rw [List.getElem?_eq_none (by simpa using h)]; rfl
set_option maxHeartbeats 1600000 in
theorem monomial_calls {w : World} {lo f : Nat} (h : GFAt w lo f) (hlo : lo ≤ w.heap.size) (d c : Nat) (hd : d < 1000) (hc : c < 256) (h0 : 0 < c) :
    Calls Tryz.prog 234 #[.pointer (some ⟨f, 0, none⟩), .int .i64 d, .int .i64 c] w fun e w' => ∃ q, e = .returned (.tuple #[.pointer (some ⟨q, 0, none⟩), .nilIface]) ∧ PolyAt w' lo q f (c :: List.replicate d 0) ∧ Fr Nil w w' := by
  have hmk := mkInts (d + 1) (by omega) w
  rw [show ((d + 1 : Nat) : Int) = (d : Int) + 1 from by omega] at hmk
  have hd0 : ¬ ((d : Int) < 0) := by omega
  have h0b : ((c : Int) == 0) = false := beq_eq_false_iff_ne.2 (by omega)
  have hr := World.rowIs_made w (.int .i64 0) (d + 1) 3
  have k0 := hr.cell (i := 0) (by omega)
  have z0 := hr.frozen 0
  have hr2 := (hr.set 0 (i64 c)).congr (g := fun i => i64 ((c :: List.replicate d 0).getD i 0)) (fun i hi => by
    rw [rep_getD]; by_cases h : i = 0
    · rw [if_pos h, if_pos h]
    · rw [if_neg h, if_neg h]; rfl)
  have hfr : Fr Nil w ((w.alloc (.cells (madeCells #[.int .i64 0] (d + 1)) 3)).setCell ⟨w.heap.size, 0, none⟩ (i64 c)) := ((Fr.refl _ _).alloc _).setNew (Nat.le_refl _) _ _
  have hco : CoAt ((w.alloc (.cells (madeCells #[.int .i64 0] (d + 1)) 3)).setCell ⟨w.heap.size, 0, none⟩ (i64 c)) lo w.heap.size 0 (d + 1) (c :: List.replicate d 0) :=
    ⟨⟨d + 1, _, hr2, fun i hi => by rw [Nat.zero_add], by simp⟩, by simp, hlo⟩
  have HP := Lib.hid (newPoly_calls (f := f) hco (by simp) (by simp; omega) (fun x hx => by
    rcases List.mem_cons.1 hx with h | h
    · omega
    · have := (List.mem_replicate.1 h).2; omega) (by simp; omega))
  have HF := Lib.hid hfr
  clear hr hr2 hfr hco h
  have hl : ((c :: List.replicate d 0).length) = d + 1 := by simp
  rw [hl, World.setCell_alloc_new] at HP
  rw [World.setCell_alloc_new] at HF
  go_enter Tryz.func234, Tryz.ntmps234
  go_wp2_with fail
  refine HP.out.mono ?_
  rintro e w1 ⟨q, rfl, hP, hF⟩
  go_wp2_with fail
  go_ret2
  rw [norm_big _ (.inr (by simp; omega))] at hP
  exact ⟨q, rfl, hP, HF.out.trans hF⟩
/-- the row of a product, after i rounds -/
def mulAt (cs : List Nat) (c i j : Nat) : Nat := if j < i then gmul c (cs.getD j 0) else 0
set_option maxHeartbeats 3200000 in
theorem mulMono_calls {w : World} {lo f p : Nat} {cs : List Nat} (h : GFAt w lo f) (hp : PolyAt w lo p f cs) (hlo : lo ≤ w.heap.size) (d c : Nat) (hd : cs.length + d ≤ 1000) (hc : c < 256) (h0 : 0 < c) :
    Calls Tryz.prog 191 #[.pointer (some ⟨p, 0, none⟩), .int .i64 d, .int .i64 c] w fun e w' => ∃ q, e = .returned (.tuple #[.pointer (some ⟨q, 0, none⟩), .nilIface]) ∧ PolyAt w' lo q f (norm (cs.map (gmul c) ++ List.replicate d 0)) ∧ Fr Nil w w' := by
  have hmk := mkInts (cs.length + d) (by omega) w
  rw [show ((cs.length + d : Nat) : Int) = (cs.length : Int) + (d : Int) from by omega] at hmk
  have hd0 : ¬ ((d : Int) < 0) := by omega
  have h0b : ((c : Int) == 0) = false := beq_eq_false_iff_ne.2 (by omega)
  have hr := World.rowIs_made w (.int .i64 0) (cs.length + d) 3
  obtain ⟨b, o, cap, B, C⟩ := hp.ex
  have c0 := B.cell 0
  have c1 := B.cell 1
  simp only [Nat.reduceAdd, List.getElem?_toArray, List.getElem?_cons_succ, List.getElem?_cons_zero] at c0 c1
  have hpos := hp.pos
  have hel := hp.el
  have hcap := C.cap
  have HR := Lib.hid hr
  have HB := Lib.hid B
  have HC := Lib.hid C
  have HG := Lib.hid h
  obtain ⟨n, hn⟩ : ∃ n, cs.length = n := ⟨_, rfl⟩
  have HN := Lib.hid hn
  obtain ⟨G, hG⟩ : ∃ G, G = w.heap.size := ⟨_, rfl⟩
  have HGG := Lib.hid hG
  rw [← hG] at hlo
  simp only [← hG] at hmk
  have hbG : b < G := by obtain ⟨N, F, h1, _⟩ := C.ex; rw [hG]; exact h1.lt
  have hpG : p < G := by rw [hG]; exact B.lt
  rw [hn] at c1 hmk hcap hpos hd
  clear hr B C h hp hn hG
  go_enter Tryz.func191, Tryz.ntmps191
  go_wp2_with fail
  go_loopg [10] n (fun r s10 wr => ∃ i : Nat, i + r = n ∧ s10 = .int .i64 i ∧ wr.rowIs G 3 (n + d) (fun j => i64 (mulAt cs c i j)) ∧ Fr Nil w wr)
  case atStart =>
    refine ⟨0, by omega, rfl, ?_, (Fr.refl _ _).alloc _⟩
    have := HR.out
    rw [HN.out, ← HGG.out] at this
    exact this.congr (fun j _ => by simp [mulAt])
  case round =>
    obtain ⟨i, hi, rfl, hrow, hF⟩ := hrel
    clear HR hmk
    cases gk with
    | zero =>
      have hin : i = n := by omega
      subst hin
      have hz : ¬ (i : Int) < (i : Int) := by omega
      have hco : CoAt wr lo G 0 (i + d) (cs.map (gmul c) ++ List.replicate d 0) := ⟨⟨i + d, _, hrow, fun j hj => by
        rw [Nat.zero_add]
        have hj2 : j < i + d := by simpa [HN.out] using hj
        congr 2
        unfold mulAt
        rw [List.getD_eq_getElem?_getD, List.getD_eq_getElem?_getD]
        by_cases hji : j < i
        · rw [if_pos hji, List.getElem?_append_left (by simpa [HN.out] using hji), List.getElem?_map, List.getElem?_eq_getElem (by rw [HN.out]; exact hji)]; rfl
        · rw [if_neg hji, List.getElem?_append_right (by simpa [HN.out] using hji), List.getElem?_replicate_of_lt (by simp [HN.out]; omega)]; rfl, by simp [HN.out]⟩, by simp [HN.out], hlo⟩
      have hl : (cs.map (gmul c) ++ List.replicate d 0).length = i + d := by simp [HN.out]
      have hsz := hF.size
      have HP := newPoly_calls (f := f) hco (by rw [hl]; omega) (by rw [hl]; omega) (append_elems (map_elems c cs) (zeros_elems d)) (by rw [HGG.out] at hlo; omega)
      rw [hl] at HP
      have HP' := Lib.hid HP
      have k0 := hF.cell_some c0 (fun e => e)
      clear hco HP hrow c0 c1
      go_wp2_with fail
      refine HP'.out.mono ?_
      rintro e w1 ⟨q, rfl, hP, hF1⟩
      go_wp2_with fail
      go_ret2
      exact ⟨q, rfl, hP, hF.trans hF1⟩
    | succ r =>
      have hz : (i : Int) < (n : Int) := by omega
      have hiG : i < n + d := by omega
      have hiGz : (i : Int) < ((n + d : Nat) : Int) := by omega
      have hiGz2 : (i : Int) < (n : Int) + (d : Int) := by omega
      have hk : ∀ w', Fr (One G) wr w' → w'.cell? ⟨p, 0, none⟩ = some (.pointer (some ⟨f, 0, none⟩)) ∧ w'.cell? ⟨p, 1, none⟩ = some (.slice (some ⟨b, o, none⟩) n cap) ∧ w'.cell? ⟨b, o + i, none⟩ = some (i64 (cs.getD i 0)) := fun w' hw => by
        have hp' : ¬ One G p := fun e => by have : p = G := e; omega
        have hb' : ¬ One G b := fun e => by have : b = G := e; omega
        exact ⟨hw.cell_some (hF.cell_some c0 (fun e => e)) hp', hw.cell_some (hF.cell_some c1 (fun e => e)) hp', hw.cell_some (hF.cell_some (HC.out.cell (by rw [HN.out]; omega)) (fun e => e)) hb'⟩
      have hx : cs.getD i 0 < 256 := hel _ (by rw [List.getD_eq_getElem?_getD, List.getElem?_eq_getElem (by rw [HN.out]; omega)]; exact List.getElem_mem _)
      have HM : ∀ w', Fr Nil wr w' → Hid (Calls Tryz.prog 229 #[.pointer (some ⟨f, 0, none⟩), .int .i64 ((cs.getD i 0 : Nat) : Int), .int .i64 c] w' fun e w'' => e = .returned (.int .i64 (gmul (cs.getD i 0) c)) ∧ Fr Nil w' w'') :=
        fun w' hw => Lib.hid (mul_calls ((HG.out.nil hF).nil hw) _ _ hx hc)
      have hnew : ∀ w', Fr Nil wr w' → Hid (w'.rowIs G 3 (n + d) (fun j => i64 (mulAt cs c i j)) ∧ w'.cell? ⟨G, i, none⟩ = some (i64 0) ∧ w'.frozen? ⟨G, i, none⟩ = false) := fun w' hw => Lib.hid (by
        have hr := rowFr hrow hw (fun e => e)
        refine ⟨hr, ?_, hr.frozen i⟩
        rw [hr.cell hiG]; simp [mulAt])
      have HX : Hid (gmul (cs.getD i 0) c = gmul c (cs.getD i 0)) := Lib.hid (gmul_comm _ _)
      have HK := Lib.hid hk
      have HNEW := Lib.hid hnew
      have HMM := Lib.hid HM
      clear hk hnew HM c0 c1 hrow
      obtain ⟨x, hxx⟩ : ∃ x, cs.getD i 0 = x := ⟨_, rfl⟩
      rw [hxx] at HK HMM hx HX
      have HXX := Lib.hid hxx
      clear hxx
      generalize gmul x c = y at *
      go_wp2_with fail
      go_region_held3 (fun w' => w'.cell? ⟨p, 0, none⟩ = some (.pointer (some ⟨f, 0, none⟩)) ∧ w'.cell? ⟨p, 1, none⟩ = some (.slice (some ⟨b, o, none⟩) n cap) ∧ w'.cell? ⟨b, o + i, none⟩ = some (i64 x))
        (first
          | exact HK.out _ (Fr.refl _ _).drew
          | exact HK.out _ (hfa.any _)
          | exact HK.out _ ((hfa.any _).set1 _ _))
        ((first
          | (go_at_call 229; refine ((HMM.out _ (Fr.refl _ _).drew).out).mono ?_; rintro e w1 ⟨rfl, hf1⟩; have hfa : Fr Nil wr w1 := hf1.from_drew; have kz := (HNEW.out _ hfa).out.2.1; have kz2 := (HNEW.out _ hfa).out.2.2)))
      all_goals
        go_wp2
        go_roundg r
        case measure => omega
        case rel =>
          refine ⟨i + 1, by omega, by go_num, ((HNEW.out _ hfa).out.1.set i _).congr (fun j hj => ?_), (hF.trans hfa).setNew (by rw [HGG.out]; exact Nat.le_refl _) _ _⟩
          by_cases hji : j = i
          · rw [if_pos hji, hji]
            show _ = i64 (mulAt cs c (i + 1) i)
            unfold mulAt
            rw [if_pos (by omega), HXX.out, HX.out]
          · rw [if_neg hji]
            show i64 (mulAt cs c i j) = i64 (mulAt cs c (i + 1) j)
            unfold mulAt
            by_cases hlt : j < i
            · rw [if_pos hlt, if_pos (by omega)]
            · rw [if_neg hlt, if_neg (by omega)]
end Go.Proofs.YtcekbhhpcmhicaaGreatDoor
/- The sum of two polynomials. -/
namespace Go.Proofs.YtcekbhhpcmhicaaGreatDoor
open Go Go.RowKit Go.Deep
set_option maxRecDepth 100000
/-- the sum of a shorter (xs) and a longer (ys) -/
def padd (xs ys : List Nat) : List Nat := List.zipWith (fun a b => a ^^^ b) (List.replicate (ys.length - xs.length) 0 ++ xs) ys
theorem padd_length {xs ys : List Nat} (h : xs.length ≤ ys.length) : (padd xs ys).length = ys.length := by
  unfold padd; rw [List.length_zipWith]; simp; omega
theorem padd_getD {xs ys : List Nat} (h : xs.length ≤ ys.length) (i : Nat) (hi : i < ys.length) :
    (padd xs ys).getD i 0 = if i < ys.length - xs.length then ys.getD i 0 else xs.getD (i - (ys.length - xs.length)) 0 ^^^ ys.getD i 0 := by
  unfold padd
  simp only [List.getD_eq_getElem?_getD]
  by_cases h1 : i < ys.length - xs.length
  · rw [if_pos h1, List.getElem?_zipWith, List.getElem?_append_left (by simpa using h1), List.getElem?_replicate_of_lt h1, List.getElem?_eq_getElem hi]
    simp
  · rw [if_neg h1, List.getElem?_zipWith, List.getElem?_append_right (by simp; omega), List.length_replicate, List.getElem?_eq_getElem hi, List.getElem?_eq_getElem (l := xs) (by omega)]
    simp
theorem padd_elems {xs ys : List Nat} (h1 : Elems xs) (h2 : Elems ys) : Elems (padd xs ys) := zip_elems (append_elems (zeros_elems _) h1) h2
theorem ev_padd {xs ys : List Nat} (h : xs.length ≤ ys.length) (h1 : Elems xs) (h2 : Elems ys) {y : Nat} (hy : y < 256) : ev (padd xs ys) y = ev xs y ^^^ ev ys y := by
  unfold padd
  rw [ev_zip y hy _ _ (by simp; omega) (append_elems (zeros_elems _) h1) h2, ev_zeros_left]
theorem neq_same (f : Nat) (w : World) : (binOp .neq 159 (.pointer (some ⟨f, 0, none⟩)) (.pointer (some ⟨f, 0, none⟩))).run Tryz.prog w = .ok (.bool false) w := by
  obtain ⟨j, hj⟩ : ∃ j, Tryz.prog.info? 277 = some j := Option.isSome_iff_exists.1 (by kernel_rfl)
  exact Lib.run_neq_ptr_same (P := Tryz.prog) (w := w) (tp := 159) (te := 277) (j := j) ⟨f, 0, none⟩ (by kernel_rfl) hj
def upTo (cs : List Nat) (i j : Nat) : Nat := if j < i then cs.getD j 0 else 0
theorem Tryz.siz3 : (Tryz.prog.info? 3).map (·.size) = some 1 := by kernel_rfl
structure AddIn (w : World) (lo : Nat) (us vs : List Nat) (b1 o1 c1 n1 : Nat) (xs : List Nat) (b2 o2 c2 n2 : Nat) (ys : List Nat) : Prop where
  l1 : xs.length = n1
  l2 : ys.length = n2
  x : CoAt w lo b1 o1 c1 xs
  y : CoAt w lo b2 o2 c2 ys
  ex : Elems xs
  ey : Elems ys
  or_ : (us.length ≤ vs.length ∧ xs = us ∧ ys = vs) ∨ (vs.length < us.length ∧ xs = vs ∧ ys = us)
set_option maxHeartbeats 3200000 in
theorem addPoly_calls {w : World} {lo f p q : Nat} {us vs : List Nat} (hp : PolyAt w lo p f us) (hq : PolyAt w lo q f vs) (hlo : lo ≤ w.heap.size) :
    Calls Tryz.prog 235 #[.pointer (some ⟨p, 0, none⟩), .pointer (some ⟨q, 0, none⟩)] w fun e w' => ∃ s cs, e = .returned (.tuple #[.pointer (some ⟨s, 0, none⟩), .nilIface]) ∧ PolyAt w' lo s f cs ∧ Fr Nil w w' ∧
      ((us.getD 0 0 = 0 ∧ cs = vs) ∨ (vs.getD 0 0 = 0 ∧ cs = us) ∨ (us.length ≤ vs.length ∧ cs = norm (padd us vs)) ∨ (vs.length < us.length ∧ cs = norm (padd vs us))) := by
  obtain ⟨b, o, cap, B, C⟩ := hp.ex
  obtain ⟨b', o', cap', B', C'⟩ := hq.ex
  have hk : ∀ w', Fr Nil w w' → w'.cell? ⟨p, 0, none⟩ = some (.pointer (some ⟨f, 0, none⟩)) ∧ w'.cell? ⟨p, 1, none⟩ = some (.slice (some ⟨b, o, none⟩) us.length cap) ∧
      w'.cell? ⟨q, 0, none⟩ = some (.pointer (some ⟨f, 0, none⟩)) ∧ w'.cell? ⟨q, 1, none⟩ = some (.slice (some ⟨b', o', none⟩) vs.length cap') := fun w' hw => by
    refine ⟨hw.cell_some ?_ (fun e => e), hw.cell_some ?_ (fun e => e), hw.cell_some ?_ (fun e => e), hw.cell_some ?_ (fun e => e)⟩
    · simpa using B.cell 0
    · simpa using B.cell 1
    · simpa using B'.cell 0
    · simpa using B'.cell 1
  obtain ⟨c0, c1, d0, d1⟩ := hk w (Fr.refl _ _)
  have HK := Lib.hid hk
  have hz1 : Hid (∀ w', Fr Nil w w' → Calls Tryz.prog 230 #[.pointer (some ⟨p, 0, none⟩)] w' fun e w'' => e = .returned (.bool (((us.getD 0 0 : Nat) : Int) == 0)) ∧ w' = w'') := Lib.hid (fun w' hw => isZero_calls (hp.nil hw))
  have hz2 : Hid (∀ w', Fr Nil w w' → Calls Tryz.prog 230 #[.pointer (some ⟨q, 0, none⟩)] w' fun e w'' => e = .returned (.bool (((vs.getD 0 0 : Nat) : Int) == 0)) ∧ w' = w'') := Lib.hid (fun w' hw => isZero_calls (hq.nil hw))
  have HP := Lib.hid hp
  have HQ := Lib.hid hq
  have HC := Lib.hid C
  have HC' := Lib.hid C'
  have hpos := hp.pos
  have hpos' := hq.pos
  have hs := hp.small
  have hs' := hq.small
  have hcap := C.cap
  have hcap' := C'.cap
  clear hk B B' C C' hp hq
  have hneq := neq_same f
  go_enter Tryz.func235, Tryz.ntmps235
  go_wp2_with fail
  go_region_held3 (fun w' => w'.cell? ⟨p, 0, none⟩ = some (.pointer (some ⟨f, 0, none⟩)) ∧ w'.cell? ⟨q, 0, none⟩ = some (.pointer (some ⟨f, 0, none⟩)))
    (first
     | exact ⟨(HK.out _ (Fr.refl _ _).drew).1, (HK.out _ (Fr.refl _ _).drew).2.2.1⟩) ((first | fail))
  clear c0 c1 d0 d1
  have hd1 : Fr Nil w w.drew := (Fr.refl _ _).drew
  obtain ⟨c0, c1, d0, d1⟩ := HK.out _ hd1
  obtain ⟨wd, hwd⟩ : ∃ wd, wd = w.drew := ⟨_, rfl⟩
  have hsz := hd1.size
  have hlo2 := Nat.le_trans hlo hsz
  have hZ1 := hz1.out _ hd1
  have hZ2 := hz2.out _ hd1
  rw [← hwd] at hd1 c0 c1 d0 d1 hsz hlo2 hZ1 hZ2 ⊢
  clear hwd hneq hz1 hz2 hlo
  by_cases hu : us.getD 0 0 = 0
  · have hub : (((us.getD 0 0 : Nat) : Int) == 0) = true := by rw [hu]; rfl
    rw [hub] at hZ1
    have HU := Lib.hid hu
    have HZ1 := Lib.hid hZ1
    clear hu hub hZ1 hZ2
    go_wp2_with (go_at_call 230; refine HZ1.out.mono ?_; rintro e w1 ⟨rfl, rfl⟩)
    go_ret2
    exact ⟨q, vs, rfl, HQ.out.nil hd1, hd1, .inl ⟨HU.out, rfl⟩⟩
  · have hub : (((us.getD 0 0 : Nat) : Int) == 0) = false := beq_eq_false_iff_ne.2 (by omega)
    rw [hub] at hZ1
    have HZ1 := Lib.hid hZ1
    clear hu hub hZ1
    by_cases hv : vs.getD 0 0 = 0
    · have hvb : (((vs.getD 0 0 : Nat) : Int) == 0) = true := by rw [hv]; rfl
      rw [hvb] at hZ2
      have HV := Lib.hid hv
      have HZ2 := Lib.hid hZ2
      clear hv hvb hZ2
      go_wp2_with fail
      refine HZ1.out.mono ?_
      rintro e w1 ⟨rfl, rfl⟩
      clear HZ1
      go_wp2_with (go_at_call 230; refine HZ2.out.mono ?_; rintro e w1 ⟨rfl, rfl⟩)
      go_ret2
      exact ⟨p, us, rfl, HP.out.nil hd1, hd1, .inr (.inl ⟨HV.out, rfl⟩)⟩
    · have hvb : (((vs.getD 0 0 : Nat) : Int) == 0) = false := beq_eq_false_iff_ne.2 (by omega)
      rw [hvb] at hZ2
      have HZ2 := Lib.hid hZ2
      clear hv hvb hZ2
      go_wp2_with fail
      refine HZ1.out.mono ?_
      rintro e w1 ⟨rfl, rfl⟩
      clear HZ1
      go_upto_if 39 with (go_at_call 230; refine HZ2.out.mono ?_; rintro e w1 ⟨rfl, rfl⟩)
      clear HZ2
      go_cut [6, 7] (fun s6 s7 wc => ∃ (b1 o1 c1 n1 : Nat) (xs : List Nat) (b2 o2 c2 n2 : Nat) (ys : List Nat), Hid (AddIn wc lo us vs b1 o1 c1 n1 xs b2 o2 c2 n2 ys) ∧
        s6 = .slice (some ⟨b1, o1, none⟩) n1 c1 ∧ s7 = .slice (some ⟨b2, o2, none⟩) n2 c2 ∧ n1 ≤ n2 ∧ n2 ≤ 1000 ∧ n1 ≤ c1 ∧ n2 ≤ c2 ∧ 0 < n1 ∧ wc = wd)
      case first =>
        by_cases hlt : vs.length < us.length
        · have hltz : (vs.length : Int) < us.length := by omega
          have HX : Hid (AddIn wd lo us vs b' o' cap' vs.length vs b o cap us.length us) := Lib.hid ⟨rfl, rfl, HC'.out.fr hd1 (fun e => e), HC.out.fr hd1 (fun e => e), HQ.out.el, HP.out.el, .inr ⟨hlt, rfl, rfl⟩⟩
          go_wp2_with fail
          go_meet
          exact ⟨b', o', cap', vs.length, vs, b, o, cap, us.length, us, HX, rfl, rfl, by omega, hs, hcap', hcap, hpos', rfl⟩
        · have hltz : ¬ (vs.length : Int) < us.length := by omega
          have HX : Hid (AddIn wd lo us vs b o cap us.length us b' o' cap' vs.length vs) := Lib.hid ⟨rfl, rfl, HC.out.fr hd1 (fun e => e), HC'.out.fr hd1 (fun e => e), HP.out.el, HQ.out.el, .inl ⟨by omega, rfl, rfl⟩⟩
          go_wp2_with fail
          go_meet
          exact ⟨b, o, cap, us.length, us, b', o', cap', vs.length, vs, HX, rfl, rfl, by omega, hs', hcap, hcap', hpos, rfl⟩
      case rest =>
        obtain ⟨b1, o1, a1, n1, xs, b2, o2, a2, n2, ys, HX, rfl, rfl, h12, h2, h1c, h2c, h1p, rfl⟩ := hcut
        have HE := Lib.hid HX.out.or_
        clear c1 d0 d1 hpos hpos' hs hs' hcap hcap' HK HP HQ HC HC'
        obtain ⟨G, hG⟩ : ∃ G, wc.heap.size = G := ⟨_, rfl⟩
        obtain ⟨k, hk⟩ : ∃ k, k + n1 = n2 := ⟨n2 - n1, by omega⟩
        have hkz : (n2 : Int) - (n1 : Int) = (k : Int) := by omega
        have hmk := mkInts n2 (by omega) wc
        rw [hG] at hmk
        have hr := World.rowIs_made wc (.int .i64 0) n2 3
        rw [hG] at hr
        have hal : Fr Nil wc (wc.alloc (.cells (madeCells #[.int .i64 0] n2) 3)) := (Fr.refl _ _).alloc _
        obtain ⟨w2, hcp, hw2, hf2, hs2⟩ := copy_ex (P := Tryz.prog) (ty := 3) (dT := 138) (sT := 138) (o := 0) (dLen := n2) (dCap := n2) (G := fun j => i64 (ys.getD j 0)) (⟨b2, o2, none⟩ : Addr) k a2 k Tryz.und138 Tryz.siz3 hr
          (by exact (Nat.min_eq_left (by omega)).symm) (by omega) (fun j hj => by rw [addr_add_row]; exact (HX.out.y.fr hal (fun e => e)).cell (by rw [HX.out.l2]; omega)) (fun j _ => rfl)
        have hfw : Fr Nil wc w2 := hal.trans' hf2 (fun i hi e => by have : i = G := e; omega)
        have c0' := hfw.cell_some c0 (fun e => e)
        have hrow : w2.rowIs G 3 n2 (fun j => i64 (upTo (padd xs ys) k j)) := hw2.congr (fun j hj => by
          unfold upTo
          by_cases hjk : j < k
          · rw [if_pos (by omega), if_pos hjk, Nat.sub_zero, padd_getD (by rw [HX.out.l1, HX.out.l2]; exact h12) _ (by rw [HX.out.l2]; exact hj), if_pos (by rw [HX.out.l1, HX.out.l2]; omega)]
          · rw [if_neg (by omega), if_neg hjk]; rfl)
        have hbG1 : b1 < G := by obtain ⟨N, F, h1, _⟩ := HX.out.x.ex; rw [← hG]; exact h1.lt
        have hbG2 : b2 < G := by obtain ⟨N, F, h1, _⟩ := HX.out.y.ex; rw [← hG]; exact h1.lt
        have HC0 := Lib.hid c0
        have HROW := Lib.hid hrow
        rw [hG] at hlo2 hsz
        clear hr hw2 hf2 hrow c0 hal hs2
        go_wp2_with fail
        go_loopg [10] n1 (fun r s10 wr => ∃ i : Nat, i + r = n2 ∧ k ≤ i ∧ s10 = .int .i64 i ∧ wr.rowIs G 3 n2 (fun j => i64 (upTo (padd xs ys) i j)) ∧ Fr Nil wc wr)
        case atStart => exact ⟨k, by omega, Nat.le_refl _, rfl, HROW.out, hfw⟩
        case round =>
          obtain ⟨i, hi, hki, rfl, hrow, hF⟩ := hrel
          clear HROW hmk hcp c0' hfw
          cases gk with
          | zero =>
            have hin : i = n2 := by omega
            subst hin
            have hz : ¬ (i : Int) < (i : Int) := by omega
            have hl : (padd xs ys).length = i := by rw [padd_length (by rw [HX.out.l1, HX.out.l2]; exact h12), HX.out.l2]
            have hco : CoAt wr lo G 0 i (padd xs ys) := ⟨⟨i, _, hrow, fun j hj => by
              rw [hl] at hj
              rw [Nat.zero_add]; unfold upTo; rw [if_pos hj], by rw [hl]; omega⟩, by rw [hl]; exact Nat.le_refl _, hlo2⟩
            have HP := newPoly_calls (f := f) hco (by rw [hl]; omega) (by rw [hl]; omega) (padd_elems HX.out.ex HX.out.ey) (by have := hF.size; omega)
            rw [hl] at HP
            have HP' := Lib.hid HP
            have k0 := hF.cell_some HC0.out (fun e => e)
            have HF := Lib.hid (hd1.trans hF)
            clear hco HP hrow hkz hl
            go_wp2_with fail
            refine HP'.out.mono ?_
            rintro e w1 ⟨q', rfl, hP, hF1⟩
            go_wp2_with fail
            go_ret2
            refine ⟨q', _, rfl, hP, HF.out.trans hF1, ?_⟩
            rcases HE.out with ⟨h1, rfl, rfl⟩ | ⟨h1, rfl, rfl⟩
            · exact .inr (.inr (.inl ⟨h1, rfl⟩))
            · exact .inr (.inr (.inr ⟨h1, rfl⟩))
          | succ r =>
            have hz : (i : Int) < (n2 : Int) := by omega
            obtain ⟨t, ht⟩ : ∃ t, i = k + t := ⟨i - k, by omega⟩
            have htz : (i : Int) - (k : Int) = (t : Int) := by omega
            have ht1 : t < n1 := by omega
            have ht1z : (t : Int) < (n1 : Int) := by omega
            have hkk : ∀ w', Fr (One G) wr w' → w'.cell? ⟨b1, o1 + t, none⟩ = some (i64 (xs.getD t 0)) ∧ w'.cell? ⟨b2, o2 + i, none⟩ = some (i64 (ys.getD i 0)) := fun w' hw => by
              have hp' : ¬ One G b1 := fun e => by have : b1 = G := e; omega
              have hb' : ¬ One G b2 := fun e => by have : b2 = G := e; omega
              exact ⟨hw.cell_some (hF.cell_some (HX.out.x.cell (by rw [HX.out.l1]; omega)) (fun e => e)) hp', hw.cell_some (hF.cell_some (HX.out.y.cell (by rw [HX.out.l2]; omega)) (fun e => e)) hb'⟩
            have hx : xs.getD t 0 < 256 := HX.out.ex _ (by rw [List.getD_eq_getElem?_getD, List.getElem?_eq_getElem (by rw [HX.out.l1]; omega)]; exact List.getElem_mem _)
            have hy : ys.getD i 0 < 256 := HX.out.ey _ (by rw [List.getD_eq_getElem?_getD, List.getElem?_eq_getElem (by rw [HX.out.l2]; omega)]; exact List.getElem_mem _)
            have hsum : Hid ((padd xs ys).getD i 0 = xs.getD t 0 ^^^ ys.getD i 0) := Lib.hid (by
              rw [padd_getD (by rw [HX.out.l1, HX.out.l2]; exact h12) _ (by rw [HX.out.l2]; omega), if_neg (by rw [HX.out.l1, HX.out.l2]; omega), HX.out.l1, HX.out.l2, show i - (n2 - n1) = t from by omega])
            have hst : Hid ((wr.setCell ⟨G, i, none⟩ (i64 (xs.getD t 0 ^^^ ys.getD i 0))).rowIs G 3 n2 (fun j => i64 (upTo (padd xs ys) (i + 1) j)) ∧ Fr Nil wc (wr.setCell ⟨G, i, none⟩ (i64 (xs.getD t 0 ^^^ ys.getD i 0)))) :=
              Lib.hid ⟨(hrow.set i _).congr (fun j hj => by
                by_cases hji : j = i
                · rw [if_pos hji, hji, ← hsum.out]; unfold upTo; rw [if_pos (by omega)]
                · rw [if_neg hji]; unfold upTo
                  by_cases hlt : j < i
                  · rw [if_pos hlt, if_pos (by omega)]
                  · rw [if_neg hlt, if_neg (by omega)]), hF.setNew (by omega) _ _⟩
            have HKK := Lib.hid hkk
            have kz := hrow.cell (i := i) (by omega)
            have kf := hrow.frozen i
            have HA := Lib.hid (fun w' => addSub_calls w' _ _ hx hy)
            have HI := Lib.hid hi
            have HK1 := Lib.hid hk
            have htk : t + k = i := by omega
            have HT := Lib.hid htk
            have ht0 : (0 : Int) ≤ (t : Int) := by omega
            have hwr : IntKind.i64.wrap ((i : Int) - (k : Int)) = (t : Int) := by rw [htz]; exact IntWalk.i64_in _ (by omega)
            have hi0 : (0 : Int) ≤ (i : Int) := by omega
            clear hkk hsum hrow hkz HC0 ht htk hi hk
            clear htz
            generalize upTo (padd xs ys) i i = z at *
            generalize xs.getD t 0 = x at *
            generalize ys.getD i 0 = y at *
            generalize x ^^^ y = v at *
            go_wp2_with fail
            go_region_held3 (fun w' => w'.cell? ⟨b1, o1 + t, none⟩ = some (i64 x) ∧ w'.cell? ⟨b2, o2 + i, none⟩ = some (i64 y))
              (first
                | exact HKK.out _ (Fr.refl _ _).drew
                | exact HKK.out _ (((Fr.refl _ _).drew).set1 _ _))
              ((first
                | (go_at_call 267; refine (HA.out _).mono ?_; rintro e w1 ⟨rfl, rfl⟩)))
            all_goals
              go_wp2
              go_roundg r
              case measure => omega
              case rel => exact ⟨i + 1, by have := HI.out; omega, by omega, by go_num, hst.out.1.drew, hst.out.2.drew⟩
end Go.Proofs.YtcekbhhpcmhicaaGreatDoor
/- A polynomial times one of two terms: the next generator. -/
namespace Go.Proofs.YtcekbhhpcmhicaaGreatDoor
open Go Go.RowKit Go.Deep
set_option maxRecDepth 100000
/-- the product's coefficient t, of the first u summands to the left and the first v to the right -/
def m2 (us : List Nat) (b0 b1 u v t : Nat) : Nat := (if t < u then gmul (us.getD t 0) b0 else 0) ^^^ (if 0 < t ∧ t ≤ v then gmul (us.getD (t - 1) 0) b1 else 0)
/-- the product with b0 x + b1 -/
def pm2 (us : List Nat) (b0 b1 : Nat) : List Nat := List.zipWith (fun a b => a ^^^ b) (us.map (gmul b0) ++ [0]) (0 :: us.map (gmul b1))
theorem pm2_length (us : List Nat) (b0 b1 : Nat) : (pm2 us b0 b1).length = us.length + 1 := by simp [pm2]
theorem pm2_getD (us : List Nat) (b0 b1 t : Nat) (ht : t < us.length + 1) : (pm2 us b0 b1).getD t 0 = m2 us b0 b1 us.length us.length t := by
  unfold pm2 m2
  simp only [List.getD_eq_getElem?_getD]
  rw [List.getElem?_zipWith]
  have h1 : (us.map (gmul b0) ++ [0])[t]? = some (if t < us.length then gmul (us[t]?.getD 0) b0 else 0) := by
    by_cases h : t < us.length
    · rw [if_pos h, List.getElem?_append_left (by simpa using h), List.getElem?_map, List.getElem?_eq_getElem h]
      simp [gmul_comm]
    · have : t = us.length := by omega
      subst this
      rw [if_neg (by omega), List.getElem?_append_right (by simp)]; simp
  have h2 : (0 :: us.map (gmul b1))[t]? = some (if 0 < t ∧ t ≤ us.length then gmul (us[t - 1]?.getD 0) b1 else 0) := by
    cases t with
    | zero => simp
    | succ t =>
      rw [if_pos ⟨by omega, by omega⟩, List.getElem?_cons_succ, List.getElem?_map]
      simp [gmul_comm, List.getElem?_eq_getElem (show t < us.length by omega)]
  rw [h1, h2]; rfl
theorem pm2_elems {us : List Nat} (b0 b1 : Nat) : Elems (pm2 us b0 b1) := zip_elems (append_elems (map_elems _ _) (by intro x hx; simp at hx; omega)) (by
  intro x hx
  rcases List.mem_cons.1 hx with h | h
  · omega
  · exact map_elems b1 us x h)
theorem ev_pm2 {us : List Nat} (h : Elems us) {b0 b1 y : Nat} (h0 : b0 < 256) (h1 : b1 < 256) (hy : y < 256) : ev (pm2 us b0 b1) y = gmul y (gmul b0 (ev us y)) ^^^ gmul b1 (ev us y) := by
  unfold pm2
  rw [ev_zip y hy _ _ (by simp) (append_elems (map_elems _ _) (by intro x hx; simp at hx; omega)) (by
    intro x hx
    rcases List.mem_cons.1 hx with h | h
    · omega
    · exact map_elems b1 us x h), ev_snoc, ev_map b0 y h0 hy us h, Nat.xor_zero]
  have := ev_zeros_left (us.map (gmul b1)) y 1
  rw [show List.replicate 1 0 ++ us.map (gmul b1) = 0 :: us.map (gmul b1) from rfl] at this
  rw [this, ev_map b1 y h1 hy us h]
theorem m2_zero (us : List Nat) (b0 b1 t : Nat) : m2 us b0 b1 0 0 t = 0 := by
  unfold m2; rw [if_neg (by omega), if_neg (by omega)]; rfl
theorem m2_left (us : List Nat) (b0 b1 i t : Nat) : m2 us b0 b1 (i + 1) i t = if t = i then m2 us b0 b1 i i i ^^^ gmul (us.getD i 0) b0 else m2 us b0 b1 i i t := by
  unfold m2
  by_cases h : t = i
  · subst h
    simp [Nat.xor_comm]
  · rw [if_neg h]
    congr 1
    by_cases h2 : t < i
    · rw [if_pos h2, if_pos (by omega)]
    · rw [if_neg h2, if_neg (by omega)]
theorem m2_right (us : List Nat) (b0 b1 i t : Nat) : m2 us b0 b1 (i + 1) (i + 1) t = if t = i + 1 then m2 us b0 b1 (i + 1) i (i + 1) ^^^ gmul (us.getD i 0) b1 else m2 us b0 b1 (i + 1) i t := by
  unfold m2
  by_cases h : t = i + 1
  · subst h
    have : ¬ (i + 1 ≤ i) := by omega
    simp [this]
  · rw [if_neg h]
    congr 1
    by_cases h2 : 0 < t ∧ t ≤ i
    · rw [if_pos h2, if_pos ⟨h2.1, Nat.le_succ_of_le h2.2⟩]
    · rw [if_neg h2, if_neg (fun e => h2 ⟨e.1, by omega⟩)]
theorem m2_step (us : List Nat) (b0 b1 i j t : Nat) (hj : j < 2) : m2 us b0 b1 (i + min (j + 1) 1) (i + (j + 1 - 1)) t =
    if t = i + j then m2 us b0 b1 (i + min j 1) (i + (j - 1)) (i + j) ^^^ gmul (us.getD i 0) ([b0, b1].getD j 0) else m2 us b0 b1 (i + min j 1) (i + (j - 1)) t := by
  have h : j = 0 ∨ j = 1 := by omega
  rcases h with rfl | rfl
  · exact m2_left us b0 b1 i t
  · exact m2_right us b0 b1 i t
theorem m2_lt (us : List Nat) (b0 b1 u v t : Nat) : m2 us b0 b1 u v t < 256 := by
  unfold m2
  refine xor_lt ?_ ?_
  · split
    · exact gmul_lt
    · omega
  · split
    · exact gmul_lt
    · omega
set_option maxHeartbeats 3200000 in
theorem mul2_calls {w : World} {lo f p q : Nat} {us : List Nat} {b0 b1 : Nat} (h : GFAt w lo f) (hp : PolyAt w lo p f us) (hq : PolyAt w lo q f [b0, b1]) (hlo : lo ≤ w.heap.size) (hu : us.getD 0 0 ≠ 0) (hb : b0 ≠ 0) (hl : us.length ≤ 999) :
    Calls Tryz.prog 227 #[.pointer (some ⟨p, 0, none⟩), .pointer (some ⟨q, 0, none⟩)] w fun e w' => ∃ s, e = .returned (.tuple #[.pointer (some ⟨s, 0, none⟩), .nilIface]) ∧ PolyAt w' lo s f (norm (pm2 us b0 b1)) ∧ Fr Nil w w' := by
  obtain ⟨b, o, cap, B, C⟩ := hp.ex
  obtain ⟨b', o', cap', B', C'⟩ := hq.ex
  have hk : ∀ w', Fr Nil w w' → w'.cell? ⟨p, 0, none⟩ = some (.pointer (some ⟨f, 0, none⟩)) ∧ w'.cell? ⟨p, 1, none⟩ = some (.slice (some ⟨b, o, none⟩) us.length cap) ∧
      w'.cell? ⟨q, 0, none⟩ = some (.pointer (some ⟨f, 0, none⟩)) ∧ w'.cell? ⟨q, 1, none⟩ = some (.slice (some ⟨b', o', none⟩) 2 cap') := fun w' hw => by
    refine ⟨hw.cell_some ?_ (fun e => e), hw.cell_some ?_ (fun e => e), hw.cell_some ?_ (fun e => e), hw.cell_some ?_ (fun e => e)⟩
    · simpa using B.cell 0
    · simpa using B.cell 1
    · simpa using B'.cell 0
    · simpa using B'.cell 1
  obtain ⟨c0, c1, d0, d1⟩ := hk w (Fr.refl _ _)
  have HK := Lib.hid hk
  have hub : (((us.getD 0 0 : Nat) : Int) == 0) = false := beq_eq_false_iff_ne.2 (by omega)
  have hvb : ((([b0, b1].getD 0 0 : Nat) : Int) == 0) = false := beq_eq_false_iff_ne.2 (by simpa using hb)
  have hz1 : Hid (∀ w', Fr Nil w w' → Calls Tryz.prog 230 #[.pointer (some ⟨p, 0, none⟩)] w' fun e w'' => e = .returned (.bool false) ∧ w' = w'') := Lib.hid (fun w' hw => by have := isZero_calls (hp.nil hw); rwa [hub] at this)
  have hz2 : Hid (∀ w', Fr Nil w w' → Calls Tryz.prog 230 #[.pointer (some ⟨q, 0, none⟩)] w' fun e w'' => e = .returned (.bool false) ∧ w' = w'') := Lib.hid (fun w' hw => by have := isZero_calls (hq.nil hw); rwa [hvb] at this)
  have HP := Lib.hid hp
  have HQ := Lib.hid hq
  have HC := Lib.hid C
  have HC' := Lib.hid C'
  have HG := Lib.hid h
  have hpos := hp.pos
  have hcap := C.cap
  have hcap' : 2 ≤ cap' := by simpa using C'.cap
  have hbl : b < w.heap.size := by obtain ⟨N, F, h1, _⟩ := C.ex; exact h1.lt
  have hbl' : b' < w.heap.size := by obtain ⟨N, F, h1, _⟩ := C'.ex; exact h1.lt
  have hpl := B.lt
  obtain ⟨n, hn⟩ : ∃ n, us.length = n := ⟨_, rfl⟩
  have HN := Lib.hid hn
  rw [hn] at c1 hcap hpos hl HK
  have hneq := neq_same f
  clear hk B B' C C' hp hq h hu hb hub hvb hn
  go_enter Tryz.func227, Tryz.ntmps227
  go_wp2_with fail
  go_region_held3 (fun w' => w'.cell? ⟨p, 0, none⟩ = some (.pointer (some ⟨f, 0, none⟩)) ∧ w'.cell? ⟨q, 0, none⟩ = some (.pointer (some ⟨f, 0, none⟩)))
    (first
     | exact ⟨(HK.out _ (Fr.refl _ _).drew).1, (HK.out _ (Fr.refl _ _).drew).2.2.1⟩) ((first | fail))
  clear c0 c1 d0 d1
  have hd1 : Fr Nil w w.drew := (Fr.refl _ _).drew
  obtain ⟨c0, c1, d0, d1⟩ := HK.out _ hd1
  obtain ⟨wd, hwd⟩ : ∃ wd, wd = w.drew := ⟨_, rfl⟩
  have hsz := hd1.size
  have HZ1 := Lib.hid (hz1.out _ hd1)
  have HZ2 := Lib.hid (hz2.out _ hd1)
  rw [← hwd] at hd1 c0 c1 d0 d1 hsz HZ1 HZ2 ⊢
  clear hwd hneq hz1 hz2
  obtain ⟨G, hG⟩ : ∃ G, wd.heap.size = G := ⟨_, rfl⟩
  have hmk := mkInts (n + 1) (by omega) wd
  rw [hG, show ((n + 1 : Nat) : Int) = (n : Int) + 2 - 1 from by omega] at hmk
  have hmk2 := mkInts (n + 1) (by omega) wd
  rw [hG, show ((n + 1 : Nat) : Int) = (n : Int) + 1 from by omega] at hmk2
  have hr := World.rowIs_made wd (.int .i64 0) (n + 1) 3
  rw [hG] at hr hsz
  have HR := Lib.hid hr
  have hal : Fr Nil wd (wd.alloc (.cells (madeCells #[.int .i64 0] (n + 1)) 3)) := (Fr.refl _ _).alloc _
  have HAL := Lib.hid hal
  clear hr hal
  go_wp2_with fail
  refine HZ1.out.mono ?_
  rintro e w1 ⟨rfl, rfl⟩
  go_wp2_with fail
  refine HZ2.out.mono ?_
  rintro e w1 ⟨rfl, rfl⟩
  clear HZ1 HZ2
  go_wp2_with fail
  have hN := HN
  clear hmk hmk2
  go_loopg [11, 12, 13] n (fun r s11 s12 s13 wr => ∃ i : Nat, i + r = n ∧ s11 = .int .i64 i ∧ wr.rowIs G 3 (n + 1) (fun t => i64 (m2 us b0 b1 i i t)) ∧ Fr Nil wd wr)
  case atStart => exact ⟨0, by omega, rfl, HR.out.congr (fun t _ => by rw [m2_zero]; rfl), HAL.out⟩
  case round =>
    obtain ⟨i, hi, rfl, hrow, hF⟩ := hrel
    clear HR HAL
    cases gk with
    | zero =>
      have hin : i = n := by omega
      subst hin
      have hz : ¬ (i : Int) < (i : Int) := by omega
      have hl2 : (pm2 us b0 b1).length = i + 1 := by rw [pm2_length, HN.out]
      have hco : CoAt wr lo G 0 (i + 1) (pm2 us b0 b1) := ⟨⟨i + 1, _, hrow, fun j hj => by
        rw [hl2] at hj
        rw [Nat.zero_add, pm2_getD _ _ _ _ (by rw [HN.out]; exact hj), HN.out], by rw [hl2]; omega⟩, by rw [hl2]; exact Nat.le_refl _, by omega⟩
      have HPP := newPoly_calls (f := f) hco (by rw [hl2]; omega) (by rw [hl2]; omega) (pm2_elems b0 b1) (by have := hF.size; omega)
      rw [hl2] at HPP
      have HP' := Lib.hid HPP
      have k0 := hF.cell_some c0 (fun e => e)
      have HF := Lib.hid (hd1.trans hF)
      clear hco HPP hrow hl2 c0 c1 d0 d1
      go_wp2_with fail
      refine HP'.out.mono ?_
      rintro e w1 ⟨q', rfl, hP, hF1⟩
      go_wp2_with fail
      go_ret2
      exact ⟨q', rfl, hP, HF.out.trans hF1⟩
    | succ r =>
      have hz : (i : Int) < (n : Int) := by omega
      have hca := hF.cell_some ((HC.out.fr hd1 (fun e => e)).cell (i := i) (by rw [HN.out]; omega)) (fun e => e)
      have hx : us.getD i 0 < 256 := HP.out.el _ (by rw [List.getD_eq_getElem?_getD, List.getElem?_eq_getElem (by rw [HN.out]; omega)]; exact List.getElem_mem _)
      have hb0 : b0 < 256 := HQ.out.el b0 (by simp)
      have hb1 : b1 < 256 := HQ.out.el b1 (by simp)
      obtain ⟨x, hxx⟩ : ∃ x, us.getD i 0 = x := ⟨_, rfl⟩
      rw [hxx] at hca hx
      have HX := Lib.hid hxx
      have HI := Lib.hid hi
      clear hxx hi
      go_wp2_with fail
      go_loopg [13] 2 (fun r2 s13 wq => ∃ j : Nat, j + r2 = 2 ∧ s13 = .int .i64 j ∧ wq.rowIs G 3 (n + 1) (fun t => i64 (m2 us b0 b1 (i + min j 1) (i + (j - 1)) t)) ∧ Fr Nil wd wq)
      case atStart => exact ⟨0, rfl, rfl, hrow, hF⟩
      case round =>
        obtain ⟨j, hj, rfl, hrow2, hF2⟩ := hrel
        clear hrow hF hca
        cases gk with
        | zero =>
          have hj2 : j = 2 := by omega
          subst hj2
          go_wp2_with fail
          go_roundg r
          case measure => have := HI.out; omega
          case rel => exact ⟨i + 1, by have := HI.out; omega, by go_num, hrow2, hF2⟩
        | succ r2 =>
          have hj2 : j < 2 := by omega
          have hjz : (j : Int) < 2 := by omega
          obtain ⟨t, ht⟩ : ∃ t, i + j = t := ⟨_, rfl⟩
          have htn : t < n + 1 := by have := HI.out; omega
          have htz : (t : Int) < ((n + 1 : Nat) : Int) := by omega
          have htz2 : (t : Int) < (n : Int) + 1 := by omega
          have hw1 : IntKind.i64.wrap ((i : Int) + (j : Int)) = (t : Int) := by rw [show (i : Int) + (j : Int) = (t : Int) from by omega]; exact IntWalk.i64_in _ (by omega)
          have hy : [b0, b1].getD j 0 < 256 := HQ.out.el _ (by rw [List.getD_eq_getElem?_getD, List.getElem?_eq_getElem (by simpa using hj2)]; exact List.getElem_mem _)
          have hkk : ∀ w', Fr (One G) wr w' → w'.cell? ⟨p, 0, none⟩ = some (.pointer (some ⟨f, 0, none⟩)) ∧ w'.cell? ⟨b', o' + j, none⟩ = some (i64 ([b0, b1].getD j 0)) := fun w' hw => by
            have hp' : ¬ One G p := fun e => by have : p = G := e; omega
            have hb' : ¬ One G b' := fun e => by have : b' = G := e; omega
            exact ⟨hw.cell_some (hF2.cell_some c0 (fun e => e)) hp', hw.cell_some (hF2.cell_some ((HC'.out.fr hd1 (fun e => e)).cell (i := j) (by simpa using hj2)) (fun e => e)) hb'⟩
          have hnew : ∀ w', Fr Nil wr w' → Hid (w'.rowIs G 3 (n + 1) (fun t => i64 (m2 us b0 b1 (i + min j 1) (i + (j - 1)) t)) ∧ w'.cell? ⟨G, t, none⟩ = some (i64 (m2 us b0 b1 (i + min j 1) (i + (j - 1)) t)) ∧ w'.frozen? ⟨G, t, none⟩ = false) := fun w' hw => Lib.hid (by
            have hr := rowFr hrow2 hw (fun e => e)
            exact ⟨hr, hr.cell htn, hr.frozen t⟩)
          have hst : ∀ v, Hid (v = m2 us b0 b1 (i + min j 1) (i + (j - 1)) t ^^^ gmul x ([b0, b1].getD j 0)) → ∀ w', Fr Nil wr w' → Hid ((w'.setCell ⟨G, t, none⟩ (i64 v)).rowIs G 3 (n + 1) (fun t => i64 (m2 us b0 b1 (i + min (j + 1) 1) (i + (j + 1 - 1)) t)) ∧ Fr Nil wd (w'.setCell ⟨G, t, none⟩ (i64 v))) := fun v hv w' hw => Lib.hid
            ⟨((hnew w' hw).out.1.set t _).congr (fun s hs => by
              rw [m2_step us b0 b1 i j s hj2, HX.out]
              by_cases hst : s = t
              · rw [if_pos hst, if_pos (by omega), hv.out, ht]
              · rw [if_neg hst, if_neg (by omega)]), (hF2.trans hw).setNew (by omega) _ _⟩
          have hmul : ∀ w', Fr Nil wr w' → Hid (Calls Tryz.prog 229 #[.pointer (some ⟨f, 0, none⟩), .int .i64 (x : Int), .int .i64 (([b0, b1].getD j 0 : Nat) : Int)] w' fun e w'' => e = .returned (.int .i64 (gmul x ([b0, b1].getD j 0))) ∧ Fr Nil w' w'') :=
            fun w' hw => Lib.hid (mul_calls (((HG.out.nil hd1).nil hF2).nil hw) _ _ hx hy)
          have hzl := m2_lt us b0 b1 (i + min j 1) (i + (j - 1)) t
          have hgl : gmul x ([b0, b1].getD j 0) < 256 := gmul_lt
          have HKK := Lib.hid hkk
          have HNEW := Lib.hid hnew
          have HST := Lib.hid hst
          have HMUL := Lib.hid hmul
          have HT := Lib.hid ht
          have HJ := Lib.hid hj
          clear hkk hnew hst hmul ht hj hrow2
          obtain ⟨z, hzz⟩ : ∃ z, m2 us b0 b1 (i + min j 1) (i + (j - 1)) t = z := ⟨_, rfl⟩
          rw [hzz] at HNEW HST hzl
          clear hzz
          obtain ⟨y, hyy⟩ : ∃ y, [b0, b1].getD j 0 = y := ⟨_, rfl⟩
          rw [hyy] at HKK HMUL HST hy hgl
          clear hyy
          obtain ⟨g, hgg⟩ : ∃ g, gmul x y = g := ⟨_, rfl⟩
          rw [hgg] at HMUL HST hgl
          clear hgg
          have HA := Lib.hid (fun w' => addSub_calls w' z g hzl hgl)
          obtain ⟨v, hv⟩ : ∃ v, v = z ^^^ g := ⟨_, rfl⟩
          rw [← hv] at HA
          have HV := Lib.hid hv
          clear hv
          have kz0 := (HNEW.out _ (Fr.refl _ _)).out.2.1
          obtain ⟨kp0, kb0⟩ := HKK.out _ (Fr.refl _ _)
          go_wp2_with fail
          go_region_with
            ((first
              | (go_at_call 229; refine ((HMUL.out _ (Fr.refl _ _).drew).out).mono ?_; rintro e w1 ⟨rfl, hf1⟩; have hfa : Fr Nil wr w1 := hf1.from_drew; have kz := (HNEW.out _ hfa).out.2.1; have kz2 := (HNEW.out _ hfa).out.2.2)
              | (go_at_call 267; refine (HA.out _).mono ?_; rintro e w1 ⟨rfl, rfl⟩)); go_wp2_with fail)
          all_goals
            go_wp2
            go_roundg r2
            case measure => omega
            case rel => exact ⟨j + 1, by have := HJ.out; omega, by go_num, (HST.out v HV _ hfa).out.1, (HST.out v HV _ hfa).out.2⟩
end Go.Proofs.YtcekbhhpcmhicaaGreatDoor
/- Division by a polynomial whose first coefficient is 1. -/
namespace Go.Proofs.YtcekbhhpcmhicaaGreatDoor
open Go Go.RowKit Go.Deep
set_option maxRecDepth 100000
theorem norm_head : ∀ cs : List Nat, cs ≠ [] → (norm cs).length = 1 ∨ (norm cs).getD 0 0 ≠ 0
  | [], h => absurd rfl h
  | [c], _ => by simp [norm]
  | 0 :: c :: r, _ => by simp only [norm]; exact norm_head (c :: r) (by simp)
  | (n + 1) :: c :: r, _ => by simp [norm]
/-- one step of the division: the remainder rs, the divisor gs -/
def termOf (gs : List Nat) (r0 d : Nat) : List Nat := gs.map (gmul r0) ++ List.replicate d 0
theorem termOf_length (gs : List Nat) (r0 d : Nat) : (termOf gs r0 d).length = gs.length + d := by simp [termOf]
theorem termOf_head {gs : List Nat} (h : gs.getD 0 0 = 1) (h1 : 0 < gs.length) {r0 : Nat} (hr : r0 < 256) (d : Nat) : (termOf gs r0 d).getD 0 0 = r0 := by
  cases gs with
  | nil => simp at h1
  | cons g gs =>
    have : g = 1 := by simpa using h
    subst this
    simp [termOf, gmul_one_right hr]
theorem step_ev {gs rs : List Nat} (hg : Elems gs) (hr : Elems rs) {d y : Nat} (hl : gs.length + d = rs.length) (hy : y < 256) (h0 : ev gs y = 0) (hr0 : rs.getD 0 0 < 256) :
    ev (norm (padd rs (termOf gs (rs.getD 0 0) d))) y = ev rs y := by
  rw [ev_norm, ev_padd (ys := termOf gs (rs.getD 0 0) d) (by rw [termOf_length]; omega) hr (append_elems (map_elems _ _) (zeros_elems _)) hy]
  have : ev (termOf gs (rs.getD 0 0) d) y = 0 := by
    unfold termOf
    exact ev_zeros_right _ _ (by rw [ev_map _ _ hr0 hy gs hg, h0, gmul_zero_right]) d
  rw [this, Nat.xor_zero]
theorem step_len {gs rs : List Nat} {d : Nat} (h : gs.getD 0 0 = 1) (h2 : 2 ≤ gs.length) (hl : gs.length + d = rs.length) (hr0 : rs.getD 0 0 < 256) :
    (norm (padd rs (termOf gs (rs.getD 0 0) d))).length < rs.length := by
  have hp : (padd rs (termOf gs (rs.getD 0 0) d)).length = rs.length := by rw [padd_length (by rw [termOf_length]; omega), termOf_length, hl]
  have h0 : (padd rs (termOf gs (rs.getD 0 0) d)).getD 0 0 = 0 := by
    rw [padd_getD (by rw [termOf_length]; omega) 0 (by rw [termOf_length]; omega), if_neg (by rw [termOf_length]; omega), termOf_head h (by omega) hr0, Nat.zero_sub, Nat.xor_self]
  cases hc : padd rs (termOf gs (rs.getD 0 0) d) with
  | nil => rw [hc] at hp; simp at hp; omega
  | cons c cs =>
    rw [hc] at h0 hp
    have : c = 0 := by simpa using h0
    subst this
    have := norm_zero_length cs (by intro e; subst e; simp at hp; omega)
    simp at hp
    omega
theorem ginv_one : ginv 1 = 1 := by decide +kernel
theorem gmul_r1 {x : Nat} (h : x < 256) : gmul x 1 = x := gmul_one_right h
theorem getD_lt {cs : List Nat} (h : Elems cs) (i : Nat) : cs.getD i 0 < 256 := by
  rw [List.getD_eq_getElem?_getD]
  rcases Nat.lt_or_ge i cs.length with hi | hi
  · rw [List.getElem?_eq_getElem hi]; exact h _ (List.getElem_mem _)
  · rw [List.getElem?_eq_none hi]; simp
set_option maxHeartbeats 3200000 in
theorem divide_calls {w : World} {lo f p q : Nat} {us gs : List Nat} (h : GFAt w lo f) (hp : PolyAt w lo p f us) (hq : PolyAt w lo q f gs) (hlo : lo ≤ w.heap.size) (hu : us.length = 1 ∨ us.getD 0 0 ≠ 0) (hm : gs.getD 0 0 = 1) (h2 : 2 ≤ gs.length) :
    Calls Tryz.prog 192 #[.pointer (some ⟨p, 0, none⟩), .pointer (some ⟨q, 0, none⟩)] w fun e w' => ∃ a r rs, e = .returned (.tuple #[.pointer (some ⟨a, 0, none⟩), .pointer (some ⟨r, 0, none⟩), .nilIface]) ∧ PolyAt w' lo r f rs ∧ Fr Nil w w' ∧
      rs.length < gs.length ∧ ∀ y, y < 256 → ev gs y = 0 → ev rs y = ev us y := by
  have hk : ∀ w', Fr Nil w w' → w'.cell? ⟨p, 0, none⟩ = some (.pointer (some ⟨f, 0, none⟩)) ∧ w'.cell? ⟨q, 0, none⟩ = some (.pointer (some ⟨f, 0, none⟩)) := fun w' hw => ⟨hw.cell_some hp.c0 (fun e => e), hw.cell_some hq.c0 (fun e => e)⟩
  have HK := Lib.hid hk
  have HP := Lib.hid hp
  have HQ := Lib.hid hq
  have HG := Lib.hid h
  have HM := Lib.hid hm
  have HU := Lib.hid hu
  have hneq := neq_same f
  obtain ⟨c0, d0⟩ := hk w (Fr.refl _ _)
  obtain ⟨m, hgm⟩ : ∃ m, gs.length = m + 1 := ⟨gs.length - 1, by omega⟩
  have HGM := Lib.hid hgm
  have hm1 : 1 ≤ m := by omega
  have hm2 : m ≤ 1000 := by have := hq.small; omega
  have hQZ : Hid (∀ w', Fr Nil w w' → Calls Tryz.prog 230 #[.pointer (some ⟨q, 0, none⟩)] w' fun e w'' => e = .returned (.bool false) ∧ w' = w'') := Lib.hid (fun w' hw => by
    have := isZero_calls (hq.nil hw)
    rwa [show (((gs.getD 0 0 : Nat) : Int) == 0) = false from beq_eq_false_iff_ne.2 (by rw [hm]; omega)] at this)
  have hQD : Hid (∀ w', Fr Nil w w' → Calls Tryz.prog 232 #[.pointer (some ⟨q, 0, none⟩)] w' fun e w'' => e = .returned (.int .i64 (m : Int)) ∧ w' = w'') := Lib.hid (fun w' hw => by
    have := degree_calls (hq.nil hw)
    rwa [hgm, Nat.add_sub_cancel] at this)
  have hQC : Hid (∀ w', Fr Nil w w' → Calls Tryz.prog 231 #[.pointer (some ⟨q, 0, none⟩), .int .i64 (m : Int)] w' fun e w'' => e = .returned (.int .i64 1) ∧ Fr Nil w' w'') := Lib.hid (fun w' hw => by
    have := coef_calls (hq.nil hw) m (by omega)
    rw [hgm, Nat.add_sub_cancel, Nat.sub_self, hm] at this
    exact this)
  have hZ : Hid (∀ w', Fr Nil w w' → Calls Tryz.prog 228 #[.pointer (some ⟨f, 0, none⟩)] w' fun e w'' => (∃ z, e = .returned (.pointer (some ⟨z, 0, none⟩)) ∧ PolyAt w' lo z f [0]) ∧ w' = w'') := Lib.hid (fun w' hw => getZero_calls (h.nil hw))
  have hI : Hid (∀ w', Fr Nil w w' → Calls Tryz.prog 233 #[.pointer (some ⟨f, 0, none⟩), .int .i64 1] w' fun e w'' => e = .returned (.tuple #[.int .i64 1, .nilIface]) ∧ Fr Nil w' w'') := Lib.hid (fun w' hw => by
    have := inv_calls (h.nil hw) 1 (by omega) (by omega)
    rw [ginv_one] at this
    exact this)
  clear hk hp hq h hm hu hgm h2
  go_enter Tryz.func192, Tryz.ntmps192
  go_wp2_with fail
  go_region_held3 (fun w' => w'.cell? ⟨p, 0, none⟩ = some (.pointer (some ⟨f, 0, none⟩)) ∧ w'.cell? ⟨q, 0, none⟩ = some (.pointer (some ⟨f, 0, none⟩)))
    (first
     | exact HK.out _ (Fr.refl _ _).drew) ((first | fail))
  clear c0 d0
  have hd1 : Fr Nil w w.drew := (Fr.refl _ _).drew
  obtain ⟨c0, d0⟩ := HK.out _ hd1
  obtain ⟨wd, hwd⟩ : ∃ wd, wd = w.drew := ⟨_, rfl⟩
  rw [← hwd] at hd1 c0 d0 ⊢
  clear hwd hneq
  go_wp2_with fail
  refine (hQZ.out _ hd1).mono ?_
  rintro e w1 ⟨rfl, rfl⟩
  go_wp2_with fail
  refine (hZ.out _ hd1).mono ?_
  rintro e w1 ⟨⟨z, rfl, hz⟩, rfl⟩
  go_wp2_with fail
  refine (hQD.out _ hd1).mono ?_
  rintro e w1 ⟨rfl, rfl⟩
  go_wp2_with fail
  refine (hQC.out _ hd1).mono ?_
  rintro e w1 ⟨rfl, hf1⟩
  have hd2 := hd1.trans hf1
  have hz2 := hz.nil hf1
  clear hd1 hf1 c0 d0 hz
  obtain ⟨c0, d0⟩ := HK.out _ hd2
  go_wp2_with fail
  refine (hI.out _ hd2).mono ?_
  rintro e w2 ⟨rfl, hf1⟩
  have hd3 := hd2.trans hf1
  have HZ := Lib.hid (hz2.nil hf1)
  clear hd2 hf1 c0 d0 hz2
  go_wp2_with fail
  have hps := HP.out.small
  go_loopg [4, 5, 6, 9, 10, 11, 12, 13] us.length (fun r s4 s5 s6 s9 s10 s11 s12 s13 wr => ∃ (a p2 k : Nat) (as_ rs : List Nat), s4 = .pointer (some ⟨a, 0, none⟩) ∧ s5 = .pointer (some ⟨p2, 0, none⟩) ∧ k ≤ r ∧
    Hid (PolyAt wr lo a f as_ ∧ PolyAt wr lo p2 f rs ∧ rs.length = k + 1 ∧ (rs.length = 1 ∨ rs.getD 0 0 ≠ 0) ∧ ∀ y, y < 256 → ev gs y = 0 → ev rs y = ev us y) ∧ k ≤ 1000 ∧ Fr Nil w wr)
  case atStart => exact ⟨z, p, us.length - 1, [0], us, rfl, rfl, by omega, Lib.hid ⟨HZ.out, HP.out.nil hd3, by have := HP.out.pos; omega, HU.out, fun _ _ _ => rfl⟩, by omega, hd3⟩
  case round =>
    obtain ⟨a, p2, k, as_, rs, rfl, rfl, hkr, HR, hk1, hF⟩ := hrel
    clear HZ hd3 hps hQZ hQC hZ hI
    have hD := degree_calls HR.out.2.1
    rw [HR.out.2.2.1, Nat.add_sub_cancel] at hD
    have HD := Lib.hid (fun w' (hw : Fr Nil wr w') => (show Calls Tryz.prog 232 #[.pointer (some ⟨p2, 0, none⟩)] w' fun e w'' => e = .returned (.int .i64 (k : Int)) ∧ w' = w'' by
      have := degree_calls (HR.out.2.1.nil hw)
      rwa [HR.out.2.2.1, Nat.add_sub_cancel] at this))
    clear hD
    by_cases hkm : k < m
    · have hkz : ¬ (m : Int) ≤ (k : Int) := by omega
      go_wp2_with fail
      refine (HD.out _ (Fr.refl _ _)).mono ?_
      rintro e w3 ⟨rfl, rfl⟩
      go_wp2_with fail
      refine (hQD.out _ hF).mono ?_
      rintro e w3 ⟨rfl, rfl⟩
      go_wp2_with fail
      go_ret3
      exact ⟨a, p2, rs, rfl, HR.out.2.1, hF, by have := HR.out.2.2.1; have := HGM.out; omega, HR.out.2.2.2.2⟩
    · have hkz : (m : Int) ≤ (k : Int) := by omega
      have hr0 : rs.getD 0 0 ≠ 0 := by
        rcases HR.out.2.2.2.1 with h1 | h1
        · have := HR.out.2.2.1; omega
        · exact h1
      have HZR := Lib.hid (fun w' (hw : Fr Nil wr w') => (show Calls Tryz.prog 230 #[.pointer (some ⟨p2, 0, none⟩)] w' fun e w'' => e = .returned (.bool false) ∧ w' = w'' by
        have := isZero_calls (HR.out.2.1.nil hw)
        rwa [show (((rs.getD 0 0 : Nat) : Int) == 0) = false from beq_eq_false_iff_ne.2 (by omega)] at this))
      have hr0l := getD_lt HR.out.2.1.el 0
      obtain ⟨d, hd⟩ : ∃ d, d + m = k := ⟨k - m, by omega⟩
      have hdz : (k : Int) - (m : Int) = (d : Int) := by omega
      have HDD := Lib.hid hd
      have hlen : Hid (gs.length + d = rs.length) := Lib.hid (by have := HR.out.2.2.1; have := HGM.out; omega)
      have hSL := Lib.hid (step_len HM.out (by have := HGM.out; omega) hlen.out hr0l)
      have hSE := Lib.hid (fun y (hy : y < 256) h0 => (step_ev HQ.out.el HR.out.2.1.el hlen.out hy h0 hr0l).trans (HR.out.2.2.2.2 y hy h0))
      have hSH := Lib.hid (norm_head (padd rs (termOf gs (rs.getD 0 0) d)) (by intro e; have h1 := padd_length (xs := rs) (ys := termOf gs (rs.getD 0 0) d) (by rw [termOf_length, hlen.out]; exact Nat.le_refl _); rw [e, termOf_length] at h1; simp at h1; have := HGM.out; omega))
      have HCO := Lib.hid (fun w' (hw : Fr Nil wr w') => (show Calls Tryz.prog 231 #[.pointer (some ⟨p2, 0, none⟩), .int .i64 (k : Int)] w' fun e w'' => e = .returned (.int .i64 (rs.getD 0 0 : Nat)) ∧ Fr Nil w' w'' by
        have := coef_calls (HR.out.2.1.nil hw) k (by rw [HR.out.2.2.1]; omega)
        rwa [HR.out.2.2.1, Nat.add_sub_cancel, Nat.sub_self] at this))
      have HMU := Lib.hid (fun w' (hw : Fr Nil wr w') => (show Calls Tryz.prog 229 #[.pointer (some ⟨f, 0, none⟩), .int .i64 (rs.getD 0 0 : Nat), .int .i64 1] w' fun e w'' => e = .returned (.int .i64 (rs.getD 0 0 : Nat)) ∧ Fr Nil w' w'' by
        have := mul_calls ((HG.out.nil hF).nil hw) (rs.getD 0 0) 1 hr0l (by omega)
        rwa [gmul_r1 hr0l] at this))
      have HTM := Lib.hid (fun w' (hw : Fr Nil wr w') (hl : lo ≤ w'.heap.size) => (show Calls Tryz.prog 191 #[.pointer (some ⟨q, 0, none⟩), .int .i64 d, .int .i64 (rs.getD 0 0 : Nat)] w' fun e w'' => ∃ t, e = .returned (.tuple #[.pointer (some ⟨t, 0, none⟩), .nilIface]) ∧ PolyAt w'' lo t f (termOf gs (rs.getD 0 0) d) ∧ Fr Nil w' w'' by
        have := mulMono_calls ((HG.out.nil hF).nil hw) ((HQ.out.nil hF).nil hw) hl d (rs.getD 0 0) (by rw [hlen.out]; exact HR.out.2.1.small) hr0l (by omega)
        have hb := norm_big (termOf gs (rs.getD 0 0) d) (.inr (by rw [termOf_head HM.out (by have := HGM.out; omega) hr0l]; exact hr0))
        unfold termOf at hb ⊢
        rwa [hb] at this))
      have HMO := Lib.hid (fun w' (hw : Fr Nil wr w') (hl : lo ≤ w'.heap.size) => monomial_calls ((HG.out.nil hF).nil hw) hl d (rs.getD 0 0) (by omega) hr0l (by omega))
      have HKK := Lib.hid (fun w' (hw : Fr Nil wr w') => HK.out w' (hF.trans hw))
      have hszr := hF.size
      have hth := Lib.hid (termOf_head HM.out (by have := HGM.out; omega) hr0l d)
      have htl := Lib.hid (termOf_length gs (rs.getD 0 0) d)
      generalize htt : termOf gs (rs.getD 0 0) d = ts at *
      have hr00 := Lib.hid hr0
      generalize hrr : rs.getD 0 0 = r0 at *
      have HRR := Lib.hid hrr
      clear htt hrr hr0 hd
      go_wp2_with fail
      refine (HD.out _ (Fr.refl _ _)).mono ?_
      rintro e w3 ⟨rfl, rfl⟩
      go_wp2_with fail
      refine (hQD.out _ hF).mono ?_
      rintro e w3 ⟨rfl, rfl⟩
      go_wp2_with fail
      refine (HZR.out _ (Fr.refl _ _)).mono ?_
      rintro e w3 ⟨rfl, rfl⟩
      go_wp2_with fail
      refine (HD.out _ (Fr.refl _ _)).mono ?_
      rintro e w3 ⟨rfl, rfl⟩
      go_wp2_with fail
      refine (hQD.out _ hF).mono ?_
      rintro e w3 ⟨rfl, rfl⟩
      go_wp2_with fail
      have hloW := Nat.le_trans hlo hszr
      go_region_held3 (fun w' => w'.cell? ⟨p, 0, none⟩ = some (.pointer (some ⟨f, 0, none⟩)))
        (first
          | exact (HKK.out _ (Fr.refl _ _).drew).1
          | exact (HKK.out _ hfa).1
          | exact (HKK.out _ hfb).1)
        ((first
          | (go_at_call 232; refine (HD.out _ (Fr.refl _ _).drew).mono ?_; rintro e w3 ⟨rfl, rfl⟩)
          | (go_at_call 231; refine (HCO.out _ (Fr.refl _ _).drew).mono ?_; rintro e w4 ⟨rfl, hf4⟩; have hfa : Fr Nil wr w4 := hf4.from_drew)
          | (go_at_call 229; refine (HMU.out _ hfa).mono ?_; rintro e w5 ⟨rfl, hf5⟩; have hfb : Fr Nil wr w5 := hfa.trans hf5)))
      go_wp2_with fail
      refine (HTM.out _ hfb (Nat.le_trans hloW hfb.size)).mono ?_
      rintro e w6 ⟨t, rfl, hT, hf6⟩
      have hfc := hfb.trans hf6
      have k0 := (HKK.out _ hfc).1
      go_wp2_with fail
      refine (HMO.out _ hfc (Nat.le_trans hloW hfc.size)).mono ?_
      rintro e w7 ⟨t2, rfl, hT2, hf7⟩
      have hfd := hfc.trans hf7
      have HT := Lib.hid (hT.nil hf7)
      have HT2 := Lib.hid hT2
      clear k0 hT hT2 hf6 hf7 hfc hfa hfb hf4 hf5
      go_wp2_with fail
      refine (addPoly_calls (HR.out.1.nil hfd) HT2.out (Nat.le_trans hloW hfd.size)).mono ?_
      rintro e w8 ⟨t3, qs, rfl, hT3, hf8, -⟩
      have hfe := hfd.trans hf8
      have HT3 := Lib.hid hT3
      have HT' := Lib.hid (HT.out.nil hf8)
      clear hT3 HT HT2
      go_wp2_with fail
      refine (addPoly_calls (HR.out.2.1.nil hfe) HT'.out (Nat.le_trans hloW hfe.size)).mono ?_
      rintro e w9 ⟨t4, ns, rfl, hT4, hf9, hor⟩
      have hnew : Hid (ns = norm (padd rs ts)) := Lib.hid (by
        have h1 := hth.out
        have h2 := htl.out
        have h3 := hlen.out
        rcases hor with ⟨h, _⟩ | ⟨h, _⟩ | ⟨_, h⟩ | ⟨h, _⟩
        · exact absurd (HRR.out.symm.trans h) hr00.out
        · exact absurd (h1.symm.trans h) hr00.out
        · exact h
        · omega)
      have HNS := Lib.hid (show PolyAt w9 lo t4 f (norm (padd rs ts)) from hnew.out ▸ hT4)
      have HT3' := Lib.hid (HT3.out.nil hf9)
      have hfF := hF.trans (hfe.trans hf9)
      clear hor hT4 hnew HT3 HT' hf8 hf9 hfd hfe
      go_wp2_with fail
      go_roundg (k - 1)
      case measure => omega
      case rel => exact ⟨t3, t4, (norm (padd rs ts)).length - 1, qs, norm (padd rs ts), rfl, rfl, by have := hSL.out; have := HR.out.2.2.1; omega,
        Lib.hid ⟨HT3'.out, HNS.out, by have := HNS.out.pos; omega, hSH.out, hSE.out⟩, by have := HNS.out.small; omega, hfF⟩
end Go.Proofs.YtcekbhhpcmhicaaGreatDoor
