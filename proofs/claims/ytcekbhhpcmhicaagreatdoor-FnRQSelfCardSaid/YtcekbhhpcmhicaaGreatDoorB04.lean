/- Tables of rows, and the encoder's four. -/
import Derived.Test.YtcekbhhpcmhicaaGreatDoorB02
import Derived.Test.YtcekbhhpcmhicaaGreatDoorB03
set_option linter.unusedSimpArgs false
set_option linter.unusedVariables false
namespace Go.Proofs.YtcekbhhpcmhicaaGreatDoor
open Go Go.RowKit Go.Deep
set_option maxRecDepth 100000
def tabRows (t : TypeId) (T : List (List Value)) : List (TypeId × List Value) := T.map fun r => (t, r)
def tabTop (w : World) (t : TypeId) (T : List (List Value)) (c : Nat) : List Value := (List.range T.length).map fun i => sl (lay w ((tabRows t T).take i)).heap.size c
def tabW (w : World) (t top : TypeId) (T : List (List Value)) (c : Nat) : World := (lay w (tabRows t T)).alloc (.cells (tabTop w t T c).toArray top)
theorem tab_fr (w : World) (t top : TypeId) (T : List (List Value)) (c : Nat) : Fr Nil w (tabW w t top T c) := (lay_fr _ _).alloc _
theorem tab_size (w : World) (t top : TypeId) (T : List (List Value)) (c : Nat) : (lay w (tabRows t T)).heap.size = w.heap.size + T.length := by rw [lay_size]; simp [tabRows]
theorem tab_row (w : World) (t top : TypeId) (T : List (List Value)) (c : Nat) {y : Nat} {r : List Value} (hr : T[y]? = some r) : (tabW w t top T c).cell? ⟨w.heap.size + T.length, y, none⟩ = some (sl (w.heap.size + y) c) ∧
    Blk (tabW w t top T c) (w.heap.size + y) t r.toArray := by
  have hy : y < T.length := (List.getElem?_eq_some_iff.1 hr).1
  constructor
  · have hb := Blk.new (lay w (tabRows t T)) top (tabTop w t T c).toArray
    rw [tab_size w t top T c] at hb
    rw [tabW, hb.cell y]
    unfold tabTop
    rw [List.getElem?_toArray, List.getElem?_map, List.getElem?_range hy, Option.map_some]
    rw [lay_size, List.length_take]
    simp only [tabRows, List.length_map, Nat.min_eq_left (Nat.le_of_lt hy)]
  · exact (lay_blk (tabRows t T) w y t r (by unfold tabRows; rw [List.getElem?_map, hr]; rfl)).fr ((Fr.refl Nil _).alloc _) (fun e => e)
theorem tab_cell (w : World) (t top : TypeId) (T : List (List Value)) (c : Nat) {y x : Nat} {r : List Value} {v : Value} (hr : T[y]? = some r) (hv : r[x]? = some v) : (tabW w t top T c).cell? ⟨w.heap.size + y, x, none⟩ = some v := by
  rw [(tab_row w t top T c hr).2.cell x, List.getElem?_toArray, hv]
/-- numbers as values -/
def tab8 (L : List (List Int)) : List (List Value) := L.map fun r => r.map (Value.int .i8)
def tab64 (L : List (List Int)) : List (List Value) := L.map fun r => r.map (Value.int .i64)
def at2 (L : List (List Int)) (y x : Nat) : Int := (L.getD y []).getD x 0
def pdpT : List (List Int) := [[1, 1, 1, 1, 1, 1, 1], [1, 0, 0, 0, 0, 0, 1], [1, 0, 1, 1, 1, 0, 1], [1, 0, 1, 1, 1, 0, 1], [1, 0, 1, 1, 1, 0, 1], [1, 0, 0, 0, 0, 0, 1], [1, 1, 1, 1, 1, 1, 1]]
def papT : List (List Int) := [[1, 1, 1, 1, 1], [1, 0, 0, 0, 1], [1, 0, 1, 0, 1], [1, 0, 0, 0, 1], [1, 1, 1, 1, 1]]
def ticT : List (List Int) := [[8, 0], [8, 1], [8, 2], [8, 3], [8, 4], [8, 5], [8, 7], [8, 8], [7, 8], [5, 8], [4, 8], [3, 8], [2, 8], [1, 8], [0, 8]]
def adjT : List (List Int) := [[-1, -1, -1, -1, -1, -1, -1], [6, 18, -1, -1, -1, -1, -1], [6, 22, -1, -1, -1, -1, -1], [6, 26, -1, -1, -1, -1, -1], [6, 30, -1, -1, -1, -1, -1], [6, 34, -1, -1, -1, -1, -1], [6, 22, 38, -1, -1, -1, -1], [6, 24, 42, -1, -1, -1, -1], [6, 26, 46, -1, -1, -1, -1], [6, 28, 50, -1, -1, -1, -1], [6, 30, 54, -1, -1, -1, -1], [6, 32, 58, -1, -1, -1, -1], [6, 34, 62, -1, -1, -1, -1], [6, 26, 46, 66, -1, -1, -1], [6, 26, 48, 70, -1, -1, -1], [6, 26, 50, 74, -1, -1, -1], [6, 30, 54, 78, -1, -1, -1], [6, 30, 56, 82, -1, -1, -1], [6, 30, 58, 86, -1, -1, -1], [6, 34, 62, 90, -1, -1, -1], [6, 28, 50, 72, 94, -1, -1], [6, 26, 50, 74, 98, -1, -1], [6, 30, 54, 78, 102, -1, -1], [6, 28, 54, 80, 106, -1, -1], [6, 32, 58, 84, 110, -1, -1], [6, 30, 58, 86, 114, -1, -1], [6, 34, 62, 90, 118, -1, -1], [6, 26, 50, 74, 98, 122, -1], [6, 30, 54, 78, 102, 126, -1], [6, 26, 52, 78, 104, 130, -1], [6, 30, 56, 82, 108, 134, -1], [6, 34, 60, 86, 112, 138, -1], [6, 30, 58, 86, 114, 142, -1], [6, 34, 62, 90, 118, 146, -1], [6, 30, 54, 78, 102, 126, 150], [6, 24, 50, 76, 102, 128, 154], [6, 28, 54, 80, 106, 132, 158], [6, 32, 58, 84, 110, 136, 162], [6, 26, 54, 82, 110, 138, 166], [6, 30, 58, 86, 114, 142, 170]]
theorem pdp_calls (w : World) : Calls Tryz.prog 198 #[] w fun e w' => e = .returned (sl (w.heap.size + 7) 7) ∧ tabW w 64 145 (tab8 pdpT) 7 = w' :=
  calls_by_run (args := []) Tryz.func198 rfl 9 (by kernel_rfl) 60 (sl (lay w (tabRows 64 (tab8 pdpT))).heap.size 7) (tabW w 64 145 (tab8 pdpT) 7) (by kernel_rfl) ⟨by rw [tab_size w 64 145 (tab8 pdpT) 7]; rfl, rfl⟩
theorem pap_calls (w : World) : Calls Tryz.prog 236 #[] w fun e w' => e = .returned (sl (w.heap.size + 5) 5) ∧ tabW w 64 145 (tab8 papT) 5 = w' :=
  calls_by_run (args := []) Tryz.func236 rfl 7 (by kernel_rfl) 60 (sl (lay w (tabRows 64 (tab8 papT))).heap.size 5) (tabW w 64 145 (tab8 papT) 5) (by kernel_rfl) ⟨by rw [tab_size w 64 145 (tab8 papT) 5]; rfl, rfl⟩
theorem tic_calls (w : World) : Calls Tryz.prog 165 #[] w fun e w' => e = .returned (sl (w.heap.size + 15) 15) ∧ tabW w 3 138 (tab64 ticT) 2 = w' :=
  calls_by_run (args := []) Tryz.func165 rfl 17 (by kernel_rfl) 90 (sl (lay w (tabRows 3 (tab64 ticT))).heap.size 15) (tabW w 3 138 (tab64 ticT) 2) (by kernel_rfl) ⟨by rw [tab_size w 3 138 (tab64 ticT) 2]; rfl, rfl⟩
theorem adj_calls (w : World) : Calls Tryz.prog 203 #[] w fun e w' => e = .returned (sl (w.heap.size + 40) 40) ∧ tabW w 3 138 (tab64 adjT) 7 = w' :=
  calls_by_run (args := []) Tryz.func203 rfl 42 (by kernel_rfl) 400 (sl (lay w (tabRows 3 (tab64 adjT))).heap.size 40) (tabW w 3 138 (tab64 adjT) 7) (by kernel_rfl) ⟨by rw [tab_size w 3 138 (tab64 adjT) 7]; rfl, rfl⟩
theorem tab8_get (L : List (List Int)) {y x : Nat} (hy : y < L.length) (hx : x < (L.getD y []).length) : ∃ r, (tab8 L)[y]? = some r ∧ r[x]? = some (.int .i8 (at2 L y x)) := by
  refine ⟨(L[y]).map (Value.int .i8), by unfold tab8; rw [List.getElem?_map, List.getElem?_eq_getElem hy]; rfl, ?_⟩
  unfold at2
  have e : L.getD y [] = L[y] := by rw [List.getD_eq_getElem?_getD, List.getElem?_eq_getElem hy]; rfl
  rw [e] at hx ⊢
  rw [List.getElem?_map, List.getElem?_eq_getElem hx, List.getD_eq_getElem?_getD, List.getElem?_eq_getElem hx]; rfl
theorem tab64_get (L : List (List Int)) {y x : Nat} (hy : y < L.length) (hx : x < (L.getD y []).length) : ∃ r, (tab64 L)[y]? = some r ∧ r[x]? = some (.int .i64 (at2 L y x)) := by
  refine ⟨(L[y]).map (Value.int .i64), by unfold tab64; rw [List.getElem?_map, List.getElem?_eq_getElem hy]; rfl, ?_⟩
  unfold at2
  have e : L.getD y [] = L[y] := by rw [List.getD_eq_getElem?_getD, List.getElem?_eq_getElem hy]; rfl
  rw [e] at hx ⊢
  rw [List.getElem?_map, List.getElem?_eq_getElem hx, List.getD_eq_getElem?_getD, List.getElem?_eq_getElem hx]; rfl
end Go.Proofs.YtcekbhhpcmhicaaGreatDoor
/- The fixed patterns of the symbol: squares, separators, timing lines. -/
namespace Go.Proofs.YtcekbhhpcmhicaaGreatDoor
open Go Go.RowKit Go.Deep
set_option maxRecDepth 100000
/-- the first y rows, and x cells of the next, of a pattern of k columns laid at (xs, ys) -/
def par (T : List (List Int)) (k xs ys y x : Nat) (M : Nat → Nat → Int) : Nat → Nat → Int := fun y' x' =>
  if (ys ≤ y' ∧ y' < ys + y ∧ xs ≤ x' ∧ x' < xs + k) ∨ (y' = ys + y ∧ xs ≤ x' ∧ x' < xs + x) then at2 T (y' - ys) (x' - xs) else M y' x'
/-- a pattern of k rows and columns laid at (xs, ys) -/
def lai (T : List (List Int)) (k xs ys : Nat) (M : Nat → Nat → Int) : Nat → Nat → Int := fun y x => if ys ≤ y ∧ y < ys + k ∧ xs ≤ x ∧ x < xs + k then at2 T (y - ys) (x - xs) else M y x
theorem par_zero (T : List (List Int)) (k xs ys : Nat) (M : Nat → Nat → Int) : par T k xs ys 0 0 M = M := by
  funext y x; unfold par; rw [if_neg (by omega)]
theorem par_row (T : List (List Int)) (k xs ys y : Nat) (M : Nat → Nat → Int) : par T k xs ys y k M = par T k xs ys (y + 1) 0 M := by
  funext y' x'; unfold par
  by_cases h : (ys ≤ y' ∧ y' < ys + y ∧ xs ≤ x' ∧ x' < xs + k) ∨ (y' = ys + y ∧ xs ≤ x' ∧ x' < xs + k)
  · rw [if_pos h, if_pos (by omega)]
  · rw [if_neg h, if_neg (by omega)]
theorem par_end (T : List (List Int)) (k xs ys : Nat) (M : Nat → Nat → Int) : par T k xs ys k 0 M = lai T k xs ys M := by
  funext y x; unfold par lai
  by_cases h : ys ≤ y ∧ y < ys + k ∧ xs ≤ x ∧ x < xs + k
  · rw [if_pos h, if_pos (.inl h)]
  · rw [if_neg h, if_neg (by omega)]
theorem par_step (T : List (List Int)) (k xs ys y x : Nat) (M : Nat → Nat → Int) : upd (par T k xs ys y x M) (xs + x) (ys + y) (at2 T y x) = par T k xs ys y (x + 1) M := by
  funext y' x'; unfold upd par
  by_cases h : y' = ys + y ∧ x' = xs + x
  · obtain ⟨rfl, rfl⟩ := h
    rw [if_pos ⟨rfl, rfl⟩, if_pos (.inr ⟨rfl, by omega, by omega⟩), Nat.add_sub_cancel_left, Nat.add_sub_cancel_left]
  · rw [if_neg h]
    by_cases h2 : (ys ≤ y' ∧ y' < ys + y ∧ xs ≤ x' ∧ x' < xs + k) ∨ (y' = ys + y ∧ xs ≤ x' ∧ x' < xs + x)
    · rw [if_pos h2, if_pos (by omega)]
    · rw [if_neg h2, if_neg (by omega)]
theorem Rw.nil {w w1 w2 : World} {r n : Nat} (h : Fr (Rw r n) w w1) (h2 : Fr Nil w1 w2) : Fr (Rw r n) w w2 := h.trans' h2 (fun _ _ e => e.elim)

theorem pdpT_rows : ∀ y, y < 7 → ∀ x, x < 7 → y < pdpT.length ∧ x < (pdpT.getD y []).length := by decide
set_option maxHeartbeats 3200000 in
theorem pdpEmbed_calls {w : World} {m r n : Nat} {M : Nat → Nat → Int} (h : BM w m r n M) (xs ys : Nat) (hx : xs + 7 ≤ n) (hy : ys + 7 ≤ n) :
    Calls Tryz.prog 199 #[.int .i64 xs, .int .i64 ys, .pointer (some ⟨m, 0, none⟩)] w fun e w' => e = .returned (.tuple #[]) ∧ BM w' m r n (lai pdpT 7 xs ys M) ∧ Fr (Rw r n) w w' := by
  have hl := h.lim
  have H := Lib.hid h
  clear h
  go_enter Tryz.func199, Tryz.ntmps199
  go_wp2_with fail
  go_loopg [6, 7, 8] 7 (fun q s6 s7 s8 wr => ∃ y : Nat, y + q = 7 ∧ s6 = .int .i64 y ∧ Hid (BM wr m r n (par pdpT 7 xs ys y 0 M)) ∧ Fr (Rw r n) w wr)
  case atStart => exact ⟨0, by omega, rfl, Lib.hid (by rw [par_zero]; exact H.out), Fr.refl _ _⟩
  case round =>
    obtain ⟨y, hyq, rfl, HB, hF⟩ := hrel
    clear H
    cases gk with
    | zero =>
      have hyk : y = 7 := by omega
      subst hyk
      go_wp2_with fail
      go_end0
      exact ⟨rfl, by rw [← par_end]; exact HB.out, hF⟩
    | succ q =>
      have hz : (y : Int) < 7 := by omega
      have hyk : y < 7 := by omega
      have HQ := Lib.hid hyq
      clear hyq
      have HT := Lib.hid (pdp_calls wr)
      have hfr := tab_fr wr 64 145 (tab8 pdpT) 7
      obtain ⟨row, hrow1, _⟩ := tab8_get pdpT (pdpT_rows y hyk 0 (by omega)).1 (pdpT_rows y hyk 0 (by omega)).2
      have hlen : (tab8 pdpT).length = 7 := rfl
      have htr := (tab_row wr 64 145 (tab8 pdpT) 7 hrow1).1
      rw [hlen] at htr
      obtain ⟨B, hB⟩ : ∃ B, wr.heap.size = B := ⟨_, rfl⟩
      have HC := Lib.hid (fun (x : Nat) (hx : x < 7) => (show (tabW wr 64 145 (tab8 pdpT) 7).cell? ⟨B + y, x, none⟩ = some (.int .i8 (at2 pdpT y x)) by
        obtain ⟨row2, h1, h2⟩ := tab8_get pdpT (pdpT_rows y hyk x hx).1 (pdpT_rows y hyk x hx).2
        have := tab_cell wr 64 145 (tab8 pdpT) 7 h1 h2
        rwa [hB] at this))
      rw [hB] at htr HT
      generalize hW : tabW wr 64 145 (tab8 pdpT) 7 = W at *
      have HB2 := Lib.hid (HB.out.nil hfr)
      have hF2 := Rw.nil hF hfr
      have hmr : r + 1 + n ≤ B := by
        have := (HB.out.row (n - 1) (by omega)).lt
        omega
      clear hW HB hF hfr hrow1
      go_wp2_with fail
      refine HT.out.mono ?_
      rintro e w1 ⟨rfl, rfl⟩
      go_wp2_with fail
      clear HT htr
      go_loopg [8] 7 (fun q s8 wq => ∃ x : Nat, x + q = 7 ∧ s8 = .int .i64 x ∧ Hid (BM wq m r n (par pdpT 7 xs ys y x M)) ∧ Fr (Rw r n) W wq)
      case atStart => exact ⟨0, by omega, rfl, HB2, Fr.refl _ _⟩
      case round =>
        obtain ⟨x, hxq, rfl, HB3, hF3⟩ := hrel
        clear HB2
        cases gk with
        | zero =>
          have hxk : x = 7 := by omega
          subst hxk
          go_wp2_with fail
          go_roundg q
          case measure => omega
          case rel => exact ⟨y + 1, by have := HQ.out; omega, by go_num, Lib.hid (by rw [← par_row]; exact HB3.out), hF2.trans hF3⟩
        | succ q2 =>
          have hz2 : (x : Int) < 7 := by omega
          have hxk : x < 7 := by omega
          have hc := hF3.cell_some (HC.out x hxk) (fun e => by have := e.2; simp only at this; omega)
          have HXQ := Lib.hid hxq
          have HS := Lib.hid (bmSet_calls HB3.out (xs + x) (ys + y) (by omega) (by omega) (at2 pdpT y x))
          clear hxq HB3
          generalize hv : at2 pdpT y x = v at *
          have HV := Lib.hid hv
          clear hv
          go_wp2_with fail
          rw [show (xs : Int) + (x : Int) = ((xs + x : Nat) : Int) from by omega, show (ys : Int) + (y : Int) = ((ys + y : Nat) : Int) from by omega]
          refine HS.out.mono ?_
          rintro e w2 ⟨rfl, hb, hf⟩
          have HB4 : Hid (BM w2 m r n (par pdpT 7 xs ys y (x + 1) M)) := Lib.hid (by rw [← par_step, HV.out]; exact hb)
          have hF4 := hF3.trans hf
          clear hb hf hF3 hc
          go_wp2_with fail
          go_roundg q2
          case measure => omega
          case rel => exact ⟨x + 1, by have := HXQ.out; omega, by go_num, HB4, hF4⟩

theorem papT_rows : ∀ y, y < 5 → ∀ x, x < 5 → y < papT.length ∧ x < (papT.getD y []).length := by decide
set_option maxHeartbeats 3200000 in
theorem papEmbed_calls {w : World} {m r n : Nat} {M : Nat → Nat → Int} (h : BM w m r n M) (xs ys : Nat) (hx : xs + 5 ≤ n) (hy : ys + 5 ≤ n) :
    Calls Tryz.prog 204 #[.int .i64 xs, .int .i64 ys, .pointer (some ⟨m, 0, none⟩)] w fun e w' => e = .returned (.tuple #[]) ∧ BM w' m r n (lai papT 5 xs ys M) ∧ Fr (Rw r n) w w' := by
  have hl := h.lim
  have H := Lib.hid h
  clear h
  go_enter Tryz.func204, Tryz.ntmps204
  go_wp2_with fail
  go_loopg [6, 7, 8] 5 (fun q s6 s7 s8 wr => ∃ y : Nat, y + q = 5 ∧ s6 = .int .i64 y ∧ Hid (BM wr m r n (par papT 5 xs ys y 0 M)) ∧ Fr (Rw r n) w wr)
  case atStart => exact ⟨0, by omega, rfl, Lib.hid (by rw [par_zero]; exact H.out), Fr.refl _ _⟩
  case round =>
    obtain ⟨y, hyq, rfl, HB, hF⟩ := hrel
    clear H
    cases gk with
    | zero =>
      have hyk : y = 5 := by omega
      subst hyk
      go_wp2_with fail
      go_end0
      exact ⟨rfl, by rw [← par_end]; exact HB.out, hF⟩
    | succ q =>
      have hz : (y : Int) < 5 := by omega
      have hyk : y < 5 := by omega
      have HQ := Lib.hid hyq
      clear hyq
      have HT := Lib.hid (pap_calls wr)
      have hfr := tab_fr wr 64 145 (tab8 papT) 5
      obtain ⟨row, hrow1, _⟩ := tab8_get papT (papT_rows y hyk 0 (by omega)).1 (papT_rows y hyk 0 (by omega)).2
      have hlen : (tab8 papT).length = 5 := rfl
      have htr := (tab_row wr 64 145 (tab8 papT) 5 hrow1).1
      rw [hlen] at htr
      obtain ⟨B, hB⟩ : ∃ B, wr.heap.size = B := ⟨_, rfl⟩
      have HC := Lib.hid (fun (x : Nat) (hx : x < 5) => (show (tabW wr 64 145 (tab8 papT) 5).cell? ⟨B + y, x, none⟩ = some (.int .i8 (at2 papT y x)) by
        obtain ⟨row2, h1, h2⟩ := tab8_get papT (papT_rows y hyk x hx).1 (papT_rows y hyk x hx).2
        have := tab_cell wr 64 145 (tab8 papT) 5 h1 h2
        rwa [hB] at this))
      rw [hB] at htr HT
      generalize hW : tabW wr 64 145 (tab8 papT) 5 = W at *
      have HB2 := Lib.hid (HB.out.nil hfr)
      have hF2 := Rw.nil hF hfr
      have hmr : r + 1 + n ≤ B := by
        have := (HB.out.row (n - 1) (by omega)).lt
        omega
      clear hW HB hF hfr hrow1
      go_wp2_with fail
      refine HT.out.mono ?_
      rintro e w1 ⟨rfl, rfl⟩
      go_wp2_with fail
      clear HT htr
      go_loopg [8] 5 (fun q s8 wq => ∃ x : Nat, x + q = 5 ∧ s8 = .int .i64 x ∧ Hid (BM wq m r n (par papT 5 xs ys y x M)) ∧ Fr (Rw r n) W wq)
      case atStart => exact ⟨0, by omega, rfl, HB2, Fr.refl _ _⟩
      case round =>
        obtain ⟨x, hxq, rfl, HB3, hF3⟩ := hrel
        clear HB2
        cases gk with
        | zero =>
          have hxk : x = 5 := by omega
          subst hxk
          go_wp2_with fail
          go_roundg q
          case measure => omega
          case rel => exact ⟨y + 1, by have := HQ.out; omega, by go_num, Lib.hid (by rw [← par_row]; exact HB3.out), hF2.trans hF3⟩
        | succ q2 =>
          have hz2 : (x : Int) < 5 := by omega
          have hxk : x < 5 := by omega
          have hc := hF3.cell_some (HC.out x hxk) (fun e => by have := e.2; simp only at this; omega)
          have HXQ := Lib.hid hxq
          have HS := Lib.hid (bmSet_calls HB3.out (xs + x) (ys + y) (by omega) (by omega) (at2 papT y x))
          clear hxq HB3
          generalize hv : at2 papT y x = v at *
          have HV := Lib.hid hv
          clear hv
          go_wp2_with fail
          rw [show (xs : Int) + (x : Int) = ((xs + x : Nat) : Int) from by omega, show (ys : Int) + (y : Int) = ((ys + y : Nat) : Int) from by omega]
          refine HS.out.mono ?_
          rintro e w2 ⟨rfl, hb, hf⟩
          have HB4 : Hid (BM w2 m r n (par papT 5 xs ys y (x + 1) M)) := Lib.hid (by rw [← par_step, HV.out]; exact hb)
          have hF4 := hF3.trans hf
          clear hb hf hF3 hc
          go_wp2_with fail
          go_roundg q2
          case measure => omega
          case rel => exact ⟨x + 1, by have := HXQ.out; omega, by go_num, HB4, hF4⟩
end Go.Proofs.YtcekbhhpcmhicaaGreatDoor
/- Separators, the dark dot, the timing lines; a new matrix. -/
namespace Go.Proofs.YtcekbhhpcmhicaaGreatDoor
open Go Go.RowKit Go.Deep
set_option maxRecDepth 100000
theorem isEmpty_calls (v : Int) (w : World) : Calls Tryz.prog 168 #[.int .i8 v] w fun e w' => e = .returned (.bool (v == -1)) ∧ w = w' := by
  go_enter Tryz.func168, Tryz.ntmps168
  go_wp2
  go_ret
  exact ⟨rfl, rfl⟩
/-- cells (ys, xs ..< xs + k) set to 0 -/
def hz0 (k xs ys : Nat) (M : Nat → Nat → Int) : Nat → Nat → Int := fun y x => if y = ys ∧ xs ≤ x ∧ x < xs + k then 0 else M y x
def vz0 (k xs ys : Nat) (M : Nat → Nat → Int) : Nat → Nat → Int := fun y x => if x = xs ∧ ys ≤ y ∧ y < ys + k then 0 else M y x
theorem hz0_zero (xs ys : Nat) (M : Nat → Nat → Int) : hz0 0 xs ys M = M := by funext y x; unfold hz0; rw [if_neg (by omega)]
theorem vz0_zero (xs ys : Nat) (M : Nat → Nat → Int) : vz0 0 xs ys M = M := by funext y x; unfold vz0; rw [if_neg (by omega)]
theorem hz0_step (k xs ys : Nat) (M : Nat → Nat → Int) : upd (hz0 k xs ys M) (xs + k) ys 0 = hz0 (k + 1) xs ys M := by
  funext y x; unfold upd hz0
  by_cases h : y = ys ∧ x = xs + k
  · rw [if_pos h, if_pos ⟨h.1, by omega, by omega⟩]
  · rw [if_neg h]
    by_cases h2 : y = ys ∧ xs ≤ x ∧ x < xs + k
    · rw [if_pos h2, if_pos ⟨h2.1, h2.2.1, by omega⟩]
    · rw [if_neg h2, if_neg (by omega)]
theorem vz0_step (k xs ys : Nat) (M : Nat → Nat → Int) : upd (vz0 k xs ys M) xs (ys + k) 0 = vz0 (k + 1) xs ys M := by
  funext y x; unfold upd vz0
  by_cases h : y = ys + k ∧ x = xs
  · rw [if_pos h, if_pos ⟨h.2, by omega, by omega⟩]
  · rw [if_neg h]
    by_cases h2 : x = xs ∧ ys ≤ y ∧ y < ys + k
    · rw [if_pos h2, if_pos ⟨h2.1, h2.2.1, by omega⟩]
    · rw [if_neg h2, if_neg (by omega)]
set_option maxHeartbeats 3200000 in
theorem hsep_calls {w : World} {m r n : Nat} {M : Nat → Nat → Int} (h : BM w m r n M) (xs ys : Nat) (hx : xs + 8 ≤ n) (hy : ys < n) (he : ∀ x, x < 8 → M ys (xs + x) = -1) :
    Calls Tryz.prog 200 #[.int .i64 xs, .int .i64 ys, .pointer (some ⟨m, 0, none⟩)] w fun e w' => e = .returned .nilIface ∧ BM w' m r n (hz0 8 xs ys M) ∧ Fr (Rw r n) w w' := by
  have hl := h.lim
  have H := Lib.hid h
  have HE := Lib.hid he
  clear h he
  go_enter Tryz.func200, Tryz.ntmps200
  go_wp2_with fail
  go_loopg [7] 8 (fun q s7 wr => ∃ x : Nat, x + q = 8 ∧ s7 = .int .i64 x ∧ Hid (BM wr m r n (hz0 x xs ys M)) ∧ Fr (Rw r n) w wr)
  case atStart => exact ⟨0, by omega, rfl, Lib.hid (by rw [hz0_zero]; exact H.out), Fr.refl _ _⟩
  case round =>
    obtain ⟨x, hxq, rfl, HB, hF⟩ := hrel
    clear H
    cases gk with
    | zero =>
      have hxk : x = 8 := by omega
      subst hxk
      go_wp2_with fail
      go_ret
      exact ⟨rfl, HB.out, hF⟩
    | succ q =>
      have hz : (x : Int) < 8 := by omega
      have hg := bmGet_calls HB.out (xs + x) ys (by omega) hy
      rw [show hz0 x xs ys M ys (xs + x) = -1 from by unfold hz0; rw [if_neg (by omega)]; exact HE.out x (by omega)] at hg
      have HGT := Lib.hid hg
      have HI := Lib.hid (isEmpty_calls (-1) wr)
      have HS := Lib.hid (bmSet_calls HB.out (xs + x) ys (by omega) hy 0)
      have HQ := Lib.hid hxq
      clear hxq hg HB
      go_wp2_with fail
      rw [show (xs : Int) + (x : Int) = ((xs + x : Nat) : Int) from by omega]
      refine HGT.out.mono ?_
      rintro e w2 ⟨rfl, rfl⟩
      go_wp2_with fail
      refine HI.out.mono ?_
      rintro e w2 ⟨rfl, rfl⟩
      go_wp2_with fail
      rw [show (xs : Int) + (x : Int) = ((xs + x : Nat) : Int) from by omega]
      refine HS.out.mono ?_
      rintro e w2 ⟨rfl, hb, hf⟩
      have HB4 : Hid (BM w2 m r n (hz0 (x + 1) xs ys M)) := Lib.hid (by rw [← hz0_step]; exact hb)
      have hF4 := hF.trans hf
      clear hb hf hF
      go_wp2_with fail
      go_roundg q
      case measure => omega
      case rel => exact ⟨x + 1, by have := HQ.out; omega, by go_num, HB4, hF4⟩
set_option maxHeartbeats 3200000 in
theorem vsep_calls {w : World} {m r n : Nat} {M : Nat → Nat → Int} (h : BM w m r n M) (xs ys : Nat) (hx : xs < n) (hy : ys + 7 ≤ n) (he : ∀ y, y < 7 → M (ys + y) xs = -1) :
    Calls Tryz.prog 201 #[.int .i64 xs, .int .i64 ys, .pointer (some ⟨m, 0, none⟩)] w fun e w' => e = .returned .nilIface ∧ BM w' m r n (vz0 7 xs ys M) ∧ Fr (Rw r n) w w' := by
  have hl := h.lim
  have H := Lib.hid h
  have HE := Lib.hid he
  clear h he
  go_enter Tryz.func201, Tryz.ntmps201
  go_wp2_with fail
  go_loopg [7] 7 (fun q s7 wr => ∃ x : Nat, x + q = 7 ∧ s7 = .int .i64 x ∧ Hid (BM wr m r n (vz0 x xs ys M)) ∧ Fr (Rw r n) w wr)
  case atStart => exact ⟨0, by omega, rfl, Lib.hid (by rw [vz0_zero]; exact H.out), Fr.refl _ _⟩
  case round =>
    obtain ⟨x, hxq, rfl, HB, hF⟩ := hrel
    clear H
    cases gk with
    | zero =>
      have hxk : x = 7 := by omega
      subst hxk
      go_wp2_with fail
      go_ret
      exact ⟨rfl, HB.out, hF⟩
    | succ q =>
      have hz : (x : Int) < 7 := by omega
      have hg := bmGet_calls HB.out xs (ys + x) hx (by omega)
      rw [show vz0 x xs ys M (ys + x) xs = -1 from by unfold vz0; rw [if_neg (by omega)]; exact HE.out x (by omega)] at hg
      have HGT := Lib.hid hg
      have HI := Lib.hid (isEmpty_calls (-1) wr)
      have HS := Lib.hid (bmSet_calls HB.out xs (ys + x) hx (by omega) 0)
      have HQ := Lib.hid hxq
      clear hxq hg HB
      go_wp2_with fail
      rw [show (ys : Int) + (x : Int) = ((ys + x : Nat) : Int) from by omega]
      refine HGT.out.mono ?_
      rintro e w2 ⟨rfl, rfl⟩
      go_wp2_with fail
      refine HI.out.mono ?_
      rintro e w2 ⟨rfl, rfl⟩
      go_wp2_with fail
      rw [show (ys : Int) + (x : Int) = ((ys + x : Nat) : Int) from by omega]
      refine HS.out.mono ?_
      rintro e w2 ⟨rfl, hb, hf⟩
      have HB4 : Hid (BM w2 m r n (vz0 (x + 1) xs ys M)) := Lib.hid (by rw [← vz0_step]; exact hb)
      have hF4 := hF.trans hf
      clear hb hf hF
      go_wp2_with fail
      go_roundg q
      case measure => omega
      case rel => exact ⟨x + 1, by have := HQ.out; omega, by go_num, HB4, hF4⟩
theorem darkDot_calls {w : World} {m r n : Nat} {M : Nat → Nat → Int} (h : BM w m r n M) (hn : 21 ≤ n) (he : M (n - 8) 8 ≠ 0) :
    Calls Tryz.prog 161 #[.pointer (some ⟨m, 0, none⟩)] w fun e w' => e = .returned .nilIface ∧ BM w' m r n (upd M 8 (n - 8) 1) ∧ Fr (Rw r n) w w' := by
  have hl := h.lim
  have HH := Lib.hid (height_calls h)
  have HG := Lib.hid (bmGet_calls h 8 (n - 8) (by omega) (by omega))
  have HS := Lib.hid (bmSet_calls h 8 (n - 8) (by omega) (by omega) 1)
  have hb : ((M (n - 8) 8) == 0) = false := beq_eq_false_iff_ne.2 he
  generalize M (n - 8) 8 = v at *
  clear h he
  go_enter Tryz.func161, Tryz.ntmps161
  go_wp2_with fail
  refine HH.out.mono ?_
  rintro e w1 ⟨rfl, rfl⟩
  go_wp2_with fail
  rw [show (n : Int) - 8 = ((n - 8 : Nat) : Int) from by omega]
  refine HG.out.mono ?_
  rintro e w1 ⟨rfl, rfl⟩
  go_wp2_with fail
  refine HH.out.mono ?_
  rintro e w1 ⟨rfl, rfl⟩
  go_wp2_with fail
  rw [show (n : Int) - 8 = ((n - 8 : Nat) : Int) from by omega]
  refine HS.out.mono ?_
  rintro e w1 ⟨rfl, h1, h2⟩
  have H1 := Lib.hid h1
  clear h1
  go_wp2_with fail
  go_ret
  exact ⟨rfl, H1.out, h2⟩
end Go.Proofs.YtcekbhhpcmhicaaGreatDoor
