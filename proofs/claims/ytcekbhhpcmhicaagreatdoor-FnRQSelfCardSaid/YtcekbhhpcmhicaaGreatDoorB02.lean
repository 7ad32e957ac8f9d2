/- The matrix of cells (ByteMatrix). -/
import Derived.Test.YtcekbhhpcmhicaaGreatDoorProg
import Derived.BigQuiet
import Derived.BigRegion
import Derived.Deep.RegionHeld3
import Derived.Deep.DeepCutAuto
import Derived.Deep.CutBlock
import Derived.Outline
import Derived.Test.YtcekbhhpcmhicaaGreatDoorB01
set_option linter.unusedSimpArgs false
set_option linter.unusedVariables false
namespace Go.Proofs.YtcekbhhpcmhicaaGreatDoor
open Go Go.RowKit Go.Deep
set_option maxRecDepth 100000
abbrev i8 (v : Int) : Value := .int .i8 v
/-- the matrix at block m: n rows of n cells, row y at block r + 1 + y -/
structure BM (w : World) (m r n : Nat) (M : Nat → Nat → Int) : Prop where
  st : Blk w m 144 #[.slice (some ⟨r, 0, none⟩) n n, i64 n, i64 n]
  rw_ : w.rowIs r 145 n (fun j => .slice (some ⟨r + 1 + j, 0, none⟩) n n)
  row : ∀ y, y < n → w.rowIs (r + 1 + y) 64 n (fun x => i8 (M y x))
  lim : n ≤ 200
/-- the rows' blocks -/
def Rw (r n : Nat) : Nat → Prop := fun k => r < k ∧ k < r + 1 + n
theorem BM.fr {w w' : World} {m r n : Nat} {M : Nat → Nat → Int} {F : Nat → Prop} (h : BM w m r n M) (hf : Fr F w w') (h1 : ¬ F m) (h2 : ¬ F r) (h3 : ∀ y, y < n → ¬ F (r + 1 + y)) : BM w' m r n M :=
  ⟨h.st.fr hf h1, rowFr h.rw_ hf h2, fun y hy => rowFr (h.row y hy) hf (h3 y hy), h.lim⟩
theorem BM.nil {w w' : World} {m r n : Nat} {M : Nat → Nat → Int} (h : BM w m r n M) (hf : Fr Nil w w') : BM w' m r n M := h.fr hf (fun e => e) (fun e => e) (fun _ _ e => e)
theorem BM.congr {w : World} {m r n : Nat} {M M' : Nat → Nat → Int} (h : BM w m r n M) (e : ∀ y x, y < n → x < n → M y x = M' y x) : BM w m r n M' :=
  ⟨h.st, h.rw_, fun y hy => (h.row y hy).congr (fun x hx => by rw [e y x hy hx]), h.lim⟩
/-- one cell set -/
def upd (M : Nat → Nat → Int) (x y : Nat) (v : Int) : Nat → Nat → Int := fun y' x' => if y' = y ∧ x' = x then v else M y' x'
theorem BM.set {w : World} {m r n : Nat} {M : Nat → Nat → Int} (h : BM w m r n M) {x y : Nat} (hy : y < n) (v : Int) : BM (w.setCell ⟨r + 1 + y, x, none⟩ (i8 v)) m r n (upd M x y v) := by
  have hf : Fr (One (r + 1 + y)) w (w.setCell ⟨r + 1 + y, x, none⟩ (i8 v)) := (Fr.refl _ _).set1 x _
  refine ⟨h.st.fr hf ?_, rowFr h.rw_ hf (fun e => by have : r = r + 1 + y := e; omega), fun y' hy' => ?_, h.lim⟩
  · intro e
    have : m = r + 1 + y := e
    exact h.st.row_ne (h.row y hy) (by decide) this
  · by_cases e : y' = y
    · subst e
      exact ((h.row y' hy).set x (i8 v)).congr (fun x' hx' => by
        unfold upd
        by_cases e2 : x' = x
        · rw [if_pos e2, if_pos ⟨rfl, e2⟩]
        · rw [if_neg e2, if_neg (fun e => e2 e.2)])
    · exact (rowFr (h.row y' hy') hf (fun e2 => by have : r + 1 + y' = r + 1 + y := e2; omega)).congr (fun x' hx' => by unfold upd; rw [if_neg (fun e2 => e e2.1)])
theorem Rw.in_ {r n y : Nat} (h : y < n) : Rw r n (r + 1 + y) := ⟨by omega, by omega⟩
theorem BM.setFr {w0 w : World} {r n x y : Nat} (hf : Fr (Rw r n) w0 w) (hy : y < n) (v : Value) : Fr (Rw r n) w0 (w.setCell ⟨r + 1 + y, x, none⟩ v) := Fr.setCell (F := Rw r n) (a := ⟨r + 1 + y, x, none⟩) hf (.inl (Rw.in_ hy)) v
theorem BM.c {w : World} {m r n : Nat} {M : Nat → Nat → Int} (h : BM w m r n M) : w.cell? ⟨m, 0, none⟩ = some (.slice (some ⟨r, 0, none⟩) n n) ∧ w.cell? ⟨m, 1, none⟩ = some (i64 n) ∧ w.cell? ⟨m, 2, none⟩ = some (i64 n) :=
  ⟨by simpa using h.st.cell 0, by simpa using h.st.cell 1, by simpa using h.st.cell 2⟩
theorem height_calls {w : World} {m r n : Nat} {M : Nat → Nat → Int} (h : BM w m r n M) : Calls Tryz.prog 24 #[.pointer (some ⟨m, 0, none⟩)] w fun e w' => e = .returned (.int .i64 n) ∧ w = w' := by
  obtain ⟨c0, c1, c2⟩ := h.c
  go_enter Tryz.func24, Tryz.ntmps24
  go_wp2
  go_ret
  exact ⟨rfl, rfl⟩
theorem width_calls {w : World} {m r n : Nat} {M : Nat → Nat → Int} (h : BM w m r n M) : Calls Tryz.prog 25 #[.pointer (some ⟨m, 0, none⟩)] w fun e w' => e = .returned (.int .i64 n) ∧ w = w' := by
  obtain ⟨c0, c1, c2⟩ := h.c
  go_enter Tryz.func25, Tryz.ntmps25
  go_wp2
  go_ret
  exact ⟨rfl, rfl⟩
theorem array_calls {w : World} {m r n : Nat} {M : Nat → Nat → Int} (h : BM w m r n M) : Calls Tryz.prog 195 #[.pointer (some ⟨m, 0, none⟩)] w fun e w' => e = .returned (.slice (some ⟨r, 0, none⟩) n n) ∧ w = w' := by
  obtain ⟨c0, c1, c2⟩ := h.c
  go_enter Tryz.func195, Tryz.ntmps195
  go_wp2
  go_ret
  exact ⟨rfl, rfl⟩
theorem get_cell {w : World} {m r n : Nat} {M : Nat → Nat → Int} (h : BM w m r n M) {x y : Nat} (hx : x < n) (hy : y < n) : w.cell? ⟨r + 1 + y, x, none⟩ = some (i8 (M y x)) := (h.row y hy).cell hx
theorem bmGet_calls {w : World} {m r n : Nat} {M : Nat → Nat → Int} (h : BM w m r n M) (x y : Nat) (hx : x < n) (hy : y < n) :
    Calls Tryz.prog 26 #[.pointer (some ⟨m, 0, none⟩), .int .i64 x, .int .i64 y] w fun e w' => e = .returned (.int .i8 (M y x)) ∧ w = w' := by
  obtain ⟨c0, c1, c2⟩ := h.c
  have d0 := h.rw_.cell hy
  have d1 := get_cell h hx hy
  have hl := h.lim
  generalize M y x = v at *
  go_enter Tryz.func26, Tryz.ntmps26
  go_wp2
  go_ret
  exact ⟨rfl, rfl⟩
theorem bmSet_calls {w : World} {m r n : Nat} {M : Nat → Nat → Int} (h : BM w m r n M) (x y : Nat) (hx : x < n) (hy : y < n) (v : Int) :
    Calls Tryz.prog 202 #[.pointer (some ⟨m, 0, none⟩), .int .i64 x, .int .i64 y, .int .i8 v] w fun e w' => e = .returned (.tuple #[]) ∧ BM w' m r n (upd M x y v) ∧ Fr (Rw r n) w w' := by
  obtain ⟨c0, c1, c2⟩ := h.c
  have d0 := h.rw_.cell hy
  have d1 := get_cell h hx hy
  have z1 := (h.row y hy).frozen x
  have hl := h.lim
  have HF := Lib.hid (show _ ∧ _ from ⟨h.set (x := x) hy v, BM.setFr (x := x) (Fr.refl (Rw r n) w) hy (i8 v)⟩)
  generalize M y x = u at *
  clear h
  go_enter Tryz.func202, Tryz.ntmps202
  go_wp2
  go_end0
  exact ⟨rfl, HF.out⟩
def b01 (b : Bool) : Int := if b then 1 else 0
theorem bmSetBool_calls {w : World} {m r n : Nat} {M : Nat → Nat → Int} (h : BM w m r n M) (x y : Nat) (hx : x < n) (hy : y < n) (b : Bool) :
    Calls Tryz.prog 166 #[.pointer (some ⟨m, 0, none⟩), .int .i64 x, .int .i64 y, .bool b] w fun e w' => e = .returned (.tuple #[]) ∧ BM w' m r n (upd M x y (b01 b)) ∧ Fr (Rw r n) w w' := by
  obtain ⟨c0, c1, c2⟩ := h.c
  have d0 := h.rw_.cell hy
  have d1 := get_cell h hx hy
  have z1 := (h.row y hy).frozen x
  have hl := h.lim
  cases b with
  | true =>
    have HF := Lib.hid (show _ ∧ _ from ⟨h.set (x := x) hy 1, BM.setFr (x := x) (Fr.refl (Rw r n) w) hy (i8 1)⟩)
    generalize M y x = u at *
    clear h
    go_enter Tryz.func166, Tryz.ntmps166
    go_wp2
    go_end0
    exact ⟨rfl, HF.out⟩
  | false =>
    have HF := Lib.hid (show _ ∧ _ from ⟨h.set (x := x) hy 0, BM.setFr (x := x) (Fr.refl (Rw r n) w) hy (i8 0)⟩)
    generalize M y x = u at *
    clear h
    go_enter Tryz.func166, Tryz.ntmps166
    go_wp2
    go_end0
    exact ⟨rfl, HF.out⟩
set_option maxHeartbeats 1600000 in
theorem bmClear_calls {w : World} {m r n : Nat} {M : Nat → Nat → Int} (h : BM w m r n M) :
    Calls Tryz.prog 159 #[.pointer (some ⟨m, 0, none⟩), .int .i8 (-1)] w fun e w' => e = .returned (.tuple #[]) ∧ BM w' m r n (fun _ _ => -1) ∧ Fr (Rw r n) w w' := by
  obtain ⟨c0, c1, c2⟩ := h.c
  have hl := h.lim
  have H := Lib.hid h
  clear h
  go_enter Tryz.func159, Tryz.ntmps159
  go_wp2_with fail
  clear c0 c1 c2
  go_loopg [4, 5, 11] n (fun k s4 s5 s11 wr => ∃ (y : Nat) (M' : Nat → Nat → Int), y + k = n ∧ s11 = .int .i64 y ∧ Hid (BM wr m r n M') ∧ Hid (∀ y' x', y' < y → x' < n → M' y' x' = -1) ∧ Fr (Rw r n) w wr)
  case atStart => exact ⟨0, M, by omega, rfl, H, Lib.hid (fun y' x' h => by omega), Fr.refl _ _⟩
  case round =>
    obtain ⟨y, M', hy, rfl, HB, HD, hF⟩ := hrel
    clear H
    cases gk with
    | zero =>
      have hyn : y = n := by omega
      subst hyn
      have hz : ¬ (y : Int) < (y : Int) := by omega
      go_wp2_with fail
      go_end0
      exact ⟨rfl, HB.out.congr (fun y' x' h1 h2 => HD.out y' x' h1 h2), hF⟩
    | succ k =>
      have hz : (y : Int) < (n : Int) := by omega
      have hyn : y < n := by omega
      obtain ⟨c0, c1, c2⟩ := HB.out.c
      have d0 := HB.out.rw_.cell hyn
      have HY := Lib.hid hy
      clear hy
      go_wp2_with fail
      clear c0 c1 c2 d0
      go_loopg [5, 22] n (fun k s5 s22 wr => ∃ (x : Nat) (M' : Nat → Nat → Int), x + k = n ∧ s22 = .int .i64 x ∧ Hid (BM wr m r n M') ∧ Hid ((∀ y' x', y' < y → x' < n → M' y' x' = -1) ∧ ∀ x', x' < x → M' y x' = -1) ∧ Fr (Rw r n) w wr)
      case atStart => exact ⟨0, M', by omega, rfl, HB, Lib.hid ⟨HD.out, fun x' h => by omega⟩, hF⟩
      case round =>
        obtain ⟨x, M2, hx, rfl, HB2, HD2, hF2⟩ := hrel
        clear HB HD hF
        cases gk with
        | zero =>
          have hxn : x = n := by omega
          subst hxn
          have hzz : ¬ (x : Int) < (x : Int) := by omega
          go_wp2_with fail
          go_roundg k
          case measure => omega
          case rel => exact ⟨y + 1, M2, by have := HY.out; omega, by go_num, HB2, Lib.hid (fun y' x' h1 h2 => by
            by_cases e : y' = y
            · rw [e]; exact HD2.out.2 x' h2
            · exact HD2.out.1 y' x' (by omega) h2), hF2⟩
        | succ k2 =>
          have hzz : (x : Int) < (n : Int) := by omega
          have hxn : x < n := by omega
          obtain ⟨c0, c1, c2⟩ := HB2.out.c
          have d0 := HB2.out.rw_.cell hyn
          have d1 := get_cell HB2.out hxn hyn
          have z1 := (HB2.out.row y hyn).frozen x
          have HS := Lib.hid (show _ ∧ _ from ⟨HB2.out.set (x := x) hyn (-1), BM.setFr (x := x) hF2 hyn (i8 (-1))⟩)
          have HX := Lib.hid hx
          clear hx HB2 hF2
          generalize M2 y x = u at *
          go_wp2_with fail
          go_roundg k2
          case measure => omega
          case rel => exact ⟨x + 1, _, by have := HX.out; omega, by go_num, Lib.hid HS.out.1, Lib.hid ⟨fun y' x' h1 h2 => by
            unfold upd; rw [if_neg (fun e => by omega)]; exact HD2.out.1 y' x' h1 h2, fun x' h1 => by
            unfold upd
            by_cases e : x' = x
            · rw [if_pos ⟨rfl, e⟩]
            · rw [if_neg (fun e2 => e e2.2)]; exact HD2.out.2 x' (by omega)⟩, HS.out.2⟩
end Go.Proofs.YtcekbhhpcmhicaaGreatDoor
/- The symbol's record (QRCode): made, set, read. -/
namespace Go.Proofs.YtcekbhhpcmhicaaGreatDoor
open Go Go.RowKit Go.Deep
set_option maxRecDepth 100000
theorem newQR_calls (w : World) : Calls Tryz.prog 63 #[] w fun e w' => e = .returned (.pointer (some ⟨w.heap.size, 0, none⟩)) ∧ Blk w' w.heap.size 137 #[i64 0, i64 0, .pointer none, .int .i64 (-1), .pointer none] ∧ Fr Nil w w' := by
  have HF := Lib.hid (show _ ∧ _ from ⟨Blk.new w 137 #[i64 0, i64 0, .pointer none, .int .i64 (-1), .pointer none], (Fr.refl Nil w).alloc (.cells #[i64 0, i64 0, .pointer none, .int .i64 (-1), .pointer none] 137)⟩)
  go_enter Tryz.func63, Tryz.ntmps63
  go_wp2
  go_ret
  exact ⟨rfl, HF.out.1, HF.out.2⟩
theorem setLevel_calls {w : World} {q : Nat} {cs : Array Value} (h : Blk w q 137 cs) (hs : cs.size = 5) (l : Nat) :
    Calls Tryz.prog 64 #[.pointer (some ⟨q, 0, none⟩), i64 l] w fun e w' => e = .returned (.tuple #[]) ∧ Blk w' q 137 (cs.setIfInBounds 1 (i64 l)) ∧ Fr (One q) w w' := by
  have c := h.cell 1
  rw [Array.getElem?_eq_getElem (show 1 < cs.size by omega)] at c
  have z := h.frozen 1
  have HF := Lib.hid (show _ ∧ _ from ⟨h.set_ 1 (i64 l), (Fr.refl (One q) w).set1 1 (i64 l)⟩)
  generalize getElem cs 1 (by omega) = u at *
  clear h
  go_enter Tryz.func64, Tryz.ntmps64
  go_wp2
  go_end0
  exact ⟨rfl, HF.out⟩
theorem setMode_calls {w : World} {q : Nat} {cs : Array Value} (h : Blk w q 137 cs) (hs : cs.size = 5) (l : Nat) :
    Calls Tryz.prog 65 #[.pointer (some ⟨q, 0, none⟩), i64 l] w fun e w' => e = .returned (.tuple #[]) ∧ Blk w' q 137 (cs.setIfInBounds 0 (i64 l)) ∧ Fr (One q) w w' := by
  have c := h.cell 0
  rw [Array.getElem?_eq_getElem (show 0 < cs.size by omega)] at c
  have z := h.frozen 0
  have HF := Lib.hid (show _ ∧ _ from ⟨h.set_ 0 (i64 l), (Fr.refl (One q) w).set1 0 (i64 l)⟩)
  generalize getElem cs 0 (by omega) = u at *
  clear h
  go_enter Tryz.func65, Tryz.ntmps65
  go_wp2
  go_end0
  exact ⟨rfl, HF.out⟩
theorem setVersion_calls {w : World} {q : Nat} {cs : Array Value} (h : Blk w q 137 cs) (hs : cs.size = 5) (p : Nat) :
    Calls Tryz.prog 66 #[.pointer (some ⟨q, 0, none⟩), .pointer (some ⟨p, 0, none⟩)] w fun e w' => e = .returned (.tuple #[]) ∧ Blk w' q 137 (cs.setIfInBounds 2 (.pointer (some ⟨p, 0, none⟩))) ∧ Fr (One q) w w' := by
  have c := h.cell 2
  rw [Array.getElem?_eq_getElem (show 2 < cs.size by omega)] at c
  have z := h.frozen 2
  have HF := Lib.hid (show _ ∧ _ from ⟨h.set_ 2 (.pointer (some ⟨p, 0, none⟩)), (Fr.refl (One q) w).set1 2 (.pointer (some ⟨p, 0, none⟩))⟩)
  generalize getElem cs 2 (by omega) = u at *
  clear h
  go_enter Tryz.func66, Tryz.ntmps66
  go_wp2
  go_end0
  exact ⟨rfl, HF.out⟩
theorem setMask_calls {w : World} {q : Nat} {cs : Array Value} (h : Blk w q 137 cs) (hs : cs.size = 5) (l : Nat) :
    Calls Tryz.prog 71 #[.pointer (some ⟨q, 0, none⟩), i64 l] w fun e w' => e = .returned (.tuple #[]) ∧ Blk w' q 137 (cs.setIfInBounds 3 (i64 l)) ∧ Fr (One q) w w' := by
  have c := h.cell 3
  rw [Array.getElem?_eq_getElem (show 3 < cs.size by omega)] at c
  have z := h.frozen 3
  have HF := Lib.hid (show _ ∧ _ from ⟨h.set_ 3 (i64 l), (Fr.refl (One q) w).set1 3 (i64 l)⟩)
  generalize getElem cs 3 (by omega) = u at *
  clear h
  go_enter Tryz.func71, Tryz.ntmps71
  go_wp2
  go_end0
  exact ⟨rfl, HF.out⟩
theorem setMatrix_calls {w : World} {q : Nat} {cs : Array Value} (h : Blk w q 137 cs) (hs : cs.size = 5) (p : Nat) :
    Calls Tryz.prog 73 #[.pointer (some ⟨q, 0, none⟩), .pointer (some ⟨p, 0, none⟩)] w fun e w' => e = .returned (.tuple #[]) ∧ Blk w' q 137 (cs.setIfInBounds 4 (.pointer (some ⟨p, 0, none⟩))) ∧ Fr (One q) w w' := by
  have c := h.cell 4
  rw [Array.getElem?_eq_getElem (show 4 < cs.size by omega)] at c
  have z := h.frozen 4
  have HF := Lib.hid (show _ ∧ _ from ⟨h.set_ 4 (.pointer (some ⟨p, 0, none⟩)), (Fr.refl (One q) w).set1 4 (.pointer (some ⟨p, 0, none⟩))⟩)
  generalize getElem cs 4 (by omega) = u at *
  clear h
  go_enter Tryz.func73, Tryz.ntmps73
  go_wp2
  go_end0
  exact ⟨rfl, HF.out⟩
theorem qrMode_calls {w : World} {q : Nat} {cs : Array Value} (h : Blk w q 137 cs) {l : Nat} (hv : cs[0]? = some (i64 l)) :
    Calls Tryz.prog 22 #[.pointer (some ⟨q, 0, none⟩)] w fun e w' => e = .returned (i64 l) ∧ w = w' := by
  have c := h.cell 0
  rw [hv] at c
  clear h hv
  go_enter Tryz.func22, Tryz.ntmps22
  go_wp2
  go_ret
  exact ⟨rfl, rfl⟩
theorem qrLevel_calls {w : World} {q : Nat} {cs : Array Value} (h : Blk w q 137 cs) {l : Nat} (hv : cs[1]? = some (i64 l)) :
    Calls Tryz.prog 20 #[.pointer (some ⟨q, 0, none⟩)] w fun e w' => e = .returned (i64 l) ∧ w = w' := by
  have c := h.cell 1
  rw [hv] at c
  clear h hv
  go_enter Tryz.func20, Tryz.ntmps20
  go_wp2
  go_ret
  exact ⟨rfl, rfl⟩
theorem qrVersion_calls {w : World} {q : Nat} {cs : Array Value} (h : Blk w q 137 cs) {p : Nat} (hv : cs[2]? = some (.pointer (some ⟨p, 0, none⟩))) :
    Calls Tryz.prog 17 #[.pointer (some ⟨q, 0, none⟩)] w fun e w' => e = .returned (.pointer (some ⟨p, 0, none⟩)) ∧ w = w' := by
  have c := h.cell 2
  rw [hv] at c
  clear h hv
  go_enter Tryz.func17, Tryz.ntmps17
  go_wp2
  go_ret
  exact ⟨rfl, rfl⟩
theorem qrMask_calls {w : World} {q : Nat} {cs : Array Value} (h : Blk w q 137 cs) {l : Nat} (hv : cs[3]? = some (i64 l)) :
    Calls Tryz.prog 19 #[.pointer (some ⟨q, 0, none⟩)] w fun e w' => e = .returned (i64 l) ∧ w = w' := by
  have c := h.cell 3
  rw [hv] at c
  clear h hv
  go_enter Tryz.func19, Tryz.ntmps19
  go_wp2
  go_ret
  exact ⟨rfl, rfl⟩
theorem qrMatrix_calls {w : World} {q : Nat} {cs : Array Value} (h : Blk w q 137 cs) {p : Nat} (hv : cs[4]? = some (.pointer (some ⟨p, 0, none⟩))) :
    Calls Tryz.prog 16 #[.pointer (some ⟨q, 0, none⟩)] w fun e w' => e = .returned (.pointer (some ⟨p, 0, none⟩)) ∧ w = w' := by
  have c := h.cell 4
  rw [hv] at c
  clear h hv
  go_enter Tryz.func16, Tryz.ntmps16
  go_wp2
  go_ret
  exact ⟨rfl, rfl⟩
end Go.Proofs.YtcekbhhpcmhicaaGreatDoor
/- The penalties: rule 1. -/
namespace Go.Proofs.YtcekbhhpcmhicaaGreatDoor
open Go Go.RowKit Go.Deep
set_option maxRecDepth 100000
set_option maxHeartbeats 3200000 in
theorem pen1_true {w : World} {m r n : Nat} {M : Nat → Nat → Int} (h : BM w m r n M) (hn : 21 ≤ n) (hM : ∀ y x, y < n → x < n → -128 ≤ M y x ∧ M y x ≤ 127) :
    Calls Tryz.prog 194 #[.pointer (some ⟨m, 0, none⟩), .bool true] w fun e w' => (∃ p : Nat, e = .returned (.int .i64 p) ∧ p ≤ 40000) ∧ w = w' := by
  have hl := h.lim
  have HA := Lib.hid (array_calls h)
  have HW := Lib.hid (width_calls h)
  have HH := Lib.hid (height_calls h)
  have HR := Lib.hid (fun y (hy : y < n) => h.rw_.cell hy)
  have HC := Lib.hid (fun x y (hx : x < n) (hy : y < n) => get_cell h hx hy)
  have HBD := Lib.hid hM
  clear h hM
  go_enter Tryz.func194, Tryz.ntmps194
  go_wp2_with fail
  refine HW.out.mono ?_
  rintro e w1 ⟨rfl, rfl⟩
  go_wp2_with fail
  refine HH.out.mono ?_
  rintro e w1 ⟨rfl, rfl⟩
  go_wp2_with fail
  refine HA.out.mono ?_
  rintro e w1 ⟨rfl, rfl⟩
  go_wp2_with fail
  clear HA HW HH
  go_loopg [5, 9, 10, 11, 12, 13] n (fun q s5 s9 s10 s11 s12 s13 wr => ∃ i p : Nat, i + q = n ∧ s9 = .int .i64 i ∧ s5 = .int .i64 p ∧ p ≤ 200 * i ∧ wr = w)
  case atStart => exact ⟨0, 0, by omega, rfl, rfl, by omega, rfl⟩
  case round =>
    obtain ⟨i, p, hi, rfl, rfl, hpi, rfl⟩ := hrel
    cases gk with
    | zero =>
      have hz : ¬ (i : Int) < (n : Int) := by omega
      go_wp2_with fail
      go_ret
      exact ⟨⟨p, rfl, by omega⟩, rfl⟩
    | succ q =>
      have hz : (i : Int) < (n : Int) := by omega
      have hin : i < n := by omega
      have HI := Lib.hid hi
      clear hi
      go_wp2_with fail
      go_loopg [5, 10, 11, 12, 13] n (fun k s5 s10 s11 s12 s13 wq => ∃ (j p2 c : Nat) (pb : Int), j + k = n ∧ s12 = .int .i64 j ∧ s5 = .int .i64 p2 ∧ s10 = .int .i64 c ∧ s11 = .int .i64 pb ∧ p2 + c ≤ 200 * i + j ∧ c ≤ j ∧ wq = wr)
      case atStart => exact ⟨0, p, 0, -1, by omega, rfl, rfl, rfl, rfl, by omega, by omega, rfl⟩
      case round =>
        obtain ⟨j, p2, c, pb, hj, rfl, rfl, rfl, rfl, hpc, hcj, rfl⟩ := hrel
        have hpb : p2 ≤ 40400 ∧ c ≤ 200 := by omega
        cases gk with
        | zero =>
          have hjz : ¬ (j : Int) < (n : Int) := by omega
          by_cases h5 : 5 ≤ c
          · have h5z : (5 : Int) ≤ (c : Int) := by omega
            go_wp2_with fail
            go_roundg q
            case measure => omega
            case rel => exact ⟨i + 1, p2 + (c - 2), by have := HI.out; omega, by go_num, by go_num, by omega, rfl⟩
          · have h5z : ¬ (5 : Int) ≤ (c : Int) := by omega
            go_wp2_with fail
            go_roundg q
            case measure => omega
            case rel => exact ⟨i + 1, p2, by have := HI.out; omega, by go_num, rfl, by omega, rfl⟩
        | succ k =>
          have hjz : (j : Int) < (n : Int) := by omega
          have hjn : j < n := by omega
          have r0 := HR.out i hin
          have c0 := HC.out j i hjn hin
          have hab := HBD.out i j hin hjn
          have HJ := Lib.hid hj
          clear hj
          generalize M i j = a at *
          by_cases hap : a = pb
          · have hb : (a == pb) = true := by rw [hap]; simp
            have HAP := Lib.hid hap
            clear hap
            go_wp2_with fail
            go_roundg k
            case measure => omega
            case rel => exact ⟨j + 1, p2, c + 1, pb, by have := HJ.out; omega, by go_num, rfl, by go_num, rfl, by omega, by omega, rfl⟩
          · have hb : (a == pb) = false := beq_eq_false_iff_ne.2 hap
            clear hap
            by_cases h5 : 5 ≤ c
            · have h5z : (5 : Int) ≤ (c : Int) := by omega
              go_wp2_with fail
              go_roundg k
              case measure => omega
              case rel => exact ⟨j + 1, p2 + (c - 2), 1, a, by have := HJ.out; omega, by go_num, by go_num, rfl, rfl, by omega, by omega, rfl⟩
            · have h5z : ¬ (5 : Int) ≤ (c : Int) := by omega
              go_wp2_with fail
              go_roundg k
              case measure => omega
              case rel => exact ⟨j + 1, p2, 1, a, by have := HJ.out; omega, by go_num, rfl, rfl, rfl, by omega, by omega, rfl⟩
set_option maxHeartbeats 3200000 in
theorem pen1_false {w : World} {m r n : Nat} {M : Nat → Nat → Int} (h : BM w m r n M) (hn : 21 ≤ n) (hM : ∀ y x, y < n → x < n → -128 ≤ M y x ∧ M y x ≤ 127) :
    Calls Tryz.prog 194 #[.pointer (some ⟨m, 0, none⟩), .bool false] w fun e w' => (∃ p : Nat, e = .returned (.int .i64 p) ∧ p ≤ 40000) ∧ w = w' := by
  have hl := h.lim
  have HA := Lib.hid (array_calls h)
  have HW := Lib.hid (width_calls h)
  have HH := Lib.hid (height_calls h)
  have HR := Lib.hid (fun y (hy : y < n) => h.rw_.cell hy)
  have HC := Lib.hid (fun x y (hx : x < n) (hy : y < n) => get_cell h hx hy)
  have HBD := Lib.hid hM
  clear h hM
  go_enter Tryz.func194, Tryz.ntmps194
  go_wp2_with fail
  refine HW.out.mono ?_
  rintro e w1 ⟨rfl, rfl⟩
  go_wp2_with fail
  refine HH.out.mono ?_
  rintro e w1 ⟨rfl, rfl⟩
  go_wp2_with fail
  refine HA.out.mono ?_
  rintro e w1 ⟨rfl, rfl⟩
  go_wp2_with fail
  clear HA HW HH
  go_loopg [5, 9, 10, 11, 12, 13] n (fun q s5 s9 s10 s11 s12 s13 wr => ∃ i p : Nat, i + q = n ∧ s9 = .int .i64 i ∧ s5 = .int .i64 p ∧ p ≤ 200 * i ∧ wr = w)
  case atStart => exact ⟨0, 0, by omega, rfl, rfl, by omega, rfl⟩
  case round =>
    obtain ⟨i, p, hi, rfl, rfl, hpi, rfl⟩ := hrel
    cases gk with
    | zero =>
      have hz : ¬ (i : Int) < (n : Int) := by omega
      go_wp2_with fail
      go_ret
      exact ⟨⟨p, rfl, by omega⟩, rfl⟩
    | succ q =>
      have hz : (i : Int) < (n : Int) := by omega
      have hin : i < n := by omega
      have HI := Lib.hid hi
      clear hi
      go_wp2_with fail
      go_loopg [5, 10, 11, 12, 13] n (fun k s5 s10 s11 s12 s13 wq => ∃ (j p2 c : Nat) (pb : Int), j + k = n ∧ s12 = .int .i64 j ∧ s5 = .int .i64 p2 ∧ s10 = .int .i64 c ∧ s11 = .int .i64 pb ∧ p2 + c ≤ 200 * i + j ∧ c ≤ j ∧ wq = wr)
      case atStart => exact ⟨0, p, 0, -1, by omega, rfl, rfl, rfl, rfl, by omega, by omega, rfl⟩
      case round =>
        obtain ⟨j, p2, c, pb, hj, rfl, rfl, rfl, rfl, hpc, hcj, rfl⟩ := hrel
        have hpb : p2 ≤ 40400 ∧ c ≤ 200 := by omega
        cases gk with
        | zero =>
          have hjz : ¬ (j : Int) < (n : Int) := by omega
          by_cases h5 : 5 ≤ c
          · have h5z : (5 : Int) ≤ (c : Int) := by omega
            go_wp2_with fail
            go_roundg q
            case measure => omega
            case rel => exact ⟨i + 1, p2 + (c - 2), by have := HI.out; omega, by go_num, by go_num, by omega, rfl⟩
          · have h5z : ¬ (5 : Int) ≤ (c : Int) := by omega
            go_wp2_with fail
            go_roundg q
            case measure => omega
            case rel => exact ⟨i + 1, p2, by have := HI.out; omega, by go_num, rfl, by omega, rfl⟩
        | succ k =>
          have hjz : (j : Int) < (n : Int) := by omega
          have hjn : j < n := by omega
          have r0 := HR.out j hjn
          have c0 := HC.out i j hin hjn
          have hab := HBD.out j i hjn hin
          have HJ := Lib.hid hj
          clear hj
          generalize M j i = a at *
          by_cases hap : a = pb
          · have hb : (a == pb) = true := by rw [hap]; simp
            have HAP := Lib.hid hap
            clear hap
            go_wp2_with fail
            go_roundg k
            case measure => omega
            case rel => exact ⟨j + 1, p2, c + 1, pb, by have := HJ.out; omega, by go_num, rfl, by go_num, rfl, by omega, by omega, rfl⟩
          · have hb : (a == pb) = false := beq_eq_false_iff_ne.2 hap
            clear hap
            by_cases h5 : 5 ≤ c
            · have h5z : (5 : Int) ≤ (c : Int) := by omega
              go_wp2_with fail
              go_roundg k
              case measure => omega
              case rel => exact ⟨j + 1, p2 + (c - 2), 1, a, by have := HJ.out; omega, by go_num, by go_num, rfl, rfl, by omega, by omega, rfl⟩
            · have h5z : ¬ (5 : Int) ≤ (c : Int) := by omega
              go_wp2_with fail
              go_roundg k
              case measure => omega
              case rel => exact ⟨j + 1, p2, 1, a, by have := HJ.out; omega, by go_num, rfl, rfl, rfl, by omega, by omega, rfl⟩
end Go.Proofs.YtcekbhhpcmhicaaGreatDoor
/- The penalties: rule 1 both ways; runs of white in a row and in a column. -/
namespace Go.Proofs.YtcekbhhpcmhicaaGreatDoor
open Go Go.RowKit Go.Deep
set_option maxRecDepth 100000
theorem pen1_calls {w : World} {m r n : Nat} {M : Nat → Nat → Int} (h : BM w m r n M) (hn : 21 ≤ n) (hM : ∀ y x, y < n → x < n → -128 ≤ M y x ∧ M y x ≤ 127) :
    Calls Tryz.prog 155 #[.pointer (some ⟨m, 0, none⟩)] w fun e w' => (∃ p : Nat, e = .returned (.int .i64 p) ∧ p ≤ 80000) ∧ w = w' := by
  have H1 := Lib.hid (pen1_true h hn hM)
  have H2 := Lib.hid (pen1_false h hn hM)
  clear h
  go_enter Tryz.func155, Tryz.ntmps155
  go_wp2_with fail
  refine H1.out.mono ?_
  rintro e w1 ⟨⟨p1, rfl, hp1⟩, rfl⟩
  go_wp2_with fail
  refine H2.out.mono ?_
  rintro e w1 ⟨⟨p2, rfl, hp2⟩, rfl⟩
  go_wp2_with fail
  go_ret
  exact ⟨⟨p1 + p2, by go_num, by omega⟩, rfl⟩
end Go.Proofs.YtcekbhhpcmhicaaGreatDoor
/- isWhiteHorizontal. -/
namespace Go.Proofs.YtcekbhhpcmhicaaGreatDoor
open Go Go.RowKit Go.Deep
set_option maxRecDepth 100000
set_option maxHeartbeats 3200000 in
theorem whiteH_calls {w : World} {m r n : Nat} {M : Nat → Nat → Int} (h : BM w m r n M) (y : Nat) (hy : y < n) (a t : Int) (ha : -100 ≤ a ∧ a ≤ 300) (ht : -100 ≤ t ∧ t ≤ 300) :
    Calls Tryz.prog 196 #[.slice (some ⟨r + 1 + y, 0, none⟩) n n, .int .i64 a, .int .i64 t] w fun e w' => (∃ b, e = .returned (.bool b)) ∧ w = w' := by
  have hl := h.lim
  have HC := Lib.hid (fun x (hx : x < n) => get_cell h hx hy)
  clear h
  go_enter Tryz.func196, Tryz.ntmps196
  go_upto_if 9 with fail
  go_cut [1] (fun s1 wc => ∃ lo : Nat, s1 = .int .i64 lo ∧ lo ≤ 300 ∧ wc = w)
  case first =>
    by_cases h1 : a < 0
    · go_wp2_with fail
      go_meet
      exact ⟨0, rfl, by omega, rfl⟩
    · obtain ⟨lo, rfl⟩ : ∃ lo : Nat, a = (lo : Int) := ⟨a.toNat, by omega⟩
      go_wp2_with fail
      go_meet
      exact ⟨lo, rfl, by omega, rfl⟩
  case rest =>
    obtain ⟨lo, rfl, hlo, hw1⟩ := hcut
    subst hw1
    go_upto_if 13 with fail
    go_cut [2] (fun s2 wc2 => ∃ hi : Int, s2 = .int .i64 hi ∧ hi ≤ n ∧ -100 ≤ hi ∧ wc2 = wc)
    case first =>
      by_cases h2 : (n : Int) < t
      · rw [show decide ((n : Int) < t) = true from decide_eq_true h2]
        go_wp2_with fail
        go_meet
        exact ⟨n, rfl, by omega, by omega, rfl⟩
      · rw [show decide ((n : Int) < t) = false from decide_eq_false h2]
        go_wp2_with fail
        go_meet
        exact ⟨t, rfl, by omega, by omega, rfl⟩
    case rest =>
      obtain ⟨hi, rfl, hhi, hhi2, hw2⟩ := hcut
      subst hw2
      go_wp2_with fail
      go_loopg [7] 400 (fun k s7 wr => ∃ i : Nat, s7 = .int .i64 i ∧ i ≤ 301 ∧ 400 ≤ i + k ∧ wr = wc)
      case atStart => exact ⟨lo, rfl, by omega, by omega, rfl⟩
      case round =>
        obtain ⟨i, rfl, hi1, hi2, rfl⟩ := hrel
        by_cases hz : (i : Int) < hi
        · have hin : i < n := by omega
          have hinz : (i : Int) < (n : Int) := by omega
          have c0 := HC.out i hin
          generalize M y i = v at *
          cases gk with
          | zero => omega
          | succ k =>
            cases hv : (v == 1) with
            | true =>
              go_wp2_with fail
              go_ret
              first | exact ⟨⟨false, rfl⟩, rfl⟩ | exact ⟨.inl rfl, rfl⟩ | exact .inl rfl
            | false =>
              go_wp2_with fail
              go_roundg k
              case measure => omega
              case rel => exact ⟨i + 1, by go_num, by omega, by omega, rfl⟩
        · go_wp2_with fail
          go_ret
          first | exact ⟨⟨true, rfl⟩, rfl⟩ | exact ⟨.inr rfl, rfl⟩ | exact .inr rfl
end Go.Proofs.YtcekbhhpcmhicaaGreatDoor
/- isWhiteVertical. -/
namespace Go.Proofs.YtcekbhhpcmhicaaGreatDoor
open Go Go.RowKit Go.Deep
set_option maxRecDepth 100000
set_option maxHeartbeats 3200000 in
theorem whiteV_calls {w : World} {m r n : Nat} {M : Nat → Nat → Int} (h : BM w m r n M) (x : Nat) (hx : x < n) (a t : Int) (ha : -100 ≤ a ∧ a ≤ 300) (ht : -100 ≤ t ∧ t ≤ 300) :
    Calls Tryz.prog 197 #[.slice (some ⟨r, 0, none⟩) n n, .int .i64 x, .int .i64 a, .int .i64 t] w fun e w' => (∃ b, e = .returned (.bool b)) ∧ w = w' := by
  have hl := h.lim
  have HC := Lib.hid (fun y (hy : y < n) => get_cell h hx hy)
  have HR := Lib.hid (fun y (hy : y < n) => h.rw_.cell hy)
  have hxz : (x : Int) < (n : Int) := by omega
  clear h
  go_enter Tryz.func197, Tryz.ntmps197
  go_upto_if 11 with fail
  go_cut [2] (fun s1 wc => ∃ lo : Nat, s1 = .int .i64 lo ∧ lo ≤ 300 ∧ wc = w)
  case first =>
    by_cases h1 : a < 0
    · go_wp2_with fail
      go_meet
      exact ⟨0, rfl, by omega, rfl⟩
    · obtain ⟨lo, rfl⟩ : ∃ lo : Nat, a = (lo : Int) := ⟨a.toNat, by omega⟩
      go_wp2_with fail
      go_meet
      exact ⟨lo, rfl, by omega, rfl⟩
  case rest =>
    obtain ⟨lo, rfl, hlo, hw1⟩ := hcut
    subst hw1
    go_upto_if 15 with fail
    go_cut [3] (fun s2 wc2 => ∃ hi : Int, s2 = .int .i64 hi ∧ hi ≤ n ∧ -100 ≤ hi ∧ wc2 = wc)
    case first =>
      by_cases h2 : (n : Int) < t
      · rw [show decide ((n : Int) < t) = true from decide_eq_true h2]
        go_wp2_with fail
        go_meet
        exact ⟨n, rfl, by omega, by omega, rfl⟩
      · rw [show decide ((n : Int) < t) = false from decide_eq_false h2]
        go_wp2_with fail
        go_meet
        exact ⟨t, rfl, by omega, by omega, rfl⟩
    case rest =>
      obtain ⟨hi, rfl, hhi, hhi2, hw2⟩ := hcut
      subst hw2
      go_wp2_with fail
      go_loopg [9] 400 (fun k s7 wr => ∃ i : Nat, s7 = .int .i64 i ∧ i ≤ 301 ∧ 400 ≤ i + k ∧ wr = wc)
      case atStart => exact ⟨lo, rfl, by omega, by omega, rfl⟩
      case round =>
        obtain ⟨i, rfl, hi1, hi2, rfl⟩ := hrel
        by_cases hz : (i : Int) < hi
        · have hin : i < n := by omega
          have hinz : (i : Int) < (n : Int) := by omega
          have c0 := HC.out i hin
          have r0 := HR.out i hin
          generalize M i x = v at *
          cases gk with
          | zero => omega
          | succ k =>
            cases hv : (v == 1) with
            | true =>
              go_wp2_with fail
              go_ret
              first | exact ⟨⟨false, rfl⟩, rfl⟩ | exact ⟨.inl rfl, rfl⟩ | exact .inl rfl
            | false =>
              go_wp2_with fail
              go_roundg k
              case measure => omega
              case rel => exact ⟨i + 1, by go_num, by omega, by omega, rfl⟩
        · go_wp2_with fail
          go_ret
          first | exact ⟨⟨true, rfl⟩, rfl⟩ | exact ⟨.inr rfl, rfl⟩ | exact .inr rfl
end Go.Proofs.YtcekbhhpcmhicaaGreatDoor
/- The penalties: bounds alone. Rule 2. -/
namespace Go.Proofs.YtcekbhhpcmhicaaGreatDoor
open Go Go.RowKit Go.Deep
set_option maxRecDepth 100000
set_option maxHeartbeats 3200000 in
theorem pen2_calls {w : World} {m r n : Nat} {M : Nat → Nat → Int} (h : BM w m r n M) (hn : 2 ≤ n) :
    Calls Tryz.prog 156 #[.pointer (some ⟨m, 0, none⟩)] w fun e w' => (∃ p : Nat, e = .returned (.int .i64 p) ∧ p ≤ 200000) ∧ w = w' := by
  have hl := h.lim
  have HA := Lib.hid (array_calls h)
  have HW := Lib.hid (width_calls h)
  have HH := Lib.hid (height_calls h)
  have HR := Lib.hid (fun y (hy : y < n) => h.rw_.cell hy)
  have HC := Lib.hid (fun x y (hx : x < n) (hy : y < n) => get_cell h hx hy)
  clear h
  go_enter Tryz.func156, Tryz.ntmps156
  go_wp2_with fail
  refine HA.out.mono ?_
  rintro e w1 ⟨rfl, rfl⟩
  go_wp2_with fail
  refine HW.out.mono ?_
  rintro e w1 ⟨rfl, rfl⟩
  go_wp2_with fail
  refine HH.out.mono ?_
  rintro e w1 ⟨rfl, rfl⟩
  go_wp2_with fail
  clear HA HW HH
  go_loopg [3, 7, 8, 9, 10] (n - 1) (fun q s3 s7 s8 s9 s10 wr => ∃ y p : Nat, y + q = n - 1 ∧ s7 = .int .i64 y ∧ s3 = .int .i64 p ∧ p ≤ 200 * y ∧ wr = w)
  case atStart => exact ⟨0, 0, by omega, rfl, rfl, by omega, rfl⟩
  case round =>
    obtain ⟨y, p, hy, rfl, rfl, hpy, rfl⟩ := hrel
    cases gk with
    | zero =>
      have hz : ¬ (y : Int) < (n : Int) - 1 := by omega
      have hp : p ≤ 40000 := by omega
      go_wp2_with fail
      go_ret
      exact ⟨⟨3 * p, by go_num, by omega⟩, rfl⟩
    | succ q =>
      have hz : (y : Int) < (n : Int) - 1 := by omega
      have hyn : y < n := by omega
      have hyn1 : y + 1 < n := by omega
      have hyz : (y : Int) < (n : Int) := by omega
      have r0 := HR.out y hyn
      have r1 := HR.out (y + 1) hyn1
      have HY := Lib.hid hy
      clear hy
      go_wp2_with fail
      go_loopg [3, 9, 10] (n - 1) (fun c s3 s9 s10 wq => ∃ x p : Nat, x + c = n - 1 ∧ s9 = .int .i64 x ∧ s3 = .int .i64 p ∧ p ≤ 200 * y + x ∧ wq = wr)
      case atStart => exact ⟨0, p, by omega, rfl, rfl, by omega, rfl⟩
      case round =>
        obtain ⟨x, p2, hx, rfl, rfl, hpx, rfl⟩ := hrel
        cases gk with
        | zero =>
          have hzz : ¬ (x : Int) < (n : Int) - 1 := by omega
          go_wp2_with fail
          go_roundg q
          case measure => omega
          case rel => exact ⟨y + 1, p2, by have := HY.out; omega, by go_num, rfl, by omega, rfl⟩
        | succ c =>
          have hzz : (x : Int) < (n : Int) - 1 := by omega
          have hxn : x < n := by omega
          have hxn1 : x + 1 < n := by omega
          have c00 := HC.out x y hxn hyn
          have c01 := HC.out (x + 1) y hxn1 hyn
          have c10 := HC.out x (y + 1) hxn hyn1
          have c11 := HC.out (x + 1) (y + 1) hxn1 hyn1
          generalize M y x = a at *
          generalize M y (x + 1) = b at *
          generalize M (y + 1) x = d at *
          generalize M (y + 1) (x + 1) = e at *
          have HX := Lib.hid hx
          clear hx
          have hp2 : p2 ≤ 40200 := by omega
          have hxz1 : (x : Int) + 1 < (n : Int) := by omega
          have hyz1 : (y : Int) + 1 < (n : Int) := by omega
          clear HR HC r0
          cases h1 : (a == b) with
          | false =>
            go_wp2_with fail
            go_roundg c
            case measure => omega
            case rel => exact ⟨x + 1, p2, by have := HX.out; omega, by go_num, rfl, by omega, rfl⟩
          | true =>
            cases h2 : (a == d) with
            | false =>
              go_wp2_with fail
              go_roundg c
              case measure => omega
              case rel => exact ⟨x + 1, p2, by have := HX.out; omega, by go_num, rfl, by omega, rfl⟩
            | true =>
              cases h3 : (a == e) with
              | false =>
                go_wp2_with fail
                go_roundg c
                case measure => omega
                case rel => exact ⟨x + 1, p2, by have := HX.out; omega, by go_num, rfl, by omega, rfl⟩
              | true =>
                go_wp2_with fail
                go_roundg c
                case measure => omega
                case rel => exact ⟨x + 1, p2 + 1, by have := HX.out; omega, by go_num, by go_num, by omega, rfl⟩
end Go.Proofs.YtcekbhhpcmhicaaGreatDoor
/- The penalties: rule 4. -/
namespace Go.Proofs.YtcekbhhpcmhicaaGreatDoor
open Go Go.RowKit Go.Deep
set_option maxRecDepth 100000
set_option maxHeartbeats 3200000 in
theorem pen4_calls {w : World} {m r n : Nat} {M : Nat → Nat → Int} (h : BM w m r n M) (hn : 21 ≤ n) :
    Calls Tryz.prog 158 #[.pointer (some ⟨m, 0, none⟩)] w fun e w' => (∃ p : Nat, e = .returned (.int .i64 p) ∧ p ≤ 20000000) ∧ w = w' := by
  have hl := h.lim
  have HA := Lib.hid (array_calls h)
  have HW := Lib.hid (width_calls h)
  have HH := Lib.hid (height_calls h)
  have HR := Lib.hid (fun y (hy : y < n) => h.rw_.cell hy)
  have HC := Lib.hid (fun x y (hx : x < n) (hy : y < n) => get_cell h hx hy)
  clear h
  go_enter Tryz.func158, Tryz.ntmps158
  go_wp2_with fail
  refine HA.out.mono ?_
  rintro e w1 ⟨rfl, rfl⟩
  go_wp2_with fail
  refine HW.out.mono ?_
  rintro e w1 ⟨rfl, rfl⟩
  go_wp2_with fail
  refine HH.out.mono ?_
  rintro e w1 ⟨rfl, rfl⟩
  go_wp2_with fail
  go_loopg [3, 7, 8, 9] n (fun q s3 s7 s8 s9 wr => ∃ y p : Nat, y + q = n ∧ s7 = .int .i64 y ∧ s3 = .int .i64 p ∧ p ≤ 200 * y ∧ wr = w)
  case atStart => exact ⟨0, 0, by omega, rfl, rfl, by omega, rfl⟩
  case round =>
    obtain ⟨y, p, hy, rfl, rfl, hpy, rfl⟩ := hrel
    cases gk with
    | zero =>
      have hz : ¬ (y : Int) < (n : Int) := by omega
      have hp : p ≤ 40000 := by omega
      obtain ⟨t, ht⟩ : ∃ t, n * n = t := ⟨_, rfl⟩
      have ht1 : 441 ≤ t := by rw [← ht]; exact Nat.mul_le_mul hn hn
      have ht2 : t ≤ 40000 := by rw [← ht]; exact Nat.mul_le_mul hl hl
      have hm : (n : Int) * (n : Int) = (t : Int) := by rw [← ht, Int.natCast_mul]
      have ht0 : ((t : Int) == 0) = false := beq_eq_false_iff_ne.2 (by omega)
      clear hpy hy HR HC HA ht
      by_cases hneg : 2 * p < t
      · obtain ⟨D, hD⟩ : ∃ D, t - 2 * p = D := ⟨_, rfl⟩
        have hDl : D ≤ 40000 := by omega
        have e1 : (p : Int) * 2 - (t : Int) < 0 := by omega
        have e2 : -((p : Int) * 2 - (t : Int)) = (D : Int) := by omega
        obtain ⟨v, hv⟩ : ∃ v, D * 10 / t = v := ⟨_, rfl⟩
        have hvl : v ≤ 400000 := by rw [← hv]; exact Nat.le_trans (Nat.div_le_self _ _) (by omega)
        have e3 : Int.tdiv ((D : Int) * 10) (t : Int) = (v : Int) := by rw [show (D : Int) * 10 = ((D * 10 : Nat) : Int) from by omega, ← Int.ofNat_tdiv, hv]
        clear hD hv hneg
        go_wp2_with fail
        refine HH.out.mono ?_
        rintro e w1 ⟨rfl, rfl⟩
        go_wp2_with fail
        refine HW.out.mono ?_
        rintro e w1 ⟨rfl, rfl⟩
        go_wp2_with fail
        go_ret
        exact ⟨⟨10 * v, by go_num, by omega⟩, rfl⟩
      · obtain ⟨D, hD⟩ : ∃ D, 2 * p - t = D := ⟨_, rfl⟩
        have hDl : D ≤ 80000 := by omega
        have e1 : ¬ ((D : Int) < 0) := by omega
        have e2 : (p : Int) * 2 - (t : Int) = (D : Int) := by omega
        obtain ⟨v, hv⟩ : ∃ v, D * 10 / t = v := ⟨_, rfl⟩
        have hvl : v ≤ 800000 := by rw [← hv]; exact Nat.le_trans (Nat.div_le_self _ _) (by omega)
        have e3 : Int.tdiv ((D : Int) * 10) (t : Int) = (v : Int) := by rw [show (D : Int) * 10 = ((D * 10 : Nat) : Int) from by omega, ← Int.ofNat_tdiv, hv]
        clear hD hv hneg
        go_wp2_with fail
        refine HH.out.mono ?_
        rintro e w1 ⟨rfl, rfl⟩
        go_wp2_with fail
        refine HW.out.mono ?_
        rintro e w1 ⟨rfl, rfl⟩
        go_wp2_with fail
        go_ret
        exact ⟨⟨10 * v, by go_num, by omega⟩, rfl⟩
    | succ q =>
      have hz : (y : Int) < (n : Int) := by omega
      have hyn : y < n := by omega
      have r0 := HR.out y hyn
      have HY := Lib.hid hy
      clear hy
      go_wp2_with fail
      go_loopg [3, 9] n (fun c s3 s9 wq => ∃ x p : Nat, x + c = n ∧ s9 = .int .i64 x ∧ s3 = .int .i64 p ∧ p ≤ 200 * y + x ∧ wq = wr)
      case atStart => exact ⟨0, p, by omega, rfl, rfl, by omega, rfl⟩
      case round =>
        obtain ⟨x, p2, hx, rfl, rfl, hpx, rfl⟩ := hrel
        cases gk with
        | zero =>
          have hzz : ¬ (x : Int) < (n : Int) := by omega
          go_wp2_with fail
          go_roundg q
          case measure => omega
          case rel => exact ⟨y + 1, p2, by have := HY.out; omega, by go_num, rfl, by omega, rfl⟩
        | succ c =>
          have hzz : (x : Int) < (n : Int) := by omega
          have hxn : x < n := by omega
          have c00 := HC.out x y hxn hyn
          generalize M y x = a at *
          have HX := Lib.hid hx
          have hp2 : p2 ≤ 40200 := by omega
          clear hx HR HC r0
          cases h1 : (a == 1) with
          | false =>
            go_wp2_with fail
            go_roundg c
            case measure => omega
            case rel => exact ⟨x + 1, p2, by have := HX.out; omega, by go_num, rfl, by omega, rfl⟩
          | true =>
            go_wp2_with fail
            go_roundg c
            case measure => omega
            case rel => exact ⟨x + 1, p2 + 1, by have := HX.out; omega, by go_num, by go_num, by omega, rfl⟩
end Go.Proofs.YtcekbhhpcmhicaaGreatDoor
