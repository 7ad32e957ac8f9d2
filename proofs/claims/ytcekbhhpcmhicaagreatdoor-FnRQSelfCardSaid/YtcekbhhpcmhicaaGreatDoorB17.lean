/- interleaveWithECBytes. -/
import Derived.Test.YtcekbhhpcmhicaaGreatDoorB15
import Derived.Test.YtcekbhhpcmhicaaGreatDoorB16
set_option linter.unusedSimpArgs false
set_option linter.unusedVariables false
namespace Go.Proofs.YtcekbhhpcmhicaaGreatDoor
open Go Go.RowKit Go.Deep
set_option maxRecDepth 100000
/-- where block i's data begin -/
def boff (T D nb : Nat) : Nat → Nat
  | 0 => 0
  | i + 1 => boff T D nb i + bsz T D nb i
theorem boff_mono (T D nb : Nat) {i j : Nat} (h : i ≤ j) : boff T D nb i ≤ boff T D nb j := by
  induction h with
  | refl => exact Nat.le_refl _
  | step _ ih => exact Nat.le_trans ih (Nat.le_add_right _ _)
/-- its data bytes -/
def dblk (bs : List Bool) (T D nb i : Nat) : List Nat := (List.range (bsz T D nb i)).map fun j => rd bs (8 * boff T D nb i + 8 * j) 8
theorem dblk_length (bs : List Bool) (T D nb i : Nat) : (dblk bs T D nb i).length = bsz T D nb i := by simp [dblk]
theorem dblk_getD (bs : List Bool) (T D nb i j : Nat) (h : j < bsz T D nb i) : (dblk bs T D nb i).getD j 0 = rd bs (8 * boff T D nb i + 8 * j) 8 := by
  unfold dblk; rw [List.getD_eq_getElem?_getD, List.getElem?_map, List.getElem?_range h]; rfl
theorem bsz_mono (T D nb : Nat) {i j : Nat} (h : i ≤ j) : bsz T D nb i ≤ bsz T D nb j := by
  unfold bsz
  split
  · split <;> omega
  · rw [if_neg (by omega)]; exact Nat.le_refl _
/-- the two rows of a pair -/
structure PairAt (w : World) (v : Value) (dd ee : List Nat) : Prop where
  ex : ∃ p a b, v = .pointer (some ⟨p, 0, none⟩) ∧ Blk w p 263 #[.slice (some ⟨a, 0, none⟩) dd.length dd.length, .slice (some ⟨b, 0, none⟩) ee.length ee.length] ∧
    w.rowIs a 5 dd.length (fun i => u8 (dd.getD i 0)) ∧ w.rowIs b 5 ee.length (fun i => u8 (ee.getD i 0))
theorem PairAt.fr {w w' : World} {F : Nat → Prop} {v : Value} {dd ee : List Nat} (h : PairAt w v dd ee) (hf : Fr F w w') (hF : ∀ k t c, Blk w k t c → t = 263 ∨ t = 5 → ¬ F k) : PairAt w' v dd ee := by
  obtain ⟨p, a, b, h1, h2, h3, h4⟩ := h.ex
  have hrow : ∀ {k n f}, w.rowIs k 5 n f → ¬ F k := fun hr => by
    obtain ⟨c, hb, _⟩ := hr
    exact hF _ 5 c hb (.inr rfl)
  exact ⟨p, a, b, h1, h2.fr hf (hF _ _ _ h2 (.inl rfl)), rowFr h3 hf (hrow h3), rowFr h4 hf (hrow h4)⟩
theorem PairAt.nil {w w' : World} {v : Value} {dd ee : List Nat} (h : PairAt w v dd ee) (hf : Fr Nil w w') : PairAt w' v dd ee := h.fr hf (fun _ _ _ _ _ e => e)
theorem newPair_calls {w : World} {a b : Nat} {dd ee : List Nat} (ha : w.rowIs a 5 dd.length (fun i => u8 (dd.getD i 0))) (hb : w.rowIs b 5 ee.length (fun i => u8 (ee.getD i 0))) :
    Calls Tryz.prog 118 #[.slice (some ⟨a, 0, none⟩) dd.length dd.length, .slice (some ⟨b, 0, none⟩) ee.length ee.length] w fun e w' => ∃ p, e = .returned (.pointer (some ⟨p, 0, none⟩)) ∧ PairAt w' (.pointer (some ⟨p, 0, none⟩)) dd ee ∧ Fr Nil w w' := by
  have hal : Fr Nil w (w.alloc (.cells #[.slice (some ⟨a, 0, none⟩) dd.length dd.length, .slice (some ⟨b, 0, none⟩) ee.length ee.length] 263)) := (Fr.refl _ _).alloc _
  have HF := Lib.hid (show _ ∧ _ from ⟨(⟨_, a, b, rfl, Blk.new w 263 _, rowFr ha hal (fun e => e), rowFr hb hal (fun e => e)⟩ : PairAt (w.alloc (.cells #[.slice (some ⟨a, 0, none⟩) dd.length dd.length, .slice (some ⟨b, 0, none⟩) ee.length ee.length] 263)) (.pointer (some ⟨w.heap.size, 0, none⟩)) dd ee), hal⟩)
  clear ha hb hal
  go_enter Tryz.func118, Tryz.ntmps118
  go_wp2
  go_ret
  exact ⟨_, rfl, HF.out.1, HF.out.2⟩
theorem pairData_calls {w : World} {v : Value} {dd ee : List Nat} (h : PairAt w v dd ee) :
    Calls Tryz.prog 119 #[v] w fun e w' => (∃ a, e = .returned (.slice (some ⟨a, 0, none⟩) dd.length dd.length) ∧ w.rowIs a 5 dd.length (fun i => u8 (dd.getD i 0))) ∧ w = w' := by
  obtain ⟨p, a, b, rfl, h2, h3, h4⟩ := h.ex
  have c0 := h2.cell 0
  simp only [List.getElem?_toArray, List.getElem?_cons_succ, List.getElem?_cons_zero] at c0
  have H3 := Lib.hid h3
  clear h h2 h3 h4
  go_enter Tryz.func119, Tryz.ntmps119
  go_wp2
  go_ret
  exact ⟨⟨a, rfl, H3.out⟩, rfl⟩
theorem pairEc_calls {w : World} {v : Value} {dd ee : List Nat} (h : PairAt w v dd ee) :
    Calls Tryz.prog 120 #[v] w fun e w' => (∃ a, e = .returned (.slice (some ⟨a, 0, none⟩) ee.length ee.length) ∧ w.rowIs a 5 ee.length (fun i => u8 (ee.getD i 0))) ∧ w = w' := by
  obtain ⟨p, a, b, rfl, h2, h3, h4⟩ := h.ex
  have c0 := h2.cell 1
  simp only [Nat.reduceAdd, List.getElem?_toArray, List.getElem?_cons_succ, List.getElem?_cons_zero] at c0
  have H3 := Lib.hid h4
  clear h h2 h3 h4
  go_enter Tryz.func120, Tryz.ntmps120
  go_wp2
  go_ret
  exact ⟨⟨b, rfl, H3.out⟩, rfl⟩
/-- the blocks so far -/
structure Blks (w : World) (bs : List Bool) (T D nb i : Nat) (xs : List Value) (es : List (List Nat)) : Prop where
  lx : xs.length = i
  le : es.length = i
  at_ : ∀ k, k < i → ∃ v e, xs[k]? = some v ∧ es[k]? = some e ∧ PairAt w v (dblk bs T D nb k) e
  el : ∀ k e, es[k]? = some e → e.length = bec T D nb ∧ Elems e ∧ ∀ j, j < bec T D nb → ev (dblk bs T D nb k ++ e) (gexp j) = 0
theorem Blks.fr {w w' : World} {F : Nat → Prop} {bs : List Bool} {T D nb i : Nat} {xs : List Value} {es : List (List Nat)} (h : Blks w bs T D nb i xs es) (hf : Fr F w w') (hF : ∀ k t c, Blk w k t c → t = 263 ∨ t = 5 → ¬ F k) : Blks w' bs T D nb i xs es :=
  ⟨h.lx, h.le, fun k hk => by obtain ⟨v, e, h1, h2, h3⟩ := h.at_ k hk; exact ⟨v, e, h1, h2, h3.fr hf hF⟩, h.el⟩
theorem Blks.snoc {w : World} {bs : List Bool} {T D nb i : Nat} {xs : List Value} {es : List (List Nat)} (h : Blks w bs T D nb i xs es) {v : Value} {e : List Nat} (hv : PairAt w v (dblk bs T D nb i) e)
    (he : e.length = bec T D nb ∧ Elems e ∧ ∀ j, j < bec T D nb → ev (dblk bs T D nb i ++ e) (gexp j) = 0) : Blks w bs T D nb (i + 1) (xs ++ [v]) (es ++ [e]) := by
  refine ⟨by simp [h.lx], by simp [h.le], fun k hk => ?_, fun k e' hk => ?_⟩
  · by_cases hki : k = i
    · subst hki
      refine ⟨v, e, ?_, ?_, hv⟩
      · rw [List.getElem?_append_right (by rw [h.lx]; exact Nat.le_refl _), h.lx, Nat.sub_self]; rfl
      · rw [List.getElem?_append_right (by rw [h.le]; exact Nat.le_refl _), h.le, Nat.sub_self]; rfl
    · obtain ⟨v', e', h1, h2, h3⟩ := h.at_ k (by omega)
      exact ⟨v', e', by rw [List.getElem?_append_left (by rw [h.lx]; omega)]; exact h1, by rw [List.getElem?_append_left (by rw [h.le]; omega)]; exact h2, h3⟩
  · by_cases hki : k < i
    · rw [List.getElem?_append_left (by rw [h.le]; exact hki)] at hk
      exact h.el k e' hk
    · have hlt := (List.getElem?_eq_some_iff.1 hk).1
      rw [List.length_append, h.le, List.length_singleton] at hlt
      have : k = i := by omega
      subst this
      rw [List.getElem?_append_right (by rw [h.le]; exact Nat.le_refl _), h.le, Nat.sub_self] at hk
      have : e = e' := by simpa using hk
      rw [← this]; exact he
end Go.Proofs.YtcekbhhpcmhicaaGreatDoor
/- interleaveWithECBytes: the walk. -/
namespace Go.Proofs.YtcekbhhpcmhicaaGreatDoor
open Go Go.RowKit Go.Deep
set_option maxRecDepth 100000
theorem Tryz.und202 : Tryz.prog.underlying 202 = some (.slice 208) := by kernel_rfl
theorem Tryz.inf208 : (Tryz.prog.info? 208).map (fun i => (i.zero, i.size, i.bytes)) = some (some (.pointer none), 1, 8) := by kernel_rfl
theorem mkPairs (w : World) : (Instr.makeSlice 202 (.int .i64 0) (.int .i64 0)).run Tryz.prog w = .ok (.slice (some ⟨w.heap.size, 0, none⟩) 0 0) (w.alloc (.cells (madeCells #[.pointer none] 0) 208)) :=
  run_make_row' (P := Tryz.prog) 202 208 (.pointer none) 8 Tryz.und202 Tryz.inf208 rfl .i64 .i64 0 (by omega) (by omega) w
theorem own_none (w : World) (e : TypeId) (z : Value) (lo : Nat) (hlo : lo ≤ w.heap.size) : (w.alloc (.cells (madeCells #[z] 0) e)).ownsRow lo e 1 (.slice (some ⟨w.heap.size, 0, none⟩) 0 0) 0 [] :=
  ⟨rfl, .inr ⟨w.heap.size, 0, madeCells #[z] 0, rfl, hlo, heap_alloc_new w _, Nat.le_refl _, by decide, by simp [madeCells], rfl⟩⟩
/-- the bytes in their order on the symbol: first bytes of each block, then second ones, .. -/
def ilv (m : Nat) (bl : List (List Nat)) : List Nat := (List.range m).flatMap fun j => bl.filterMap fun b => b[j]?
def bitsOf (l : List Nat) : List Bool := l.flatMap fun c => msb c 8
/-- all blocks' data -/
def dblks (bs : List Bool) (T D nb : Nat) : List (List Nat) := (List.range nb).map (dblk bs T D nb)
/-- the greatest so far -/
def mxd (T D nb i : Nat) : Nat := if i = 0 then 0 else bsz T D nb (i - 1)
def mxe (T D nb i : Nat) : Nat := if i = 0 then 0 else bec T D nb
theorem mxd_succ (T D nb i : Nat) : mxd T D nb (i + 1) = bsz T D nb i := by simp [mxd]
theorem mxd_le (T D nb i : Nat) : mxd T D nb i ≤ bsz T D nb i := by
  unfold mxd; split
  · omega
  · exact bsz_mono T D nb (by omega)
theorem mxe_succ (T D nb i : Nat) : mxe T D nb (i + 1) = bec T D nb := by simp [mxe]
theorem mxe_le (T D nb i : Nat) : mxe T D nb i ≤ bec T D nb := by unfold mxe; split <;> omega
theorem ilv_succ (m : Nat) (bl : List (List Nat)) : ilv (m + 1) bl = ilv m bl ++ bl.filterMap fun b => b[m]? := by
  unfold ilv; rw [List.range_succ, List.flatMap_append]; simp
theorem ilv_length (m : Nat) (bl : List (List Nat)) : (ilv m bl).length ≤ m * bl.length := by
  induction m with
  | zero => simp [ilv]
  | succ m ih =>
    rw [ilv_succ, List.length_append, Nat.add_mul, Nat.one_mul]
    have := List.length_filterMap_le (fun b : List Nat => b[m]?) bl
    omega
theorem bitsOf_append (a b : List Nat) : bitsOf (a ++ b) = bitsOf a ++ bitsOf b := by unfold bitsOf; rw [List.flatMap_append]
theorem bitsOf_length (a : List Nat) : (bitsOf a).length = 8 * a.length := by
  unfold bitsOf
  induction a with
  | nil => rfl
  | cons x a ih => rw [List.flatMap_cons, List.length_append, ih, msb_length, List.length_cons]; omega
theorem bitsOf_one (x : Nat) : bitsOf [x] = msb x 8 := by simp [bitsOf]
/-- the part of a round that is done -/
def ilp (m k : Nat) (bl : List (List Nat)) : List Nat := ilv m bl ++ (bl.take k).filterMap fun b => b[m]?
theorem ilp_zero (m : Nat) (bl : List (List Nat)) : ilp m 0 bl = ilv m bl := by simp [ilp]
theorem ilp_full (m : Nat) (bl : List (List Nat)) : ilp m bl.length bl = ilv (m + 1) bl := by rw [ilv_succ]; simp [ilp]
theorem ilp_succ (m k : Nat) (bl : List (List Nat)) {b : List Nat} (hb : bl[k]? = some b) : ilp m (k + 1) bl = if m < b.length then ilp m k bl ++ [b.getD m 0] else ilp m k bl := by
  unfold ilp
  rw [List.take_add_one, List.filterMap_append, hb]
  by_cases h : m < b.length
  · rw [if_pos h, List.append_assoc]; simp [h]
  · rw [if_neg h]; simp [List.getElem?_eq_none (Nat.le_of_not_lt h)]
theorem ilp_length (m k : Nat) (bl : List (List Nat)) : (ilp m k bl).length ≤ (m + 1) * bl.length := by
  unfold ilp
  have h1 := ilv_length m bl
  have h2 := List.length_filterMap_le (fun b : List Nat => b[m]?) (bl.take k)
  have h3 : (bl.take k).length ≤ bl.length := by rw [List.length_take]; omega
  rw [List.length_append, Nat.add_mul, Nat.one_mul]; omega
theorem ilv_count (m : Nat) : ∀ bl : List (List Nat), (bl.filterMap fun b => b[m]?).length + (bl.map fun b => min m b.length).sum = (bl.map fun b => min (m + 1) b.length).sum
  | [] => rfl
  | b :: bl => by
    have ih := ilv_count m bl
    simp only [List.map_cons, List.sum_cons]
    by_cases h : m < b.length
    · rw [List.filterMap_cons_some (b := b[m]) (by simp [h]), List.length_cons, Nat.min_eq_left (Nat.le_of_lt h), Nat.min_eq_left (show m + 1 ≤ b.length from h)]; omega
    · rw [List.filterMap_cons_none (by simp [Nat.le_of_not_lt h]), Nat.min_eq_right (Nat.le_of_not_lt h), Nat.min_eq_right (by omega)]; omega
theorem sum_const {α : Type} (f : α → Nat) (c : Nat) : ∀ l : List α, (∀ a ∈ l, f a = c) → (l.map f).sum = l.length * c
  | [], _ => by simp
  | a :: l, h => by rw [List.map_cons, List.sum_cons, sum_const f c l (fun x hx => h x (by simp [hx])), h a (by simp), List.length_cons, Nat.add_mul]; omega
theorem ilv_total (m : Nat) (bl : List (List Nat)) : (ilv m bl).length = (bl.map fun b => min m b.length).sum := by
  induction m with
  | zero =>
    have := sum_const (fun b : List Nat => min 0 b.length) 0 bl (fun _ _ => Nat.zero_min _)
    rw [this]; simp [ilv]
  | succ m ih => rw [ilv_succ, List.length_append, ih, ← ilv_count]; omega
theorem sum_dblks (bs : List Bool) (T D nb : Nat) : ∀ n, ((List.range n).map fun k => bsz T D nb k).sum = boff T D nb n
  | 0 => rfl
  | n + 1 => by rw [List.range_succ, List.map_append, List.sum_append, sum_dblks bs T D nb n, boff]; simp
theorem dilv_length (bs : List Bool) (T D nb : Nat) : (ilv (mxd T D nb nb) (dblks bs T D nb)).length = boff T D nb nb := by
  rw [ilv_total, ← sum_dblks bs T D nb nb]
  unfold dblks
  rw [List.map_map]
  congr 1
  apply List.map_congr_left
  intro k hk
  have hk' := List.mem_range.1 hk
  show min (mxd T D nb nb) (dblk bs T D nb k).length = _
  rw [dblk_length]
  exact Nat.min_eq_right (by unfold mxd; rw [if_neg (by omega)]; exact bsz_mono T D nb (by omega))
theorem eilv_length (ec : Nat) (es : List (List Nat)) (h : ∀ e ∈ es, e.length = ec) : (ilv ec es).length = es.length * ec := by
  rw [ilv_total]
  exact sum_const _ ec es (fun e he => by rw [h e he]; exact Nat.min_self _)
theorem dblks_length (bs : List Bool) (T D nb : Nat) : (dblks bs T D nb).length = nb := by simp [dblks]
theorem dblks_get (bs : List Bool) (T D nb k : Nat) (h : k < nb) : (dblks bs T D nb)[k]? = some (dblk bs T D nb k) := by
  unfold dblks; rw [List.getElem?_map, List.getElem?_range h]; rfl
theorem rd_lt (bs : List Bool) (pos : Nat) : rd bs pos 8 < 256 := wf_lt _ 8
theorem ecBlk_calls (bs : List Bool) (T D nb i : Nat) (h1 : 1 ≤ bsz T D nb i) (h2 : bsz T D nb i ≤ 501) (he1 : 1 ≤ bec T D nb) (he2 : bec T D nb ≤ 200) (w' : World) (a : Nat) (hrow : w'.rowIs a 5 (bsz T D nb i) (fun j => u8 ((dblk bs T D nb i).getD j 0))) :
    Calls Tryz.prog 117 #[.slice (some ⟨a, 0, none⟩) (bsz T D nb i) (bsz T D nb i), .int .i64 (bec T D nb)] w' fun e w'' => ∃ (eb : Nat) (ecc : List Nat), e = .returned (.tuple #[.slice (some ⟨eb, 0, none⟩) (bec T D nb) (bec T D nb), .nilIface]) ∧
      (ecc.length = bec T D nb ∧ Elems ecc ∧ (∀ j, j < bec T D nb → ev (dblk bs T D nb i ++ ecc) (gexp j) = 0)) ∧
      w''.rowIs eb 5 (bec T D nb) (fun j => u8 (ecc.getD j 0)) ∧ w'.heap.size ≤ eb ∧ Fr Nil w' w'' := by
  have hl := dblk_length bs T D nb i
  have := ecBytes_calls (w := w') (db := a) (cap := bsz T D nb i) (data := dblk bs T D nb i) (E := bec T D nb) (fun x hx => by
    obtain ⟨j, _, rfl⟩ := List.mem_map.1 hx
    exact rd_lt _ _) (by rw [hl]; omega) he1 he2 (by rw [hl]; omega) (by rw [hl]; exact Nat.le_refl _) (fun j hj => by rw [hl] at hj; exact hrow.cell hj) hrow.lt
  rw [hl] at this
  refine this.mono ?_
  rintro e w1 ⟨eb, ecc, h1, h2, h3, h4, h5, h6, h7⟩
  exact ⟨eb, ecc, h1, ⟨h2, h3, h4⟩, h5, h6, h7⟩
set_option maxHeartbeats 6400000 in
theorem interleave_calls {w : World} {p g n : Nat} {bs : List Bool} (h : BA w p g n bs) (T D nb : Nat) (hbs : bs.length = 8 * D) (hnb : 1 ≤ nb) (hnb2 : nb ≤ 200) (hT : T ≤ 4000) (hDT : D ≤ T) (hoff : boff T D nb nb = D) (hsum : D + nb * bec T D nb = T)
    (hd1 : 1 ≤ D / nb) (hd2 : D / nb ≤ 500) (he1 : 1 ≤ bec T D nb) (he2 : bec T D nb ≤ 200) :
    Calls Tryz.prog 61 #[.pointer (some ⟨p, 0, none⟩), .int .i64 T, .int .i64 D, .int .i64 nb] w fun e w' => ∃ (p' g' n' : Nat) (es : List (List Nat)), e = .returned (.tuple #[.pointer (some ⟨p', 0, none⟩), .nilIface]) ∧
      BA w' p' g' n' (bitsOf (ilv (mxd T D nb nb) (dblks bs T D nb) ++ ilv (bec T D nb) es)) ∧ es.length = nb ∧ (∀ k e, es[k]? = some e → e.length = bec T D nb ∧ Elems e ∧ ∀ j, j < bec T D nb → ev (dblk bs T D nb k ++ e) (gexp j) = 0) ∧ Fr Nil w w' := by
  have hfit := h.fit
  have hlim := h.lim
  have HSB := sizeBytes_calls h
  rw [hbs, show (8 * D + 7) / 8 = D from by omega] at HSB
  have HSB' := Lib.hid HSB
  have HB := Lib.hid h
  have hDD : ((D : Int) != (D : Int)) = false := by simp
  have hmk := mkPairs w
  obtain ⟨B, hB⟩ : ∃ B, w.heap.size = B := ⟨_, rfl⟩
  have hown := own_none w 208 (.pointer none) B (by omega)
  rw [hB] at hmk hown
  have HOWN := Lib.hid (show _ ∧ _ from ⟨hown, ((Fr.refl Nil w).alloc (.cells (madeCells #[.pointer none] 0) 208))⟩)
  have HBS := Lib.hid hbs
  clear HSB h hown hbs
  go_enter Tryz.func61, Tryz.ntmps61
  go_wp2_with (go_at_call 55; refine HSB'.out.mono ?_; rintro e w1 ⟨rfl, rfl⟩)
  clear hmk HSB'
  go_loopg [10, 11, 12, 13, 14, 15, 16, 17, 18, 19, 20] nb (fun r s10 s11 s12 s13 s14 s15 s16 s17 s18 s19 s20 wr => ∃ (i gx cap : Nat) (xs : List Value) (es : List (List Nat)), i + r = nb ∧ s14 = .int .i64 i ∧ s10 = .int .i64 (boff T D nb i) ∧ s11 = .int .i64 (mxd T D nb i) ∧ s12 = .int .i64 (mxe T D nb i) ∧
    s13 = .slice (some ⟨gx, 0, none⟩) i cap ∧ Hid (wr.ownsRow B 208 1 (.slice (some ⟨gx, 0, none⟩) i cap) i xs) ∧ Hid (Blks wr bs T D nb i xs es) ∧ Fr Nil w wr)
  case atStart => exact ⟨0, B, 0, [], [], by omega, rfl, rfl, rfl, rfl, rfl, Lib.hid HOWN.out.1, Lib.hid ⟨rfl, rfl, fun k hk => by omega, fun k e he => by simp at he⟩, HOWN.out.2⟩
  case round =>
    obtain ⟨i, gx, cap, xs, es, hi, rfl, rfl, rfl, rfl, rfl, HOX, HBL, hF⟩ := hrel
    clear HOWN
    cases gk with
    | zero =>
      have hin : i = nb := by omega
      subst hin
      have hz : ¬ (i : Int) < (i : Int) := by omega
      rw [hoff]
      have hmE : mxe T D i i = bec T D i := by unfold mxe; rw [if_neg (by omega)]
      rw [hmE]
      have hmd : mxd T D i i ≤ 501 := Nat.le_trans (mxd_le T D i i) (by unfold bsz; split <;> omega)
      go_wp2_with fail
      refine (newEmpty_calls wr).mono ?_
      rintro e w1 ⟨rfl, hBA, hf1, hs1⟩
      have HBL1 := Lib.hid (HBL.out.fr hf1 (fun _ _ _ _ _ e => e))
      have HOX1 := Lib.hid (own_fr HOX.out hf1 (fun e => e))
      obtain ⟨P, hP⟩ : ∃ P, wr.heap.size + 1 = P := ⟨_, rfl⟩
      rw [hP] at hBA ⊢
      obtain ⟨Gw, hGw⟩ : ∃ Gw, wr.heap.size = Gw := ⟨_, rfl⟩
      rw [hGw] at hBA
      have HPUT := Lib.hid (Put.refl hBA)
      have hF1 := hF.trans hf1
      obtain ⟨ec, hec⟩ : ∃ ec, bec T D i = ec := ⟨_, rfl⟩
      rw [hec] at hsum he1 he2 ⊢
      have HEQ := Lib.hid hec
      obtain ⟨md, hmdq⟩ : ∃ md, mxd T D i i = md := ⟨_, rfl⟩
      rw [hmdq] at hmd ⊢
      have HMD := Lib.hid hmdq
      have hgxl : gx < Gw := by
        obtain ⟨cur, hb, _⟩ := own_blk HOX.out
        rw [← hGw]; exact hb.lt
      have HW := Lib.hid (fun (bits : List Bool) (wq : World) (hp : Put w1 P Gw bits wq) => (show wq.ownsRow B 208 1 (.slice (some ⟨gx, 0, none⟩) i cap) i xs ∧ Blks wq bs T D i i xs es from by
        obtain ⟨g', n', _, hfq, _⟩ := hp
        refine ⟨own_fr HOX1.out hfq (fun e => by rcases e with e | e <;> omega), HBL1.out.fr hfq (fun k t c hb ht e => ?_)⟩
        obtain ⟨c2, hb2, _⟩ := hBA.ws
        rcases e with e | e
        · subst e
          rcases ht with rfl | rfl
          · exact hb.ne_ hBA.st (by decide) rfl
          · exact hb.ne_ hBA.st (by decide) rfl
        · subst e
          rcases ht with rfl | rfl
          · exact hb.ne_ hb2 (by decide) rfl
          · exact hb.ne_ hb2 (by decide) rfl))
      clear hec hmdq hmE hBA HBL HOX hf1 HBL1 HOX1
      go_wp2_with fail
      go_loopg [22, 24, 25] md (fun r s22 s24 s25 wq => ∃ m : Nat, m + r = md ∧ s22 = .int .i64 m ∧ Hid (Put w1 P Gw (bitsOf (ilv m (dblks bs T D i))) wq))
      case atStart => exact ⟨0, by omega, rfl, HPUT⟩
      case round =>
        obtain ⟨m, hm, rfl, HP⟩ := hrel
        clear HPUT
        cases gk with
        | zero =>
          have hmm : m = md := by omega
          subst hmm
          have hmz : ¬ (m : Int) < (m : Int) := by omega
          have hel := Lib.hid ((HW.out _ _ HP.out).2.el)
          have hele := Lib.hid ((HW.out _ _ HP.out).2.le)
          have hDl : Hid ((ilv m (dblks bs T D i)).length = D) := Lib.hid (by have := dilv_length bs T D i; rw [HMD.out] at this; rw [this, hoff])
          generalize hdlq : ilv m (dblks bs T D i) = dl at *
          have HDL := Lib.hid hdlq
          clear hdlq
          go_wp2_with fail
          go_loopg [26, 28, 29] ec (fun r s26 s28 s29 wq => ∃ m : Nat, m + r = ec ∧ s26 = .int .i64 m ∧ Hid (Put w1 P Gw (bitsOf (dl ++ ilv m es)) wq))
          case atStart => exact ⟨0, by omega, rfl, Lib.hid (by simpa [ilv] using HP.out)⟩
          case round =>
            obtain ⟨m', hm', rfl, HP'⟩ := hrel
            clear HP
            cases gk with
            | zero =>
              have hmm : m' = ec := by omega
              subst hmm
              have hmz2 : ¬ (m' : Int) < (m' : Int) := by omega
              have hlen : Hid ((bitsOf (dl ++ ilv m' es)).length = 8 * T) := Lib.hid (by
                rw [bitsOf_length, List.length_append, hDl.out, eilv_length m' es (fun e he => by
                  obtain ⟨k, hk⟩ := List.getElem?_of_mem he
                  rw [(hel.out k e hk).1, HEQ.out]), hele.out, hsum])
              have HSZ := HP'.out.sizeBytes
              rw [hlen.out, show (8 * T + 7) / 8 = T from by omega] at HSZ
              have HSZ' := Lib.hid HSZ
              have hTT : ((T : Int) != (T : Int)) = false := by simp
              clear HSZ
              go_wp2_with (go_at_call 55; refine HSZ'.out.mono ?_; rintro e w5 ⟨rfl, rfl⟩)
              go_ret2
              obtain ⟨g', n', hb', hfq, _⟩ := HP'.out
              refine ⟨P, g', n', es, rfl, by rw [HMD.out, HDL.out, HEQ.out]; exact hb', hele.out, hel.out, hF1.trans' hfq (fun j hj e => ?_)⟩
              have := hF.size
              rcases e with e | e <;> omega
            | succ r =>
              have hmz2 : (m' : Int) < (ec : Int) := by omega
              have HM := Lib.hid hm'
              clear hm'
              go_wp2_with fail
              go_loopg [28, 29, 131] i (fun r2 s28 s29 s131 wq => ∃ k : Nat, k + r2 = i ∧ s131 = .int .i64 k ∧ Hid (Put w1 P Gw (bitsOf (dl ++ ilp m' k es)) wq))
              case atStart => exact ⟨0, by omega, rfl, Lib.hid (by rw [ilp_zero]; exact HP'.out)⟩
              case round =>
                obtain ⟨k, hk, rfl, HP2⟩ := hrel
                clear HP'
                cases gk with
                | zero =>
                  have hki : k = i := by omega
                  subst hki
                  have hkk : ¬ (k : Int) < (k : Int) := by omega
                  go_wp2_with fail
                  go_roundg r
                  case measure => omega
                  case rel => exact ⟨m' + 1, by have := HM.out; omega, by go_num, Lib.hid (by have := HP2.out; have hf := ilp_full m' es; rw [hele.out] at hf; rwa [hf] at this)⟩
                | succ r2 =>
                  have hkz : (k : Int) < (i : Int) := by omega
                  have hki : k < i := by omega
                  obtain ⟨hown, hbl⟩ := HW.out _ _ HP2.out
                  obtain ⟨v, e, hxv, hev, hpa⟩ := hbl.at_ k hki
                  have hpd := pairEc_calls hpa
                  obtain ⟨q, a', b', rfl, _⟩ := hpa.ex
                  have hc := own_cell hown hxv
                  have hcapi : i ≤ cap := by obtain ⟨cur, _, h2⟩ := own_blk hown; exact h2
                  have hst := ilp_succ m' k es hev
                  have hee := (hel.out k e hev).1
                  rw [HEQ.out] at hee
                  have hln := ilp_length m' k es
                  rw [hele.out] at hln
                  have hbl2 : (bitsOf (dl ++ ilp m' k es)).length ≤ 1800000 := by
                    rw [bitsOf_length, List.length_append, hDl.out]
                    have : (m' + 1) * i ≤ 200 * 200 := Nat.mul_le_mul (by have := HM.out; omega) hnb2
                    omega
                  rw [hee] at hst hpd
                  rw [if_pos (by have := HM.out; omega)] at hst
                  have HST := Lib.hid hst
                  have HK := Lib.hid hk
                  have HPD := Lib.hid hpd
                  have hdel : e.getD m' 0 < 256 := getD_lt (hel.out k e hev).2.1 m'
                  have HA := Lib.hid (HP2.out.appendBits hbl2 (e.getD m' 0) 8 (by omega) (by omega))
                  clear hown hbl hxv hev hpa hpd hst hln hk
                  go_wp2_with fail
                  refine HPD.out.mono ?_
                  rintro e1 w2 ⟨⟨a, rfl, hrow⟩, rfl⟩
                  have hcm := hrow.cell (i := m') (by have := HM.out; omega)
                  generalize e.getD m' 0 = x at *
                  clear hrow
                  go_wp2_with fail
                  refine HA.out.mono ?_
                  rintro e2 w3 ⟨rfl, hP3⟩
                  have HP3 := Lib.hid hP3
                  clear hP3 hcm hc
                  go_wp2_with fail
                  go_roundg r2
                  case measure => omega
                  case rel => exact ⟨k + 1, by have := HK.out; omega, by go_num, Lib.hid (by rw [HST.out, ← List.append_assoc, bitsOf_append, bitsOf_one]; exact HP3.out)⟩
        | succ r =>
          have hmz : (m : Int) < (md : Int) := by omega
          have HM := Lib.hid hm
          clear hm
          go_wp2_with fail
          go_loopg [24, 25, 106] i (fun r2 s24 s25 s106 wq => ∃ k : Nat, k + r2 = i ∧ s106 = .int .i64 k ∧ Hid (Put w1 P Gw (bitsOf (ilp m k (dblks bs T D i))) wq))
          case atStart => exact ⟨0, by omega, rfl, Lib.hid (by rw [ilp_zero]; exact HP.out)⟩
          case round =>
            obtain ⟨k, hk, rfl, HP2⟩ := hrel
            clear HP
            cases gk with
            | zero =>
              have hki : k = i := by omega
              subst hki
              have hkk : ¬ (k : Int) < (k : Int) := by omega
              go_wp2_with fail
              go_roundg r
              case measure => omega
              case rel => exact ⟨m + 1, by have := HM.out; omega, by go_num, Lib.hid (by have := HP2.out; have hf := ilp_full m (dblks bs T D k); rw [dblks_length] at hf; rwa [hf] at this)⟩
            | succ r2 =>
              have hkz : (k : Int) < (i : Int) := by omega
              have hki : k < i := by omega
              obtain ⟨hown, hbl⟩ := HW.out _ _ HP2.out
              obtain ⟨v, e, hxv, hev, hpa⟩ := hbl.at_ k hki
              have hpd := pairData_calls hpa
              obtain ⟨q, a', b', rfl, _⟩ := hpa.ex
              have hc := own_cell hown hxv
              have hcapi : i ≤ cap := by obtain ⟨cur, _, h2⟩ := own_blk hown; exact h2
              have HPD := Lib.hid hpd
              have hst := ilp_succ m k _ (dblks_get bs T D i k hki)
              have hln := ilp_length m k (dblks bs T D i)
              rw [dblks_length] at hln
              have hbl2 : (bitsOf (ilp m k (dblks bs T D i))).length ≤ 1800000 := by
                rw [bitsOf_length]
                have : (m + 1) * i ≤ 502 * 200 := Nat.mul_le_mul (by have := HM.out; omega) hnb2
                omega
              rw [dblk_length] at hst hpd
              have HST := Lib.hid hst
              have HK := Lib.hid hk
              have HPD := Lib.hid hpd
              have hszb : bsz T D i k ≤ 501 := by unfold bsz; split <;> omega
              have hdel : (dblk bs T D i k).getD m 0 < 256 := getD_lt (fun x hx => by
                obtain ⟨j, _, rfl⟩ := List.mem_map.1 hx
                exact rd_lt _ _) m
              clear hown hbl hxv hev hpa hpd hst hln hk
              generalize bsz T D i k = sz at *
              go_wp2_with fail
              refine HPD.out.mono ?_
              rintro e1 w2 ⟨⟨a, rfl, hrow⟩, rfl⟩
              by_cases hms : m < sz
              · have hmsz : (m : Int) < (sz : Int) := by omega
                have hcm := hrow.cell hms
                have hst := HST.out
                rw [if_pos hms] at hst
                have HA := Lib.hid (HP2.out.appendBits hbl2 ((dblk bs T D i k).getD m 0) 8 (by omega) (by omega))
                have HST2 := Lib.hid hst
                clear hst HST hrow
                generalize (dblk bs T D i k).getD m 0 = x at *
                go_wp2_with fail
                refine HA.out.mono ?_
                rintro e2 w3 ⟨rfl, hP3⟩
                have HP3 := Lib.hid hP3
                clear hP3 hcm hc
                go_wp2_with fail
                go_roundg r2
                case measure => omega
                case rel => exact ⟨k + 1, by have := HK.out; omega, by go_num, Lib.hid (by rw [HST2.out, bitsOf_append, bitsOf_one]; exact HP3.out)⟩
              · have hmsz : ¬ (m : Int) < (sz : Int) := by omega
                have hst := HST.out
                rw [if_neg hms] at hst
                have HST2 := Lib.hid hst
                clear hst HST hrow
                go_wp2_with fail
                go_roundg r2
                case measure => omega
                case rel => exact ⟨k + 1, by have := HK.out; omega, by go_num, Lib.hid (by rw [HST2.out]; exact HP2.out)⟩
    | succ r =>
      have hz : (i : Int) < (nb : Int) := by omega
      have HI := Lib.hid hi
      have hsize : bsz T D nb i ≤ 501 := by unfold bsz; split <;> omega
      have hsize1 : 1 ≤ bsz T D nb i := by unfold bsz; split <;> omega
      have hmd := mxd_le T D nb i
      have hme := mxe_le T D nb i
      have hmds := Lib.hid (mxd_succ T D nb i)
      have hmes := Lib.hid (mxe_succ T D nb i)
      have hob : boff T D nb i + bsz T D nb i ≤ D := by
        have := boff_mono T D nb (show i + 1 ≤ nb by omega)
        rw [hoff] at this; exact this
      have hob' := Lib.hid (show boff T D nb i + bsz T D nb i = boff T D nb (i + 1) from rfl)
      have HID := Lib.hid (blockId_calls wr T D nb i (by omega) (by omega) (by omega) (by omega))
      have HEC := Lib.hid (ecBlk_calls bs T D nb i hsize1 hsize he1 he2)
      have hdl := Lib.hid (dblk_length bs T D nb i)
      have hdg := Lib.hid (dblk_getD bs T D nb i)
      generalize hmi : mxd T D nb i = md at *
      generalize hni : mxe T D nb i = me at *
      generalize hoi : boff T D nb i = ofs at *
      generalize hsi : bsz T D nb i = sz at *
      generalize hec : bec T D nb = ec at *
      have HEQ := Lib.hid hec
      clear hmi hni hi hoi hsi hec
      go_wp2_with fail
      refine HID.out.mono ?_
      rintro e w1 ⟨rfl, rfl⟩
      obtain ⟨A, hA⟩ : ∃ A, wr.heap.size = A := ⟨_, rfl⟩
      have hmk2 := mkBytes sz (by omega) wr
      rw [hA] at hmk2
      have hr2 := World.rowIs_made wr (.int .u8 0) sz 5
      rw [hA] at hr2
      have HR2 := Lib.hid (show _ ∧ _ from ⟨hr2, (Fr.refl Nil wr).alloc (.cells (madeCells #[.int .u8 0] sz) 5)⟩)
      clear hr2 HID
      go_wp2_with fail
      have hA0 : Fr Nil wr (wr.alloc (.cells (madeCells #[.int .u8 0] sz) 5)) := HR2.out.2
      have hBA : BA (wr.alloc (.cells (madeCells #[.int .u8 0] sz) 5)) p g n bs := (HB.out.fr hF (fun e => e) (fun e => e)).fr hA0 (fun e => e) (fun e => e)
      rw [show (8 : Int) * (ofs : Int) = ((8 * ofs : Nat) : Int) from by omega]
      refine (toBytes_calls hBA (8 * ofs) (by have := HBS.out; omega) HR2.out.1).mono ?_
      rintro e w2 ⟨rfl, hrow2, hf2⟩
      have hf02 : Fr Nil wr w2 := hA0.trans' hf2 (fun j hj e => by have : j = A := e; omega)
      have HROW := Lib.hid (hrow2.congr (g := fun j => .int .u8 (((dblk bs T D nb i).getD j 0 : Nat) : Int)) (fun j hj => by rw [hdg.out j hj]))
      clear hrow2 hf2 hBA hA0 HR2 hmk2
      go_wp2_with fail
      refine (HEC.out w2 A HROW.out).mono ?_
      rintro e w3 ⟨eb, ecc, rfl, hecc, hrow3, heb, hf3⟩
      have hf03 := hf02.trans hf3
      have HROW3 := Lib.hid (rowFr HROW.out hf3 (fun e => e))
      have HECC := Lib.hid hecc
      have hecl := hecc.1
      have HNP := newPair_calls (dd := dblk bs T D nb i) (ee := ecc) (by rw [hdl.out]; exact HROW3.out) (by rw [hecl]; exact hrow3)
      rw [hdl.out, hecl] at HNP
      have HNP' := Lib.hid HNP
      clear hecc hrow3 hf02 hf3 HROW HROW3 HNP hecl HEC
      go_wp2_with fail
      refine HNP'.out.mono ?_
      rintro e w4 ⟨q, rfl, hPA, hf4⟩
      have hf04 := hf03.trans hf4
      have hal : Fr Nil wr (w4.alloc (.cells #[.pointer (some ⟨q, 0, none⟩)] 208)) := hf04.alloc _
      have hPA2 := hPA.nil ((Fr.refl Nil _).alloc (.cells #[.pointer (some ⟨q, 0, none⟩)] 208))
      obtain ⟨i208, hi208, hzi⟩ := Option.map_eq_some_iff.1 Tryz.inf208
      simp only [Prod.mk.injEq] at hzi
      have hszA := hal.size
      have hszB := hF.size
      obtain ⟨g2, cap2, w7, hap, hown2, hgrow, hlies, hlt⟩ := run_append_lies (P := Tryz.prog) (w := w4.alloc (.cells #[.pointer (some ⟨q, 0, none⟩)] 208)) 202 202 B 208 i208 (.pointer none) 1 8 Tryz.und202 hi208 hzi.1 hzi.2.1 hzi.2.2 rfl (by omega)
        (.slice (some ⟨gx, 0, none⟩) i cap) i xs (own_fr HOX.out hal (fun e => e)) ⟨w4.heap.size, 0, none⟩ 1 1 [.pointer (some ⟨q, 0, none⟩)] rfl
        (fun k u hu => by
          have hk : k = 0 := by
            rcases Nat.lt_or_ge k 1 with h | h
            · omega
            · rw [List.getElem?_eq_none (by simpa using h)] at hu; cases hu
          subst hk
          rw [← hu, addr_add_row, Nat.zero_add]
          exact (Blk.new w4 208 #[.pointer (some ⟨q, 0, none⟩)]).cell 0) (fun u hu => by
          have : u = .pointer (some ⟨q, 0, none⟩) := by simpa using hu
          rw [this]; rfl) (by omega) (by have : maxLen = 9223372036854775807 := rfl; omega) (by omega) (by omega) _ rfl
      have hfg := Fr.of_grown hgrow
      have hty : ∀ k t c, Blk (w4.alloc (.cells #[.pointer (some ⟨q, 0, none⟩)] 208)) k t c → t = 263 ∨ t = 5 → ¬ (fun k => some k = (Value.slice (some ⟨gx, 0, none⟩) i cap).ownBlock) k := fun k t c hb ht e => by
        obtain ⟨cur, hb2, _⟩ := own_blk (own_fr HOX.out hal (fun e => e))
        have hkg : k = gx := by cases e; rfl
        subst hkg
        rcases ht with rfl | rfl
        · exact hb.ne_ hb2 (by decide) rfl
        · exact hb.ne_ hb2 (by decide) rfl
      have HBL2 := Lib.hid (((HBL.out.fr hal (fun _ _ _ _ _ e => e)).fr hfg hty).snoc (hPA2.fr hfg hty) (by rw [HEQ.out]; exact HECC.out))
      have HOX2 := Lib.hid hown2
      have hgxB : B ≤ gx := by
        rcases HOX.out.2 with ⟨h0, _⟩ | ⟨g', cap', cur, hv', h1, _⟩
        · cases h0
        · cases hv'; exact h1
      have HF7 : Hid (Fr Nil w w7) := Lib.hid ((hF.trans hal).trans' hfg (fun j hj e => by
        have hkg : j = gx := by cases e; rfl
        omega))
      have HAP := Lib.hid hap
      clear hap hown2 hgrow hlies hfg hty hPA hPA2 hal hf04 hf4 hf03 HOX HBL hgxB
      go_wp2_with (at_builtin; refine Lib.wpList_append_run _ rfl _ _ _ _ rfl _ _ rfl rfl _ _ HAP.out ?_)
      all_goals
        go_roundg r
        case measure => omega
        case rel => exact ⟨i + 1, g2, cap2, _, _, by have := HI.out; omega, by go_num, by rw [← hob'.out]; go_num, by first | (rw [hmds.out]; done) | (rw [hmds.out]; go_num), by first | (rw [hmes.out]; done) | (rw [hmes.out]; go_num), rfl, HOX2, HBL2, HF7.out⟩
end Go.Proofs.YtcekbhhpcmhicaaGreatDoor
