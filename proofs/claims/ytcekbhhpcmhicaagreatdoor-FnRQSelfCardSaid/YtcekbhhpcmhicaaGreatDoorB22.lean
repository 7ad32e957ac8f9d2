/- Steps of a region over a frame that is not written out. -/
import Derived.Conc.MuLone
import Derived.Conc.EntryLaws
import Derived.Test.YtcekbhhpcmhicaaGreatDoorB02
set_option linter.unusedSimpArgs false
set_option linter.unusedVariables false
namespace Go.Proofs.YtcekbhhpcmhicaaGreatDoor
open Go Go.RowKit Go.Deep
/-- what slots hold -/
def Fct (a : Act) (N : Nat) (S : List (Nat × Value)) : Prop := a.tmps.size = N ∧ ∀ p ∈ S, a.tmps[p.1]? = some p.2
/-- outside lo .. hi nothing has turned -/
structure OvA (a a' : Act) (lo hi : Nat) : Prop where
  d : a'.defers = a.defers
  s : a'.tmps.size = a.tmps.size
  k : ∀ i, i < lo ∨ hi ≤ i → a'.tmps[i]? = a.tmps[i]?
theorem OvA.refl (a : Act) (lo hi : Nat) : OvA a a lo hi := ⟨rfl, rfl, fun _ _ => rfl⟩
theorem put_at {a : Act} {d : Nat} (v : Value) (h : d < a.tmps.size) : (a.put (some d) v).tmps[d]? = some v := by
  simp [Act.put, Array.getElem?_setIfInBounds, h]
theorem put_ne {a : Act} {d k : Nat} (v : Value) (h : k ≠ d) : (a.put (some d) v).tmps[k]? = a.tmps[k]? := by
  simp only [Act.put, Array.getElem?_setIfInBounds]
  rw [if_neg (fun e => h e.symm)]
theorem put_size (a : Act) (d : Nat) (v : Value) : (a.put (some d) v).tmps.size = a.tmps.size := by simp [Act.put]
theorem OvA.put {a a' : Act} {lo hi : Nat} (h : OvA a a' lo hi) {d : Nat} (v : Value) (h1 : lo ≤ d) (h2 : d < hi) : OvA a (a'.put (some d) v) lo hi :=
  ⟨h.d, (put_size _ _ _).trans h.s, fun i hi' => (put_ne v (by omega)).trans (h.k i hi')⟩
theorem OvA.trans {a b c : Act} {lo hi : Nat} (h : OvA a b lo hi) (h2 : OvA b c lo hi) : OvA a c lo hi := ⟨h2.d.trans h.d, h2.s.trans h.s, fun i hi => (h2.k i hi).trans (h.k i hi)⟩
theorem Fct.put {a : Act} {N : Nat} {S : List (Nat × Value)} (h : Fct a N S) {d : Nat} (v : Value) (hd : ∀ p ∈ S, p.1 ≠ d) (hN : d < N) : Fct (a.put (some d) v) N ((d, v) :: S) := by
  refine ⟨(put_size _ _ _).trans h.1, fun p hp => ?_⟩
  rcases List.mem_cons.1 hp with e | hp
  · rw [e]; exact put_at v (by rw [h.1]; exact hN)
  · exact (put_ne v (hd p hp)).trans (h.2 p hp)
theorem Fct.sub {a : Act} {N : Nat} {S T : List (Nat × Value)} (h : Fct a N S) (hs : ∀ p ∈ T, p ∈ S) : Fct a N T := ⟨h.1, fun p hp => h.2 p (hs p hp)⟩
theorem Fct.get {a : Act} {N k : Nat} {v : Value} {S : List (Nat × Value)} (h : Fct a N S) (hk : (k, v) ∈ S) : a.eval (.tmp k) = v := by
  have := h.2 _ hk
  simp only at this
  simp [Act.eval, Array.getD_eq_getD_getElem?, this]
section
variable {P : Program} {ops : Array Oper} {Q : Exit → Act → World → Prop} {a : Act} {w : World} {rest : List Oper} {o : Oper}
theorem wpl_go {v : Value} (d : Option Tmp) (hd : o.dst = d) (hw : Region.wanted o (yielded ops a.tmps) = true) (hr : (execOp a.eval o).run P w = .ok (.value v) w) (h : wpList P ops Q rest (a.put d v) w) : wpList P ops Q (o :: rest) a w := by
  subst hd
  refine wpList_step fun K hK => ?_
  rw [if_pos hw]
  unfold Oper.wp
  rw [hr]
  exact hK _ _ h
theorem wpl_pass (d : Option Tmp) (hd : o.dst = d) (hw : Region.wanted o (yielded ops a.tmps) = false) (h : wpList P ops Q rest (a.put d undef) w) : wpList P ops Q (o :: rest) a w := by
  subst hd
  exact wpList_skip hw h
theorem wanted_none (hg : o.guard = none) (y : Nat → Option Bool) : Region.wanted o y = true := by unfold Region.wanted; rw [hg]
theorem wanted_some {g e N : Nat} {b t : Bool} {S : List (Nat × Value)} (hF : Fct a N S) (hg : o.guard = some (g, t)) (hd : (ops[g]?).bind (·.dst) = some e) (he : (e, Value.bool b) ∈ S) : Region.wanted o (yielded ops a.tmps) = (b == t) := by
  have h := hF.2 _ he
  simp only at h
  unfold Region.wanted
  rw [hg]
  simp only [yielded, hd, Option.bind_some, h]
  cases b <;> cases t <;> rfl
theorem wanted_undef {g e N : Nat} {t : Bool} {S : List (Nat × Value)} (hF : Fct a N S) (hg : o.guard = some (g, t)) (hd : (ops[g]?).bind (·.dst) = some e) (he : (e, undef) ∈ S) : Region.wanted o (yielded ops a.tmps) = false := by
  have h := hF.2 _ he
  simp only at h
  unfold Region.wanted
  rw [hg]
  simp only [yielded, hd, Option.bind_some, h, undef]
  rfl
theorem run_mv {x : Operand} {v : Value} (h : o.op = .move x) (ρ : Operand → Value) (hx : ρ x = v) : (execOp ρ o).run P w = .ok (.value v) w := by
  subst hx; unfold execOp; rw [h]; rfl
theorem run_pk {c x y : Operand} {b : Bool} {v : Value} (h : o.op = .pick c x y) (ρ : Operand → Value) (hc : ρ c = .bool b) (hv : (if b then ρ x else ρ y) = v) : (execOp ρ o).run P w = .ok (.value v) w := by
  subst hv; unfold execOp; rw [h]; simp [hc, asBool]
theorem run_add {x : Operand} {i k j : Int} (hj : IntKind.i64.wrap (i + k) = j) (h : o.op = .binOp .add 3 x (.const (.int .i64 k)) 3) (ρ : Operand → Value) (hx : ρ x = .int .i64 i) (hc : ρ (.const (.int .i64 k)) = .int .i64 k) : (execOp ρ o).run P w = .ok (.value (.int .i64 j)) w := by
  subst hj; unfold execOp; rw [h]; simp [hx, hc, eqGuard, binOp, Op.intArith]
theorem run_sub {x : Operand} {i k j : Int} (hj : IntKind.i64.wrap (i - k) = j) (h : o.op = .binOp .sub 3 x (.const (.int .i64 k)) 3) (ρ : Operand → Value) (hx : ρ x = .int .i64 i) (hc : ρ (.const (.int .i64 k)) = .int .i64 k) : (execOp ρ o).run P w = .ok (.value (.int .i64 j)) w := by
  subst hj; unfold execOp; rw [h]; simp [hx, hc, eqGuard, binOp, Op.intArith]
theorem run_eq8 {x : Operand} {i k : Int} (h : o.op = .binOp .eql 64 x (.const (.int .i8 k)) 64) (ρ : Operand → Value) (hx : ρ x = .int .i8 i) (hc : ρ (.const (.int .i8 k)) = .int .i8 k) : ∃ b, (execOp ρ o).run P w = .ok (.value (.bool b)) w := by
  refine ⟨i == k, ?_⟩
  unfold execOp; rw [h]; simp [hx, hc, eqGuard, binOp, Op.intCmp]
end
end Go.Proofs.YtcekbhhpcmhicaaGreatDoor
/- One test of penalty rule 3, over a frame that is not written out. -/
namespace Go.Proofs.YtcekbhhpcmhicaaGreatDoor
open Go Go.RowKit Go.Deep
set_option maxRecDepth 100000
section
variable {w : World} {o : Oper}
theorem run_ix8 {x i : Operand} {g n c kk : Nat} {k : Int} (h : o.op = .indexAddr 145 x i) (ρ : Operand → Value) (hx : ρ x = .slice (some ⟨g, 0, none⟩) n c) (hi : ρ i = .int .i64 k) (hk : k = kk) (hn : kk < n) :
    (execOp ρ o).run Tryz.prog w = .ok (.value (.pointer (some ⟨g, kk, none⟩))) w := by
  subst hk
  unfold execOp
  rw [h]
  simp only [hx, hi]
  have h2 : (Instr.indexAt 145 (.slice (some ⟨g, 0, none⟩) n c) (.int .i64 (kk : Int))).run Tryz.prog w = .ok (.pointer (some ⟨g, kk, none⟩)) w := by
    rw [run_indexAt_slice _ 145 _ n c .i64 _ (by kernel_rfl), if_pos (by omega)]
    have h3 : (sizeOf (Tryz.prog.elem 145)).run Tryz.prog w = .ok 1 w := by kernel_rfl
    rw [h3]
    simp [Result.andThen, addr_add_row]
  simp [h2, Result.andThen]
theorem run_ixR {x i : Operand} {g n c kk : Nat} {k : Int} (h : o.op = .indexAddr 142 x i) (ρ : Operand → Value) (hx : ρ x = .slice (some ⟨g, 0, none⟩) n c) (hi : ρ i = .int .i64 k) (hk : k = kk) (hn : kk < n) :
    (execOp ρ o).run Tryz.prog w = .ok (.value (.pointer (some ⟨g, kk, none⟩))) w := by
  subst hk
  unfold execOp
  rw [h]
  simp only [hx, hi]
  have h2 : (Instr.indexAt 142 (.slice (some ⟨g, 0, none⟩) n c) (.int .i64 (kk : Int))).run Tryz.prog w = .ok (.pointer (some ⟨g, kk, none⟩)) w := by
    rw [run_indexAt_slice _ 142 _ n c .i64 _ (by kernel_rfl), if_pos (by omega)]
    have h3 : (sizeOf (Tryz.prog.elem 142)).run Tryz.prog w = .ok 1 w := by kernel_rfl
    rw [h3]
    simp [Result.andThen, addr_add_row]
  simp [h2, Result.andThen]
theorem run_ld8 {x : Operand} {g i : Nat} {v : Value} (h : o.op = .load 64 x) (ρ : Operand → Value) (hx : ρ x = .pointer (some ⟨g, i, none⟩)) (hc : w.cell? ⟨g, i, none⟩ = some v) : (execOp ρ o).run Tryz.prog w = .ok (.value v) w := by
  unfold execOp
  rw [h]
  simp only [hx]
  have h2 : (Instr.loadAt 64 (.pointer (some ⟨g, i, none⟩))).run Tryz.prog w = .ok v w := by
    simp [go_sem, hc]
  simp [h2, Result.andThen]
theorem run_ldR {x : Operand} {g i : Nat} {v : Value} (h : o.op = .load 145 x) (ρ : Operand → Value) (hx : ρ x = .pointer (some ⟨g, i, none⟩)) (hc : w.cell? ⟨g, i, none⟩ = some v) : (execOp ρ o).run Tryz.prog w = .ok (.value v) w := by
  unfold execOp
  rw [h]
  simp only [hx]
  have h2 : (Instr.loadAt 145 (.pointer (some ⟨g, i, none⟩))).run Tryz.prog w = .ok v w := by
    simp [go_sem, hc]
  simp [h2, Result.andThen]
end
theorem wrap_small {x k : Nat} (hx : x ≤ 300) (hk : k ≤ 300) : IntKind.i64.wrap ((x : Int) + (k : Int)) = ((x + k : Nat) : Int) := by
  rw [show (x : Int) + (k : Int) = ((x + k : Nat) : Int) from by omega]
  exact IntWalk.i64_in _ (by omega)
set_option maxHeartbeats 1600000 in
theorem pH0 {ops : Array Oper} {Q : Exit → Act → World → Prop} {a : Act} {rest : List Oper} {R n c x N e gi : Nat} {z : Int} {b : Bool} {w : World} {t0 t1 t2 t3 t4 t5 t6 : TypeId} {p0 p1 p2 p3 p4 p5 p6 : String} {f0 f1 f2 f3 f4 f5 f6 : Array Edge}
    (hF : Fct a N [(e, .bool b), (9, .slice (some ⟨R, 0, none⟩) n c), (8, .int .i64 (x : Nat))]) (hd : (ops[gi]?).bind (·.dst) = some e) (he : 9 < e) (hN : e + 7 < N) (hb : b = true → x + 6 < n) (hn : n ≤ 200)
    (hm : ∀ i, i < n → ∃ v, w.cell? ⟨R, i, none⟩ = some (.int .i8 v))
    (h : ∀ a' b', OvA a a' (e + 1) (e + 8) → Fct a' N [(e + 7, .bool b'), (9, .slice (some ⟨R, 0, none⟩) n c), (8, .int .i64 (x : Nat))] → (b' = true → x + 6 < n) → wpList Tryz.prog ops Q rest a' w) :
    wpList Tryz.prog ops Q ({ dst := some (e + 1), op := .move (.tmp 9), type := t0, pos := p0, after := f0, guard := some (gi, true) } :: { dst := some (e + 2), op := .move (.tmp 8), type := t1, pos := p1, after := f1, guard := some (gi, true) } :: { dst := some (e + 3), op := .indexAddr 145 (.tmp (e + 1)) (.tmp (e + 2)), type := t2, pos := p2, after := f2, guard := some (gi, true) } :: { dst := some (e + 4), op := .load 64 (.tmp (e + 3)), type := t3, pos := p3, after := f3, guard := some (gi, true) } :: { dst := some (e + 5), op := .binOp .eql 64 (.tmp (e + 4)) (.const (.int .i8 z)) 64, type := t4, pos := p4, after := f4, guard := some (gi, true) } :: { dst := some (e + 6), op := .pick (.tmp e) (.tmp (e + 5)) (.const (.bool false)), type := t5, pos := p5, after := f5, guard := none } :: { dst := some (e + 7), op := .move (.tmp (e + 6)), type := t6, pos := p6, after := f6, guard := none } :: rest) a w := by
  cases b with
  | false =>
    refine wpl_pass (some (e + 1)) rfl ((wanted_some (b := false) hF rfl hd (by simp)).trans rfl) ?_
    have F1 := hF.put (d := e + 1) undef (by simp <;> omega) (by omega)
    refine wpl_pass (some (e + 2)) rfl ((wanted_some (b := false) F1 rfl hd (by simp)).trans rfl) ?_
    have F2 := F1.put (d := e + 2) undef (by simp <;> omega) (by omega)
    refine wpl_pass (some (e + 3)) rfl ((wanted_some (b := false) F2 rfl hd (by simp)).trans rfl) ?_
    have F3 := F2.put (d := e + 3) undef (by simp <;> omega) (by omega)
    refine wpl_pass (some (e + 4)) rfl ((wanted_some (b := false) F3 rfl hd (by simp)).trans rfl) ?_
    have F4 := F3.put (d := e + 4) undef (by simp <;> omega) (by omega)
    refine wpl_pass (some (e + 5)) rfl ((wanted_some (b := false) F4 rfl hd (by simp)).trans rfl) ?_
    have F5 := F4.put (d := e + 5) undef (by simp <;> omega) (by omega)
    refine wpl_go (v := .bool false) (some (e + 6)) rfl (wanted_none rfl _) (run_pk (b := false) rfl _ (F5.get (by simp)) rfl) ?_
    have F6 := F5.put (d := e + 6) (.bool false) (by simp <;> omega) (by omega)
    refine wpl_go (v := .bool false) (some (e + 7)) rfl (wanted_none rfl _) (run_mv rfl _ (F6.get (by simp))) ?_
    have F7 := F6.put (d := e + 7) (.bool false) (by simp <;> omega) (by omega)
    exact h _ false ((((((((OvA.refl a (e + 1) (e + 8)).put (d := e + 1) undef (by omega) (by omega)).put (d := e + 2) undef (by omega) (by omega)).put (d := e + 3) undef (by omega) (by omega)).put (d := e + 4) undef (by omega) (by omega)).put (d := e + 5) undef (by omega) (by omega)).put (d := e + 6) (.bool false) (by omega) (by omega)).put (d := e + 7) (.bool false) (by omega) (by omega)) (F7.sub (by simp)) (fun e => by cases e)
  | true =>
    have hxn := hb rfl
    refine wpl_go (v := .slice (some ⟨R, 0, none⟩) n c) (some (e + 1)) rfl ((wanted_some (b := true) hF rfl hd (by simp)).trans rfl) (run_mv rfl _ (hF.get (by simp))) ?_
    have F1 := hF.put (d := e + 1) (.slice (some ⟨R, 0, none⟩) n c) (by simp <;> omega) (by omega)
    refine wpl_go (v := .int .i64 (x : Nat)) (some (e + 2)) rfl ((wanted_some (b := true) F1 rfl hd (by simp)).trans rfl) (run_mv rfl _ (F1.get (by simp))) ?_
    have F2 := F1.put (d := e + 2) (.int .i64 (x : Nat)) (by simp <;> omega) (by omega)
    refine wpl_go (v := .pointer (some ⟨R, x, none⟩)) (some (e + 3)) rfl ((wanted_some (b := true) F2 rfl hd (by simp)).trans rfl) (run_ix8 (kk := x) rfl _ (F2.get (v := .slice (some ⟨R, 0, none⟩) n c) (by simp)) (F2.get (v := .int .i64 (x : Nat)) (by simp)) rfl (by omega)) ?_
    have F3 := F2.put (d := e + 3) (.pointer (some ⟨R, x, none⟩)) (by simp <;> omega) (by omega)
    obtain ⟨vv, hv⟩ := hm x (by omega)
    refine wpl_go (v := .int .i8 vv) (some (e + 4)) rfl ((wanted_some (b := true) F3 rfl hd (by simp)).trans rfl) (run_ld8 rfl _ (F3.get (v := .pointer (some ⟨R, x, none⟩)) (by simp)) hv) ?_
    have F4 := F3.put (d := e + 4) (.int .i8 vv) (by simp <;> omega) (by omega)
    obtain ⟨bz, hz⟩ := run_eq8 (P := Tryz.prog) (w := w) (o := { dst := some (e + 5), op := .binOp .eql 64 (.tmp (e + 4)) (.const (.int .i8 z)) 64, type := t4, pos := p4, after := f4, guard := some (gi, true) }) rfl _ (F4.get (v := .int .i8 vv) (by simp)) rfl
    refine wpl_go (v := .bool bz) (some (e + 5)) rfl ((wanted_some (b := true) F4 rfl hd (by simp)).trans rfl) hz ?_
    have F5 := F4.put (d := e + 5) (.bool bz) (by simp <;> omega) (by omega)
    refine wpl_go (v := .bool bz) (some (e + 6)) rfl (wanted_none rfl _) (run_pk (b := true) rfl _ (F5.get (by simp)) (by rw [if_pos rfl]; exact (F5.get (v := .bool bz) (by simp)))) ?_
    have F6 := F5.put (d := e + 6) (.bool bz) (by simp <;> omega) (by omega)
    refine wpl_go (v := .bool bz) (some (e + 7)) rfl (wanted_none rfl _) (run_mv rfl _ (F6.get (v := .bool bz) (by simp))) ?_
    have F7 := F6.put (d := e + 7) (.bool bz) (by simp <;> omega) (by omega)
    exact h _ bz ((((((((OvA.refl a (e + 1) (e + 8)).put (d := e + 1) (.slice (some ⟨R, 0, none⟩) n c) (by omega) (by omega)).put (d := e + 2) (.int .i64 (x : Nat)) (by omega) (by omega)).put (d := e + 3) (.pointer (some ⟨R, x, none⟩)) (by omega) (by omega)).put (d := e + 4) (.int .i8 vv) (by omega) (by omega)).put (d := e + 5) (.bool bz) (by omega) (by omega)).put (d := e + 6) (.bool bz) (by omega) (by omega)).put (d := e + 7) (.bool bz) (by omega) (by omega)) (F7.sub (by simp)) (fun _ => hxn)
set_option maxHeartbeats 1600000 in
theorem pH {ops : Array Oper} {Q : Exit → Act → World → Prop} {a : Act} {rest : List Oper} {R n c x N e gi k : Nat} {z : Int} {b : Bool} {w : World} {t0 t1 t2 t3 t4 t5 t6 t7 : TypeId} {p0 p1 p2 p3 p4 p5 p6 p7 : String} {f0 f1 f2 f3 f4 f5 f6 f7 : Array Edge}
    (hF : Fct a N [(e, .bool b), (9, .slice (some ⟨R, 0, none⟩) n c), (8, .int .i64 (x : Nat))]) (hd : (ops[gi]?).bind (·.dst) = some e) (he : 9 < e) (hN : e + 8 < N) (hb : b = true → x + 6 < n) (hk : k ≤ 6) (hn : n ≤ 200)
    (hm : ∀ i, i < n → ∃ v, w.cell? ⟨R, i, none⟩ = some (.int .i8 v))
    (h : ∀ a' b', OvA a a' (e + 1) (e + 9) → Fct a' N [(e + 8, .bool b'), (9, .slice (some ⟨R, 0, none⟩) n c), (8, .int .i64 (x : Nat))] → (b' = true → x + 6 < n) → wpList Tryz.prog ops Q rest a' w) :
    wpList Tryz.prog ops Q ({ dst := some (e + 1), op := .move (.tmp 9), type := t0, pos := p0, after := f0, guard := some (gi, true) } :: { dst := some (e + 2), op := .move (.tmp 8), type := t1, pos := p1, after := f1, guard := some (gi, true) } :: { dst := some (e + 3), op := .binOp .add 3 (.tmp (e + 2)) (.const (.int .i64 (k : Int))) 3, type := t2, pos := p2, after := f2, guard := some (gi, true) } :: { dst := some (e + 4), op := .indexAddr 145 (.tmp (e + 1)) (.tmp (e + 3)), type := t3, pos := p3, after := f3, guard := some (gi, true) } :: { dst := some (e + 5), op := .load 64 (.tmp (e + 4)), type := t4, pos := p4, after := f4, guard := some (gi, true) } :: { dst := some (e + 6), op := .binOp .eql 64 (.tmp (e + 5)) (.const (.int .i8 z)) 64, type := t5, pos := p5, after := f5, guard := some (gi, true) } :: { dst := some (e + 7), op := .pick (.tmp e) (.tmp (e + 6)) (.const (.bool false)), type := t6, pos := p6, after := f6, guard := none } :: { dst := some (e + 8), op := .move (.tmp (e + 7)), type := t7, pos := p7, after := f7, guard := none } :: rest) a w := by
  cases b with
  | false =>
    refine wpl_pass (some (e + 1)) rfl ((wanted_some (b := false) hF rfl hd (by simp)).trans rfl) ?_
    have F1 := hF.put (d := e + 1) undef (by simp <;> omega) (by omega)
    refine wpl_pass (some (e + 2)) rfl ((wanted_some (b := false) F1 rfl hd (by simp)).trans rfl) ?_
    have F2 := F1.put (d := e + 2) undef (by simp <;> omega) (by omega)
    refine wpl_pass (some (e + 3)) rfl ((wanted_some (b := false) F2 rfl hd (by simp)).trans rfl) ?_
    have F3 := F2.put (d := e + 3) undef (by simp <;> omega) (by omega)
    refine wpl_pass (some (e + 4)) rfl ((wanted_some (b := false) F3 rfl hd (by simp)).trans rfl) ?_
    have F4 := F3.put (d := e + 4) undef (by simp <;> omega) (by omega)
    refine wpl_pass (some (e + 5)) rfl ((wanted_some (b := false) F4 rfl hd (by simp)).trans rfl) ?_
    have F5 := F4.put (d := e + 5) undef (by simp <;> omega) (by omega)
    refine wpl_pass (some (e + 6)) rfl ((wanted_some (b := false) F5 rfl hd (by simp)).trans rfl) ?_
    have F6 := F5.put (d := e + 6) undef (by simp <;> omega) (by omega)
    refine wpl_go (v := .bool false) (some (e + 7)) rfl (wanted_none rfl _) (run_pk (b := false) rfl _ (F6.get (by simp)) rfl) ?_
    have F7 := F6.put (d := e + 7) (.bool false) (by simp <;> omega) (by omega)
    refine wpl_go (v := .bool false) (some (e + 8)) rfl (wanted_none rfl _) (run_mv rfl _ (F7.get (by simp))) ?_
    have F8 := F7.put (d := e + 8) (.bool false) (by simp <;> omega) (by omega)
    exact h _ false (((((((((OvA.refl a (e + 1) (e + 9)).put (d := e + 1) undef (by omega) (by omega)).put (d := e + 2) undef (by omega) (by omega)).put (d := e + 3) undef (by omega) (by omega)).put (d := e + 4) undef (by omega) (by omega)).put (d := e + 5) undef (by omega) (by omega)).put (d := e + 6) undef (by omega) (by omega)).put (d := e + 7) (.bool false) (by omega) (by omega)).put (d := e + 8) (.bool false) (by omega) (by omega)) (F8.sub (by simp)) (fun e => by cases e)
  | true =>
    have hxn := hb rfl
    refine wpl_go (v := .slice (some ⟨R, 0, none⟩) n c) (some (e + 1)) rfl ((wanted_some (b := true) hF rfl hd (by simp)).trans rfl) (run_mv rfl _ (hF.get (by simp))) ?_
    have F1 := hF.put (d := e + 1) (.slice (some ⟨R, 0, none⟩) n c) (by simp <;> omega) (by omega)
    refine wpl_go (v := .int .i64 (x : Nat)) (some (e + 2)) rfl ((wanted_some (b := true) F1 rfl hd (by simp)).trans rfl) (run_mv rfl _ (F1.get (by simp))) ?_
    have F2 := F1.put (d := e + 2) (.int .i64 (x : Nat)) (by simp <;> omega) (by omega)
    refine wpl_go (v := .int .i64 ((x + k : Nat) : Int)) (some (e + 3)) rfl ((wanted_some (b := true) F2 rfl hd (by simp)).trans rfl) (run_add (wrap_small (by omega) (by omega)) rfl _ (F2.get (v := .int .i64 (x : Nat)) (by simp)) rfl) ?_
    have F3 := F2.put (d := e + 3) (.int .i64 ((x + k : Nat) : Int)) (by simp <;> omega) (by omega)
    refine wpl_go (v := .pointer (some ⟨R, x + k, none⟩)) (some (e + 4)) rfl ((wanted_some (b := true) F3 rfl hd (by simp)).trans rfl) (run_ix8 (kk := (x + k)) rfl _ (F3.get (v := .slice (some ⟨R, 0, none⟩) n c) (by simp)) (F3.get (v := .int .i64 ((x + k : Nat) : Int)) (by simp)) rfl (by omega)) ?_
    have F4 := F3.put (d := e + 4) (.pointer (some ⟨R, x + k, none⟩)) (by simp <;> omega) (by omega)
    obtain ⟨vv, hv⟩ := hm (x + k) (by omega)
    refine wpl_go (v := .int .i8 vv) (some (e + 5)) rfl ((wanted_some (b := true) F4 rfl hd (by simp)).trans rfl) (run_ld8 rfl _ (F4.get (v := .pointer (some ⟨R, x + k, none⟩)) (by simp)) hv) ?_
    have F5 := F4.put (d := e + 5) (.int .i8 vv) (by simp <;> omega) (by omega)
    obtain ⟨bz, hz⟩ := run_eq8 (P := Tryz.prog) (w := w) (o := { dst := some (e + 6), op := .binOp .eql 64 (.tmp (e + 5)) (.const (.int .i8 z)) 64, type := t5, pos := p5, after := f5, guard := some (gi, true) }) rfl _ (F5.get (v := .int .i8 vv) (by simp)) rfl
    refine wpl_go (v := .bool bz) (some (e + 6)) rfl ((wanted_some (b := true) F5 rfl hd (by simp)).trans rfl) hz ?_
    have F6 := F5.put (d := e + 6) (.bool bz) (by simp <;> omega) (by omega)
    refine wpl_go (v := .bool bz) (some (e + 7)) rfl (wanted_none rfl _) (run_pk (b := true) rfl _ (F6.get (by simp)) (by rw [if_pos rfl]; exact (F6.get (v := .bool bz) (by simp)))) ?_
    have F7 := F6.put (d := e + 7) (.bool bz) (by simp <;> omega) (by omega)
    refine wpl_go (v := .bool bz) (some (e + 8)) rfl (wanted_none rfl _) (run_mv rfl _ (F7.get (v := .bool bz) (by simp))) ?_
    have F8 := F7.put (d := e + 8) (.bool bz) (by simp <;> omega) (by omega)
    exact h _ bz (((((((((OvA.refl a (e + 1) (e + 9)).put (d := e + 1) (.slice (some ⟨R, 0, none⟩) n c) (by omega) (by omega)).put (d := e + 2) (.int .i64 (x : Nat)) (by omega) (by omega)).put (d := e + 3) (.int .i64 ((x + k : Nat) : Int)) (by omega) (by omega)).put (d := e + 4) (.pointer (some ⟨R, x + k, none⟩)) (by omega) (by omega)).put (d := e + 5) (.int .i8 vv) (by omega) (by omega)).put (d := e + 6) (.bool bz) (by omega) (by omega)).put (d := e + 7) (.bool bz) (by omega) (by omega)).put (d := e + 8) (.bool bz) (by omega) (by omega)) (F8.sub (by simp)) (fun _ => hxn)
set_option maxHeartbeats 1600000 in
theorem pV0 {ops : Array Oper} {Q : Exit → Act → World → Prop} {a : Act} {rest : List Oper} {R n c x y N e gi : Nat} {z : Int} {b : Bool} {w : World} {t0 t1 t2 t3 t4 t5 t6 t7 t8 t9 : TypeId} {p0 p1 p2 p3 p4 p5 p6 p7 p8 p9 : String} {f0 f1 f2 f3 f4 f5 f6 f7 f8 f9 : Array Edge}
    (hF : Fct a N [(e, .bool b), (4, .slice (some ⟨R, 0, none⟩) n c), (7, .int .i64 (y : Nat)), (8, .int .i64 (x : Nat))]) (hd : (ops[gi]?).bind (·.dst) = some e) (he : 9 < e) (hN : e + 10 < N) (hb : b = true → y + 6 < n) (hn : n ≤ 200) (hx : x < n)
    (hr : ∀ i, i < n → w.cell? ⟨R, i, none⟩ = some (.slice (some ⟨R + 1 + i, 0, none⟩) n n)) (hm : ∀ i j, i < n → j < n → ∃ v, w.cell? ⟨R + 1 + i, j, none⟩ = some (.int .i8 v))
    (h : ∀ a' b', OvA a a' (e + 1) (e + 11) → Fct a' N [(e + 10, .bool b'), (4, .slice (some ⟨R, 0, none⟩) n c), (7, .int .i64 (y : Nat)), (8, .int .i64 (x : Nat))] → (b' = true → y + 6 < n) → wpList Tryz.prog ops Q rest a' w) :
    wpList Tryz.prog ops Q ({ dst := some (e + 1), op := .move (.tmp 4), type := t0, pos := p0, after := f0, guard := some (gi, true) } :: { dst := some (e + 2), op := .move (.tmp 7), type := t1, pos := p1, after := f1, guard := some (gi, true) } :: { dst := some (e + 3), op := .indexAddr 142 (.tmp (e + 1)) (.tmp (e + 2)), type := t2, pos := p2, after := f2, guard := some (gi, true) } :: { dst := some (e + 4), op := .load 145 (.tmp (e + 3)), type := t3, pos := p3, after := f3, guard := some (gi, true) } :: { dst := some (e + 5), op := .move (.tmp 8), type := t4, pos := p4, after := f4, guard := some (gi, true) } :: { dst := some (e + 6), op := .indexAddr 145 (.tmp (e + 4)) (.tmp (e + 5)), type := t5, pos := p5, after := f5, guard := some (gi, true) } :: { dst := some (e + 7), op := .load 64 (.tmp (e + 6)), type := t6, pos := p6, after := f6, guard := some (gi, true) } :: { dst := some (e + 8), op := .binOp .eql 64 (.tmp (e + 7)) (.const (.int .i8 z)) 64, type := t7, pos := p7, after := f7, guard := some (gi, true) } :: { dst := some (e + 9), op := .pick (.tmp e) (.tmp (e + 8)) (.const (.bool false)), type := t8, pos := p8, after := f8, guard := none } :: { dst := some (e + 10), op := .move (.tmp (e + 9)), type := t9, pos := p9, after := f9, guard := none } :: rest) a w := by
  cases b with
  | false =>
    refine wpl_pass (some (e + 1)) rfl ((wanted_some (b := false) hF rfl hd (by simp)).trans rfl) ?_
    have F1 := hF.put (d := e + 1) undef (by simp <;> omega) (by omega)
    refine wpl_pass (some (e + 2)) rfl ((wanted_some (b := false) F1 rfl hd (by simp)).trans rfl) ?_
    have F2 := F1.put (d := e + 2) undef (by simp <;> omega) (by omega)
    refine wpl_pass (some (e + 3)) rfl ((wanted_some (b := false) F2 rfl hd (by simp)).trans rfl) ?_
    have F3 := F2.put (d := e + 3) undef (by simp <;> omega) (by omega)
    refine wpl_pass (some (e + 4)) rfl ((wanted_some (b := false) F3 rfl hd (by simp)).trans rfl) ?_
    have F4 := F3.put (d := e + 4) undef (by simp <;> omega) (by omega)
    refine wpl_pass (some (e + 5)) rfl ((wanted_some (b := false) F4 rfl hd (by simp)).trans rfl) ?_
    have F5 := F4.put (d := e + 5) undef (by simp <;> omega) (by omega)
    refine wpl_pass (some (e + 6)) rfl ((wanted_some (b := false) F5 rfl hd (by simp)).trans rfl) ?_
    have F6 := F5.put (d := e + 6) undef (by simp <;> omega) (by omega)
    refine wpl_pass (some (e + 7)) rfl ((wanted_some (b := false) F6 rfl hd (by simp)).trans rfl) ?_
    have F7 := F6.put (d := e + 7) undef (by simp <;> omega) (by omega)
    refine wpl_pass (some (e + 8)) rfl ((wanted_some (b := false) F7 rfl hd (by simp)).trans rfl) ?_
    have F8 := F7.put (d := e + 8) undef (by simp <;> omega) (by omega)
    refine wpl_go (v := .bool false) (some (e + 9)) rfl (wanted_none rfl _) (run_pk (b := false) rfl _ (F8.get (by simp)) rfl) ?_
    have F9 := F8.put (d := e + 9) (.bool false) (by simp <;> omega) (by omega)
    refine wpl_go (v := .bool false) (some (e + 10)) rfl (wanted_none rfl _) (run_mv rfl _ (F9.get (by simp))) ?_
    have F10 := F9.put (d := e + 10) (.bool false) (by simp <;> omega) (by omega)
    exact h _ false (((((((((((OvA.refl a (e + 1) (e + 11)).put (d := e + 1) undef (by omega) (by omega)).put (d := e + 2) undef (by omega) (by omega)).put (d := e + 3) undef (by omega) (by omega)).put (d := e + 4) undef (by omega) (by omega)).put (d := e + 5) undef (by omega) (by omega)).put (d := e + 6) undef (by omega) (by omega)).put (d := e + 7) undef (by omega) (by omega)).put (d := e + 8) undef (by omega) (by omega)).put (d := e + 9) (.bool false) (by omega) (by omega)).put (d := e + 10) (.bool false) (by omega) (by omega)) (F10.sub (by simp)) (fun e => by cases e)
  | true =>
    have hxn := hb rfl
    refine wpl_go (v := .slice (some ⟨R, 0, none⟩) n c) (some (e + 1)) rfl ((wanted_some (b := true) hF rfl hd (by simp)).trans rfl) (run_mv rfl _ (hF.get (by simp))) ?_
    have F1 := hF.put (d := e + 1) (.slice (some ⟨R, 0, none⟩) n c) (by simp <;> omega) (by omega)
    refine wpl_go (v := .int .i64 (y : Nat)) (some (e + 2)) rfl ((wanted_some (b := true) F1 rfl hd (by simp)).trans rfl) (run_mv rfl _ (F1.get (by simp))) ?_
    have F2 := F1.put (d := e + 2) (.int .i64 (y : Nat)) (by simp <;> omega) (by omega)
    refine wpl_go (v := .pointer (some ⟨R, y, none⟩)) (some (e + 3)) rfl ((wanted_some (b := true) F2 rfl hd (by simp)).trans rfl) (run_ixR (kk := y) rfl _ (F2.get (v := .slice (some ⟨R, 0, none⟩) n c) (by simp)) (F2.get (v := .int .i64 (y : Nat)) (by simp)) rfl (by omega)) ?_
    have F3 := F2.put (d := e + 3) (.pointer (some ⟨R, y, none⟩)) (by simp <;> omega) (by omega)
    refine wpl_go (v := .slice (some ⟨R + 1 + y, 0, none⟩) n n) (some (e + 4)) rfl ((wanted_some (b := true) F3 rfl hd (by simp)).trans rfl) (run_ldR rfl _ (F3.get (v := .pointer (some ⟨R, y, none⟩)) (by simp)) (hr y (by omega))) ?_
    have F4 := F3.put (d := e + 4) (.slice (some ⟨R + 1 + y, 0, none⟩) n n) (by simp <;> omega) (by omega)
    refine wpl_go (v := .int .i64 (x : Nat)) (some (e + 5)) rfl ((wanted_some (b := true) F4 rfl hd (by simp)).trans rfl) (run_mv rfl _ (F4.get (by simp))) ?_
    have F5 := F4.put (d := e + 5) (.int .i64 (x : Nat)) (by simp <;> omega) (by omega)
    refine wpl_go (v := .pointer (some ⟨R + 1 + y, x, none⟩)) (some (e + 6)) rfl ((wanted_some (b := true) F5 rfl hd (by simp)).trans rfl) (run_ix8 (kk := x) rfl _ (F5.get (v := .slice (some ⟨R + 1 + y, 0, none⟩) n n) (by simp)) (F5.get (v := .int .i64 (x : Nat)) (by simp)) rfl hx) ?_
    have F6 := F5.put (d := e + 6) (.pointer (some ⟨R + 1 + y, x, none⟩)) (by simp <;> omega) (by omega)
    obtain ⟨vv, hv⟩ := hm y x (by omega) hx
    refine wpl_go (v := .int .i8 vv) (some (e + 7)) rfl ((wanted_some (b := true) F6 rfl hd (by simp)).trans rfl) (run_ld8 rfl _ (F6.get (v := .pointer (some ⟨R + 1 + y, x, none⟩)) (by simp)) hv) ?_
    have F7 := F6.put (d := e + 7) (.int .i8 vv) (by simp <;> omega) (by omega)
    obtain ⟨bz, hz⟩ := run_eq8 (P := Tryz.prog) (w := w) (o := { dst := some (e + 8), op := .binOp .eql 64 (.tmp (e + 7)) (.const (.int .i8 z)) 64, type := t7, pos := p7, after := f7, guard := some (gi, true) }) rfl _ (F7.get (v := .int .i8 vv) (by simp)) rfl
    refine wpl_go (v := .bool bz) (some (e + 8)) rfl ((wanted_some (b := true) F7 rfl hd (by simp)).trans rfl) hz ?_
    have F8 := F7.put (d := e + 8) (.bool bz) (by simp <;> omega) (by omega)
    refine wpl_go (v := .bool bz) (some (e + 9)) rfl (wanted_none rfl _) (run_pk (b := true) rfl _ (F8.get (by simp)) (by rw [if_pos rfl]; exact (F8.get (v := .bool bz) (by simp)))) ?_
    have F9 := F8.put (d := e + 9) (.bool bz) (by simp <;> omega) (by omega)
    refine wpl_go (v := .bool bz) (some (e + 10)) rfl (wanted_none rfl _) (run_mv rfl _ (F9.get (v := .bool bz) (by simp))) ?_
    have F10 := F9.put (d := e + 10) (.bool bz) (by simp <;> omega) (by omega)
    exact h _ bz (((((((((((OvA.refl a (e + 1) (e + 11)).put (d := e + 1) (.slice (some ⟨R, 0, none⟩) n c) (by omega) (by omega)).put (d := e + 2) (.int .i64 (y : Nat)) (by omega) (by omega)).put (d := e + 3) (.pointer (some ⟨R, y, none⟩)) (by omega) (by omega)).put (d := e + 4) (.slice (some ⟨R + 1 + y, 0, none⟩) n n) (by omega) (by omega)).put (d := e + 5) (.int .i64 (x : Nat)) (by omega) (by omega)).put (d := e + 6) (.pointer (some ⟨R + 1 + y, x, none⟩)) (by omega) (by omega)).put (d := e + 7) (.int .i8 vv) (by omega) (by omega)).put (d := e + 8) (.bool bz) (by omega) (by omega)).put (d := e + 9) (.bool bz) (by omega) (by omega)).put (d := e + 10) (.bool bz) (by omega) (by omega)) (F10.sub (by simp)) (fun _ => hxn)
set_option maxHeartbeats 1600000 in
theorem pV {ops : Array Oper} {Q : Exit → Act → World → Prop} {a : Act} {rest : List Oper} {R n c x y N e gi k : Nat} {z : Int} {b : Bool} {w : World} {t0 t1 t2 t3 t4 t5 t6 t7 t8 t9 t10 : TypeId} {p0 p1 p2 p3 p4 p5 p6 p7 p8 p9 p10 : String} {f0 f1 f2 f3 f4 f5 f6 f7 f8 f9 f10 : Array Edge}
    (hF : Fct a N [(e, .bool b), (4, .slice (some ⟨R, 0, none⟩) n c), (7, .int .i64 (y : Nat)), (8, .int .i64 (x : Nat))]) (hd : (ops[gi]?).bind (·.dst) = some e) (he : 9 < e) (hN : e + 11 < N) (hb : b = true → y + 6 < n) (hk : k ≤ 6) (hn : n ≤ 200) (hx : x < n)
    (hr : ∀ i, i < n → w.cell? ⟨R, i, none⟩ = some (.slice (some ⟨R + 1 + i, 0, none⟩) n n)) (hm : ∀ i j, i < n → j < n → ∃ v, w.cell? ⟨R + 1 + i, j, none⟩ = some (.int .i8 v))
    (h : ∀ a' b', OvA a a' (e + 1) (e + 12) → Fct a' N [(e + 11, .bool b'), (4, .slice (some ⟨R, 0, none⟩) n c), (7, .int .i64 (y : Nat)), (8, .int .i64 (x : Nat))] → (b' = true → y + 6 < n) → wpList Tryz.prog ops Q rest a' w) :
    wpList Tryz.prog ops Q ({ dst := some (e + 1), op := .move (.tmp 4), type := t0, pos := p0, after := f0, guard := some (gi, true) } :: { dst := some (e + 2), op := .move (.tmp 7), type := t1, pos := p1, after := f1, guard := some (gi, true) } :: { dst := some (e + 3), op := .binOp .add 3 (.tmp (e + 2)) (.const (.int .i64 (k : Int))) 3, type := t2, pos := p2, after := f2, guard := some (gi, true) } :: { dst := some (e + 4), op := .indexAddr 142 (.tmp (e + 1)) (.tmp (e + 3)), type := t3, pos := p3, after := f3, guard := some (gi, true) } :: { dst := some (e + 5), op := .load 145 (.tmp (e + 4)), type := t4, pos := p4, after := f4, guard := some (gi, true) } :: { dst := some (e + 6), op := .move (.tmp 8), type := t5, pos := p5, after := f5, guard := some (gi, true) } :: { dst := some (e + 7), op := .indexAddr 145 (.tmp (e + 5)) (.tmp (e + 6)), type := t6, pos := p6, after := f6, guard := some (gi, true) } :: { dst := some (e + 8), op := .load 64 (.tmp (e + 7)), type := t7, pos := p7, after := f7, guard := some (gi, true) } :: { dst := some (e + 9), op := .binOp .eql 64 (.tmp (e + 8)) (.const (.int .i8 z)) 64, type := t8, pos := p8, after := f8, guard := some (gi, true) } :: { dst := some (e + 10), op := .pick (.tmp e) (.tmp (e + 9)) (.const (.bool false)), type := t9, pos := p9, after := f9, guard := none } :: { dst := some (e + 11), op := .move (.tmp (e + 10)), type := t10, pos := p10, after := f10, guard := none } :: rest) a w := by
  cases b with
  | false =>
    refine wpl_pass (some (e + 1)) rfl ((wanted_some (b := false) hF rfl hd (by simp)).trans rfl) ?_
    have F1 := hF.put (d := e + 1) undef (by simp <;> omega) (by omega)
    refine wpl_pass (some (e + 2)) rfl ((wanted_some (b := false) F1 rfl hd (by simp)).trans rfl) ?_
    have F2 := F1.put (d := e + 2) undef (by simp <;> omega) (by omega)
    refine wpl_pass (some (e + 3)) rfl ((wanted_some (b := false) F2 rfl hd (by simp)).trans rfl) ?_
    have F3 := F2.put (d := e + 3) undef (by simp <;> omega) (by omega)
    refine wpl_pass (some (e + 4)) rfl ((wanted_some (b := false) F3 rfl hd (by simp)).trans rfl) ?_
    have F4 := F3.put (d := e + 4) undef (by simp <;> omega) (by omega)
    refine wpl_pass (some (e + 5)) rfl ((wanted_some (b := false) F4 rfl hd (by simp)).trans rfl) ?_
    have F5 := F4.put (d := e + 5) undef (by simp <;> omega) (by omega)
    refine wpl_pass (some (e + 6)) rfl ((wanted_some (b := false) F5 rfl hd (by simp)).trans rfl) ?_
    have F6 := F5.put (d := e + 6) undef (by simp <;> omega) (by omega)
    refine wpl_pass (some (e + 7)) rfl ((wanted_some (b := false) F6 rfl hd (by simp)).trans rfl) ?_
    have F7 := F6.put (d := e + 7) undef (by simp <;> omega) (by omega)
    refine wpl_pass (some (e + 8)) rfl ((wanted_some (b := false) F7 rfl hd (by simp)).trans rfl) ?_
    have F8 := F7.put (d := e + 8) undef (by simp <;> omega) (by omega)
    refine wpl_pass (some (e + 9)) rfl ((wanted_some (b := false) F8 rfl hd (by simp)).trans rfl) ?_
    have F9 := F8.put (d := e + 9) undef (by simp <;> omega) (by omega)
    refine wpl_go (v := .bool false) (some (e + 10)) rfl (wanted_none rfl _) (run_pk (b := false) rfl _ (F9.get (by simp)) rfl) ?_
    have F10 := F9.put (d := e + 10) (.bool false) (by simp <;> omega) (by omega)
    refine wpl_go (v := .bool false) (some (e + 11)) rfl (wanted_none rfl _) (run_mv rfl _ (F10.get (by simp))) ?_
    have F11 := F10.put (d := e + 11) (.bool false) (by simp <;> omega) (by omega)
    exact h _ false ((((((((((((OvA.refl a (e + 1) (e + 12)).put (d := e + 1) undef (by omega) (by omega)).put (d := e + 2) undef (by omega) (by omega)).put (d := e + 3) undef (by omega) (by omega)).put (d := e + 4) undef (by omega) (by omega)).put (d := e + 5) undef (by omega) (by omega)).put (d := e + 6) undef (by omega) (by omega)).put (d := e + 7) undef (by omega) (by omega)).put (d := e + 8) undef (by omega) (by omega)).put (d := e + 9) undef (by omega) (by omega)).put (d := e + 10) (.bool false) (by omega) (by omega)).put (d := e + 11) (.bool false) (by omega) (by omega)) (F11.sub (by simp)) (fun e => by cases e)
  | true =>
    have hxn := hb rfl
    refine wpl_go (v := .slice (some ⟨R, 0, none⟩) n c) (some (e + 1)) rfl ((wanted_some (b := true) hF rfl hd (by simp)).trans rfl) (run_mv rfl _ (hF.get (by simp))) ?_
    have F1 := hF.put (d := e + 1) (.slice (some ⟨R, 0, none⟩) n c) (by simp <;> omega) (by omega)
    refine wpl_go (v := .int .i64 (y : Nat)) (some (e + 2)) rfl ((wanted_some (b := true) F1 rfl hd (by simp)).trans rfl) (run_mv rfl _ (F1.get (by simp))) ?_
    have F2 := F1.put (d := e + 2) (.int .i64 (y : Nat)) (by simp <;> omega) (by omega)
    refine wpl_go (v := .int .i64 ((y + k : Nat) : Int)) (some (e + 3)) rfl ((wanted_some (b := true) F2 rfl hd (by simp)).trans rfl) (run_add (wrap_small (by omega) (by omega)) rfl _ (F2.get (v := .int .i64 (y : Nat)) (by simp)) rfl) ?_
    have F3 := F2.put (d := e + 3) (.int .i64 ((y + k : Nat) : Int)) (by simp <;> omega) (by omega)
    refine wpl_go (v := .pointer (some ⟨R, y + k, none⟩)) (some (e + 4)) rfl ((wanted_some (b := true) F3 rfl hd (by simp)).trans rfl) (run_ixR (kk := (y + k)) rfl _ (F3.get (v := .slice (some ⟨R, 0, none⟩) n c) (by simp)) (F3.get (v := .int .i64 ((y + k : Nat) : Int)) (by simp)) rfl (by omega)) ?_
    have F4 := F3.put (d := e + 4) (.pointer (some ⟨R, y + k, none⟩)) (by simp <;> omega) (by omega)
    refine wpl_go (v := .slice (some ⟨R + 1 + (y + k), 0, none⟩) n n) (some (e + 5)) rfl ((wanted_some (b := true) F4 rfl hd (by simp)).trans rfl) (run_ldR rfl _ (F4.get (v := .pointer (some ⟨R, y + k, none⟩)) (by simp)) (hr (y + k) (by omega))) ?_
    have F5 := F4.put (d := e + 5) (.slice (some ⟨R + 1 + (y + k), 0, none⟩) n n) (by simp <;> omega) (by omega)
    refine wpl_go (v := .int .i64 (x : Nat)) (some (e + 6)) rfl ((wanted_some (b := true) F5 rfl hd (by simp)).trans rfl) (run_mv rfl _ (F5.get (by simp))) ?_
    have F6 := F5.put (d := e + 6) (.int .i64 (x : Nat)) (by simp <;> omega) (by omega)
    refine wpl_go (v := .pointer (some ⟨R + 1 + (y + k), x, none⟩)) (some (e + 7)) rfl ((wanted_some (b := true) F6 rfl hd (by simp)).trans rfl) (run_ix8 (kk := x) rfl _ (F6.get (v := .slice (some ⟨R + 1 + (y + k), 0, none⟩) n n) (by simp)) (F6.get (v := .int .i64 (x : Nat)) (by simp)) rfl hx) ?_
    have F7 := F6.put (d := e + 7) (.pointer (some ⟨R + 1 + (y + k), x, none⟩)) (by simp <;> omega) (by omega)
    obtain ⟨vv, hv⟩ := hm (y + k) x (by omega) hx
    refine wpl_go (v := .int .i8 vv) (some (e + 8)) rfl ((wanted_some (b := true) F7 rfl hd (by simp)).trans rfl) (run_ld8 rfl _ (F7.get (v := .pointer (some ⟨R + 1 + (y + k), x, none⟩)) (by simp)) hv) ?_
    have F8 := F7.put (d := e + 8) (.int .i8 vv) (by simp <;> omega) (by omega)
    obtain ⟨bz, hz⟩ := run_eq8 (P := Tryz.prog) (w := w) (o := { dst := some (e + 9), op := .binOp .eql 64 (.tmp (e + 8)) (.const (.int .i8 z)) 64, type := t8, pos := p8, after := f8, guard := some (gi, true) }) rfl _ (F8.get (v := .int .i8 vv) (by simp)) rfl
    refine wpl_go (v := .bool bz) (some (e + 9)) rfl ((wanted_some (b := true) F8 rfl hd (by simp)).trans rfl) hz ?_
    have F9 := F8.put (d := e + 9) (.bool bz) (by simp <;> omega) (by omega)
    refine wpl_go (v := .bool bz) (some (e + 10)) rfl (wanted_none rfl _) (run_pk (b := true) rfl _ (F9.get (by simp)) (by rw [if_pos rfl]; exact (F9.get (v := .bool bz) (by simp)))) ?_
    have F10 := F9.put (d := e + 10) (.bool bz) (by simp <;> omega) (by omega)
    refine wpl_go (v := .bool bz) (some (e + 11)) rfl (wanted_none rfl _) (run_mv rfl _ (F10.get (v := .bool bz) (by simp))) ?_
    have F11 := F10.put (d := e + 11) (.bool bz) (by simp <;> omega) (by omega)
    exact h _ bz ((((((((((((OvA.refl a (e + 1) (e + 12)).put (d := e + 1) (.slice (some ⟨R, 0, none⟩) n c) (by omega) (by omega)).put (d := e + 2) (.int .i64 (y : Nat)) (by omega) (by omega)).put (d := e + 3) (.int .i64 ((y + k : Nat) : Int)) (by omega) (by omega)).put (d := e + 4) (.pointer (some ⟨R, y + k, none⟩)) (by omega) (by omega)).put (d := e + 5) (.slice (some ⟨R + 1 + (y + k), 0, none⟩) n n) (by omega) (by omega)).put (d := e + 6) (.int .i64 (x : Nat)) (by omega) (by omega)).put (d := e + 7) (.pointer (some ⟨R + 1 + (y + k), x, none⟩)) (by omega) (by omega)).put (d := e + 8) (.int .i8 vv) (by omega) (by omega)).put (d := e + 9) (.bool bz) (by omega) (by omega)).put (d := e + 10) (.bool bz) (by omega) (by omega)).put (d := e + 11) (.bool bz) (by omega) (by omega)) (F11.sub (by simp)) (fun _ => hxn)
theorem run_lss {w : World} {o : Oper} {x y : Operand} {i j : Int} (h : o.op = .binOp .lss 3 x y 3) (ρ : Operand → Value) (hx : ρ x = .int .i64 i) (hy : ρ y = .int .i64 j) : (execOp ρ o).run Tryz.prog w = .ok (.value (.bool (decide (i < j)))) w := by
  unfold execOp; rw [h]; simp [hx, hy, eqGuard, binOp, Op.intCmp]
theorem wpl_call {ops : Array Oper} {Q : Exit → Act → World → Prop} {a : Act} {w : World} {rest : List Oper} {o : Oper} {f : FuncId} {fn : Func} {args : Array Operand} {ats : Array TypeId} {vals : Array Value} (d : Option Tmp) (hd : o.dst = d) (hw : Region.wanted o (yielded ops a.tmps) = true)
    (hop : o.op = .call { callee := .value (.func f), args := args, argTypes := ats }) (hf : Tryz.prog.funcs[f]? = some fn) (hname : (fn.name == "runtime.NumGoroutine") = false) (hb : fn.body.isSome = true) (hargs : args.map a.eval = vals)
    (hc : Calls Tryz.prog f vals w fun e w' => (∃ b, e = .returned (.bool b)) ∧ w = w') (h : ∀ b, wpList Tryz.prog ops Q rest (a.put d (.bool b)) w) : wpList Tryz.prog ops Q (o :: rest) a w := by
  subst hd hargs
  obtain ⟨c, hb⟩ := Option.isSome_iff_exists.1 hb
  refine wpList_step fun K hK => ?_
  rw [if_pos hw]
  unfold Oper.wp
  rw [Go.Conc.execOp_call_func hop, Go.MuLone.run_callFunc_enter hf hname hb]
  rw [Oper.upon_enter]
  refine hc.mono ?_
  rintro e w' ⟨⟨b, rfl⟩, rfl⟩
  exact hK _ _ (h b)
theorem Tryz.body196 : Tryz.f196.body.isSome = true := by kernel_rfl
theorem Tryz.body197 : Tryz.f197.body.isSome = true := by kernel_rfl
theorem pS {ops : Array Oper} {Q : Exit → Act → World → Prop} {a : Act} {rest : List Oper} {n x N e sx sn : Nat} {S : List (Nat × Value)} {w : World} {t0 t1 t2 t3 t4 : TypeId} {p0 p1 p2 p3 p4 : String} {f0 f1 f2 f3 f4 : Array Edge}
    (hF : Fct a N S) (hS : ∀ p ∈ S, p.1 < e) (hN : e + 5 < N) (h1 : (sx, .int .i64 (x : Nat)) ∈ S) (h2 : (sn, .int .i64 (n : Nat)) ∈ S) (hx : x ≤ 200)
    (h : ∀ a', OvA a a' e (e + 5) → Fct a' N ((e + 4, .bool (decide (x + 6 < n))) :: S) → wpList Tryz.prog ops Q rest a' w) :
    wpList Tryz.prog ops Q ({ dst := some e, op := .move (.tmp sx), type := t0, pos := p0, after := f0, guard := none } :: { dst := some (e + 1), op := .binOp .add 3 (.tmp e) (.const (.int .i64 (6 : Int))) 3, type := t1, pos := p1, after := f1, guard := none } ::
      { dst := some (e + 2), op := .move (.tmp sn), type := t2, pos := p2, after := f2, guard := none } :: { dst := some (e + 3), op := .binOp .lss 3 (.tmp (e + 1)) (.tmp (e + 2)) 3, type := t3, pos := p3, after := f3, guard := none } ::
      { dst := some (e + 4), op := .move (.tmp (e + 3)), type := t4, pos := p4, after := f4, guard := none } :: rest) a w := by
  refine wpl_go (v := .int .i64 (x : Nat)) (some e) rfl (wanted_none rfl _) (run_mv rfl _ (hF.get h1)) ?_
  have F1 := hF.put (d := e) (.int .i64 (x : Nat)) (fun p hp => by have := hS p hp; omega) (by omega)
  refine wpl_go (v := .int .i64 ((x + 6 : Nat) : Int)) (some (e + 1)) rfl (wanted_none rfl _) (run_add (wrap_small (k := 6) (by omega) (by omega)) rfl _ (F1.get (by simp)) rfl) ?_
  have F2 := F1.put (d := e + 1) (.int .i64 ((x + 6 : Nat) : Int)) (fun p hp => by
    rcases List.mem_cons.1 hp with rfl | hp
    · simp only; omega
    · have := hS p hp; omega) (by omega)
  refine wpl_go (v := .int .i64 (n : Nat)) (some (e + 2)) rfl (wanted_none rfl _) (run_mv rfl _ (F2.get (by simp [h2]))) ?_
  have F3 := F2.put (d := e + 2) (.int .i64 (n : Nat)) (fun p hp => by
    rcases List.mem_cons.1 hp with rfl | hp
    · simp only; omega
    · rcases List.mem_cons.1 hp with rfl | hp
      · simp only; omega
      · have := hS p hp; omega) (by omega)
  refine wpl_go (v := .bool (decide (x + 6 < n))) (some (e + 3)) rfl (wanted_none rfl _) (by
    have hde : decide (((x + 6 : Nat) : Int) < ((n : Nat) : Int)) = decide (x + 6 < n) := by rw [decide_eq_decide]; omega
    rw [← hde]
    exact run_lss rfl _ (F3.get (v := .int .i64 ((x + 6 : Nat) : Int)) (by simp)) (F3.get (v := .int .i64 (n : Nat)) (by simp))) ?_
  have F4 := F3.put (d := e + 3) (.bool (decide (x + 6 < n))) (fun p hp => by
    rcases List.mem_cons.1 hp with rfl | hp
    · simp only; omega
    · rcases List.mem_cons.1 hp with rfl | hp
      · simp only; omega
      · rcases List.mem_cons.1 hp with rfl | hp
        · simp only; omega
        · have := hS p hp; omega) (by omega)
  refine wpl_go (v := .bool (decide (x + 6 < n))) (some (e + 4)) rfl (wanted_none rfl _) (run_mv rfl _ (F4.get (by simp))) ?_
  have F5 := F4.put (d := e + 4) (.bool (decide (x + 6 < n))) (fun p hp => by
    rcases List.mem_cons.1 hp with rfl | hp
    · simp only; omega
    · rcases List.mem_cons.1 hp with rfl | hp
      · simp only; omega
      · rcases List.mem_cons.1 hp with rfl | hp
        · simp only; omega
        · rcases List.mem_cons.1 hp with rfl | hp
          · simp only; omega
          · have := hS p hp; omega) (by omega)
  exact h _ ((((((OvA.refl a e (e + 5)).put (d := e) _ (by omega) (by omega)).put (d := e + 1) _ (by omega) (by omega)).put (d := e + 2) _ (by omega) (by omega)).put (d := e + 3) _ (by omega) (by omega)).put (d := e + 4) _ (by omega) (by omega)) (F5.sub (fun p hp => by
    rcases List.mem_cons.1 hp with rfl | hp
    · simp
    · simp [hp]))
set_option maxHeartbeats 3200000 in
theorem pTH {ops : Array Oper} {Q : Exit → Act → World → Prop} {a : Act} {rest : List Oper} {R n x N e gi gj : Nat} {b : Bool} {w : World} {t0 t1 t2 t3 t4 t5 t6 t7 t8 t9 t10 t11 t12 t13 : TypeId} {p0 p1 p2 p3 p4 p5 p6 p7 p8 p9 p10 p11 p12 p13 : String} {f0 f1 f2 f3 f4 f5 f6 f7 f8 f9 f10 f11 f12 f13 : Array Edge}
    (hF : Fct a N [(e, .bool b), (9, .slice (some ⟨R, 0, none⟩) n n), (8, .int .i64 (x : Nat))]) (hd : (ops[gi]?).bind (·.dst) = some e) (hd2 : (ops[gj]?).bind (·.dst) = some (e + 6)) (he : 9 < e) (hN : e + 14 < N) (hx : x ≤ 200) 
    (hc : ∀ s t : Int, -100 ≤ s ∧ s ≤ 300 → -100 ≤ t ∧ t ≤ 300 → Calls Tryz.prog 196 #[.slice (some ⟨R, 0, none⟩) n n, .int .i64 s, .int .i64 t] w fun e w' => (∃ b, e = .returned (.bool b)) ∧ w = w')
    (h : ∀ a' b', OvA a a' (e + 1) (e + 15) → Fct a' N [(e + 14, .bool b')] → wpList Tryz.prog ops Q rest a' w) :
    wpList Tryz.prog ops Q ({ dst := some (e + 1), op := .move (.tmp 9), type := t0, pos := p0, after := f0, guard := some (gi, true) } :: { dst := some (e + 2), op := .move (.tmp 8), type := t1, pos := p1, after := f1, guard := some (gi, true) } :: { dst := some (e + 3), op := .binOp .sub 3 (.tmp (e + 2)) (.const (.int .i64 4)) 3, type := t2, pos := p2, after := f2, guard := some (gi, true) } :: { dst := some (e + 4), op := .move (.tmp 8), type := t3, pos := p3, after := f3, guard := some (gi, true) } :: { dst := some (e + 5), op := .call { callee := .value (.func 196), args := #[.tmp (e + 1), .tmp (e + 3), .tmp (e + 4)], argTypes := #[145, 3, 3] }, type := t4, pos := p4, after := f4, guard := some (gi, true) } :: { dst := some (e + 6), op := .move (.tmp (e + 5)), type := t5, pos := p5, after := f5, guard := some (gi, true) } :: { dst := some (e + 7), op := .move (.tmp 9), type := t6, pos := p6, after := f6, guard := some (gj, false) } :: { dst := some (e + 8), op := .move (.tmp 8), type := t7, pos := p7, after := f7, guard := some (gj, false) } :: { dst := some (e + 9), op := .binOp .add 3 (.tmp (e + 8)) (.const (.int .i64 7)) 3, type := t8, pos := p8, after := f8, guard := some (gj, false) } :: { dst := some (e + 10), op := .move (.tmp 8), type := t9, pos := p9, after := f9, guard := some (gj, false) } :: { dst := some (e + 11), op := .binOp .add 3 (.tmp (e + 10)) (.const (.int .i64 11)) 3, type := t10, pos := p10, after := f10, guard := some (gj, false) } :: { dst := some (e + 12), op := .call { callee := .value (.func 196), args := #[.tmp (e + 7), .tmp (e + 9), .tmp (e + 11)], argTypes := #[145, 3, 3] }, type := t11, pos := p11, after := f11, guard := some (gj, false) } :: { dst := some (e + 13), op := .pick (.tmp (e + 6)) (.const (.bool true)) (.tmp (e + 12)), type := t12, pos := p12, after := f12, guard := some (gi, true) } :: { dst := some (e + 14), op := .pick (.tmp e) (.tmp (e + 13)) (.const (.bool false)), type := t13, pos := p13, after := f13, guard := none } :: rest) a w := by
  cases b with
  | false =>
    refine wpl_pass (some (e + 1)) rfl ((wanted_some (b := false) hF rfl hd (by simp)).trans rfl) ?_
    have F1 := hF.put (d := e + 1) (undef) (by simp <;> omega) (by omega)
    refine wpl_pass (some (e + 2)) rfl ((wanted_some (b := false) F1 rfl hd (by simp)).trans rfl) ?_
    have F2 := F1.put (d := e + 2) (undef) (by simp <;> omega) (by omega)
    refine wpl_pass (some (e + 3)) rfl ((wanted_some (b := false) F2 rfl hd (by simp)).trans rfl) ?_
    have F3 := F2.put (d := e + 3) (undef) (by simp <;> omega) (by omega)
    refine wpl_pass (some (e + 4)) rfl ((wanted_some (b := false) F3 rfl hd (by simp)).trans rfl) ?_
    have F4 := F3.put (d := e + 4) (undef) (by simp <;> omega) (by omega)
    refine wpl_pass (some (e + 5)) rfl ((wanted_some (b := false) F4 rfl hd (by simp)).trans rfl) ?_
    have F5 := F4.put (d := e + 5) (undef) (by simp <;> omega) (by omega)
    refine wpl_pass (some (e + 6)) rfl ((wanted_some (b := false) F5 rfl hd (by simp)).trans rfl) ?_
    have F6 := F5.put (d := e + 6) (undef) (by simp <;> omega) (by omega)
    refine wpl_pass (some (e + 7)) rfl (wanted_undef F6 rfl hd2 (by simp)) ?_
    have F7 := F6.put (d := e + 7) (undef) (by simp <;> omega) (by omega)
    refine wpl_pass (some (e + 8)) rfl (wanted_undef F7 rfl hd2 (by simp)) ?_
    have F8 := F7.put (d := e + 8) (undef) (by simp <;> omega) (by omega)
    refine wpl_pass (some (e + 9)) rfl (wanted_undef F8 rfl hd2 (by simp)) ?_
    have F9 := F8.put (d := e + 9) (undef) (by simp <;> omega) (by omega)
    refine wpl_pass (some (e + 10)) rfl (wanted_undef F9 rfl hd2 (by simp)) ?_
    have F10 := F9.put (d := e + 10) (undef) (by simp <;> omega) (by omega)
    refine wpl_pass (some (e + 11)) rfl (wanted_undef F10 rfl hd2 (by simp)) ?_
    have F11 := F10.put (d := e + 11) (undef) (by simp <;> omega) (by omega)
    refine wpl_pass (some (e + 12)) rfl (wanted_undef F11 rfl hd2 (by simp)) ?_
    have F12 := F11.put (d := e + 12) (undef) (by simp <;> omega) (by omega)
    refine wpl_pass (some (e + 13)) rfl ((wanted_some (b := false) F12 rfl hd (by simp)).trans rfl) ?_
    have F13 := F12.put (d := e + 13) (undef) (by simp <;> omega) (by omega)
    refine wpl_go (v := .bool false) (some (e + 14)) rfl (wanted_none rfl _) (run_pk (b := false) rfl _ (F13.get (by simp)) rfl) ?_
    have F14 := F13.put (d := e + 14) (.bool false) (by simp <;> omega) (by omega)
    exact h _ false (((((((((((((((OvA.refl a (e + 1) (e + 15)).put (d := e + 1) (undef) (by omega) (by omega)).put (d := e + 2) (undef) (by omega) (by omega)).put (d := e + 3) (undef) (by omega) (by omega)).put (d := e + 4) (undef) (by omega) (by omega)).put (d := e + 5) (undef) (by omega) (by omega)).put (d := e + 6) (undef) (by omega) (by omega)).put (d := e + 7) (undef) (by omega) (by omega)).put (d := e + 8) (undef) (by omega) (by omega)).put (d := e + 9) (undef) (by omega) (by omega)).put (d := e + 10) (undef) (by omega) (by omega)).put (d := e + 11) (undef) (by omega) (by omega)).put (d := e + 12) (undef) (by omega) (by omega)).put (d := e + 13) (undef) (by omega) (by omega)).put (d := e + 14) (.bool false) (by omega) (by omega)) (F14.sub (by simp))
  | true =>
    refine wpl_go (v := .slice (some ⟨R, 0, none⟩) n n) (some (e + 1)) rfl ((wanted_some (b := true) hF rfl hd (by simp)).trans rfl) (run_mv rfl _ (hF.get (by simp))) ?_
    have F1 := hF.put (d := e + 1) (.slice (some ⟨R, 0, none⟩) n n) (by simp <;> omega) (by omega)
    refine wpl_go (v := .int .i64 (x : Nat)) (some (e + 2)) rfl ((wanted_some (b := true) F1 rfl hd (by simp)).trans rfl) (run_mv rfl _ (F1.get (by simp))) ?_
    have F2 := F1.put (d := e + 2) (.int .i64 (x : Nat)) (by simp <;> omega) (by omega)
    refine wpl_go (v := .int .i64 ((x : Int) - 4)) (some (e + 3)) rfl ((wanted_some (b := true) F2 rfl hd (by simp)).trans rfl) (run_sub (IntWalk.i64_in _ (by omega)) rfl _ (F2.get (v := .int .i64 (x : Nat)) (by simp)) rfl) ?_
    have F3 := F2.put (d := e + 3) (.int .i64 ((x : Int) - 4)) (by simp <;> omega) (by omega)
    refine wpl_go (v := .int .i64 (x : Nat)) (some (e + 4)) rfl ((wanted_some (b := true) F3 rfl hd (by simp)).trans rfl) (run_mv rfl _ (F3.get (by simp))) ?_
    have F4 := F3.put (d := e + 4) (.int .i64 (x : Nat)) (by simp <;> omega) (by omega)
    refine wpl_call (some (e + 5)) rfl ((wanted_some (b := true) F4 rfl hd (by simp)).trans rfl) rfl Tryz.func196 (by kernel_rfl) Tryz.body196 (vals := #[.slice (some ⟨R, 0, none⟩) n n, .int .i64 ((x : Int) - 4), .int .i64 (x : Nat)]) (by simp only [List.map_toArray, List.map_cons, List.map_nil]; rw [F4.get (k := e + 1) (v := .slice (some ⟨R, 0, none⟩) n n) (by simp), F4.get (k := e + 3) (v := .int .i64 ((x : Int) - 4)) (by simp), F4.get (k := e + 4) (v := .int .i64 (x : Nat)) (by simp)]) (hc _ _ (by omega) (by omega)) fun bz => ?_
    have F5 := F4.put (d := e + 5) (.bool bz) (by simp <;> omega) (by omega)
    cases bz with
    | true =>
      refine wpl_go (v := .bool true) (some (e + 6)) rfl ((wanted_some (b := true) F5 rfl hd (by simp)).trans rfl) (run_mv rfl _ (F5.get (by simp))) ?_
      have F6 := F5.put (d := e + 6) (.bool true) (by simp <;> omega) (by omega)
      refine wpl_pass (some (e + 7)) rfl ((wanted_some (b := true) F6 rfl hd2 (by simp)).trans rfl) ?_
      have F7 := F6.put (d := e + 7) (undef) (by simp <;> omega) (by omega)
      refine wpl_pass (some (e + 8)) rfl ((wanted_some (b := true) F7 rfl hd2 (by simp)).trans rfl) ?_
      have F8 := F7.put (d := e + 8) (undef) (by simp <;> omega) (by omega)
      refine wpl_pass (some (e + 9)) rfl ((wanted_some (b := true) F8 rfl hd2 (by simp)).trans rfl) ?_
      have F9 := F8.put (d := e + 9) (undef) (by simp <;> omega) (by omega)
      refine wpl_pass (some (e + 10)) rfl ((wanted_some (b := true) F9 rfl hd2 (by simp)).trans rfl) ?_
      have F10 := F9.put (d := e + 10) (undef) (by simp <;> omega) (by omega)
      refine wpl_pass (some (e + 11)) rfl ((wanted_some (b := true) F10 rfl hd2 (by simp)).trans rfl) ?_
      have F11 := F10.put (d := e + 11) (undef) (by simp <;> omega) (by omega)
      refine wpl_pass (some (e + 12)) rfl ((wanted_some (b := true) F11 rfl hd2 (by simp)).trans rfl) ?_
      have F12 := F11.put (d := e + 12) (undef) (by simp <;> omega) (by omega)
      refine wpl_go (v := .bool true) (some (e + 13)) rfl ((wanted_some (b := true) F12 rfl hd (by simp)).trans rfl) (run_pk (b := true) rfl _ (F12.get (by simp)) rfl) ?_
      have F13 := F12.put (d := e + 13) (.bool true) (by simp <;> omega) (by omega)
      refine wpl_go (v := .bool true) (some (e + 14)) rfl (wanted_none rfl _) (run_pk (b := true) rfl _ (F13.get (by simp)) (by rw [if_pos rfl]; exact F13.get (by simp))) ?_
      have F14 := F13.put (d := e + 14) (.bool true) (by simp <;> omega) (by omega)
      exact h _ true (((((((((((((((OvA.refl a (e + 1) (e + 15)).put (d := e + 1) (.slice (some ⟨R, 0, none⟩) n n) (by omega) (by omega)).put (d := e + 2) (.int .i64 (x : Nat)) (by omega) (by omega)).put (d := e + 3) (.int .i64 ((x : Int) - 4)) (by omega) (by omega)).put (d := e + 4) (.int .i64 (x : Nat)) (by omega) (by omega)).put (d := e + 5) (.bool true) (by omega) (by omega)).put (d := e + 6) (.bool true) (by omega) (by omega)).put (d := e + 7) (undef) (by omega) (by omega)).put (d := e + 8) (undef) (by omega) (by omega)).put (d := e + 9) (undef) (by omega) (by omega)).put (d := e + 10) (undef) (by omega) (by omega)).put (d := e + 11) (undef) (by omega) (by omega)).put (d := e + 12) (undef) (by omega) (by omega)).put (d := e + 13) (.bool true) (by omega) (by omega)).put (d := e + 14) (.bool true) (by omega) (by omega)) (F14.sub (by simp))
    | false =>
      refine wpl_go (v := .bool false) (some (e + 6)) rfl ((wanted_some (b := true) F5 rfl hd (by simp)).trans rfl) (run_mv rfl _ (F5.get (by simp))) ?_
      have F6 := F5.put (d := e + 6) (.bool false) (by simp <;> omega) (by omega)
      refine wpl_go (v := .slice (some ⟨R, 0, none⟩) n n) (some (e + 7)) rfl ((wanted_some (b := false) F6 rfl hd2 (by simp)).trans rfl) (run_mv rfl _ (F6.get (by simp))) ?_
      have F7 := F6.put (d := e + 7) (.slice (some ⟨R, 0, none⟩) n n) (by simp <;> omega) (by omega)
      refine wpl_go (v := .int .i64 (x : Nat)) (some (e + 8)) rfl ((wanted_some (b := false) F7 rfl hd2 (by simp)).trans rfl) (run_mv rfl _ (F7.get (by simp))) ?_
      have F8 := F7.put (d := e + 8) (.int .i64 (x : Nat)) (by simp <;> omega) (by omega)
      refine wpl_go (v := .int .i64 ((x + 7 : Nat) : Int)) (some (e + 9)) rfl ((wanted_some (b := false) F8 rfl hd2 (by simp)).trans rfl) (run_add (wrap_small (by omega) (by omega)) rfl _ (F8.get (v := .int .i64 (x : Nat)) (by simp)) rfl) ?_
      have F9 := F8.put (d := e + 9) (.int .i64 ((x + 7 : Nat) : Int)) (by simp <;> omega) (by omega)
      refine wpl_go (v := .int .i64 (x : Nat)) (some (e + 10)) rfl ((wanted_some (b := false) F9 rfl hd2 (by simp)).trans rfl) (run_mv rfl _ (F9.get (by simp))) ?_
      have F10 := F9.put (d := e + 10) (.int .i64 (x : Nat)) (by simp <;> omega) (by omega)
      refine wpl_go (v := .int .i64 ((x + 11 : Nat) : Int)) (some (e + 11)) rfl ((wanted_some (b := false) F10 rfl hd2 (by simp)).trans rfl) (run_add (wrap_small (by omega) (by omega)) rfl _ (F10.get (v := .int .i64 (x : Nat)) (by simp)) rfl) ?_
      have F11 := F10.put (d := e + 11) (.int .i64 ((x + 11 : Nat) : Int)) (by simp <;> omega) (by omega)
      refine wpl_call (some (e + 12)) rfl ((wanted_some (b := false) F11 rfl hd2 (by simp)).trans rfl) rfl Tryz.func196 (by kernel_rfl) Tryz.body196 (vals := #[.slice (some ⟨R, 0, none⟩) n n, .int .i64 ((x + 7 : Nat) : Int), .int .i64 ((x + 11 : Nat) : Int)]) (by simp only [List.map_toArray, List.map_cons, List.map_nil]; rw [F11.get (k := e + 7) (v := .slice (some ⟨R, 0, none⟩) n n) (by simp), F11.get (k := e + 9) (v := .int .i64 ((x + 7 : Nat) : Int)) (by simp), F11.get (k := e + 11) (v := .int .i64 ((x + 11 : Nat) : Int)) (by simp)]) (hc _ _ (by omega) (by omega)) fun by_ => ?_
      have F12 := F11.put (d := e + 12) (.bool by_) (by simp <;> omega) (by omega)
      refine wpl_go (v := .bool by_) (some (e + 13)) rfl ((wanted_some (b := true) F12 rfl hd (by simp)).trans rfl) (run_pk (b := false) rfl _ (F12.get (by simp)) (by rw [if_neg Bool.false_ne_true]; exact F12.get (by simp))) ?_
      have F13 := F12.put (d := e + 13) (.bool by_) (by simp <;> omega) (by omega)
      refine wpl_go (v := .bool by_) (some (e + 14)) rfl (wanted_none rfl _) (run_pk (b := true) rfl _ (F13.get (by simp)) (by rw [if_pos rfl]; exact F13.get (by simp))) ?_
      have F14 := F13.put (d := e + 14) (.bool by_) (by simp <;> omega) (by omega)
      exact h _ by_ (((((((((((((((OvA.refl a (e + 1) (e + 15)).put (d := e + 1) (.slice (some ⟨R, 0, none⟩) n n) (by omega) (by omega)).put (d := e + 2) (.int .i64 (x : Nat)) (by omega) (by omega)).put (d := e + 3) (.int .i64 ((x : Int) - 4)) (by omega) (by omega)).put (d := e + 4) (.int .i64 (x : Nat)) (by omega) (by omega)).put (d := e + 5) (.bool false) (by omega) (by omega)).put (d := e + 6) (.bool false) (by omega) (by omega)).put (d := e + 7) (.slice (some ⟨R, 0, none⟩) n n) (by omega) (by omega)).put (d := e + 8) (.int .i64 (x : Nat)) (by omega) (by omega)).put (d := e + 9) (.int .i64 ((x + 7 : Nat) : Int)) (by omega) (by omega)).put (d := e + 10) (.int .i64 (x : Nat)) (by omega) (by omega)).put (d := e + 11) (.int .i64 ((x + 11 : Nat) : Int)) (by omega) (by omega)).put (d := e + 12) (.bool by_) (by omega) (by omega)).put (d := e + 13) (.bool by_) (by omega) (by omega)).put (d := e + 14) (.bool by_) (by omega) (by omega)) (F14.sub (by simp))
set_option maxHeartbeats 3200000 in
theorem pTV {ops : Array Oper} {Q : Exit → Act → World → Prop} {a : Act} {rest : List Oper} {R n x y N e gi gj : Nat} {b : Bool} {w : World} {t0 t1 t2 t3 t4 t5 t6 t7 t8 t9 t10 t11 t12 t13 t14 t15 : TypeId} {p0 p1 p2 p3 p4 p5 p6 p7 p8 p9 p10 p11 p12 p13 p14 p15 : String} {f0 f1 f2 f3 f4 f5 f6 f7 f8 f9 f10 f11 f12 f13 f14 f15 : Array Edge}
    (hF : Fct a N [(e, .bool b), (4, .slice (some ⟨R, 0, none⟩) n n), (7, .int .i64 (y : Nat)), (8, .int .i64 (x : Nat))]) (hd : (ops[gi]?).bind (·.dst) = some e) (hd2 : (ops[gj]?).bind (·.dst) = some (e + 7)) (he : 9 < e) (hN : e + 16 < N) (hx : x ≤ 200) (hy : y ≤ 200)
    (hc : ∀ s t : Int, -100 ≤ s ∧ s ≤ 300 → -100 ≤ t ∧ t ≤ 300 → Calls Tryz.prog 197 #[.slice (some ⟨R, 0, none⟩) n n, .int .i64 (x : Nat), .int .i64 s, .int .i64 t] w fun e w' => (∃ b, e = .returned (.bool b)) ∧ w = w')
    (h : ∀ a' b', OvA a a' (e + 1) (e + 17) → Fct a' N [(e + 16, .bool b')] → wpList Tryz.prog ops Q rest a' w) :
    wpList Tryz.prog ops Q ({ dst := some (e + 1), op := .move (.tmp 4), type := t0, pos := p0, after := f0, guard := some (gi, true) } :: { dst := some (e + 2), op := .move (.tmp 8), type := t1, pos := p1, after := f1, guard := some (gi, true) } :: { dst := some (e + 3), op := .move (.tmp 7), type := t2, pos := p2, after := f2, guard := some (gi, true) } :: { dst := some (e + 4), op := .binOp .sub 3 (.tmp (e + 3)) (.const (.int .i64 4)) 3, type := t3, pos := p3, after := f3, guard := some (gi, true) } :: { dst := some (e + 5), op := .move (.tmp 7), type := t4, pos := p4, after := f4, guard := some (gi, true) } :: { dst := some (e + 6), op := .call { callee := .value (.func 197), args := #[.tmp (e + 1), .tmp (e + 2), .tmp (e + 4), .tmp (e + 5)], argTypes := #[142, 3, 3, 3] }, type := t5, pos := p5, after := f5, guard := some (gi, true) } :: { dst := some (e + 7), op := .move (.tmp (e + 6)), type := t6, pos := p6, after := f6, guard := some (gi, true) } :: { dst := some (e + 8), op := .move (.tmp 4), type := t7, pos := p7, after := f7, guard := some (gj, false) } :: { dst := some (e + 9), op := .move (.tmp 8), type := t8, pos := p8, after := f8, guard := some (gj, false) } :: { dst := some (e + 10), op := .move (.tmp 7), type := t9, pos := p9, after := f9, guard := some (gj, false) } :: { dst := some (e + 11), op := .binOp .add 3 (.tmp (e + 10)) (.const (.int .i64 7)) 3, type := t10, pos := p10, after := f10, guard := some (gj, false) } :: { dst := some (e + 12), op := .move (.tmp 7), type := t11, pos := p11, after := f11, guard := some (gj, false) } :: { dst := some (e + 13), op := .binOp .add 3 (.tmp (e + 12)) (.const (.int .i64 11)) 3, type := t12, pos := p12, after := f12, guard := some (gj, false) } :: { dst := some (e + 14), op := .call { callee := .value (.func 197), args := #[.tmp (e + 8), .tmp (e + 9), .tmp (e + 11), .tmp (e + 13)], argTypes := #[142, 3, 3, 3] }, type := t13, pos := p13, after := f13, guard := some (gj, false) } :: { dst := some (e + 15), op := .pick (.tmp (e + 7)) (.const (.bool true)) (.tmp (e + 14)), type := t14, pos := p14, after := f14, guard := some (gi, true) } :: { dst := some (e + 16), op := .pick (.tmp e) (.tmp (e + 15)) (.const (.bool false)), type := t15, pos := p15, after := f15, guard := none } :: rest) a w := by
  cases b with
  | false =>
    refine wpl_pass (some (e + 1)) rfl ((wanted_some (b := false) hF rfl hd (by simp)).trans rfl) ?_
    have F1 := hF.put (d := e + 1) (undef) (by simp <;> omega) (by omega)
    refine wpl_pass (some (e + 2)) rfl ((wanted_some (b := false) F1 rfl hd (by simp)).trans rfl) ?_
    have F2 := F1.put (d := e + 2) (undef) (by simp <;> omega) (by omega)
    refine wpl_pass (some (e + 3)) rfl ((wanted_some (b := false) F2 rfl hd (by simp)).trans rfl) ?_
    have F3 := F2.put (d := e + 3) (undef) (by simp <;> omega) (by omega)
    refine wpl_pass (some (e + 4)) rfl ((wanted_some (b := false) F3 rfl hd (by simp)).trans rfl) ?_
    have F4 := F3.put (d := e + 4) (undef) (by simp <;> omega) (by omega)
    refine wpl_pass (some (e + 5)) rfl ((wanted_some (b := false) F4 rfl hd (by simp)).trans rfl) ?_
    have F5 := F4.put (d := e + 5) (undef) (by simp <;> omega) (by omega)
    refine wpl_pass (some (e + 6)) rfl ((wanted_some (b := false) F5 rfl hd (by simp)).trans rfl) ?_
    have F6 := F5.put (d := e + 6) (undef) (by simp <;> omega) (by omega)
    refine wpl_pass (some (e + 7)) rfl ((wanted_some (b := false) F6 rfl hd (by simp)).trans rfl) ?_
    have F7 := F6.put (d := e + 7) (undef) (by simp <;> omega) (by omega)
    refine wpl_pass (some (e + 8)) rfl (wanted_undef F7 rfl hd2 (by simp)) ?_
    have F8 := F7.put (d := e + 8) (undef) (by simp <;> omega) (by omega)
    refine wpl_pass (some (e + 9)) rfl (wanted_undef F8 rfl hd2 (by simp)) ?_
    have F9 := F8.put (d := e + 9) (undef) (by simp <;> omega) (by omega)
    refine wpl_pass (some (e + 10)) rfl (wanted_undef F9 rfl hd2 (by simp)) ?_
    have F10 := F9.put (d := e + 10) (undef) (by simp <;> omega) (by omega)
    refine wpl_pass (some (e + 11)) rfl (wanted_undef F10 rfl hd2 (by simp)) ?_
    have F11 := F10.put (d := e + 11) (undef) (by simp <;> omega) (by omega)
    refine wpl_pass (some (e + 12)) rfl (wanted_undef F11 rfl hd2 (by simp)) ?_
    have F12 := F11.put (d := e + 12) (undef) (by simp <;> omega) (by omega)
    refine wpl_pass (some (e + 13)) rfl (wanted_undef F12 rfl hd2 (by simp)) ?_
    have F13 := F12.put (d := e + 13) (undef) (by simp <;> omega) (by omega)
    refine wpl_pass (some (e + 14)) rfl (wanted_undef F13 rfl hd2 (by simp)) ?_
    have F14 := F13.put (d := e + 14) (undef) (by simp <;> omega) (by omega)
    refine wpl_pass (some (e + 15)) rfl ((wanted_some (b := false) F14 rfl hd (by simp)).trans rfl) ?_
    have F15 := F14.put (d := e + 15) (undef) (by simp <;> omega) (by omega)
    refine wpl_go (v := .bool false) (some (e + 16)) rfl (wanted_none rfl _) (run_pk (b := false) rfl _ (F15.get (by simp)) rfl) ?_
    have F16 := F15.put (d := e + 16) (.bool false) (by simp <;> omega) (by omega)
    exact h _ false (((((((((((((((((OvA.refl a (e + 1) (e + 17)).put (d := e + 1) (undef) (by omega) (by omega)).put (d := e + 2) (undef) (by omega) (by omega)).put (d := e + 3) (undef) (by omega) (by omega)).put (d := e + 4) (undef) (by omega) (by omega)).put (d := e + 5) (undef) (by omega) (by omega)).put (d := e + 6) (undef) (by omega) (by omega)).put (d := e + 7) (undef) (by omega) (by omega)).put (d := e + 8) (undef) (by omega) (by omega)).put (d := e + 9) (undef) (by omega) (by omega)).put (d := e + 10) (undef) (by omega) (by omega)).put (d := e + 11) (undef) (by omega) (by omega)).put (d := e + 12) (undef) (by omega) (by omega)).put (d := e + 13) (undef) (by omega) (by omega)).put (d := e + 14) (undef) (by omega) (by omega)).put (d := e + 15) (undef) (by omega) (by omega)).put (d := e + 16) (.bool false) (by omega) (by omega)) (F16.sub (by simp))
  | true =>
    refine wpl_go (v := .slice (some ⟨R, 0, none⟩) n n) (some (e + 1)) rfl ((wanted_some (b := true) hF rfl hd (by simp)).trans rfl) (run_mv rfl _ (hF.get (by simp))) ?_
    have F1 := hF.put (d := e + 1) (.slice (some ⟨R, 0, none⟩) n n) (by simp <;> omega) (by omega)
    refine wpl_go (v := .int .i64 (x : Nat)) (some (e + 2)) rfl ((wanted_some (b := true) F1 rfl hd (by simp)).trans rfl) (run_mv rfl _ (F1.get (by simp))) ?_
    have F2 := F1.put (d := e + 2) (.int .i64 (x : Nat)) (by simp <;> omega) (by omega)
    refine wpl_go (v := .int .i64 (y : Nat)) (some (e + 3)) rfl ((wanted_some (b := true) F2 rfl hd (by simp)).trans rfl) (run_mv rfl _ (F2.get (by simp))) ?_
    have F3 := F2.put (d := e + 3) (.int .i64 (y : Nat)) (by simp <;> omega) (by omega)
    refine wpl_go (v := .int .i64 ((y : Int) - 4)) (some (e + 4)) rfl ((wanted_some (b := true) F3 rfl hd (by simp)).trans rfl) (run_sub (IntWalk.i64_in _ (by omega)) rfl _ (F3.get (v := .int .i64 (y : Nat)) (by simp)) rfl) ?_
    have F4 := F3.put (d := e + 4) (.int .i64 ((y : Int) - 4)) (by simp <;> omega) (by omega)
    refine wpl_go (v := .int .i64 (y : Nat)) (some (e + 5)) rfl ((wanted_some (b := true) F4 rfl hd (by simp)).trans rfl) (run_mv rfl _ (F4.get (by simp))) ?_
    have F5 := F4.put (d := e + 5) (.int .i64 (y : Nat)) (by simp <;> omega) (by omega)
    refine wpl_call (some (e + 6)) rfl ((wanted_some (b := true) F5 rfl hd (by simp)).trans rfl) rfl Tryz.func197 (by kernel_rfl) Tryz.body197 (vals := #[.slice (some ⟨R, 0, none⟩) n n, .int .i64 (x : Nat), .int .i64 ((y : Int) - 4), .int .i64 (y : Nat)]) (by simp only [List.map_toArray, List.map_cons, List.map_nil]; rw [F5.get (k := e + 1) (v := .slice (some ⟨R, 0, none⟩) n n) (by simp), F5.get (k := e + 2) (v := .int .i64 (x : Nat)) (by simp), F5.get (k := e + 4) (v := .int .i64 ((y : Int) - 4)) (by simp), F5.get (k := e + 5) (v := .int .i64 (y : Nat)) (by simp)]) (hc _ _ (by omega) (by omega)) fun bz => ?_
    have F6 := F5.put (d := e + 6) (.bool bz) (by simp <;> omega) (by omega)
    cases bz with
    | true =>
      refine wpl_go (v := .bool true) (some (e + 7)) rfl ((wanted_some (b := true) F6 rfl hd (by simp)).trans rfl) (run_mv rfl _ (F6.get (by simp))) ?_
      have F7 := F6.put (d := e + 7) (.bool true) (by simp <;> omega) (by omega)
      refine wpl_pass (some (e + 8)) rfl ((wanted_some (b := true) F7 rfl hd2 (by simp)).trans rfl) ?_
      have F8 := F7.put (d := e + 8) (undef) (by simp <;> omega) (by omega)
      refine wpl_pass (some (e + 9)) rfl ((wanted_some (b := true) F8 rfl hd2 (by simp)).trans rfl) ?_
      have F9 := F8.put (d := e + 9) (undef) (by simp <;> omega) (by omega)
      refine wpl_pass (some (e + 10)) rfl ((wanted_some (b := true) F9 rfl hd2 (by simp)).trans rfl) ?_
      have F10 := F9.put (d := e + 10) (undef) (by simp <;> omega) (by omega)
      refine wpl_pass (some (e + 11)) rfl ((wanted_some (b := true) F10 rfl hd2 (by simp)).trans rfl) ?_
      have F11 := F10.put (d := e + 11) (undef) (by simp <;> omega) (by omega)
      refine wpl_pass (some (e + 12)) rfl ((wanted_some (b := true) F11 rfl hd2 (by simp)).trans rfl) ?_
      have F12 := F11.put (d := e + 12) (undef) (by simp <;> omega) (by omega)
      refine wpl_pass (some (e + 13)) rfl ((wanted_some (b := true) F12 rfl hd2 (by simp)).trans rfl) ?_
      have F13 := F12.put (d := e + 13) (undef) (by simp <;> omega) (by omega)
      refine wpl_pass (some (e + 14)) rfl ((wanted_some (b := true) F13 rfl hd2 (by simp)).trans rfl) ?_
      have F14 := F13.put (d := e + 14) (undef) (by simp <;> omega) (by omega)
      refine wpl_go (v := .bool true) (some (e + 15)) rfl ((wanted_some (b := true) F14 rfl hd (by simp)).trans rfl) (run_pk (b := true) rfl _ (F14.get (by simp)) rfl) ?_
      have F15 := F14.put (d := e + 15) (.bool true) (by simp <;> omega) (by omega)
      refine wpl_go (v := .bool true) (some (e + 16)) rfl (wanted_none rfl _) (run_pk (b := true) rfl _ (F15.get (by simp)) (by rw [if_pos rfl]; exact F15.get (by simp))) ?_
      have F16 := F15.put (d := e + 16) (.bool true) (by simp <;> omega) (by omega)
      exact h _ true (((((((((((((((((OvA.refl a (e + 1) (e + 17)).put (d := e + 1) (.slice (some ⟨R, 0, none⟩) n n) (by omega) (by omega)).put (d := e + 2) (.int .i64 (x : Nat)) (by omega) (by omega)).put (d := e + 3) (.int .i64 (y : Nat)) (by omega) (by omega)).put (d := e + 4) (.int .i64 ((y : Int) - 4)) (by omega) (by omega)).put (d := e + 5) (.int .i64 (y : Nat)) (by omega) (by omega)).put (d := e + 6) (.bool true) (by omega) (by omega)).put (d := e + 7) (.bool true) (by omega) (by omega)).put (d := e + 8) (undef) (by omega) (by omega)).put (d := e + 9) (undef) (by omega) (by omega)).put (d := e + 10) (undef) (by omega) (by omega)).put (d := e + 11) (undef) (by omega) (by omega)).put (d := e + 12) (undef) (by omega) (by omega)).put (d := e + 13) (undef) (by omega) (by omega)).put (d := e + 14) (undef) (by omega) (by omega)).put (d := e + 15) (.bool true) (by omega) (by omega)).put (d := e + 16) (.bool true) (by omega) (by omega)) (F16.sub (by simp))
    | false =>
      refine wpl_go (v := .bool false) (some (e + 7)) rfl ((wanted_some (b := true) F6 rfl hd (by simp)).trans rfl) (run_mv rfl _ (F6.get (by simp))) ?_
      have F7 := F6.put (d := e + 7) (.bool false) (by simp <;> omega) (by omega)
      refine wpl_go (v := .slice (some ⟨R, 0, none⟩) n n) (some (e + 8)) rfl ((wanted_some (b := false) F7 rfl hd2 (by simp)).trans rfl) (run_mv rfl _ (F7.get (by simp))) ?_
      have F8 := F7.put (d := e + 8) (.slice (some ⟨R, 0, none⟩) n n) (by simp <;> omega) (by omega)
      refine wpl_go (v := .int .i64 (x : Nat)) (some (e + 9)) rfl ((wanted_some (b := false) F8 rfl hd2 (by simp)).trans rfl) (run_mv rfl _ (F8.get (by simp))) ?_
      have F9 := F8.put (d := e + 9) (.int .i64 (x : Nat)) (by simp <;> omega) (by omega)
      refine wpl_go (v := .int .i64 (y : Nat)) (some (e + 10)) rfl ((wanted_some (b := false) F9 rfl hd2 (by simp)).trans rfl) (run_mv rfl _ (F9.get (by simp))) ?_
      have F10 := F9.put (d := e + 10) (.int .i64 (y : Nat)) (by simp <;> omega) (by omega)
      refine wpl_go (v := .int .i64 ((y + 7 : Nat) : Int)) (some (e + 11)) rfl ((wanted_some (b := false) F10 rfl hd2 (by simp)).trans rfl) (run_add (wrap_small (by omega) (by omega)) rfl _ (F10.get (v := .int .i64 (y : Nat)) (by simp)) rfl) ?_
      have F11 := F10.put (d := e + 11) (.int .i64 ((y + 7 : Nat) : Int)) (by simp <;> omega) (by omega)
      refine wpl_go (v := .int .i64 (y : Nat)) (some (e + 12)) rfl ((wanted_some (b := false) F11 rfl hd2 (by simp)).trans rfl) (run_mv rfl _ (F11.get (by simp))) ?_
      have F12 := F11.put (d := e + 12) (.int .i64 (y : Nat)) (by simp <;> omega) (by omega)
      refine wpl_go (v := .int .i64 ((y + 11 : Nat) : Int)) (some (e + 13)) rfl ((wanted_some (b := false) F12 rfl hd2 (by simp)).trans rfl) (run_add (wrap_small (by omega) (by omega)) rfl _ (F12.get (v := .int .i64 (y : Nat)) (by simp)) rfl) ?_
      have F13 := F12.put (d := e + 13) (.int .i64 ((y + 11 : Nat) : Int)) (by simp <;> omega) (by omega)
      refine wpl_call (some (e + 14)) rfl ((wanted_some (b := false) F13 rfl hd2 (by simp)).trans rfl) rfl Tryz.func197 (by kernel_rfl) Tryz.body197 (vals := #[.slice (some ⟨R, 0, none⟩) n n, .int .i64 (x : Nat), .int .i64 ((y + 7 : Nat) : Int), .int .i64 ((y + 11 : Nat) : Int)]) (by simp only [List.map_toArray, List.map_cons, List.map_nil]; rw [F13.get (k := e + 8) (v := .slice (some ⟨R, 0, none⟩) n n) (by simp), F13.get (k := e + 9) (v := .int .i64 (x : Nat)) (by simp), F13.get (k := e + 11) (v := .int .i64 ((y + 7 : Nat) : Int)) (by simp), F13.get (k := e + 13) (v := .int .i64 ((y + 11 : Nat) : Int)) (by simp)]) (hc _ _ (by omega) (by omega)) fun by_ => ?_
      have F14 := F13.put (d := e + 14) (.bool by_) (by simp <;> omega) (by omega)
      refine wpl_go (v := .bool by_) (some (e + 15)) rfl ((wanted_some (b := true) F14 rfl hd (by simp)).trans rfl) (run_pk (b := false) rfl _ (F14.get (by simp)) (by rw [if_neg Bool.false_ne_true]; exact F14.get (by simp))) ?_
      have F15 := F14.put (d := e + 15) (.bool by_) (by simp <;> omega) (by omega)
      refine wpl_go (v := .bool by_) (some (e + 16)) rfl (wanted_none rfl _) (run_pk (b := true) rfl _ (F15.get (by simp)) (by rw [if_pos rfl]; exact F15.get (by simp))) ?_
      have F16 := F15.put (d := e + 16) (.bool by_) (by simp <;> omega) (by omega)
      exact h _ by_ (((((((((((((((((OvA.refl a (e + 1) (e + 17)).put (d := e + 1) (.slice (some ⟨R, 0, none⟩) n n) (by omega) (by omega)).put (d := e + 2) (.int .i64 (x : Nat)) (by omega) (by omega)).put (d := e + 3) (.int .i64 (y : Nat)) (by omega) (by omega)).put (d := e + 4) (.int .i64 ((y : Int) - 4)) (by omega) (by omega)).put (d := e + 5) (.int .i64 (y : Nat)) (by omega) (by omega)).put (d := e + 6) (.bool false) (by omega) (by omega)).put (d := e + 7) (.bool false) (by omega) (by omega)).put (d := e + 8) (.slice (some ⟨R, 0, none⟩) n n) (by omega) (by omega)).put (d := e + 9) (.int .i64 (x : Nat)) (by omega) (by omega)).put (d := e + 10) (.int .i64 (y : Nat)) (by omega) (by omega)).put (d := e + 11) (.int .i64 ((y + 7 : Nat) : Int)) (by omega) (by omega)).put (d := e + 12) (.int .i64 (y : Nat)) (by omega) (by omega)).put (d := e + 13) (.int .i64 ((y + 11 : Nat) : Int)) (by omega) (by omega)).put (d := e + 14) (.bool by_) (by omega) (by omega)).put (d := e + 15) (.bool by_) (by omega) (by omega)).put (d := e + 16) (.bool by_) (by omega) (by omega)) (F16.sub (by simp))
theorem wpl_abs {P : Program} {ops : Array Oper} {Q : Exit → Act → World → Prop} {l : List Oper} {a0 : Act} {w : World} (h : ∀ a : Act, a = a0 → wpList P ops Q l a w) : wpList P ops Q l a0 w := h _ rfl
theorem wpl_end {P : Program} {ops : Array Oper} {Q : Exit → Act → World → Prop} {a : Act} {w : World} (h : Q .normal a w) : wpList P ops Q [] a w := h
theorem ov_wide {a b : Act} {lo hi l2 h2 : Nat} (h : OvA a b lo hi) (h1 : l2 ≤ lo) (h3 : hi ≤ h2) : OvA a b l2 h2 := ⟨h.d, h.s, fun i hi' => h.k i (by omega)⟩
theorem len_one {α : Type} {l : List α} {n : Nat} (h : l.length = n + 1) : ∃ v r, l = v :: r ∧ r.length = n := by
  cases l with
  | nil => cases h
  | cons v r => exact ⟨v, r, rfl, by simpa using h⟩
/-- a frame that differs between lo and hi alone, written out but for these -/
theorem ov_lit {t : List Value} {ds : List Deferred} {a' : Act} {lo hi : Nat} (h : OvA ⟨t.toArray, ds⟩ a' lo hi) (h1 : lo ≤ hi) (h2 : hi ≤ t.length) : ∃ vs : List Value, vs.length = hi - lo ∧ (∀ k v, lo ≤ k → k < hi → a'.tmps[k]? = some v → vs[k - lo]? = some v) ∧ a' = ⟨(t.take lo ++ (vs ++ t.drop hi)).toArray, ds⟩ := by
  have hs : a'.tmps.size = t.length := by rw [h.s]; simp
  refine ⟨(a'.tmps.toList.drop lo).take (hi - lo), by simp; omega, fun k v hk1 hk2 hv => ?_, ?_⟩
  · rw [List.getElem?_take_of_lt (by omega), List.getElem?_drop, show lo + (k - lo) = k from by omega]
    simpa using hv
  · cases a' with
    | mk tm dd =>
      have hd : dd = ds := h.d
      subst hd
      congr 1
      refine Array.ext' ?_
      refine List.ext_getElem? fun i => ?_
      have hk := h.k i
      simp only at hk hs
      simp only [List.getElem?_toArray] at hk
      rw [← Array.getElem?_toList] at hk
      by_cases h3 : i < lo
      · rw [hk (.inl h3), List.getElem?_append_left (by simp; omega), List.getElem?_take_of_lt h3]
      · rw [List.getElem?_append_right (by simp; omega)]
        have e1 : (t.take lo).length = lo := by simp; omega
        rw [e1]
        by_cases h4 : i < hi
        · rw [List.getElem?_append_left (by simp; omega), List.getElem?_take_of_lt (by omega), List.getElem?_drop, show lo + (i - lo) = i from by omega]
        · rw [hk (.inr (by omega)), List.getElem?_append_right (by simp; omega), List.getElem?_drop]
          congr 1
          simp
          omega
end Go.Proofs.YtcekbhhpcmhicaaGreatDoor
/- Penalty rule 3: a bound alone. -/
namespace Go.Proofs.YtcekbhhpcmhicaaGreatDoor
open Go Go.RowKit Go.Deep
set_option maxRecDepth 100000
set_option maxHeartbeats 12800000 in
theorem pen3_calls {w : World} {m r n : Nat} {M : Nat → Nat → Int} (h : BM w m r n M) :
    Calls Tryz.prog 157 #[.pointer (some ⟨m, 0, none⟩)] w fun e w' => (∃ p : Nat, e = .returned (.int .i64 p) ∧ p ≤ 4000000) ∧ w = w' := by
  have hl := h.lim
  have HA := Lib.hid (array_calls h)
  have HW := Lib.hid (width_calls h)
  have HH := Lib.hid (height_calls h)
  have HR := Lib.hid (fun y (hy : y < n) => h.rw_.cell hy)
  have HC := Lib.hid (fun x y (hx : x < n) (hy : y < n) => get_cell h hx hy)
  have HWH := Lib.hid (fun y (hy : y < n) a t ha ht => whiteH_calls h y hy a t ha ht)
  have HWV := Lib.hid (fun x (hx : x < n) a t ha ht => whiteV_calls h x hx a t ha ht)
  clear h
  go_enter Tryz.func157, Tryz.ntmps157
  go_wp2_with fail
  refine HA.out.mono ?_
  rintro e w1 ⟨rfl, rfl⟩
  go_wp2_with fail
  refine HW.out.mono ?_
  rintro e w1 ⟨rfl, rfl⟩
  go_wp2_with fail
  refine HH.out.mono ?_
  rintro e w1 ⟨rfl, rfl⟩
  go_wp2_with fail
  clear HA HW HH
  go_loopg [3, 7, 8, 9] n (fun q s3 s7 s8 s9 wr => ∃ y p : Nat, y + q = n ∧ s7 = .int .i64 y ∧ s3 = .int .i64 p ∧ p ≤ 400 * y ∧ wr = w)
  case atStart => exact ⟨0, 0, by omega, rfl, rfl, by omega, rfl⟩
  case round =>
    obtain ⟨y, p, hy, rfl, rfl, hpy, rfl⟩ := hrel
    cases gk with
    | zero =>
      have hz : ¬ (y : Int) < (n : Int) := by omega
      have hp : p ≤ 80000 := by omega
      go_wp2_with fail
      go_ret
      exact ⟨⟨p * 40, by go_num, by omega⟩, rfl⟩
    | succ q =>
      have hz : (y : Int) < (n : Int) := by omega
      have hyn : y < n := by omega
      have r0 := HR.out y hyn
      have HY := Lib.hid hy
      clear hy
      go_wp2_with fail
      go_loopg [3, 8, 9] n (fun c s3 s8 s9 wq => ∃ x p : Nat, x + c = n ∧ s8 = .int .i64 x ∧ s3 = .int .i64 p ∧ p ≤ 400 * y + 2 * x ∧ wq = wr)
      case atStart => exact ⟨0, p, by omega, rfl, rfl, by omega, rfl⟩
      case round =>
        obtain ⟨x, p2, hx, rfl, rfl, hpx, rfl⟩ := hrel
        cases gk with
        | zero =>
          have hzz : ¬ (x : Int) < (n : Int) := by omega
          go_wp2_with fail
          go_roundg q
          case measure => omega
          case rel => exact ⟨y + 1, p2, by have := HY.out; omega, by go_num, rfl, by omega, rfl⟩
        | succ c =>
          have hzz : (x : Int) < (n : Int) := by omega
          have hxn : x < n := by omega
          have HX := Lib.hid hx
          clear hx
          have hp2 : p2 ≤ 80400 := by omega
          have HP := Lib.hid hpx
          have HPY := Lib.hid hpy
          clear hpx hpy
          go_upto_region 12 with fail
          refine wp_region_list ?_
          refine wpl_abs (fun a0 ha0 => ?_)
          have F0 : Fct a0 207 [(5, .int .i64 (n : Nat)), (9, .slice (some ⟨r + 1 + y, 0, none⟩) n n), (8, .int .i64 (x : Nat))] := by
            subst ha0
            refine ⟨rfl, fun p hp => ?_⟩
            simp only [List.mem_cons, List.not_mem_nil, or_false] at hp
            rcases hp with rfl | rfl | rfl <;> rfl
          refine pS (e := 30) (sx := 8) (sn := 5) (x := x) (n := n) F0 (by simp) (by omega) (by simp) (by simp) (by omega) ?_
          intro a1 o1 F1
          refine pH0 (e := 34) (gi := 4) (R := r + 1 + y) (n := n) (c := n) (b := decide (x + 6 < n)) (x := x) (F1.sub (by simp)) rfl (by omega) (by omega) (fun h => of_decide_eq_true h) hl (fun i hi => ⟨_, HC.out i y hi hyn⟩) ?_
          intro a2 b2 o2 F2 hb2
          refine pH (e := 41) (gi := 11) (k := 1) (R := r + 1 + y) (n := n) (x := x) F2 rfl (by omega) (by omega) hb2 (by omega) hl (fun i hi => ⟨_, HC.out i y hi hyn⟩) ?_
          intro a3 b3 o3 F3 hb3
          refine pH (e := 49) (gi := 19) (k := 2) (R := r + 1 + y) (n := n) (x := x) F3 rfl (by omega) (by omega) hb3 (by omega) hl (fun i hi => ⟨_, HC.out i y hi hyn⟩) ?_
          intro a4 b4 o4 F4 hb4
          refine pH (e := 57) (gi := 27) (k := 3) (R := r + 1 + y) (n := n) (x := x) F4 rfl (by omega) (by omega) hb4 (by omega) hl (fun i hi => ⟨_, HC.out i y hi hyn⟩) ?_
          intro a5 b5 o5 F5 hb5
          refine pH (e := 65) (gi := 35) (k := 4) (R := r + 1 + y) (n := n) (x := x) F5 rfl (by omega) (by omega) hb5 (by omega) hl (fun i hi => ⟨_, HC.out i y hi hyn⟩) ?_
          intro a6 b6 o6 F6 hb6
          refine pH (e := 73) (gi := 43) (k := 5) (R := r + 1 + y) (n := n) (x := x) F6 rfl (by omega) (by omega) hb6 (by omega) hl (fun i hi => ⟨_, HC.out i y hi hyn⟩) ?_
          intro a7 b7 o7 F7 hb7
          refine pH (e := 81) (gi := 51) (k := 6) (R := r + 1 + y) (n := n) (x := x) F7 rfl (by omega) (by omega) hb7 (by omega) hl (fun i hi => ⟨_, HC.out i y hi hyn⟩) ?_
          intro a8 b8 o8 F8 hb8
          refine pTH (e := 89) (gi := 59) (gj := 65) (R := r + 1 + y) (n := n) (x := x) F8 rfl rfl (by omega) (by omega) (by omega) (fun s t hs ht => HWH.out y hyn s t hs ht) ?_
          intro a9 b9 o9 F9
          refine wpl_end ?_
          have hov : OvA a0 a9 30 104 := (((((((((ov_wide o1 (by omega) (by omega)).trans (ov_wide o2 (by omega) (by omega))).trans (ov_wide o3 (by omega) (by omega))).trans (ov_wide o4 (by omega) (by omega))).trans (ov_wide o5 (by omega) (by omega))).trans (ov_wide o6 (by omega) (by omega))).trans (ov_wide o7 (by omega) (by omega))).trans (ov_wide o8 (by omega) (by omega))).trans (ov_wide o9 (by omega) (by omega)))
          have hb9 := F9.2 (103, .bool b9) (by simp)
          clear o1 o2 o3 o4 o5 o6 o7 o8 o9 F0 F1 F2 F3 F4 F5 F6 F7 F8 F9 hb2 hb3 hb4 hb5 hb6 hb7 hb8
          clear a1 a2 a3 a4 a5 a6 a7 a8 b2 b3 b4 b5 b6 b7 b8
          subst ha0
          obtain ⟨vs, hvl, hvk, rfl⟩ := ov_lit hov (by omega) (by simp)
          have hb := hvk 103 _ (by omega) (by omega) hb9
          clear hov hvk hb9
          obtain ⟨v0, vs0, rfl, hv0⟩ := len_one hvl
          clear hvl
          obtain ⟨v1, vs1, rfl, hv1⟩ := len_one hv0
          clear hv0
          obtain ⟨v2, vs2, rfl, hv2⟩ := len_one hv1
          clear hv1
          obtain ⟨v3, vs3, rfl, hv3⟩ := len_one hv2
          clear hv2
          obtain ⟨v4, vs4, rfl, hv4⟩ := len_one hv3
          clear hv3
          obtain ⟨v5, vs5, rfl, hv5⟩ := len_one hv4
          clear hv4
          obtain ⟨v6, vs6, rfl, hv6⟩ := len_one hv5
          clear hv5
          obtain ⟨v7, vs7, rfl, hv7⟩ := len_one hv6
          clear hv6
          obtain ⟨v8, vs8, rfl, hv8⟩ := len_one hv7
          clear hv7
          obtain ⟨v9, vs9, rfl, hv9⟩ := len_one hv8
          clear hv8
          obtain ⟨v10, vs10, rfl, hv10⟩ := len_one hv9
          clear hv9
          obtain ⟨v11, vs11, rfl, hv11⟩ := len_one hv10
          clear hv10
          obtain ⟨v12, vs12, rfl, hv12⟩ := len_one hv11
          clear hv11
          obtain ⟨v13, vs13, rfl, hv13⟩ := len_one hv12
          clear hv12
          obtain ⟨v14, vs14, rfl, hv14⟩ := len_one hv13
          clear hv13
          obtain ⟨v15, vs15, rfl, hv15⟩ := len_one hv14
          clear hv14
          obtain ⟨v16, vs16, rfl, hv16⟩ := len_one hv15
          clear hv15
          obtain ⟨v17, vs17, rfl, hv17⟩ := len_one hv16
          clear hv16
          obtain ⟨v18, vs18, rfl, hv18⟩ := len_one hv17
          clear hv17
          obtain ⟨v19, vs19, rfl, hv19⟩ := len_one hv18
          clear hv18
          obtain ⟨v20, vs20, rfl, hv20⟩ := len_one hv19
          clear hv19
          obtain ⟨v21, vs21, rfl, hv21⟩ := len_one hv20
          clear hv20
          obtain ⟨v22, vs22, rfl, hv22⟩ := len_one hv21
          clear hv21
          obtain ⟨v23, vs23, rfl, hv23⟩ := len_one hv22
          clear hv22
          obtain ⟨v24, vs24, rfl, hv24⟩ := len_one hv23
          clear hv23
          obtain ⟨v25, vs25, rfl, hv25⟩ := len_one hv24
          clear hv24
          obtain ⟨v26, vs26, rfl, hv26⟩ := len_one hv25
          clear hv25
          obtain ⟨v27, vs27, rfl, hv27⟩ := len_one hv26
          clear hv26
          obtain ⟨v28, vs28, rfl, hv28⟩ := len_one hv27
          clear hv27
          obtain ⟨v29, vs29, rfl, hv29⟩ := len_one hv28
          clear hv28
          obtain ⟨v30, vs30, rfl, hv30⟩ := len_one hv29
          clear hv29
          obtain ⟨v31, vs31, rfl, hv31⟩ := len_one hv30
          clear hv30
          obtain ⟨v32, vs32, rfl, hv32⟩ := len_one hv31
          clear hv31
          obtain ⟨v33, vs33, rfl, hv33⟩ := len_one hv32
          clear hv32
          obtain ⟨v34, vs34, rfl, hv34⟩ := len_one hv33
          clear hv33
          obtain ⟨v35, vs35, rfl, hv35⟩ := len_one hv34
          clear hv34
          obtain ⟨v36, vs36, rfl, hv36⟩ := len_one hv35
          clear hv35
          obtain ⟨v37, vs37, rfl, hv37⟩ := len_one hv36
          clear hv36
          obtain ⟨v38, vs38, rfl, hv38⟩ := len_one hv37
          clear hv37
          obtain ⟨v39, vs39, rfl, hv39⟩ := len_one hv38
          clear hv38
          obtain ⟨v40, vs40, rfl, hv40⟩ := len_one hv39
          clear hv39
          obtain ⟨v41, vs41, rfl, hv41⟩ := len_one hv40
          clear hv40
          obtain ⟨v42, vs42, rfl, hv42⟩ := len_one hv41
          clear hv41
          obtain ⟨v43, vs43, rfl, hv43⟩ := len_one hv42
          clear hv42
          obtain ⟨v44, vs44, rfl, hv44⟩ := len_one hv43
          clear hv43
          obtain ⟨v45, vs45, rfl, hv45⟩ := len_one hv44
          clear hv44
          obtain ⟨v46, vs46, rfl, hv46⟩ := len_one hv45
          clear hv45
          obtain ⟨v47, vs47, rfl, hv47⟩ := len_one hv46
          clear hv46
          obtain ⟨v48, vs48, rfl, hv48⟩ := len_one hv47
          clear hv47
          obtain ⟨v49, vs49, rfl, hv49⟩ := len_one hv48
          clear hv48
          obtain ⟨v50, vs50, rfl, hv50⟩ := len_one hv49
          clear hv49
          obtain ⟨v51, vs51, rfl, hv51⟩ := len_one hv50
          clear hv50
          obtain ⟨v52, vs52, rfl, hv52⟩ := len_one hv51
          clear hv51
          obtain ⟨v53, vs53, rfl, hv53⟩ := len_one hv52
          clear hv52
          obtain ⟨v54, vs54, rfl, hv54⟩ := len_one hv53
          clear hv53
          obtain ⟨v55, vs55, rfl, hv55⟩ := len_one hv54
          clear hv54
          obtain ⟨v56, vs56, rfl, hv56⟩ := len_one hv55
          clear hv55
          obtain ⟨v57, vs57, rfl, hv57⟩ := len_one hv56
          clear hv56
          obtain ⟨v58, vs58, rfl, hv58⟩ := len_one hv57
          clear hv57
          obtain ⟨v59, vs59, rfl, hv59⟩ := len_one hv58
          clear hv58
          obtain ⟨v60, vs60, rfl, hv60⟩ := len_one hv59
          clear hv59
          obtain ⟨v61, vs61, rfl, hv61⟩ := len_one hv60
          clear hv60
          obtain ⟨v62, vs62, rfl, hv62⟩ := len_one hv61
          clear hv61
          obtain ⟨v63, vs63, rfl, hv63⟩ := len_one hv62
          clear hv62
          obtain ⟨v64, vs64, rfl, hv64⟩ := len_one hv63
          clear hv63
          obtain ⟨v65, vs65, rfl, hv65⟩ := len_one hv64
          clear hv64
          obtain ⟨v66, vs66, rfl, hv66⟩ := len_one hv65
          clear hv65
          obtain ⟨v67, vs67, rfl, hv67⟩ := len_one hv66
          clear hv66
          obtain ⟨v68, vs68, rfl, hv68⟩ := len_one hv67
          clear hv67
          obtain ⟨v69, vs69, rfl, hv69⟩ := len_one hv68
          clear hv68
          obtain ⟨v70, vs70, rfl, hv70⟩ := len_one hv69
          clear hv69
          obtain ⟨v71, vs71, rfl, hv71⟩ := len_one hv70
          clear hv70
          obtain ⟨v72, vs72, rfl, hv72⟩ := len_one hv71
          clear hv71
          obtain ⟨v73, vs73, rfl, hv73⟩ := len_one hv72
          clear hv72
          obtain rfl := List.eq_nil_of_length_eq_zero hv73
          obtain rfl := Option.some.inj hb
          clear hb hv73
          simp only [List.take_succ_cons, List.drop_succ_cons, List.take_zero, List.drop_zero, List.cons_append, List.nil_append]
          go_upto_if 103 with fail
          go_cut [3] from 104 to 105 (fun s3 wc => ∃ p2n : Nat, s3 = .int .i64 p2n ∧ p2n ≤ p2 + 1 ∧ wc = wr)
          case first =>
            cases b9 with
            | true =>
              go_wp2_with fail
              go_meet
              exact ⟨p2 + 1, by go_num, by omega, rfl⟩
            | false =>
              go_wp2_with fail
              go_meet
              exact ⟨p2, rfl, by omega, rfl⟩
          case rest =>
            obtain ⟨p2n, rfl, hp2n, rfl⟩ := hcut
            go_upto_region 14 with fail
            refine wp_region_list ?_
            refine wpl_abs (fun a0 ha0 => ?_)
            have F0 : Fct a0 207 [(6, .int .i64 (n : Nat)), (4, .slice (some ⟨r, 0, none⟩) n n), (7, .int .i64 (y : Nat)), (8, .int .i64 (x : Nat))] := by
              subst ha0
              refine ⟨rfl, fun p hp => ?_⟩
              simp only [List.mem_cons, List.not_mem_nil, or_false] at hp
              rcases hp with rfl | rfl | rfl | rfl <;> rfl
            refine pS (e := 106) (sx := 7) (sn := 6) (x := y) (n := n) F0 (by simp) (by omega) (by simp) (by simp) (by omega) ?_
            intro a1 o1 F1
            refine pV0 (e := 110) (gi := 4) (R := r) (n := n) (c := n) (b := decide (y + 6 < n)) (x := x) (y := y) (F1.sub (by simp)) rfl (by omega) (by omega) (fun h => of_decide_eq_true h) hl hxn (fun i hi => HR.out i hi) (fun i j hi hj => ⟨_, HC.out j i hj hi⟩) ?_
            intro a2 b2 o2 F2 hb2
            refine pV (e := 120) (gi := 14) (k := 1) (R := r) (n := n) (x := x) (y := y) F2 rfl (by omega) (by omega) hb2 (by omega) hl hxn (fun i hi => HR.out i hi) (fun i j hi hj => ⟨_, HC.out j i hj hi⟩) ?_
            intro a3 b3 o3 F3 hb3
            refine pV (e := 131) (gi := 25) (k := 2) (R := r) (n := n) (x := x) (y := y) F3 rfl (by omega) (by omega) hb3 (by omega) hl hxn (fun i hi => HR.out i hi) (fun i j hi hj => ⟨_, HC.out j i hj hi⟩) ?_
            intro a4 b4 o4 F4 hb4
            refine pV (e := 142) (gi := 36) (k := 3) (R := r) (n := n) (x := x) (y := y) F4 rfl (by omega) (by omega) hb4 (by omega) hl hxn (fun i hi => HR.out i hi) (fun i j hi hj => ⟨_, HC.out j i hj hi⟩) ?_
            intro a5 b5 o5 F5 hb5
            refine pV (e := 153) (gi := 47) (k := 4) (R := r) (n := n) (x := x) (y := y) F5 rfl (by omega) (by omega) hb5 (by omega) hl hxn (fun i hi => HR.out i hi) (fun i j hi hj => ⟨_, HC.out j i hj hi⟩) ?_
            intro a6 b6 o6 F6 hb6
            refine pV (e := 164) (gi := 58) (k := 5) (R := r) (n := n) (x := x) (y := y) F6 rfl (by omega) (by omega) hb6 (by omega) hl hxn (fun i hi => HR.out i hi) (fun i j hi hj => ⟨_, HC.out j i hj hi⟩) ?_
            intro a7 b7 o7 F7 hb7
            refine pV (e := 175) (gi := 69) (k := 6) (R := r) (n := n) (x := x) (y := y) F7 rfl (by omega) (by omega) hb7 (by omega) hl hxn (fun i hi => HR.out i hi) (fun i j hi hj => ⟨_, HC.out j i hj hi⟩) ?_
            intro a8 b8 o8 F8 hb8
            refine pTV (e := 186) (gi := 80) (gj := 87) (R := r) (n := n) (x := x) (y := y) F8 rfl rfl (by omega) (by omega) (by omega) (by omega) (fun s t hs ht => HWV.out x hxn s t hs ht) ?_
            intro a9 b9 o9 F9
            refine wpl_end ?_
            have hov : OvA a0 a9 106 203 := (((((((((ov_wide o1 (by omega) (by omega)).trans (ov_wide o2 (by omega) (by omega))).trans (ov_wide o3 (by omega) (by omega))).trans (ov_wide o4 (by omega) (by omega))).trans (ov_wide o5 (by omega) (by omega))).trans (ov_wide o6 (by omega) (by omega))).trans (ov_wide o7 (by omega) (by omega))).trans (ov_wide o8 (by omega) (by omega))).trans (ov_wide o9 (by omega) (by omega)))
            have hb9 := F9.2 (202, .bool b9) (by simp)
            clear o1 o2 o3 o4 o5 o6 o7 o8 o9 F0 F1 F2 F3 F4 F5 F6 F7 F8 F9 hb2 hb3 hb4 hb5 hb6 hb7 hb8
            clear a1 a2 a3 a4 a5 a6 a7 a8 b2 b3 b4 b5 b6 b7 b8
            subst ha0
            obtain ⟨vs, hvl, hvk, rfl⟩ := ov_lit hov (by omega) (by simp)
            have hb := hvk 202 _ (by omega) (by omega) hb9
            clear hov hvk hb9
            obtain ⟨w0, ws0, rfl, hw0⟩ := len_one hvl
            clear hvl
            obtain ⟨w1, ws1, rfl, hw1⟩ := len_one hw0
            clear hw0
            obtain ⟨w2, ws2, rfl, hw2⟩ := len_one hw1
            clear hw1
            obtain ⟨w3, ws3, rfl, hw3⟩ := len_one hw2
            clear hw2
            obtain ⟨w4, ws4, rfl, hw4⟩ := len_one hw3
            clear hw3
            obtain ⟨w5, ws5, rfl, hw5⟩ := len_one hw4
            clear hw4
            obtain ⟨w6, ws6, rfl, hw6⟩ := len_one hw5
            clear hw5
            obtain ⟨w7, ws7, rfl, hw7⟩ := len_one hw6
            clear hw6
            obtain ⟨w8, ws8, rfl, hw8⟩ := len_one hw7
            clear hw7
            obtain ⟨w9, ws9, rfl, hw9⟩ := len_one hw8
            clear hw8
            obtain ⟨w10, ws10, rfl, hw10⟩ := len_one hw9
            clear hw9
            obtain ⟨w11, ws11, rfl, hw11⟩ := len_one hw10
            clear hw10
            obtain ⟨w12, ws12, rfl, hw12⟩ := len_one hw11
            clear hw11
            obtain ⟨w13, ws13, rfl, hw13⟩ := len_one hw12
            clear hw12
            obtain ⟨w14, ws14, rfl, hw14⟩ := len_one hw13
            clear hw13
            obtain ⟨w15, ws15, rfl, hw15⟩ := len_one hw14
            clear hw14
            obtain ⟨w16, ws16, rfl, hw16⟩ := len_one hw15
            clear hw15
            obtain ⟨w17, ws17, rfl, hw17⟩ := len_one hw16
            clear hw16
            obtain ⟨w18, ws18, rfl, hw18⟩ := len_one hw17
            clear hw17
            obtain ⟨w19, ws19, rfl, hw19⟩ := len_one hw18
            clear hw18
            obtain ⟨w20, ws20, rfl, hw20⟩ := len_one hw19
            clear hw19
            obtain ⟨w21, ws21, rfl, hw21⟩ := len_one hw20
            clear hw20
            obtain ⟨w22, ws22, rfl, hw22⟩ := len_one hw21
            clear hw21
            obtain ⟨w23, ws23, rfl, hw23⟩ := len_one hw22
            clear hw22
            obtain ⟨w24, ws24, rfl, hw24⟩ := len_one hw23
            clear hw23
            obtain ⟨w25, ws25, rfl, hw25⟩ := len_one hw24
            clear hw24
            obtain ⟨w26, ws26, rfl, hw26⟩ := len_one hw25
            clear hw25
            obtain ⟨w27, ws27, rfl, hw27⟩ := len_one hw26
            clear hw26
            obtain ⟨w28, ws28, rfl, hw28⟩ := len_one hw27
            clear hw27
            obtain ⟨w29, ws29, rfl, hw29⟩ := len_one hw28
            clear hw28
            obtain ⟨w30, ws30, rfl, hw30⟩ := len_one hw29
            clear hw29
            obtain ⟨w31, ws31, rfl, hw31⟩ := len_one hw30
            clear hw30
            obtain ⟨w32, ws32, rfl, hw32⟩ := len_one hw31
            clear hw31
            obtain ⟨w33, ws33, rfl, hw33⟩ := len_one hw32
            clear hw32
            obtain ⟨w34, ws34, rfl, hw34⟩ := len_one hw33
            clear hw33
            obtain ⟨w35, ws35, rfl, hw35⟩ := len_one hw34
            clear hw34
            obtain ⟨w36, ws36, rfl, hw36⟩ := len_one hw35
            clear hw35
            obtain ⟨w37, ws37, rfl, hw37⟩ := len_one hw36
            clear hw36
            obtain ⟨w38, ws38, rfl, hw38⟩ := len_one hw37
            clear hw37
            obtain ⟨w39, ws39, rfl, hw39⟩ := len_one hw38
            clear hw38
            obtain ⟨w40, ws40, rfl, hw40⟩ := len_one hw39
            clear hw39
            obtain ⟨w41, ws41, rfl, hw41⟩ := len_one hw40
            clear hw40
            obtain ⟨w42, ws42, rfl, hw42⟩ := len_one hw41
            clear hw41
            obtain ⟨w43, ws43, rfl, hw43⟩ := len_one hw42
            clear hw42
            obtain ⟨w44, ws44, rfl, hw44⟩ := len_one hw43
            clear hw43
            obtain ⟨w45, ws45, rfl, hw45⟩ := len_one hw44
            clear hw44
            obtain ⟨w46, ws46, rfl, hw46⟩ := len_one hw45
            clear hw45
            obtain ⟨w47, ws47, rfl, hw47⟩ := len_one hw46
            clear hw46
            obtain ⟨w48, ws48, rfl, hw48⟩ := len_one hw47
            clear hw47
            obtain ⟨w49, ws49, rfl, hw49⟩ := len_one hw48
            clear hw48
            obtain ⟨w50, ws50, rfl, hw50⟩ := len_one hw49
            clear hw49
            obtain ⟨w51, ws51, rfl, hw51⟩ := len_one hw50
            clear hw50
            obtain ⟨w52, ws52, rfl, hw52⟩ := len_one hw51
            clear hw51
            obtain ⟨w53, ws53, rfl, hw53⟩ := len_one hw52
            clear hw52
            obtain ⟨w54, ws54, rfl, hw54⟩ := len_one hw53
            clear hw53
            obtain ⟨w55, ws55, rfl, hw55⟩ := len_one hw54
            clear hw54
            obtain ⟨w56, ws56, rfl, hw56⟩ := len_one hw55
            clear hw55
            obtain ⟨w57, ws57, rfl, hw57⟩ := len_one hw56
            clear hw56
            obtain ⟨w58, ws58, rfl, hw58⟩ := len_one hw57
            clear hw57
            obtain ⟨w59, ws59, rfl, hw59⟩ := len_one hw58
            clear hw58
            obtain ⟨w60, ws60, rfl, hw60⟩ := len_one hw59
            clear hw59
            obtain ⟨w61, ws61, rfl, hw61⟩ := len_one hw60
            clear hw60
            obtain ⟨w62, ws62, rfl, hw62⟩ := len_one hw61
            clear hw61
            obtain ⟨w63, ws63, rfl, hw63⟩ := len_one hw62
            clear hw62
            obtain ⟨w64, ws64, rfl, hw64⟩ := len_one hw63
            clear hw63
            obtain ⟨w65, ws65, rfl, hw65⟩ := len_one hw64
            clear hw64
            obtain ⟨w66, ws66, rfl, hw66⟩ := len_one hw65
            clear hw65
            obtain ⟨w67, ws67, rfl, hw67⟩ := len_one hw66
            clear hw66
            obtain ⟨w68, ws68, rfl, hw68⟩ := len_one hw67
            clear hw67
            obtain ⟨w69, ws69, rfl, hw69⟩ := len_one hw68
            clear hw68
            obtain ⟨w70, ws70, rfl, hw70⟩ := len_one hw69
            clear hw69
            obtain ⟨w71, ws71, rfl, hw71⟩ := len_one hw70
            clear hw70
            obtain ⟨w72, ws72, rfl, hw72⟩ := len_one hw71
            clear hw71
            obtain ⟨w73, ws73, rfl, hw73⟩ := len_one hw72
            clear hw72
            obtain ⟨w74, ws74, rfl, hw74⟩ := len_one hw73
            clear hw73
            obtain ⟨w75, ws75, rfl, hw75⟩ := len_one hw74
            clear hw74
            obtain ⟨w76, ws76, rfl, hw76⟩ := len_one hw75
            clear hw75
            obtain ⟨w77, ws77, rfl, hw77⟩ := len_one hw76
            clear hw76
            obtain ⟨w78, ws78, rfl, hw78⟩ := len_one hw77
            clear hw77
            obtain ⟨w79, ws79, rfl, hw79⟩ := len_one hw78
            clear hw78
            obtain ⟨w80, ws80, rfl, hw80⟩ := len_one hw79
            clear hw79
            obtain ⟨w81, ws81, rfl, hw81⟩ := len_one hw80
            clear hw80
            obtain ⟨w82, ws82, rfl, hw82⟩ := len_one hw81
            clear hw81
            obtain ⟨w83, ws83, rfl, hw83⟩ := len_one hw82
            clear hw82
            obtain ⟨w84, ws84, rfl, hw84⟩ := len_one hw83
            clear hw83
            obtain ⟨w85, ws85, rfl, hw85⟩ := len_one hw84
            clear hw84
            obtain ⟨w86, ws86, rfl, hw86⟩ := len_one hw85
            clear hw85
            obtain ⟨w87, ws87, rfl, hw87⟩ := len_one hw86
            clear hw86
            obtain ⟨w88, ws88, rfl, hw88⟩ := len_one hw87
            clear hw87
            obtain ⟨w89, ws89, rfl, hw89⟩ := len_one hw88
            clear hw88
            obtain ⟨w90, ws90, rfl, hw90⟩ := len_one hw89
            clear hw89
            obtain ⟨w91, ws91, rfl, hw91⟩ := len_one hw90
            clear hw90
            obtain ⟨w92, ws92, rfl, hw92⟩ := len_one hw91
            clear hw91
            obtain ⟨w93, ws93, rfl, hw93⟩ := len_one hw92
            clear hw92
            obtain ⟨w94, ws94, rfl, hw94⟩ := len_one hw93
            clear hw93
            obtain ⟨w95, ws95, rfl, hw95⟩ := len_one hw94
            clear hw94
            obtain ⟨w96, ws96, rfl, hw96⟩ := len_one hw95
            clear hw95
            obtain rfl := List.eq_nil_of_length_eq_zero hw96
            obtain rfl := Option.some.inj hb
            clear hb hw96
            simp only [List.take_succ_cons, List.drop_succ_cons, List.take_zero, List.drop_zero, List.cons_append, List.nil_append]
            cases b9 with
            | true =>
              go_wp2_with fail
              go_roundg c
              case measure => omega
              case rel => exact ⟨x + 1, p2n + 1, by have := HX.out; omega, by go_num, by go_num, by have := HP.out; omega, rfl⟩
            | false =>
              go_wp2_with fail
              go_roundg c
              case measure => omega
              case rel => exact ⟨x + 1, p2n, by have := HX.out; omega, by go_num, rfl, by have := HP.out; omega, rfl⟩
end Go.Proofs.YtcekbhhpcmhicaaGreatDoor
