/- Straight code run by reckoning: 'stepK' carries out one step of a walk; a function without loops whose frame is great (a table, a switch of many cases) is walked by the kernel's own reckoning. -/
import Derived.WalkKit
import Derived.KernelRfl
set_option linter.unusedSimpArgs false
set_option linter.unusedVariables false
namespace Go.Proofs.YtcekbhhpcmhicaaGreatDoor
open Go
/-- what is still to do -/
inductive K where
  | ops (all : Array Oper) (rest : List Oper)
  | code (c : Code)
  | blk (id : Nat)
section
variable (P : Program)
def contQ : List K → (Exit → Act → World → Prop) → Exit → Act → World → Prop
  | [], Q => Q
  | .code c :: k, Q => Exit.then (fun a w => c.wp P (contQ k Q) a w) (contQ k Q)
  | .ops all rest :: k, Q => Exit.then (fun a w => wpList P all (contQ k Q) rest a w) (contQ k Q)
  | .blk id :: k, Q => Exit.inBlock id (contQ k Q)
def popTo (id : Nat) : List K → Option (List K)
  | [] => none
  | .blk j :: k => if id = j then some k else popTo id k
  | _ :: k => popTo id k
theorem popTo_sound {id : Nat} {Q : Exit → Act → World → Prop} {a : Act} {w : World} : ∀ {k k' : List K}, popTo id k = some k' → contQ P k' Q .normal a w → contQ P k Q (.exit id) a w
  | [], _, h, _ => by cases h
  | .blk j :: k, k', h, hq => by
    simp only [popTo] at h
    by_cases e : id = j
    · rw [if_pos e] at h; cases h; simp only [contQ, Exit.inBlock, e, if_true]; exact hq
    · rw [if_neg e] at h; simp only [contQ, Exit.inBlock, if_neg e]; exact popTo_sound h hq
  | .code c :: k, k', h, hq => by simp only [contQ, Exit.then]; exact popTo_sound (k := k) h hq
  | .ops _ _ :: k, k', h, hq => by simp only [contQ, Exit.then]; exact popTo_sound (k := k) h hq
abbrev Cfg := List K × Act × World
def stepK : Cfg → Option Cfg
  | (.code (.seq x y) :: k, a, w) => some (.code x :: .code y :: k, a, w)
  | (.code (.block id c) :: k, a, w) => some (.code c :: .blk id :: k, a, w)
  | (.code .skip :: k, a, w) => some (k, a, w)
  | (.code (.cond x t e) :: k, a, w) => match a.eval x with
    | .bool true => some (.code t :: k, a, w)
    | .bool false => some (.code e :: k, a, w)
    | _ => none
  | (.code (.region _ ops false) :: k, a, w) => some (.ops ops ops.toList :: k, a, w)
  | (.code (.exit id) :: k, a, w) => match popTo id k with
    | some k' => some (k', a, w)
    | none => none
  | (.ops _ [] :: k, a, w) => some (k, a, w)
  | (.ops all (o :: rest) :: k, a, w) => match Region.wanted o (yielded all a.tmps) with
    | true => match (execOp a.eval o).run P w with
      | .ok (.value v) w' => some (.ops all rest :: k, a.put o.dst v, w')
      | .ok .skip w' => some (.ops all rest :: k, a.put o.dst undef, w')
      | _ => none
    | false => some (.ops all rest :: k, a.put o.dst undef, w)
  | (.blk _ :: k, a, w) => some (k, a, w)
  | _ => none
def J (c : Cfg) (Q : Exit → Act → World → Prop) : Prop := contQ P c.1 Q .normal c.2.1 c.2.2
theorem stepK_sound {c c' : Cfg} {Q : Exit → Act → World → Prop} (h : stepK P c = some c') (hj : J P c' Q) : J P c Q := by
  unfold stepK at h
  split at h
  · cases h; exact wp_seq hj
  · cases h; exact wp_block hj
  · cases h; exact wp_skip hj
  · rename_i x t e k a w
    split at h
    · rename_i hb; cases h; exact wp_cond_true hb hj
    · rename_i hb; cases h; exact wp_cond_false hb hj
    · cases h
  · cases h; exact wp_region_list hj
  · split at h
    · rename_i hp; cases h; exact wp_exit (popTo_sound P hp hj)
    · cases h
  · rename_i all k a w; cases h; exact wpList_nil (P := P) (ops := all) hj
  · rename_i all o rest k a w
    split at h
    · rename_i hw
      have key : ∀ {v : Value} {w' : World}, (execOp a.eval o).run P w = .ok (.value v) w' → J P (.ops all rest :: k, a.put o.dst v, w') Q → J P (.ops all (o :: rest) :: k, a, w) Q := by
        intro v w' hr hj
        show wpList P all (contQ P k Q) (o :: rest) a w
        refine wpList_step fun K hK => ?_
        rw [if_pos hw]
        unfold Oper.wp
        rw [hr]
        exact hK _ _ hj
      split at h
      · rename_i v w' hr; cases h; exact key hr hj
      · rename_i w' hr
        cases h
        show wpList P all (contQ P k Q) (o :: rest) a w
        refine wpList_step fun K hK => ?_
        rw [if_pos hw]
        unfold Oper.wp
        rw [hr]
        exact hK _ _ hj
      · cases h
    · rename_i hw
      cases h
      show wpList P all (contQ P k Q) (o :: rest) a w
      refine wpList_step fun K hK => ?_
      rw [if_neg (by rw [hw]; exact Bool.false_ne_true)]
      exact hK _ _ hj
  · cases h; exact hj
  · cases h
def runK : Nat → Cfg → Cfg
  | 0, c => c
  | n + 1, c => match stepK P c with
    | some c' => runK n c'
    | none => c
theorem runK_sound (Q : Exit → Act → World → Prop) : ∀ (n : Nat) (c : Cfg), J P (runK P n c) Q → J P c Q
  | 0, _, h => h
  | n + 1, c, h => by
    unfold runK at h
    split at h
    · rename_i c' hs; exact stepK_sound P hs (runK_sound Q n c' h)
    · exact h
def handed (fn : Func) (tmps : Array Value) : Option Value := match fn.results with
  | ⟨[]⟩ => some (.tuple #[])
  | ⟨[.tmp t]⟩ => some (tmps.getD t undef)
  | ⟨[.tmp t, .tmp u]⟩ => some (.tuple #[tmps.getD t undef, tmps.getD u undef])
  | _ => none
theorem handed_sound {fn : Func} {tmps : Array Value} {v : Value} (h : handed fn tmps = some v) (w : World) : (results fn tmps).run P w = .ok v w := by
  unfold handed at h
  split at h
  · rename_i hr; cases h; exact results_none hr _ _ _
  · rename_i t hr; cases h; exact results_tmp hr _ _ _
  · rename_i t u hr; cases h; exact results_tmp2 hr _ _ _
  · cases h
def finishAt (fn : Func) : Cfg → Option (Value × World)
  | (.code .ret :: _, ⟨tmps, []⟩, w) => (handed fn tmps).map (·, w)
  | ([], ⟨tmps, []⟩, w) => (handed fn tmps).map (·, w)
  | _ => none
theorem exit_ret {Q : Exit → Act → World → Prop} {a : Act} {w : World} : ∀ {k : List K}, Q .ret a w → contQ P k Q .ret a w
  | [], h => h
  | .code _ :: k, h => exit_ret (k := k) h
  | .ops _ _ :: k, h => exit_ret (k := k) h
  | .blk _ :: k, h => exit_ret (k := k) h
theorem finishAt_sound {fn : Func} {c : Cfg} {v : Value} {W : World} {R : Ending → World → Prop} (h : finishAt fn c = some (v, W)) (hR : R (.returned v) W) : J P c (bodyPost P fn R) := by
  unfold finishAt at h
  split at h
  · rename_i k tmps w
    cases hh : handed fn tmps with
    | none => rw [hh] at h; cases h
    | some u =>
      rw [hh] at h; cases h
      exact wp_ret (exit_ret P ⟨rfl, _, handed_sound P hh _, hR⟩)
  · rename_i tmps w
    cases hh : handed fn tmps with
    | none => rw [hh] at h; cases h
    | some u =>
      rw [hh] at h; cases h
      exact ⟨rfl, _, handed_sound P hh _, hR⟩
  · cases h
def callAt : Cfg → Option (FuncId × Array Value × World)
  | (.ops all (o :: _) :: _, a, w) => match Region.wanted o (yielded all a.tmps) with
    | true => match (execOp a.eval o).run P w with
      | .ok (.enter f args) w' => some (f, args, w')
      | _ => none
    | false => none
  | _ => none
def afterCall (v : Value) (w' : World) : Cfg → Cfg
  | (.ops all (o :: rest) :: k, a, _) => (.ops all rest :: k, a.put o.dst v, w')
  | c => c
theorem callAt_sound {c : Cfg} {f : FuncId} {args : Array Value} {W : World} {Q : Exit → Act → World → Prop} (h : callAt P c = some (f, args, W))
    (hc : Calls P f args W fun e w' => ∃ v, e = .returned v ∧ J P (afterCall v w' c) Q) : J P c Q := by
  unfold callAt at h
  split at h
  · rename_i all o rest k a w
    split at h
    · rename_i hw
      split at h
      · rename_i f' args' w' hr
        cases h
        show wpList P all (contQ P k Q) (o :: rest) a w
        refine wpList_step fun K hK => ?_
        rw [if_pos hw]
        unfold Oper.wp
        rw [hr]
        refine hc.mono ?_
        rintro e w'' ⟨v, rfl, hj⟩
        exact hK _ _ hj
      · cases h
    · cases h
  · cases h
end
/-! ### The same with the slots that were written kept in a list of their own: so a great frame costs no more -/
abbrev Ov := List (Nat × Value)
def ovGet (base : List Value) : Ov → Nat → Value
  | [], t => base.getD t undef
  | (i, v) :: r, t => match Nat.beq i t with
    | true => v
    | false => ovGet base r t
def ovTmps (base : List Value) : Ov → Array Value
  | [] => ⟨base⟩
  | (i, v) :: r => (ovTmps base r).setIfInBounds i v
theorem ovTmps_size (base : List Value) : ∀ ov : Ov, (ovTmps base ov).size = base.length
  | [] => rfl
  | (i, v) :: r => by simp [ovTmps, ovTmps_size base r]
def ovOk (n : Nat) : Ov → Prop
  | [] => True
  | (i, _) :: r => i < n ∧ ovOk n r
theorem ovGet_eq (base : List Value) : ∀ (ov : Ov) (t : Nat), ovOk base.length ov → (ovTmps base ov).getD t undef = ovGet base ov t
  | [], t, _ => by simp [ovTmps, ovGet, Array.getD_eq_getD_getElem?]
  | (i, v) :: r, t, h => by
    have ih := ovGet_eq base r t h.2
    have hs := ovTmps_size base r
    simp only [ovTmps, ovGet]
    rw [Array.getD_eq_getD_getElem?, Array.getElem?_setIfInBounds]
    by_cases e : i = t
    · subst e
      have hi : i < (ovTmps base r).size := by rw [hs]; exact h.1
      simp [hi, Nat.beq_refl]
    · rw [if_neg e]
      have hb : Nat.beq i t = false := by
        cases hb : Nat.beq i t
        · rfl
        · exact absurd (Nat.eq_of_beq_eq_true hb) e
      rw [hb, ← Array.getD_eq_getD_getElem?]
      exact ih
def ovEval (base : List Value) (ov : Ov) : Operand → Value
  | .tmp t => ovGet base ov t
  | .const v => v
  | .global g => .pointer (some ⟨g, 0, none⟩)
  | .func f => .func (.func f) #[] #[]
def ovAct (base : List Value) (ov : Ov) : Act := { tmps := ovTmps base ov, defers := [] }
theorem ovEval_eq (base : List Value) (ov : Ov) (h : ovOk base.length ov) : (ovAct base ov).eval = ovEval base ov := by
  funext x
  cases x with
  | tmp t => exact ovGet_eq base ov t h
  | const v => rfl
  | global g => rfl
  | func f => rfl
def ovPut (n : Nat) (dst : Option Tmp) (v : Value) (ov : Ov) : Option Ov := match dst with
  | none => some ov
  | some t => match Nat.blt t n with
    | true => some ((t, v) :: ov)
    | false => none
theorem ovPut_eq {base : List Value} {dst : Option Tmp} {v : Value} {ov ov' : Ov} (h : ovPut base.length dst v ov = some ov') (hok : ovOk base.length ov) :
    (ovAct base ov).put dst v = ovAct base ov' ∧ ovOk base.length ov' := by
  unfold ovPut at h
  split at h
  · cases h; exact ⟨rfl, hok⟩
  · split at h
    · rename_i t hb
      cases h
      exact ⟨rfl, Nat.lt_of_succ_le (by simpa [Nat.blt] using hb), hok⟩
    · cases h
abbrev OCfg := List K × Ov × World
def stepO (P : Program) (base : List Value) (n : Nat) : OCfg → Option OCfg
  | (.code (.seq x y) :: k, a, w) => some (.code x :: .code y :: k, a, w)
  | (.code (.block id c) :: k, a, w) => some (.code c :: .blk id :: k, a, w)
  | (.code .skip :: k, a, w) => some (k, a, w)
  | (.code (.cond x t e) :: k, a, w) => match ovEval base a x with
    | .bool true => some (.code t :: k, a, w)
    | .bool false => some (.code e :: k, a, w)
    | _ => none
  | (.code (.region _ ops false) :: k, a, w) => some (.ops ops ops.toList :: k, a, w)
  | (.code (.exit id) :: k, a, w) => match popTo id k with
    | some k' => some (k', a, w)
    | none => none
  | (.ops _ [] :: k, a, w) => some (k, a, w)
  | (.ops all (⟨dst, op, ty, pos, after, none⟩ :: rest) :: k, a, w) => match (execOp (ovEval base a) ⟨dst, op, ty, pos, after, none⟩).run P w with
      | .ok (.value v) w' => match ovPut n dst v a with
        | some a' => some (.ops all rest :: k, a', w')
        | none => none
      | _ => none
  | (.blk _ :: k, a, w) => some (k, a, w)
  | _ => none
def toCfg (base : List Value) (c : OCfg) : Cfg := (c.1, ovAct base c.2.1, c.2.2)
theorem stepO_eq {P : Program} {base : List Value} {c c' : OCfg} (h : stepO P base base.length c = some c') (hok : ovOk base.length c.2.1) :
    stepK P (toCfg base c) = some (toCfg base c') ∧ ovOk base.length c'.2.1 := by
  unfold stepO at h
  split at h
  · cases h; exact ⟨rfl, hok⟩
  · cases h; exact ⟨rfl, hok⟩
  · cases h; exact ⟨rfl, hok⟩
  · have he := ovEval_eq base _ hok
    simp only at he
    split at h
    · rename_i hb; cases h; refine ⟨?_, hok⟩; simp only [toCfg, stepK]; rw [he, hb]
    · rename_i hb; cases h; refine ⟨?_, hok⟩; simp only [toCfg, stepK]; rw [he, hb]
    · cases h
  · cases h; exact ⟨rfl, hok⟩
  · split at h
    · rename_i hp; cases h; refine ⟨?_, hok⟩; simp only [toCfg, stepK]; rw [hp]
    · cases h
  · cases h; exact ⟨rfl, hok⟩
  · have he := ovEval_eq base _ hok
    simp only at he
    split at h
    · rename_i hr
      split at h
      · rename_i hp
        cases h
        obtain ⟨h1, h2⟩ := ovPut_eq hp hok
        refine ⟨?_, h2⟩
        simp only [toCfg, stepK, Region.wanted]
        rw [he, hr]
        simp only [h1]
      · cases h
    · cases h
  · cases h; exact ⟨rfl, hok⟩
  · cases h
def runO (P : Program) (base : List Value) (n : Nat) : Nat → OCfg → OCfg
  | 0, c => c
  | m + 1, c => match stepO P base n c with
    | some c' => runO P base n m c'
    | none => c
theorem runO_eq {P : Program} {base : List Value} : ∀ (m : Nat) (c : OCfg), ovOk base.length c.2.1 → (∃ k, runK P k (toCfg base c) = toCfg base (runO P base base.length m c)) ∧ ovOk base.length (runO P base base.length m c).2.1
  | 0, c, h => ⟨⟨0, rfl⟩, h⟩
  | m + 1, c, h => by
    unfold runO
    cases hs : stepO P base base.length c with
    | none => exact ⟨⟨0, rfl⟩, h⟩
    | some c' =>
      obtain ⟨h1, h2⟩ := stepO_eq hs h
      obtain ⟨⟨k, hk⟩, h3⟩ := runO_eq m c' h2
      refine ⟨⟨k + 1, ?_⟩, h3⟩
      simp only [runK, h1]
      exact hk
def ovBase (fn : Func) (args : List Value) : List Value := args ++ List.replicate (fn.ntmps - args.length) undef
def ovHanded (base : List Value) (fn : Func) (ov : Ov) : Option Value := match fn.results with
  | ⟨[]⟩ => some (.tuple #[])
  | ⟨[.tmp t]⟩ => some (ovGet base ov t)
  | ⟨[.tmp t, .tmp u]⟩ => some (.tuple #[ovGet base ov t, ovGet base ov u])
  | _ => none
theorem ovHanded_eq {base : List Value} {fn : Func} {ov : Ov} (hok : ovOk base.length ov) : handed fn (ovTmps base ov) = ovHanded base fn ov := by
  unfold handed ovHanded
  split
  · rfl
  · rw [ovGet_eq base ov _ hok]
  · rw [ovGet_eq base ov _ hok, ovGet_eq base ov _ hok]
  · rfl
def ovFinish (base : List Value) (fn : Func) : OCfg → Option (Value × World)
  | (.code .ret :: _, ov, w) => (ovHanded base fn ov).map (·, w)
  | ([], ov, w) => (ovHanded base fn ov).map (·, w)
  | _ => none
theorem ovFinish_eq {base : List Value} {fn : Func} {c : OCfg} {r : Value × World} (h : ovFinish base fn c = some r) (hok : ovOk base.length c.2.1) : finishAt fn (toCfg base c) = some r := by
  unfold ovFinish at h
  split at h
  · rw [← ovHanded_eq hok] at h; exact h
  · rw [← ovHanded_eq hok] at h; exact h
  · cases h
def ovCall (P : Program) (base : List Value) : OCfg → Option (FuncId × Array Value × World)
  | (.ops _ (⟨dst, op, ty, pos, after, none⟩ :: _) :: _, a, w) => match (execOp (ovEval base a) ⟨dst, op, ty, pos, after, none⟩).run P w with
      | .ok (.enter f args) w' => some (f, args, w')
      | _ => none
  | _ => none
theorem ovCall_eq {P : Program} {base : List Value} {c : OCfg} {r : FuncId × Array Value × World} (h : ovCall P base c = some r) (hok : ovOk base.length c.2.1) : callAt P (toCfg base c) = some r := by
  unfold ovCall at h
  split at h
  · have he := ovEval_eq base _ hok
    simp only at he
    split at h
    · rename_i hr
      cases h
      simp only [toCfg, callAt, Region.wanted]
      rw [he, hr]
    · cases h
  · cases h
def ovAfter (n : Nat) (v : Value) (w' : World) : OCfg → Option OCfg
  | (.ops all (o :: rest) :: k, a, _) => match ovPut n o.dst v a with
    | some a' => some (.ops all rest :: k, a', w')
    | none => none
  | _ => none
theorem ovAfter_eq {base : List Value} {v : Value} {w' : World} {c c' : OCfg} (h : ovAfter base.length v w' c = some c') (hok : ovOk base.length c.2.1) :
    afterCall v w' (toCfg base c) = toCfg base c' ∧ ovOk base.length c'.2.1 := by
  unfold ovAfter at h
  split at h
  · split at h
    · rename_i hp
      cases h
      obtain ⟨h1, h2⟩ := ovPut_eq hp hok
      exact ⟨by simp only [toCfg, afterCall, h1], h2⟩
    · cases h
  · cases h

variable {P : Program} {f : FuncId} {fn : Func} {args : List Value} {w : World} {R : Ending → World → Prop}
theorem calls_of_J (hf : P.funcs[f]? = some fn) (hb : fn.body.isSome = true) (h : J P (toCfg (ovBase fn args) ([.code (fn.body.getD .skip)], [], w)) (bodyPost P fn R)) : Calls P f args.toArray w R := by
  cases hc : fn.body with
  | none => rw [hc] at hb; cases hb
  | some c =>
    refine calls_of_wp hf hc ?_
    have e : args.toArray ++ Array.replicate (fn.ntmps - args.toArray.size) undef = ⟨ovBase fn args⟩ := by
      apply Array.ext'; simp [ovBase]
    rw [e]
    unfold toCfg at h
    rw [hc] at h
    exact h
def startO (fn : Func) (w : World) : OCfg := ([.code (fn.body.getD .skip)], [], w)
/-- A function that is straight code and calls nothing. -/
theorem calls_by_run (hf : P.funcs[f]? = some fn) (hb : fn.body.isSome = true) (n : Nat) (hn : (ovBase fn args).length = n) (N : Nat) (v : Value) (W : World)
    (h : ovFinish (ovBase fn args) fn (runO P (ovBase fn args) n N (startO fn w)) = some (v, W)) (hR : R (.returned v) W) : Calls P f args.toArray w R := by
  subst hn
  obtain ⟨⟨k, hk⟩, hok⟩ := runO_eq (P := P) N (base := ovBase fn args) (startO fn w) trivial
  refine calls_of_J hf hb (runK_sound P _ k _ ?_)
  have hk' : runK P k (toCfg (ovBase fn args) ([.code (fn.body.getD .skip)], [], w)) = _ := hk
  rw [hk']
  exact finishAt_sound P (ovFinish_eq h hok) hR
/-- A function that is straight code and ends in one call whose result it hands back. -/
theorem calls_by_tail (hf : P.funcs[f]? = some fn) (hb : fn.body.isSome = true) (n : Nat) (hn : (ovBase fn args).length = n) (N M : Nat) (f' : FuncId) (args' : Array Value) (W : World)
    (h : ovCall P (ovBase fn args) (runO P (ovBase fn args) n N (startO fn w)) = some (f', args', W))
    (h2 : ∀ v w'', ((ovAfter n v w'' (runO P (ovBase fn args) n N (startO fn w))).bind fun c => ovFinish (ovBase fn args) fn (runO P (ovBase fn args) n M c)) = some (v, w''))
    (hc : Calls P f' args' W fun e w' => ∃ v, e = .returned v ∧ R (.returned v) w') : Calls P f args.toArray w R := by
  subst hn
  obtain ⟨⟨k, hk⟩, hok⟩ := runO_eq (P := P) N (base := ovBase fn args) (startO fn w) trivial
  refine calls_of_J hf hb (runK_sound P _ k _ ?_)
  have hk' : runK P k (toCfg (ovBase fn args) ([.code (fn.body.getD .skip)], [], w)) = _ := hk
  rw [hk']
  refine callAt_sound P (ovCall_eq h hok) (hc.mono ?_)
  rintro e w' ⟨v, rfl, hr⟩
  refine ⟨v, rfl, ?_⟩
  have h3 := h2 v w'
  cases ha : ovAfter (ovBase fn args).length v w' (runO P (ovBase fn args) (ovBase fn args).length N (startO fn w)) with
  | none => rw [ha] at h3; cases h3
  | some c =>
    rw [ha] at h3
    obtain ⟨h4, hok2⟩ := ovAfter_eq ha hok
    rw [h4]
    obtain ⟨⟨k2, hk2⟩, hok3⟩ := runO_eq (P := P) M (base := ovBase fn args) c hok2
    refine runK_sound P _ k2 _ ?_
    rw [hk2]
    exact finishAt_sound P (ovFinish_eq h3 hok3) hr
end Go.Proofs.YtcekbhhpcmhicaaGreatDoor
