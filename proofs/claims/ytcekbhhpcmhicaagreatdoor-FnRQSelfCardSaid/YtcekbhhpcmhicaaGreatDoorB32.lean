/- FnRQSelf: for every input the law returns true. The row.
Conditions: none beyond the given statement's own (the listed package-level variables are tied to the program's text by the given tie). -/
import Derived.Test.YtcekbhhpcmhicaaGreatDoorB29
import Derived.Test.YtcekbhhpcmhicaaGreatDoorB31
set_option linter.unusedSimpArgs false
set_option linter.unusedVariables false
namespace Go.Proofs.YtcekbhhpcmhicaaGreatDoor
open Go Go.RowKit Go.WideShapes Go.ChangeShapes Go.ChangeAt
open Go.ChangeMaps (open_string shut_string)
theorem door_met4 (os : Os) (args : Array Value) : laidMetH Tryz.prog Rows.fnRQSelfRow.laid ((World.doorLaid Tryz.prog 400 os).forCall (fun _ _ => 0) ⟨#[], args, []⟩).memory :=
  laidMetH_of_parts3 (fuel := 8) (laidMet_of_run' 8 (by kernel_rfl) (by kernel_rfl)) (by kernel_rfl) (by kernel_rfl)
set_option maxRecDepth 100000 in
theorem lifted4 (os : Os) (started : os.Started) (H : Type) (enc : TypeId × Value → H) :
    ReturnsInHanded {} Tryz.checked os 4 .any (fun w args => (Rows.fnRQSelfSpec.pre enc Tryz.prog Tryz.f4 [] false w args ∧ laidMetH Tryz.prog Rows.fnRQSelfRow.laid w) ∧ sizedMet enc Tryz.prog Tryz.f4 (OpenSpec.ofChange Rows.fnRQSelfSpec) false w args)
      (Rows.fnRQSelfSpec.post enc Tryz.prog Tryz.f4 false true false false) := by
  refine returnsInHanded_of_change_and (C := Tryz.checked) (X := fun w _ => laidMetH Tryz.prog Rows.fnRQSelfRow.laid w) (fun _ _ _ hh h => h.of_heap hh) own started (by kernel_rfl) Tryz.func4
    (ChangeSpec.witness_shaped (enc := enc) (C := Tryz.checked) (os := os) (X := fun w _ => laidMetH Tryz.prog Rows.fnRQSelfRow.laid w) false (World.doorLaid Tryz.prog 400 os) #[.string ByteArray.empty, .int .u8 0, .int .u8 0, .agg #[.int .u8 0, .int .u8 0, .int .u8 0, .int .u8 0, .int .u8 0, .int .u8 0, .int .u8 0, .bool false]] 8 rfl (World.shaped_of_RefB (by kernel_rfl) (by kernel_rfl)) (by kernel_rfl) (by kernel_rfl) (by kernel_rfl) (door_met4 os _)) ?_
  intro W base args ds gs before hval0 hW _ _ hL _
  have hval : ∀ (j : Nat) t v, Tryz.f4.params[j]? = some t → args[j]? = some v → Value.okWide Tryz.prog W .any base t v := hval0
  have hW' := hW
  obtain ⟨p, q, hA0, hV, rfl, hfz, hnd⟩ := hW
  have hA : DataW.TrodAll enc Tryz.prog W 0 (fun _ => true) true Tryz.f4.params.toList args.toList ds p := hA0
  rw [Tryz.params4] at hA hval
  obtain ⟨v0, vs0, d0, ds0, p0, q0, hargs, rfl, rfl, h0, r0⟩ := trodAll_cons hA
  obtain ⟨v1, vs1, d1, ds1, p1, q1, rfl, rfl, rfl, h1, r1⟩ := trodAll_cons r0
  obtain ⟨v2, vs2, d2, ds2, p2, q2, rfl, rfl, rfl, h2, r2⟩ := trodAll_cons r1
  obtain ⟨v3, vs3, d3, ds3, p3, q3, rfl, rfl, rfl, h3, r3⟩ := trodAll_cons r2
  obtain ⟨rfl, rfl, rfl⟩ := trodAll_nil r3
  obtain rfl : args = #[v0, v1, v2, v3] := by cases args; simp_all
  obtain ⟨rfl, rfl⟩ := trodVars_none hV
  obtain ⟨a0, rfl, rfl, rfl, w0⟩ := open_string Tryz.underlying9 (hval 0 9 v0 rfl rfl) h0
  obtain ⟨a1, rfl, rfl, rfl, w1⟩ := open_int Tryz.underlying5 (hval 1 5 v1 rfl rfl) h1
  obtain ⟨a2, rfl, rfl, rfl, w2⟩ := open_int Tryz.underlying5 (hval 2 5 v2 rfl rfl) h2
  obtain ⟨vw, rfl, hok, rfl, rfl⟩ := view_open (hval 3 40 v3 rfl rfl) h3
  clear hA0 hval0
  simp only [List.append_nil] at hW'
  obtain ⟨n1, rfl, hn1⟩ := u8_nat w1
  obtain ⟨n2, rfl, hn2⟩ := u8_nat w2
  refine (rqSelf_calls a0 w0 n1 n2 hn1 hn2 vw hok W).mono fun e W' ⟨he, hf⟩ => ?_
  subst he
  exact ⟨_, rfl, post_of_below (pa := []) (pv := []) hW' (fun _ _ _ => (trodAll_cons_mk (shut_bool Tryz.underlying4 _) trodAll_mk0)) (fun sp _ => (trodAll_cons_mk (shut_string Tryz.underlying9 w0) (trodAll_cons_mk (shut_int Tryz.underlying5 w1) (trodAll_cons_mk (shut_int Tryz.underlying5 w2) (trodAll_cons_mk (view_shut vw hok _ _ _ _) trodAll_mk0))))) (fun _ _ => rfl) rfl
    hf.nil_below (ok_one (by kernel_rfl) rfl (okWide_bool_mk Tryz.underlying4 _))⟩
theorem fnRQSelf_named : Tryz.prog.funcNamed "given.example/pub-quietzone/laws.FnRQSelf" = some 4 := by kernel_rfl
set_option maxHeartbeats 4000000 in
theorem fnRQSelf_closed : joinedFacts Tryz.prog 4 Tryz.f4 Rows.fnRQSelfSpec Rows.fnRQSelfRow = true := by
  unfold joinedFacts
  with_reducible repeat' (refine Bool.and_eq_true_iff.2 ⟨?_, ?_⟩)
  all_goals as_aux_lemma => kernel_rfl
theorem fnRQSelf_inst : Tryz.f4.isInstance Tryz.prog Rows.fnRQSelfRow.origin Rows.fnRQSelfRow.targs := of_decide_eq_true (by kernel_rfl)
theorem fnRQSelf_wrap : Tryz.f4.isWrapper Tryz.prog Rows.fnRQSelfRow.wrapper Rows.fnRQSelfRow.mainSum := by
  unfold Func.isWrapper; rw [if_neg (by decide +kernel)]; exact ⟨rfl, rfl⟩
theorem fnRQSelf_holds : Rows.FnRQSelfSaid :=
  OpenClaim.holds_of_wide 4 Tryz.f4 rfl rfl rfl rfl rfl rfl rfl ⟨rfl, rfl, rfl, rfl, rfl⟩ rfl rfl rfl rfl rfl fnRQSelf_named Tryz.func4 fnRQSelf_closed fnRQSelf_inst fnRQSelf_wrap
    (fun os started H enc _ => lifted4 os started H enc)
end Go.Proofs.YtcekbhhpcmhicaaGreatDoor
/- FnRQSelf: for every input the law returns true: the tied card.
Conditions: none beyond the given statement's own (the listed package-level variables are tied to the program's text by the given tie). -/
namespace Go.Proofs.YtcekbhhpcmhicaaGreatDoor
open Go
theorem fnRQSelf_stand : ([9, 5, 5, 40].all fun u => !Tryz.prog.wantsStandIn u) = true := by kernel_rfl
theorem fnRQSelf_card_holds : Rows.FnRQSelfCardSaid :=
  Claim7.holds_tied_plain_at .later [] [.data, .data, .data, .sentinel, .sentinel] true (true, "716a79362c97038a3f39e8d280f247a206f1830b0b5c75ee4fed2cdbd6a9e74b") true
    fnRQSelf_holds (fun _ h => by cases h) (by as_aux_lemma => kernel_rfl) (fun _ h => by cases h) fnRQSelf_row_tie rfl ⟨rfl, rfl⟩ (by as_aux_lemma => kernel_rfl) rfl
    (fun f fn hf hfn => by
      obtain rfl : f = 4 := Option.some.inj (fnRQSelf_named.symm.trans hf) |>.symm
      obtain rfl : fn = Tryz.f4 := (Option.some.inj (Tryz.func4.symm.trans hfn)).symm
      exact ⟨by as_aux_lemma => kernel_rfl, fun j t ht => by
        rw [Tryz.params4] at ht
        have hm : t ∈ [9, 5, 5, 40] := by simpa using Array.mem_of_getElem? ht
        exact (show Tryz.prog.wantsStandIn t = false by simpa using List.all_eq_true.1 fnRQSelf_stand t hm)⟩)
    (by as_aux_lemma => kernel_rfl)
#print axioms fnRQSelf_card_holds
end Go.Proofs.YtcekbhhpcmhicaaGreatDoor
