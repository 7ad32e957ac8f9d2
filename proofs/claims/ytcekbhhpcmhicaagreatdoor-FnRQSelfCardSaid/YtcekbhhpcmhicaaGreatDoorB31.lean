/- A view as an argument: what it reads as. -/
import Derived.Test.YtcekbhhpcmhicaaGreatDoorB30
import Derived.Test.YtcekbhhpcmhicaaGreatDoorB24
set_option linter.unusedSimpArgs false
set_option linter.unusedVariables false
namespace Go.Proofs.YtcekbhhpcmhicaaGreatDoor
open Go Go.RowKit Go.WideShapes Go.ChangeShapes Go.ChangeAt
set_option maxRecDepth 100000
theorem view_tys : (match Tryz.prog.underlying 40 with | some (.struct fs) => decide ((fs.toList.map fun f => (f.type, f.offset)) = [(5, 0), (38, 1), (5, 5), (5, 6), (4, 7)]) | _ => false) = true := by kernel_rfl
theorem view_ty : ∃ fs : Array Field, Tryz.prog.underlying 40 = some (.struct fs) ∧ (fs.toList.map fun f => (f.type, f.offset)) = [(5, 0), (38, 1), (5, 5), (5, 6), (4, 7)] := by
  have h := view_tys
  split at h
  · next fs hfs => exact ⟨fs, hfs, of_decide_eq_true h⟩
  · exact absurd h (by decide)
theorem four_ty : Tryz.prog.underlying 38 = some (.array 4 5) := by kernel_rfl
theorem view_cells : Tryz.prog.cellsOf 40 = 8 := by kernel_rfl
theorem four_cells : Tryz.prog.cellsOf 38 = 4 := by kernel_rfl
theorem u8_cells : Tryz.prog.cellsOf 5 = 1 := by kernel_rfl
theorem bool_cells : Tryz.prog.cellsOf 4 = 1 := by kernel_rfl
theorem view_fs : ∃ f0 f1 f2 f3 f4 : Field, Tryz.prog.underlying 40 = some (.struct #[f0, f1, f2, f3, f4]) ∧ (f0.type = 5 ∧ f0.offset = 0) ∧ (f1.type = 38 ∧ f1.offset = 1) ∧ (f2.type = 5 ∧ f2.offset = 5) ∧ (f3.type = 5 ∧ f3.offset = 6) ∧ (f4.type = 4 ∧ f4.offset = 7) := by
  obtain ⟨⟨l⟩, hu, h⟩ := view_ty
  match l, hu, h with
  | [f0, f1, f2, f3, f4], hu, h =>
    simp only [List.map_cons, List.map_nil, List.cons.injEq, Prod.mk.injEq, and_true] at h
    exact ⟨f0, f1, f2, f3, f4, hu, h.1, h.2.1, h.2.2.1, h.2.2.2.1, h.2.2.2.2⟩
theorem array8 {α : Type} {cs : Array α} (h : cs.size = 8) : ∃ c0 c1 c2 c3 c4 c5 c6 c7, cs = #[c0, c1, c2, c3, c4, c5, c6, c7] := by
  obtain ⟨l⟩ := cs
  match l, h with
  | [c0, c1, c2, c3, c4, c5, c6, c7], _ => exact ⟨c0, c1, c2, c3, c4, c5, c6, c7, rfl⟩
theorem list5 {α : Type} {l : List α} (h : l.length = 5) : ∃ a b c d e, l = [a, b, c, d, e] := by
  match l, h with
  | [a, b, c, d, e], _ => exact ⟨a, b, c, d, e, rfl⟩
theorem list4 {α : Type} {l : List α} (h : l.length = 4) : ∃ a b c d, l = [a, b, c, d] := by
  match l, h with
  | [a, b, c, d], _ => exact ⟨a, b, c, d, rfl⟩
section
variable {H : Type} {enc : TypeId × Value → H}
/-- what a view reads as -/
def vdat (v : View) : DataW H := .agg [.lit (.int .u8 v.s), .agg [.lit (.int .u8 v.b0), .lit (.int .u8 v.b1), .lit (.int .u8 v.b2), .lit (.int .u8 v.b3)], .lit (.int .u8 v.d), .lit (.int .u8 v.l), .lit (.bool v.p)]
theorem u8_wf {n : Nat} (h : n < 256) : (Lit.int .u8 (n : Int)).wf = true := by
  have e1 : IntKind.u8.min = 0 := rfl
  have e2 : IntKind.u8.max = 255 := rfl
  simp [Lit.wf]
  omega
theorem view_shut (v : View) (hv : v.ok) (w : World) (base : Nat) (sp : Nat → Bool) (held : Bool) : DataW.Trod enc Tryz.prog w base sp held 40 v.val (vdat v) [] := by
  obtain ⟨f0, f1, f2, f3, f4, hty, ⟨t0, o0⟩, ⟨t1, o1⟩, ⟨t2, o2⟩, ⟨t3, o3⟩, ⟨t4, o4⟩⟩ := view_fs
  have hu : ∀ (n : Nat) (x : Nat), x < 256 → DataW.trod enc Tryz.prog w base sp held (n + 1) 5 [u8 x] = some (.lit (.int .u8 x), []) := fun n x hx => trod_int_mk n Tryz.underlying5 (u8_wf hx)
  have hb : ∀ (n : Nat), DataW.trod enc Tryz.prog w base sp held (n + 1) 4 [.bool v.p] = some (.lit (.bool v.p), []) := fun n => by
    unfold DataW.trod
    rw [Tryz.underlying4]
  have h4 : DataW.trod enc Tryz.prog w base sp held 2 38 [u8 v.b0, u8 v.b1, u8 v.b2, u8 v.b3] = some (.agg [.lit (.int .u8 v.b0), .lit (.int .u8 v.b1), .lit (.int .u8 v.b2), .lit (.int .u8 v.b3)], []) := by
    unfold DataW.trod
    rw [four_ty]
    simp [four_cells, u8_cells, List.range, List.range.loop, hu 0 _ hv.b0, hu 0 _ hv.b1, hu 0 _ hv.b2, hu 0 _ hv.b3]
  refine ⟨3, ?_⟩
  have h := trod_struct_mk (enc := enc) (w := w) (base := base) (spare := sp) (held := held) (n := 2) (cs := [u8 v.s, u8 v.b0, u8 v.b1, u8 v.b2, u8 v.b3, u8 v.d, u8 v.l, .bool v.p])
    (xs := [(.lit (.int .u8 v.s), []), (.agg [.lit (.int .u8 v.b0), .lit (.int .u8 v.b1), .lit (.int .u8 v.b2), .lit (.int .u8 v.b3)], []), (.lit (.int .u8 v.d), []), (.lit (.int .u8 v.l), []), (.lit (.bool v.p), [])]) hty (by rw [view_cells]; rfl)
    (by simp [t0, o0, t1, o1, t2, o2, t3, o3, t4, o4, four_cells, u8_cells, bool_cells, hu 1 _ hv.s, hu 1 _ hv.d, hu 1 _ hv.l, hb 1, h4])
  exact h
theorem view_open {w : World} {base : Nat} {sp : Nat → Bool} {held : Bool} {r : Reach} {b0 : Nat} {v : Value} {d : DataW H} {ps : List MemPlace} (hval : Value.okWide Tryz.prog w r b0 40 v) (h : DataW.Trod enc Tryz.prog w base sp held 40 v d ps) :
    ∃ vw : View, v = vw.val ∧ vw.ok ∧ d = vdat vw ∧ ps = [] := by
  obtain ⟨f0, f1, f2, f3, f4, hty, ⟨t0, o0⟩, ⟨t1, o1⟩, ⟨t2, o2⟩, ⟨t3, o3⟩, ⟨t4, o4⟩⟩ := view_fs
  obtain ⟨cs, rfl, hsz⟩ := okWide_struct hty hval
  rw [view_cells] at hsz
  obtain ⟨c0, c1, c2, c3, c4, c5, c6, c7, rfl⟩ := array8 hsz
  obtain ⟨fuel, hf⟩ := h
  have hf : DataW.trod enc Tryz.prog w base sp held fuel 40 [c0, c1, c2, c3, c4, c5, c6, c7] = some (d, ps) := hf
  obtain ⟨xs, n, rfl, hx, hl, hlen, hg⟩ := DataW.trod_struct hty hf
  obtain ⟨y0, y1, y2, y3, y4, rfl⟩ := list5 hlen
  have h0 := hg 0 f0 rfl
  have h1 := hg 1 f1 rfl
  have h2 := hg 2 f2 rfl
  have h3 := hg 3 f3 rfl
  have h4 := hg 4 f4 rfl
  rw [t0, o0, u8_cells] at h0
  rw [t1, o1, four_cells] at h1
  rw [t2, o2, u8_cells] at h2
  rw [t3, o3, u8_cells] at h3
  rw [t4, o4, bool_cells] at h4
  have h0 : DataW.trod enc Tryz.prog w base sp held n 5 [c0] = some y0 := h0
  have h1 : DataW.trod enc Tryz.prog w base sp held n 38 [c1, c2, c3, c4] = some y1 := h1
  have h2 : DataW.trod enc Tryz.prog w base sp held n 5 [c5] = some y2 := h2
  have h3 : DataW.trod enc Tryz.prog w base sp held n 5 [c6] = some y3 := h3
  have h4 : DataW.trod enc Tryz.prog w base sp held n 4 [c7] = some y4 := h4
  obtain ⟨zs, m, rfl, hz, hl4, hlen4, hg4⟩ := DataW.trod_array four_ty h1
  obtain ⟨z0, z1, z2, z3, rfl⟩ := list4 hlen4
  have g0 : DataW.trod enc Tryz.prog w base sp held m 5 [c1] = some z0 := by have := hg4 0 (by omega); rw [u8_cells] at this; exact this
  have g1 : DataW.trod enc Tryz.prog w base sp held m 5 [c2] = some z1 := by have := hg4 1 (by omega); rw [u8_cells] at this; exact this
  have g2 : DataW.trod enc Tryz.prog w base sp held m 5 [c3] = some z2 := by have := hg4 2 (by omega); rw [u8_cells] at this; exact this
  have g3 : DataW.trod enc Tryz.prog w base sp held m 5 [c4] = some z3 := by have := hg4 3 (by omega); rw [u8_cells] at this; exact this
  clear hg hg4 hf hval
  obtain ⟨a0, e0, rfl, w0⟩ := DataW.trod_int Tryz.underlying5 h0
  obtain ⟨a1, e1, rfl, w1⟩ := DataW.trod_int Tryz.underlying5 g0
  obtain ⟨a2, e2, rfl, w2⟩ := DataW.trod_int Tryz.underlying5 g1
  obtain ⟨a3, e3, rfl, w3⟩ := DataW.trod_int Tryz.underlying5 g2
  obtain ⟨a4, e4, rfl, w4⟩ := DataW.trod_int Tryz.underlying5 g3
  obtain ⟨a5, e5, rfl, w5⟩ := DataW.trod_int Tryz.underlying5 h2
  obtain ⟨a6, e6, rfl, w6⟩ := DataW.trod_int Tryz.underlying5 h3
  obtain ⟨p, e7, rfl⟩ := DataW.trod_bool Tryz.underlying4 h4
  subst hz
  cases e0; cases e1; cases e2; cases e3; cases e4; cases e5; cases e6; cases e7
  obtain ⟨n0, rfl, q0⟩ := u8_nat w0
  obtain ⟨n1, rfl, q1⟩ := u8_nat w1
  obtain ⟨n2, rfl, q2⟩ := u8_nat w2
  obtain ⟨n3, rfl, q3⟩ := u8_nat w3
  obtain ⟨n4, rfl, q4⟩ := u8_nat w4
  obtain ⟨n5, rfl, q5⟩ := u8_nat w5
  obtain ⟨n6, rfl, q6⟩ := u8_nat w6
  have hx := Prod.mk.inj hx
  exact ⟨⟨n0, n1, n2, n3, n4, n5, n6, p⟩, rfl, ⟨q0, q1, q2, q3, q4, q5, q6⟩, hx.1, hx.2⟩
end
end Go.Proofs.YtcekbhhpcmhicaaGreatDoor
