/- What Encoder_encode keeps in memory from call to call; an empty map. -/
import Derived.Maps.OwnSet
import Derived.Test.YtcekbhhpcmhicaaGreatDoorB12
import Derived.Test.YtcekbhhpcmhicaaGreatDoorB02
import Derived.Test.YtcekbhhpcmhicaaGreatDoorB18
set_option linter.unusedSimpArgs false
set_option linter.unusedVariables false
namespace Go.Proofs.YtcekbhhpcmhicaaGreatDoor
open Go Go.RowKit Go.Deep
set_option maxRecDepth 100000
theorem modeOf_3 (l : List Nat) : Mode3 (modeOf l) := by
  unfold modeOf Mode3
  split
  · split
    · omega
    · split <;> omega
  · omega
theorem dig_al (c : Nat) (h : isDig c = true) : isAl c = true := by
  unfold isDig at h
  simp only [Bool.and_eq_true, decide_eq_true_eq] at h
  have : ∀ d, d < 10 → isAl (48 + d) = true := by decide
  have := this (c - 48) (by omega)
  rw [show 48 + (c - 48) = c from by omega] at this
  exact this
theorem modeOf_ok (l : List Nat) : okFor (modeOf l) l := by
  unfold modeOf okFor
  split
  · rename_i h
    rw [List.all_eq_true] at h
    split
    · rename_i h2
      refine ⟨fun e => absurd e (by decide), fun _ c hc => ?_⟩
      have := h c hc
      rw [Bool.or_eq_true] at this
      rcases this with e | e
      · exact dig_al c e
      · exact e
    · rename_i h2
      split
      · exact ⟨fun e => absurd e (by decide), fun e => absurd e (by decide)⟩
      · refine ⟨fun _ c hc => ?_, fun e => absurd e (by decide)⟩
        rw [Bool.not_eq_true, List.any_eq_false] at h2
        have := h2 c hc
        simpa using this
  · exact ⟨fun e => absurd e (by decide), fun e => absurd e (by decide)⟩
theorem Tryz.und48 : Tryz.prog.underlying 48 = some (.map 49 20) := by kernel_rfl
theorem Tryz.und49 : Tryz.prog.underlying 49 = some (.int .i64) := by kernel_rfl
theorem look_empty {w : World} {mb c : Nat} (h : w.heap[mb]? = some (.map #[] c)) (k : Int) :
    (Instr.lookup 48 (.map (some mb)) (.int .i64 k) true).run Tryz.prog w = .ok (.tuple #[.nilIface, .bool false]) w := by
  have hz : (zeroValue 20).run Tryz.prog w = .ok .nilIface w := by kernel_rfl
  have hf : (Instr.findKey 49 (.int .i64 k) []).run Tryz.prog w = .ok none w := by
    simp [Instr.findKey, run_underlying Tryz.und49, Instr.findNow, Result.andThen]
  have hc : (Instr.checkKey true 10000 49 (.int .i64 k)).run Tryz.prog w = .ok () w := by
    show (Instr.checkKey true (9999 + 1) 49 (.int .i64 k)).run Tryz.prog w = .ok () w
    generalize 9999 = N
    simp [Instr.checkKey, run_underlying Tryz.und49, Result.andThen]
  have hg : (getObj mb).run Tryz.prog w = .ok (.map #[] c) w := by
    simp [Go.getObj, h, Sem.run]
  simp [Instr.lookup, run_underlying Tryz.und48, hg, hc, hf, hz, Result.andThen]

structure SA (w0 w : World) (p g n : Nat) (bs : List Bool) : Prop where
  fr : Fr Nil w0 w
  a : BA w p g n bs
  hp : w0.heap.size ≤ p
  hg : w0.heap.size ≤ g
theorem BA.ltp {w : World} {p g n : Nat} {bs : List Bool} (h : BA w p g n bs) : p < w.heap.size := h.st.lt
theorem BA.ltg {w : World} {p g n : Nat} {bs : List Bool} (h : BA w p g n bs) : g < w.heap.size := h.ws.lt
theorem SA.nil {w0 w w' : World} {p g n : Nat} {bs : List Bool} (h : SA w0 w p g n bs) (hf : Fr Nil w w') : SA w0 w' p g n bs := ⟨h.fr.trans hf, h.a.fr hf (fun e => e) (fun e => e), h.hp, h.hg⟩
theorem SA.new {w0 w w' : World} (hf0 : Fr Nil w0 w) (hf : Fr Nil w w') (hb : BA w' (w.heap.size + 1) w.heap.size 1 []) : SA w0 w' (w.heap.size + 1) w.heap.size 1 [] := ⟨hf0.trans hf, hb, by have := hf0.size; omega, by have := hf0.size; omega⟩
theorem SA.put {w0 w w' : World} {p g n : Nat} {bs cs : List Bool} (h : SA w0 w p g n bs) (hP : Put w p g cs w') : ∃ g' n', SA w0 w' p g' n' cs ∧ Fr (Two p g) w w' ∧ (g' = g ∨ w.heap.size ≤ g') := by
  obtain ⟨g', n', hb, hf, hg⟩ := hP
  have h1 := h.hp
  have h2 := h.hg
  have h3 := h.fr.size
  refine ⟨g', n', ⟨h.fr.trans' hf (fun i hi e => by rcases e with e | e <;> omega), hb, h1, by omega⟩, hf, hg⟩
theorem SA.keep {w0 w w' : World} {p g n q k : Nat} {bs : List Bool} (h : SA w0 w p g n bs) (hf : Fr (Two q k) w w') (hq : w0.heap.size ≤ q) (hk : w0.heap.size ≤ k) (h1 : p ≠ q) (h2 : p ≠ k) (h3 : g ≠ q) (h4 : g ≠ k) : SA w0 w' p g n bs :=
  ⟨h.fr.trans' hf (fun i hi e => by rcases e with e | e <;> omega), h.a.fr hf (fun e => by rcases e with e | e <;> omega) (fun e => by rcases e with e | e <;> omega), h.hp, h.hg⟩
structure SB (w0 w : World) (p g n : Nat) (bs : List Bool) (p2 g2 n2 : Nat) (b2 : List Bool) : Prop where
  s1 : SA w0 w p g n bs
  s2 : SA w0 w p2 g2 n2 b2
  A : ∃ A, p < A ∧ g < A ∧ A ≤ p2 ∧ A ≤ g2
theorem SB.new {w0 w w' : World} {p g n : Nat} {bs : List Bool} (h : SA w0 w p g n bs) (hf : Fr Nil w w') (hb : BA w' (w.heap.size + 1) w.heap.size 1 []) : SB w0 w' p g n bs (w.heap.size + 1) w.heap.size 1 [] :=
  ⟨h.nil hf, SA.new h.fr hf hb, w.heap.size, h.a.ltp, h.a.ltg, by omega, by omega⟩
theorem SB.nil {w0 w w' : World} {p g n p2 g2 n2 : Nat} {bs b2 : List Bool} (h : SB w0 w p g n bs p2 g2 n2 b2) (hf : Fr Nil w w') : SB w0 w' p g n bs p2 g2 n2 b2 := ⟨h.s1.nil hf, h.s2.nil hf, h.A⟩
theorem SB.put {w0 w w' : World} {p g n p2 g2 n2 : Nat} {bs b2 cs : List Bool} (h : SB w0 w p g n bs p2 g2 n2 b2) (hP : Put w p2 g2 cs w') : ∃ g' n', SB w0 w' p g n bs p2 g' n' cs := by
  obtain ⟨A, a1, a2, a3, a4⟩ := h.A
  obtain ⟨g', n', hs, hf, hg⟩ := h.s2.put hP
  have := h.s2.a.ltp
  exact ⟨g', n', h.s1.keep hf h.s2.hp h.s2.hg (by omega) (by omega) (by omega) (by omega), hs, A, a1, a2, a3, by omega⟩
structure SC (w0 w : World) (p g n : Nat) (bs : List Bool) (p2 g2 n2 : Nat) (b2 : List Bool) (lo hi vp v : Nat) : Prop where
  s1 : SA w0 w p g n bs
  s2 : SA w0 w p2 g2 n2 b2
  ver : VerAt w lo hi vp v
  hlo : w0.heap.size ≤ lo
  hhi : hi ≤ w.heap.size
theorem SC.of {w0 w w' : World} {p g n p2 g2 n2 lo vp v : Nat} {bs b2 : List Bool} (h : SB w0 w p g n bs p2 g2 n2 b2) (hf : Fr Nil w w') (hv : VerAt w' lo w'.heap.size vp v) (hlo : w.heap.size ≤ lo) : SC w0 w' p g n bs p2 g2 n2 b2 lo w'.heap.size vp v :=
  ⟨h.s1.nil hf, h.s2.nil hf, hv, by have := h.s1.fr.size; omega, Nat.le_refl _⟩
structure SD (w0 w : World) (p g n : Nat) (bs : List Bool) (p2 g2 n2 : Nat) (b2 : List Bool) (lo hi vp v p3 g3 n3 : Nat) (b3 : List Bool) : Prop where
  s1 : SA w0 w p g n bs
  s2 : SA w0 w p2 g2 n2 b2
  s3 : SA w0 w p3 g3 n3 b3
  ver : VerAt w lo hi vp v
  hlo : w0.heap.size ≤ lo
  B : ∃ B, p < B ∧ g < B ∧ p2 < B ∧ g2 < B ∧ hi ≤ B ∧ B ≤ p3 ∧ B ≤ g3
theorem SD.new {w0 w w' : World} {p g n p2 g2 n2 lo hi vp v : Nat} {bs b2 : List Bool} (h : SC w0 w p g n bs p2 g2 n2 b2 lo hi vp v) (hf : Fr Nil w w') (hb : BA w' (w.heap.size + 1) w.heap.size 1 []) :
    SD w0 w' p g n bs p2 g2 n2 b2 lo hi vp v (w.heap.size + 1) w.heap.size 1 [] :=
  ⟨h.s1.nil hf, h.s2.nil hf, SA.new h.s1.fr hf hb, h.ver.fr hf (fun _ _ _ e => e), h.hlo, w.heap.size, h.s1.a.ltp, h.s1.a.ltg, h.s2.a.ltp, h.s2.a.ltg, h.hhi, by omega, by omega⟩
theorem SD.nil {w0 w w' : World} {p g n p2 g2 n2 lo hi vp v p3 g3 n3 : Nat} {bs b2 b3 : List Bool} (h : SD w0 w p g n bs p2 g2 n2 b2 lo hi vp v p3 g3 n3 b3) (hf : Fr Nil w w') : SD w0 w' p g n bs p2 g2 n2 b2 lo hi vp v p3 g3 n3 b3 :=
  ⟨h.s1.nil hf, h.s2.nil hf, h.s3.nil hf, h.ver.fr hf (fun _ _ _ e => e), h.hlo, h.B⟩
theorem SD.put {w0 w w' : World} {p g n p2 g2 n2 lo hi vp v p3 g3 n3 : Nat} {bs b2 b3 cs : List Bool} (h : SD w0 w p g n bs p2 g2 n2 b2 lo hi vp v p3 g3 n3 b3) (hP : Put w p3 g3 cs w') :
    ∃ g' n', SD w0 w' p g n bs p2 g2 n2 b2 lo hi vp v p3 g' n' cs := by
  obtain ⟨B, a1, a2, a3, a4, a5, a6, a7⟩ := h.B
  obtain ⟨g', n', hs, hf, hg⟩ := h.s3.put hP
  have := h.s3.a.ltp
  exact ⟨g', n', h.s1.keep hf h.s3.hp h.s3.hg (by omega) (by omega) (by omega) (by omega), h.s2.keep hf h.s3.hp h.s3.hg (by omega) (by omega) (by omega) (by omega), hs,
    h.ver.fr hf (fun i _ h2 e => by rcases e with e | e <;> omega), h.hlo, B, a1, a2, a3, a4, a5, a6, by omega⟩
theorem SD.app1 {w0 w : World} {p g n p2 g2 n2 lo hi vp v p3 g3 n3 : Nat} {bs b2 b3 : List Bool} (h : SD w0 w p g n bs p2 g2 n2 b2 lo hi vp v p3 g3 n3 b3) (hM : b3.length + bs.length ≤ 1800000) :
    Calls Tryz.prog 54 #[.pointer (some ⟨p3, 0, none⟩), .pointer (some ⟨p, 0, none⟩)] w fun e w' => e = .returned (.tuple #[]) ∧ Put w p3 g3 (b3 ++ bs) w' := by
  obtain ⟨B, a1, a2, a3, a4, a5, a6, a7⟩ := h.B
  exact appendBitArray_calls h.s3.a h.s1.a hM (by omega) (by omega) (by omega) (by omega)
theorem SD.app2 {w0 w : World} {p g n p2 g2 n2 lo hi vp v p3 g3 n3 : Nat} {bs b2 b3 : List Bool} (h : SD w0 w p g n bs p2 g2 n2 b2 lo hi vp v p3 g3 n3 b3) (hM : b3.length + b2.length ≤ 1800000) :
    Calls Tryz.prog 54 #[.pointer (some ⟨p3, 0, none⟩), .pointer (some ⟨p2, 0, none⟩)] w fun e w' => e = .returned (.tuple #[]) ∧ Put w p3 g3 (b3 ++ b2) w' := by
  obtain ⟨B, a1, a2, a3, a4, a5, a6, a7⟩ := h.B
  exact appendBitArray_calls h.s3.a h.s2.a hM (by omega) (by omega) (by omega) (by omega)
structure SF (w0 w : World) (lo hi vp v p g n : Nat) (bs : List Bool) (q : Nat) (cs : Array Value) : Prop where
  fr : Fr Nil w0 w
  ver : VerAt w lo hi vp v
  hlo : w0.heap.size ≤ lo
  a : BA w p g n bs
  st : Blk w q 137 cs
  hq : w0.heap.size ≤ q
  hq2 : hi ≤ q
  np : p ≠ q
  ng : g ≠ q
theorem SF.new {w0 w w1 w' : World} {p g n p2 g2 n2 lo hi vp v p3 g3 n3 p4 g4 n4 : Nat} {bs b2 b3 b4 : List Bool} {cs : Array Value} (h : SD w0 w p g n bs p2 g2 n2 b2 lo hi vp v p3 g3 n3 b3) (hf1 : Fr Nil w w1) (hb : BA w1 p4 g4 n4 b4) (hf : Fr Nil w1 w') (hk : Blk w' w1.heap.size 137 cs) :
    SF w0 w' lo hi vp v p4 g4 n4 b4 w1.heap.size cs := by
  obtain ⟨B, a1, a2, a3, a4, a5, a6, a7⟩ := h.B
  have h1 := h.s3.fr.size
  have h2 := hf1.size
  have h3 := h.s3.a.ltp
  have h4 := hb.ltp
  have h5 := hb.ltg
  exact ⟨(h.s3.fr.trans hf1).trans hf, (h.ver.fr hf1 (fun _ _ _ e => e)).fr hf (fun _ _ _ e => e), h.hlo, hb.fr hf (fun e => e) (fun e => e), hk, by omega, by omega, by omega, by omega⟩
theorem SF.nil {w0 w w' : World} {lo hi vp v p g n q : Nat} {bs : List Bool} {cs : Array Value} (h : SF w0 w lo hi vp v p g n bs q cs) (hf : Fr Nil w w') : SF w0 w' lo hi vp v p g n bs q cs :=
  ⟨h.fr.trans hf, h.ver.fr hf (fun _ _ _ e => e), h.hlo, h.a.fr hf (fun e => e) (fun e => e), h.st.fr hf (fun e => e), h.hq, h.hq2, h.np, h.ng⟩
theorem SF.set {w0 w w' : World} {lo hi vp v p g n q : Nat} {bs : List Bool} {cs ds : Array Value} (h : SF w0 w lo hi vp v p g n bs q cs) (hk : Blk w' q 137 ds) (hf : Fr (One q) w w') : SF w0 w' lo hi vp v p g n bs q ds :=
  ⟨h.fr.trans' hf (fun i hi (e : i = q) => by have := h.hq; omega), h.ver.fr hf (fun i _ h2 (e : i = q) => by have := h.hq2; omega), h.hlo, h.a.fr hf h.np h.ng, hk, h.hq, h.hq2, h.np, h.ng⟩
structure SG (w0 w : World) (lo hi vp v p g n : Nat) (bs : List Bool) (q : Nat) (cs : Array Value) (m r k : Nat) (M : Nat → Nat → Int) : Prop where
  sf : SF w0 w lo hi vp v p g n bs q cs
  bm : BM w m r k M
  hr : q < r
  hp : p < r
  hg : g < r
  hm : m ≠ q
theorem SG.new {w0 w w' : World} {lo hi vp v p g n q m k : Nat} {bs : List Bool} {cs : Array Value} {M : Nat → Nat → Int} (h : SF w0 w lo hi vp v p g n bs q cs) (hf : Fr Nil w w') (hb : BM w' m w.heap.size k M) : SG w0 w' lo hi vp v p g n bs q cs m w.heap.size k M := by
  refine ⟨h.nil hf, hb, h.st.lt, h.a.ltp, h.a.ltg, fun e => ?_⟩
  subst e
  have h1 := hb.st
  have h2 := (h.nil hf).st
  unfold Blk at h1 h2
  rw [h1] at h2
  cases h2
theorem SG.set {w0 w w' : World} {lo hi vp v p g n q m r k : Nat} {bs : List Bool} {cs ds : Array Value} {M : Nat → Nat → Int} (h : SG w0 w lo hi vp v p g n bs q cs m r k M) (hk : Blk w' q 137 ds) (hf : Fr (One q) w w') : SG w0 w' lo hi vp v p g n bs q ds m r k M :=
  ⟨h.sf.set hk hf, h.bm.fr hf h.hm (fun (e : r = q) => by have := h.hr; omega) (fun y _ (e : r + 1 + y = q) => by have := h.hr; omega), h.hr, h.hp, h.hg, h.hm⟩
theorem SG.rows {w0 w w' : World} {lo hi vp v p g n q m r k : Nat} {bs : List Bool} {cs : Array Value} {M M' : Nat → Nat → Int} (h : SG w0 w lo hi vp v p g n bs q cs m r k M) (hb : BM w' m r k M') (hf : Fr (Rw r k) w w') : SG w0 w' lo hi vp v p g n bs q cs m r k M' := by
  have h1 := h.hr
  have h2 := h.sf.hq
  have h3 := h.sf.hq2
  have h4 := h.hp
  have h5 := h.hg
  exact ⟨⟨h.sf.fr.trans' hf (fun i hi e => by have := e.1; omega), h.sf.ver.far hf (by omega), h.sf.hlo, h.sf.a.fr hf (fun e => by have := e.1; omega) (fun e => by have := e.1; omega), h.sf.st.fr hf (fun e => by have := e.1; omega), h2, h3, h.sf.np, h.sf.ng⟩, hb, h1, h4, h5, h.hm⟩
theorem SG.no {w0 w : World} {lo hi vp v p g n q m r k : Nat} {bs : List Bool} {cs : Array Value} {M : Nat → Nat → Int} (h : SG w0 w lo hi vp v p g n bs q cs m r k M) : hi ≤ r + 1 ∧ ¬ Rw r k p ∧ ¬ Rw r k g :=
  ⟨by have := h.hr; have := h.sf.hq2; omega, fun e => by have := e.1; have := h.hp; omega, fun e => by have := e.1; have := h.hg; omega⟩
end Go.Proofs.YtcekbhhpcmhicaaGreatDoor
