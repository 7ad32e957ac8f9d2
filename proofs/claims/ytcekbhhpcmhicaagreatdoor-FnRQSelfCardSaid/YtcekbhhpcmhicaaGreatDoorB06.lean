/- BitArray: its bits as a list; what its methods do to it. -/
import Derived.Test.YtcekbhhpcmhicaaGreatDoorProg
import Derived.BigQuiet
import Derived.BigRegion
import Derived.StillTailTactics
import Derived.KernelRfl
import Derived.Outline
import Derived.Test.YtcekbhhpcmhicaaGreatDoorB01
set_option linter.unusedSimpArgs false
set_option linter.unusedVariables false
namespace Go.Proofs.YtcekbhhpcmhicaaGreatDoor
open Go Go.RowKit Go.Deep
set_option maxRecDepth 100000
theorem Tryz.info252 : (Tryz.prog.info? 252).map (fun i => (i.zero, i.size, i.bytes)) = some (some (.int .u32 0), 1, 4) := by kernel_rfl
theorem Tryz.size252 : (Tryz.prog.info? 252).map (·.size) = some 1 := by kernel_rfl

/-- word k of bits -/
def wd (bs : List Bool) (k : Nat) : Nat := wf (fun j => bs.getD (32 * k + j) false) 32
def rowW (bs : List Bool) : Nat → Value := fun k => .int .u32 (wd bs k : Nat)
/-- a BitArray at block p, its words in block g -/
structure BA (w : World) (p g n : Nat) (bs : List Bool) : Prop where
  st : Blk w p 187 #[.slice (some ⟨g, 0, none⟩) n n, .int .i64 (bs.length : Nat)]
  ws : w.rowIs g 252 n (rowW bs)
  fit : bs.length ≤ 32 * n
  lim : n ≤ 60000
theorem BA.fr {w w' : World} {p g n : Nat} {bs : List Bool} {F : Nat → Prop} (h : BA w p g n bs) (hf : Fr F w w') (hp : ¬ F p) (hg : ¬ F g) : BA w' p g n bs :=
  ⟨h.st.fr hf hp, rowFr h.ws hf hg, h.fit, h.lim⟩
theorem BA.drewN {w : World} {p g n m : Nat} {bs : List Bool} (h : BA w p g n bs) : BA (w.drewN m) p g n bs := ⟨h.st, h.ws, h.fit, h.lim⟩
theorem BA.drew {w : World} {p g n : Nat} {bs : List Bool} (h : BA w p g n bs) : BA w.drew p g n bs := ⟨h.st, h.ws, h.fit, h.lim⟩
theorem BA.ne {w : World} {p g n : Nat} {bs : List Bool} (h : BA w p g n bs) : p ≠ g := h.st.row_ne h.ws (by decide)
theorem BA.c0 {w : World} {p g n : Nat} {bs : List Bool} (h : BA w p g n bs) : w.cell? ⟨p, 0, none⟩ = some (.slice (some ⟨g, 0, none⟩) n n) := by simpa using h.st.cell 0
theorem BA.c1 {w : World} {p g n : Nat} {bs : List Bool} (h : BA w p g n bs) : w.cell? ⟨p, 1, none⟩ = some (.int .i64 (bs.length : Nat)) := by simpa using h.st.cell 1
theorem wd_beyond (bs : List Bool) (k : Nat) (h : bs.length ≤ 32 * k) : wd bs k = 0 := by
  unfold wd
  rw [wf_congr (g := fun _ => false) (fun j _ => by rw [List.getD_eq_getElem?_getD, List.getElem?_eq_none (by omega)]; rfl)]
  exact wf_zero 32

theorem makeArray_calls (n : Int) (h0 : 0 ≤ n) (h1 : n ≤ 1000000000) (w : World) :
    Calls Tryz.prog 98 #[.int .i64 n] w fun e w' => e = .returned (.slice (some ⟨w.heap.size, 0, none⟩) ((n + 31) / 32).toNat ((n + 31) / 32).toNat) ∧
      w.alloc (.cells (madeCells #[.int .u32 0] ((n + 31) / 32).toNat) 252) = w' := by
  have hmk := run_make_row' (P := Tryz.prog) 184 252 (.int .u32 0) 4 Tryz.underlying184 Tryz.info252 rfl .i64 .i64 ((n + 31) / 32).toNat (by omega) (by omega)
  rw [Int.toNat_of_nonneg (by omega)] at hmk
  go_enter Tryz.func98, Tryz.ntmps98
  go_wp2
  go_ret
  exact ⟨rfl, rfl⟩

set_option maxHeartbeats 400000 in
theorem ensure_small {w : World} {p g n : Nat} {bs : List Bool} (h : BA w p g n bs) (m : Int) (hm : m ≤ 32 * n) :
    Calls Tryz.prog 112 #[.pointer (some ⟨p, 0, none⟩), .int .i64 m] w fun e w' => e = .returned (.tuple #[]) ∧ w = w' := by
  have h0 := h.c0
  have hl := h.lim
  have hm' : ¬ (n : Int) * 32 < m := by omega
  go_enter Tryz.func112, Tryz.ntmps112
  go_wp2
  go_end0
  exact ⟨rfl, rfl⟩

set_option maxHeartbeats 400000 in
theorem ensure_big {w : World} {p g n : Nat} {bs : List Bool} (h : BA w p g n bs) (m N : Nat) (hN1 : m ≤ 32 * N) (hN2 : 32 * N < m + 32) (hm : 32 * n < m) (hM : N ≤ 60000) :
    Calls Tryz.prog 112 #[.pointer (some ⟨p, 0, none⟩), .int .i64 m] w fun e w' => e = .returned (.tuple #[]) ∧ BA w' p w.heap.size N bs ∧ Fr (One p) w w' := by
  have h0 := h.c0
  have hl := h.lim
  have hp := h.st.lt
  have hg := h.ws.lt
  have hm' : (n : Int) * 32 < m := by omega
  have hN' : (((m : Int) + 31) / 32).toNat = N := by omega
  have hnew := World.rowIs_made w (.int .u32 0) N 252
  have hal : Fr Nil w (w.alloc (.cells (madeCells #[.int .u32 0] N) 252)) := (Fr.refl _ _).alloc _
  obtain ⟨w2, hcp, hw2, hf2, hs2⟩ := copy_ex (P := Tryz.prog) (ty := 3) (dT := 184) (sT := 184) (o := 0) (dLen := N) (dCap := N) (G := rowW bs) (⟨g, 0, none⟩ : Addr) n n n Tryz.underlying184 Tryz.size252 hnew
    (by exact (Nat.min_eq_left (by omega)).symm) (by omega) (fun j hj => by rw [addr_add_row, Nat.zero_add]; exact (rowFr h.ws hal (fun hf => hf)).cell hj) (fun j _ => rfl)
  have hst := (h.st.fr hal (fun hf => hf)).fr hf2 (fun e => by have : p = w.heap.size := e; omega)
  have hp0 : w2.cell? ⟨p, 0, none⟩ = some (.slice (some ⟨g, 0, none⟩) n n) := by simpa using hst.cell 0
  have hp1 := hst.frozen 0
  have hfin : BA (w2.setCell ⟨p, 0, none⟩ (.slice (some ⟨w.heap.size, 0, none⟩) N N)) p w.heap.size N bs ∧ Fr (One p) w (w2.setCell ⟨p, 0, none⟩ (.slice (some ⟨w.heap.size, 0, none⟩) N N)) := by
    refine ⟨⟨by simpa using hst.set_ 0 (.slice (some ⟨w.heap.size, 0, none⟩) N N), (hw2.setOther (by show w.heap.size ≠ p; omega) _).congr (fun i hi => ?_), by have := h.fit; omega, hM⟩, Fr.setCell (F := One p) (a := ⟨p, 0, none⟩) ((hal.any (One p)).trans' hf2 (fun i hi e => by have : i = w.heap.size := e; omega)) (.inl rfl) _⟩
    by_cases hin : i < n
    · rw [if_pos (by omega)]; rfl
    · rw [if_neg (by omega)]
      show _ = Value.int .u32 _
      rw [wd_beyond bs i (by have := h.fit; omega)]; rfl
  clear hw2 hf2 hst hnew hal hs2
  have HF := Lib.hid hfin
  clear hfin
  go_enter Tryz.func112, Tryz.ntmps112
  go_wp2_with (go_at_call 98; refine (makeArray_calls _ (by omega) (by omega) _).mono ?_; rw [hN']; rintro e w1 ⟨rfl, rfl⟩)
  go_end0
  exact ⟨rfl, HF.out⟩

theorem wd_bit (bs : List Bool) (i : Nat) : (wd bs (i / 32) &&& 2 ^ (i % 32) != 0) = bs.getD i false := by
  unfold wd
  rw [wf_and _ _ _ (by omega)]
  congr 1; omega
theorem wd_lt (bs : List Bool) (k : Nat) : wd bs k < 4294967296 := wf_lt _ 32
theorem getD_snoc (bs : List Bool) (b : Bool) (i : Nat) : (bs ++ [b]).getD i false = if i = bs.length then b else bs.getD i false := by
  rw [List.getD_eq_getElem?_getD, List.getD_eq_getElem?_getD]
  by_cases h : i < bs.length
  · rw [List.getElem?_append_left h, if_neg (by omega)]
  · rw [List.getElem?_append_right (by omega)]
    by_cases e : i = bs.length
    · subst e; simp
    · rw [if_neg e, List.getElem?_eq_none (by simp; omega), List.getElem?_eq_none (by omega)]
theorem wd_snoc_false (bs : List Bool) (k : Nat) : wd (bs ++ [false]) k = wd bs k := by
  unfold wd
  refine wf_congr fun j _ => ?_
  rw [getD_snoc]
  split
  · rw [List.getD_eq_getElem?_getD, List.getElem?_eq_none (by omega)]; rfl
  · rfl
theorem wd_snoc_true (bs : List Bool) (k : Nat) : wd (bs ++ [true]) k = if k = bs.length / 32 then wd bs k ||| 2 ^ (bs.length % 32) else wd bs k := by
  split
  · next h =>
    subst h
    unfold wd
    rw [wf_or _ _ _ (by omega)]
    refine wf_congr fun j hj => ?_
    rw [getD_snoc]
    by_cases e : 32 * (bs.length / 32) + j = bs.length
    · rw [if_pos e]
      have : j = bs.length % 32 := by omega
      simp [this]
    · rw [if_neg e]
      have : ¬ j = bs.length % 32 := by omega
      simp [this]
  · next h =>
    unfold wd
    refine wf_congr fun j hj => ?_
    rw [getD_snoc, if_neg (by omega)]
theorem pow32_mod (k : Nat) (h : k < 32) : (2 : Int) ^ k % 4294967296 = ((2 ^ k : Nat) : Int) := by
  have h2 : 2 ^ k < 2 ^ 32 := Nat.pow_lt_pow_right (by omega) h
  have e : ((2 : Int) ^ k) = ((2 ^ k : Nat) : Int) := by push_cast; rfl
  rw [e]
  exact Int.emod_eq_of_lt (Int.natCast_nonneg _) (by omega)
theorem pow_lt32 (k : Nat) (h : k < 32) : 2 ^ k < 4294967296 := Nat.pow_lt_pow_right (m := k) (n := 32) (by omega) h
theorem or_bit (bs : List Bool) (k i : Nat) (hi : i < 32) : bits .or .u32 (wd bs k : Nat) ((2 : Int) ^ i % 4294967296) = ((wd bs k ||| 2 ^ i : Nat) : Int) := by
  rw [pow32_mod i hi]
  exact u32_or_nat _ _ (wd_lt _ _) (Nat.pow_lt_pow_right (by omega) hi)
theorem and_bit (bs : List Bool) (i : Nat) : (bits .and .u32 (wd bs (i / 32) : Nat) ((2 : Int) ^ (i % 32) % 4294967296) != 0) = bs.getD i false := by
  rw [pow32_mod _ (by omega), u32_and_nat _ _ (wd_lt _ _) (pow_lt32 _ (by omega)), ← wd_bit]
  rw [Bool.eq_iff_iff]; simp

set_option maxHeartbeats 400000 in
theorem get_calls {w : World} {p g n : Nat} {bs : List Bool} (h : BA w p g n bs) (i : Nat) (hi : i < 32 * n) :
    Calls Tryz.prog 114 #[.pointer (some ⟨p, 0, none⟩), .int .i64 i] w fun e w' => e = .returned (.bool (bs.getD i false)) ∧ w = w' := by
  have h0 := h.c0
  have hl := h.lim
  have hc := h.ws.cell (i := i / 32) (by omega)
  have hb : i / 32 < n := by omega
  have HA := Lib.hid (and_bit bs i)
  unfold rowW at hc
  go_enter Tryz.func114, Tryz.ntmps114
  go_wp2
  go_ret
  exact ⟨by rw [HA.out]; rfl, rfl⟩
theorem size_calls {w : World} {p g n : Nat} {bs : List Bool} (h : BA w p g n bs) :
    Calls Tryz.prog 109 #[.pointer (some ⟨p, 0, none⟩)] w fun e w' => e = .returned (.int .i64 (bs.length : Nat)) ∧ w = w' := by
  have h0 := h.c1
  go_enter Tryz.func109, Tryz.ntmps109
  go_wp2
  go_ret
  exact ⟨rfl, rfl⟩
theorem sizeBytes_calls {w : World} {p g n : Nat} {bs : List Bool} (h : BA w p g n bs) :
    Calls Tryz.prog 55 #[.pointer (some ⟨p, 0, none⟩)] w fun e w' => e = .returned (.int .i64 ((bs.length + 7) / 8 : Nat)) ∧ w = w' := by
  have h0 := h.c1
  have hl := h.lim
  have hf := h.fit
  go_enter Tryz.func55, Tryz.ntmps55
  go_wp2
  go_ret
  exact ⟨by simp, rfl⟩
theorem newEmpty_calls (w : World) :
    Calls Tryz.prog 44 #[] w fun e w' => e = .returned (.pointer (some ⟨w.heap.size + 1, 0, none⟩)) ∧ BA w' (w.heap.size + 1) w.heap.size 1 [] ∧ Fr Nil w w' ∧ w'.heap.size = w.heap.size + 2 := by
  have hnew := World.rowIs_made w (.int .u32 0) 1 252
  go_enter Tryz.func44, Tryz.ntmps44
  go_wp2_with (go_at_call 98; refine (makeArray_calls _ (by omega) (by omega) _).mono ?_; rintro e w1 ⟨rfl, rfl⟩)
  go_ret
  refine ⟨rfl, ⟨by have hb := Blk.new (w.alloc (.cells (madeCells #[.int .u32 0] 1) 252)) 187 #[.slice (some ⟨w.heap.size, 0, none⟩) 1 1, .int .i64 0]; rwa [nblk_alloc] at hb, (hnew.alloc _).congr (fun i hi => by unfold rowW; rw [wd_beyond _ _ (by simp)]; rfl), by simp, by omega⟩, ((Fr.refl _ _).alloc _).alloc _, by simp⟩

/-- what '|=' makes of the row, and the size behind it -/
theorem snoc_true_world {w : World} {p g n : Nat} {bs : List Bool} (h : BA w p g n bs) (hlt : bs.length < 32 * n) :
    BA ((w.setCell ⟨g, bs.length / 32, none⟩ (.int .u32 (wd bs (bs.length / 32) ||| 2 ^ (bs.length % 32) : Nat))).setCell ⟨p, 1, none⟩ (.int .i64 ((bs.length + 1 : Nat) : Int))) p g n (bs ++ [true]) ∧
    Fr (Two p g) w ((w.setCell ⟨g, bs.length / 32, none⟩ (.int .u32 (wd bs (bs.length / 32) ||| 2 ^ (bs.length % 32) : Nat))).setCell ⟨p, 1, none⟩ (.int .i64 ((bs.length + 1 : Nat) : Int))) := by
  have hne := h.ne
  refine ⟨⟨by simpa using (h.st.far (p := ⟨g, _, none⟩) hne _).set_ 1 (.int .i64 ((bs.length + 1 : Nat) : Int)), ((h.ws.set _ _).setOther (fun e => hne e.symm) _).congr (fun i hi => ?_), by simp; omega, h.lim⟩,
      Fr.setCell (F := Two p g) (a := ⟨p, 1, none⟩) ((Fr.refl _ _).setCell (.inl (.inr rfl)) _) (.inl (.inl rfl)) _⟩
  show (if i = _ then Value.int .u32 _ else Value.int .u32 _) = Value.int .u32 _
  rw [wd_snoc_true]
  split
  · next e => rw [e]
  · rfl
theorem snoc_false_world {w : World} {p g n : Nat} {bs : List Bool} (h : BA w p g n bs) (hlt : bs.length < 32 * n) :
    BA (w.setCell ⟨p, 1, none⟩ (.int .i64 ((bs.length + 1 : Nat) : Int))) p g n (bs ++ [false]) ∧ Fr (Two p g) w (w.setCell ⟨p, 1, none⟩ (.int .i64 ((bs.length + 1 : Nat) : Int))) := by
  have hne := h.ne
  refine ⟨⟨by simpa using h.st.set_ 1 (.int .i64 ((bs.length + 1 : Nat) : Int)), (h.ws.setOther (fun e => hne e.symm) _).congr (fun i hi => ?_), by simp; omega, h.lim⟩, (Fr.refl _ _).setCell (.inl (.inl rfl)) _⟩
  show Value.int .u32 _ = Value.int .u32 _
  rw [wd_snoc_false]

theorem cast1 (n : Nat) : ((n + 1 : Nat) : Int) = (n : Int) + 1 := by omega
/-- what ensureCapacity leaves, whichever way it goes -/
def Ensured (w : World) (p g n : Nat) (bs : List Bool) (m : Nat) (w' : World) : Prop :=
  ∃ g' n', BA w' p g' n' bs ∧ m ≤ 32 * n' ∧ Fr (One p) w w' ∧ (g' = g ∨ w.heap.size ≤ g')
theorem ensure_calls {w : World} {p g n : Nat} {bs : List Bool} (h : BA w p g n bs) (m : Nat) (hM : m ≤ 1900000) :
    Calls Tryz.prog 112 #[.pointer (some ⟨p, 0, none⟩), .int .i64 m] w fun e w' => e = .returned (.tuple #[]) ∧ Ensured w p g n bs m w' := by
  by_cases hm : m ≤ 32 * n
  · exact (ensure_small h m (by omega)).mono fun e w' ⟨he, hw⟩ => ⟨he, by subst hw; exact ⟨g, n, h, hm, Fr.refl _ _, .inl rfl⟩⟩
  · exact (ensure_big h m ((m + 31) / 32) (by omega) (by omega) (by omega) (by omega)).mono fun e w' ⟨he, hb, hf⟩ => ⟨he, w.heap.size, _, hb, by omega, hf, .inr (Nat.le_refl _)⟩

/-- what an appending method leaves -/
def Put (w : World) (p g : Nat) (bs : List Bool) (w' : World) : Prop :=
  ∃ g' n', BA w' p g' n' bs ∧ Fr (Two p g) w w' ∧ (g' = g ∨ w.heap.size ≤ g')
theorem Ensured.put {w w1 : World} {p g n m : Nat} {bs cs : List Bool} (h : Ensured w p g n bs m w1) (hp : p < w.heap.size)
    (k : ∀ g' n', BA w1 p g' n' bs → m ≤ 32 * n' → ∃ w2, BA w2 p g' n' cs ∧ Fr (Two p g') w1 w2) : ∃ w2, Put w p g cs w2 := by
  obtain ⟨g', n', hb, hm, hf, hg⟩ := h
  obtain ⟨w2, hb2, hf2⟩ := k g' n' hb hm
  refine ⟨w2, g', n', hb2, ?_, hg⟩
  refine Fr.trans' (F := Two p g) (hf.mono fun i _ e => .inl e) hf2 fun i hi e => ?_
  rcases e with e | e
  · exact .inl e
  · rcases hg with hg | hg
    · exact .inr (by rw [e, hg])
    · omega
theorem Put.of {w w1 w2 : World} {p g g' n' : Nat} {cs : List Bool} (hf : Fr (One p) w w1) (hg : g' = g ∨ w.heap.size ≤ g') (h2 : BA w2 p g' n' cs) (hf2 : Fr (Two p g') w1 w2) : Put w p g cs w2 := by
  refine ⟨g', n', h2, Fr.trans' (F := Two p g) (hf.mono fun i _ e => .inl e) hf2 fun i hi e => ?_, hg⟩
  rcases e with e | e
  · exact .inl e
  · rcases hg with hg | hg
    · exact .inr (by rw [e, hg])
    · omega
theorem Put.trans {w w1 w2 : World} {p g : Nat} {bs cs : List Bool} (h : Put w p g bs w1) (k : ∀ g' n', BA w1 p g' n' bs → Put w1 p g' cs w2) : Put w p g cs w2 := by
  obtain ⟨g1, n1, hb1, hf1, hg1⟩ := h
  obtain ⟨g2, n2, hb2, hf2, hg2⟩ := k g1 n1 hb1
  refine ⟨g2, n2, hb2, Fr.trans' hf1 hf2 fun i hi e => ?_, ?_⟩
  · rcases e with e | e
    · exact .inl e
    · rcases hg1 with hg1 | hg1
      · exact .inr (by rw [e, hg1])
      · omega
  · have := hf1.size
    rcases hg2 with hg2 | hg2
    · rcases hg1 with hg1 | hg1
      · exact .inl (hg2.trans hg1)
      · exact .inr (by omega)
    · exact .inr (by omega)
theorem Put.keep {w w' : World} {p g q k n : Nat} {bs cs : List Bool} (h : Put w p g bs w') (hb : BA w q k n cs) (h1 : q ≠ p) (h2 : k ≠ p) (h3 : q ≠ g) (h4 : k ≠ g) : BA w' q k n cs := by
  obtain ⟨g', n', _, hf, _⟩ := h
  exact hb.fr hf (fun e => e.elim h1 h3) (fun e => e.elim h2 h4)

set_option maxHeartbeats 400000 in
theorem appendBit_true {w : World} {p g n : Nat} {bs : List Bool} (h : BA w p g n bs) (hM : bs.length ≤ 1800000) :
    Calls Tryz.prog 113 #[.pointer (some ⟨p, 0, none⟩), .bool true] w fun e w' => e = .returned (.tuple #[]) ∧ Put w p g (bs ++ [true]) w' := by
  have h0 := h.c1
  go_enter Tryz.func113, Tryz.ntmps113
  go_wp2_with fail
  rw [← cast1]
  refine (ensure_calls h (bs.length + 1) (by omega)).mono ?_
  rintro e w1 ⟨rfl, g', n', hB, hm, hf, hg⟩
  clear h0
  have h0 := hB.c0
  have h1 := hB.c1
  have hl := hB.lim
  have hc := hB.ws.cell (i := bs.length / 32) (by omega)
  have hcf := hB.ws.frozen (bs.length / 32)
  have hpf := hB.st.frozen 1
  have hb : bs.length / 32 < n' := by omega
  have HA := Lib.hid (or_bit bs (bs.length / 32) (bs.length % 32) (by omega))
  have HF := Lib.hid (snoc_true_world hB (by omega))
  unfold rowW at hc
  have hne : p ≠ g' := hB.ne
  have HG := Lib.hid hg
  clear hg
  go_wp2_with fail
  go_big_region
  go_wp2
  go_end0
  refine ⟨rfl, Put.of hf HG.out (n' := n') ?_ ?_⟩
  · rw [HA.out, ← cast1]; exact HF.out.1.drew
  · rw [HA.out, ← cast1]; exact HF.out.2.drew
set_option maxHeartbeats 400000 in
theorem appendBit_false {w : World} {p g n : Nat} {bs : List Bool} (h : BA w p g n bs) (hM : bs.length ≤ 1800000) :
    Calls Tryz.prog 113 #[.pointer (some ⟨p, 0, none⟩), .bool false] w fun e w' => e = .returned (.tuple #[]) ∧ Put w p g (bs ++ [false]) w' := by
  have h0 := h.c1
  go_enter Tryz.func113, Tryz.ntmps113
  go_wp2_with fail
  rw [← cast1]
  refine (ensure_calls h (bs.length + 1) (by omega)).mono ?_
  rintro e w1 ⟨rfl, g', n', hB, hm, hf, hg⟩
  clear h0
  have h1 := hB.c1
  have hl := hB.lim
  have hpf := hB.st.frozen 1
  have HF := Lib.hid (snoc_false_world hB (by omega))
  have HG := Lib.hid hg
  clear hg
  go_wp2
  go_end0
  refine ⟨rfl, Put.of hf HG.out (n' := n') ?_ ?_⟩
  · rw [← cast1]; exact HF.out.1
  · rw [← cast1]; exact HF.out.2
theorem appendBit_calls {w : World} {p g n : Nat} {bs : List Bool} (h : BA w p g n bs) (hM : bs.length ≤ 1800000) (b : Bool) :
    Calls Tryz.prog 113 #[.pointer (some ⟨p, 0, none⟩), .bool b] w fun e w' => e = .returned (.tuple #[]) ∧ Put w p g (bs ++ [b]) w' := by
  cases b
  · exact appendBit_false h hM
  · exact appendBit_true h hM
end Go.Proofs.YtcekbhhpcmhicaaGreatDoor
/- BitArray: the methods with loops: AppendBits, AppendBitArray, Xor, ToBytes. -/
namespace Go.Proofs.YtcekbhhpcmhicaaGreatDoor
open Go Go.RowKit Go.Deep
set_option maxRecDepth 100000
/-- the low n bits of v, the highest one first -/
def msb (v : Nat) : Nat → List Bool
  | 0 => []
  | n + 1 => v.testBit n :: msb v n
theorem msb_length (v n : Nat) : (msb v n).length = n := by induction n with
  | zero => rfl
  | succ n ih => simp [msb, ih]
theorem msb_getElem (v : Nat) : ∀ (n j : Nat), j < n → (msb v n)[j]? = some (v.testBit (n - 1 - j))
  | 0, _, h => absurd h (Nat.not_lt_zero _)
  | n + 1, 0, _ => by simp [msb]
  | n + 1, j + 1, h => by
    simp only [msb, List.getElem?_cons_succ]
    rw [msb_getElem v n j (by omega)]
    congr 2; omega
theorem msb_take_succ (v n j : Nat) (h : j < n) : (msb v n).take (j + 1) = (msb v n).take j ++ [v.testBit (n - 1 - j)] := by
  have hj : j < (msb v n).length := by rw [msb_length]; exact h
  rw [List.take_succ_eq_append_getElem hj]
  congr 2
  have := msb_getElem v n j h
  rw [List.getElem?_eq_getElem hj] at this
  exact Option.some.inj this
/-- in the middle of an appending loop -/
structure Mid (w1 wr : World) (p g n : Nat) (bs cs : List Bool) : Prop where
  st : Blk wr p 187 #[.slice (some ⟨g, 0, none⟩) n n, .int .i64 (bs.length : Nat)]
  ws : wr.rowIs g 252 n (rowW (bs ++ cs))
  fr : Fr (One g) w1 wr
theorem Mid.start {w : World} {p g n : Nat} {bs : List Bool} (h : BA w p g n bs) : Mid w w p g n bs [] := ⟨h.st, by rw [List.append_nil]; exact h.ws, Fr.refl _ _⟩
theorem Mid.no {w1 wr : World} {p g n : Nat} {bs cs : List Bool} (h : Mid w1 wr p g n bs cs) : Mid w1 wr p g n bs (cs ++ [false]) :=
  ⟨h.st, h.ws.congr (fun i _ => by show Value.int .u32 _ = Value.int .u32 _; rw [← List.append_assoc, wd_snoc_false]), h.fr⟩
theorem Mid.yes {w1 wr : World} {p g n : Nat} {bs cs : List Bool} (h : Mid w1 wr p g n bs cs) :
    Mid w1 (wr.setCell ⟨g, (bs ++ cs).length / 32, none⟩ (.int .u32 (wd (bs ++ cs) ((bs ++ cs).length / 32) ||| 2 ^ ((bs ++ cs).length % 32) : Nat))).drew p g n bs (cs ++ [true]) := by
  have hne := h.st.row_ne h.ws (by decide)
  refine ⟨h.st.far (p := ⟨g, _, none⟩) hne _, World.rowIs.drew ((h.ws.set _ _).congr (fun i _ => ?_)), (Fr.setCell (F := One g) (a := ⟨g, _, none⟩) h.fr (.inl rfl) _).drew⟩
  show (if i = _ then Value.int .u32 _ else Value.int .u32 _) = Value.int .u32 _
  rw [← List.append_assoc, wd_snoc_true]
  split
  · next e => rw [e]
  · rfl
theorem Mid.done {w1 wr : World} {p g n : Nat} {bs cs : List Bool} (h : Mid w1 wr p g n bs cs) (hfit : (bs ++ cs).length ≤ 32 * n) (hn : n ≤ 60000) :
    BA (wr.setCell ⟨p, 1, none⟩ (.int .i64 ((bs ++ cs).length : Nat))) p g n (bs ++ cs) ∧ Fr (Two p g) w1 (wr.setCell ⟨p, 1, none⟩ (.int .i64 ((bs ++ cs).length : Nat))) := by
  have hne := h.st.row_ne h.ws (by decide)
  exact ⟨⟨by simpa using h.st.set_ 1 (.int .i64 ((bs ++ cs).length : Nat)), h.ws.setOther (fun e => hne e.symm) _, hfit, hn⟩, Fr.setCell (F := Two p g) (a := ⟨p, 1, none⟩) (h.fr.mono fun _ _ e => .inr e) (.inl (.inl rfl)) _⟩

theorem i64_and_nat (a b : Nat) (ha : a < 9223372036854775808) (hb : b < 9223372036854775808) : bits .and .i64 (a : Int) (b : Int) = ((a &&& b : Nat) : Int) := by
  have e : ∀ a : Nat, a < 9223372036854775808 → (BitVec.ofInt 64 (a : Int)).toNat = a := fun a ha => by rw [BitVec.ofInt_natCast, BitVec.toNat_ofNat]; exact Nat.mod_eq_of_lt (by omega)
  have hx : a &&& b < 2 ^ 63 := Nat.and_lt_two_pow _ (by omega)
  show IntKind.i64.wrap ((BitVec.ofInt 64 (a : Int) &&& BitVec.ofInt 64 (b : Int)).toNat : Int) = _
  rw [BitVec.toNat_and, e a ha, e b hb, IntKind.wrap_i64]
  omega
theorem wrap64_small (n : Nat) (h : n < 9223372036854775808) : wrap64 (n : Int) = n := by unfold wrap64; omega
theorem and31 (q : Nat) (h : q < 9223372036854775808) : bits .and .i64 (q : Int) 31 = (q : Int) % 32 := by
  have := i64_and_nat q 31 h (by omega)
  have e : q &&& 31 = q % 32 := Nat.and_two_pow_sub_one_eq_mod q 5
  rw [e] at this
  exact this
theorem and_pow (v k : Nat) : (v &&& 2 ^ k != 0) = v.testBit k := by
  have h : v &&& 2 ^ k = if v.testBit k then 2 ^ k else 0 := by
    apply Nat.eq_of_testBit_eq
    intro j
    rw [Nat.testBit_and, Nat.testBit_two_pow]
    by_cases h : k = j
    · subst h; cases hf : v.testBit k <;> simp [Nat.testBit_two_pow_self]
    · cases hf : v.testBit k <;> simp [h, Nat.testBit_two_pow]
  rw [h]
  cases v.testBit k <;> simp
theorem msb_test (v k : Nat) (hv : v < 4294967296) (hk : k < 32) : (bits .and .i64 (v : Int) (wrap64 ((2 : Int) ^ k)) != 0) = v.testBit k := by
  have e : ((2 : Int) ^ k) = ((2 ^ k : Nat) : Int) := by push_cast; rfl
  have h2 := pow_lt32 k hk
  have e2 : wrap64 ((2 : Int) ^ k) = ((2 ^ k : Nat) : Int) := by rw [e]; exact wrap64_small _ (by omega)
  rw [e2, i64_and_nat _ _ (by omega) (by omega), ← and_pow]
  rw [Bool.eq_iff_iff]; simp

set_option maxHeartbeats 800000 in
theorem appendBits_calls {w : World} {p g n : Nat} {bs : List Bool} (h : BA w p g n bs) (hM : bs.length ≤ 1800000) (v N : Nat) (hv : v < 4294967296) (hN : N ≤ 32) :
    Calls Tryz.prog 101 #[.pointer (some ⟨p, 0, none⟩), .int .i64 v, .int .i64 N] w fun e w' => e = .returned .nilIface ∧ Put w p g (bs ++ msb v N) w' := by
  have h0 := h.c1
  go_enter Tryz.func101, Tryz.ntmps101
  go_wp2_with fail
  rw [← Int.natCast_add]
  refine (ensure_calls h (bs.length + N) (by omega)).mono ?_
  rintro e w1 ⟨rfl, g', n', hB, hm, hf, hg⟩
  clear h0
  have HG := Lib.hid hg
  clear hg
  have hl := hB.lim
  have hne : p ≠ g' := hB.ne
  have hM0 := Mid.start hB
  go_wp2_with fail
  go_loopg [7, 8] N (fun k s7 s8 wr => ∃ j q : Nat, Hid (j + k = N ∧ q = bs.length + j) ∧ s7 = .int .i64 q ∧ s8 = .int .i64 ((k : Int) - 1) ∧ Mid w1 wr p g' n' bs ((msb v N).take j))
  case atStart => exact ⟨0, bs.length, Lib.hid ⟨by omega, by omega⟩, rfl, rfl, hM0⟩
  case round =>
    obtain ⟨j, q, HJ, rfl, rfl, hMid⟩ := hrel
    have h0 : wr.cell? ⟨p, 0, none⟩ = some (.slice (some ⟨g', 0, none⟩) n' n') := by simpa using hMid.st.cell 0
    have h1 : wr.cell? ⟨p, 1, none⟩ = some (.int .i64 (bs.length : Nat)) := by simpa using hMid.st.cell 1
    have hpf := hMid.st.frozen 1
    clear hM0
    cases gk with
    | zero =>
      have HE : Hid (bs ++ msb v N = bs ++ (msb v N).take j ∧ q = (bs ++ (msb v N).take j).length) := by
        obtain ⟨h1, h2⟩ := HJ.out
        have : (msb v N).take j = msb v N := List.take_of_length_le (by rw [msb_length]; omega)
        exact ⟨by rw [this], by rw [List.length_append, this, msb_length]; omega⟩
      have hq : q ≤ bs.length + N := by have := HJ.out; omega
      go_wp2
      go_ret
      refine ⟨rfl, Put.of hf HG.out (n' := n') (g' := g') ?_ ?_⟩
      · rw [HE.out.1, HE.out.2]; exact (hMid.done (by rw [← HE.out.2]; omega) hl).1
      · rw [HE.out.2]; exact (hMid.done (by rw [← HE.out.2]; omega) hl).2
    | succ k =>
      have hk : k < 32 := by have := HJ.out; omega
      have hq : q < 32 * n' := by have := HJ.out; omega
      have hqb : q / 32 < n' := by omega
      have HE : Hid (q = (bs ++ (msb v N).take j).length ∧ (msb v N).take (j + 1) = (msb v N).take j ++ [v.testBit k]) := by
        obtain ⟨h1, h2⟩ := HJ.out
        exact ⟨by rw [List.length_append, List.length_take, msb_length]; omega, by rw [msb_take_succ v N j (by omega)]; congr 3; omega⟩
      have hT := msb_test v k hv hk
      cases hb : v.testBit k with
      | false =>
        rw [hb] at hT
        go_wp2
        go_roundg k
        case measure => omega
        case rel => exact ⟨j + 1, q + 1, Lib.hid (by have := HJ.out; omega), by go_num, by go_num, by rw [HE.out.2, hb]; exact hMid.no⟩
      | true =>
        rw [hb] at hT
        have hc := hMid.ws.cell hqb
        have hcf := hMid.ws.frozen (q / 32)
        have hand := and31 q (by omega)
        unfold rowW at hc
        have HA := Lib.hid (or_bit (bs ++ (msb v N).take j) (q / 32) (q % 32) (by omega))
        go_wp2_with fail
        go_big_region
        go_wp2
        go_roundg k
        case measure => omega
        case rel =>
          refine ⟨j + 1, q + 1, Lib.hid (by have := HJ.out; omega), by go_num, by go_num, ?_⟩
          rw [HE.out.2, hb, HA.out]
          have hy := hMid.yes
          rw [← HE.out.1] at hy
          exact hy

/-- the number that n bits from pos on say, the highest one first -/
def rd (bs : List Bool) (pos n : Nat) : Nat := wf (fun b => bs.getD (pos + (n - 1 - b)) false) n
theorem u8_or_nat (a b : Nat) (ha : a < 256) (hb : b < 256) : bits .or .u8 (a : Int) (b : Int) = ((a ||| b : Nat) : Int) := by
  have e : ∀ a : Nat, a < 256 → (BitVec.ofInt 8 (a : Int)).toNat = a := fun a ha => by rw [BitVec.ofInt_natCast, BitVec.toNat_ofNat]; exact Nat.mod_eq_of_lt (by omega)
  have hx : a ||| b < 2 ^ 8 := Nat.or_lt_two_pow (by omega) (by omega)
  show IntKind.u8.wrap ((BitVec.ofInt 8 (a : Int) ||| BitVec.ofInt 8 (b : Int)).toNat : Int) = _
  rw [BitVec.toNat_or, e a ha, e b hb]
  simp [IntKind.wrap, IntKind.bits, IntKind.signed]; omega
/-- a byte of which j bits are read -/
def part (bs : List Bool) (pos j : Nat) : Nat := wf (fun b => decide (8 - j ≤ b) && bs.getD (pos + (7 - b)) false) 8
theorem part_zero (bs : List Bool) (pos : Nat) : part bs pos 0 = 0 := by
  unfold part
  rw [wf_congr (g := fun _ => false) (fun b hb => by simp; omega)]
  exact wf_zero 8
theorem part_eight (bs : List Bool) (pos : Nat) : part bs pos 8 = rd bs pos 8 := by
  unfold part rd
  exact wf_congr fun b hb => by simp
theorem part_lt (bs : List Bool) (pos j : Nat) : part bs pos j < 256 := wf_lt _ 8
theorem part_no (bs : List Bool) (pos j : Nat) (hj : j < 8) (h : bs.getD (pos + j) false = false) : part bs pos (j + 1) = part bs pos j := by
  unfold part
  refine wf_congr fun b hb => ?_
  by_cases e : b = 7 - j
  · subst e
    rw [show pos + (7 - (7 - j)) = pos + j from by omega, h]; simp
  · have : (8 - (j + 1) ≤ b) ↔ (8 - j ≤ b) := by omega
    simp only [this]
theorem part_yes (bs : List Bool) (pos j : Nat) (hj : j < 8) (h : bs.getD (pos + j) false = true) : part bs pos (j + 1) = part bs pos j ||| 2 ^ (7 - j) := by
  unfold part
  rw [wf_or _ _ _ (by omega)]
  refine wf_congr fun b hb => ?_
  by_cases e : b = 7 - j
  · subst e
    have h1 : 8 - (j + 1) ≤ 7 - j := by omega
    rw [show pos + (7 - (7 - j)) = pos + j from by omega, h]; simp [h1]
  · have : (8 - (j + 1) ≤ b) ↔ (8 - j ≤ b) := by omega
    simp only [this]
    simp [e]
theorem pow8_mod (k : Nat) (h : k < 8) : (2 : Int) ^ k % 256 = ((2 ^ k : Nat) : Int) := by
  have h2 : 2 ^ k < 256 := Nat.pow_lt_pow_right (m := k) (n := 8) (by omega) h
  have e : ((2 : Int) ^ k) = ((2 ^ k : Nat) : Int) := by push_cast; rfl
  rw [e]
  exact Int.emod_eq_of_lt (Int.natCast_nonneg _) (by omega)
theorem part_or (bs : List Bool) (pos j k : Nat) (hk : k < 8) : bits .or .u8 (part bs pos j : Nat) ((2 : Int) ^ k % 256) = ((part bs pos j ||| 2 ^ k : Nat) : Int) := by
  rw [pow8_mod k hk]
  exact u8_or_nat _ _ (part_lt _ _ _) (Nat.pow_lt_pow_right (m := k) (n := 8) (by omega) hk)

set_option maxHeartbeats 800000 in
theorem appendBitArray_calls {w : World} {p g n q k m : Nat} {bs cs : List Bool} (h : BA w p g n bs) (h2 : BA w q k m cs) (hM : bs.length + cs.length ≤ 1800000) (n1 : q ≠ p) (n2 : k ≠ p) (n3 : q ≠ g) (n4 : k ≠ g) :
    Calls Tryz.prog 54 #[.pointer (some ⟨p, 0, none⟩), .pointer (some ⟨q, 0, none⟩)] w fun e w' => e = .returned (.tuple #[]) ∧ Put w p g (bs ++ cs) w' := by
  have h0 := h.c1
  have h1 := h2.c1
  go_enter Tryz.func54, Tryz.ntmps54
  go_wp2_with fail
  rw [← Int.natCast_add]
  refine (ensure_calls h (bs.length + cs.length) (by omega)).mono ?_
  rintro e w1 ⟨rfl, g', n', hB, hm, hf, hg⟩
  clear h0 h1
  have hP1 : Put w p g (bs ++ cs.take 0) w1 := ⟨g', n', by simpa using hB, hf.mono fun _ _ e => .inl e, hg⟩
  clear hB hf hg
  go_wp2_with fail
  go_loopg [5] cs.length (fun r s5 wr => ∃ j : Nat, Hid (j + r = cs.length) ∧ s5 = .int .i64 j ∧ Put w p g (bs ++ cs.take j) wr)
  case atStart => exact ⟨0, Lib.hid (by omega), rfl, hP1⟩
  case round =>
    obtain ⟨j, HJ, rfl, hP⟩ := hrel
    clear hP1 hm
    have hc := hP.keep h2 n1 n2 n3 n4
    cases gk with
    | zero =>
      have hj : j = cs.length := by have := HJ.out; omega
      subst hj
      go_wp2
      go_end0
      exact ⟨rfl, by simpa using hP⟩
    | succ r =>
      have hj : j < cs.length := by have := HJ.out; omega
      have hfit := h2.fit
      go_wp2_with fail
      refine (get_calls hc j (by omega)).mono ?_
      rintro e w2 ⟨rfl, rfl⟩
      go_wp2_with fail
      have HP := Lib.hid hP
      obtain ⟨g2, m2, hb2, hf2, hg2⟩ := hP
      have HG := Lib.hid hg2
      clear hg2
      refine (appendBit_calls hb2 (by rw [List.length_append, List.length_take]; omega) _).mono ?_
      rintro e w2 ⟨rfl, hP2⟩
      go_wp2
      go_roundg r
      case measure => omega
      case rel =>
        refine ⟨j + 1, Lib.hid (by have := HJ.out; omega), by go_num, ?_⟩
        refine HP.out.trans (cs := bs ++ cs.take (j + 1)) (fun g3 n3 hb3 => ?_)
        have e1 : bs ++ cs.take (j + 1) = bs ++ cs.take j ++ [cs[j]] := by
          rw [List.append_assoc, List.take_succ_eq_append_getElem hj]
        rw [e1]
        have : g3 = g2 := by
          have a := hb3.c0; have b := hb2.c0; rw [a] at b; simp at b; exact b.1
        rw [this]; exact hP2

set_option maxHeartbeats 800000 in
theorem toBytes_calls {w : World} {p g n a N C : Nat} {bs : List Bool} {F : Nat → Value} (h : BA w p g n bs) (pos : Nat) (hpos : pos + 8 * N ≤ 32 * n) (ha : w.rowIs a 5 N F) :
    Calls Tryz.prog 116 #[.pointer (some ⟨p, 0, none⟩), .int .i64 pos, .slice (some ⟨a, 0, none⟩) N C, .int .i64 0, .int .i64 N] w fun e w' => e = .returned (.tuple #[]) ∧
      w'.rowIs a 5 N (fun i => .int .u8 (rd bs (pos + 8 * i) 8 : Nat)) ∧ Fr (One a) w w' := by
  have hap : p ≠ a := h.st.row_ne ha (by decide)
  have hag : g ≠ a := row_ne h.ws ha (by decide)
  have hl := h.lim
  have h00 : w.rowIs a 5 N (fun i => if i < 0 then .int .u8 (rd bs (pos + 8 * i) 8 : Nat) else F i) := ha.congr fun i _ => by simp
  go_enter Tryz.func116, Tryz.ntmps116
  go_wp2_with fail
  go_loopg [1, 10, 11, 12] N (fun r s1 s10 s11 s12 wr => ∃ i q : Nat, Hid (i + r = N ∧ q = pos + 8 * i) ∧ s10 = .int .i64 i ∧ s1 = .int .i64 q ∧ wr.rowIs a 5 N (fun t => if t < i then .int .u8 (rd bs (pos + 8 * t) 8 : Nat) else F t) ∧ Fr (One a) w wr)
  case atStart => exact ⟨0, pos, Lib.hid (by omega), rfl, rfl, h00, Fr.refl _ _⟩
  case round =>
    obtain ⟨i, q, HJ, rfl, rfl, hrow, hfr⟩ := hrel
    clear h00
    cases gk with
    | zero =>
      have hj : i = N := by have := HJ.out; omega
      subst hj
      go_wp2
      go_end0
      exact ⟨rfl, hrow.congr (fun t ht => by rw [if_pos ht]), hfr⟩
    | succ r =>
      have hi : i < N := by have := HJ.out; omega
      have hiz : (i : Int) < N := by omega
      have hbw : BA wr p g n bs := h.fr hfr (fun e => hap e) (fun e => hag e)
      have hc := hrow.cell hi
      have hcf := hrow.frozen i
      simp only [Nat.lt_irrefl, if_false] at hc
      go_wp2_with fail
      go_loopg [1, 11, 12] 8 (fun r s1 s11 s12 wx => ∃ j q2 : Nat, Hid (j + r = 8 ∧ q2 = q + j) ∧ s12 = .int .i64 j ∧ s1 = .int .i64 q2 ∧ s11 = .int .u8 (part bs q j : Nat) ∧ wr = wx)
      case atStart => exact ⟨0, q, Lib.hid (by omega), rfl, rfl, by rw [part_zero]; rfl, rfl⟩
      case round =>
        obtain ⟨j, q2, HK, rfl, rfl, rfl, rfl⟩ := hrel
        cases gk with
        | zero =>
          have hj : j = 8 := by have := HK.out; omega
          subst hj
          have hq2 : q2 ≤ 100000000 := by have := HK.out; have := HJ.out; omega
          go_wp2
          go_roundg r
          case measure => omega
          case rel =>
            refine ⟨i + 1, q2, Lib.hid (by have := HK.out; have := HJ.out; omega), by go_num, rfl, (hrow.set i _).congr (fun t ht => ?_), hfr.set1 _ _⟩
            have hq : q = pos + 8 * i := HJ.out.2
            by_cases e : t = i
            · subst e
              rw [if_pos rfl, if_pos (by omega), part_eight, hq]
            · rw [if_neg e]
              by_cases e2 : t < i
              · rw [if_pos e2, if_pos (by omega)]
              · rw [if_neg e2, if_neg (by omega)]
        | succ k =>
          have hk : k < 8 := by have := HK.out; omega
          have hj : j < 8 := by have := HK.out; omega
          have hj7 : (7 : Int) - j = k := by have := HK.out; omega
          have hq2 : q2 < 32 * n := by have := HK.out; have := HJ.out; omega
          have HO := Lib.hid (part_or bs q j k hk)
          have HQ : Hid (q2 = q + j ∧ k = 7 - j) := by have := HK.out; exact Lib.hid (by omega)
          clear hc hcf
          cases hb : bs.getD q2 false with
          | false =>
            have hg := get_calls hbw q2 hq2
            rw [hb] at hg
            have HG := Lib.hid hg
            clear hg
            have HB := Lib.hid hb
            clear hb
            go_wp2_with fail
            refine HG.out.mono ?_
            rintro e w2 ⟨rfl, rfl⟩
            go_wp2
            go_roundg k
            case measure => omega
            case rel => exact ⟨j + 1, q2 + 1, Lib.hid (by have := HK.out; omega), by go_num, by go_num, by rw [part_no bs q j hj (by rw [← HQ.out.1]; exact HB.out)], rfl⟩
          | true =>
            have hg := get_calls hbw q2 hq2
            rw [hb] at hg
            have HG := Lib.hid hg
            clear hg
            have HB := Lib.hid hb
            clear hb
            go_wp2_with fail
            refine HG.out.mono ?_
            rintro e w2 ⟨rfl, rfl⟩
            go_wp2
            go_roundg k
            case measure => omega
            case rel => exact ⟨j + 1, q2 + 1, Lib.hid (by have := HK.out; omega), by go_num, by go_num, by rw [part_yes bs q j hj (by rw [← HQ.out.1]; exact HB.out), ← HQ.out.2, ← HO.out], rfl⟩

theorem getD_zip (bs cs : List Bool) (i : Nat) (h : bs.length = cs.length) : (List.zipWith (fun a b => a ^^ b) bs cs).getD i false = (bs.getD i false ^^ cs.getD i false) := by
  simp only [List.getD_eq_getElem?_getD, List.getElem?_zipWith]
  by_cases hi : i < bs.length
  · rw [List.getElem?_eq_getElem hi, List.getElem?_eq_getElem (by omega)]; rfl
  · rw [List.getElem?_eq_none (by omega), List.getElem?_eq_none (by omega)]; rfl
theorem wd_zip (bs cs : List Bool) (k : Nat) (h : bs.length = cs.length) : wd (List.zipWith (fun a b => a ^^ b) bs cs) k = wd bs k ^^^ wd cs k := by
  unfold wd
  rw [wf_xor_wf]
  exact wf_congr fun j _ => getD_zip _ _ _ h
set_option maxHeartbeats 800000 in
theorem xor_calls {w : World} {p g n q k m : Nat} {bs cs : List Bool} (h : BA w p g n bs) (h2 : BA w q k m cs) (hlen : bs.length = cs.length) (hn : n ≤ m) (n1 : q ≠ p) (n4 : k ≠ g) :
    Calls Tryz.prog 206 #[.pointer (some ⟨p, 0, none⟩), .pointer (some ⟨q, 0, none⟩)] w fun e w' => e = .returned .nilIface ∧ BA w' p g n (List.zipWith (fun a b => a ^^ b) bs cs) ∧ Fr (One g) w w' := by
  have h0 := h.c1
  have h1 := h2.c1
  rw [← hlen] at h1
  have hpg := h.ne
  have hqg : q ≠ g := h2.st.row_ne h.ws (by decide)
  have hl := h.lim
  have h00 : w.rowIs g 252 n (fun t => if t < 0 then rowW (List.zipWith (fun a b => a ^^ b) bs cs) t else rowW bs t) := h.ws.congr fun i _ => by simp
  have HL := Lib.hid hlen
  clear hlen
  go_enter Tryz.func206, Tryz.ntmps206
  go_wp2_with fail
  go_quiet (fail)
  go_wp2_with fail
  clear h0 h1
  go_loopg [5] n (fun r s5 wr => ∃ j : Nat, Hid (j + r = n) ∧ s5 = .int .i64 j ∧ wr.rowIs g 252 n (fun t => if t < j then rowW (List.zipWith (fun a b => a ^^ b) bs cs) t else rowW bs t) ∧ Fr (One g) w wr)
  case atStart => exact ⟨0, Lib.hid (by omega), rfl, h00, (Fr.refl _ _).drewN _⟩
  case round =>
    obtain ⟨j, HJ, rfl, hrow, hfr⟩ := hrel
    clear h00
    have hst := h.st.fr hfr (fun e => hpg e)
    have hst2 := h2.st.fr hfr (fun e => hqg e)
    have hrow2 := rowFr h2.ws hfr n4
    have c0 : wr.cell? ⟨p, 0, none⟩ = some (.slice (some ⟨g, 0, none⟩) n n) := by simpa using hst.cell 0
    have c2 : wr.cell? ⟨q, 0, none⟩ = some (.slice (some ⟨k, 0, none⟩) m m) := by simpa using hst2.cell 0
    cases gk with
    | zero =>
      have hj : j = n := by have := HJ.out; omega
      subst hj
      go_wp2
      go_ret
      refine ⟨rfl, ⟨?_, hrow.congr (fun t ht => by rw [if_pos ht]), ?_, hl⟩, hfr⟩
      · have e : (List.zipWith (fun a b => a ^^ b) bs cs).length = bs.length := by rw [List.length_zipWith, HL.out]; exact Nat.min_self _
        rw [e]; exact hst
      · have := h.fit; rw [List.length_zipWith]; omega
    | succ r =>
      have hj : j < n := by have := HJ.out; omega
      have hjz : (j : Int) < n := by omega
      have hjm : (j : Int) < m := by omega
      have hc := hrow.cell hj
      have hcf := hrow.frozen j
      have hc2 := hrow2.cell (i := j) (by omega)
      simp only [Nat.lt_irrefl, if_false] at hc
      unfold rowW at hc hc2
      have HX := Lib.hid (u32_xor_nat (wd bs j) (wd cs j) (wd_lt _ _) (wd_lt _ _))
      clear hst hst2 hrow2
      go_wp2_with fail
      go_big_region
      go_wp2
      go_roundg r
      case measure => omega
      case rel =>
        refine ⟨j + 1, Lib.hid (by have := HJ.out; omega), by go_num, ((hrow.set j _).congr (fun t ht => ?_)).drew, (hfr.set1 _ _).drew⟩
        by_cases e : t = j
        · subst e
          rw [if_pos rfl, if_pos (by omega), HX.out]
          unfold rowW; rw [wd_zip _ _ _ HL.out]
        · rw [if_neg e]
          by_cases e2 : t < j
          · rw [if_pos e2, if_pos (by omega)]
          · rw [if_neg e2, if_neg (by omega)]
end Go.Proofs.YtcekbhhpcmhicaaGreatDoor
/- AppendBits where there is room: the words stay in their block. -/
namespace Go.Proofs.YtcekbhhpcmhicaaGreatDoor
open Go Go.RowKit Go.Deep
set_option maxRecDepth 100000
theorem ensure_room {w : World} {p g n : Nat} {bs : List Bool} (h : BA w p g n bs) (m : Nat) (hm : m ≤ 32 * n) :
    Calls Tryz.prog 112 #[.pointer (some ⟨p, 0, none⟩), .int .i64 m] w fun e w' => e = .returned (.tuple #[]) ∧ w = w' := ensure_small h m (by omega)
set_option maxHeartbeats 800000 in
theorem appendBits_room {w : World} {p g n : Nat} {bs : List Bool} (h : BA w p g n bs) (v N : Nat) (hR : bs.length + N ≤ 32 * n) (hv : v < 4294967296) (hN : N ≤ 32) :
    Calls Tryz.prog 101 #[.pointer (some ⟨p, 0, none⟩), .int .i64 v, .int .i64 N] w fun e w' => e = .returned .nilIface ∧ BA w' p g n (bs ++ msb v N) ∧ Fr (Two p g) w w' := by
  have hM : bs.length ≤ 2000000 := by have := h.lim; have := h.fit; omega
  have h0 := h.c1
  go_enter Tryz.func101, Tryz.ntmps101
  go_wp2_with fail
  rw [← Int.natCast_add]
  refine (ensure_room h (bs.length + N) hR).mono ?_
  rintro e w1 ⟨rfl, rfl⟩
  clear h0
  have hB := h
  have hl := hB.lim
  have hne : p ≠ g := hB.ne
  have hM0 := Mid.start hB
  go_wp2_with fail
  go_loopg [7, 8] N (fun k s7 s8 wr => ∃ j q : Nat, Hid (j + k = N ∧ q = bs.length + j) ∧ s7 = .int .i64 q ∧ s8 = .int .i64 ((k : Int) - 1) ∧ Mid w wr p g n bs ((msb v N).take j))
  case atStart => exact ⟨0, bs.length, Lib.hid ⟨by omega, by omega⟩, rfl, rfl, hM0⟩
  case round =>
    obtain ⟨j, q, HJ, rfl, rfl, hMid⟩ := hrel
    have h0 : wr.cell? ⟨p, 0, none⟩ = some (.slice (some ⟨g, 0, none⟩) n n) := by simpa using hMid.st.cell 0
    have h1 : wr.cell? ⟨p, 1, none⟩ = some (.int .i64 (bs.length : Nat)) := by simpa using hMid.st.cell 1
    have hpf := hMid.st.frozen 1
    clear hM0
    cases gk with
    | zero =>
      have HE : Hid (bs ++ msb v N = bs ++ (msb v N).take j ∧ q = (bs ++ (msb v N).take j).length) := by
        obtain ⟨h1, h2⟩ := HJ.out
        have : (msb v N).take j = msb v N := List.take_of_length_le (by rw [msb_length]; omega)
        exact ⟨by rw [this], by rw [List.length_append, this, msb_length]; omega⟩
      have hq : q ≤ bs.length + N := by have := HJ.out; omega
      go_wp2
      go_ret
      refine ⟨rfl, ?_, ?_⟩
      · rw [HE.out.1, HE.out.2]; exact (hMid.done (by rw [← HE.out.2]; omega) hl).1
      · rw [HE.out.2]; exact (hMid.done (by rw [← HE.out.2]; omega) hl).2
    | succ k =>
      have hk : k < 32 := by have := HJ.out; omega
      have hq : q < 32 * n := by have := HJ.out; omega
      have hqb : q / 32 < n := by omega
      have HE : Hid (q = (bs ++ (msb v N).take j).length ∧ (msb v N).take (j + 1) = (msb v N).take j ++ [v.testBit k]) := by
        obtain ⟨h1, h2⟩ := HJ.out
        exact ⟨by rw [List.length_append, List.length_take, msb_length]; omega, by rw [msb_take_succ v N j (by omega)]; congr 3; omega⟩
      have hT := msb_test v k hv hk
      cases hb : v.testBit k with
      | false =>
        rw [hb] at hT
        go_wp2
        go_roundg k
        case measure => omega
        case rel => exact ⟨j + 1, q + 1, Lib.hid (by have := HJ.out; omega), by go_num, by go_num, by rw [HE.out.2, hb]; exact hMid.no⟩
      | true =>
        rw [hb] at hT
        have hc := hMid.ws.cell hqb
        have hcf := hMid.ws.frozen (q / 32)
        have hand := and31 q (by omega)
        unfold rowW at hc
        have HA := Lib.hid (or_bit (bs ++ (msb v N).take j) (q / 32) (q % 32) (by omega))
        go_wp2_with fail
        go_big_region
        go_wp2
        go_roundg k
        case measure => omega
        case rel =>
          refine ⟨j + 1, q + 1, Lib.hid (by have := HJ.out; omega), by go_num, by go_num, ?_⟩
          rw [HE.out.2, hb, HA.out]
          have hy := hMid.yes
          rw [← HE.out.1] at hy
          exact hy

end Go.Proofs.YtcekbhhpcmhicaaGreatDoor
