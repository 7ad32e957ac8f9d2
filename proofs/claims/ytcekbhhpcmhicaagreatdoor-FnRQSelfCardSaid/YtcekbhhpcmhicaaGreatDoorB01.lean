/- Words for memory: what a call may have written ('Fr'), a block that is known whole ('Blk'), a row ('rowIs') carried over both; bits of a machine word as a function. No program. -/
import Derived.WalkKit
import Derived.Deep.LoopGhost
import Derived.Deep.OwnRows
import Derived.Deep.Draws
import Derived.Lib.Hide
import Derived.Laws.CopyOwn
import Derived.Laws.CopyRow
set_option linter.unusedSimpArgs false
set_option linter.unusedVariables false
namespace Go.Proofs.YtcekbhhpcmhicaaGreatDoor
open Go Go.RowKit Go.Deep

/-- Of the blocks that were there, none outside F has turned. -/
structure Fr (F : Nat → Prop) (w w' : World) : Prop where
  os : w'.os = w.os
  tape : w'.tape = w.tape
  output : w'.output = w.output
  size : w.heap.size ≤ w'.heap.size
  block : ∀ k, k < w.heap.size → ¬ F k → w'.heap[k]? = w.heap[k]?

/-- No old block has turned. -/
def Nil : Nat → Prop := fun _ => False
/-- Block g alone. -/
def One (g : Nat) : Nat → Prop := fun k => k = g
/-- Blocks g and h alone. -/
def Two (g h : Nat) : Nat → Prop := fun k => k = g ∨ k = h

section
variable {F G : Nat → Prop} {w w' w'' : World}
theorem Fr.refl (F : Nat → Prop) (w : World) : Fr F w w := ⟨rfl, rfl, rfl, Nat.le_refl _, fun _ _ _ => rfl⟩
theorem Fr.trans (h : Fr F w w') (k : Fr F w' w'') : Fr F w w'' :=
  ⟨k.os.trans h.os, k.tape.trans h.tape, k.output.trans h.output, Nat.le_trans h.size k.size, fun i hi hf => (k.block i (Nat.lt_of_lt_of_le hi h.size) hf).trans (h.block i hi hf)⟩
/-- The second step may write what is new since the first one began. -/
theorem Fr.trans' (h : Fr F w w') (k : Fr G w' w'') (hG : ∀ i, i < w.heap.size → G i → F i) : Fr F w w'' :=
  ⟨k.os.trans h.os, k.tape.trans h.tape, k.output.trans h.output, Nat.le_trans h.size k.size, fun i hi hf => (k.block i (Nat.lt_of_lt_of_le hi h.size) (fun hg => hf (hG i hi hg))).trans (h.block i hi hf)⟩
theorem Fr.mono (h : Fr F w w') (hF : ∀ i, i < w.heap.size → F i → G i) : Fr G w w' := ⟨h.os, h.tape, h.output, h.size, fun i hi hg => h.block i hi (fun hf => hg (hF i hi hf))⟩
theorem Fr.any (h : Fr Nil w w') (F : Nat → Prop) : Fr F w w' := h.mono fun _ _ hf => hf.elim
theorem Fr.drew (h : Fr F w w') : Fr F w w'.drew := ⟨h.os, h.tape, h.output, h.size, h.block⟩
theorem Fr.drewN (h : Fr F w w') (n : Nat) : Fr F w (w'.drewN n) := ⟨h.os, h.tape, h.output, h.size, h.block⟩
theorem Fr.from_drewN {n : Nat} (h : Fr F (w.drewN n) w') : Fr F w w' := ⟨h.os, h.tape, h.output, h.size, h.block⟩
theorem Fr.from_drew (h : Fr F w.drew w') : Fr F w w' := ⟨h.os, h.tape, h.output, h.size, h.block⟩
theorem Fr.alloc (h : Fr F w w') (o : Obj) : Fr F w (w'.alloc o) :=
  h.trans ⟨rfl, rfl, rfl, by rw [nblk_alloc]; omega, fun k hk _ => blk_alloc_lt _ _ _ (by omega)⟩
theorem Fr.setCell (h : Fr F w w') {a : Addr} (ha : F a.block ∨ w.heap.size ≤ a.block) (v : Value) : Fr F w (w'.setCell a v) :=
  ⟨h.os, h.tape, h.output, by rw [nblk_setCell]; exact h.size, fun k hk hf => (blk_setCell_other _ _ _ _ (by
    rintro rfl
    rcases ha with ha | ha
    · exact hf ha
    · omega)).trans (h.block k hk hf)⟩
theorem Fr.set1 {g : Nat} (h : Fr (One g) w w') (i : Nat) (v : Value) : Fr (One g) w (w'.setCell ⟨g, i, none⟩ v) := Fr.setCell (F := One g) (a := ⟨g, i, none⟩) h (.inl rfl) v
theorem Fr.setNew {g : Nat} (h : Fr F w w') (hg : w.heap.size ≤ g) (i : Nat) (v : Value) : Fr F w (w'.setCell ⟨g, i, none⟩ v) := Fr.setCell (F := F) (a := ⟨g, i, none⟩) h (.inr hg) v
theorem Fr.of_below {B : Nat} (h : Below B w w') (hB : ∀ k, k < w.heap.size → ¬ F k → k < B) : Fr F w w' := ⟨h.os, h.tape, h.output, h.size, fun k hk hf => h.block k (hB k hk hf)⟩
theorem Fr.below {B : Nat} (h : Fr F w w') (hB : ∀ k, k < B → k < w.heap.size ∧ ¬ F k) : Below B w w' := ⟨h.os, h.tape, h.output, h.size, fun k hk => h.block k (hB k hk).1 (hB k hk).2⟩
theorem Fr.nil_below (h : Fr Nil w w') : Below w.heap.size w w' := h.below fun _ hk => ⟨hk, fun hf => hf⟩
theorem Fr.of_grown {row : Option Nat} (h : w.grownBy w' row) : Fr (fun k => some k = row) w w' := ⟨h.os, h.tape, h.output, h.size, fun k hk hf => h.block k hk hf⟩
theorem Fr.cell (h : Fr F w w') {a : Addr} (ha : a.block < w.heap.size) (hf : ¬ F a.block) : w'.cell? a = w.cell? a := World.cell?_of_block (w := w) (h.block _ ha hf)
theorem Fr.frozen (h : Fr F w w') {a : Addr} (ha : a.block < w.heap.size) (hf : ¬ F a.block) : w'.frozen? a = w.frozen? a := World.frozen?_of_block (w := w) (h.block _ ha hf)
theorem Fr.cell_some (h : Fr F w w') {a : Addr} {v : Value} (hv : w.cell? a = some v) (hf : ¬ F a.block) : w'.cell? a = some v := (h.cell (World.block_lt_of_cell? w a hv) hf).trans hv
theorem rowFr {b n : Nat} {t : TypeId} {f : Nat → Value} (hr : w.rowIs b t n f) (h : Fr F w w') (hf : ¬ F b) : w'.rowIs b t n f := hr.of_block (h.block b hr.lt hf)
theorem rowDrewN {b n m : Nat} {t : TypeId} {f : Nat → Value} (hr : w.rowIs b t n f) : (w.drewN m).rowIs b t n f := hr
end

/-- Block g is just these cells, none frozen. -/
def Blk (w : World) (g : Nat) (t : TypeId) (cs : Array Value) : Prop := w.heap[g]? = some (.cells cs t (0, 0))

section
variable {w w' : World} {g : Nat} {t : TypeId} {cs : Array Value} {F : Nat → Prop}
theorem Blk.lt (h : Blk w g t cs) : g < w.heap.size := by
  rcases Nat.lt_or_ge g w.heap.size with hlt | hge
  · exact hlt
  · unfold Blk at h; rw [Array.getElem?_eq_none hge] at h; cases h
theorem Blk.cell (h : Blk w g t cs) (i : Nat) : w.cell? ⟨g, i, none⟩ = cs[i]? := cell_of_row w g i cs t (0, 0) h
theorem Blk.frozen (h : Blk w g t cs) (i : Nat) : w.frozen? ⟨g, i, none⟩ = false := by
  unfold Blk at h
  simp [World.frozen?, h]
theorem Blk.new (w : World) (t : TypeId) (cs : Array Value) : Blk (w.alloc (.cells cs t)) w.heap.size t cs := heap_alloc_new w _
theorem Blk.drew (h : Blk w g t cs) : Blk w.drew g t cs := h
theorem Blk.drewN (h : Blk w g t cs) (n : Nat) : Blk (w.drewN n) g t cs := h
theorem Blk.alloc (h : Blk w g t cs) (o : Obj) : Blk (w.alloc o) g t cs := (Below.heap_alloc w o g h.lt).trans h
theorem Blk.set_ (h : Blk w g t cs) (i : Nat) (u : Value) : Blk (w.setCell ⟨g, i, none⟩ u) g t (cs.setIfInBounds i u) := by
  unfold Blk at h ⊢
  simp [World.setCell, Array.getElem?_modify, h]
theorem Blk.far (h : Blk w g t cs) {p : Addr} (hp : g ≠ p.block) (u : Value) : Blk (w.setCell p u) g t cs := (Below.heap_setCell w p u g hp).trans h
theorem Blk.fr (h : Blk w g t cs) (hb : Fr F w w') (hg : ¬ F g) : Blk w' g t cs := (hb.block g h.lt hg).trans h
theorem Blk.row (h : Blk w g t cs) (f : Nat → Value) (hf : ∀ i, i < cs.size → cs[i]? = some (f i)) : w.rowIs g t cs.size f := ⟨cs, h, rfl, hf⟩
theorem Blk.ne_ {g' : Nat} {t' : TypeId} {cs' : Array Value} (h : Blk w g t cs) (h' : Blk w g' t' cs') (hne : t ≠ t') : g ≠ g' := by
  rintro rfl
  unfold Blk at h h'
  rw [h] at h'
  injection h' with h'
  injection h' with _ ht
  exact hne ht
theorem row_ne {g' n n' : Nat} {t' : TypeId} {f f' : Nat → Value} (h : w.rowIs g t n f) (h' : w.rowIs g' t' n' f') (hne : t ≠ t') : g ≠ g' := by
  obtain ⟨c, hc, _⟩ := h
  obtain ⟨c', hc', _⟩ := h'
  exact Blk.ne_ (w := w) hc hc' hne
theorem Blk.row_ne {g' n' : Nat} {t' : TypeId} {f' : Nat → Value} (h : Blk w g t cs) (h' : w.rowIs g' t' n' f') (hne : t ≠ t') : g ≠ g' := by
  obtain ⟨c', hc', _⟩ := h'
  exact Blk.ne_ (w := w) h hc' hne
end


/-! ### copy between rows -/
theorem addr_add_row (g o j : Nat) : (⟨g, o, none⟩ : Addr).add j = ⟨g, o + j, none⟩ := by unfold Addr.add; split <;> simp_all
/-- 'copy(dst, src)', elements of one cell: dst a part of row g. -/
theorem copy_ex {P : Program} {w : World} {dT sT ty elem : TypeId} {g o N dLen dCap : Nat} {t : TypeId} {F G : Nat → Value} (a : Addr) (sLen sCap k : Nat)
    (hu : P.underlying dT = some (.slice elem)) (hs : (P.info? elem).map (·.size) = some 1) (hd : w.rowIs g t N F) (hk : k = Nat.min sLen dLen) (hfit : o + k ≤ N)
    (hsrc : ∀ j, j < k → w.cell? (a.add j) = some (G j)) (h1 : ∀ j, j < k → (G j).oneCell' = true) :
    ∃ w2, (Builtin.copy_ #[dT, sT] ty #[.slice (some ⟨g, o, none⟩) dLen dCap, .slice (some a) sLen sCap]).run P w = .ok (.int .i64 k) w2 ∧
      w2.rowIs g t N (fun i => if o ≤ i ∧ i < o + k then G (i - o) else F i) ∧ Fr (One g) w w2 ∧ w2.heap.size = w.heap.size := by
  obtain ⟨c, hb, hn, hc⟩ := hd
  have hlen : ((List.range k).map G).length = k := by simp
  have hr := run_copy_row (P := P) w dT sT ty elem g o dLen dCap a sLen sCap c t ((List.range k).map G) hu hs hb (by rw [hlen]; exact hk)
    (fun j v hv => by
      rw [List.getElem?_map] at hv
      by_cases hj : j < k
      · rw [List.getElem?_range hj] at hv; simp at hv; rw [← hv]; exact hsrc j hj
      · rw [List.getElem?_eq_none (by simpa using hj)] at hv; simp at hv) (by rw [hlen, hn]; exact hfit) (fun v hv => by
      obtain ⟨j, hj, rfl⟩ := List.mem_map.1 hv
      exact h1 j (List.mem_range.1 hj))
  rw [hlen] at hr
  refine ⟨_, hr, ⟨_, setRow_heap w g c _ t _ hb, by simp; omega, fun i hi => ?_⟩, ⟨rfl, rfl, rfl, by simp, fun q hq hf => setRow_other w g q _ hf⟩, by simp⟩
  have hci := hc i hi
  have hcl : i < c.size := by omega
  simp only [List.getElem?_toArray]
  by_cases h1 : i < o
  · rw [if_neg (by omega), List.append_assoc, List.getElem?_append_left (by simp; omega), List.getElem?_take_of_lt h1]
    simpa using hci
  · by_cases h2 : i < o + k
    · rw [if_pos ⟨by omega, h2⟩, List.append_assoc, List.getElem?_append_right (by simp; omega), List.getElem?_append_left (by simp; omega)]
      have : min o c.size = o := by omega
      simp only [List.length_take, Array.length_toList, this, List.getElem?_map]
      rw [List.getElem?_range (by omega)]; rfl
    · rw [if_neg (by omega), List.getElem?_append_right (by simp; omega)]
      have : min o c.size = o := by omega
      simp only [List.length_append, List.length_take, Array.length_toList, this, List.length_map, List.length_range, List.getElem?_drop]
      rw [show o + k + (i - (o + k)) = i from by omega]
      simpa using hci
theorem cell_madeCells (w : World) (z : Value) (n : Nat) (t : TypeId) : (w.alloc (.cells (madeCells #[z] n) t)).rowIs w.heap.size t n (fun _ => z) := World.rowIs_made w z n t

/-! ### The bits of a word, as a function -/
/-- The number below 2^n whose bits are f. -/
def wf (f : Nat → Bool) : Nat → Nat
  | 0 => 0
  | n + 1 => wf f n + (if f n then 2 ^ n else 0)
theorem wf_lt (f : Nat → Bool) (n : Nat) : wf f n < 2 ^ n := by
  induction n with
  | zero => simp [wf]
  | succ n ih => simp only [wf, Nat.pow_succ]; split <;> omega
theorem wf_testBit (f : Nat → Bool) (n j : Nat) : (wf f n).testBit j = (decide (j < n) && f j) := by
  induction n with
  | zero => simp [wf]
  | succ n ih =>
    simp only [wf]
    have hlt := wf_lt f n
    by_cases h : f n = true
    · rw [if_pos h, Nat.add_comm]
      by_cases hj : j = n
      · subst hj
        rw [Nat.testBit_two_pow_add_eq, Nat.testBit_lt_two_pow hlt]
        simp [h]
      · rcases Nat.lt_or_gt_of_ne hj with h1 | h1
        · rw [Nat.testBit_two_pow_add_gt h1, ih]
          have : j < n + 1 := by omega
          simp [this, h1]
        · have h2 : 2 ^ n + wf f n < 2 ^ (n + 1) := by rw [Nat.pow_succ]; omega
          have h3 : 2 ^ (n + 1) ≤ 2 ^ j := Nat.pow_le_pow_right (by omega) (by omega)
          rw [Nat.testBit_lt_two_pow (by omega)]
          have : ¬ j < n + 1 := by omega
          simp [this]
    · rw [if_neg h, Nat.add_zero, ih]
      by_cases hj : j = n
      · subst hj; simp at h; simp [h]
      · have : (j < n + 1) ↔ (j < n) := by omega
        simp [this]
theorem wf_congr {f g : Nat → Bool} {n : Nat} (h : ∀ j, j < n → f j = g j) : wf f n = wf g n := by
  induction n with
  | zero => rfl
  | succ n ih => simp only [wf]; rw [ih (fun j hj => h j (by omega)), h n (by omega)]
theorem wf_zero (n : Nat) : wf (fun _ => false) n = 0 := by induction n with
  | zero => rfl
  | succ n ih => simp [wf, ih]
theorem eq_of_testBit {a b : Nat} (h : ∀ j, a.testBit j = b.testBit j) : a = b := Nat.eq_of_testBit_eq h
/-- One bit more is set. -/
theorem wf_or (f : Nat → Bool) (n i : Nat) (hi : i < n) : wf f n ||| 2 ^ i = wf (fun j => f j || decide (j = i)) n := by
  apply Nat.eq_of_testBit_eq
  intro j
  rw [Nat.testBit_or, wf_testBit, wf_testBit, Nat.testBit_two_pow]
  by_cases h : j = i
  · subst h; simp [hi]
  · have : ¬ i = j := fun e => h e.symm
    simp [h, this]
theorem wf_xor (f : Nat → Bool) (n i : Nat) (hi : i < n) : wf f n ^^^ 2 ^ i = wf (fun j => f j ^^ decide (j = i)) n := by
  apply Nat.eq_of_testBit_eq
  intro j
  rw [Nat.testBit_xor, wf_testBit, wf_testBit, Nat.testBit_two_pow]
  by_cases h : j = i
  · subst h; simp [hi]
  · have : ¬ i = j := fun e => h e.symm
    simp [h, this]
theorem wf_xor_wf (f g : Nat → Bool) (n : Nat) : wf f n ^^^ wf g n = wf (fun j => f j ^^ g j) n := by
  apply Nat.eq_of_testBit_eq
  intro j
  rw [Nat.testBit_xor, wf_testBit, wf_testBit, wf_testBit]
  cases decide (j < n) <;> simp
theorem wf_and (f : Nat → Bool) (n i : Nat) (hi : i < n) : (wf f n &&& 2 ^ i != 0) = f i := by
  have h : wf f n &&& 2 ^ i = if f i then 2 ^ i else 0 := by
    apply Nat.eq_of_testBit_eq
    intro j
    rw [Nat.testBit_and, wf_testBit, Nat.testBit_two_pow]
    by_cases h : i = j
    · subst h; cases hf : f i <;> simp [hi, Nat.testBit_two_pow_self]
    · cases hf : f i <;> simp [h, Nat.testBit_two_pow]
  rw [h]
  cases f i <;> simp
end Go.Proofs.YtcekbhhpcmhicaaGreatDoor
/- The table of versions as plain data (printed by print/version.py out of the program's text), and the blocks in which it lies. -/
namespace Go.Proofs.YtcekbhhpcmhicaaGreatDoor
open Go Go.RowKit Go.Deep
/-- centers of alignment patterns; for the levels L, M, Q, H: error correction words a block, and blocks: how many, data words -/
def verData : Nat → List Nat × List (Nat × List (Nat × Nat))
  | 1 => ([], [(7, [(1, 19)]), (10, [(1, 16)]), (13, [(1, 13)]), (17, [(1, 9)])])
  | 2 => ([6, 18], [(10, [(1, 34)]), (16, [(1, 28)]), (22, [(1, 22)]), (28, [(1, 16)])])
  | 3 => ([6, 22], [(15, [(1, 55)]), (26, [(1, 44)]), (18, [(2, 17)]), (22, [(2, 13)])])
  | 4 => ([6, 26], [(20, [(1, 80)]), (18, [(2, 32)]), (26, [(2, 24)]), (16, [(4, 9)])])
  | 5 => ([6, 30], [(26, [(1, 108)]), (24, [(2, 43)]), (18, [(2, 15), (2, 16)]), (22, [(2, 11), (2, 12)])])
  | 6 => ([6, 34], [(18, [(2, 68)]), (16, [(4, 27)]), (24, [(4, 19)]), (28, [(4, 15)])])
  | 7 => ([6, 22, 38], [(20, [(2, 78)]), (18, [(4, 31)]), (18, [(2, 14), (4, 15)]), (26, [(4, 13), (1, 14)])])
  | 8 => ([6, 24, 42], [(24, [(2, 97)]), (22, [(2, 38), (2, 39)]), (22, [(4, 18), (2, 19)]), (26, [(4, 14), (2, 15)])])
  | 9 => ([6, 26, 46], [(30, [(2, 116)]), (22, [(3, 36), (2, 37)]), (20, [(4, 16), (4, 17)]), (24, [(4, 12), (4, 13)])])
  | 10 => ([6, 28, 50], [(18, [(2, 68), (2, 69)]), (26, [(4, 43), (1, 44)]), (24, [(6, 19), (2, 20)]), (28, [(6, 15), (2, 16)])])
  | 11 => ([6, 30, 54], [(20, [(4, 81)]), (30, [(1, 50), (4, 51)]), (28, [(4, 22), (4, 23)]), (24, [(3, 12), (8, 13)])])
  | 12 => ([6, 32, 58], [(24, [(2, 92), (2, 93)]), (22, [(6, 36), (2, 37)]), (26, [(4, 20), (6, 21)]), (28, [(7, 14), (4, 15)])])
  | 13 => ([6, 34, 62], [(26, [(4, 107)]), (22, [(8, 37), (1, 38)]), (24, [(8, 20), (4, 21)]), (22, [(12, 11), (4, 12)])])
  | 14 => ([6, 26, 46, 66], [(30, [(3, 115), (1, 116)]), (24, [(4, 40), (5, 41)]), (20, [(11, 16), (5, 17)]), (24, [(11, 12), (5, 13)])])
  | 15 => ([6, 26, 48, 70], [(22, [(5, 87), (1, 88)]), (24, [(5, 41), (5, 42)]), (30, [(5, 24), (7, 25)]), (24, [(11, 12), (7, 13)])])
  | 16 => ([6, 26, 50, 74], [(24, [(5, 98), (1, 99)]), (28, [(7, 45), (3, 46)]), (24, [(15, 19), (2, 20)]), (30, [(3, 15), (13, 16)])])
  | 17 => ([6, 30, 54, 78], [(28, [(1, 107), (5, 108)]), (28, [(10, 46), (1, 47)]), (28, [(1, 22), (15, 23)]), (28, [(2, 14), (17, 15)])])
  | 18 => ([6, 30, 56, 82], [(30, [(5, 120), (1, 121)]), (26, [(9, 43), (4, 44)]), (28, [(17, 22), (1, 23)]), (28, [(2, 14), (19, 15)])])
  | 19 => ([6, 30, 58, 86], [(28, [(3, 113), (4, 114)]), (26, [(3, 44), (11, 45)]), (26, [(17, 21), (4, 22)]), (26, [(9, 13), (16, 14)])])
  | 20 => ([6, 34, 62, 90], [(28, [(3, 107), (5, 108)]), (26, [(3, 41), (13, 42)]), (30, [(15, 24), (5, 25)]), (28, [(15, 15), (10, 16)])])
  | 21 => ([6, 28, 50, 72, 94], [(28, [(4, 116), (4, 117)]), (26, [(17, 42)]), (28, [(17, 22), (6, 23)]), (30, [(19, 16), (6, 17)])])
  | 22 => ([6, 26, 50, 74, 98], [(28, [(2, 111), (7, 112)]), (28, [(17, 46)]), (30, [(7, 24), (16, 25)]), (24, [(34, 13)])])
  | 23 => ([6, 30, 54, 78, 102], [(30, [(4, 121), (5, 122)]), (28, [(4, 47), (14, 48)]), (30, [(11, 24), (14, 25)]), (30, [(16, 15), (14, 16)])])
  | 24 => ([6, 28, 54, 80, 106], [(30, [(6, 117), (4, 118)]), (28, [(6, 45), (14, 46)]), (30, [(11, 24), (16, 25)]), (30, [(30, 16), (2, 17)])])
  | 25 => ([6, 32, 58, 84, 110], [(26, [(8, 106), (4, 107)]), (28, [(8, 47), (13, 48)]), (30, [(7, 24), (22, 25)]), (30, [(22, 15), (13, 16)])])
  | 26 => ([6, 30, 58, 86, 114], [(28, [(10, 114), (2, 115)]), (28, [(19, 46), (4, 47)]), (28, [(28, 22), (6, 23)]), (30, [(33, 16), (4, 17)])])
  | 27 => ([6, 34, 62, 90, 118], [(30, [(8, 122), (4, 123)]), (28, [(22, 45), (3, 46)]), (30, [(8, 23), (26, 24)]), (30, [(12, 15), (28, 16)])])
  | 28 => ([6, 26, 50, 74, 98, 122], [(30, [(3, 117), (10, 118)]), (28, [(3, 45), (23, 46)]), (30, [(4, 24), (31, 25)]), (30, [(11, 15), (31, 16)])])
  | 29 => ([6, 30, 54, 78, 102, 126], [(30, [(7, 116), (7, 117)]), (28, [(21, 45), (7, 46)]), (30, [(1, 23), (37, 24)]), (30, [(19, 15), (26, 16)])])
  | 30 => ([6, 26, 52, 78, 104, 130], [(30, [(5, 115), (10, 116)]), (28, [(19, 47), (10, 48)]), (30, [(15, 24), (25, 25)]), (30, [(23, 15), (25, 16)])])
  | 31 => ([6, 30, 56, 82, 108, 134], [(30, [(13, 115), (3, 116)]), (28, [(2, 46), (29, 47)]), (30, [(42, 24), (1, 25)]), (30, [(23, 15), (28, 16)])])
  | 32 => ([6, 34, 60, 86, 112, 138], [(30, [(17, 115)]), (28, [(10, 46), (23, 47)]), (30, [(10, 24), (35, 25)]), (30, [(19, 15), (35, 16)])])
  | 33 => ([6, 30, 58, 86, 114, 142], [(30, [(17, 115), (1, 116)]), (28, [(14, 46), (21, 47)]), (30, [(29, 24), (19, 25)]), (30, [(11, 15), (46, 16)])])
  | 34 => ([6, 34, 62, 90, 118, 146], [(30, [(13, 115), (6, 116)]), (28, [(14, 46), (23, 47)]), (30, [(44, 24), (7, 25)]), (30, [(59, 16), (1, 17)])])
  | 35 => ([6, 30, 54, 78, 102, 126, 150], [(30, [(12, 121), (7, 122)]), (28, [(12, 47), (26, 48)]), (30, [(39, 24), (14, 25)]), (30, [(22, 15), (41, 16)])])
  | 36 => ([6, 24, 50, 76, 102, 128, 154], [(30, [(6, 121), (14, 122)]), (28, [(6, 47), (34, 48)]), (30, [(46, 24), (10, 25)]), (30, [(2, 15), (64, 16)])])
  | 37 => ([6, 28, 54, 80, 106, 132, 158], [(30, [(17, 122), (4, 123)]), (28, [(29, 46), (14, 47)]), (30, [(49, 24), (10, 25)]), (30, [(24, 15), (46, 16)])])
  | 38 => ([6, 32, 58, 84, 110, 136, 162], [(30, [(4, 122), (18, 123)]), (28, [(13, 46), (32, 47)]), (30, [(48, 24), (14, 25)]), (30, [(42, 15), (32, 16)])])
  | 39 => ([6, 26, 54, 82, 110, 138, 166], [(30, [(20, 117), (4, 118)]), (28, [(40, 47), (7, 48)]), (30, [(43, 24), (22, 25)]), (30, [(10, 15), (67, 16)])])
  | 40 => ([6, 30, 58, 86, 114, 142, 170], [(30, [(19, 118), (6, 119)]), (28, [(18, 47), (31, 48)]), (30, [(34, 24), (34, 25)]), (30, [(20, 15), (61, 16)])])
  | _ => ([], [])
def ecOf (v l : Nat) : Nat := ((verData v).2.getD l (0, [])).1
def blOf (v l : Nat) : List (Nat × Nat) := ((verData v).2.getD l (0, [])).2
def cen (v : Nat) : List Nat := (verData v).1
def sumBl (ec : Nat) (l : List (Nat × Nat)) : Nat := l.foldr (fun b r => b.1 * (b.2 + ec) + r) 0
def cntBl (l : List (Nat × Nat)) : Nat := l.foldr (fun b r => b.1 + r) 0
def tot (v : Nat) : Nat := sumBl (ecOf v 0) (blOf v 0)
abbrev i64 (n : Nat) : Value := .int .i64 (n : Int)
abbrev sl (g n : Nat) : Value := .slice (some ⟨g, 0, none⟩) n n
def blCells (l : List (Nat × Nat)) : List Value := l.flatMap fun b => [i64 b.1, i64 b.2]
/-- blocks laid one behind the other -/
def lay (w : World) : List (TypeId × List Value) → World
  | [] => w
  | (t, cs) :: r => lay (w.alloc (.cells cs.toArray t)) r
theorem lay_size : ∀ (l : List (TypeId × List Value)) (w : World), (lay w l).heap.size = w.heap.size + l.length
  | [], w => rfl
  | (t, cs) :: r, w => by simp [lay, lay_size r]; omega
theorem lay_fr : ∀ (l : List (TypeId × List Value)) (w : World), Fr Nil w (lay w l)
  | [], w => Fr.refl _ _
  | (t, cs) :: r, w => ((Fr.refl _ _).alloc _).trans (lay_fr r _)
theorem lay_blk : ∀ (l : List (TypeId × List Value)) (w : World) (k : Nat) (t : TypeId) (cs : List Value), l[k]? = some (t, cs) → Blk (lay w l) (w.heap.size + k) t cs.toArray
  | [], _, _, _, _, h => by cases h
  | (t, cs) :: r, w, 0, _, _, h => by
    simp at h
    obtain ⟨rfl, rfl⟩ := h
    exact (Blk.new w t cs.toArray).fr (lay_fr r _) (fun e => e)
  | (t', cs') :: r, w, k + 1, t, cs, h => by
    have := lay_blk r (w.alloc (.cells cs'.toArray t')) k t cs (by simpa using h)
    rw [nblk_alloc] at this
    rw [show w.heap.size + (k + 1) = w.heap.size + 1 + k from by omega]
    exact this
def verBlocks (v : Nat) : List (TypeId × List Value) := (3, (cen v).map i64) :: (verData v).2.map fun e => (211, blCells e.2)
def verTop (w : World) (v : Nat) : List Value := (List.range 4).flatMap fun i => [i64 (ecOf v i), sl (lay w ((verBlocks v).take (i + 1))).heap.size (blOf v i).length]
theorem verData_four {v : Nat} (h1 : 1 ≤ v) (h2 : v ≤ 40) : (verData v).2.length = 4 := by
  have h : ∀ k : Fin 40, (verData (k.val + 1)).2.length = 4 := by decide
  have := h ⟨v - 1, by omega⟩
  simp only [show v - 1 + 1 = v from by omega] at this
  exact this
theorem blCells_length (l : List (Nat × Nat)) : (blCells l).length = 2 * l.length := by
  induction l with
  | nil => rfl
  | cons b r ih => simp only [blCells, List.flatMap_cons, List.length_append, List.length_cons, List.length_nil] at ih ⊢; omega
/-- A version at block p, its table in blocks from lo on and below hi. -/
structure VerAt (w : World) (lo hi p v : Nat) : Prop where
  st : ∃ cb eb, Blk w p 141 #[i64 v, sl cb (cen v).length, sl eb 4, i64 (tot v)] ∧ Blk w cb 3 ((cen v).map i64).toArray ∧ lo ≤ cb ∧ cb < hi ∧ lo ≤ eb ∧ eb < hi ∧
    ∃ bb : Nat → Nat, w.rowIs eb 201 8 (fun i => if i % 2 = 0 then i64 (ecOf v (i / 2)) else sl (bb (i / 2)) (blOf v (i / 2)).length) ∧
      ∀ l, l < 4 → Blk w (bb l) 211 (blCells (blOf v l)).toArray ∧ lo ≤ bb l ∧ bb l < hi
  lop : lo ≤ p
  hip : p < hi
  v1 : 1 ≤ v
  v2 : v ≤ 40
theorem VerAt.fr {w w' : World} {F : Nat → Prop} {lo hi p v : Nat} (h : VerAt w lo hi p v) (hf : Fr F w w') (hF : ∀ i, lo ≤ i → i < hi → ¬ F i) : VerAt w' lo hi p v := by
  obtain ⟨⟨cb, eb, h1, h2, a1, a2, a3, a4, bb, h3, h4⟩, b1, b2, b3, b4⟩ := h
  exact ⟨⟨cb, eb, h1.fr hf (hF _ b1 b2), h2.fr hf (hF _ a1 a2), a1, a2, a3, a4, bb, rowFr h3 hf (hF _ a3 a4), fun l hl => ⟨(h4 l hl).1.fr hf (hF _ (h4 l hl).2.1 (h4 l hl).2.2), (h4 l hl).2⟩⟩, b1, b2, b3, b4⟩
end Go.Proofs.YtcekbhhpcmhicaaGreatDoor
/- The field of 256 elements as the codes of QR have it, by its two tables; polynomials over it, the highest coefficient first, and their values. No program. -/
namespace Go.Proofs.YtcekbhhpcmhicaaGreatDoor
set_option maxRecDepth 100000
def expTbl : List Nat :=
  [1, 2, 4, 8, 16, 32, 64, 128, 29, 58, 116, 232, 205, 135, 19, 38, 76, 152, 45, 90, 180, 117, 234, 201, 143, 3, 6, 12, 24, 48, 96, 192,
   157, 39, 78, 156, 37, 74, 148, 53, 106, 212, 181, 119, 238, 193, 159, 35, 70, 140, 5, 10, 20, 40, 80, 160, 93, 186, 105, 210, 185, 111, 222, 161,
   95, 190, 97, 194, 153, 47, 94, 188, 101, 202, 137, 15, 30, 60, 120, 240, 253, 231, 211, 187, 107, 214, 177, 127, 254, 225, 223, 163, 91, 182, 113, 226,
   217, 175, 67, 134, 17, 34, 68, 136, 13, 26, 52, 104, 208, 189, 103, 206, 129, 31, 62, 124, 248, 237, 199, 147, 59, 118, 236, 197, 151, 51, 102, 204,
   133, 23, 46, 92, 184, 109, 218, 169, 79, 158, 33, 66, 132, 21, 42, 84, 168, 77, 154, 41, 82, 164, 85, 170, 73, 146, 57, 114, 228, 213, 183, 115,
   230, 209, 191, 99, 198, 145, 63, 126, 252, 229, 215, 179, 123, 246, 241, 255, 227, 219, 171, 75, 150, 49, 98, 196, 149, 55, 110, 220, 165, 87, 174, 65,
   130, 25, 50, 100, 200, 141, 7, 14, 28, 56, 112, 224, 221, 167, 83, 166, 81, 162, 89, 178, 121, 242, 249, 239, 195, 155, 43, 86, 172, 69, 138, 9,
   18, 36, 72, 144, 61, 122, 244, 245, 247, 243, 251, 235, 203, 139, 11, 22, 44, 88, 176, 125, 250, 233, 207, 131, 27, 54, 108, 216, 173, 71, 142, 1]
def logTbl : List Nat :=
  [0, 0, 1, 25, 2, 50, 26, 198, 3, 223, 51, 238, 27, 104, 199, 75, 4, 100, 224, 14, 52, 141, 239, 129, 28, 193, 105, 248, 200, 8, 76, 113,
   5, 138, 101, 47, 225, 36, 15, 33, 53, 147, 142, 218, 240, 18, 130, 69, 29, 181, 194, 125, 106, 39, 249, 185, 201, 154, 9, 120, 77, 228, 114, 166,
   6, 191, 139, 98, 102, 221, 48, 253, 226, 152, 37, 179, 16, 145, 34, 136, 54, 208, 148, 206, 143, 150, 219, 189, 241, 210, 19, 92, 131, 56, 70, 64,
   30, 66, 182, 163, 195, 72, 126, 110, 107, 58, 40, 84, 250, 133, 186, 61, 202, 94, 155, 159, 10, 21, 121, 43, 78, 212, 229, 172, 115, 243, 167, 87,
   7, 112, 192, 247, 140, 128, 99, 13, 103, 74, 222, 237, 49, 197, 254, 24, 227, 165, 153, 119, 38, 184, 180, 124, 17, 68, 146, 217, 35, 32, 137, 46,
   55, 63, 209, 91, 149, 188, 207, 205, 144, 135, 151, 178, 220, 252, 190, 97, 242, 86, 211, 171, 20, 42, 93, 158, 132, 60, 57, 83, 71, 109, 65, 162,
   31, 45, 67, 216, 183, 123, 164, 118, 196, 23, 73, 236, 127, 12, 111, 246, 108, 161, 59, 82, 41, 157, 85, 170, 251, 96, 134, 177, 187, 204, 62, 90,
   203, 89, 95, 176, 156, 169, 160, 81, 11, 245, 22, 235, 122, 117, 44, 215, 79, 174, 213, 233, 230, 231, 173, 232, 116, 214, 244, 234, 168, 80, 88, 175]
def gexp (i : Nat) : Nat := expTbl.getD i 0
def glog (x : Nat) : Nat := logTbl.getD x 0
def gmul (a b : Nat) : Nat := if a = 0 ∨ b = 0 then 0 else gexp ((glog a + glog b) % 255)
def ginv (a : Nat) : Nat := gexp (256 - glog a - 1)
/-- times two -/
def xt (x : Nat) : Nat := (x <<< 1) ^^^ (if x.testBit 7 then 285 else 0)
theorem all_lt {p : Nat → Bool} {n : Nat} (h : (List.range n).all p = true) {i : Nat} (hi : i < n) : p i = true := List.all_eq_true.1 h i (List.mem_range.2 hi)
theorem gexp_lt {i : Nat} (h : i < 256) : gexp i < 256 := by
  have := all_lt (p := fun i => decide (gexp i < 256)) (n := 256) (by decide +kernel) h
  simpa using this
theorem gexp_pos {i : Nat} (h : i < 256) : 0 < gexp i := by
  have := all_lt (p := fun i => decide (0 < gexp i)) (n := 256) (by decide +kernel) h
  simpa using this
theorem glog_lt {x : Nat} (h : x < 256) : glog x < 255 := by
  have := all_lt (p := fun x => decide (glog x < 255)) (n := 256) (by decide +kernel) h
  simpa using this
theorem gexp_glog {x : Nat} (h0 : 0 < x) (h : x < 256) : gexp (glog x) = x := by
  have := all_lt (p := fun x => decide (0 < x → gexp (glog x) = x)) (n := 256) (by decide +kernel) h
  simp only [decide_eq_true_eq] at this
  exact this h0
theorem glog_gexp {i : Nat} (h : i < 255) : glog (gexp i) = i := by
  have := all_lt (p := fun i => decide (glog (gexp i) = i)) (n := 255) (by decide +kernel) h
  simpa using this
theorem gexp_succ {i : Nat} (h : i < 255) : gexp ((i + 1) % 255) = xt (gexp i) := by
  have := all_lt (p := fun i => decide (gexp ((i + 1) % 255) = xt (gexp i))) (n := 255) (by decide +kernel) h
  simpa using this
theorem gexp_255 : gexp 255 = 1 := by decide +kernel
theorem glog_one : glog 1 = 0 := by decide +kernel
theorem xt_lt {x : Nat} (h : x < 256) : xt x < 256 := by
  have := all_lt (p := fun x => decide (xt x < 256)) (n := 256) (by decide +kernel) h
  simpa using this
theorem xt_zero : xt 0 = 0 := by decide
theorem xt_xor (x y : Nat) : xt (x ^^^ y) = xt x ^^^ xt y := by
  unfold xt
  rw [Nat.shiftLeft_xor_distrib, Nat.testBit_xor]
  cases x.testBit 7 <;> cases y.testBit 7 <;> simp only [Bool.xor_false, Bool.xor_true, Bool.false_xor, Bool.true_xor, Bool.not_true, Bool.not_false, if_true, Bool.false_eq_true, if_false, Nat.xor_zero]
  · rw [Nat.xor_assoc]
  · rw [Nat.xor_assoc, Nat.xor_assoc]; congr 1; rw [Nat.xor_comm]
  · rw [Nat.xor_assoc]; congr 1
    rw [Nat.xor_comm (y <<< 1), ← Nat.xor_assoc, Nat.xor_self, Nat.zero_xor]
def itx : Nat → Nat → Nat
  | 0, x => x
  | k + 1, x => xt (itx k x)
theorem itx_zero (k : Nat) : itx k 0 = 0 := by
  induction k with
  | zero => rfl
  | succ k ih => simp only [itx, ih, xt_zero]
theorem itx_xor (k x y : Nat) : itx k (x ^^^ y) = itx k x ^^^ itx k y := by
  induction k with
  | zero => rfl
  | succ k ih => simp only [itx, ih, xt_xor]
theorem itx_lt (k : Nat) {x : Nat} (h : x < 256) : itx k x < 256 := by
  induction k with
  | zero => exact h
  | succ k ih => exact xt_lt ih
theorem itx_add (j k x : Nat) : itx (j + k) x = itx j (itx k x) := by
  induction j with
  | zero => simp [itx]
  | succ j ih => rw [show j + 1 + k = (j + k) + 1 from by omega]; simp only [itx, ih]
theorem itx_gexp (k : Nat) {i : Nat} (h : i < 255) : itx k (gexp i) = gexp ((k + i) % 255) := by
  induction k with
  | zero => simp only [itx, Nat.zero_add]; rw [Nat.mod_eq_of_lt h]
  | succ k ih =>
    simp only [itx, ih]
    rw [← gexp_succ (Nat.mod_lt _ (by omega))]
    congr 1; omega
theorem gmul_itx {a x : Nat} (ha : 0 < a) (hx : x < 256) : gmul a x = itx (glog a) x := by
  unfold gmul
  by_cases h : x = 0
  · subst h; rw [if_pos (.inr rfl), itx_zero]
  · rw [if_neg (by omega)]
    have h1 : x = gexp (glog x) := (gexp_glog (by omega) hx).symm
    conv => rhs; rw [h1]
    rw [itx_gexp _ (glog_lt hx)]
theorem gmul_zero_left (x : Nat) : gmul 0 x = 0 := by unfold gmul; rw [if_pos (.inl rfl)]
theorem gmul_zero_right (x : Nat) : gmul x 0 = 0 := by unfold gmul; rw [if_pos (.inr rfl)]
theorem gmul_comm (a b : Nat) : gmul a b = gmul b a := by
  unfold gmul
  rw [Nat.add_comm]
  by_cases h : a = 0 ∨ b = 0
  · rw [if_pos h, if_pos h.symm]
  · rw [if_neg h, if_neg (fun e => h e.symm)]
theorem gmul_lt {a b : Nat} : gmul a b < 256 := by
  unfold gmul
  split
  · omega
  · exact gexp_lt (Nat.lt_of_lt_of_le (Nat.mod_lt _ (by omega)) (by omega))
theorem xor_lt {a b : Nat} (ha : a < 256) (hb : b < 256) : a ^^^ b < 256 := Nat.xor_lt_two_pow (n := 8) ha hb
theorem gmul_xor (a : Nat) {x y : Nat} (hx : x < 256) (hy : y < 256) : gmul a (x ^^^ y) = gmul a x ^^^ gmul a y := by
  by_cases h : a = 0
  · subst h; simp only [gmul_zero_left, Nat.xor_self]
  · rw [gmul_itx (by omega) (xor_lt hx hy), gmul_itx (by omega) hx, gmul_itx (by omega) hy, itx_xor]
theorem gmul_xor_left (a : Nat) {x y : Nat} (hx : x < 256) (hy : y < 256) : gmul (x ^^^ y) a = gmul x a ^^^ gmul y a := by
  rw [gmul_comm, gmul_xor a hx hy, gmul_comm a x, gmul_comm a y]
theorem itx_mod (k x : Nat) (hx : x < 256) : itx (k % 255) x = itx k x := by
  by_cases h : x = 0
  · subst h; rw [itx_zero, itx_zero]
  · rw [← gexp_glog (by omega) hx, itx_gexp _ (glog_lt hx), itx_gexp _ (glog_lt hx)]
    congr 1; omega
theorem gmul_assoc {a b c : Nat} (ha : a < 256) (hb : b < 256) (hc : c < 256) : gmul (gmul a b) c = gmul a (gmul b c) := by
  by_cases h1 : a = 0
  · subst h1; simp only [gmul_zero_left]
  by_cases h2 : b = 0
  · subst h2; simp only [gmul_zero_left, gmul_zero_right]
  have e : gmul a b = gexp ((glog a + glog b) % 255) := by unfold gmul; rw [if_neg (by omega)]
  have hm : (glog a + glog b) % 255 < 255 := Nat.mod_lt _ (by omega)
  have hp : 0 < gmul a b := by rw [e]; exact gexp_pos (by omega)
  rw [gmul_itx hp hc, gmul_itx (by omega) hc, gmul_itx (by omega) (itx_lt _ hc), e, glog_gexp hm, itx_mod _ _ hc, itx_add]
theorem gmul_one {x : Nat} (hx : x < 256) : gmul 1 x = x := by rw [gmul_itx (by omega) hx, glog_one]; rfl
theorem gmul_one_right {x : Nat} (hx : x < 256) : gmul x 1 = x := by rw [gmul_comm]; exact gmul_one hx
theorem snoc_cases {α : Type} (cs : List α) : cs = [] ∨ ∃ ds d, cs = ds ++ [d] := by
  rcases List.eq_nil_or_concat cs with h | ⟨ds, d, h⟩
  · exact .inl h
  · exact .inr ⟨ds, d, by rw [h, List.concat_eq_append]⟩
theorem snoc_rec {α : Type} {motive : List α → Prop} (h0 : motive []) (h1 : ∀ ds d, motive ds → motive (ds ++ [d])) : ∀ cs : List α, motive cs := by
  intro cs
  have : ∀ n (cs : List α), cs.length = n → motive cs := by
    intro n
    induction n with
    | zero => intro cs h; rw [List.eq_nil_of_length_eq_zero h]; exact h0
    | succ n ih =>
      intro cs h
      rcases snoc_cases cs with rfl | ⟨ds, d, rfl⟩
      · simp at h
      · exact h1 ds d (ih ds (by simpa using h))
  exact this _ cs rfl
/-- all coefficients are elements -/
def Elems (cs : List Nat) : Prop := ∀ c ∈ cs, c < 256
/-- the value at y -/
def ev (cs : List Nat) (y : Nat) : Nat := cs.foldl (fun r c => gmul y r ^^^ c) 0
theorem ev_snoc (cs : List Nat) (c y : Nat) : ev (cs ++ [c]) y = gmul y (ev cs y) ^^^ c := by simp [ev, List.foldl_append]
theorem ev_nil (y : Nat) : ev [] y = 0 := rfl
theorem ev_lt {cs : List Nat} (h : Elems cs) (y : Nat) : ev cs y < 256 := by
  rcases snoc_cases cs with rfl | ⟨ds, d, rfl⟩
  · simp [ev]
  · rw [ev_snoc]; exact xor_lt gmul_lt (h d (by simp))

theorem ev_zeros_right (cs : List Nat) (y : Nat) (h : ev cs y = 0) (n : Nat) : ev (cs ++ List.replicate n 0) y = 0 := by
  induction n with
  | zero => simpa using h
  | succ n ih => rw [List.replicate_succ', ← List.append_assoc, ev_snoc, ih, gmul_zero_right]; rfl
theorem ev_zeros_left (cs : List Nat) (y n : Nat) : ev (List.replicate n 0 ++ cs) y = ev cs y := by
  have h0 : ∀ n, ev (List.replicate n 0) y = 0 := fun n => by simpa using ev_zeros_right [] y rfl n
  have : ∀ cs : List Nat, ev (List.replicate n 0 ++ cs) y = ev cs y := by
    refine snoc_rec ?_ ?_
    · rw [List.append_nil]; exact h0 n
    · intro ds d ih; rw [← List.append_assoc, ev_snoc, ev_snoc, ih]
  exact this cs
theorem ev_map (s y : Nat) (hs : s < 256) (hy : y < 256) : ∀ cs : List Nat, Elems cs → ev (cs.map (gmul s)) y = gmul s (ev cs y) := by
  refine snoc_rec ?_ ?_
  · intro _; simp [ev, gmul_zero_right]
  · intro ds d ih h
    have hd : Elems ds := fun c hc => h c (by simp [hc])
    rw [List.map_append, List.map_cons, List.map_nil, ev_snoc, ev_snoc, ih hd, gmul_xor s gmul_lt (h d (by simp))]
    rw [← gmul_assoc hy hs (ev_lt hd y), gmul_comm y s, gmul_assoc hs hy (ev_lt hd y)]
/-- the sum of lists of one length -/
theorem ev_zip (y : Nat) (hy : y < 256) : ∀ (cs ds : List Nat), cs.length = ds.length → Elems cs → Elems ds → ev (List.zipWith (fun a b => a ^^^ b) cs ds) y = ev cs y ^^^ ev ds y := by
  refine snoc_rec ?_ ?_
  · intro ds h _ _
    have : ds = [] := List.eq_nil_of_length_eq_zero (by simpa using h.symm)
    subst this; simp [ev]
  · intro cs c ih ds h hc hd
    rcases snoc_cases ds with rfl | ⟨es, d, rfl⟩
    · simp at h
    · have hl : cs.length = es.length := by simpa using h
      have h1 : Elems cs := fun x hx => hc x (by simp [hx])
      have h2 : Elems es := fun x hx => hd x (by simp [hx])
      rw [List.zipWith_append hl, List.zipWith_cons_cons, List.zipWith_nil_left, ev_snoc, ev_snoc, ev_snoc, ih es hl h1 h2, gmul_xor y (ev_lt h1 y) (ev_lt h2 y)]
      simp only [Nat.xor_assoc]
      congr 1
      rw [← Nat.xor_assoc, Nat.xor_comm c, Nat.xor_assoc, Nat.xor_comm c d, Nat.xor_assoc]
theorem zip_elems {cs ds : List Nat} (h1 : Elems cs) (h2 : Elems ds) : Elems (List.zipWith (fun a b => a ^^^ b) cs ds) := by
  intro x hx
  obtain ⟨i, hi, rfl⟩ := List.getElem_of_mem hx
  rw [List.getElem_zipWith]
  exact xor_lt (h1 _ (List.getElem_mem _)) (h2 _ (List.getElem_mem _))
theorem zeros_elems (n : Nat) : Elems (List.replicate n 0) := by intro x hx; rw [(List.mem_replicate.1 hx).2]; omega
theorem append_elems {cs ds : List Nat} (h1 : Elems cs) (h2 : Elems ds) : Elems (cs ++ ds) := by
  intro x hx
  rcases List.mem_append.1 hx with h | h
  · exact h1 x h
  · exact h2 x h
theorem map_elems (s : Nat) (cs : List Nat) : Elems (cs.map (gmul s)) := by
  intro x hx
  obtain ⟨c, _, rfl⟩ := List.mem_map.1 hx
  exact gmul_lt
/-- without zeros ahead; the zero one is one 0 -/
def norm : List Nat → List Nat
  | [] => []
  | [c] => [c]
  | 0 :: c :: r => norm (c :: r)
  | c :: r => c :: r
theorem norm_ne : ∀ cs : List Nat, cs ≠ [] → norm cs ≠ []
  | [], h => h
  | [c], _ => by simp [norm]
  | 0 :: c :: r, _ => by simp only [norm]; exact norm_ne (c :: r) (by simp)
  | (n + 1) :: c :: r, _ => by simp [norm]
theorem norm_drop : ∀ cs : List Nat, ∃ k, norm cs = cs.drop k ∧ cs = List.replicate k 0 ++ norm cs ∧ (cs ≠ [] → k < cs.length)
  | [] => ⟨0, rfl, rfl, fun h => absurd rfl h⟩
  | [c] => ⟨0, rfl, rfl, fun _ => by simp⟩
  | 0 :: c :: r => by
    obtain ⟨k, h1, h2, h3⟩ := norm_drop (c :: r)
    refine ⟨k + 1, by simp only [norm]; exact h1, ?_, fun _ => by have := h3 (by simp); simp at this ⊢; omega⟩
    simp only [norm]
    rw [List.replicate_succ, List.cons_append, ← h2]
  | (n + 1) :: c :: r => ⟨0, by simp [norm], by simp [norm], fun _ => by simp⟩
theorem ev_norm (cs : List Nat) (y : Nat) : ev (norm cs) y = ev cs y := by
  obtain ⟨k, _, h, _⟩ := norm_drop cs
  conv => rhs; rw [h]
  rw [ev_zeros_left]
theorem norm_elems {cs : List Nat} (h : Elems cs) : Elems (norm cs) := by
  obtain ⟨k, h1, _, _⟩ := norm_drop cs
  rw [h1]; exact fun x hx => h x (List.mem_of_mem_drop hx)
theorem norm_length (cs : List Nat) : (norm cs).length ≤ cs.length := by
  obtain ⟨k, h1, _, _⟩ := norm_drop cs
  rw [h1, List.length_drop]; omega
theorem norm_zero_length (r : List Nat) (h : r ≠ []) : (norm (0 :: r)).length ≤ r.length := by
  cases r with
  | nil => exact absurd rfl h
  | cons c r => simp only [norm]; exact norm_length _
end Go.Proofs.YtcekbhhpcmhicaaGreatDoor
