/- Bits and bytes read back; the blocks' bytes in their order (plain). -/
import Derived.Test.YtcekbhhpcmhicaaGreatDoorB13
import Derived.Test.YtcekbhhpcmhicaaGreatDoorB17
import Derived.Test.YtcekbhhpcmhicaaGreatDoorB16
import Derived.Test.YtcekbhhpcmhicaaGreatDoorB12
import Derived.Test.YtcekbhhpcmhicaaGreatDoorB15
set_option linter.unusedSimpArgs false
set_option linter.unusedVariables false
namespace Go.Proofs.YtcekbhhpcmhicaaGreatDoor
open Go
set_option maxRecDepth 100000
theorem msb_getD (v n j : Nat) (h : j < n) : (msb v n).getD j false = v.testBit (n - 1 - j) := by
  rw [List.getD_eq_getElem?_getD, msb_getElem v n j h]; rfl
theorem bitsOf_cons (c : Nat) (l : List Nat) : bitsOf (c :: l) = msb c 8 ++ bitsOf l := rfl
theorem bitsOf_getD : ∀ (l : List Nat) (i j : Nat), i < l.length → j < 8 → (bitsOf l).getD (8 * i + j) false = (l.getD i 0).testBit (7 - j)
  | [], i, j, h, _ => absurd h (Nat.not_lt_zero _)
  | c :: l, 0, j, _, hj => by
    rw [bitsOf_cons, gdL _ _ _ _ (by rw [msb_length]; omega), show 8 * 0 + j = j from by omega, msb_getD c 8 j hj]
    rfl
  | c :: l, i + 1, j, h, hj => by
    rw [bitsOf_cons, gdR _ _ _ _ (by rw [msb_length]; omega), msb_length, show 8 * (i + 1) + j - 8 = 8 * i + j from by omega,
      bitsOf_getD l i j (by simpa using h) hj]
    rfl
theorem rd_testBit (bs : List Bool) (pos n b : Nat) : (rd bs pos n).testBit b = (decide (b < n) && bs.getD (pos + (n - 1 - b)) false) := by
  unfold rd; rw [wf_testBit]
theorem rd_congr {bs cs : List Bool} {p q n : Nat} (h : ∀ i, i < n → bs.getD (p + i) false = cs.getD (q + i) false) : rd bs p n = rd cs q n := by
  unfold rd
  refine wf_congr fun b hb => h (n - 1 - b) (by omega)
theorem rd_zero (bs : List Bool) (pos : Nat) : rd bs pos 0 = 0 := rfl
/-- the number that says v -/
theorem rd_msb {bs : List Bool} {pos v n : Nat} (hv : v < 2 ^ n) (h : ∀ i, i < n → bs.getD (pos + i) false = (msb v n).getD i false) : rd bs pos n = v := by
  refine Nat.eq_of_testBit_eq fun b => ?_
  rw [rd_testBit]
  by_cases hb : b < n
  · rw [h _ (by omega), msb_getD v n _ (by omega), show n - 1 - (n - 1 - b) = b from by omega]
    simp [hb]
  · have h2 : 2 ^ n ≤ 2 ^ b := Nat.pow_le_pow_right (by omega) (by omega)
    rw [Nat.testBit_lt_two_pow (by omega)]
    simp [hb]
theorem rd_bitsOf (l : List Nat) (i : Nat) (hi : i < l.length) (h : l.getD i 0 < 256) (r : List Bool) : rd (bitsOf l ++ r) (8 * i) 8 = l.getD i 0 := by
  refine rd_msb h fun j hj => ?_
  rw [gdL _ _ _ _ (by rw [bitsOf_length]; omega), bitsOf_getD l i j hi hj, msb_getD _ _ _ hj]
theorem wf_shift (f : Nat → Bool) (a b : Nat) : wf f (a + b) = wf (fun j => f (j + b)) a * 2 ^ b + wf f b := by
  induction a with
  | zero => rw [Nat.zero_add]; simp [wf]
  | succ a ih =>
    rw [show a + 1 + b = (a + b) + 1 from by omega]
    show wf f (a + b) + (if f (a + b) = true then 2 ^ (a + b) else 0) = (wf (fun j => f (j + b)) a + (if f (a + b) = true then 2 ^ a else 0)) * 2 ^ b + wf f b
    rw [ih, Nat.add_mul, Nat.pow_add]
    split
    · omega
    · omega
theorem rd_add (bs : List Bool) (pos a b : Nat) : rd bs pos (a + b) = rd bs pos a * 2 ^ b + rd bs (pos + a) b := by
  unfold rd
  rw [wf_shift]
  congr 1
  · congr 1
    refine wf_congr fun j hj => ?_
    rw [show a + b - 1 - (j + b) = a - 1 - j from by omega]
  · refine wf_congr fun j hj => ?_
    rw [show pos + (a + b - 1 - j) = pos + a + (b - 1 - j) from by omega]
/-- a piece of a byte -/
theorem rd_piece (l : List Nat) (i s t : Nat) (hi : i < l.length) (hst : s + t ≤ 8) : rd (bitsOf l) (8 * i + s) t = l.getD i 0 / 2 ^ (8 - s - t) % 2 ^ t := by
  refine Nat.eq_of_testBit_eq fun b => ?_
  rw [rd_testBit, Nat.testBit_mod_two_pow, Nat.testBit_div_two_pow]
  by_cases hb : b < t
  · rw [show 8 * i + s + (t - 1 - b) = 8 * i + (s + (t - 1 - b)) from by omega, bitsOf_getD l i _ hi (by omega)]
    congr 2
    omega
  · simp [hb]
/-- at pos the bits s stand -/
def At (bs : List Bool) (pos : Nat) (s : List Bool) : Prop := pos + s.length ≤ bs.length ∧ ∀ i, i < s.length → bs.getD (pos + i) false = s.getD i false
theorem At.fst {bs : List Bool} {pos : Nat} {s t : List Bool} (h : At bs pos (s ++ t)) : At bs pos s := by
  refine ⟨by have := h.1; rw [List.length_append] at this; omega, fun i hi => ?_⟩
  rw [h.2 i (by rw [List.length_append]; omega), gdL _ _ _ _ hi]
theorem At.snd {bs : List Bool} {pos : Nat} {s t : List Bool} (h : At bs pos (s ++ t)) : At bs (pos + s.length) t := by
  refine ⟨by have := h.1; rw [List.length_append] at this; omega, fun i hi => ?_⟩
  rw [Nat.add_assoc, h.2 _ (by rw [List.length_append]; omega), gdR _ _ _ _ (by omega)]
  congr 1; omega
theorem At.msb {bs : List Bool} {pos v n : Nat} {t : List Bool} (h : At bs pos (msb v n ++ t)) (hv : v < 2 ^ n) : rd bs pos n = v ∧ pos + n ≤ bs.length ∧ At bs (pos + n) t := by
  have h1 := h.fst
  have h2 := h.snd
  rw [msb_length] at h2
  refine ⟨rd_msb hv fun i hi => h1.2 i (by rw [msb_length]; exact hi), ?_, h2⟩
  have := h1.1
  rw [msb_length] at this
  exact this
theorem At.here (bs : List Bool) (s t : List Bool) (h : bs = s ++ t) : At bs 0 s := by
  subst h
  refine ⟨by simp, fun i hi => ?_⟩
  rw [Nat.zero_add, gdL _ _ _ _ hi]
/-- the bytes of bits -/
def bytesOf (bs : List Bool) (D : Nat) : List Nat := (List.range D).map fun i => rd bs (8 * i) 8
theorem bytesOf_length (bs : List Bool) (D : Nat) : (bytesOf bs D).length = D := by simp [bytesOf]
theorem bytesOf_getD (bs : List Bool) (D i : Nat) (h : i < D) : (bytesOf bs D).getD i 0 = rd bs (8 * i) 8 := by
  unfold bytesOf
  rw [gdE _ _ (by simpa using h)]
  simp
theorem bitsOf_bytesOf (bs : List Bool) (D : Nat) (h : bs.length = 8 * D) : bitsOf (bytesOf bs D) = bs := by
  refine List.ext_getElem (by rw [bitsOf_length, bytesOf_length, h]) fun i h1 h2 => ?_
  have e := bitsOf_getD (bytesOf bs D) (i / 8) (i % 8) (by rw [bytesOf_length]; omega) (by omega)
  rw [show 8 * (i / 8) + i % 8 = i from by omega, bytesOf_getD _ _ _ (by omega), rd_testBit, show 8 * (i / 8) + (8 - 1 - (7 - i % 8)) = i from by omega] at e
  rw [gdE _ _ h1, gdE _ _ h2] at e
  rw [e]
  have : 7 - i % 8 < 8 := by omega
  simp [this]
/-! ### rows of blocks -/
theorem filterMap_full (bl : List (List Nat)) (m : Nat) (h : ∀ b ∈ bl, m < b.length) : (bl.filterMap fun b => b[m]?) = bl.map fun b => b.getD m 0 := by
  induction bl with
  | nil => rfl
  | cons b bl ih =>
    have hb := h b (by simp)
    rw [List.filterMap_cons_some (b := b[m]) (by simp [hb]), List.map_cons, ih (fun c hc => h c (by simp [hc])), gdE _ _ hb]
theorem ilv_len (m : Nat) (bl : List (List Nat)) (h : ∀ b ∈ bl, m ≤ b.length) : (ilv m bl).length = m * bl.length := by
  rw [ilv_total, sum_const (fun b : List Nat => min m b.length) m bl (fun b hb => by have := h b hb; omega), Nat.mul_comm]
theorem ilv_pre (m n : Nat) (bl : List (List Nat)) (h : m ≤ n) : ∃ r, ilv n bl = ilv m bl ++ r := by
  obtain ⟨d, rfl⟩ := Nat.exists_eq_add_of_le h
  induction d with
  | zero => exact ⟨[], by simp⟩
  | succ d ih =>
    obtain ⟨r, hr⟩ := ih (by omega)
    exact ⟨r ++ bl.filterMap fun b => b[m + d]?, by rw [← Nat.add_assoc, ilv_succ, hr, List.append_assoc]⟩
/-- word i of block j, where all blocks have it -/
theorem ilv_get (n : Nat) (bl : List (List Nat)) (i j : Nat) (hi : i < n) (hj : j < bl.length) (h : ∀ b ∈ bl, i < b.length) (r : List Nat) :
    (ilv n bl ++ r).getD (i * bl.length + j) 0 = (bl.getD j []).getD i 0 := by
  obtain ⟨q, hq⟩ := ilv_pre (i + 1) n bl hi
  rw [hq, ilv_succ, filterMap_full bl i h, List.append_assoc, List.append_assoc, gdR _ _ _ _ (by rw [ilv_len i bl (fun b hb => by have := h b hb; omega)]; omega),
    ilv_len i bl (fun b hb => by have := h b hb; omega), show i * bl.length + j - i * bl.length = j from by omega, gdL _ _ _ _ (by simpa using hj),
    gdE _ _ (by simpa using hj), List.getElem_map, gdE _ _ hj]
/-- the last words: the first L blocks have s words, the others s + 1 -/
theorem ilv_last (s L : Nat) (bl : List (List Nat)) (h1 : ∀ j, j < bl.length → (bl.getD j []).length = if j < L then s else s + 1) (j : Nat) (hL : L ≤ j) (hj : j < bl.length) (r : List Nat) :
    (ilv (s + 1) bl ++ r).getD (s * bl.length + (j - L)) 0 = (bl.getD j []).getD s 0 := by
  have hall : ∀ b ∈ bl, s ≤ b.length := by
    intro b hb
    obtain ⟨i, hi, e⟩ := List.getElem_of_mem hb
    have := h1 i hi
    rw [gdE _ _ hi, e] at this
    split at this <;> omega
  have e1 : bl = bl.take L ++ bl.drop L := (List.take_append_drop L bl).symm
  have hsh : (bl.take L).filterMap (fun b => b[s]?) = [] := by
    rw [List.filterMap_eq_nil_iff]
    intro b hb
    obtain ⟨i, hi, e⟩ := List.getElem_of_mem hb
    rw [List.length_take] at hi
    rw [List.getElem_take] at e
    have := h1 i (by omega)
    rw [gdE _ _ (by omega), e, if_pos (by omega)] at this
    exact List.getElem?_eq_none (by omega)
  have hlo : (bl.drop L).filterMap (fun b => b[s]?) = (bl.drop L).map fun b => b.getD s 0 := by
    refine filterMap_full _ _ fun b hb => ?_
    obtain ⟨i, hi, e⟩ := List.getElem_of_mem hb
    rw [List.length_drop] at hi
    rw [List.getElem_drop] at e
    have := h1 (L + i) (by omega)
    rw [gdE _ _ (by omega), e, if_neg (by omega)] at this
    omega
  have hf : (bl.filterMap fun b => b[s]?) = (bl.drop L).map fun b => b.getD s 0 := by
    conv => lhs; rw [e1]
    rw [List.filterMap_append, hsh, hlo, List.nil_append]
  rw [ilv_succ, hf, List.append_assoc, gdR _ _ _ _ (by rw [ilv_len s bl hall]; omega), ilv_len s bl hall, show s * bl.length + (j - L) - s * bl.length = j - L from by omega,
    gdL _ _ _ _ (by rw [List.length_map, List.length_drop]; omega), gdE _ _ (by rw [List.length_map, List.length_drop]; omega), List.getElem_map, List.getElem_drop]
  rw [gdE bl _ hj]
  congr 2; omega
theorem ilv_len_last (s L : Nat) (bl : List (List Nat)) (h1 : ∀ j, j < bl.length → (bl.getD j []).length = if j < L then s else s + 1) (hL : L ≤ bl.length) :
    (ilv (s + 1) bl).length = s * bl.length + (bl.length - L) := by
  have hall : ∀ b ∈ bl, s ≤ b.length := by
    intro b hb
    obtain ⟨i, hi, e⟩ := List.getElem_of_mem hb
    have := h1 i hi
    rw [gdE _ _ hi, e] at this
    split at this <;> omega
  have e1 : bl = bl.take L ++ bl.drop L := (List.take_append_drop L bl).symm
  have hsh : (bl.take L).filterMap (fun b => b[s]?) = [] := by
    rw [List.filterMap_eq_nil_iff]
    intro b hb
    obtain ⟨i, hi, e⟩ := List.getElem_of_mem hb
    rw [List.length_take] at hi
    rw [List.getElem_take] at e
    have := h1 i (by omega)
    rw [gdE _ _ (by omega), e, if_pos (by omega)] at this
    exact List.getElem?_eq_none (by omega)
  have hlo : (bl.drop L).filterMap (fun b => b[s]?) = (bl.drop L).map fun b => b.getD s 0 := by
    refine filterMap_full _ _ fun b hb => ?_
    obtain ⟨i, hi, e⟩ := List.getElem_of_mem hb
    rw [List.length_drop] at hi
    rw [List.getElem_drop] at e
    have := h1 (L + i) (by omega)
    rw [gdE _ _ (by omega), e, if_neg (by omega)] at this
    omega
  have hf : (bl.filterMap fun b => b[s]?) = (bl.drop L).map fun b => b.getD s 0 := by
    conv => lhs; rw [e1]
    rw [List.filterMap_append, hsh, hlo, List.nil_append]
  rw [ilv_succ, hf, List.length_append, ilv_len s bl hall, List.length_map, List.length_drop]
end Go.Proofs.YtcekbhhpcmhicaaGreatDoor
/- The blocks of a version: the table says what the writer reckons; the reader's split finds the blocks again (plain). -/
namespace Go.Proofs.YtcekbhhpcmhicaaGreatDoor
open Go
set_option maxRecDepth 100000
def blShape (l : List (Nat × Nat)) : Bool :=
  match l with
  | [(c, d)] => decide (1 ≤ c) && decide (1 ≤ d) && decide (d ≤ 200) && decide (c ≤ 100)
  | [(c, d), (c2, d2)] => decide (1 ≤ c) && decide (1 ≤ d) && decide (d ≤ 200) && (d2 == d + 1) && decide (1 ≤ c2) && decide (c + c2 ≤ 100)
  | _ => false
theorem bl_all : ∀ v, v < 41 → 1 ≤ v → ∀ l, l < 4 → blShape (blOf v l) = true ∧ sumBl (ecOf v l) (blOf v l) = tot v ∧ 1 ≤ ecOf v l ∧ ecOf v l ≤ 30 := by decide +kernel
/-- c blocks of d words, then c2 blocks of d + 1 -/
structure BlLaw (v l c d c2 : Nat) : Prop where
  c1 : 1 ≤ c
  d1 : 1 ≤ d
  d2 : d ≤ 200
  n : cntBl (blOf v l) = c + c2
  n2 : c + c2 ≤ 100
  e1 : 1 ≤ ecOf v l
  e2 : ecOf v l ≤ 30
  D : dataW v l = (c + c2) * d + c2
  T : tot v = (c + c2) * (d + ecOf v l) + c2
  tab : (blOf v l = [(c, d)] ∧ c2 = 0) ∨ (blOf v l = [(c, d), (c2, d + 1)] ∧ 1 ≤ c2)
theorem bl_law {v : Nat} (h1 : 1 ≤ v) (h2 : v ≤ 40) {l : Nat} (hl : l < 4) : ∃ c d c2, BlLaw v l c d c2 := by
  obtain ⟨hs, hT, e1, e2⟩ := bl_all v (by omega) h1 l hl
  have hD : dataW v l = tot v - ecOf v l * cntBl (blOf v l) := rfl
  generalize hb : blOf v l = b at hs hT hD
  match b, hs with
  | [(c, d)], hs =>
    simp only [blShape, Bool.and_eq_true, decide_eq_true_eq] at hs
    simp only [sumBl, List.foldr_cons, List.foldr_nil, Nat.add_zero] at hT
    simp only [cntBl, List.foldr_cons, List.foldr_nil, Nat.add_zero] at hD
    refine ⟨c, d, 0, hs.1.1.1, hs.1.1.2, hs.1.2, by rw [hb]; rfl, by omega, e1, e2, ?_, ?_, .inl ⟨hb, rfl⟩⟩
    · rw [hD, ← hT, Nat.mul_add, Nat.mul_comm (ecOf v l) c, Nat.add_zero, Nat.add_zero, Nat.add_sub_cancel]
    · rw [← hT, Nat.add_zero, Nat.add_zero]
  | [(c, d), (c2, d2)], hs =>
    simp only [blShape, Bool.and_eq_true, decide_eq_true_eq, beq_iff_eq] at hs
    simp only [sumBl, List.foldr_cons, List.foldr_nil, Nat.add_zero] at hT
    simp only [cntBl, List.foldr_cons, List.foldr_nil, Nat.add_zero] at hD
    have hd2 : d2 = d + 1 := hs.1.1.2
    subst hd2
    have hT2 : tot v = (c + c2) * (d + ecOf v l) + c2 := by
      rw [← hT, Nat.add_mul, show d + 1 + ecOf v l = (d + ecOf v l) + 1 from by omega, Nat.mul_add c2 (d + ecOf v l) 1, Nat.mul_one]; omega
    refine ⟨c, d, c2, hs.1.1.1.1.1, hs.1.1.1.1.2, hs.1.1.1.2, by rw [hb]; rfl, hs.2, e1, e2, ?_, hT2, .inr ⟨hb, hs.1.2⟩⟩
    rw [hD, hT2, Nat.mul_add, Nat.mul_comm (ecOf v l) (c + c2)]; omega
theorem div_nb (c d c2 : Nat) (h : 1 ≤ c) : ((c + c2) * d + c2) / (c + c2) = d ∧ ((c + c2) * d + c2) % (c + c2) = c2 := by
  constructor
  · rw [Nat.mul_comm, Nat.mul_comm d, Nat.add_comm, Nat.add_mul_div_left _ _ (by omega), Nat.div_eq_of_lt (by omega), Nat.zero_add]
  · rw [Nat.mul_add_mod, Nat.mod_eq_of_lt (by omega)]
theorem dblks_getD (bs : List Bool) (T D nb j : Nat) (hj : j < nb) : (dblks bs T D nb).getD j [] = dblk bs T D nb j := by
  unfold dblks
  rw [gdE _ _ (by simpa using hj)]
  simp
section
variable {v l c d c2 : Nat} (h : BlLaw v l c d c2)
include h
theorem BlLaw.bsz (i : Nat) : bsz (tot v) (dataW v l) (c + c2) i = if i < c then d else d + 1 := by
  unfold Go.Proofs.YtcekbhhpcmhicaaGreatDoor.bsz
  have h1 := div_nb c d c2 h.c1
  have h2 := div_nb c (d + ecOf v l) c2 h.c1
  rw [h.D, h.T, h1.1, h2.2, show c + c2 - c2 = c from by omega]
theorem BlLaw.bec : bec (tot v) (dataW v l) (c + c2) = ecOf v l := by
  unfold Go.Proofs.YtcekbhhpcmhicaaGreatDoor.bec
  have h1 := div_nb c d c2 h.c1
  have h2 := div_nb c (d + ecOf v l) c2 h.c1
  rw [h.D, h.T, h1.1, h2.1]; omega
theorem BlLaw.boff (i : Nat) : boff (tot v) (dataW v l) (c + c2) i = i * d + (i - c) := by
  induction i with
  | zero => simp [Go.Proofs.YtcekbhhpcmhicaaGreatDoor.boff]
  | succ i ih =>
    unfold Go.Proofs.YtcekbhhpcmhicaaGreatDoor.boff
    rw [ih, h.bsz, Nat.add_mul]
    split <;> omega
theorem BlLaw.hoff : Go.Proofs.YtcekbhhpcmhicaaGreatDoor.boff (tot v) (dataW v l) (c + c2) (c + c2) = dataW v l := by
  rw [h.boff, h.D]; omega
theorem BlLaw.hsum : dataW v l + (c + c2) * Go.Proofs.YtcekbhhpcmhicaaGreatDoor.bec (tot v) (dataW v l) (c + c2) = tot v := by
  rw [h.bec, h.D, h.T, Nat.mul_add]; omega
theorem BlLaw.div : dataW v l / (c + c2) = d := by rw [h.D]; exact (div_nb c d c2 h.c1).1
/-- word i of block j, as the reader takes it out of the raw words -/
def cwAt (raw : List Nat) (s c nb j i : Nat) : Nat :=
  if i < s then raw.getD (i * nb + j) 0 else if j < c then raw.getD (s * nb + (nb - c) + (i - s) * nb + j) 0
  else if i = s then raw.getD (s * nb + (j - c)) 0 else raw.getD (s * nb + (nb - c) + (i - 1 - s) * nb + j) 0
theorem BlLaw.mxd : mxd (tot v) (dataW v l) (c + c2) (c + c2) = if c2 = 0 then d else d + 1 := by
  have := h.c1
  unfold Go.Proofs.YtcekbhhpcmhicaaGreatDoor.mxd
  rw [if_neg (by omega), h.bsz]
  by_cases e : c2 = 0
  · rw [if_pos e, if_pos (by omega)]
  · rw [if_neg e, if_neg (by omega)]
theorem BlLaw.raw_len (bs : List Bool) (es : List (List Nat)) (hes : es.length = c + c2) (hel : ∀ e ∈ es, e.length = ecOf v l) :
    (ilv (Go.Proofs.YtcekbhhpcmhicaaGreatDoor.mxd (tot v) (dataW v l) (c + c2) (c + c2)) (dblks bs (tot v) (dataW v l) (c + c2)) ++ ilv (ecOf v l) es).length = tot v := by
  rw [List.length_append, dilv_length, h.hoff, ilv_len _ _ (fun e he => by rw [hel e he]; exact Nat.le_refl _), hes, h.D, h.T, Nat.mul_add (c + c2) d, Nat.mul_comm (ecOf v l) (c + c2)]
  omega
theorem BlLaw.split (bs : List Bool) (es : List (List Nat)) (hes : es.length = c + c2) (hel : ∀ e ∈ es, e.length = ecOf v l) (j i : Nat) (hj : j < c + c2) (hi : i < (if j < c then d else d + 1) + ecOf v l) :
    cwAt (ilv (Go.Proofs.YtcekbhhpcmhicaaGreatDoor.mxd (tot v) (dataW v l) (c + c2) (c + c2)) (dblks bs (tot v) (dataW v l) (c + c2)) ++ ilv (ecOf v l) es) d c (c + c2) j i =
      (dblk bs (tot v) (dataW v l) (c + c2) j ++ es.getD j []).getD i 0 := by
  have hbl := dblks_length bs (tot v) (dataW v l) (c + c2)
  have hlen : ∀ j, j < (dblks bs (tot v) (dataW v l) (c + c2)).length → ((dblks bs (tot v) (dataW v l) (c + c2)).getD j []).length = if j < c then d else d + 1 := by
    intro j hj
    rw [hbl] at hj
    rw [dblks_getD _ _ _ _ _ hj, dblk_length, h.bsz]
  have hD : (ilv (Go.Proofs.YtcekbhhpcmhicaaGreatDoor.mxd (tot v) (dataW v l) (c + c2) (c + c2)) (dblks bs (tot v) (dataW v l) (c + c2))).length = d * (c + c2) + c2 := by
    rw [dilv_length, h.hoff, h.D, Nat.mul_comm]
  have hec : ∀ t, t < ecOf v l → (ilv (Go.Proofs.YtcekbhhpcmhicaaGreatDoor.mxd (tot v) (dataW v l) (c + c2) (c + c2)) (dblks bs (tot v) (dataW v l) (c + c2)) ++ ilv (ecOf v l) es).getD (d * (c + c2) + c2 + t * (c + c2) + j) 0 = (es.getD j []).getD t 0 := by
    intro t ht
    rw [gdR _ _ _ _ (by rw [hD]; omega), hD, show d * (c + c2) + c2 + t * (c + c2) + j - (d * (c + c2) + c2) = t * (c + c2) + j from by omega, ← hes]
    have := ilv_get (ecOf v l) es t j ht (by rw [hes]; exact hj) (fun e he => by rw [hel e he]; exact ht) []
    rw [List.append_nil] at this
    exact this
  have hdl : (dblk bs (tot v) (dataW v l) (c + c2) j).length = if j < c then d else d + 1 := by rw [dblk_length, h.bsz]
  unfold cwAt
  by_cases h1 : i < d
  · rw [if_pos h1]
    have := ilv_get (Go.Proofs.YtcekbhhpcmhicaaGreatDoor.mxd (tot v) (dataW v l) (c + c2) (c + c2)) (dblks bs (tot v) (dataW v l) (c + c2)) i j (by rw [h.mxd]; split <;> omega) (by rw [hbl]; exact hj) (fun b hb => by
      obtain ⟨t, ht, e⟩ := List.getElem_of_mem hb
      have := hlen t ht
      rw [gdE _ _ ht, e] at this
      split at this <;> omega) (ilv (ecOf v l) es)
    rw [hbl] at this
    rw [this, dblks_getD _ _ _ _ _ hj, gdL _ _ _ _ (by rw [hdl]; split <;> omega)]
  · rw [if_neg h1]
    by_cases h2 : j < c
    · rw [if_pos h2, show c + c2 - c = c2 from by omega, hec (i - d) (by rw [if_pos h2] at hi; omega), gdR _ _ _ _ (by rw [hdl, if_pos h2]; omega), hdl, if_pos h2]
    · rw [if_neg h2]
      rw [if_neg h2] at hi hdl
      by_cases h3 : i = d
      · rw [if_pos h3, h3]
        have := ilv_last d c (dblks bs (tot v) (dataW v l) (c + c2)) hlen j (by omega) (by rw [hbl]; exact hj) (ilv (ecOf v l) es)
        rw [hbl] at this
        rw [h.mxd, if_neg (by omega), this, dblks_getD _ _ _ _ _ hj, gdL _ _ _ _ (by rw [hdl]; omega)]
      · rw [if_neg h3, show c + c2 - c = c2 from by omega, hec (i - 1 - d) (by omega), gdR _ _ _ _ (by rw [hdl]; omega), hdl]
        congr 1
        omega
theorem BlLaw.data (bs : List Bool) (j i : Nat) (hj : j < c + c2) (hi : i < (if j < c then d else d + 1)) :
    (dblk bs (tot v) (dataW v l) (c + c2) j).getD i 0 = (bytesOf bs (dataW v l)).getD (j * d + (j - c) + i) 0 := by
  rw [dblk_getD _ _ _ _ _ _ (by rw [h.bsz]; exact hi), h.boff]
  have hlt : j * d + (j - c) + i < dataW v l := by
    have e1 := boff_mono (tot v) (dataW v l) (c + c2) (show j + 1 ≤ c + c2 from hj)
    rw [h.hoff, h.boff] at e1
    rw [Nat.add_mul] at e1
    split at hi <;> omega
  rw [bytesOf_getD _ _ _ hlt]
  congr 1
  omega
end
end Go.Proofs.YtcekbhhpcmhicaaGreatDoor
/- Which version the writer takes for a text of at most 600 bytes (plain). -/
namespace Go.Proofs.YtcekbhhpcmhicaaGreatDoor
open Go
set_option maxRecDepth 100000
theorem least_ex (P : Nat → Prop) : ∀ N, 1 ≤ N → P N → ∃ v, 1 ≤ v ∧ v ≤ N ∧ P v ∧ ∀ u, 1 ≤ u → u < v → ¬ P u := by
  intro N
  induction N using Nat.strongRecOn with
  | ind N ih =>
    intro h1 hP
    by_cases h : ∃ u, 1 ≤ u ∧ u < N ∧ P u
    · obtain ⟨u, a, b, c⟩ := h
      obtain ⟨v, d, e, f⟩ := ih u b a c
      exact ⟨v, d, by omega, f⟩
    · exact ⟨N, h1, Nat.le_refl _, hP, fun u a b c => h ⟨u, a, b, c⟩⟩
theorem big27 : ∀ l, l < 4 → 605 ≤ dataW 27 l := by decide +kernel
theorem big26 : ∀ l, l < 4 → 500 ≤ dataW 26 l := by decide +kernel
theorem small9 : ∀ v, v < 10 → ∀ l, l < 4 → dataW v l ≤ 232 := by decide +kernel
theorem encBy_length (l : List Nat) : (encBy l).length = 8 * l.length := bitsOf_length l
theorem encAl_low : ∀ l : List Nat, 11 * l.length ≤ 2 * (encAl l).length
  | a :: b :: r => by have := encAl_low r; simp only [encAl, List.length_append, msb_length, List.length_cons]; omega
  | [a] => by simp [encAl, msb_length]
  | [] => by simp [encAl]
theorem cc_range (m v : Nat) (hm : Mode3 m) : 8 ≤ cc m v ∧ cc m v ≤ 16 := by
  unfold cc; rcases hm with rfl | rfl | rfl <;> simp only [ccRow] <;> split <;> (try split) <;> omega
theorem choice (m lv : Nat) (hm : Mode3 m) (hlv : lv < 4) (t : List Nat) (ht : t.length ≤ 600) :
    ∃ v1 v2, 1 ≤ v1 ∧ v1 ≤ 40 ∧ 1 ≤ v2 ∧ v2 ≤ 27 ∧ Fits (4 + cc m 1 + (enc m t).length) v1 (lvIdx lv) ∧ (∀ u, 1 ≤ u → u < v1 → ¬ Fits (4 + cc m 1 + (enc m t).length) u (lvIdx lv)) ∧
      Fits (4 + cc m v1 + (enc m t).length) v2 (lvIdx lv) ∧ (∀ u, 1 ≤ u → u < v2 → ¬ Fits (4 + cc m v1 + (enc m t).length) u (lvIdx lv)) ∧
      4 + cc m v2 + (enc m t).length ≤ 8 * dataW v2 (lvIdx lv) ∧ t.length < 2 ^ cc m v2 := by
  have hl := lvIdx_lt lv
  have hrange : ∀ v, 8 ≤ cc m v ∧ cc m v ≤ 16 := fun v => cc_range m v hm
  have hN : (m = 4 ∧ (enc m t).length = 8 * t.length) ∨ ((m = 1 ∨ m = 2) ∧ (enc m t).length ≤ 6 * t.length ∧ (m = 2 → 11 * t.length ≤ 2 * (enc m t).length)) := by
    rcases hm with rfl | rfl | rfl
    · refine .inr ⟨.inl rfl, ?_, fun e => by omega⟩
      have := encNum_len t
      show (encNum t).length ≤ _
      omega
    · exact .inr ⟨.inr rfl, encAl_len t, fun _ => encAl_low t⟩
    · exact .inl ⟨rfl, encBy_length t⟩
  obtain ⟨N, hNe⟩ : ∃ N, (enc m t).length = N := ⟨_, rfl⟩
  rw [hNe] at hN ⊢
  have hb27 := big27 (lvIdx lv) hl
  have hb26 := big26 (lvIdx lv) hl
  have mk : ∀ n, n ≤ 4840 → ∃ v, 1 ≤ v ∧ v ≤ 27 ∧ Fits n v (lvIdx lv) ∧ ∀ u, 1 ≤ u → u < v → ¬ Fits n u (lvIdx lv) := fun n hn =>
    least_ex (fun v => Fits n v (lvIdx lv)) 27 (by omega) (by unfold Fits; omega)
  have mk2 : ∀ n, n ≤ 3900 → ∃ v, 1 ≤ v ∧ v ≤ 26 ∧ Fits n v (lvIdx lv) ∧ ∀ u, 1 ≤ u → u < v → ¬ Fits n u (lvIdx lv) := fun n hn =>
    least_ex (fun v => Fits n v (lvIdx lv)) 26 (by omega) (by unfold Fits; omega)
  have hpow : ∀ v, 256 ≤ 2 ^ cc m v := fun v => Nat.pow_le_pow_right (n := 2) (by omega) (hrange v).1
  have h9 : ∀ v, v ≤ 9 → Fits (4 + cc m v + N) v (lvIdx lv) → t.length < 2 ^ cc m v := by
    intro v hv hf
    have := small9 v (by omega) (lvIdx lv) hl
    have := hrange v
    unfold Fits at hf
    have hN9 : N ≤ 1848 := by omega
    rcases hN with ⟨_, e⟩ | ⟨e0, e1, e2⟩
    · have := hpow v; omega
    · rcases e0 with rfl | rfl
      · have : cc 1 v = 10 := by unfold cc; rw [if_pos hv]; rfl
        rw [this]; omega
      · have : cc 2 v = 9 := by unfold cc; rw [if_pos hv]; rfl
        rw [this]
        have := e2 rfl
        omega
  have hbig : ∀ v, 9 < v → t.length < 2 ^ cc m v := by
    intro v hv
    have : 11 ≤ cc m v := by
      unfold cc
      rw [if_neg (by omega)]
      rcases hm with rfl | rfl | rfl <;> split <;> simp only [ccRow] <;> omega
    have := Nat.pow_le_pow_right (n := 2) (by omega) this
    omega
  have fin : ∀ v1 v2, 1 ≤ v1 → v1 ≤ 40 → 1 ≤ v2 → v2 ≤ 27 → cc m v2 = cc m v1 → Fits (4 + cc m 1 + N) v1 (lvIdx lv) → (∀ u, 1 ≤ u → u < v1 → ¬ Fits (4 + cc m 1 + N) u (lvIdx lv)) →
      Fits (4 + cc m v1 + N) v2 (lvIdx lv) → (∀ u, 1 ≤ u → u < v2 → ¬ Fits (4 + cc m v1 + N) u (lvIdx lv)) →
      ∃ v1 v2, 1 ≤ v1 ∧ v1 ≤ 40 ∧ 1 ≤ v2 ∧ v2 ≤ 27 ∧ Fits (4 + cc m 1 + N) v1 (lvIdx lv) ∧ (∀ u, 1 ≤ u → u < v1 → ¬ Fits (4 + cc m 1 + N) u (lvIdx lv)) ∧
        Fits (4 + cc m v1 + N) v2 (lvIdx lv) ∧ (∀ u, 1 ≤ u → u < v2 → ¬ Fits (4 + cc m v1 + N) u (lvIdx lv)) ∧ 4 + cc m v2 + N ≤ 8 * dataW v2 (lvIdx lv) ∧ t.length < 2 ^ cc m v2 := by
    intro v1 v2 a1 a2 a3 a4 hcc f1 g1 f2 g2
    refine ⟨v1, v2, a1, a2, a3, a4, f1, g1, f2, g2, ?_, ?_⟩
    · rw [hcc]; unfold Fits at f2; omega
    · by_cases h : v2 ≤ 9
      · exact h9 v2 h (by rw [hcc]; exact f2)
      · exact hbig v2 (by omega)
  have hr1 := hrange 1
  have cc9 : ∀ v, v ≤ 9 → cc m v = cc m 1 := by
    intro v hv; unfold cc; rw [if_pos hv, if_pos (by omega)]
  have cc26 : ∀ u v, 9 < u → u ≤ 26 → 9 < v → v ≤ 26 → cc m u = cc m v := by
    intro u v a b c d; unfold cc; rw [if_neg (by omega), if_pos b, if_neg (by omega), if_pos d]
  have ccB : m = 4 → ∀ u v, 9 < u → 9 < v → cc m u = cc m v := by
    intro e u v a b
    subst e
    have h16 : ∀ u, 9 < u → cc 4 u = 16 := by
      intro u a; unfold cc; rw [if_neg (by omega)]; split <;> rfl
    rw [h16 u a, h16 v b]
  have mono : ∀ a b v, a ≤ b → Fits b v (lvIdx lv) → Fits a v (lvIdx lv) := by
    intro a b v hab h; unfold Fits at *; omega
  have cc1 : ∀ v, cc m 1 ≤ cc m v := by
    intro v; unfold cc; rw [if_pos (by omega)]
    rcases hm with rfl | rfl | rfl <;> simp only [ccRow] <;> split <;> (try split) <;> omega
  rcases hN with ⟨e0, e⟩ | ⟨e0, e1, e2⟩
  · obtain ⟨v1, a1, a2, f1, g1⟩ := mk (4 + cc m 1 + N) (by omega)
    have := hrange v1
    obtain ⟨v2, b1, b2, f2, g2⟩ := mk (4 + cc m v1 + N) (by omega)
    have hle : v1 ≤ v2 := by
      refine Nat.le_of_not_lt fun hlt => g1 v2 b1 hlt (mono _ _ _ (by have := cc1 v1; omega) f2)
    refine fin v1 v2 a1 (by omega) b1 b2 ?_ f1 g1 f2 g2
    by_cases h : v1 ≤ 9
    · have hh := cc9 v1 h
      rw [hh] at f2 g2
      have : v2 ≤ v1 := Nat.le_of_not_lt fun hlt => g2 v1 a1 hlt f1
      rw [show v2 = v1 from by omega]
    · exact ccB e0 _ _ (by omega) (by omega)
  · obtain ⟨v1, a1, a2, f1, g1⟩ := mk2 (4 + cc m 1 + N) (by omega)
    have := hrange v1
    obtain ⟨v2, b1, b2, f2, g2⟩ := mk2 (4 + cc m v1 + N) (by omega)
    have hle : v1 ≤ v2 := by
      refine Nat.le_of_not_lt fun hlt => g1 v2 b1 hlt (mono _ _ _ (by have := cc1 v1; omega) f2)
    refine fin v1 v2 a1 (by omega) b1 (by omega) ?_ f1 g1 f2 g2
    by_cases h : v1 ≤ 9
    · have hh := cc9 v1 h
      rw [hh] at f2 g2
      have : v2 ≤ v1 := Nat.le_of_not_lt fun hlt => g2 v1 a1 hlt f1
      rw [show v2 = v1 from by omega]
    · exact cc26 _ _ (by omega) (by omega) (by omega) (by omega)
end Go.Proofs.YtcekbhhpcmhicaaGreatDoor
/- What the reader finds on the path is what the writer laid there (plain). -/
namespace Go.Proofs.YtcekbhhpcmhicaaGreatDoor
open Go
set_option maxRecDepth 100000
/-- the bits that the reader finds: B the modules, k the mask, v the version -/
def found (B : Nat → Nat → Bool) (k v c : Nat) : List Bool := ((pathOf (17 + 4 * v) c).filter (opn (fpM v))).map fun p => B p.2 p.1 ^^ dmk k p.2 p.1
theorem filter_same (v l k : Nat) (h1 : 1 ≤ v) (h2 : v ≤ 40) : (pathOf (17 + 4 * v) (8 + 2 * v)).filter (opn (fpM v)) = (pathOf (17 + 4 * v) (8 + 2 * v)).filter (free (funM v l k)) := by
  refine List.filter_congr fun p hp => ?_
  have := path_in hp (by omega)
  exact fp_free v l k h1 h2 this.2 this.1
theorem fp_count (v : Nat) (h1 : 1 ≤ v) (h2 : v ≤ 27) : ((pathOf (17 + 4 * v) (8 + 2 * v)).filter (opn (fpM v))).length / 8 = tot v := by
  rw [path_count v h1 h2 (fpM v) (fun y x hy hx => fpM_iff v h1 (by omega) y x hy hx)]
  exact (cells_all v (by omega) h1).1
theorem sym_all (v l k : Nat) (bits : List Bool) (h1 : 1 ≤ v) (h2 : v ≤ 27) (hb : bits.length = 8 * tot v) : (symM v l k bits).2 = bits.length := by
  have e : symM v l k bits = embAll bits k (pathOf (17 + 4 * v) (8 + 2 * v)) (funM v l k, 0) := rfl
  have hlaw := (emb_law bits k (pathOf (17 + 4 * v) (8 + 2 * v)) (funM v l k) 0 (path_nodup _ _ (by omega) (by omega)) (Nat.zero_le _)).1
  rw [← filter_same v l k h1 (by omega)] at hlaw
  have := fp_count v h1 h2
  rw [e, hlaw]
  omega
theorem found_eq (v l k : Nat) (bits : List Bool) (h1 : 1 ≤ v) (h2 : v ≤ 27) (hk : k < 8) :
    found (symB v l k bits) k v (8 + 2 * v) = (List.range ((pathOf (17 + 4 * v) (8 + 2 * v)).filter (opn (fpM v))).length).map fun t => bits.getD t false := by
  have hlaw := (emb_law bits k (pathOf (17 + 4 * v) (8 + 2 * v)) (funM v l k) 0 (path_nodup _ _ (by omega) (by omega)) (Nat.zero_le _)).2.2
  rw [← filter_same v l k h1 (by omega)] at hlaw
  simp only [Nat.zero_add] at hlaw
  rw [← hlaw]
  unfold found
  refine List.map_congr_left fun p _ => ?_
  rw [dmk_eq k p.2 p.1 hk]
  rfl
theorem found_read (v l k : Nat) (cw : List Nat) (h1 : 1 ≤ v) (h2 : v ≤ 27) (hk : k < 8) (hcw : cw.length = tot v) (hc : ∀ c ∈ cw, c < 256) :
    (found (symB v l k (bitsOf cw)) k v (8 + 2 * v)).length / 8 = tot v ∧ ∀ i, i < tot v → rd (found (symB v l k (bitsOf cw)) k v (8 + 2 * v)) (8 * i) 8 = cw.getD i 0 := by
  have hcount := fp_count v h1 h2
  have hf := found_eq v l k (bitsOf cw) h1 h2 hk
  generalize ((pathOf (17 + 4 * v) (8 + 2 * v)).filter (opn (fpM v))).length = N at *
  rw [hf]
  refine ⟨by simpa using hcount, fun i hi => ?_⟩
  have hci : cw.getD i 0 < 256 := by
    rw [gdE _ _ (by omega)]
    exact hc _ (List.getElem_mem _)
  have := rd_bitsOf cw i (by omega) hci []
  rw [List.append_nil] at this
  rw [← this]
  refine rd_congr fun j hj => ?_
  rw [gdE _ _ (by simp; omega), List.getElem_map, List.getElem_range]
end Go.Proofs.YtcekbhhpcmhicaaGreatDoor
/- Which raw word the reader puts where: each place once. No program. -/
namespace Go.Proofs.YtcekbhhpcmhicaaGreatDoor
open Go Go.RowKit Go.Deep
/-- how many codewords block j has, data alone -/
def dOf (c d j : Nat) : Nat := if j < c then d else d + 1
/-- the raw index of word i of block j -/
def offAt (d c nb j i : Nat) : Nat :=
  if i < d then i * nb + j else if j < c then d * nb + (nb - c) + (i - d) * nb + j
  else if i = d then d * nb + (j - c) else d * nb + (nb - c) + (i - 1 - d) * nb + j
theorem cwAt_off (raw : List Nat) (d c nb j i : Nat) : cwAt raw d c nb j i = raw.getD (offAt d c nb j i) 0 := by
  unfold cwAt offAt
  split
  · rfl
  · split
    · rfl
    · split <;> rfl
theorem nb_inj {nb a b j k : Nat} (hj : j < nb) (hk : k < nb) (h : a * nb + j = b * nb + k) : a = b ∧ j = k := by
  have h1 : (a * nb + j) / nb = a := by rw [Nat.mul_comm, Nat.mul_add_div (by omega), Nat.div_eq_of_lt hj]; omega
  have h2 : (b * nb + k) / nb = b := by rw [Nat.mul_comm, Nat.mul_add_div (by omega), Nat.div_eq_of_lt hk]; omega
  have e : a = b := by rw [← h1, h, h2]
  subst e
  exact ⟨rfl, by omega⟩
theorem off_cases (d c nb j i : Nat) (hj : j < nb) :
    (i < d ∧ offAt d c nb j i = i * nb + j ∧ offAt d c nb j i < d * nb) ∨ (i = d ∧ c ≤ j ∧ offAt d c nb j i = d * nb + (j - c)) ∨
      (∃ e, offAt d c nb j i = d * nb + (nb - c) + e * nb + j ∧ ((j < c ∧ i = d + e) ∨ (c ≤ j ∧ i = d + e + 1))) := by
  unfold offAt
  by_cases h1 : i < d
  · have : (i + 1) * nb ≤ d * nb := Nat.mul_le_mul_right _ h1
    rw [Nat.add_mul] at this
    rw [if_pos h1]
    exact .inl ⟨h1, rfl, by omega⟩
  · rw [if_neg h1]
    by_cases h2 : j < c
    · rw [if_pos h2]
      exact .inr (.inr ⟨i - d, rfl, .inl ⟨h2, by omega⟩⟩)
    · rw [if_neg h2]
      by_cases h3 : i = d
      · rw [if_pos h3]; exact .inr (.inl ⟨h3, by omega, rfl⟩)
      · rw [if_neg h3]
        exact .inr (.inr ⟨i - 1 - d, rfl, .inr ⟨by omega, by omega⟩⟩)
theorem off_inj {d c nb j i j' i' : Nat} (hc : c ≤ nb) (hj : j < nb) (hj' : j' < nb) (h : offAt d c nb j i = offAt d c nb j' i') : j = j' ∧ i = i' := by
  rcases off_cases d c nb j i hj with ⟨a1, a2, a3⟩ | ⟨a1, a2, a3⟩ | ⟨e, a1, a2⟩ <;> rcases off_cases d c nb j' i' hj' with ⟨b1, b2, b3⟩ | ⟨b1, b2, b3⟩ | ⟨e', b1, b2⟩
  · rw [a2, b2] at h
    have := nb_inj hj hj' h
    omega
  · omega
  · omega
  · omega
  · omega
  · omega
  · omega
  · omega
  · rw [a1, b1] at h
    have := nb_inj (nb := nb) (a := e) (b := e') hj hj' (by omega)
    omega
theorem off_lt {d c nb j i E : Nat} (hc : c ≤ nb) (hj : j < nb) (hi : i < dOf c d j + E) : offAt d c nb j i < d * nb + (nb - c) + E * nb := by
  unfold dOf at hi
  rcases off_cases d c nb j i hj with ⟨a1, a2, a3⟩ | ⟨a1, a2, a3⟩ | ⟨e, a1, a2⟩
  · omega
  · have : 1 * nb ≤ E * nb ∨ j - c < nb - c := by omega
    omega
  · have : e < E := by split at hi <;> omega
    have := Nat.mul_le_mul_right nb (show e + 1 ≤ E from this)
    rw [Nat.add_mul] at this
    omega
/-- the places whose raw index lies below k are filled -/
def Fil (d c nb : Nat) (raw : List Nat) (f : Nat → Nat → Nat) (k : Nat) : Prop := ∀ j i, j < nb → offAt d c nb j i < k → f j i = raw.getD (offAt d c nb j i) 0
theorem Fil.zero (d c nb : Nat) (raw : List Nat) (f : Nat → Nat → Nat) : Fil d c nb raw f 0 := fun _ _ _ h => absurd h (by omega)
theorem Fil.step {d c nb : Nat} {raw : List Nat} {f : Nat → Nat → Nat} {k : Nat} (h : Fil d c nb raw f k) (hc : c ≤ nb) (j i : Nat) (hj : j < nb) (ho : offAt d c nb j i = k) :
    Fil d c nb raw (fun a b => if a = j ∧ b = i then raw.getD k 0 else f a b) (k + 1) := by
  intro a b ha hab
  by_cases e : a = j ∧ b = i
  · simp only [if_pos e]; rw [e.1, e.2, ho]
  · simp only [if_neg e]
    refine h a b ha (Nat.lt_of_le_of_ne (by omega) fun e2 => e ?_)
    exact off_inj hc ha hj (e2.trans ho.symm)
end Go.Proofs.YtcekbhhpcmhicaaGreatDoor
/- BitMatrix: its modules in memory. -/
namespace Go.Proofs.YtcekbhhpcmhicaaGreatDoor
open Go Go.RowKit Go.Deep
set_option maxRecDepth 100000
/-- word k of the rows of rs words -/
def qw (B : Nat → Nat → Bool) (rs k : Nat) : Nat := wf (fun b => B (k / rs) (32 * (k % rs) + b)) 32
def qwV (B : Nat → Nat → Bool) (rs : Nat) : Nat → Value := fun k => .int .u32 (qw B rs k : Nat)
def setB (B : Nat → Nat → Bool) (y x : Nat) : Nat → Nat → Bool := fun y' x' => B y' x' || decide (y' = y ∧ x' = x)
def flipB (B : Nat → Nat → Bool) (y x : Nat) : Nat → Nat → Bool := fun y' x' => B y' x' ^^ decide (y' = y ∧ x' = x)
theorem qw_lt (B : Nat → Nat → Bool) (rs k : Nat) : qw B rs k < 4294967296 := wf_lt _ 32
theorem qw_idx (rs y x : Nat) (h : x / 32 < rs) : (y * rs + x / 32) / rs = y ∧ (y * rs + x / 32) % rs = x / 32 := by
  constructor
  · rw [Nat.mul_comm, Nat.mul_add_div (by omega), Nat.div_eq_of_lt h, Nat.add_zero]
  · rw [Nat.mul_comm, Nat.mul_add_mod, Nat.mod_eq_of_lt h]
theorem qw_bit (B : Nat → Nat → Bool) (rs y x : Nat) (h : x / 32 < rs) : (qw B rs (y * rs + x / 32)).testBit (x % 32) = B y x := by
  obtain ⟨e1, e2⟩ := qw_idx rs y x h
  unfold qw
  rw [wf_testBit, e1, e2]
  have : x % 32 < 32 := by omega
  simp only [this, decide_true, Bool.true_and]
  congr 1; omega
theorem qw_at (rs y x k b : Nat) (h : x / 32 < rs) (hb : b < 32) : (k / rs = y ∧ 32 * (k % rs) + b = x) ↔ (k = y * rs + x / 32 ∧ b = x % 32) := by
  constructor
  · rintro ⟨e1, e2⟩
    have := Nat.div_add_mod k rs
    rw [e1] at this
    have e3 : k % rs = x / 32 := by omega
    rw [e3, Nat.mul_comm] at this
    exact ⟨this.symm, by omega⟩
  · rintro ⟨e1, e2⟩
    obtain ⟨f1, f2⟩ := qw_idx rs y x h
    rw [e1, f1, f2]
    exact ⟨rfl, by omega⟩
theorem qw_set (B : Nat → Nat → Bool) (rs y x k : Nat) (h : x / 32 < rs) : qw (setB B y x) rs k = if k = y * rs + x / 32 then qw B rs k ||| 2 ^ (x % 32) else qw B rs k := by
  split
  · rename_i e
    unfold qw
    rw [wf_or _ _ _ (by omega)]
    refine wf_congr fun b hb => ?_
    unfold setB
    congr 1
    rw [decide_eq_decide, qw_at rs y x k b h hb]
    exact ⟨fun t => t.2, fun t => ⟨e, t⟩⟩
  · rename_i e
    unfold qw
    refine wf_congr fun b hb => ?_
    unfold setB
    rw [decide_eq_false (fun t => e ((qw_at rs y x k b h hb).1 t).1), Bool.or_false]
theorem qw_flip (B : Nat → Nat → Bool) (rs y x k : Nat) (h : x / 32 < rs) : qw (flipB B y x) rs k = if k = y * rs + x / 32 then qw B rs k ^^^ 2 ^ (x % 32) else qw B rs k := by
  split
  · rename_i e
    unfold qw
    rw [wf_xor _ _ _ (by omega)]
    refine wf_congr fun b hb => ?_
    unfold flipB
    congr 1
    rw [decide_eq_decide, qw_at rs y x k b h hb]
    exact ⟨fun t => t.2, fun t => ⟨e, t⟩⟩
  · rename_i e
    unfold qw
    refine wf_congr fun b hb => ?_
    unfold flipB
    rw [decide_eq_false (fun t => e ((qw_at rs y x k b h hb).1 t).1), Bool.xor_false]
theorem qw_zero (rs k : Nat) : qw noB rs k = 0 := wf_zero 32
theorem qw_or (B : Nat → Nat → Bool) (rs k i : Nat) (hi : i < 32) : bits .or .u32 (qw B rs k : Nat) ((2 : Int) ^ i % 4294967296) = ((qw B rs k ||| 2 ^ i : Nat) : Int) := by
  rw [pow32_mod i hi]
  exact u32_or_nat _ _ (qw_lt _ _ _) (Nat.pow_lt_pow_right (by omega) hi)
def qs (n : Nat) : Nat := (n + 31) / 32
/-- a BitMatrix of n rows and columns at block p, its words in block g -/
structure QM (w : World) (p g n : Nat) (B : Nat → Nat → Bool) : Prop where
  st : Blk w p 304 #[i64 n, i64 n, i64 (qs n), .slice (some ⟨g, 0, none⟩) (qs n * n) (qs n * n)]
  ws : w.rowIs g 252 (qs n * n) (qwV B (qs n))
  l1 : 1 ≤ n
  l2 : n ≤ 200
theorem QM.fr {w w' : World} {p g n : Nat} {B : Nat → Nat → Bool} {F : Nat → Prop} (h : QM w p g n B) (hf : Fr F w w') (h1 : ¬ F p) (h2 : ¬ F g) : QM w' p g n B := ⟨h.st.fr hf h1, rowFr h.ws hf h2, h.l1, h.l2⟩
theorem QM.nil {w w' : World} {p g n : Nat} {B : Nat → Nat → Bool} (h : QM w p g n B) (hf : Fr Nil w w') : QM w' p g n B := h.fr hf (fun e => e) (fun e => e)
theorem QM.ne {w : World} {p g n : Nat} {B : Nat → Nat → Bool} (h : QM w p g n B) : p ≠ g := h.st.row_ne h.ws (by decide)
theorem QM.c {w : World} {p g n : Nat} {B : Nat → Nat → Bool} (h : QM w p g n B) : w.cell? ⟨p, 0, none⟩ = some (i64 n) ∧ w.cell? ⟨p, 1, none⟩ = some (i64 n) ∧ w.cell? ⟨p, 2, none⟩ = some (i64 (qs n)) ∧ w.cell? ⟨p, 3, none⟩ = some (.slice (some ⟨g, 0, none⟩) (qs n * n) (qs n * n)) :=
  ⟨by simpa using h.st.cell 0, by simpa using h.st.cell 1, by simpa using h.st.cell 2, by simpa using h.st.cell 3⟩
theorem qs_lt (n x : Nat) (hx : x < n) : x / 32 < qs n := by unfold qs; omega
theorem qo_lt (n x y : Nat) (hx : x < n) (hy : y < n) : y * qs n + x / 32 < qs n * n := by
  have h1 := qs_lt n x hx
  have h2 : (y + 1) * qs n ≤ n * qs n := Nat.mul_le_mul_right _ (by omega)
  rw [Nat.add_mul, Nat.mul_comm n] at h2
  omega
theorem ql_le (n : Nat) (h : n ≤ 200) : qs n ≤ 7 ∧ qs n * n ≤ 1400 := by
  have h1 : qs n ≤ 7 := by unfold qs; omega
  exact ⟨h1, Nat.le_trans (Nat.mul_le_mul h1 h) (by decide)⟩
theorem QM.set {w : World} {p g n : Nat} {B : Nat → Nat → Bool} (h : QM w p g n B) {x y : Nat} (hx : x < n) : QM (w.setCell ⟨g, y * qs n + x / 32, none⟩ (.int .u32 (qw B (qs n) (y * qs n + x / 32) ||| 2 ^ (x % 32) : Nat))) p g n (setB B y x) := by
  refine ⟨h.st.far (p := ⟨g, _, none⟩) h.ne _, (h.ws.set _ _).congr (fun i _ => ?_), h.l1, h.l2⟩
  show (if i = _ then Value.int .u32 _ else Value.int .u32 _) = Value.int .u32 _
  rw [qw_set B (qs n) y x i (qs_lt n x hx)]
  split
  · rename_i e; rw [e]
  · rfl
theorem QM.flip {w : World} {p g n : Nat} {B : Nat → Nat → Bool} (h : QM w p g n B) {x y : Nat} (hx : x < n) : QM (w.setCell ⟨g, y * qs n + x / 32, none⟩ (.int .u32 (qw B (qs n) (y * qs n + x / 32) ^^^ 2 ^ (x % 32) : Nat))) p g n (flipB B y x) := by
  refine ⟨h.st.far (p := ⟨g, _, none⟩) h.ne _, (h.ws.set _ _).congr (fun i _ => ?_), h.l1, h.l2⟩
  show (if i = _ then Value.int .u32 _ else Value.int .u32 _) = Value.int .u32 _
  rw [qw_flip B (qs n) y x i (qs_lt n x hx)]
  split
  · rename_i e; rw [e]
  · rfl
theorem QM.drewN {w : World} {p g n m : Nat} {B : Nat → Nat → Bool} (h : QM w p g n B) : QM (w.drewN m) p g n B := ⟨h.st, h.ws, h.l1, h.l2⟩
theorem QM.congr {w : World} {p g n : Nat} {B C : Nat → Nat → Bool} (h : QM w p g n B) (e : B = C) : QM w p g n C := e ▸ h
end Go.Proofs.YtcekbhhpcmhicaaGreatDoor
/- BitMatrix: its small methods. -/
namespace Go.Proofs.YtcekbhhpcmhicaaGreatDoor
open Go Go.RowKit Go.Deep
set_option maxRecDepth 100000
theorem qmHeight_calls {w : World} {p g n : Nat} {B : Nat → Nat → Bool} (h : QM w p g n B) : Calls Tryz.prog 135 #[.pointer (some ⟨p, 0, none⟩)] w fun e w' => e = .returned (i64 n) ∧ w = w' := by
  obtain ⟨c0, c1, c2, c3⟩ := h.c
  clear c0 c2 c3
  go_enter Tryz.func135, Tryz.ntmps135
  go_wp2
  go_ret
  exact ⟨rfl, rfl⟩
theorem qmWidth_calls {w : World} {p g n : Nat} {B : Nat → Nat → Bool} (h : QM w p g n B) : Calls Tryz.prog 136 #[.pointer (some ⟨p, 0, none⟩)] w fun e w' => e = .returned (i64 n) ∧ w = w' := by
  obtain ⟨c0, c1, c2, c3⟩ := h.c
  clear c1 c2 c3
  go_enter Tryz.func136, Tryz.ntmps136
  go_wp2
  go_ret
  exact ⟨rfl, rfl⟩
theorem get_bit (V i : Nat) (hV : V < 4294967296) : (bits .and .u32 ((V : Int) / (2 : Int) ^ i) 1 != 0) = V.testBit i := by
  have e : ((V : Int) / (2 : Int) ^ i) = ((V / 2 ^ i : Nat) : Int) := by rw [Int.natCast_ediv, Int.natCast_pow]; rfl
  have hlt : V / 2 ^ i < 4294967296 := Nat.lt_of_le_of_lt (Nat.div_le_self _ _) hV
  rw [e, show (1 : Int) = ((1 : Nat) : Int) from rfl, u32_and_nat _ _ hlt (by omega), Nat.and_one_is_mod, Nat.testBit_eq_decide_div_mod_eq, Bool.eq_iff_iff]
  simp
  omega
set_option maxHeartbeats 1600000 in
theorem qmGet_calls {w : World} {p g n : Nat} {B : Nat → Nat → Bool} (h : QM w p g n B) (x y : Nat) (hx : x < n) (hy : y < n) :
    Calls Tryz.prog 137 #[.pointer (some ⟨p, 0, none⟩), i64 x, i64 y] w fun e w' => e = .returned (.bool (B y x)) ∧ w = w' := by
  obtain ⟨c0, c1, c2, c3⟩ := h.c
  have hl := h.l2
  have ⟨hr1, hr2⟩ := ql_le n hl
  have ho := qo_lt n x y hx hy
  have d := h.ws.cell ho
  unfold qwV at d
  have hbit := qw_bit B (qs n) y x (qs_lt n x hx)
  have hlt := qw_lt B (qs n) (y * qs n + x / 32)
  generalize B y x = b at *
  generalize qw B (qs n) (y * qs n + x / 32) = V at *
  clear h
  generalize qs n * n = L at *
  generalize qs n = r at *
  obtain ⟨q, hq⟩ : ∃ q, y * r = q := ⟨_, rfl⟩
  rw [hq] at ho d
  have hm : (y : Int) * (r : Int) = (q : Int) := by rw [← hq, Int.natCast_mul]
  have HB := Lib.hid (get_bit V (x % 32) hlt)
  have HB2 := Lib.hid hbit
  clear hbit hq
  go_enter Tryz.func137, Tryz.ntmps137
  go_wp2_with fail
  go_ret
  exact ⟨by rw [← HB2.out, ← HB.out]; rfl, rfl⟩
end Go.Proofs.YtcekbhhpcmhicaaGreatDoor
/- BitMatrix: the field's set, flip, a new one. -/
namespace Go.Proofs.YtcekbhhpcmhicaaGreatDoor
open Go Go.RowKit Go.Deep
set_option maxRecDepth 100000
theorem QM.setFr {w0 w : World} {g k : Nat} (hf : Fr (One g) w0 w) (v : Value) : Fr (One g) w0 (w.setCell ⟨g, k, none⟩ v) := Fr.set1 hf k v
theorem u32_xor_nat (a b : Nat) (ha : a < 4294967296) (hb : b < 4294967296) : bits .xor .u32 (a : Int) (b : Int) = ((a ^^^ b : Nat) : Int) := by
  have e : ∀ a : Nat, a < 4294967296 → (BitVec.ofInt 32 (a : Int)).toNat = a := fun a ha => by rw [BitVec.ofInt_natCast, BitVec.toNat_ofNat]; exact Nat.mod_eq_of_lt (by omega)
  have hx : a ^^^ b < 2 ^ 32 := Nat.xor_lt_two_pow (by omega) (by omega)
  show IntKind.u32.wrap ((BitVec.ofInt 32 (a : Int) ^^^ BitVec.ofInt 32 (b : Int)).toNat : Int) = _
  rw [BitVec.toNat_xor, e a ha, e b hb]
  simp [IntKind.wrap, IntKind.bits, IntKind.signed]; omega
theorem qw_xor (B : Nat → Nat → Bool) (rs k i : Nat) (hi : i < 32) : bits .xor .u32 (qw B rs k : Nat) ((2 : Int) ^ i % 4294967296) = ((qw B rs k ^^^ 2 ^ i : Nat) : Int) := by
  rw [pow32_mod i hi]
  exact u32_xor_nat _ _ (qw_lt _ _ _) (Nat.pow_lt_pow_right (by omega) hi)
set_option maxHeartbeats 1600000 in
theorem qmSet_calls {w : World} {p g n : Nat} {B : Nat → Nat → Bool} (h : QM w p g n B) (x y : Nat) (hx : x < n) (hy : y < n) :
    Calls Tryz.prog 144 #[.pointer (some ⟨p, 0, none⟩), i64 x, i64 y] w fun e w' => e = .returned (.tuple #[]) ∧ QM w' p g n (setB B y x) ∧ Fr (One g) w w' := by
  obtain ⟨c0, c1, c2, c3⟩ := h.c
  have hl := h.l2
  have ⟨hr1, hr2⟩ := ql_le n hl
  have ho := qo_lt n x y hx hy
  have d := h.ws.cell ho
  have zf := h.ws.frozen (y * qs n + x / 32)
  have pf := h.st.frozen 3
  have hne := h.ne
  unfold qwV at d
  have HOR := Lib.hid (qw_or B (qs n) (y * qs n + x / 32) (x % 32) (by omega))
  have HF := Lib.hid (show _ ∧ _ from ⟨h.set (x := x) (y := y) hx, Fr.set1 (g := g) (Fr.refl _ w) (y * qs n + x / 32) (.int .u32 (qw B (qs n) (y * qs n + x / 32) ||| 2 ^ (x % 32) : Nat))⟩)
  have hlt := qw_lt B (qs n) (y * qs n + x / 32)
  generalize qw B (qs n) (y * qs n + x / 32) = V at *
  clear h
  generalize qs n * n = L at *
  generalize qs n = r at *
  obtain ⟨q, hq⟩ : ∃ q, y * r = q := ⟨_, rfl⟩
  rw [hq] at ho d zf HF
  have hm : (y : Int) * (r : Int) = (q : Int) := by rw [← hq, Int.natCast_mul]
  clear hq
  go_enter Tryz.func144, Tryz.ntmps144
  go_wp2_with fail
  go_end0
  refine ⟨rfl, ?_⟩
  rw [HOR.out]
  exact HF.out
set_option maxHeartbeats 1600000 in
theorem qmFlip_calls {w : World} {p g n : Nat} {B : Nat → Nat → Bool} (h : QM w p g n B) (x y : Nat) (hx : x < n) (hy : y < n) :
    Calls Tryz.prog 221 #[.pointer (some ⟨p, 0, none⟩), i64 x, i64 y] w fun e w' => e = .returned (.tuple #[]) ∧ QM w' p g n (flipB B y x) ∧ Fr (One g) w w' := by
  obtain ⟨c0, c1, c2, c3⟩ := h.c
  have hl := h.l2
  have ⟨hr1, hr2⟩ := ql_le n hl
  have ho := qo_lt n x y hx hy
  have d := h.ws.cell ho
  have zf := h.ws.frozen (y * qs n + x / 32)
  have pf := h.st.frozen 3
  have hne := h.ne
  unfold qwV at d
  have HOR := Lib.hid (qw_xor B (qs n) (y * qs n + x / 32) (x % 32) (by omega))
  have HF := Lib.hid (show _ ∧ _ from ⟨h.flip (x := x) (y := y) hx, Fr.set1 (g := g) (Fr.refl _ w) (y * qs n + x / 32) (.int .u32 (qw B (qs n) (y * qs n + x / 32) ^^^ 2 ^ (x % 32) : Nat))⟩)
  have hlt := qw_lt B (qs n) (y * qs n + x / 32)
  generalize qw B (qs n) (y * qs n + x / 32) = V at *
  clear h
  generalize qs n * n = L at *
  generalize qs n = r at *
  obtain ⟨q, hq⟩ : ∃ q, y * r = q := ⟨_, rfl⟩
  rw [hq] at ho d zf HF
  have hm : (y : Int) * (r : Int) = (q : Int) := by rw [← hq, Int.natCast_mul]
  clear hq
  go_enter Tryz.func221, Tryz.ntmps221
  go_wp2_with fail
  go_end0
  refine ⟨rfl, ?_⟩
  rw [HOR.out]
  exact HF.out
theorem Tryz.mk184 (L : Nat) (h : L ≤ 1000000) (w : World) : (Instr.makeSlice 184 (.int .i64 (L : Int)) (.int .i64 (L : Int))).run Tryz.prog w = .ok (.slice (some ⟨w.heap.size, 0, none⟩) L L) (w.alloc (.cells (madeCells #[.int .u32 0] L) 252)) :=
  run_make_row' (P := Tryz.prog) 184 252 (.int .u32 0) 4 Tryz.underlying184 Tryz.info252 rfl .i64 .i64 L (by omega) (by omega) w
set_option maxHeartbeats 1600000 in
theorem newQM_calls (w : World) (n : Nat) (h1 : 1 ≤ n) (h2 : n ≤ 200) :
    Calls Tryz.prog 143 #[i64 n, i64 n] w fun e w' => e = .returned (.tuple #[.pointer (some ⟨w.heap.size + 1, 0, none⟩), .nilIface]) ∧ QM w' (w.heap.size + 1) w.heap.size n noB ∧ Fr Nil w w' ∧ w'.heap.size = w.heap.size + 2 := by
  obtain ⟨hr1, hr2⟩ := ql_le n h2
  have hmk := Tryz.mk184 (qs n * n) (by omega) w
  have hrow := World.rowIs_made w (.int .u32 0) (qs n * n) 252
  have hfa : Fr Nil w (w.alloc (.cells (madeCells #[.int .u32 0] (qs n * n)) 252)) := (Fr.refl _ _).alloc _
  have hsz : (w.alloc (.cells (madeCells #[.int .u32 0] (qs n * n)) 252)).heap.size = w.heap.size + 1 := by simp
  have hal : Fr Nil (w.alloc (.cells (madeCells #[.int .u32 0] (qs n * n)) 252)) ((w.alloc (.cells (madeCells #[.int .u32 0] (qs n * n)) 252)).alloc (.cells #[i64 n, i64 n, i64 (qs n), .slice (some ⟨w.heap.size, 0, none⟩) (qs n * n) (qs n * n)] 304)) := (Fr.refl _ _).alloc _
  have hst := Blk.new (w.alloc (.cells (madeCells #[.int .u32 0] (qs n * n)) 252)) 304 #[i64 n, i64 n, i64 (qs n), .slice (some ⟨w.heap.size, 0, none⟩) (qs n * n) (qs n * n)]
  rw [hsz] at hst
  have HF := Lib.hid (show QM _ (w.heap.size + 1) w.heap.size n noB ∧ Fr Nil w _ from ⟨⟨hst, (rowFr hrow hal (fun e => e)).congr (fun k _ => by show _ = Value.int .u32 _; rw [qw_zero]; rfl), h1, h2⟩, hfa.trans hal⟩)
  have hdiv : ((n : Int) + 31) / 32 = ((qs n : Nat) : Int) := by unfold qs; omega
  have hm : ((qs n : Nat) : Int) * (n : Int) = ((qs n * n : Nat) : Int) := by rw [Int.natCast_mul]
  clear hrow hfa hal hst
  generalize qs n * n = L at *
  generalize qs n = r at *
  go_enter Tryz.func143, Tryz.ntmps143
  go_wp2_with fail
  go_ret2
  exact ⟨rfl, HF.out.1, HF.out.2, by simp⟩
end Go.Proofs.YtcekbhhpcmhicaaGreatDoor
/- The parser of the matrix: made; a bit copied. -/
namespace Go.Proofs.YtcekbhhpcmhicaaGreatDoor
open Go Go.RowKit Go.Deep
set_option maxRecDepth 100000
theorem or1 (v : Nat) (h : v < 1000000000) : bits .or .i64 ((v : Int) * 2) 1 = ((2 * v + 1 : Nat) : Int) := by
  have := i64_or_nat (v * 2) 1 (by omega) (by omega)
  have e : v * 2 ||| 1 = 2 * v + 1 := by
    have := Nat.shiftLeft_add_eq_or_of_lt (i := 1) (b := 1) (by decide) v
    rw [Nat.shiftLeft_eq, Nat.pow_one] at this
    omega
  rw [e] at this
  rw [← this]
  push_cast; rfl
/-- a parser at block q of the matrix at p; its version and its type as far as they are known -/
def PM (w : World) (q p : Nat) (ver fmt : Value) : Prop := Blk w q 333 #[.pointer (some ⟨p, 0, none⟩), ver, fmt, .bool false]
theorem PM.c {w : World} {q p : Nat} {ver fmt : Value} (h : PM w q p ver fmt) : w.cell? ⟨q, 0, none⟩ = some (.pointer (some ⟨p, 0, none⟩)) ∧ w.cell? ⟨q, 1, none⟩ = some ver ∧ w.cell? ⟨q, 2, none⟩ = some fmt ∧ w.cell? ⟨q, 3, none⟩ = some (.bool false) :=
  ⟨by simpa using Blk.cell h 0, by simpa using Blk.cell h 1, by simpa using Blk.cell h 2, by simpa using Blk.cell h 3⟩
set_option maxHeartbeats 1600000 in
theorem newParser_calls {w : World} {p g v : Nat} {B : Nat → Nat → Bool} (h : QM w p g (17 + 4 * v) B) (hv : 1 ≤ v) :
    Calls Tryz.prog 173 #[.pointer (some ⟨p, 0, none⟩)] w fun e w' => e = .returned (.tuple #[.pointer (some ⟨w.heap.size, 0, none⟩), .nilIface]) ∧ PM w' w.heap.size p (.pointer none) (.pointer none) ∧ Fr Nil w w' := by
  have hl := h.l2
  have HH := Lib.hid (qmHeight_calls h)
  have hand : bits .and .i64 ((17 + 4 * v : Nat) : Int) 3 = 1 := by
    have := i64_and_nat (17 + 4 * v) 3 (by omega) (by omega)
    have e : (17 + 4 * v) &&& 3 = (17 + 4 * v) % 4 := Nat.and_two_pow_sub_one_eq_mod _ 2
    rw [e, show (17 + 4 * v) % 4 = 1 from by omega] at this
    exact this
  have hf : Fr Nil w (w.alloc (.cells #[.pointer (some ⟨p, 0, none⟩), .pointer none, .pointer none, .bool false] 333)) := (Fr.refl _ _).alloc _
  have HN := Lib.hid (show PM _ w.heap.size p (.pointer none) (.pointer none) ∧ _ from ⟨Blk.new w 333 #[.pointer (some ⟨p, 0, none⟩), .pointer none, .pointer none, .bool false], hf⟩)
  have h21 : ¬ ((17 + 4 * v : Nat) : Int) < 21 := by omega
  clear h hf
  generalize 17 + 4 * v = n at *
  go_enter Tryz.func173, Tryz.ntmps173
  go_wp2_with fail
  refine HH.out.mono ?_
  rintro e w1 ⟨rfl, rfl⟩
  go_wp2_with fail
  go_ret2
  exact ⟨rfl, HN.out⟩
set_option maxHeartbeats 1600000 in
theorem copyBit_calls {w : World} {q p g n : Nat} {ver fmt : Value} {B : Nat → Nat → Bool} (hq : PM w q p ver fmt) (h : QM w p g n B) (x y vb : Nat) (hx : x < n) (hy : y < n) (hvb : vb < 1000000) :
    Calls Tryz.prog 218 #[.pointer (some ⟨q, 0, none⟩), i64 x, i64 y, i64 vb] w fun e w' => e = .returned (i64 (2 * vb + (if B y x then 1 else 0))) ∧ w = w' := by
  obtain ⟨c0, c1, c2, c3⟩ := hq.c
  have HG := Lib.hid (qmGet_calls h x y hx hy)
  have HOR := Lib.hid (or1 vb (by omega))
  have HZ : Hid ((vb : Int) * 2 = ((2 * vb : Nat) : Int)) := Lib.hid (by omega)
  clear hq h c1 c2
  generalize B y x = b at *
  go_enter Tryz.func218, Tryz.ntmps218
  go_wp2_with fail
  refine HG.out.mono ?_
  rintro e w1 ⟨rfl, rfl⟩
  cases b with
  | true =>
    go_wp2_with fail
    go_ret
    exact ⟨congrArg (fun z => Ending.returned (Value.int .i64 z)) HOR.out, rfl⟩
  | false =>
    go_wp2_with fail
    go_ret
    exact ⟨congrArg (fun z => Ending.returned (Value.int .i64 z)) HZ.out, rfl⟩
end Go.Proofs.YtcekbhhpcmhicaaGreatDoor
/- ParseBoolMapToBitMatrix of a square. -/
namespace Go.Proofs.YtcekbhhpcmhicaaGreatDoor
open Go Go.RowKit Go.Deep
set_option maxRecDepth 100000
/-- modules in memory: n rows of n -/
structure MM (w : World) (g n : Nat) (R : Nat → Nat) (B : Nat → Nat → Bool) : Prop where
  top : ∀ y, y < n → w.cell? ⟨g, y, none⟩ = some (.slice (some ⟨R y, 0, none⟩) n n)
  row : ∀ y, y < n → w.rowIs (R y) 4 n (fun x => .bool (B y x))
theorem MM.nil {w w' : World} {g n : Nat} {R : Nat → Nat} {B : Nat → Nat → Bool} (h : MM w g n R B) (hf : Fr Nil w w') : MM w' g n R B :=
  ⟨fun y hy => hf.cell_some (h.top y hy) (fun e => e), fun y hy => rowFr (h.row y hy) hf (fun e => e)⟩
/-- read so far: rows below i, and of row i the columns below j -/
def rdd (B : Nat → Nat → Bool) (n i j : Nat) : Nat → Nat → Bool := fun y x => decide ((y < i ∧ x < n) ∨ (y = i ∧ x < j)) && B y x
def cutB (B : Nat → Nat → Bool) (n : Nat) : Nat → Nat → Bool := fun y x => decide (y < n ∧ x < n) && B y x
theorem rdd_zero (B : Nat → Nat → Bool) (n : Nat) : rdd B n 0 0 = noB := by
  funext y x; unfold rdd noB; rw [decide_eq_false (by omega), Bool.false_and]
theorem rdd_row (B : Nat → Nat → Bool) (n i : Nat) : rdd B n i n = rdd B n (i + 1) 0 := by
  funext y x; unfold rdd; congr 1; rw [decide_eq_decide]; omega
theorem rdd_end (B : Nat → Nat → Bool) (n : Nat) : rdd B n n 0 = cutB B n := by
  funext y x; unfold rdd cutB; congr 1; rw [decide_eq_decide]; omega
theorem rdd_no (B : Nat → Nat → Bool) (n i j : Nat) (h : B i j = false) : rdd B n i (j + 1) = rdd B n i j := by
  funext y x; unfold rdd
  by_cases e : y = i ∧ x = j
  · rw [e.1, e.2, h, Bool.and_false, Bool.and_false]
  · congr 1; rw [decide_eq_decide]; omega
theorem rdd_yes (B : Nat → Nat → Bool) (n i j : Nat) (h : B i j = true) (hj : j < n) : setB (rdd B n i j) i j = rdd B n i (j + 1) := by
  funext y x; unfold setB rdd
  by_cases e : y = i ∧ x = j
  · rw [e.1, e.2, h]; simp
  · rw [decide_eq_false e, Bool.or_false]; congr 1; rw [decide_eq_decide]; omega
set_option maxHeartbeats 3200000 in
theorem parse_calls {w : World} {g n cap : Nat} {R : Nat → Nat} {B : Nat → Nat → Bool} (h : MM w g n R B) (h1 : 1 ≤ n) (h2 : n ≤ 200) (hcap : n ≤ cap) :
    Calls Tryz.prog 131 #[.slice (some ⟨g, 0, none⟩) n cap] w fun e w' => ∃ p g', e = .returned (.tuple #[.pointer (some ⟨p, 0, none⟩), .nilIface]) ∧ (QM w' p g' n (cutB B n) ∧ w.heap.size ≤ g') ∧ Fr Nil w w' := by
  have HM := Lib.hid h
  have c0 := h.top 0 (by omega)
  have hzn : (0 : Int) < (n : Int) := by omega
  clear h
  go_enter Tryz.func131, Tryz.ntmps131
  go_wp2_with fail
  refine (newQM_calls w n h1 h2).mono ?_
  rintro e w1 ⟨rfl, hQ, hF, hsz⟩
  have HQ := Lib.hid (hQ.congr (rdd_zero B n).symm)
  have HF := Lib.hid hF
  clear hQ hF c0
  obtain ⟨p, hp⟩ : ∃ p, w.heap.size + 1 = p := ⟨_, rfl⟩
  obtain ⟨q, hq⟩ : ∃ q, w.heap.size = q := ⟨_, rfl⟩
  rw [hp] at HQ ⊢
  rw [hq] at HQ
  have HGE := Lib.hid (show w.heap.size ≤ q from by omega)
  clear hp hq hsz
  go_wp2_with fail
  go_loopg [8, 9, 10] n (fun c s8 s9 s10 wr => ∃ i : Nat, i + c = n ∧ s8 = .int .i64 i ∧ Hid (QM wr p q n (rdd B n i 0)) ∧ Hid (Fr Nil w wr))
  case atStart => exact ⟨0, by omega, rfl, HQ, HF⟩
  case round =>
    obtain ⟨i, hi, rfl, HQ1, HF1⟩ := hrel
    cases gk with
    | zero =>
      have hz : ¬ (i : Int) < (n : Int) := by omega
      have hin : i = n := by omega
      subst hin
      have HE := Lib.hid (HQ1.out.congr (rdd_end B i))
      go_wp2_with fail
      go_ret2
      exact ⟨p, rfl, ⟨q, HE.out, HGE.out⟩, HF1.out⟩
    | succ c =>
      have hz : (i : Int) < (n : Int) := by omega
      have hin : i < n := by omega
      have c0 := (HM.out.nil HF1.out).top i hin
      have HI := Lib.hid hi
      clear hi
      go_wp2_with fail
      go_loopg [10] n (fun d s10 wq => ∃ j : Nat, j + d = n ∧ s10 = .int .i64 j ∧ Hid (QM wq p q n (rdd B n i j)) ∧ Hid (Fr Nil w wq))
      case atStart => exact ⟨0, by omega, rfl, HQ1, HF1⟩
      case round =>
        obtain ⟨j, hj, rfl, HQ2, HF2⟩ := hrel
        cases gk with
        | zero =>
          have hzz : ¬ (j : Int) < (n : Int) := by omega
          have hjn : j = n := by omega
          subst hjn
          have HE := Lib.hid (HQ2.out.congr (rdd_row B j i))
          go_wp2_with fail
          go_roundg c
          case measure => omega
          case rel => exact ⟨i + 1, by have := HI.out; omega, by go_num, HE, HF2⟩
        | succ d =>
          have hzz : (j : Int) < (n : Int) := by omega
          have hjn : j < n := by omega
          have c1 := ((HM.out.nil HF2.out).row i hin).cell hjn
          have HS := Lib.hid (qmSet_calls HQ2.out j i hjn hin)
          have HJ := Lib.hid hj
          clear hj
          cases hb : B i j with
          | true =>
            rw [hb] at c1
            go_wp2_with fail
            refine HS.out.mono ?_
            rintro e w2 ⟨rfl, hQ3, hF3⟩
            have HE := Lib.hid (hQ3.congr (rdd_yes B n i j hb hjn))
            have HF3 := Lib.hid (HF2.out.trans' hF3 (fun k hk e => by have : k = q := e; have := HGE.out; omega))
            clear hQ3 hF3
            go_wp2_with fail
            go_roundg d
            case measure => omega
            case rel => exact ⟨j + 1, by have := HJ.out; omega, by go_num, HE, HF3⟩
          | false =>
            rw [hb] at c1
            have HE := Lib.hid (HQ2.out.congr (rdd_no B n i j hb).symm)
            go_wp2_with fail
            go_roundg d
            case measure => omega
            case rel => exact ⟨j + 1, by have := HJ.out; omega, by go_num, HE, HF2⟩
end Go.Proofs.YtcekbhhpcmhicaaGreatDoor
/- The type's information out of its bits, where they are a code word. -/
namespace Go.Proofs.YtcekbhhpcmhicaaGreatDoor
open Go Go.RowKit Go.Deep
set_option maxRecDepth 100000
abbrev u64v (n : Nat) : Value := .int .u64 (n : Int)
def fmtR : List (List Value) := [[u64v 21522, u64v 0], [u64v 20773, u64v 1], [u64v 24188, u64v 2], [u64v 23371, u64v 3], [u64v 17913, u64v 4], [u64v 16590, u64v 5], [u64v 20375, u64v 6], [u64v 19104, u64v 7], [u64v 30660, u64v 8], [u64v 29427, u64v 9], [u64v 32170, u64v 10], [u64v 30877, u64v 11], [u64v 26159, u64v 12], [u64v 25368, u64v 13], [u64v 27713, u64v 14], [u64v 26998, u64v 15], [u64v 5769, u64v 16], [u64v 5054, u64v 17], [u64v 7399, u64v 18], [u64v 6608, u64v 19], [u64v 1890, u64v 20], [u64v 597, u64v 21], [u64v 3340, u64v 22], [u64v 2107, u64v 23], [u64v 13663, u64v 24], [u64v 12392, u64v 25], [u64v 16177, u64v 26], [u64v 14854, u64v 27], [u64v 9396, u64v 28], [u64v 8579, u64v 29], [u64v 11994, u64v 30], [u64v 11245, u64v 31]]
theorem fmtR_get : ∀ i, i < 32 → fmtR[i]? = some [u64v (fmtT.getD i 0), u64v i] := by
  intro i hi
  match i, hi with
  | 0, _ | 1, _ | 2, _ | 3, _ | 4, _ | 5, _ | 6, _ | 7, _ | 8, _ | 9, _ | 10, _ | 11, _ | 12, _ | 13, _ | 14, _ | 15, _ | 16, _ | 17, _ | 18, _ | 19, _ | 20, _ | 21, _ | 22, _ | 23, _ | 24, _ | 25, _ | 26, _ | 27, _ | 28, _ | 29, _ | 30, _ | 31, _ => rfl
  | n + 32, h => omega
theorem fmt_calls (w : World) : Calls Tryz.prog 280 #[] w fun e w' => e = .returned (sl (w.heap.size + 32) 32) ∧ tabW w 198 403 fmtR 2 = w' :=
  calls_by_run (args := []) Tryz.func280 rfl 34 (by kernel_rfl) 300 (sl (lay w (tabRows 198 fmtR)).heap.size 32) (tabW w 198 403 fmtR 2) (by kernel_rfl) ⟨by rw [tab_size w 198 403 fmtR 2]; rfl, rfl⟩
theorem ones64_any (x : Int) (w : World) : Calls Tryz.prog 291 #[.int .u64 x] w fun e w' => (∃ k : Int, e = .returned (.int .i64 k)) ∧ w = w' := by
  go_enter Tryz.func291, Tryz.ntmps291
  go_wp2
  go_ret
  exact ⟨⟨_, rfl⟩, rfl⟩
theorem ones_any (x : Int) (w : World) : Calls Tryz.prog 279 #[.int .u64 x] w fun e w' => (∃ k : Int, e = .returned (.int .i64 k)) ∧ w = w' := by
  have H := Lib.hid (fun x => ones64_any x w)
  go_enter Tryz.func279, Tryz.ntmps279
  go_wp2_with fail
  refine (H.out _).mono ?_
  rintro e w1 ⟨⟨k, rfl⟩, rfl⟩
  go_wp2_with fail
  go_ret
  exact ⟨⟨k, rfl⟩, rfl⟩
theorem differing_any (x y : Int) (w : World) : Calls Tryz.prog 264 #[.int .u64 x, .int .u64 y] w fun e w' => (∃ k : Int, e = .returned (.int .i64 k)) ∧ w = w' := by
  have H := Lib.hid (fun x => ones_any x w)
  go_enter Tryz.func264, Tryz.ntmps264
  go_wp2_with fail
  refine (H.out _).mono ?_
  rintro e w1 ⟨⟨k, rfl⟩, rfl⟩
  go_wp2_with fail
  go_ret
  exact ⟨⟨k, rfl⟩, rfl⟩
theorem forBits_calls (b : Nat) (hb : b < 4) (w : World) : Calls Tryz.prog 292 #[.int .u64 b] w fun e w' => e = .returned (.tuple #[i64 b, .nilIface]) ∧ w = w' := by
  match b, hb with
  | 0, _ | 1, _ | 2, _ | 3, _ =>
    go_enter Tryz.func292, Tryz.ntmps292
    go_wp2
    go_ret2
    exact ⟨rfl, rfl⟩
theorem u64_and_nat (a b : Nat) (ha : a < 1000000) (hb : b < 1000000) : bits .and .u64 (a : Int) (b : Int) = ((a &&& b : Nat) : Int) := by
  have e : ∀ a : Nat, a < 1000000 → (BitVec.ofInt 64 (a : Int)).toNat = a := fun a ha => by rw [BitVec.ofInt_natCast, BitVec.toNat_ofNat]; exact Nat.mod_eq_of_lt (by omega)
  have hx : a &&& b ≤ a := Nat.and_le_left
  show IntKind.u64.wrap ((BitVec.ofInt 64 (a : Int) &&& BitVec.ofInt 64 (b : Int)).toNat : Int) = _
  rw [BitVec.toNat_and, e a ha, e b hb]
  simp [IntKind.wrap, IntKind.bits, IntKind.signed]; omega
set_option maxHeartbeats 1600000 in
theorem newFormat_calls (x : Nat) (hx : x < 32) (w : World) :
    Calls Tryz.prog 281 #[.int .u64 x] w fun e w' => e = .returned (.pointer (some ⟨w.heap.size, 0, none⟩)) ∧ Blk w' w.heap.size 361 #[i64 (x / 8), .int .u8 ((x % 8 : Nat) : Int)] ∧ Fr Nil w w' := by
  have h1 : bits .and .u64 ((x : Int) / 8) 3 = ((x / 8 : Nat) : Int) := by
    have := u64_and_nat (x / 8) 3 (by omega) (by omega)
    have e : (x / 8) &&& 3 = (x / 8) % 4 := Nat.and_two_pow_sub_one_eq_mod _ 2
    rw [e, show (x / 8) % 4 = x / 8 from by omega] at this
    rw [← this]; rfl
  have h2 : bits .and .u64 (x : Int) 7 = ((x % 8 : Nat) : Int) := by
    have := u64_and_nat x 7 (by omega) (by omega)
    have e : x &&& 7 = x % 8 := Nat.and_two_pow_sub_one_eq_mod _ 3
    rw [e] at this
    exact this
  obtain ⟨a, ha⟩ : ∃ a, x / 8 = a := ⟨_, rfl⟩
  obtain ⟨b, hb⟩ : ∃ b, x % 8 = b := ⟨_, rfl⟩
  rw [ha] at h1 ⊢
  rw [hb] at h2 ⊢
  have hal : a < 4 := by omega
  have hbl : b < 8 := by omega
  have HF := Lib.hid (forBits_calls a hal w)
  have hf : Fr Nil w (w.alloc (.cells #[i64 a, .int .u8 (b : Int)] 361)) := (Fr.refl _ _).alloc _
  have HN := Lib.hid (show _ ∧ _ from ⟨Blk.new w 361 #[i64 a, .int .u8 (b : Int)], hf⟩)
  clear ha hb hf
  go_enter Tryz.func281, Tryz.ntmps281
  go_wp2_with fail
  refine HF.out.mono ?_
  rintro e w1 ⟨rfl, rfl⟩
  go_wp2_with fail
  go_ret
  exact ⟨rfl, HN.out⟩
theorem fmt_differ : ∀ i, i < 32 → ∀ j, j < 32 → i ≠ j → fmtT.getD i 0 ≠ fmtT.getD j 0 := by decide +kernel
set_option maxHeartbeats 3200000 in
theorem doDecode_calls (t : Nat) (ht : t < 32) (w : World) :
    Calls Tryz.prog 265 #[.int .u64 (fmtT.getD t 0 : Nat), .int .u64 (fmtT.getD t 0 : Nat)] w fun e w' => ∃ p, e = .returned (.pointer (some ⟨p, 0, none⟩)) ∧ w.heap.size ≤ p ∧ Blk w' p 361 #[i64 (t / 8), .int .u8 ((t % 8 : Nat) : Int)] ∧ Fr Nil w w' := by
  have HT := Lib.hid (fmt_calls w)
  have HTF := Lib.hid (tab_fr w 198 403 fmtR 2)
  have HROW := Lib.hid (fun i (hi : i < 32) => (show (tabW w 198 403 fmtR 2).cell? ⟨w.heap.size + 32, i, none⟩ = some (sl (w.heap.size + i) 2) ∧ (tabW w 198 403 fmtR 2).cell? ⟨w.heap.size + i, 0, none⟩ = some (u64v (fmtT.getD i 0)) ∧ (tabW w 198 403 fmtR 2).cell? ⟨w.heap.size + i, 1, none⟩ = some (u64v i) from
    ⟨(tab_row w 198 403 fmtR 2 (fmtR_get i hi)).1, tab_cell w 198 403 fmtR 2 (fmtR_get i hi) rfl, tab_cell w 198 403 fmtR 2 (fmtR_get i hi) rfl⟩))
  have HDF := Lib.hid (fun i (hi : i < 32) (h : i ≠ t) => fmt_differ i hi t ht h)
  generalize tabW w 198 403 fmtR 2 = W at *
  obtain ⟨G, hG⟩ : ∃ G, w.heap.size = G := ⟨_, rfl⟩
  rw [hG] at HT HROW
  have HGE : Hid (w.heap.size ≤ W.heap.size ∧ w.heap.size = G) := Lib.hid ⟨HTF.out.size, hG⟩
  clear hG
  obtain ⟨f, hf⟩ : ∃ f, fmtT.getD t 0 = f := ⟨_, rfl⟩
  have HFE := Lib.hid hf
  rw [hf] at HDF ⊢
  clear hf
  go_enter Tryz.func265, Tryz.ntmps265
  go_wp2_with fail
  refine HT.out.mono ?_
  rintro e w1 ⟨rfl, rfl⟩
  go_wp2_with fail
  go_loopg [5, 6, 8, 9, 10, 13] 32 (fun q s5 s6 s8 s9 s10 s13 wr => ∃ (i : Nat) (bd bf : Int), i + q = 32 ∧ i ≤ t ∧ s13 = .int .i64 i ∧ s5 = .int .i64 bd ∧ s6 = .int .u64 bf ∧ W = wr)
  case atStart => exact ⟨0, 2147483647, 0, by omega, by omega, rfl, rfl, rfl, rfl⟩
  case round =>
    obtain ⟨i, bd, bf, hi, hit, rfl, rfl, rfl, rfl⟩ := hrel
    cases gk with
    | zero => omega
    | succ q =>
      have hi32 : i < 32 := by omega
      have hz : (i : Int) < 32 := by omega
      obtain ⟨c0, c1, c2⟩ := HROW.out i hi32
      by_cases e : i = t
      · subst e
        rw [HFE.out] at c1
        have HN := Lib.hid (newFormat_calls i hi32 W)
        go_wp2_with fail
        refine HN.out.mono ?_
        rintro e w2 ⟨rfl, hb, hf⟩
        have HB := Lib.hid (show _ ∧ _ from ⟨hb, HTF.out.trans hf⟩)
        clear hb hf
        go_wp2_with fail
        go_ret
        exact ⟨W.heap.size, rfl, HGE.out.1, HB.out⟩
      · have hne : (((fmtT.getD i 0 : Nat) : Int) == (f : Int)) = false := beq_eq_false_iff_ne.2 (by have := HDF.out i hi32 e; omega)
        have hff : ((f : Int) != (f : Int)) = false := by simp
        have hlt : i + 1 ≤ t := by omega
        have HI := Lib.hid hi
        clear hi hit e
        generalize fmtT.getD i 0 = x at *
        go_wp2_with fail
        refine (differing_any f x _).mono ?_
        rintro e w2 ⟨⟨k, rfl⟩, rfl⟩
        by_cases hk : k < bd
        · go_wp2_with fail
          go_roundg q
          case measure => omega
          case rel => exact ⟨i + 1, k, (i : Int), by have := HI.out; omega, hlt, by go_num, rfl, rfl, rfl⟩
        · go_wp2_with fail
          go_roundg q
          case measure => omega
          case rel => exact ⟨i + 1, bd, bf, by have := HI.out; omega, hlt, by go_num, rfl, rfl, rfl⟩
theorem decodeFormat_calls (t : Nat) (ht : t < 32) (w : World) :
    Calls Tryz.prog 220 #[.int .u64 (fmtT.getD t 0 : Nat), .int .u64 (fmtT.getD t 0 : Nat)] w fun e w' => ∃ p, e = .returned (.pointer (some ⟨p, 0, none⟩)) ∧ w.heap.size ≤ p ∧ Blk w' p 361 #[i64 (t / 8), .int .u8 ((t % 8 : Nat) : Int)] ∧ Fr Nil w w' := by
  have H := Lib.hid (doDecode_calls t ht w)
  generalize fmtT.getD t 0 = f at *
  go_enter Tryz.func220, Tryz.ntmps220
  go_wp2_with fail
  refine H.out.mono ?_
  rintro e w1 ⟨p, rfl, hp, hb, hf⟩
  have HB := Lib.hid (show _ ∧ _ ∧ _ from ⟨hp, hb, hf⟩)
  clear hp hb hf
  go_wp2_with fail
  go_ret
  exact ⟨p, rfl, HB.out⟩
end Go.Proofs.YtcekbhhpcmhicaaGreatDoor
/- ReadFormatInformation: the first call, where the type's bits stand; a later call. -/
namespace Go.Proofs.YtcekbhhpcmhicaaGreatDoor
open Go Go.RowKit Go.Deep
set_option maxRecDepth 100000
/-- the type's bits where the reader looks for them -/
structure TyBits (B : Nat → Nat → Bool) (n : Nat) (tb : List Bool) : Prop where
  len : tb.length = 15
  a : ∀ k, k < 6 → B 8 k = tb.getD k false
  b : B 8 7 = tb.getD 6 false
  c : B 8 8 = tb.getD 7 false
  d : B 7 8 = tb.getD 8 false
  e : ∀ j, j < 6 → B j 8 = tb.getD (14 - j) false
  f : ∀ k, k < 7 → B (n - 1 - k) 8 = tb.getD k false
  g : ∀ k, 7 ≤ k → k < 15 → B 8 (n - 15 + k) = tb.getD k false
theorem symB_ty (v l k : Nat) (bits : List Bool) (h1 : 1 ≤ v) : TyBits (symB v l k bits) (17 + 4 * v) (tiBits l k) where
  len := tiBits_length l k
  a := fun i hi => by
    have h := (sym_type v l k bits h1 (14 - i) (by omega)).1
    rw [show tcell (14 - i) = (i, 8) from by unfold tcell; rw [if_neg (by omega), if_neg (by omega), if_neg (by omega)]; congr 1; omega, show 14 - (14 - i) = i from by omega] at h
    exact h
  b := (sym_type v l k bits h1 8 (by omega)).1
  c := (sym_type v l k bits h1 7 (by omega)).1
  d := (sym_type v l k bits h1 6 (by omega)).1
  e := fun j hj => by
    have h := (sym_type v l k bits h1 j (by omega)).1
    rw [show tcell j = (8, j) from by unfold tcell; rw [if_pos hj]] at h
    exact h
  f := fun i hi => by
    have h := (sym_type v l k bits h1 (14 - i) (by omega)).2
    unfold tyX tyY at h
    rw [if_neg (by omega), if_neg (by omega), show 17 + 4 * v - 7 + (14 - i - 8) = 17 + 4 * v - 1 - i from by omega, show 14 - (14 - i) = i from by omega] at h
    exact h
  g := fun i h7 hi => by
    have h := (sym_type v l k bits h1 (14 - i) (by omega)).2
    unfold tyX tyY at h
    rw [if_pos (by omega), if_pos (by omega), show 17 + 4 * v - (14 - i) - 1 = 17 + 4 * v - 15 + i from by omega, show 14 - (14 - i) = i from by omega] at h
    exact h
/-- what the first k bits say -/
def tk (tb : List Bool) (k : Nat) : Nat := bnum 0 (tb.take k)
theorem tk_succ (tb : List Bool) (k : Nat) (h : k < tb.length) : tk tb (k + 1) = 2 * tk tb k + (if tb.getD k false then 1 else 0) := by
  unfold tk
  rw [List.take_succ_eq_append_getElem h, bnum_snoc, gdE tb false h]
theorem tk_lt (tb : List Bool) (k : Nat) (h : k ≤ 18) : tk tb k < 1000000 := by
  have h1 := bnum_lt (tb.take k)
  have h2 : 2 ^ (tb.take k).length ≤ 2 ^ 18 := Nat.pow_le_pow_right (by omega) (by rw [List.length_take]; omega)
  unfold tk; omega
theorem copyBit' {w : World} {q p g n : Nat} {ver fmt : Value} {B : Nat → Nat → Bool} (hq : PM w q p ver fmt) (h : QM w p g n B) (x y vb : Nat) (X Y V : Int) (z : Nat) (hX : X = x) (hY : Y = y) (hV : V = vb) (hx : x < n) (hy : y < n) (hvb : vb < 1000000) (hz : z = 2 * vb + (if B y x then 1 else 0)) :
    Calls Tryz.prog 218 #[.pointer (some ⟨q, 0, none⟩), .int .i64 X, .int .i64 Y, .int .i64 V] w fun e w' => e = .returned (i64 z) ∧ w = w' := by
  subst hX hY hV hz
  exact copyBit_calls hq h x y vb hx hy hvb
set_option maxHeartbeats 1600000 in
theorem readFormat_calls {w : World} {q p g n : Nat} {ver : Value} {B : Nat → Nat → Bool} (hq : PM w q p ver (.pointer none)) (h : QM w p g n B) (hn : 21 ≤ n) {tb : List Bool} (ht : TyBits B n tb) (t : Nat) (ht32 : t < 32) (hnum : bnum 0 tb = fmtT.getD t 0) :
    Calls Tryz.prog 179 #[.pointer (some ⟨q, 0, none⟩)] w fun e w' => ∃ f, e = .returned (.tuple #[.pointer (some ⟨f, 0, none⟩), .nilIface]) ∧ w.heap.size ≤ f ∧ Blk w' f 361 #[i64 (t / 8), .int .u8 ((t % 8 : Nat) : Int)] ∧ PM w' q p ver (.pointer (some ⟨f, 0, none⟩)) ∧ Fr (One q) w w' := by
  obtain ⟨c0, c1, c2, c3⟩ := hq.c
  have hl := h.l2
  have z2 := Blk.frozen hq 2
  have HH := Lib.hid (qmHeight_calls h)
  have HCB := Lib.hid (fun x y vb X Y V z hX hY hV hx hy hvb hz => copyBit' hq h x y vb X Y V z hX hY hV hx hy hvb hz)
  have HT := Lib.hid ht
  have HTK := Lib.hid (fun k (hk : k < 15) => tk_succ tb k (by rw [ht.len]; exact hk))
  have HLT := Lib.hid (fun k (hk : k ≤ 15) => tk_lt tb k (by omega))
  have HT15 : Hid (tk tb 15 = fmtT.getD t 0) := Lib.hid (by unfold tk; rw [List.take_of_length_le (by rw [ht.len]; exact Nat.le_refl _)]; exact hnum)
  have HQ := Lib.hid hq
  clear hq h ht hnum c1 c3
  go_enter Tryz.func179, Tryz.ntmps179
  go_wp2_with fail
  go_loopg [4, 5] 6 (fun c s4 s5 wr => ∃ k a : Nat, k + c = 6 ∧ s5 = .int .i64 k ∧ s4 = .int .i64 a ∧ Hid (a = tk tb k) ∧ w = wr)
  case atStart => exact ⟨0, 0, by omega, rfl, rfl, Lib.hid rfl, rfl⟩
  case round =>
    obtain ⟨k, a, hk, rfl, rfl, HA, rfl⟩ := hrel
    cases gk with
    | succ c =>
      have hz : (k : Int) < 6 := by omega
      have hal : a < 1000000 := by rw [HA.out]; exact HLT.out k (by omega)
      go_wp2_with fail
      refine (HCB.out k 8 a _ _ _ (tk tb (k + 1)) rfl (by omega) rfl (by omega) (by omega) hal (by rw [HTK.out k (by omega), ← HA.out, HT.out.a k (by omega)])).mono ?_
      rintro e w1 ⟨rfl, rfl⟩
      go_wp2_with fail
      go_roundg c
      case measure => omega
      case rel => exact ⟨k + 1, tk tb (k + 1), by omega, by go_num, rfl, Lib.hid rfl, rfl⟩
    | zero =>
      have hz : ¬ (k : Int) < 6 := by omega
      have hk6 : k = 6 := by omega
      subst hk6
      have ha6 : a < 1000000 := by rw [HA.out]; exact HLT.out 6 (by omega)
      go_wp2_with fail
      refine (HCB.out 7 8 a _ _ _ (tk tb 7) (by omega) (by omega) rfl (by omega) (by omega) ha6 (by rw [HTK.out 6 (by omega), ← HA.out, HT.out.b])).mono ?_
      rintro e w1 ⟨rfl, rfl⟩
      go_wp2_with fail
      refine (HCB.out 8 8 (tk tb 7) _ _ _ (tk tb 8) (by omega) (by omega) rfl (by omega) (by omega) (HLT.out 7 (by omega)) (by rw [HTK.out 7 (by omega), HT.out.c])).mono ?_
      rintro e w1 ⟨rfl, rfl⟩
      go_wp2_with fail
      refine (HCB.out 8 7 (tk tb 8) _ _ _ (tk tb 9) (by omega) (by omega) rfl (by omega) (by omega) (HLT.out 8 (by omega)) (by rw [HTK.out 8 (by omega), HT.out.d])).mono ?_
      rintro e w1 ⟨rfl, rfl⟩
      clear ha6 HA hz hk
      go_wp2_with fail
      go_loopg [4, 6] 6 (fun c s4 s6 wr => ∃ k a : Nat, ∃ j : Int, k + c = 6 ∧ Hid (j = 5 - (k : Int)) ∧ s6 = .int .i64 j ∧ s4 = .int .i64 a ∧ Hid (a = tk tb (9 + k)) ∧ w = wr)
      case atStart => exact ⟨0, tk tb 9, 5, by omega, Lib.hid (by omega), rfl, rfl, Lib.hid rfl, rfl⟩
      case round =>
        obtain ⟨k, a, j, hk, hj, rfl, rfl, HA, rfl⟩ := hrel
        cases gk with
        | succ c =>
          have hz : 0 ≤ j := by have := hj.out; omega
          have hz2 : ¬ j < 0 := by have := hj.out; omega
          have hju : j ≤ 5 := by have := hj.out; omega
          have hal : a < 1000000 := by rw [HA.out]; exact HLT.out (9 + k) (by omega)
          go_wp2_with fail
          refine (HCB.out 8 (5 - k) a _ _ _ (tk tb (9 + k + 1)) (by omega) (by have := hj.out; omega) rfl (by omega) (by omega) hal (by rw [HTK.out (9 + k) (by omega), ← HA.out, HT.out.e (5 - k) (by omega), show 14 - (5 - k) = 9 + k from by omega])).mono ?_
          rintro e w1 ⟨rfl, rfl⟩
          go_wp2_with fail
          go_roundg c
          case measure => omega
          case rel => exact ⟨k + 1, tk tb (9 + k + 1), j - 1, by omega, Lib.hid (by have := hj.out; omega), by go_num, rfl, Lib.hid (by rw [Nat.add_assoc]), rfl⟩
        | zero =>
          have hz : ¬ 0 ≤ j := by have := hj.out; omega
          have hz2 : j < 0 := by have := hj.out; omega
          have hk6 : k = 6 := by omega
          subst hk6
          have HA15 : Hid (a = fmtT.getD t 0) := Lib.hid (by rw [HA.out]; exact HT15.out)
          clear HA
          go_wp2_with fail
          refine HH.out.mono ?_
          rintro e w1 ⟨rfl, rfl⟩
          go_wp2_with fail
          go_loopg [8, 10] 7 (fun c s8 s10 wr => ∃ k b : Nat, ∃ j : Int, k + c = 7 ∧ Hid (j = (n : Int) - 1 - (k : Int)) ∧ s10 = .int .i64 j ∧ s8 = .int .i64 b ∧ Hid (b = tk tb k) ∧ w = wr)
          case atStart => exact ⟨0, 0, (n : Int) - 1, by omega, Lib.hid (by omega), rfl, rfl, Lib.hid rfl, rfl⟩
          case round =>
            obtain ⟨k, b, j2, hk2, hj2, rfl, rfl, HB, rfl⟩ := hrel
            cases gk with
            | succ c =>
              have hzz : ¬ j2 < (n : Int) - 7 := by have := hj2.out; omega
              have hju : j2 ≤ 300 := by have := hj2.out; omega
              have hzz2 : (n : Int) - 7 ≤ j2 := by have := hj2.out; omega
              have hbl : b < 1000000 := by rw [HB.out]; exact HLT.out k (by omega)
              go_wp2_with fail
              refine (HCB.out 8 (n - 1 - k) b _ _ _ (tk tb (k + 1)) (by omega) (by have := hj2.out; omega) rfl (by omega) (by omega) hbl (by rw [HTK.out k (by omega), ← HB.out, HT.out.f k (by omega)])).mono ?_
              rintro e w1 ⟨rfl, rfl⟩
              go_wp2_with fail
              go_roundg c
              case measure => omega
              case rel => exact ⟨k + 1, tk tb (k + 1), j2 - 1, by omega, Lib.hid (by have := hj2.out; omega), by go_num, rfl, Lib.hid rfl, rfl⟩
            | zero =>
              have hzz : j2 < (n : Int) - 7 := by have := hj2.out; omega
              have hzz2 : ¬ (n : Int) - 7 ≤ j2 := by have := hj2.out; omega
              have hk7 : k = 7 := by omega
              subst hk7
              go_wp2_with fail
              go_loopg [8, 11] 8 (fun c s8 s11 wr => ∃ k b : Nat, ∃ i : Int, k + c = 15 ∧ 7 ≤ k ∧ Hid (i = (n : Int) - 15 + (k : Int)) ∧ s11 = .int .i64 i ∧ s8 = .int .i64 b ∧ Hid (b = tk tb k) ∧ w = wr)
              case atStart => exact ⟨7, b, (n : Int) - 8, by omega, by omega, Lib.hid (by omega), rfl, rfl, HB, rfl⟩
              case round =>
                obtain ⟨k, b2, i2, hk3, hk7, hi2, rfl, rfl, HB2, rfl⟩ := hrel
                cases gk with
                | succ c =>
                  have hy1 : i2 < (n : Int) := by have := hi2.out; omega
                  have hy0 : 0 ≤ i2 := by have := hi2.out; omega
                  have hbl : b2 < 1000000 := by rw [HB2.out]; exact HLT.out k (by omega)
                  go_wp2_with fail
                  refine (HCB.out (n - 15 + k) 8 b2 _ _ _ (tk tb (k + 1)) (by have := hi2.out; omega) (by omega) rfl (by omega) (by omega) hbl (by rw [HTK.out k (by omega), ← HB2.out, HT.out.g k hk7 (by omega)])).mono ?_
                  rintro e w1 ⟨rfl, rfl⟩
                  go_wp2_with fail
                  go_roundg c
                  case measure => omega
                  case rel => exact ⟨k + 1, tk tb (k + 1), i2 + 1, by omega, by omega, Lib.hid (by have := hi2.out; omega), by go_num, rfl, Lib.hid rfl, rfl⟩
                | zero =>
                  have hy1 : ¬ i2 < (n : Int) := by have := hi2.out; omega
                  have hk15 : k = 15 := by omega
                  subst hk15
                  have HB15 : Hid (b2 = fmtT.getD t 0) := Lib.hid (by rw [HB2.out]; exact HT15.out)
                  have hal : a < 1000000 := by rw [HA15.out, ← HT15.out]; exact HLT.out 15 (by omega)
                  have hab : b2 = a := by rw [HB15.out, HA15.out]
                  subst hab
                  have HD := decodeFormat_calls t ht32 w
                  rw [← HB15.out] at HD
                  have HD := Lib.hid HD
                  clear HB2 HB hk3 hi2 hk2 hj2 hk hj
                  go_wp2_with fail
                  refine HD.out.mono ?_
                  rintro e w1 ⟨f, rfl, hfg, hb, hf⟩
                  have hq1 : PM w1 q p ver (.pointer none) := Blk.fr HQ.out hf (fun e => e)
                  have hne : f ≠ q := by have := Blk.lt HQ.out; omega
                  have HN := Lib.hid (show w.heap.size ≤ f ∧ Blk (w1.setCell ⟨q, 2, none⟩ (.pointer (some ⟨f, 0, none⟩))) f 361 #[i64 (t / 8), .int .u8 ((t % 8 : Nat) : Int)] ∧ PM (w1.setCell ⟨q, 2, none⟩ (.pointer (some ⟨f, 0, none⟩))) q p ver (.pointer (some ⟨f, 0, none⟩)) ∧ Fr (One q) w (w1.setCell ⟨q, 2, none⟩ (.pointer (some ⟨f, 0, none⟩))) from
                    ⟨hfg, hb.far (p := ⟨q, 2, none⟩) hne _, by unfold PM; simpa using Blk.set_ hq1 2 (.pointer (some ⟨f, 0, none⟩)), Fr.set1 (hf.any _) 2 _⟩)
                  have k2 := hq1.c.2.2.1
                  have z3 := Blk.frozen hq1 2
                  clear hq1 hb hf c2 z2 hfg
                  go_wp2_with fail
                  go_ret2
                  exact ⟨f, rfl, HN.out⟩
theorem readFormat_again {w : World} {q p f : Nat} {ver : Value} (hq : PM w q p ver (.pointer (some ⟨f, 0, none⟩))) :
    Calls Tryz.prog 179 #[.pointer (some ⟨q, 0, none⟩)] w fun e w' => e = .returned (.tuple #[.pointer (some ⟨f, 0, none⟩), .nilIface]) ∧ w = w' := by
  obtain ⟨c0, c1, c2, c3⟩ := hq.c
  clear hq c0 c1 c3
  go_enter Tryz.func179, Tryz.ntmps179
  go_wp2_with fail
  go_ret2
  exact ⟨rfl, rfl⟩
end Go.Proofs.YtcekbhhpcmhicaaGreatDoor
/- What the writer's codewords are made of, and what the reader makes of them. -/
namespace Go.Proofs.YtcekbhhpcmhicaaGreatDoor
open Go Go.RowKit Go.Deep
set_option maxRecDepth 100000
/-- what the writer's codeword row is made of -/
structure Coded (t : List Nat) (l v : Nat) (raw : List Bool) (es : List (List Nat)) : Prop where
  v1 : 1 ≤ v
  v2 : v ≤ 27
  hraw : ∃ zs, raw = msb (modeOf t) 4 ++ (msb t.length (cc (modeOf t) v) ++ (enc (modeOf t) t ++ zs)) ∧ (zs.length < 4 ∨ ∃ r, zs = msb 0 4 ++ r)
  len : raw.length = 8 * dataW v (lvIdx l)
  cnt : t.length < 2 ^ cc (modeOf t) v
  hes : es.length = cntBl (blOf v (lvIdx l))
  ec : ∀ k e, es[k]? = some e → e.length = bec (tot v) (dataW v (lvIdx l)) (cntBl (blOf v (lvIdx l))) ∧ Elems e ∧ ∀ j, j < bec (tot v) (dataW v (lvIdx l)) (cntBl (blOf v (lvIdx l))) → ev (dblk raw (tot v) (dataW v (lvIdx l)) (cntBl (blOf v (lvIdx l))) k ++ e) (gexp j) = 0
/-- the codewords in the symbol's order -/
def rawW (l v : Nat) (raw : List Bool) (es : List (List Nat)) : List Nat :=
  ilv (mxd (tot v) (dataW v (lvIdx l)) (cntBl (blOf v (lvIdx l))) (cntBl (blOf v (lvIdx l)))) (dblks raw (tot v) (dataW v (lvIdx l)) (cntBl (blOf v (lvIdx l)))) ++ ilv (bec (tot v) (dataW v (lvIdx l)) (cntBl (blOf v (lvIdx l)))) es
theorem rawW_len {t : List Nat} {l v : Nat} {raw : List Bool} {es : List (List Nat)} (h : Coded t l v raw es) : (rawW l v raw es).length = tot v := by
  obtain ⟨c, d, c2, hb⟩ := bl_law h.v1 (by have := h.v2; omega) (lvIdx_lt l)
  have h1 := h.hes
  have h2 := h.ec
  unfold rawW
  rw [hb.n] at *
  have h3 : ∀ e ∈ es, e.length = ecOf v (lvIdx l) := by
    intro e he
    obtain ⟨k, hk⟩ := List.getElem?_of_mem he
    rw [(h2 k e hk).1, hb.bec]
  rw [hb.bec]
  exact hb.raw_len raw es h1 h3
theorem ilv_mem {c m : Nat} {bl : List (List Nat)} (h : c ∈ ilv m bl) : ∃ b ∈ bl, c ∈ b := by
  unfold ilv at h
  obtain ⟨j, _, h⟩ := List.mem_flatMap.1 h
  obtain ⟨b, hb, h⟩ := List.mem_filterMap.1 h
  exact ⟨b, hb, List.mem_of_getElem? h⟩
theorem rawW_lt {t : List Nat} {l v : Nat} {raw : List Bool} {es : List (List Nat)} (h : Coded t l v raw es) : ∀ c ∈ rawW l v raw es, c < 256 := by
  intro c hc
  unfold rawW at hc
  rcases List.mem_append.1 hc with hc | hc
  · obtain ⟨b, hb, hc⟩ := ilv_mem hc
    unfold dblks at hb
    obtain ⟨j, _, rfl⟩ := List.mem_map.1 hb
    unfold dblk at hc
    obtain ⟨i, _, rfl⟩ := List.mem_map.1 hc
    exact rd_lt _ _
  · obtain ⟨b, hb, hc⟩ := ilv_mem hc
    obtain ⟨k, hk⟩ := List.getElem?_of_mem hb
    exact (h.ec k b hk).2.1 c hc
/-- the blocks that the reader corrects -/
structure Cs (v l c d c2 : Nat) (cs : Nat → List Nat) (out : List Nat) : Prop where
  len : ∀ j, j < c + c2 → (cs j).length = dOf c d j + ecOf v l
  el : ∀ j, j < c + c2 → Elems (cs j)
  ev_ : ∀ j, j < c + c2 → ∀ i, i < ecOf v l → ev (cs j) (gexp i) = 0
  dat : ∀ j i, j < c + c2 → i < dOf c d j → (cs j).getD i 0 = out.getD (j * d + (j - c) + i) 0
theorem coded_cs {t : List Nat} {l v c d c2 : Nat} {raw : List Bool} {es : List (List Nat)} (h : Coded t l v raw es) (hb : BlLaw v (lvIdx l) c d c2) :
    ∃ cs : Nat → List Nat, Cs v (lvIdx l) c d c2 cs (bytesOf raw (dataW v (lvIdx l))) ∧ ∀ j i, j < c + c2 → i < dOf c d j + ecOf v (lvIdx l) → cwAt (rawW l v raw es) d c (c + c2) j i = (cs j).getD i 0 := by
  have hes := h.hes
  have hec := h.ec
  unfold rawW
  rw [hb.n] at *
  rw [hb.bec] at *
  have hel : ∀ e ∈ es, e.length = ecOf v (lvIdx l) := by
    intro e he
    obtain ⟨k, hk⟩ := List.getElem?_of_mem he
    exact (hec k e hk).1
  have hg : ∀ j, j < c + c2 → es[j]? = some (es.getD j []) := fun j hj => by
    rw [List.getElem?_eq_getElem (by omega), gdE _ _ (by omega)]
  have hdl : ∀ j, (dblk raw (tot v) (dataW v (lvIdx l)) (c + c2) j).length = dOf c d j := fun j => by rw [dblk_length, hb.bsz]; rfl
  refine ⟨fun j => dblk raw (tot v) (dataW v (lvIdx l)) (c + c2) j ++ es.getD j [], ⟨fun j hj => ?_, fun j hj => ?_, fun j hj i hi => ?_, fun j i hj hi => ?_⟩, fun j i hj hi => ?_⟩
  · rw [List.length_append, hdl, (hec j _ (hg j hj)).1]
  · intro x hx
    rcases List.mem_append.1 hx with hx | hx
    · unfold dblk at hx
      obtain ⟨i, _, rfl⟩ := List.mem_map.1 hx
      exact rd_lt _ _
    · exact (hec j _ (hg j hj)).2.1 x hx
  · exact (hec j _ (hg j hj)).2.2 i hi
  · rw [gdL _ _ _ _ (by rw [hdl]; exact hi)]
    exact hb.data raw j i hj hi
  · exact hb.split raw es hes hel j i hj hi
theorem coded_data {t : List Nat} {l v : Nat} {raw : List Bool} {es : List (List Nat)} (h : Coded t l v raw es) :
    ∃ zs, bitsOf (bytesOf raw (dataW v (lvIdx l))) = msb (modeOf t) 4 ++ (msb t.length (cc (modeOf t) v) ++ (enc (modeOf t) t ++ zs)) ∧ (zs.length < 4 ∨ ∃ r, zs = msb 0 4 ++ r) := by
  obtain ⟨zs, h1, h2⟩ := h.hraw
  exact ⟨zs, (bitsOf_bytesOf raw _ h.len).trans h1, h2⟩
theorem cutB_in (B : Nat → Nat → Bool) (n y x : Nat) (hy : y < n) (hx : x < n) : cutB B n y x = B y x := by
  unfold cutB; rw [decide_eq_true ⟨hy, hx⟩, Bool.true_and]
theorem symB_cut (v l k : Nat) (bits : List Bool) (h1 : 1 ≤ v) : TyBits (cutB (symB v l k bits) (17 + 4 * v)) (17 + 4 * v) (tiBits l k) := by
  have h := symB_ty v l k bits h1
  refine ⟨h.len, fun k hk => ?_, ?_, ?_, ?_, fun j hj => ?_, fun k hk => ?_, fun k h7 hk => ?_⟩
  · rw [cutB_in _ _ _ _ (by omega) (by omega)]; exact h.a k hk
  · rw [cutB_in _ _ _ _ (by omega) (by omega)]; exact h.b
  · rw [cutB_in _ _ _ _ (by omega) (by omega)]; exact h.c
  · rw [cutB_in _ _ _ _ (by omega) (by omega)]; exact h.d
  · rw [cutB_in _ _ _ _ (by omega) (by omega)]; exact h.e j hj
  · rw [cutB_in _ _ _ _ (by omega) (by omega)]; exact h.f k hk
  · rw [cutB_in _ _ _ _ (by omega) (by omega)]; exact h.g k h7 hk
end Go.Proofs.YtcekbhhpcmhicaaGreatDoor
/- Appending bytes. -/
namespace Go.Proofs.YtcekbhhpcmhicaaGreatDoor
open Go Go.RowKit Go.Deep
set_option maxRecDepth 100000
/-- the bytes that a slice of ours holds -/
def Own8 (w : World) (lo g n cap : Nat) (xs : List Nat) : Prop := w.ownsRow lo 5 1 (.slice (some ⟨g, 0, none⟩) n cap) n (xs.map u8)
theorem Own8.fr {w w' : World} {F : Nat → Prop} {lo g n cap : Nat} {xs : List Nat} (h : Own8 w lo g n cap xs) (hf : Fr F w w') (hg : ¬ F g) : Own8 w' lo g n cap xs := own_fr h hf hg
theorem Own8.ge {w : World} {lo g n cap : Nat} {xs : List Nat} (h : Own8 w lo g n cap xs) : lo ≤ g := by
  rcases h.2 with ⟨h0, _⟩ | ⟨g', cap', cur, hv', h1, _⟩
  · cases h0
  · cases hv'; exact h1
theorem appB {w : World} {lo g n cap : Nat} {xs : List Nat} (h : Own8 w lo g n cap xs) (hn : n ≤ 1000000) (hlo : lo ≤ w.heap.size) (ad : Addr) (c : Nat) (news : List Nat) (hm : 0 < news.length) (hm2 : news.length ≤ 1000000)
    (hc : ∀ j, j < news.length → w.cell? (ad.add j) = some (u8 (news.getD j 0))) :
    ∃ g2 cap2 w', (Builtin.append_ #[30, 30] 30 #[.slice (some ⟨g, 0, none⟩) n cap, .slice (some ad) news.length c]).run Tryz.prog w = .ok (.slice (some ⟨g2, 0, none⟩) (n + news.length) cap2) w' ∧
      Own8 w' lo g2 (n + news.length) cap2 (xs ++ news) ∧ Fr (One g) w w' ∧ (g2 = g ∨ g2 = w.heap.size) ∧ g2 < w'.heap.size := by
  obtain ⟨i5, hi5, hzi⟩ := Option.map_eq_some_iff.1 Tryz.inf5
  simp only [Prod.mk.injEq] at hzi
  obtain ⟨g2, cap2, w7, hap, hown2, hgrow, hlies, hlt⟩ := run_append_lies (P := Tryz.prog) (w := w) 30 30 lo 5 i5 (.int .u8 0) 1 1 Tryz.und30 hi5 hzi.1 hzi.2.1 hzi.2.2 rfl (by omega)
    (.slice (some ⟨g, 0, none⟩) n cap) n (xs.map u8) h ad news.length c (news.map u8) (by simp)
    (fun k u hu => by
      have hk : k < news.length := by
        rcases Nat.lt_or_ge k news.length with h | h
        · exact h
        · rw [List.getElem?_eq_none (by simpa using h)] at hu; cases hu
      rw [List.getElem?_map, List.getElem?_eq_getElem hk] at hu
      rw [← hu, hc k hk, gdE _ _ hk]; rfl) (fun u hu => by
      obtain ⟨x, _, rfl⟩ := List.mem_map.1 hu
      rfl) hm (by have : maxLen = 9223372036854775807 := rfl; omega) (by omega) hlo _ rfl
  refine ⟨g2, cap2, w7, hap, ?_, ?_, ?_, hlt⟩
  · unfold Own8; rw [List.map_append]; exact hown2
  · exact (Fr.of_grown hgrow).mono fun k _ e => by
      have : k = g := by cases e; rfl
      exact this
  · rcases hlies with e | e
    · left; cases e; rfl
    · exact .inr e
end Go.Proofs.YtcekbhhpcmhicaaGreatDoor
/- BitSource: bits read out of bytes. -/
namespace Go.Proofs.YtcekbhhpcmhicaaGreatDoor
open Go Go.RowKit Go.Deep
set_option maxRecDepth 100000
/-- a BitSource at block p over the bytes l (in block g), pos bits read -/
structure SM (w : World) (p g : Nat) (l : List Nat) (pos : Nat) : Prop where
  st : Blk w p 395 #[.slice (some ⟨g, 0, none⟩) l.length l.length, i64 (pos / 8), i64 (pos % 8)]
  ws : w.rowIs g 5 l.length (fun i => u8 (l.getD i 0))
  el : Elems l
  le : l.length ≤ 4000
theorem SM.fr {w w' : World} {p g pos : Nat} {l : List Nat} {F : Nat → Prop} (h : SM w p g l pos) (hf : Fr F w w') (hp : ¬ F p) (hg : ¬ F g) : SM w' p g l pos := ⟨h.st.fr hf hp, rowFr h.ws hf hg, h.el, h.le⟩
theorem SM.c {w : World} {p g pos : Nat} {l : List Nat} (h : SM w p g l pos) : w.cell? ⟨p, 0, none⟩ = some (.slice (some ⟨g, 0, none⟩) l.length l.length) ∧ w.cell? ⟨p, 1, none⟩ = some (i64 (pos / 8)) ∧ w.cell? ⟨p, 2, none⟩ = some (i64 (pos % 8)) :=
  ⟨by simpa using h.st.cell 0, by simpa using h.st.cell 1, by simpa using h.st.cell 2⟩
theorem newSource_calls {w : World} {g : Nat} {l : List Nat} (h : w.rowIs g 5 l.length (fun i => u8 (l.getD i 0))) (hel : Elems l) (hle : l.length ≤ 4000) :
    Calls Tryz.prog 242 #[.slice (some ⟨g, 0, none⟩) l.length l.length] w fun e w' => e = .returned (.pointer (some ⟨w.heap.size, 0, none⟩)) ∧ SM w' w.heap.size g l 0 ∧ Fr Nil w w' := by
  have hf : Fr Nil w (w.alloc (.cells #[.slice (some ⟨g, 0, none⟩) l.length l.length, i64 0, i64 0] 395)) := (Fr.refl _ _).alloc _
  have H := Lib.hid (show SM (w.alloc (.cells #[.slice (some ⟨g, 0, none⟩) l.length l.length, i64 0, i64 0] 395)) w.heap.size g l 0 from ⟨Blk.new w 395 _, rowFr h hf (fun e => e), hel, hle⟩)
  have HF := Lib.hid hf
  clear hf h hel
  generalize l.length = n at *
  go_enter Tryz.func242, Tryz.ntmps242
  go_wp2
  go_ret
  exact ⟨rfl, H.out, HF.out⟩
theorem available_calls {w : World} {p g pos : Nat} {l : List Nat} (h : SM w p g l pos) (hpos : pos ≤ 8 * l.length) :
    Calls Tryz.prog 243 #[.pointer (some ⟨p, 0, none⟩)] w fun e w' => e = .returned (i64 (8 * l.length - pos)) ∧ Fr Nil w w' := by
  have hf := Fr.refl Nil w
  obtain ⟨c0, c1, c2⟩ := h.c
  have hle := h.le
  obtain ⟨a, ha⟩ : ∃ a, pos / 8 = a := ⟨_, rfl⟩
  obtain ⟨b, hb⟩ : ∃ b, pos % 8 = b := ⟨_, rfl⟩
  rw [ha] at c1
  rw [hb] at c2
  have HR := Lib.hid (show ((8 * l.length - pos : Nat) : Int) = 8 * ((l.length : Int) - (a : Int)) - (b : Int) by omega)
  have h1 : a ≤ 4000 := by omega
  have h2 : b < 8 := by omega
  clear h ha hb
  generalize l.length = n at *
  go_enter Tryz.func243, Tryz.ntmps243
  go_wp2_with (go_quiet (fail))
  go_ret
  exact ⟨congrArg (fun z => Ending.returned (Value.int .i64 z)) HR.out.symm, hf.drewN _⟩
/-- a piece of a byte, as the code cuts it out -/
theorem piece_all : ∀ t, t < 9 → ∀ k, k < 9 → t + k ≤ 8 → ∀ b, b < 256 → (b &&& ((255 >>> (8 - t)) <<< k)) >>> k = b / 2 ^ k % 2 ^ t := by decide +kernel
theorem u8_and_nat (a b : Nat) (ha : a < 256) (hb : b < 256) : bits .and .u8 (a : Int) (b : Int) = ((a &&& b : Nat) : Int) := by
  have e : ∀ a : Nat, a < 256 → (BitVec.ofInt 8 (a : Int)).toNat = a := fun a ha => by rw [BitVec.ofInt_natCast, BitVec.toNat_ofNat]; exact Nat.mod_eq_of_lt (by omega)
  have hx : a &&& b ≤ a := Nat.and_le_left
  show IntKind.u8.wrap ((BitVec.ofInt 8 (a : Int) &&& BitVec.ofInt 8 (b : Int)).toNat : Int) = _
  rw [BitVec.toNat_and, e a ha, e b hb]
  simp [IntKind.wrap, IntKind.bits, IntKind.signed]; omega
theorem mask_all : ∀ t, t < 9 → ∀ k, k < 9 → t + k ≤ 8 → (255 : Int) / 2 ^ (8 - t) * 2 ^ k % 256 = ((((255 >>> (8 - t)) <<< k : Nat)) : Int) ∧ (255 >>> (8 - t)) <<< k < 256 := by decide +kernel
/-- t bits of a byte, k bits below them -/
theorem cut_byte (t k ee b : Nat) (htk : t + k ≤ 8) (hee : 8 - t = ee) (hb : b < 256) : ∃ mk z r : Nat, (255 : Int) / 2 ^ ee * 2 ^ k % 256 = (mk : Int) ∧ bits .and .u8 (b : Int) (mk : Int) = (z : Int) ∧ (z : Int) / 2 ^ k = (r : Int) ∧ r = b / 2 ^ k % 2 ^ t ∧ z < 256 ∧ mk < 256 := by
  subst hee
  obtain ⟨m1, m2⟩ := mask_all t (by omega) k (by omega) htk
  have hp := piece_all t (by omega) k (by omega) htk b hb
  refine ⟨_, _, _, m1, u8_and_nat b _ hb m2, ?_, hp, ?_, m2⟩
  · have e : ∀ a : Nat, (a : Int) / 2 ^ k = ((a >>> k : Nat) : Int) := fun a => by rw [Nat.shiftRight_eq_div_pow, Int.natCast_ediv, Int.natCast_pow]; rfl
    exact e _
  · exact Nat.lt_of_le_of_lt Nat.and_le_left hb
theorem or_add (r m x : Nat) (hx : x < 2 ^ m) (hs : r * 2 ^ m + x < 9223372036854775808) : bits .or .i64 ((r * 2 ^ m : Nat) : Int) (x : Int) = ((r * 2 ^ m + x : Nat) : Int) := by
  rw [i64_or_nat _ _ (by omega) (by omega)]
  have := Nat.shiftLeft_add_eq_or_of_lt hx r
  rw [Nat.shiftLeft_eq] at this
  rw [← this]
end Go.Proofs.YtcekbhhpcmhicaaGreatDoor
/- The value of a polynomial at a power of the generator. -/
namespace Go.Proofs.YtcekbhhpcmhicaaGreatDoor
open Go Go.RowKit Go.Deep
set_option maxRecDepth 100000
theorem ev_take_succ (cs : List Nat) (y i : Nat) (h : i < cs.length) : ev (cs.take (i + 1)) y = gmul y (ev (cs.take i) y) ^^^ cs.getD i 0 := by
  rw [List.take_succ_eq_append_getElem h, ev_snoc, gdE _ _ h]
theorem Elems.take {cs : List Nat} (h : Elems cs) (i : Nat) : Elems (cs.take i) := fun c hc => h c (List.mem_of_mem_take hc)
theorem Elems.at {cs : List Nat} (h : Elems cs) (i : Nat) (hi : i < cs.length) : cs.getD i 0 < 256 := by
  rw [gdE _ _ hi]; exact h _ (List.getElem_mem hi)
set_option maxHeartbeats 3200000 in
theorem eval_one {w : World} {lo p f : Nat} {cs : List Nat} (h : PolyAt w lo p f cs) :
    Calls Tryz.prog 272 #[.pointer (some ⟨p, 0, none⟩), .int .i64 1] w fun e w' => e = .returned (.int .i64 (ev cs 1 : Nat)) ∧ Fr Nil w w' := by
  obtain ⟨b, o, cap, h1, h2⟩ := h.ex
  have c1 := h1.cell 1
  simp only [Nat.reduceAdd, List.getElem?_toArray, List.getElem?_cons_succ, List.getElem?_cons_zero] at c1
  have hpos := h.pos
  have hs := h.small
  have hcap := h2.cap
  have HEL := Lib.hid h.el
  have HC := Lib.hid (fun i (hi : i < cs.length) => h2.cell hi)
  clear h1 h2 h
  go_enter Tryz.func272, Tryz.ntmps272
  go_wp2_with fail
  go_loopg [5, 7, 22] cs.length (fun q s5 s7 s22 wr => ∃ i t : Nat, i + q = cs.length ∧ s22 = .int .i64 i ∧ s5 = .int .i64 t ∧ t = ev (cs.take i) 1 ∧ wr = w)
  case atStart => exact ⟨0, 0, by omega, rfl, rfl, rfl, rfl⟩
  case round =>
    obtain ⟨i, t, hi, rfl, rfl, ht, rfl⟩ := hrel
    cases gk with
    | zero =>
      have hz : ¬ (i : Int) < (cs.length : Int) := by omega
      have HT : Hid (t = ev cs 1) := Lib.hid (by rw [ht, List.take_of_length_le (by omega)])
      clear ht
      go_wp2_with fail
      go_ret
      exact ⟨by rw [HT.out]; rfl, Fr.refl _ _⟩
    | succ q =>
      have hz : (i : Int) < (cs.length : Int) := by omega
      have hil : i < cs.length := by omega
      have c0 := HC.out i hil
      have hcl := HEL.out.at i hil
      have htl : t < 256 := by rw [ht]; exact ev_lt (HEL.out.take i) 1
      have HT : Hid (t ^^^ cs.getD i 0 = ev (cs.take (i + 1)) 1) := Lib.hid (by
        rw [ev_take_succ cs 1 i hil, ← ht, gmul_one htl])
      have HI := Lib.hid hi
      clear ht hi
      generalize cs.getD i 0 = c at *
      go_wp2_with fail
      refine (addSub_calls _ t c htl hcl).mono ?_
      rintro e w1 ⟨rfl, rfl⟩
      go_wp2_with fail
      go_roundg q
      case measure => omega
      case rel => exact ⟨i + 1, t ^^^ c, by have := HI.out; omega, by go_num, rfl, HT.out, rfl⟩
set_option maxHeartbeats 3200000 in
theorem eval_gen {w : World} {lo p f : Nat} {cs : List Nat} (h : PolyAt w lo p f cs) (hg : GFAt w lo f) (a : Nat) (ha : a < 256) (ha2 : 2 ≤ a) :
    Calls Tryz.prog 272 #[.pointer (some ⟨p, 0, none⟩), .int .i64 a] w fun e w' => e = .returned (.int .i64 (ev cs a : Nat)) ∧ Fr Nil w w' := by
  obtain ⟨b, o, cap, h1, h2⟩ := h.ex
  have HK := Lib.hid (fun (w' : World) (hf : Fr Nil w w') => (show w'.cell? ⟨p, 0, none⟩ = some (.pointer (some ⟨f, 0, none⟩)) ∧ w'.cell? ⟨p, 1, none⟩ = some (.slice (some ⟨b, o, none⟩) cs.length cap) from
    ⟨by rw [hf.cell h1.lt (fun e => e)]; simpa using h1.cell 0, by rw [hf.cell h1.lt (fun e => e)]; simpa using h1.cell 1⟩))
  have HG := Lib.hid (fun (w' : World) (hf : Fr Nil w w') => hg.fr hf (fun e => e) (fun _ _ _ e => e) (fun _ _ _ e => e))
  have hpos := h.pos
  have hs := h.small
  have hcap := h2.cap
  have HEL := Lib.hid h.el
  have HC := Lib.hid (fun (w' : World) (hf : Fr Nil w w') i (hi : i < cs.length) => (h2.fr hf (fun e => e)).cell hi)
  have hn0 : ((a : Int) == 0) = false := beq_eq_false_iff_ne.2 (by omega)
  have hn1 : ((a : Int) == 1) = false := beq_eq_false_iff_ne.2 (by omega)
  have k0 := (HK.out w (Fr.refl _ _)).2
  have k1 := HC.out w (Fr.refl _ _) 0 hpos
  simp only [Nat.add_zero] at k1
  have hc0 := HEL.out.at 0 hpos
  have hev0 : cs.getD 0 0 = ev (cs.take 1) a := by
    rw [ev_take_succ cs a 0 hpos]
    simp [ev_nil, gmul_zero_right]
  have HV0 := Lib.hid hev0
  clear h1 h2 h hg hev0
  generalize cs.getD 0 0 = x0 at *
  go_enter Tryz.func272, Tryz.ntmps272
  go_wp2_with fail
  clear k0 k1
  go_loopg [8, 10] (cs.length - 1) (fun q s8 s10 wr => ∃ i t : Nat, i + q = cs.length ∧ 1 ≤ i ∧ s10 = .int .i64 i ∧ s8 = .int .i64 t ∧ Hid (t = ev (cs.take i) a) ∧ Hid (Fr Nil w wr))
  case atStart => exact ⟨1, x0, by omega, by omega, rfl, rfl, HV0, Lib.hid (Fr.refl _ _)⟩
  case round =>
    obtain ⟨i, t, hi, hi1, rfl, rfl, ht, HF⟩ := hrel
    cases gk with
    | zero =>
      have hz : ¬ (i : Int) < (cs.length : Int) := by omega
      have HT : Hid (t = ev cs a) := Lib.hid (by rw [ht.out, List.take_of_length_le (by omega)])
      go_wp2_with fail
      go_ret
      exact ⟨by rw [HT.out]; rfl, HF.out⟩
    | succ q =>
      have hz : (i : Int) < (cs.length : Int) := by omega
      have hil : i < cs.length := by omega
      have hcl := HEL.out.at i hil
      have htl : t < 256 := by rw [ht.out]; exact ev_lt (HEL.out.take i) a
      have HT : Hid (gmul a t ^^^ cs.getD i 0 = ev (cs.take (i + 1)) a) := Lib.hid (by rw [ev_take_succ cs a i hil, ← ht.out])
      have HI := Lib.hid hi
      have hS : ∀ w', Fr Nil wr w' → (w'.cell? ⟨p, 0, none⟩ = some (.pointer (some ⟨f, 0, none⟩)) ∧ w'.cell? ⟨p, 1, none⟩ = some (.slice (some ⟨b, o, none⟩) cs.length cap) ∧ w'.cell? ⟨b, o + i, none⟩ = some (i64 (cs.getD i 0))) := fun w' hf =>
        ⟨(HK.out _ (HF.out.trans hf)).1, (HK.out _ (HF.out.trans hf)).2, HC.out _ (HF.out.trans hf) i hil⟩
      have HS := Lib.hid hS
      have HM := Lib.hid (fun (w' : World) (hf : Fr Nil wr w') => mul_calls (HG.out _ (HF.out.trans hf)) a t ha htl)
      have hml : gmul a t < 256 := gmul_lt
      clear hi hS
      generalize cs.getD i 0 = c at *
      generalize gmul a t = mt at *
      go_wp2_with fail
      go_region_held3 (fun w' => w'.cell? ⟨p, 0, none⟩ = some (.pointer (some ⟨f, 0, none⟩)) ∧ w'.cell? ⟨p, 1, none⟩ = some (.slice (some ⟨b, o, none⟩) cs.length cap) ∧ w'.cell? ⟨b, o + i, none⟩ = some (i64 c))
        (first
          | exact HS.out _ (Fr.refl _ _).drew
          | exact HS.out _ hfa)
        ((first
          | (go_at_call 229; refine (HM.out _ (Fr.refl _ _).drew).mono ?_; rintro e w1 ⟨rfl, hf1⟩; have hfa : Fr Nil wr w1 := hf1.from_drew)
          | (go_at_call 267; refine (addSub_calls _ mt c hml hcl).mono ?_; rintro e w2 ⟨rfl, rfl⟩)))
      all_goals
        go_wp2_with fail
        go_roundg q
        case measure => omega
        case rel => exact ⟨i + 1, mt ^^^ c, by have := HI.out; omega, by omega, by go_num, rfl, HT, Lib.hid (HF.out.trans hfa)⟩
theorem eval_calls {w : World} {lo p f : Nat} {cs : List Nat} (h : PolyAt w lo p f cs) (hg : GFAt w lo f) (a : Nat) (ha : a < 256) (h0 : 0 < a) :
    Calls Tryz.prog 272 #[.pointer (some ⟨p, 0, none⟩), .int .i64 a] w fun e w' => e = .returned (.int .i64 (ev cs a : Nat)) ∧ Fr Nil w w' := by
  by_cases h1 : a = 1
  · subst h1; exact eval_one h
  · exact eval_gen h hg a ha (by omega)
end Go.Proofs.YtcekbhhpcmhicaaGreatDoor
/- ReedSolomonDecoder.Decode where no word is wrong. -/
namespace Go.Proofs.YtcekbhhpcmhicaaGreatDoor
open Go Go.RowKit Go.Deep
set_option maxRecDepth 100000
theorem gexp_range (i : Nat) (h : i < 200) : 0 < gexp i ∧ gexp i < 256 := by
  have : ∀ i, i < 200 → 0 < gexp i ∧ gexp i < 256 := by decide +kernel
  exact this i h
set_option maxHeartbeats 3200000 in
theorem rsDecode_calls {w : World} {lo f d b cap E : Nat} {cs : List Nat} (hg : GFAt w lo f) (hd : Blk w d 223 #[.pointer (some ⟨f, 0, none⟩)]) (hco : CoAt w lo b 0 cap cs) (hpos : 0 < cs.length) (hsm : cs.length ≤ 1000) (hel : Elems cs) (hlo : lo ≤ w.heap.size)
    (hE1 : 1 ≤ E) (hE : E ≤ 200) (hz : ∀ j, j < E → ev cs (gexp j) = 0) :
    Calls Tryz.prog 240 #[.pointer (some ⟨d, 0, none⟩), .slice (some ⟨b, 0, none⟩) cs.length cap, .int .i64 E] w fun e w' => e = .returned .nilIface ∧ Fr Nil w w' := by
  have HNP := Lib.hid (newPoly_calls (f := f) hco hpos hsm hel hlo)
  have HG := Lib.hid (fun (w' : World) (hf : Fr Nil w w') => hg.fr hf (fun e => e) (fun _ _ _ e => e) (fun _ _ _ e => e))
  have HD := Lib.hid (fun (w' : World) (hf : Fr Nil w w') => (show w'.cell? ⟨d, 0, none⟩ = some (.pointer (some ⟨f, 0, none⟩)) from by rw [hf.cell hd.lt (fun e => e)]; simpa using hd.cell 0))
  have HZ := Lib.hid hz
  have k0 := HD.out w (Fr.refl _ _)
  clear hco hg hd hz hel
  generalize hN : cs.length = N at *
  clear hN
  go_enter Tryz.func240, Tryz.ntmps240
  go_wp2_with fail
  refine HNP.out.mono ?_
  rintro e w1 ⟨p, rfl, hP, hF1⟩
  have hmk := mkInts E (by omega) w1
  have hrow := World.rowIs_made w1 (.int .i64 0) E 3
  have hFA : Fr Nil w1 (w1.alloc (.cells (madeCells #[.int .i64 0] E) 3)) := (Fr.refl _ _).alloc _
  have HP := Lib.hid hP
  have HF1 := Lib.hid hF1
  have HR := Lib.hid (show _ ∧ _ ∧ _ from ⟨hrow, hFA, Nat.le_refl w1.heap.size⟩)
  obtain ⟨S, hS⟩ : ∃ S, w1.heap.size = S := ⟨_, rfl⟩
  have HS1 : Hid (w1.heap.size ≤ S) := Lib.hid (by omega)
  rw [hS] at hmk HR
  clear hrow hFA hP hF1 HNP k0
  go_wp2_with fail
  clear hmk
  obtain ⟨W0, hW⟩ : ∃ W0, (w1.alloc (Obj.cells (madeCells #[Value.int IntKind.i64 0] E) 3)) = W0 := ⟨_, rfl⟩
  rw [hW] at HR ⊢
  clear hW hS
  go_loopg [10, 11, 12] E (fun q s10 s11 s12 wr => ∃ i : Nat, i + q = E ∧ s11 = .int .i64 i ∧ s10 = .bool true ∧ wr.rowIs S 3 E (fun _ => .int .i64 0) ∧ Hid (Fr Nil w1 wr))
  case atStart => exact ⟨0, by omega, rfl, rfl, HR.out.1, Lib.hid HR.out.2.1⟩
  case round =>
    obtain ⟨i, hi, rfl, rfl, hrow, HF⟩ := hrel
    have HFW := Lib.hid (HF1.out.trans HF.out)
    have HPW := Lib.hid (HP.out.fr HF.out (fun e => e) (fun _ _ _ e => e))
    cases gk with
    | zero =>
      have hz : ¬ (i : Int) < (E : Int) := by omega
      go_wp2_with fail
      go_ret
      exact ⟨rfl, HFW.out⟩
    | succ q =>
      have hz : (i : Int) < (E : Int) := by omega
      have hiE : i < E := by omega
      obtain ⟨k, hk⟩ : ∃ k, E - 1 - i = k := ⟨_, rfl⟩
      have hidx : ((E : Int) - 1 - (i : Int)) = (k : Int) := by omega
      have hkE : k < E := by omega
      have HI := Lib.hid hi
      have HS := Lib.hid (fun (w' : World) (hf : Fr Nil wr w') => HD.out _ (HFW.out.trans hf))
      have HGB := Lib.hid (fun (w' : World) (hf : Fr Nil wr w') => genBase_calls (HG.out _ (HFW.out.trans hf)))
      have HEX := Lib.hid (fun (w' : World) (hf : Fr Nil wr w') => exp_calls (HG.out _ (HFW.out.trans hf)) i (by omega))
      have hgr := gexp_range i (by omega)
      have HEV := Lib.hid (fun (w' : World) (hf : Fr Nil wr w') => (show Calls Tryz.prog 272 #[.pointer (some ⟨p, 0, none⟩), .int .i64 (gexp i)] w' fun e w'' => e = .returned (.int .i64 0) ∧ Fr Nil w' w'' from by
        have := eval_calls (HPW.out.fr hf (fun e => e) (fun _ _ _ e => e)) (HG.out _ (HFW.out.trans hf)) (gexp i) hgr.2 hgr.1
        rw [ev_norm, HZ.out i hiE] at this
        exact this))
      have HROW := Lib.hid (fun (w' : World) (hf : Fr Nil wr w') => rowFr hrow hf (fun e => e))
      have HWI : Hid (IntKind.i64.wrap (i : Int) = (i : Int)) := Lib.hid (by rw [IntKind.wrap_i64]; omega)
      clear hi hk hrow hgr
      generalize gexp i = g at *
      go_wp2_with fail
      go_region_held3 (fun w' => w'.cell? ⟨d, 0, none⟩ = some (.pointer (some ⟨f, 0, none⟩)))
        (first
          | exact HS.out _ (Fr.refl _ _).drew
          | exact HS.out _ hfa)
        ((first
          | (go_at_call 226; refine (HGB.out _ (Fr.refl _ _).drew).mono ?_; rintro e w1 ⟨rfl, rfl⟩)
          | (go_at_call 225; rw [HWI.out]; refine (HEX.out _ (Fr.refl _ _).drew).mono ?_; rintro e w1 ⟨rfl, rfl⟩)
          | (go_at_call 272; refine (HEV.out _ (Fr.refl _ _).drew).mono ?_; rintro e w2 ⟨rfl, hf1⟩; have hfa : Fr Nil wr w2 := hf1.from_drew)))
      all_goals
        have hr2 := HROW.out _ hfa
        have c0 := hr2.cell hkE
        have z0 := hr2.frozen k
        have HNEW := Lib.hid (show (w2.setCell ⟨S, k, none⟩ (.int .i64 0)).rowIs S 3 E (fun _ => .int .i64 0) ∧ Fr Nil w1 (w2.setCell ⟨S, k, none⟩ (.int .i64 0)) from
          ⟨(hr2.set k _).congr (fun j _ => by split <;> rfl), Fr.setNew (HF.out.trans hfa) HS1.out k _⟩)
        clear hr2
        go_wp2_with fail
        go_roundg q
        case measure => omega
        case rel => exact ⟨i + 1, by have := HI.out; omega, by go_num, rfl, HNEW.out.1, Lib.hid HNEW.out.2⟩
end Go.Proofs.YtcekbhhpcmhicaaGreatDoor
/- Decoder.correctErrors where no word is wrong. -/
namespace Go.Proofs.YtcekbhhpcmhicaaGreatDoor
open Go Go.RowKit Go.Deep
set_option maxRecDepth 100000
theorem u8_and255 (c : Nat) (h : c < 256) : bits .and .u8 (c : Int) 255 = (c : Int) := by
  have e : ∀ c : Fin 256, bits .and .u8 ((c.val : Nat) : Int) 255 = ((c.val : Nat) : Int) := by decide +kernel
  exact e ⟨c, h⟩
set_option maxHeartbeats 3200000 in
theorem correct_calls {w : World} {lo f d t b nd E : Nat} {cs : List Nat} (hg : GFAt w lo f) (hd : Blk w d 223 #[.pointer (some ⟨f, 0, none⟩)]) (ht : Blk w t 162 #[.pointer (some ⟨d, 0, none⟩)])
    (hrow : w.rowIs b 5 cs.length (fun i => u8 (cs.getD i 0))) (hpos : 0 < cs.length) (hsm : cs.length ≤ 1000) (hel : Elems cs) (hlo : lo ≤ w.heap.size)
    (hlen : nd + E = cs.length) (hE1 : 1 ≤ E) (hE : E ≤ 200) (hz : ∀ j, j < E → ev cs (gexp j) = 0) :
    Calls Tryz.prog 213 #[.pointer (some ⟨t, 0, none⟩), .slice (some ⟨b, 0, none⟩) cs.length cs.length, .int .i64 nd] w fun e w' => e = .returned .nilIface ∧ w'.rowIs b 5 cs.length (fun i => u8 (cs.getD i 0)) ∧ Fr (One b) w w' := by
  have HG := Lib.hid (fun (w' : World) (hf : Fr Nil w w') => hg.fr hf (fun e => e) (fun _ _ _ e => e) (fun _ _ _ e => e))
  have HD := Lib.hid (fun (w' : World) (hf : Fr Nil w w') => hd.fr hf (fun e => e))
  have HT := Lib.hid (fun (w' : World) (hf : Fr Nil w w') => (show w'.cell? ⟨t, 0, none⟩ = some (.pointer (some ⟨d, 0, none⟩)) from by rw [hf.cell ht.lt (fun e => e)]; simpa using ht.cell 0))
  have HROW := Lib.hid (fun (w' : World) (hf : Fr Nil w w') => rowFr hrow hf (fun e => e))
  have HZ := Lib.hid hz
  have HEL := Lib.hid hel
  obtain ⟨N, hN⟩ : ∃ N, cs.length = N := ⟨_, rfl⟩
  rw [hN] at hpos hsm hlen ⊢
  have hmk := mkInts N (by omega) w
  have hnew := World.rowIs_made w (.int .i64 0) N 3
  have hFA : Fr Nil w (w.alloc (.cells (madeCells #[.int .i64 0] N) 3)) := (Fr.refl _ _).alloc _
  obtain ⟨S, hS⟩ : ∃ S, w.heap.size = S := ⟨_, rfl⟩
  have HS1 : Hid (w.heap.size ≤ S ∧ lo ≤ S) := Lib.hid (by omega)
  rw [hS] at hmk hnew
  have HR := Lib.hid (show _ ∧ _ from ⟨hnew, hFA⟩)
  have HNN := Lib.hid hN
  clear hnew hFA hg hd ht hrow hz hel hN
  go_enter Tryz.func213, Tryz.ntmps213
  go_wp2_with fail
  clear hmk
  obtain ⟨W0, hW⟩ : ∃ W0, (w.alloc (Obj.cells (madeCells #[Value.int IntKind.i64 0] N) 3)) = W0 := ⟨_, rfl⟩
  rw [hW] at HR ⊢
  clear hW hS
  go_loopg [9] N (fun q s9 wr => ∃ i : Nat, i + q = N ∧ s9 = .int .i64 i ∧ wr.rowIs S 3 N (fun j => i64 (if j < i then cs.getD j 0 else 0)) ∧ Hid (Fr Nil w wr))
  case atStart => exact ⟨0, by omega, rfl, HR.out.1.congr (fun j _ => by rw [if_neg (by omega)]; rfl), Lib.hid HR.out.2⟩
  case round =>
    obtain ⟨i, hi, rfl, hrow, HF⟩ := hrel
    cases gk with
    | succ q =>
      have hz : (i : Int) < (N : Int) := by omega
      have hiN : i < N := by omega
      have c0 := (HROW.out wr HF.out).cell (i := i) (by rw [HNN.out]; exact hiN)
      have c1 := hrow.cell hiN
      have z1 := hrow.frozen i
      rw [if_neg (by omega)] at c1
      have hcl := HEL.out.at i (by rw [HNN.out]; exact hiN)
      have hand := u8_and255 (cs.getD i 0) hcl
      have hset := (hrow.set i (i64 (cs.getD i 0))).congr (g := fun j => i64 (if j < i + 1 then cs.getD j 0 else 0)) (fun j hj => by
        by_cases e : j = i
        · rw [if_pos e, if_pos (by omega), e]
        · rw [if_neg e]
          by_cases e2 : j < i
          · rw [if_pos e2, if_pos (by omega)]
          · rw [if_neg e2, if_neg (by omega)])
      have HNEW := Lib.hid (show _ ∧ _ from ⟨hset, Fr.setNew HF.out HS1.out.1 i (i64 (cs.getD i 0))⟩)
      have HI := Lib.hid hi
      clear hi hset hrow
      generalize cs.getD i 0 = c at *
      go_wp2_with fail
      go_roundg q
      case measure => omega
      case rel => exact ⟨i + 1, by have := HI.out; omega, by go_num, HNEW.out.1, Lib.hid HNEW.out.2⟩
    | zero =>
      have hz : ¬ (i : Int) < (N : Int) := by omega
      have HSROW := Lib.hid (hrow.congr (g := fun j => i64 (cs.getD j 0)) (fun j hj => by rw [if_pos (by omega)]))
      have hco : CoAt wr lo S 0 N cs := ⟨⟨N, _, HSROW.out, fun j hj => by rw [Nat.zero_add], by rw [HNN.out]; omega⟩, by rw [HNN.out]; exact Nat.le_refl _, HS1.out.2⟩
      have HDEC := rsDecode_calls (HG.out wr HF.out) (HD.out wr HF.out) hco (by rw [HNN.out]; exact hpos) (by rw [HNN.out]; exact hsm) HEL.out (by have := HF.out.size; omega) hE1 hE HZ.out
      rw [HNN.out] at HDEC
      have HDEC := Lib.hid HDEC
      have k0 := HT.out wr HF.out
      have hsub : (N : Int) - (nd : Int) = (E : Int) := by omega
      clear hco hrow
      go_wp2_with fail
      refine HDEC.out.mono ?_
      rintro e w1 ⟨rfl, hf1⟩
      have HF2 := Lib.hid (HF.out.trans hf1)
      have HS2 := Lib.hid (rowFr HSROW.out hf1 (fun e => e))
      clear hf1 k0
      go_wp2_with fail
      go_loopg [11] nd (fun q s11 wq => ∃ i : Nat, i + q = nd ∧ s11 = .int .i64 i ∧ wq.rowIs b 5 N (fun j => u8 (cs.getD j 0)) ∧ Hid (Fr (One b) w wq) ∧ Hid (wq.rowIs S 3 N (fun j => i64 (cs.getD j 0))))
      case atStart =>
        have := HROW.out w1 HF2.out
        rw [HNN.out] at this
        exact ⟨0, by omega, rfl, this, Lib.hid (HF2.out.any _), HS2⟩
      case round =>
        obtain ⟨j, hj, rfl, hb, HFB, HSR⟩ := hrel
        cases gk with
        | zero =>
          have hzz : ¬ (j : Int) < (nd : Int) := by omega
          go_wp2_with fail
          go_ret
          exact ⟨rfl, hb, HFB.out⟩
        | succ q =>
          have hzz : (j : Int) < (nd : Int) := by omega
          have hjN : j < N := by omega
          have c0 := HSR.out.cell hjN
          have c1 := hb.cell hjN
          have z1 := hb.frozen j
          have hcl := HEL.out.at j (by rw [HNN.out]; exact hjN)
          have hne : S ≠ b := row_ne HSR.out hb (by decide)
          have hset := (hb.set j (u8 (cs.getD j 0))).congr (g := fun j => u8 (cs.getD j 0)) (fun k hk => by split <;> simp [*])
          have HNEW := Lib.hid (show _ ∧ _ ∧ _ from ⟨hset, Fr.set1 HFB.out j (u8 (cs.getD j 0)), HSR.out.setOther (a := ⟨b, j, none⟩) hne (u8 (cs.getD j 0))⟩)
          have HJ := Lib.hid hj
          clear hj hset hb
          generalize cs.getD j 0 = c at *
          go_wp2_with fail
          go_roundg q
          case measure => omega
          case rel => exact ⟨j + 1, by have := HJ.out; omega, by go_num, HNEW.out.1, Lib.hid HNEW.out.2.1, Lib.hid HNEW.out.2.2⟩
end Go.Proofs.YtcekbhhpcmhicaaGreatDoor
