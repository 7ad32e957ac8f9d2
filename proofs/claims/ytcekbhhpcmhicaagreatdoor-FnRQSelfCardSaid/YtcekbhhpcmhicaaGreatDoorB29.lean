/- QRPure. -/
import Derived.Test.YtcekbhhpcmhicaaGreatDoorB26
import Derived.Test.YtcekbhhpcmhicaaGreatDoorB28
import Derived.Test.YtcekbhhpcmhicaaGreatDoorB24
import Derived.Test.YtcekbhhpcmhicaaGreatDoorB20
set_option linter.unusedSimpArgs false
set_option linter.unusedVariables false
namespace Go.Proofs.YtcekbhhpcmhicaaGreatDoor
open Go Go.RowKit Go.Deep
set_option maxRecDepth 100000
theorem Tryz.ptrEq (m : Nat) (w : World) : (binOp BinOp.eql 91 (.pointer (some ⟨m, 0, none⟩)) (.pointer none)).run Tryz.prog w = .ok (.bool false) w := by kernel_rfl
set_option maxHeartbeats 3200000 in
theorem qrPure_calls {w : World} {W H b c dk lt X Y sc v l k : Nat} {D : Nat → Nat → Bool} {F : Nat → Nat} {tx : List Nat} {raw : List Bool} {es : List (List Nat)}
    (w1 : 20 ≤ W) (w2 : W ≤ 1500) (k1 : 20 ≤ H) (k2 : H ≤ 1500) (hcell : ∀ k, k < H * W → w.cell? ⟨b, k, none⟩ = some (u8 (F k))) (h2 : Gray2 W H dk lt D F) (hyb : Bool)
    (hyp : (hyb = false ∧ ∀ y, y < H → D y (W / 5) = false) ∨ (hyb = true ∧ 40 ≤ W ∧ 40 ≤ H ∧ dk = 0))
    (ha : Alone (cutX D W H) W H X Y sc (17 + 4 * v) (symB v l k (bitsOf (rawW l v raw es))))
    (hk : k < 8) (hl : l < 4) (hc : Coded tx l v raw es) (ht1 : 1 ≤ tx.length) (ht2 : tx.length ≤ 600) (htb : ∀ c ∈ tx, c < 256) :
    Calls Tryz.prog 13 #[i64 W, i64 H, .slice (some ⟨b, 0, none⟩) (H * W) c, .bool hyb] w fun e w' => ∃ (a1 : Option Addr) (a2 a3 : Nat) (b1 : Option Addr) (b2 b3 : Nat),
      e = .returned (.tuple #[.agg #[.string (strOf tx), .slice a1 a2 a3, .slice b1 b2 b3, .string (lvStr l), .int .i64 0, .int .i64 (-1), .int .i64 (-1), .int .i64 1], .bool true]) ∧ Fr Nil w w' := by
  obtain ⟨w1', hw1⟩ : ∃ w1, w.alloc (.cells #[.string ⟨#[]⟩, .slice none 0 0, .slice none 0 0, .string ⟨#[]⟩, .int .i64 0, .int .i64 0, .int .i64 0, .int .i64 0] 33) = w1 := ⟨_, rfl⟩
  have HZ := Lib.hid (show Blk w1' w.heap.size 33 #[.string ⟨#[]⟩, .slice none 0 0, .slice none 0 0, .string ⟨#[]⟩, .int .i64 0, .int .i64 0, .int .i64 0, .int .i64 0] ∧ Fr Nil w w1' from by rw [← hw1]; exact ⟨Blk.new _ _ _, (Fr.refl _ _).alloc _⟩)
  have HW1 := Lib.hid hw1
  obtain ⟨tb, htb2⟩ : ∃ tb, w.heap.size = tb := ⟨_, rfl⟩
  have HTB := Lib.hid htb2
  rw [htb2] at HZ
  have HBL := Lib.hid (black_calls (c := c) (dk := dk) (lt := lt) w1 w2 k1 k2 (fun k hk => HZ.out.2.cell_some (hcell k hk) (fun e => e)) h2 hyb hyp)
  have HA := Lib.hid ha
  have HC := Lib.hid (show _ ∧ _ ∧ _ ∧ _ ∧ _ from ⟨hk, hl, hc, ht1, htb⟩)
  have hn200 : 17 + 4 * v ≤ 200 := by have := ha.n2; omega
  clear hw1 htb2 hcell h2 hyp ha hc htb
  go_enter Tryz.func13, Tryz.ntmps13
  go_wp2_with fail
  rw [HW1.out, HTB.out]
  refine HBL.out.mono ?_
  rintro e w2' ⟨m, rfl, ⟨mg, hm⟩, hf2⟩
  have HM := Lib.hid (pureBits_calls hm HA.out)
  have HZ2 := Lib.hid (show _ ∧ _ from ⟨HZ.out.1.fr hf2 (fun e => e), HZ.out.2.trans hf2⟩)
  have hpe := Tryz.ptrEq m w2'
  clear hm hf2 HZ HBL
  go_wp2_with fail
  refine HM.out.mono ?_
  rintro e w3 ⟨m3, rfl, ⟨mg3, hq3⟩, hf3⟩
  have HTK := Lib.hid (taken_calls hq3 hn200)
  have HZ3 := Lib.hid (show _ ∧ _ from ⟨HZ2.out.1.fr hf3 (fun e => e), HZ2.out.2.trans hf3⟩)
  clear hq3 hf3 HZ2 HM hpe
  go_wp2_with fail
  refine HTK.out.mono ?_
  rintro e w4 ⟨gb, rfl, ⟨R, hmm⟩, hf4⟩
  have hmm2 : MM w4 gb (17 + 4 * v) R (symB v l k (bitsOf (rawW l v raw es))) := ⟨hmm.top, fun y hy => (hmm.row y hy).congr (fun x hx => by unfold cutX; rw [decide_eq_true ⟨hy, hx⟩, Bool.true_and])⟩
  have HQD := Lib.hid (qrDecode_calls hmm2 (Nat.le_refl _) HC.out.1 HC.out.2.1 HC.out.2.2.1 HC.out.2.2.2.1 ht2 HC.out.2.2.2.2)
  have HZ4 := Lib.hid (show _ ∧ _ from ⟨HZ3.out.1.fr hf4 (fun e => e), HZ3.out.2.trans hf4⟩)
  clear hmm hmm2 hf4 HZ3 HTK
  go_wp2_with fail
  refine HQD.out.mono ?_
  rintro e w5 ⟨a1, a2, a3, b1, b2, b3, rfl, hf5⟩
  have HZ5 := Lib.hid (HZ4.out.1.fr hf5 (fun e => e))
  have HF5 := Lib.hid (HZ4.out.2.trans hf5)
  clear hf5 HZ4 HQD
  have z0 := HZ5.out.cell 0
  have y0 := HZ5.out.frozen 0
  have z1 := HZ5.out.cell 1
  have y1 := HZ5.out.frozen 1
  have z2 := HZ5.out.cell 2
  have y2 := HZ5.out.frozen 2
  have z3 := HZ5.out.cell 3
  have y3 := HZ5.out.frozen 3
  have z4 := HZ5.out.cell 4
  have y4 := HZ5.out.frozen 4
  have z5 := HZ5.out.cell 5
  have y5 := HZ5.out.frozen 5
  have z6 := HZ5.out.cell 6
  have y6 := HZ5.out.frozen 6
  have z7 := HZ5.out.cell 7
  have y7 := HZ5.out.frozen 7
  obtain ⟨W, hW⟩ : ∃ W, ((((((((w5.setCell ⟨tb, 0, none⟩ (.string (strOf tx))).setCell ⟨tb, 1, none⟩ (.slice a1 a2 a3)).setCell ⟨tb, 2, none⟩ (.slice b1 b2 b3)).setCell ⟨tb, 3, none⟩ (.string (lvStr l))).setCell ⟨tb, 4, none⟩ (.int .i64 0)).setCell ⟨tb, 5, none⟩ (.int .i64 (-1))).setCell ⟨tb, 6, none⟩ (.int .i64 (-1))).setCell ⟨tb, 7, none⟩ (.int .i64 1)) = W := ⟨_, rfl⟩
  have hB : Blk W tb 33 #[.string (strOf tx), .slice a1 a2 a3, .slice b1 b2 b3, .string (lvStr l), .int .i64 0, .int .i64 (-1), .int .i64 (-1), .int .i64 1] := by rw [← hW]; exact ((((((((HZ5.out.set_ 0 (.string (strOf tx))).set_ 1 (.slice a1 a2 a3)).set_ 2 (.slice b1 b2 b3)).set_ 3 (.string (lvStr l))).set_ 4 (.int .i64 0)).set_ 5 (.int .i64 (-1))).set_ 6 (.int .i64 (-1))).set_ 7 (.int .i64 1))
  have hFW : Fr Nil w W := by
    rw [← hW]
    exact ((((((((HF5.out.setNew (by rw [HTB.out]; exact Nat.le_refl _) 0 (.string (strOf tx))).setNew (by rw [HTB.out]; exact Nat.le_refl _) 1 (.slice a1 a2 a3)).setNew (by rw [HTB.out]; exact Nat.le_refl _) 2 (.slice b1 b2 b3)).setNew (by rw [HTB.out]; exact Nat.le_refl _) 3 (.string (lvStr l))).setNew (by rw [HTB.out]; exact Nat.le_refl _) 4 (.int .i64 0)).setNew (by rw [HTB.out]; exact Nat.le_refl _) 5 (.int .i64 (-1))).setNew (by rw [HTB.out]; exact Nat.le_refl _) 6 (.int .i64 (-1))).setNew (by rw [HTB.out]; exact Nat.le_refl _) 7 (.int .i64 1))
  have HBW := Lib.hid (show _ ∧ _ from ⟨hB, hFW⟩)
  have HWE := Lib.hid hW
  clear hB hFW hW
  go_wp2_with fail
  rw [HWE.out]
  obtain ⟨hB, hFW⟩ := HBW.out
  have x0 := hB.cell 0
  have x1 := hB.cell 1
  have x2 := hB.cell 2
  have x3 := hB.cell 3
  have x4 := hB.cell 4
  have x5 := hB.cell 5
  have x6 := hB.cell 6
  have x7 := hB.cell 7
  exact bodyPost_ret (v := .tuple #[.agg #[.string (strOf tx), .slice a1 a2 a3, .slice b1 b2 b3, .string (lvStr l), .int .i64 0, .int .i64 (-1), .int .i64 (-1), .int .i64 1], .bool true]) (by simp [results, Tryz.results13, go_sem, x0, x1, x2, x3, x4, x5, x6, x7]) rfl ⟨_, _, _, _, _, _, rfl, hFW⟩
end Go.Proofs.YtcekbhhpcmhicaaGreatDoor
/- The finder pattern's diagonal, and its bottom row. -/
namespace Go.Proofs.YtcekbhhpcmhicaaGreatDoor
open Go Go.RowKit Go.Deep
set_option maxRecDepth 100000
theorem fun_diag : ∀ v : Fin 28, 1 ≤ v.val → ∀ l : Fin 4, ∀ k : Fin 8, ∀ i : Fin 8, funM v.val l.val k.val i.val i.val = (if mdk i.val then 1 else 0) := by decide +kernel
theorem fun_low : ∀ v : Fin 28, 1 ≤ v.val → ∀ l : Fin 4, ∀ k : Fin 8, funM v.val l.val k.val (17 + 4 * v.val - 1) 1 = 1 := by decide +kernel
end Go.Proofs.YtcekbhhpcmhicaaGreatDoor
/- A symbol in a view stands alone; what is told is what the black matrix asks. -/
namespace Go.Proofs.YtcekbhhpcmhicaaGreatDoor
open Go Go.RowKit Go.Deep
set_option maxRecDepth 100000
theorem pix_at {s S L T W H a b : Nat} (B : Nat → Nat → Bool) (ha : a < S) (hb : b < S) (hH : T + S < H) (hW : L + S < W) : cutX (picB s S L T B) W H (T + a) (L + b) = B (a / s) (b / s) := by
  unfold cutX picB
  rw [decide_eq_true (by omega : T + a < H ∧ L + b < W), decide_eq_true (by omega : T ≤ T + a ∧ T + a < T + S ∧ L ≤ L + b ∧ L + b < L + S), Bool.true_and, Bool.true_and, Nat.add_sub_cancel_left, Nat.add_sub_cancel_left]
theorem pix_in {s S L T W H y x : Nat} {B : Nat → Nat → Bool} (h : cutX (picB s S L T B) W H y x = true) : T ≤ y ∧ y < T + S ∧ L ≤ x ∧ x < L + S := by
  unfold cutX picB at h
  rw [Bool.and_eq_true, Bool.and_eq_true] at h
  exact of_decide_eq_true h.2.1
theorem alone_of {B : Nat → Nat → Bool} {s n L T W H : Nat} (s1 : 1 ≤ s) (s2 : s ≤ 6) (n1 : 21 ≤ n) (n2 : n ≤ 177) (hW : L + s * n < W) (hH : T + s * n < H) (hd : ∀ i, i < 8 → B i i = mdk i) (hlow : B (n - 1) 1 = true) :
    Alone (cutX (picB s (s * n) L T B) W H) W H L T s n B := by
  have hS : s * 8 ≤ s * n := Nat.mul_le_mul_left s (by omega)
  have hlast : (s * n - 1) / s = n - 1 := by
    obtain ⟨m, rfl⟩ : ∃ m, n = m + 1 := ⟨n - 1, by omega⟩
    rw [show s * (m + 1) - 1 = s * m + (s - 1) from by rw [Nat.mul_succ]; omega, Nat.mul_add_div s1, Nat.div_eq_of_lt (by omega)]
    rfl
  have hmd : ∀ b, b < n → s * b + s / 2 < s * n ∧ (s * b + s / 2) / s = b := fun b hb => by
    have h1 : s * (b + 1) ≤ s * n := Nat.mul_le_mul_left s (by omega)
    rw [Nat.mul_succ] at h1
    refine ⟨by omega, ?_⟩
    rw [Nat.mul_add_div s1, Nat.div_eq_of_lt (by omega)]
    rfl
  refine ⟨?_, fun y x h => ?_, ⟨L + s, by omega, ?_⟩, fun y x h => ?_, fun y x h => ?_, fun i hi => ?_, fun b a hb ha => ?_, s1, s2, n1, n2, hW, hH⟩
  · have h := pix_at (s := s) B (show 0 < s * n by omega) (show 0 < s * n by omega) hH hW
    rw [Nat.zero_div, hd 0 (by omega)] at h
    exact h
  · have h := pix_in h; omega
  · have h := pix_at (s := s) B (show s * n - 1 < s * n by omega) (show s < s * n by omega) hH hW
    rw [hlast, Nat.div_self s1, hlow] at h
    rw [show T + s * n - 1 = T + (s * n - 1) from by omega]
    exact h
  · have h := pix_in h; omega
  · have h := pix_in h; omega
  · have h := pix_at (s := s) B (show i < s * n by omega) (show i < s * n by omega) hH hW
    rw [hd (i / s) (Nat.div_lt_of_lt_mul (by omega))] at h
    exact h
  · have h := pix_at (s := s) B (hmd b hb).1 (hmd a ha).1 hH hW
    rw [(hmd b hb).2, (hmd a ha).2] at h
    rw [Nat.add_assoc, Nat.add_assoc]
    exact h
theorem symB_diag {v l k : Nat} (bits : List Bool) (h1 : 1 ≤ v) (h2 : v ≤ 27) (hl : l < 4) (hk : k < 8) (i : Nat) (hi : i < 8) : symB v l k bits i i = mdk i := by
  have h := fun_diag ⟨v, by omega⟩ h1 ⟨l, hl⟩ ⟨k, hk⟩ ⟨i, hi⟩
  have h : funM v l k i i = (if mdk i then 1 else 0) := h
  unfold symB
  rw [sym_fun v l k bits i i (by rw [h]; split <;> decide), h]
  cases mdk i <;> rfl
theorem symB_low {v l k : Nat} (bits : List Bool) (h1 : 1 ≤ v) (h2 : v ≤ 27) (hl : l < 4) (hk : k < 8) : symB v l k bits (17 + 4 * v - 1) 1 = true := by
  have h := fun_low ⟨v, by omega⟩ h1 ⟨l, hl⟩ ⟨k, hk⟩
  have h : funM v l k (17 + 4 * v - 1) 1 = 1 := h
  unfold symB
  rw [sym_fun v l k bits _ _ (by rw [h]; decide), h]
  rfl
theorem alone_view {v l k : Nat} (bits : List Bool) (h1 : 1 ≤ v) (h2 : v ≤ 27) (hl : l < 4) (hk : k < 8) (vw : View) :
    Alone (cutX (vw.pic (17 + 4 * v) (symB v l k bits)) (vw.wi (17 + 4 * v)) (vw.hi (17 + 4 * v))) (vw.wi (17 + 4 * v)) (vw.hi (17 + 4 * v)) vw.le vw.to vw.sc (17 + 4 * v) (symB v l k bits) :=
  alone_of (by unfold View.sc; omega) (by unfold View.sc; omega) (by omega) (by omega) (by unfold View.wi View.ri; omega) (by unfold View.hi View.bo; omega) (symB_diag bits h1 h2 hl hk) (symB_low bits h1 h2 hl hk)
theorem told_hyp {p : Bool} {W H dk : Nat} {B : Nat → Nat → Bool} (h : ToldIf p W H dk B) (hW : 1 ≤ W) : (p = false ∧ ∀ y, y < H → B y (W / 5) = false) ∨ (p = true ∧ 40 ≤ W ∧ 40 ≤ H ∧ dk = 0) := by
  rcases h with ⟨hp, b, hb, h⟩ | h
  · refine Or.inl ⟨hp, fun y hy => ?_⟩
    rw [Bool.eq_false_iff]
    intro hd
    have := h y hy (W / 5) (by omega) hd
    omega
  · exact Or.inr h
/-- the picture's grays -/
def grayF (vw : View) (n : Nat) (B : Nat → Nat → Bool) (k : Nat) : Nat := if vw.pic n B (k / vw.wi n) (k % vw.wi n) then vw.dk else vw.lt
theorem gray_view (vw : View) (n : Nat) (B : Nat → Nat → Bool) : Gray2 (vw.wi n) (vw.hi n) vw.dk vw.lt (vw.pic n B) (grayF vw n B) := by
  refine ⟨fun y hy x hx => ?_, ?_, ?_, ?_⟩
  · unfold grayF
    rw [Nat.mul_comm y, Nat.mul_add_div (by omega), Nat.mul_add_mod, Nat.div_eq_of_lt hx, Nat.mod_eq_of_lt hx, Nat.add_zero]
  · unfold View.dk View.lt
    have := Nat.mod_lt vw.d (show 0 < (128 + vw.l % 128) / 3 + 1 by omega)
    omega
  · unfold View.lt; omega
  · unfold View.lt; omega
theorem gray_cells {w : World} {vw : View} {n b : Nat} {B : Nat → Nat → Bool} (h : ∀ y, y < vw.hi n → ∀ x, x < vw.wi n → w.cell? ⟨b, y * vw.wi n + x, none⟩ = some (u8 (if vw.pic n B y x then vw.dk else vw.lt))) :
    ∀ k, k < vw.hi n * vw.wi n → w.cell? ⟨b, k, none⟩ = some (u8 (grayF vw n B k)) := by
  intro k hk
  have hw : 0 < vw.wi n := by
    rcases Nat.eq_zero_or_pos (vw.wi n) with h0 | h0
    · rw [h0, Nat.mul_zero] at hk; omega
    · exact h0
  have h1 := h (k / vw.wi n) (Nat.div_lt_of_lt_mul (by rw [Nat.mul_comm]; exact hk)) (k % vw.wi n) (Nat.mod_lt _ hw)
  rw [Nat.mul_comm, Nat.div_add_mod] at h1
  exact h1
theorem view_sizes (vw : View) {n : Nat} (h1 : 21 ≤ n) (h2 : n ≤ 177) : 20 ≤ vw.wi n ∧ vw.wi n ≤ 1500 ∧ 20 ≤ vw.hi n ∧ vw.hi n ≤ 1500 := by
  have hs : vw.sc ≤ 6 ∧ 1 ≤ vw.sc := by unfold View.sc; omega
  have h3 : vw.sc * n ≤ 1062 := Nat.le_trans (Nat.mul_le_mul hs.1 h2) (by decide)
  have h4 : 1 * n ≤ vw.sc * n := Nat.mul_le_mul_right n hs.2
  unfold View.wi View.hi View.le View.ri View.to View.bo
  omega
end Go.Proofs.YtcekbhhpcmhicaaGreatDoor
/- FnRQSelf walked: for every input it returns true. -/
namespace Go.Proofs.YtcekbhhpcmhicaaGreatDoor
open Go Go.RowKit Go.Deep
set_option maxRecDepth 100000
set_option maxHeartbeats 3200000 in
theorem rqSelf_calls (text : ByteArray) (hx : text.size ≤ maxLen) (kind level : Nat) (hk : kind < 256) (hl : level < 256) (vw : View) (hv : vw.ok) (w : World) :
    Calls Tryz.prog 4 #[.string text, .int .u8 kind, .int .u8 level, vw.val] w fun e w' => e = .returned (.bool true) ∧ Fr Nil w w' := by
  unfold maxLen at hx
  obtain ⟨w1, hw1⟩ : ∃ w1, w.alloc (.cells #[u8 vw.s, u8 vw.b0, u8 vw.b1, u8 vw.b2, u8 vw.b3, u8 vw.d, u8 vw.l, .bool vw.p] 40) = w1 := ⟨_, rfl⟩
  obtain ⟨vb, hvb⟩ : ∃ vb, w.heap.size = vb := ⟨_, rfl⟩
  have hf1 : Fr Nil w w1 := by rw [← hw1]; exact (Fr.refl _ _).alloc _
  have hb1 : Blk w1 vb 40 #[u8 vw.s, u8 vw.b0, u8 vw.b1, u8 vw.b2, u8 vw.b3, u8 vw.d, u8 vw.l, .bool vw.p] := by rw [← hw1, ← hvb]; exact Blk.new _ _ _
  have HW1 := Lib.hid (show _ ∧ _ from ⟨hw1, hvb⟩)
  by_cases hlong : 2147483647 < text.size
  · have hz : (2147483647 : Int) < (text.size : Int) := by omega
    have HF := Lib.hid hf1
    unfold View.val
    clear hw1 hvb hb1 hf1
    go_enter Tryz.func4, Tryz.ntmps4
    go_wp2_with fail
    rw [HW1.out.1]
    go_ret
    exact ⟨rfl, HF.out⟩
  · have hz : ¬ (2147483647 : Int) < (text.size : Int) := by omega
    have HLV := Lib.hid (fun (w : World) => lawLevel_calls level hl w)
    have hL4 : level % 4 < 4 := by omega
    obtain ⟨L, hL⟩ : ∃ L, level % 4 = L := ⟨_, rfl⟩
    rw [hL] at HLV hL4
    clear hL
    have HA := Lib.hid (fun (w : World) => qrAscii3_calls text (by unfold maxLen; omega) kind hk w)
    have HV := Lib.hid hv
    have H1 := Lib.hid (show _ ∧ _ from ⟨hf1, hb1⟩)
    unfold View.val
    clear hw1 hvb hb1 hf1 hv
    go_enter Tryz.func4, Tryz.ntmps4
    go_wp2_with fail
    rw [HW1.out.1, HW1.out.2]
    refine (HA.out w1).mono ?_
    rintro e w2 ⟨s, rfl, h1, h300, hf⟩
    have H2 := Lib.hid (show _ ∧ _ from ⟨H1.out.1.trans hf, H1.out.2.fr hf (fun e => e)⟩)
    have HS := Lib.hid (show _ ∧ _ from ⟨h1, h300⟩)
    clear hf h1 h300 HA hlong hz hx H1 HW1
    go_wp2_with fail
    refine (HLV.out w2).mono ?_
    rintro e w2 ⟨rfl, rfl⟩
    go_wp2_with fail
    refine (qrEncode_calls s (by have := HS.out.2; omega) L hL4 _).mono ?_
    rintro e w3 ⟨g, cap, v, k, R, raw, es, rfl, hk8, hc, hcap, hM, hf⟩
    have HE := Lib.hid (show _ ∧ _ ∧ _ from ⟨hk8, hc, hcap⟩)
    have H3 := Lib.hid (show _ ∧ _ from ⟨H2.out.1.trans hf, H2.out.2.fr hf (fun e => e)⟩)
    obtain ⟨n, hn⟩ : ∃ n, 17 + 4 * v = n := ⟨_, rfl⟩
    obtain ⟨w4, hw4⟩ : ∃ w4, w3.alloc (.cells #[i64 v, i64 k, i64 L, i64 (modeOf (nums s)), .slice (some ⟨g, 0, none⟩) n cap] 25) = w4 := ⟨_, rfl⟩
    obtain ⟨gb, hgb⟩ : ∃ gb, w3.heap.size = gb := ⟨_, rfl⟩
    have hf4 : Fr Nil w3 w4 := by rw [← hw4]; exact (Fr.refl _ _).alloc _
    have b4 : Blk w4 gb 25 #[i64 v, i64 k, i64 L, i64 (modeOf (nums s)), .slice (some ⟨g, 0, none⟩) n cap] := by rw [← hw4, ← hgb]; exact Blk.new w3 25 _
    have HW4 := Lib.hid (show _ ∧ _ from ⟨hw4, hgb⟩)
    have HM4 := Lib.hid (hM.nil hf4)
    have H4 := Lib.hid (show _ ∧ _ ∧ _ from ⟨H3.out.1.trans hf4, H3.out.2.fr hf4 (fun e => e), b4⟩)
    have HN := Lib.hid hn
    clear hk8 hc hcap hM hf hf4 hn hw4 hgb b4 H2 H3
    have h21 : 21 ≤ n ∧ n ≤ 177 := by have := HE.out.2.1.v1; have := HE.out.2.1.v2; have := HN.out; omega
    have hz1 : (21 : Int) ≤ (n : Int) := by omega
    have hz3 : ((n : Int) == (n : Int)) = true := by rw [beq_iff_eq]
    have HM4' := Lib.hid (show MM w4 g n R (symB v L k (bitsOf (rawW L v raw es))) from by have := HM4.out; rw [HN.out] at this; exact this)
    have HEV := Lib.hid (fun (w' : World) (hf : Fr Nil w4 w') => even_calls (cap := cap) (lo := 21) (hi := 177) (HM4'.out.nil hf) h21.1 h21.2 (by decide) (by decide))
    have HSH := Lib.hid (fun (w' : World) (hf : Fr Nil w4 w') => show_calls (cap := cap) (HM4'.out.nil hf) (by omega) h21.2 vw HV.out)
    have b4 : w4.cell? ⟨gb, 4, none⟩ = some (.slice (some ⟨g, 0, none⟩) n cap) := H4.out.2.2.cell 4
    have ct0 := HM4'.out.top 0 (by omega)
    go_upto_region 5 with fail
    rw [HN.out, HW4.out.1, HW4.out.2]
    go_quiet (first | (go_at_call 11; exact Calls.quiet_of_same ((HEV.out _ ((Fr.refl _ _).drewN _)).mono fun _ _ h => ⟨h.1, h.2.symm⟩)))
    obtain ⟨w5, hw5⟩ : ∃ w5, w4.drewN nq = w5 := ⟨_, rfl⟩
    have hf5 : Fr Nil w4 w5 := by rw [← hw5]; exact (Fr.refl _ _).drewN _
    rw [hw5]
    have hs5 := HSH.out w5 hf5
    unfold View.val at hs5
    have HS5 := Lib.hid hs5
    have H5 := Lib.hid (show _ ∧ _ ∧ _ from ⟨H4.out.1.trans hf5, H4.out.2.1.fr hf5 (fun e => e), H4.out.2.2.fr hf5 (fun e => e)⟩)
    have b4 : w5.cell? ⟨gb, 4, none⟩ = some (.slice (some ⟨g, 0, none⟩) n cap) := H5.out.2.2.cell 4
    have c0 := H5.out.2.1.cell 0
    have c1 := H5.out.2.1.cell 1
    have c2 := H5.out.2.1.cell 2
    have c3 := H5.out.2.1.cell 3
    have c4 := H5.out.2.1.cell 4
    have c5 := H5.out.2.1.cell 5
    have c6 := H5.out.2.1.cell 6
    have c7 := H5.out.2.1.cell 7
    have HSZ := Lib.hid (view_sizes vw h21.1 h21.2)
    clear hw5 hf5 hs5 HSH HEV H4 HW4 HM4 HM4' HLV hz1 hz3
    go_wp2_with fail
    clear b4 c0 c1 c2 c3 c4 c5 c6 c7
    refine HS5.out.mono ?_
    rintro e w6 ⟨b, c, t, rfl, hcell, hcap6, htold, hf6⟩
    have HC6 := Lib.hid (gray_cells hcell)
    have HT := Lib.hid htold
    have H6 := Lib.hid (show _ ∧ _ from ⟨H5.out.1.trans hf6, H5.out.2.1.fr hf6 (fun e => e)⟩)
    clear hcell hcap6 htold hf6 H5 HS5
    cases t with
    | false =>
      go_wp2_with fail
      go_ret
      exact ⟨rfl, H6.out.1⟩
    | true =>
      have ha : Alone (cutX (vw.pic n (symB v L k (bitsOf (rawW L v raw es)))) (vw.wi n) (vw.hi n)) (vw.wi n) (vw.hi n) vw.le vw.to vw.sc (17 + 4 * v) (symB v L k (bitsOf (rawW L v raw es))) := by
        have := alone_view (bitsOf (rawW L v raw es)) HE.out.2.1.v1 HE.out.2.1.v2 hL4 HE.out.1 vw
        rw [HN.out] at this ⊢
        exact this
      have hlen : (nums s).length = s.size := by simp [nums]
      have hq := qrPure_calls (c := c) HSZ.out.1 HSZ.out.2.1 HSZ.out.2.2.1 HSZ.out.2.2.2 HC6.out (gray_view vw n _) vw.p (told_hyp (HT.out rfl) (by have := HSZ.out.1; omega)) ha HE.out.1 hL4 HE.out.2.1 (by rw [hlen]; exact HS.out.1) (by rw [hlen]; have := HS.out.2; omega) (fun c hc => by
        unfold nums at hc
        obtain ⟨x, _, rfl⟩ := List.mem_map.1 hc
        exact x.toNat_lt)
      rw [strOf_nums] at hq
      have HQ := Lib.hid hq
      have c7 := H6.out.2.cell 7
      clear ha hlen hq HT HC6
      go_wp2_with fail
      refine HQ.out.mono ?_
      rintro e w7 ⟨a1, a2, a3, b1, b2, b3, rfl, hf7⟩
      have HF7 := Lib.hid (H6.out.1.trans hf7)
      clear hf7 HQ H6 c7
      obtain ⟨w8, hw8⟩ : ∃ w8, w7.alloc (.cells #[.string s, .slice a1 a2 a3, .slice b1 b2 b3, .string (lvStr L), .int .i64 0, .int .i64 (-1), .int .i64 (-1), .int .i64 1] 33) = w8 := ⟨_, rfl⟩
      obtain ⟨db, hdb⟩ : ∃ db, w7.heap.size = db := ⟨_, rfl⟩
      have hb8 : Blk w8 db 33 #[.string s, .slice a1 a2 a3, .slice b1 b2 b3, .string (lvStr L), .int .i64 0, .int .i64 (-1), .int .i64 (-1), .int .i64 1] := by rw [← hw8, ← hdb]; exact Blk.new _ _ _
      have HF8 := Lib.hid (show Fr Nil w w8 from by rw [← hw8]; exact HF7.out.alloc _)
      have HW8 := Lib.hid (show _ ∧ _ from ⟨hw8, hdb⟩)
      have HB8 := Lib.hid hb8
      clear hw8 hdb hb8 HF7
      go_wp2_with fail
      rw [HW8.out.1]
      go_ret
      exact ⟨rfl, HF8.out⟩
end Go.Proofs.YtcekbhhpcmhicaaGreatDoor
