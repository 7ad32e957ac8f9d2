/- Which version: the count's bits of a mode, willFit, chooseVersion, recommendVersion. -/
import Derived.Test.YtcekbhhpcmhicaaGreatDoorB05
import Derived.Test.YtcekbhhpcmhicaaGreatDoorB06
set_option linter.unusedSimpArgs false
set_option linter.unusedVariables false
namespace Go.Proofs.YtcekbhhpcmhicaaGreatDoor
open Go Go.RowKit Go.Deep
set_option maxRecDepth 100000
/-- the bits that say the length of a segment: modes numeric 1, alphanumeric 2, bytes 4 -/
def ccRow : Nat → Nat × Nat × Nat
  | 1 => (10, 12, 14)
  | 2 => (9, 11, 13)
  | _ => (8, 16, 16)
def cc (m v : Nat) : Nat := if v ≤ 9 then (ccRow m).1 else if v ≤ 26 then (ccRow m).2.1 else (ccRow m).2.2
def Mode3 (m : Nat) : Prop := m = 1 ∨ m = 2 ∨ m = 4
theorem ccTable_calls (m : Nat) (hm : Mode3 m) (w : World) :
    Calls Tryz.prog 152 #[i64 m] w fun e w' => e = .returned (sl w.heap.size 3) ∧ w.alloc (.cells #[i64 (ccRow m).1, i64 (ccRow m).2.1, i64 (ccRow m).2.2] 3) = w' := by
  rcases hm with rfl | rfl | rfl
  all_goals
    go_enter Tryz.func152, Tryz.ntmps152
    go_wp2
    go_ret
    exact ⟨rfl, rfl⟩
theorem charCount_calls {w : World} {lo hi p v : Nat} (h : VerAt w lo hi p v) (m : Nat) (hm : Mode3 m) :
    Calls Tryz.prog 110 #[i64 m, .pointer (some ⟨p, 0, none⟩)] w fun e w' => e = .returned (i64 (cc m v)) ∧ Fr Nil w w' := by
  have HT := Lib.hid (fun W => ccTable_calls m hm W)
  have HV := Lib.hid (verNumber_calls h)
  have hf0 : ∀ o, Fr Nil w (w.alloc o) := fun o => (Fr.refl _ _).alloc _
  generalize hA : (ccRow m).1 = A at *
  generalize hB : (ccRow m).2.1 = B at *
  generalize hC : (ccRow m).2.2 = C at *
  have HC : Hid (cc m v = if v ≤ 9 then A else if v ≤ 26 then B else C) := by unfold cc; rw [hA, hB, hC]; exact rfl
  clear hA hB hC
  by_cases h9 : v ≤ 9
  · have HE : Hid (cc m v = A) := Lib.hid (by rw [HC.out, if_pos h9])
    clear HC
    go_enter Tryz.func110, Tryz.ntmps110
    go_wp2_with (first
      | (go_at_call 18; refine HV.out.mono ?_; rintro e w1 ⟨rfl, rfl⟩)
      | (go_at_call 152; refine (HT.out _).mono ?_; rintro e w1 ⟨rfl, rfl⟩))
    go_ret
    exact ⟨by rw [HE.out]; rfl, hf0 _⟩
  · by_cases h26 : v ≤ 26
    · have HE : Hid (cc m v = B) := Lib.hid (by rw [HC.out, if_neg h9, if_pos h26])
      clear HC
      go_enter Tryz.func110, Tryz.ntmps110
      go_wp2_with (first
        | (go_at_call 18; refine HV.out.mono ?_; rintro e w1 ⟨rfl, rfl⟩)
        | (go_at_call 152; refine (HT.out _).mono ?_; rintro e w1 ⟨rfl, rfl⟩))
      go_ret
      exact ⟨by rw [HE.out]; rfl, hf0 _⟩
    · have HE : Hid (cc m v = C) := Lib.hid (by rw [HC.out, if_neg h9, if_neg h26])
      clear HC
      go_enter Tryz.func110, Tryz.ntmps110
      go_wp2_with (first
        | (go_at_call 18; refine HV.out.mono ?_; rintro e w1 ⟨rfl, rfl⟩)
        | (go_at_call 152; refine (HT.out _).mono ?_; rintro e w1 ⟨rfl, rfl⟩))
      go_ret
      exact ⟨by rw [HE.out]; rfl, hf0 _⟩
/-- how many words of data a version holds -/
def ecTot (v l : Nat) : Nat := ecOf v l * cntBl (blOf v l)
def dataW (v l : Nat) : Nat := tot v - ecTot v l
theorem ver_tot {v : Nat} (h1 : 1 ≤ v) (h2 : v ≤ 40) {l : Nat} (hl : l < 4) : ecTot v l < tot v ∧ tot v ≤ 4000 := by
  have h := all40 (p := fun v => (List.range 4).all fun l => decide (ecTot v l < tot v) && decide (tot v ≤ 4000)) (by decide +kernel) h1 h2
  have hall := List.all_eq_true.1 h l (List.mem_range.2 hl)
  simpa using hall
def Fits (n v l : Nat) : Prop := (n + 7) / 8 ≤ dataW v l
theorem lvIdx_lt (lv : Nat) : lvIdx lv < 4 := by unfold lvIdx; split <;> omega
set_option maxHeartbeats 800000 in
theorem willFit_calls {w : World} {lo hi p v : Nat} (h : VerAt w lo hi p v) (n lv : Nat) (hn : n ≤ 1000000) (hlv : lv < 4) (r : Bool) (hr : r = decide ((n + 7) / 8 ≤ dataW v (lvIdx lv))) :
    Calls Tryz.prog 52 #[i64 n, .pointer (some ⟨p, 0, none⟩), i64 lv] w fun e w' => e = .returned (.bool r) ∧ Fr Nil w w' := by
  have HT := Lib.hid (verTotal_calls h)
  have HG := Lib.hid (getEC_calls h lv hlv)
  obtain ⟨hlt, hmax⟩ := ver_tot h.v1 h.v2 (lvIdx_lt lv)
  have HD : Hid (r = decide ((((n : Int) + 7) / 8) ≤ (tot v : Int) - (ecTot v (lvIdx lv) : Nat))) := by
    refine Lib.hid ?_
    rw [hr, decide_eq_decide]
    unfold dataW
    omega
  have HE : ∀ g o, Hid (ECAt w lo hi g o v (lvIdx lv) → Calls Tryz.prog 59 #[.pointer (some ⟨g, o, none⟩)] w fun e w' => e = .returned (i64 (ecTot v (lvIdx lv))) ∧ Fr Nil w w') := fun g o => Lib.hid (fun he => totalEC_calls he)
  clear hr
  generalize tot v = T at *
  generalize ecTot v (lvIdx lv) = E at *
  go_enter Tryz.func52, Tryz.ntmps52
  go_wp2_with fail
  refine HT.out.mono ?_
  rintro e w1 ⟨rfl, rfl⟩
  go_wp2_with fail
  refine HG.out.mono ?_
  rintro e w1 ⟨g, o, rfl, he, rfl⟩
  go_wp2_with fail
  refine ((HE g o).out he).mono ?_
  rintro e w1 ⟨rfl, hf⟩
  go_wp2
  go_ret
  exact ⟨by rw [HD.out]; rfl, hf⟩
theorem bitsNeeded_calls {w : World} {lo hi p v pa ga na pb gb nb : Nat} {xs ys : List Bool} (h : VerAt w lo hi p v) (ha : BA w pa ga na xs) (hb : BA w pb gb nb ys) (m : Nat) (hm : Mode3 m) :
    Calls Tryz.prog 51 #[i64 m, .pointer (some ⟨pa, 0, none⟩), .pointer (some ⟨pb, 0, none⟩), .pointer (some ⟨p, 0, none⟩)] w fun e w' => e = .returned (i64 (xs.length + cc m v + ys.length)) ∧ Fr Nil w w' := by
  have HA := Lib.hid (size_calls ha)
  have HC := Lib.hid (charCount_calls h m hm)
  have HB := fun (w' : World) (hf : Fr Nil w w') => Lib.hid (size_calls (hb.fr hf (fun e => e) (fun e => e)))
  have hcc : cc m v ≤ 16 := by unfold cc; rcases hm with rfl | rfl | rfl <;> simp only [ccRow] <;> split <;> (try split) <;> omega
  have l1 := ha.fit
  have l2 := ha.lim
  have l3 := hb.fit
  have l4 := hb.lim
  generalize cc m v = c at *
  go_enter Tryz.func51, Tryz.ntmps51
  go_wp2_with fail
  refine HA.out.mono ?_
  rintro e w1 ⟨rfl, rfl⟩
  go_wp2_with fail
  refine HC.out.mono ?_
  rintro e w1 ⟨rfl, hf⟩
  go_wp2_with fail
  refine (HB w1 hf).out.mono ?_
  rintro e w2 ⟨rfl, rfl⟩
  go_wp2
  go_ret
  exact ⟨by simp, hf⟩
set_option maxHeartbeats 800000 in
theorem chooseVersion_calls (w : World) (n lv v : Nat) (hn : n ≤ 1000000) (hlv : lv < 4) (h1 : 1 ≤ v) (h2 : v ≤ 40) (hfit : Fits n v (lvIdx lv)) (hno : ∀ u, 1 ≤ u → u < v → ¬ Fits n u (lvIdx lv)) :
    Calls Tryz.prog 111 #[i64 n, i64 lv] w fun e w' => ∃ p, e = .returned (.tuple #[.pointer (some ⟨p, 0, none⟩), .nilIface]) ∧ VerAt w' w.heap.size w'.heap.size p v ∧ Fr Nil w w' := by
  have HF := Lib.hid hfit
  have HN := Lib.hid hno
  clear hfit hno
  go_enter Tryz.func111, Tryz.ntmps111
  go_wp2_with fail
  go_loopg [6] (v - 1) (fun r s6 wr => ∃ u : Nat, u + r = v ∧ 1 ≤ u ∧ s6 = .int .i64 u ∧ Fr Nil w wr)
  case atStart => exact ⟨1, by omega, by omega, rfl, Fr.refl _ _⟩
  case round =>
    obtain ⟨u, hu, hu1, rfl, hfr⟩ := hrel
    have HU := Lib.hid hu
    have hu40 : u ≤ 40 := by omega
    clear hu
    go_wp2_with fail
    refine (getVersion_calls u hu1 hu40 wr).mono ?_
    rintro e w1 ⟨p, rfl, hv, hf1⟩
    go_wp2_with fail
    cases gk with
    | zero =>
      have hE : Hid (true = decide ((n + 7) / 8 ≤ dataW u (lvIdx lv))) := Lib.hid (by
        have e : u = v := by have := HU.out; omega
        rw [e]; exact (decide_eq_true (p := (n + 7) / 8 ≤ dataW v (lvIdx lv)) HF.out).symm)
      refine (willFit_calls hv n lv hn hlv true hE.out).mono ?_
      rintro e w2 ⟨rfl, hf2⟩
      go_wp2
      go_ret2
      have e : u = v := by have := HU.out; omega
      have hs1 := hfr.size
      have hs2 := hf2.size
      rw [e] at hv
      refine ⟨p, rfl, ?_, (hfr.trans hf1).trans hf2⟩
      have hv2 := hv.fr hf2 (fun _ _ _ e => e)
      obtain ⟨⟨cb, eb, a1, a2, a3, a4, a5, a6, bb, a7, a8⟩, b1, b2, b3, b4⟩ := hv2
      exact ⟨⟨cb, eb, a1, a2, by omega, by omega, by omega, by omega, bb, a7, fun l hl => ⟨(a8 l hl).1, by have := (a8 l hl).2; omega, by have := (a8 l hl).2; omega⟩⟩, by omega, by omega, b3, b4⟩
    | succ r =>
      have hE : Hid (false = decide ((n + 7) / 8 ≤ dataW u (lvIdx lv))) := Lib.hid (decide_eq_false (p := (n + 7) / 8 ≤ dataW u (lvIdx lv)) (HN.out u hu1 (by have := HU.out; omega))).symm
      refine (willFit_calls hv n lv hn hlv false hE.out).mono ?_
      rintro e w2 ⟨rfl, hf2⟩
      go_wp2
      go_roundg r
      case measure => omega
      case rel => exact ⟨u + 1, by have := HU.out; omega, by omega, by go_num, (hfr.trans hf1).trans hf2⟩
set_option maxHeartbeats 800000 in
theorem recommend_calls {w : World} {pa ga na pb gb nb : Nat} {xs ys : List Bool} (ha : BA w pa ga na xs) (hb : BA w pb gb nb ys) (m lv v1 v2 : Nat) (hm : Mode3 m) (hlv : lv < 4)
    (hn : xs.length + 16 + ys.length ≤ 1000000) (a1 : 1 ≤ v1) (a2 : v1 ≤ 40) (b1 : 1 ≤ v2) (b2 : v2 ≤ 40)
    (f1 : Fits (xs.length + cc m 1 + ys.length) v1 (lvIdx lv)) (g1 : ∀ u, 1 ≤ u → u < v1 → ¬ Fits (xs.length + cc m 1 + ys.length) u (lvIdx lv))
    (f2 : Fits (xs.length + cc m v1 + ys.length) v2 (lvIdx lv)) (g2 : ∀ u, 1 ≤ u → u < v2 → ¬ Fits (xs.length + cc m v1 + ys.length) u (lvIdx lv)) :
    Calls Tryz.prog 53 #[i64 lv, i64 m, .pointer (some ⟨pa, 0, none⟩), .pointer (some ⟨pb, 0, none⟩)] w fun e w' => ∃ p lo, e = .returned (.tuple #[.pointer (some ⟨p, 0, none⟩), .nilIface]) ∧ w.heap.size ≤ lo ∧ VerAt w' lo w'.heap.size p v2 ∧ Fr Nil w w' := by
  have hcc : ∀ u, cc m u ≤ 16 := by intro u; unfold cc; rcases hm with rfl | rfl | rfl <;> simp only [ccRow] <;> split <;> (try split) <;> omega
  have c1 := hcc 1
  have c2 := hcc v1
  have H1 := Lib.hid (fun W => chooseVersion_calls W _ lv v1 (by omega) hlv a1 a2 f1 g1)
  have H2 := Lib.hid (fun W => chooseVersion_calls W _ lv v2 (by omega) hlv b1 b2 f2 g2)
  clear f1 g1 f2 g2
  go_enter Tryz.func53, Tryz.ntmps53
  go_wp2_with fail
  refine (getVersion_calls 1 (by omega) (by omega) w).mono ?_
  rintro e w1 ⟨p1, rfl, hv1, hf1⟩
  go_wp2_with fail
  refine (bitsNeeded_calls hv1 (ha.fr hf1 (fun e => e) (fun e => e)) (hb.fr hf1 (fun e => e) (fun e => e)) m hm).mono ?_
  rintro e w2 ⟨rfl, hf2⟩
  have hF2 := hf1.trans hf2
  clear hf1 hf2 hv1
  go_wp2_with fail
  refine (H1.out _).mono ?_
  rintro e w3 ⟨p3, rfl, hv3, hf3⟩
  have hF3 := hF2.trans hf3
  clear hf3
  go_wp2_with fail
  refine (bitsNeeded_calls hv3 (ha.fr hF3 (fun e => e) (fun e => e)) (hb.fr hF3 (fun e => e) (fun e => e)) m hm).mono ?_
  rintro e w4 ⟨rfl, hf4⟩
  have hF4 := hF3.trans hf4
  clear hf4 hv3
  go_wp2_with fail
  refine (H2.out _).mono ?_
  rintro e w5 ⟨p5, rfl, hv5, hf5⟩
  have hF5 := hF4.trans hf5
  go_wp2
  go_ret2
  exact ⟨p5, _, rfl, hF4.size, hv5, hF5⟩
end Go.Proofs.YtcekbhhpcmhicaaGreatDoor
/- The encoder: codes of characters, the choice of a mode, the bits of a text. -/
namespace Go.Proofs.YtcekbhhpcmhicaaGreatDoor
open Go Go.RowKit Go.Deep
set_option maxRecDepth 100000
def alTbl : List Int :=
  [-1, -1, -1, -1, -1, -1, -1, -1, -1, -1, -1, -1, -1, -1, -1, -1,
   -1, -1, -1, -1, -1, -1, -1, -1, -1, -1, -1, -1, -1, -1, -1, -1,
   36, -1, -1, -1, 37, 38, -1, -1, -1, -1, 39, 40, -1, 41, 42, 43,
   0, 1, 2, 3, 4, 5, 6, 7, 8, 9, 44, -1, -1, -1, -1, -1,
   -1, 10, 11, 12, 13, 14, 15, 16, 17, 18, 19, 20, 21, 22, 23, 24,
   25, 26, 27, 28, 29, 30, 31, 32, 33, 34, 35, -1, -1, -1, -1, -1]
def alCode (c : Nat) : Int := alTbl.getD c (-1)
theorem alTable_calls (w : World) : Calls Tryz.prog 145 #[] w fun e w' => e = .returned (.slice (some ⟨w.heap.size, 0, none⟩) 96 96) ∧ w.alloc (.cells (alTbl.map (Value.int .i64)).toArray 3) = w' :=
  calls_by_run (args := []) Tryz.func145 rfl 2 (by kernel_rfl) 20 (.slice (some ⟨w.heap.size, 0, none⟩) 96 96) (w.alloc (.cells (alTbl.map (Value.int .i64)).toArray 3)) (by kernel_rfl) ⟨rfl, rfl⟩
theorem alCode_big (c : Nat) (h : 96 ≤ c) : alCode c = -1 := by
  unfold alCode
  rw [List.getD_eq_getElem?_getD, List.getElem?_eq_none (by simp [alTbl]; omega)]; rfl
theorem alCode_cell (c : Nat) (h : c < 96) : (alTbl.map (Value.int .i64)).toArray[c]? = some (.int .i64 (alCode c)) := by
  have hl : c < alTbl.length := by simp [alTbl]; omega
  unfold alCode
  rw [List.getElem?_toArray, List.getElem?_map, List.getD_eq_getElem?_getD, List.getElem?_eq_getElem hl]; rfl
set_option maxHeartbeats 400000 in
theorem alCode_calls (c : Nat) (hc : c < 256) (w : World) : Calls Tryz.prog 97 #[.int .u8 (c : Int)] w fun e w' => e = .returned (.int .i64 (alCode c)) ∧ Fr Nil w w' := by
  by_cases h : c < 96
  · have hz : (c : Int) < 96 := by omega
    have hcell : ∀ W : World, (W.alloc (.cells (alTbl.map (Value.int .i64)).toArray 3)).cell? ⟨W.heap.size, c, none⟩ = some (.int .i64 (alCode c)) := fun W => by rw [(Blk.new W 3 _).cell]; exact alCode_cell c h
    have hT := fun W => Lib.hid (alTable_calls W)
    generalize (alTbl.map (Value.int .i64)).toArray = T at *
    generalize alCode c = k at *
    go_enter Tryz.func97, Tryz.ntmps97
    go_wp2_with fail
    refine (hT _).out.mono ?_
    rintro e w1 ⟨rfl, rfl⟩
    go_wp2_with fail
    refine (hT _).out.mono ?_
    rintro e w1 ⟨rfl, rfl⟩
    have h2 := hcell (w.alloc (.cells T 3))
    simp only [nblk_alloc] at h2
    go_wp2
    go_ret
    exact ⟨rfl, ((Fr.refl _ _).alloc _).alloc _⟩
  · have hz : ¬ (c : Int) < 96 := by omega
    have hE := Lib.hid (alCode_big c (by omega))
    have hT := fun W => Lib.hid (alTable_calls W)
    generalize (alTbl.map (Value.int .i64)).toArray = T at *
    generalize alCode c = k at *
    go_enter Tryz.func97, Tryz.ntmps97
    go_wp2_with fail
    refine (hT _).out.mono ?_
    rintro e w1 ⟨rfl, rfl⟩
    go_wp2
    go_ret
    exact ⟨by rw [hE.out]; rfl, (Fr.refl _ _).alloc _⟩
/-- the bytes of a text as numbers -/
def nums (s : ByteArray) : List Nat := s.data.toList.map UInt8.toNat
theorem nums_length (s : ByteArray) : (nums s).length = s.size := by simp [nums]
theorem nums_get (s : ByteArray) (i : Nat) (h : i < s.size) : (nums s)[i]? = some s[i].toNat := by
  have : s.data.toList[i]? = some s[i] := by
    rw [List.getElem?_eq_getElem (by simpa using h)]; rfl
  simp [nums, this]
theorem nums_drop (s : ByteArray) (i : Nat) (h : i < s.size) : (nums s).drop i = s[i].toNat :: (nums s).drop (i + 1) := by
  have hl : i < (nums s).length := by rw [nums_length]; exact h
  rw [List.drop_eq_getElem_cons hl]
  congr 1
  have := nums_get s i h
  rw [List.getElem?_eq_getElem hl] at this
  exact Option.some.inj this
def isDig (c : Nat) : Bool := decide (48 ≤ c) && decide (c ≤ 57)
/-- the mode that a text is written in -/
def modeOf (l : List Nat) : Nat := if l.all fun c => isDig c || decide (alCode c ≠ -1) then (if l.any fun c => !isDig c then 2 else if l.isEmpty then 4 else 1) else 4
set_option maxHeartbeats 1600000 in
theorem chooseMode_calls (s : ByteArray) (hs : s.size ≤ 100000) (w : World) : Calls Tryz.prog 43 #[.string s] w fun e w' => e = .returned (i64 (modeOf (nums s))) ∧ Fr Nil w w' := by
  go_enter Tryz.func43, Tryz.ntmps43
  go_wp2_with fail
  go_loopg [3, 4, 5, 6] s.size (fun r s3 s4 s5 s6 wr => ∃ (i : Nat) (a b : Bool), Hid (i + r = s.size ∧ (∀ c ∈ (nums s).take i, (isDig c || decide (alCode c ≠ -1)) = true) ∧ a = ((nums s).take i).any isDig ∧ b = ((nums s).take i).any fun c => !isDig c) ∧ s5 = .int .i64 i ∧ s3 = .bool a ∧ s4 = .bool b ∧ Fr Nil w wr)
  case atStart => exact ⟨0, false, false, Lib.hid ⟨by omega, by simp, by simp, by simp⟩, rfl, rfl, rfl, Fr.refl _ _⟩
  case round =>
    obtain ⟨i, a, b, HI, rfl, rfl, rfl, hfr⟩ := hrel
    cases gk with
    | zero =>
      have hi : ¬ (i : Int) < s.size := by have := HI.out; omega
      have HF : Hid (modeOf (nums s) = if b then 2 else if a then 1 else 4) := by
        obtain ⟨h1, h2, h3, h4⟩ := HI.out
        have ht : (nums s).take i = nums s := List.take_of_length_le (by rw [nums_length]; omega)
        rw [ht] at h2 h3 h4
        refine Lib.hid ?_
        unfold modeOf
        rw [if_pos (List.all_eq_true.2 h2), ← h4]
        cases b
        · rw [if_neg (by simp)]
          cases hn : nums s with
          | nil => rw [hn] at h3; simp at h3; subst h3; simp
          | cons x r =>
            have hx : isDig x = true := by
              rw [hn] at h4
              have := (Eq.symm h4); simp at this; exact this.1
            rw [hn] at h3; rw [List.any_cons, hx] at h3; simp at h3; subst h3; simp
        · simp
      cases b
      · cases a
        · go_wp2
          go_ret
          exact ⟨by rw [HF.out]; rfl, hfr⟩
        · go_wp2
          go_ret
          exact ⟨by rw [HF.out]; rfl, hfr⟩
      · go_wp2
        go_ret
        exact ⟨by rw [HF.out]; rfl, hfr⟩
    | succ r =>
      have hi : i < s.size := by have := HI.out; omega
      have hget := nums_get s i hi
      have htk : (nums s).take (i + 1) = (nums s).take i ++ [s[i].toNat] := by
        have hl : i < (nums s).length := by rw [nums_length]; exact hi
        rw [List.take_succ_eq_append_getElem hl]
        congr 2
        rw [List.getElem?_eq_getElem hl] at hget
        exact Option.some.inj hget
      have HTK := Lib.hid htk
      clear htk hget
      have hcb : s[i].toNat < 256 := s[i].toNat_lt
      by_cases hd : isDig s[i].toNat = true
      · have h48 : (48 : Int) ≤ s[i].toNat := by unfold isDig at hd; simp at hd; omega
        have h57 : (s[i].toNat : Int) ≤ 57 := by unfold isDig at hd; simp at hd; omega
        have HD := Lib.hid hd
        clear hd
        go_wp2
        go_roundg r
        case measure => omega
        case rel =>
          refine ⟨i + 1, true, b, Lib.hid ⟨by have := HI.out; omega, ?_, ?_, ?_⟩, by go_num, rfl, rfl, hfr⟩
          · rw [HTK.out]; intro c hc
            rcases List.mem_append.1 hc with hc | hc
            · exact HI.out.2.1 c hc
            · simp at hc; subst hc; rw [HD.out]; rfl
          · rw [HTK.out, List.any_append]; simp [HD.out]
          · rw [HTK.out, List.any_append, HI.out.2.2.2]; simp [HD.out]
      · have HD : Hid (isDig s[i].toNat = false) := Lib.hid (by simpa using hd)
        have hcase : (s[i].toNat : Int) < 48 ∨ (48 ≤ (s[i].toNat : Int) ∧ 57 < (s[i].toNat : Int)) := by
          have := HD.out; unfold isDig at this; simp at this; omega
        clear hd
        by_cases ha : alCode s[i].toNat = -1
        · have HF : Hid (modeOf (nums s) = 4) := by
            refine Lib.hid ?_
            unfold modeOf
            rw [if_neg]
            intro hall
            have := List.all_eq_true.1 hall s[i].toNat (List.mem_of_getElem? (nums_get s i hi))
            rw [HD.out, ha] at this
            simp at this
          have hcall := alCode_calls s[i].toNat hcb
          rw [ha] at hcall
          have HC := fun W => Lib.hid (hcall W)
          clear hcall ha
          rcases hcase with h1 | ⟨h1, h2⟩
          all_goals
            go_wp2_with fail
            refine (HC _).out.mono ?_
            rintro e w1 ⟨rfl, hf1⟩
            go_wp2
            go_ret
            exact ⟨by rw [HF.out]; rfl, hfr.trans hf1⟩
        · have hb : (alCode s[i].toNat != -1) = true := by simpa using ha
          have HA := Lib.hid ha
          clear ha
          have HC := fun W => Lib.hid (alCode_calls s[i].toNat hcb W)
          rcases hcase with h1 | ⟨h1, h2⟩
          all_goals
            go_wp2_with fail
            refine (HC _).out.mono ?_
            rintro e w1 ⟨rfl, hf1⟩
            go_wp2
            go_roundg r
            case measure => omega
            case rel =>
              refine ⟨i + 1, a, true, Lib.hid ⟨by have := HI.out; omega, ?_, ?_, ?_⟩, by go_num, rfl, rfl, hfr.trans hf1⟩
              · rw [HTK.out]; intro c hc
                rcases List.mem_append.1 hc with hc | hc
                · exact HI.out.2.1 c hc
                · simp at hc; subst hc; simp [HA.out]
              · rw [HTK.out, List.any_append, HI.out.2.2.1]; simp [HD.out]
              · rw [HTK.out, List.any_append]; simp [HD.out]
end Go.Proofs.YtcekbhhpcmhicaaGreatDoor
