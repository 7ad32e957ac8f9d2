/- The encoder: the bits of a text in each mode, the count, the end and the padding. -/
import Derived.Lib.ConvBytes
import Derived.Test.YtcekbhhpcmhicaaGreatDoorB07
set_option linter.unusedSimpArgs false
set_option linter.unusedVariables false
namespace Go.Proofs.YtcekbhhpcmhicaaGreatDoor
open Go Go.RowKit Go.Deep
set_option maxRecDepth 100000
theorem strBytes_ex {P : Program} (w : World) (src dst e : TypeId) (s : ByteArray) {u : TypeDesc} (hs : P.underlying src = some u) (hd : P.underlying dst = some (.slice e)) (he : P.underlying e = some (.int .u8)) :
    ∃ C w2, (convert src dst (.string s)).run P w = .ok (.slice (some ⟨w.heap.size, 0, none⟩) s.size C) w2 ∧ (∀ j (hj : j < s.size), w2.cell? ⟨w.heap.size, j, none⟩ = some (.int .u8 (s[j].toNat : Nat))) ∧
      Fr Nil w w2 ∧ w2.heap.size = w.heap.size + 1 := by
  refine ⟨_, _, Lib.run_convert_string_bytes w src dst e s hs hd he, fun j hj => ?_, ⟨rfl, rfl, rfl, by rw [Lib.bytesWorld_size]; omega, fun k hk _ => Lib.bytesWorld_at_old w e s k hk⟩, Lib.bytesWorld_size w e s⟩
  rw [Lib.bytesWorld_cell w e s j hj]
  have : s.data.toList[j]? = some s[j] := by rw [List.getElem?_eq_getElem (by simpa using hj)]; rfl
  rw [List.getD_eq_getElem?_getD, this]; rfl
/-- digits, three, two or one at a time -/
def encNum : List Nat → List Bool
  | a :: b :: c :: r => msb ((a - 48) * 100 + (b - 48) * 10 + (c - 48)) 10 ++ encNum r
  | [a, b] => msb ((a - 48) * 10 + (b - 48)) 7
  | [a] => msb (a - 48) 4
  | [] => []
def encAl : List Nat → List Bool
  | a :: b :: r => msb ((alCode a).toNat * 45 + (alCode b).toNat) 11 ++ encAl r
  | [a] => msb (alCode a).toNat 6
  | [] => []
def encBy (l : List Nat) : List Bool := l.flatMap fun a => msb a 8
theorem encNum_len : ∀ l : List Nat, (encNum l).length ≤ 4 * l.length
  | a :: b :: c :: r => by have := encNum_len r; simp only [encNum, List.length_append, msb_length, List.length_cons]; omega
  | [a, b] => by simp [encNum, msb_length]
  | [a] => by simp [encNum, msb_length]
  | [] => by simp [encNum]
theorem encAl_len : ∀ l : List Nat, (encAl l).length ≤ 6 * l.length
  | a :: b :: r => by have := encAl_len r; simp only [encAl, List.length_append, msb_length, List.length_cons]; omega
  | [a] => by simp [encAl, msb_length]
  | [] => by simp [encAl]
theorem encBy_len : ∀ l : List Nat, (encBy l).length = 8 * l.length
  | a :: r => by have := encBy_len r; simp only [encBy, List.flatMap_cons, List.length_append, msb_length, List.length_cons] at this ⊢; omega
  | [] => by simp [encBy]
theorem Put.refl {w : World} {p g n : Nat} {bs : List Bool} (h : BA w p g n bs) : Put w p g bs w := ⟨g, n, h, Fr.refl _ _, .inl rfl⟩
theorem Put.nil {w w' : World} {p g n : Nat} {bs : List Bool} (h : BA w p g n bs) (hf : Fr Nil w w') : Put w p g bs w' := ⟨g, n, h.fr hf (fun e => e) (fun e => e), hf.any _, .inl rfl⟩
/-- one more append -/
theorem Put.more {w w1 : World} {p g : Nat} {bs cs : List Bool} (h : Put w p g bs w1) {f : FuncId} {args : Array Value} {r : Value}
    (k : ∀ g' n', BA w1 p g' n' bs → Calls Tryz.prog f args w1 fun e w' => e = .returned r ∧ Put w1 p g' cs w') : Calls Tryz.prog f args w1 fun e w' => e = .returned r ∧ Put w p g cs w' := by
  have h' := h
  obtain ⟨g', n', hb, hf, hg⟩ := h'
  refine (k g' n' hb).mono ?_
  rintro e w' ⟨rfl, hp⟩
  refine ⟨rfl, h.trans fun g2 n2 hb2 => ?_⟩
  have : g2 = g' := by
    have a := hb2.c0; have b := hb.c0; rw [a] at b; simp at b; exact b.1
  rw [this]; exact hp
theorem Put.len {w w1 : World} {p g : Nat} {bs : List Bool} (h : Put w p g bs w1) : bs.length ≤ 1920000 := by
  obtain ⟨g', n', hb, _, _⟩ := h
  have := hb.fit; have := hb.lim; omega
theorem Put.appendBits {w w1 : World} {p g : Nat} {bs : List Bool} (h : Put w p g bs w1) (hM : bs.length ≤ 1800000) (v N : Nat) (hv : v < 4294967296) (hN : N ≤ 32) :
    Calls Tryz.prog 101 #[.pointer (some ⟨p, 0, none⟩), .int .i64 v, .int .i64 N] w1 fun e w' => e = .returned .nilIface ∧ Put w p g (bs ++ msb v N) w' :=
  h.more fun _ _ hb => appendBits_calls hb hM v N hv hN
theorem Put.appendBit {w w1 : World} {p g : Nat} {bs : List Bool} (h : Put w p g bs w1) (hM : bs.length ≤ 1800000) (b : Bool) :
    Calls Tryz.prog 113 #[.pointer (some ⟨p, 0, none⟩), .bool b] w1 fun e w' => e = .returned (.tuple #[]) ∧ Put w p g (bs ++ [b]) w' :=
  h.more fun _ _ hb => appendBit_calls hb hM b
theorem modeBits_calls (m : Nat) (w : World) : Calls Tryz.prog 23 #[i64 m] w fun e w' => e = .returned (i64 m) ∧ w = w' := by
  go_enter Tryz.func23, Tryz.ntmps23
  go_wp2
  go_ret
  exact ⟨rfl, rfl⟩
theorem levelBits_calls (m : Nat) (w : World) : Calls Tryz.prog 21 #[i64 m] w fun e w' => e = .returned (i64 m) ∧ w = w' := by
  go_enter Tryz.func21, Tryz.ntmps21
  go_wp2
  go_ret
  exact ⟨rfl, rfl⟩
theorem modeInfo_calls {w : World} {p g n : Nat} {bs : List Bool} (h : BA w p g n bs) (hM : bs.length ≤ 1800000) (m : Nat) (hm : m < 16) :
    Calls Tryz.prog 46 #[i64 m, .pointer (some ⟨p, 0, none⟩)] w fun e w' => e = .returned (.tuple #[]) ∧ Put w p g (bs ++ msb m 4) w' := by
  have HA := Lib.hid (appendBits_calls h hM m 4 (by omega) (by omega))
  go_enter Tryz.func46, Tryz.ntmps46
  go_wp2_with (first
    | (go_at_call 23; refine (modeBits_calls m _).mono ?_; rintro e w1 ⟨rfl, rfl⟩)
    | (go_at_call 101; refine HA.out.mono ?_; rintro e w1 ⟨rfl, hp⟩))
  go_end0
  exact ⟨rfl, hp⟩
set_option maxHeartbeats 1600000 in
theorem append8_calls {w : World} {p g n : Nat} {bs : List Bool} (h : BA w p g n bs) (s : ByteArray) (hs : s.size ≤ 100000) (hM : bs.length ≤ 100000) :
    Calls Tryz.prog 104 #[.string s, .pointer (some ⟨p, 0, none⟩)] w fun e w' => e = .returned .nilIface ∧ Put w p g (bs ++ encBy (nums s)) w' := by
  obtain ⟨C, w2, hcv, hcell, hf2, hsz2⟩ := strBytes_ex (P := Tryz.prog) w 9 30 5 s Tryz.underlying9 Tryz.underlying30 Tryz.underlying5
  have hp := h.st.lt
  have hg := h.ws.lt
  have hP0 : Put w p g (bs ++ []) w2 := by rw [List.append_nil]; exact Put.nil h hf2
  have HC := Lib.hid hcell
  clear hcell
  go_enter Tryz.func104, Tryz.ntmps104
  go_wp2_with fail
  clear hcv
  go_loopg [7, 12] s.size (fun r s7 s12 wr => ∃ (i : Nat) (xs : List Bool), Hid (i + r = s.size ∧ xs ++ encBy ((nums s).drop i) = encBy (nums s)) ∧ s12 = .int .i64 i ∧ Put w p g (bs ++ xs) wr ∧ Fr (Two p g) w2 wr)
  case atStart => exact ⟨0, [], Lib.hid ⟨by omega, by simp⟩, rfl, hP0, Fr.refl _ _⟩
  case round =>
    obtain ⟨i, xs, HI, rfl, hP, hfr⟩ := hrel
    cases gk with
    | zero =>
      have hi : ¬ (i : Int) < s.size := by have := HI.out; omega
      have HE : Hid (xs = encBy (nums s)) := Lib.hid (by
        have h1 := HI.out.2
        rw [List.drop_of_length_le (by rw [nums_length]; have := HI.out; omega)] at h1
        simpa [encBy] using h1)
      go_wp2
      go_ret
      exact ⟨rfl, by rw [← HE.out]; exact hP⟩
    | succ r =>
      have hi : i < s.size := by have := HI.out; omega
      have hiz : (i : Int) < s.size := by omega
      have hc := hfr.cell_some (HC.out i hi) (fun e => by rcases e with e | e <;> (have : w.heap.size = _ := e; omega))
      have hx : s[i].toNat < 256 := s[i].toNat_lt
      have hl : (bs ++ xs).length ≤ 1800000 := by
        have h1 := congrArg List.length HI.out.2
        rw [List.length_append, encBy_len, encBy_len, nums_length] at h1
        rw [List.length_append]; omega
      have HA := Lib.hid (hP.appendBits hl s[i].toNat 8 (by omega) (by omega))
      have HE : Hid ((xs ++ msb s[i].toNat 8) ++ encBy ((nums s).drop (i + 1)) = encBy (nums s)) := Lib.hid (by
        have h1 := HI.out.2
        rw [nums_drop s i hi] at h1
        rw [← h1]; simp [encBy])
      have HF : Hid (∀ w', Put wr p g (bs ++ xs ++ msb s[i].toNat 8) w' → True) := Lib.hid fun _ _ => trivial
      obtain ⟨g', n', hb', hf', hg'⟩ := hP
      have HB := Lib.hid (appendBits_calls hb' hl s[i].toNat 8 (by omega) (by omega))
      have HG := Lib.hid hg'
      clear hg' HA HF
      go_wp2_with fail
      refine HB.out.mono ?_
      rintro e w3 ⟨rfl, hput⟩
      go_wp2
      go_roundg r
      case measure => omega
      case rel =>
        have hPr : Put w p g (bs ++ xs) wr := ⟨g', n', hb', hf', HG.out⟩
        refine ⟨i + 1, xs ++ msb s[i].toNat 8, Lib.hid ⟨by have := HI.out; omega, HE.out⟩, by go_num, ?_, ?_⟩
        · rw [← List.append_assoc]
          refine hPr.trans fun g2 n2 hb2 => ?_
          have : g2 = g' := by
            have a := hb2.c0; have b := hb'.c0; rw [a] at b; simp at b; exact b.1
          rw [this]; exact hput
        · obtain ⟨g3, n3, hb3, hf3, hg3⟩ := hput
          refine hfr.trans' hf3 fun k hk e => ?_
          rcases e with e | e
          · exact .inl e
          · rcases HG.out with e2 | e2
            · exact .inr (by rw [e, e2])
            · have hfs := hfr.size
              have : g' < w2.heap.size := by omega
              exfalso
              have hne : g' ≠ w.heap.size := by
                intro e3
                have hx3 := hfr.cell_some (HC.out i hi) (fun e => by rcases e with e | e <;> (have : w.heap.size = _ := e; omega))
                have hb4 := hb'.ws
                obtain ⟨c4, hc4, hs4, hf4⟩ := hb4
                rw [e3] at hc4
                have : wr.cell? ⟨w.heap.size, i, none⟩ = c4[i]? := cell_of_row wr w.heap.size i c4 252 (0, 0) hc4
                rw [hx3] at this
                have hi4 : i < c4.size := by
                  rcases Nat.lt_or_ge i c4.size with hlt | hge
                  · exact hlt
                  · rw [Array.getElem?_eq_none hge] at this; cases this
                rw [hf4 i (by omega)] at this
                simp [rowW] at this
              omega
end Go.Proofs.YtcekbhhpcmhicaaGreatDoor
/- The encoder: digits and alphanumeric texts; the bytes in their mode; the count. -/
namespace Go.Proofs.YtcekbhhpcmhicaaGreatDoor
open Go Go.RowKit Go.Deep
set_option maxRecDepth 100000
theorem dig_split {c : Nat} (h : isDig c = true) : ∃ d, c = 48 + d ∧ d ≤ 9 := by
  unfold isDig at h; simp at h; exact ⟨c - 48, by omega, by omega⟩
theorem all_get {p : Nat → Bool} {s : ByteArray} (h : ∀ c ∈ nums s, p c = true) (i : Nat) (hi : i < s.size) : p s[i].toNat = true := h _ (List.mem_of_getElem? (nums_get s i hi))
set_option maxHeartbeats 3200000 in
theorem numeric_calls {w : World} {p g n : Nat} {bs : List Bool} (h : BA w p g n bs) (s : ByteArray) (hs : s.size ≤ 100000) (hM : bs.length ≤ 100000) (hd : ∀ c ∈ nums s, isDig c = true) :
    Calls Tryz.prog 102 #[.string s, .pointer (some ⟨p, 0, none⟩)] w fun e w' => e = .returned (.tuple #[]) ∧ Put w p g (bs ++ encNum (nums s)) w' := by
  have hP0 : Put w p g (bs ++ []) w := by rw [List.append_nil]; exact Put.refl h
  have HD := Lib.hid hd
  clear hd
  go_enter Tryz.func102, Tryz.ntmps102
  go_wp2_with fail
  go_loopg [5, 6, 7, 8, 9] s.size (fun r s5 s6 s7 s8 s9 wr => ∃ (i : Nat) (xs : List Bool), Hid (i + r = s.size ∧ xs ++ encNum ((nums s).drop i) = encNum (nums s)) ∧ s5 = .int .i64 i ∧ Put w p g (bs ++ xs) wr)
  case atStart => exact ⟨0, [], Lib.hid ⟨by omega, by simp⟩, rfl, hP0⟩
  case round =>
    obtain ⟨i, xs, HI, rfl, hP⟩ := hrel
    clear hP0
    have hl : (bs ++ xs).length ≤ 1800000 := by
      have h1 := congrArg List.length HI.out.2
      have h2 := encNum_len (nums s)
      rw [nums_length] at h2
      rw [List.length_append] at h1
      rw [List.length_append]; omega
    by_cases hi : i < s.size
    · have hiz : (i : Int) < s.size := by omega
      obtain ⟨a, ha, ha9⟩ := dig_split (all_get HD.out i hi)
      by_cases h2 : i + 2 < s.size
      · have h2z : (i : Int) + 2 < s.size := by omega
        have h1z : i + 1 < s.size := by omega
        obtain ⟨b, hb, hb9⟩ := dig_split (all_get HD.out (i + 1) h1z)
        obtain ⟨c, hc, hc9⟩ := dig_split (all_get HD.out (i + 2) h2)
        have HE : Hid ((xs ++ msb (a * 100 + b * 10 + c) 10) ++ encNum ((nums s).drop (i + 3)) = encNum (nums s)) := Lib.hid (by
          have h := HI.out.2
          rw [nums_drop s i hi, nums_drop s (i + 1) h1z, nums_drop s (i + 2) h2, ha, hb, hc] at h
          rw [← h]; simp only [encNum, Nat.add_sub_cancel_left, List.append_assoc])
        have HA := Lib.hid (hP.appendBits hl (a * 100 + b * 10 + c) 10 (by omega) (by omega))
        clear hP
        go_wp2_with fail
        rw [show ((48 + (a : Int) - 48) * 100 + (48 + (b : Int) - 48) * 10 + (48 + (c : Int) - 48)) = ((a * 100 + b * 10 + c : Nat) : Int) from by omega]
        refine HA.out.mono ?_
        rintro e w1 ⟨rfl, hP⟩
        clear ha hb hc
        go_wp2
        go_roundg (s.size - (i + 3))
        case measure => have := HI.out; omega
        case rel => exact ⟨i + 3, _, Lib.hid ⟨by omega, HE.out⟩, by go_num, by rw [← List.append_assoc]; exact hP⟩
      · have h2z : ¬ (i : Int) + 2 < s.size := by omega
        by_cases h1 : i + 1 < s.size
        · have h1z : (i : Int) + 1 < s.size := by omega
          obtain ⟨b, hb, hb9⟩ := dig_split (all_get HD.out (i + 1) h1)
          have HE : Hid (xs ++ msb (a * 10 + b) 7 = encNum (nums s)) := Lib.hid (by
            have h := HI.out.2
            rw [nums_drop s i hi, nums_drop s (i + 1) h1, List.drop_of_length_le (by rw [nums_length]; omega), ha, hb] at h
            rw [← h]; simp only [encNum, Nat.add_sub_cancel_left])
          have HA := Lib.hid (hP.appendBits hl (a * 10 + b) 7 (by omega) (by omega))
          clear hP
          go_wp2_with fail
          rw [show ((48 + (a : Int) - 48) * 10 + (48 + (b : Int) - 48)) = ((a * 10 + b : Nat) : Int) from by omega]
          refine HA.out.mono ?_
          rintro e w1 ⟨rfl, hP⟩
          clear ha hb
          go_wp2
          go_roundg 0
          case measure => have := HI.out; omega
          case rel => exact ⟨i + 2, _, Lib.hid ⟨by omega, by rw [List.drop_of_length_le (by rw [nums_length]; omega)]; simpa [encNum] using HE.out⟩, by go_num, by rw [← List.append_assoc]; exact hP⟩
        · have h1z : ¬ (i : Int) + 1 < s.size := by omega
          have HE : Hid (xs ++ msb a 4 = encNum (nums s)) := Lib.hid (by
            have h := HI.out.2
            rw [nums_drop s i hi, List.drop_of_length_le (by rw [nums_length]; omega), ha] at h
            rw [← h]; simp only [encNum, Nat.add_sub_cancel_left])
          have HA := Lib.hid (hP.appendBits hl a 4 (by omega) (by omega))
          clear hP
          go_wp2_with fail
          rw [show (48 + (a : Int) - 48) = (a : Int) from by omega]
          refine HA.out.mono ?_
          rintro e w1 ⟨rfl, hP⟩
          clear ha
          go_wp2
          go_roundg 0
          case measure => have := HI.out; omega
          case rel => exact ⟨i + 1, _, Lib.hid ⟨by omega, by rw [List.drop_of_length_le (by rw [nums_length]; omega)]; simpa [encNum] using HE.out⟩, by go_num, by rw [← List.append_assoc]; exact hP⟩
    · have hiz : ¬ (i : Int) < s.size := by omega
      have HE : Hid (xs = encNum (nums s)) := Lib.hid (by
        have h1 := HI.out.2
        rw [List.drop_of_length_le (by rw [nums_length]; omega)] at h1
        simpa [encNum] using h1)
      go_wp2
      go_end0
      exact ⟨rfl, by rw [← HE.out]; exact hP⟩
end Go.Proofs.YtcekbhhpcmhicaaGreatDoor
/- The encoder: alphanumeric texts. -/
namespace Go.Proofs.YtcekbhhpcmhicaaGreatDoor
open Go Go.RowKit Go.Deep
set_option maxRecDepth 100000
/-- of the alphanumeric characters -/
def isAl (c : Nat) : Bool := decide (alCode c ≠ -1)
theorem alCode_bd (c : Nat) : -1 ≤ alCode c ∧ alCode c ≤ 44 := by
  unfold alCode
  rw [List.getD_eq_getElem?_getD]
  by_cases h : c < alTbl.length
  · rw [List.getElem?_eq_getElem h]
    have hall : ∀ x ∈ alTbl, -1 ≤ x ∧ x ≤ 44 := by decide
    exact hall _ (List.getElem_mem h)
  · rw [List.getElem?_eq_none (by omega)]; simp
theorem al_split {c : Nat} (h : isAl c = true) : ∃ d : Nat, alCode c = d ∧ d ≤ 44 := by
  have hb := alCode_bd c
  unfold isAl at h; simp at h
  exact ⟨(alCode c).toNat, by omega, by omega⟩
theorem Put.fr {w w1 w2 : World} {p g : Nat} {bs : List Bool} (h : Put w p g bs w1) (hf : Fr Nil w1 w2) : Put w p g bs w2 := h.trans fun _ _ hb => Put.nil hb hf
set_option maxHeartbeats 3200000 in
theorem alnum_calls {w : World} {p g n : Nat} {bs : List Bool} (h : BA w p g n bs) (s : ByteArray) (hs : s.size ≤ 100000) (hM : bs.length ≤ 100000) (hd : ∀ c ∈ nums s, isAl c = true) :
    Calls Tryz.prog 103 #[.string s, .pointer (some ⟨p, 0, none⟩)] w fun e w' => e = .returned .nilIface ∧ Put w p g (bs ++ encAl (nums s)) w' := by
  have hP0 : Put w p g (bs ++ []) w := by rw [List.append_nil]; exact Put.refl h
  have HD := Lib.hid hd
  clear hd
  go_enter Tryz.func103, Tryz.ntmps103
  go_wp2_with fail
  go_loopg [6, 7, 8] s.size (fun r s6 s7 s8 wr => ∃ (i : Nat) (xs : List Bool), Hid (i + r = s.size ∧ xs ++ encAl ((nums s).drop i) = encAl (nums s)) ∧ s6 = .int .i64 i ∧ Put w p g (bs ++ xs) wr)
  case atStart => exact ⟨0, [], Lib.hid ⟨by omega, by simp⟩, rfl, hP0⟩
  case round =>
    obtain ⟨i, xs, HI, rfl, hP⟩ := hrel
    clear hP0
    have hl : (bs ++ xs).length ≤ 1800000 := by
      have h1 := congrArg List.length HI.out.2
      have h2 := encAl_len (nums s)
      rw [nums_length] at h2
      rw [List.length_append] at h1
      rw [List.length_append]; omega
    by_cases hi : i < s.size
    · have hiz : (i : Int) < s.size := by omega
      obtain ⟨a, ha, ha9⟩ := al_split (all_get HD.out i hi)
      have hcall := alCode_calls s[i].toNat s[i].toNat_lt
      rw [ha] at hcall
      have HC := Lib.hid hcall
      clear hcall
      have HAa := Lib.hid ha
      clear ha
      by_cases h1 : i + 1 < s.size
      · have h1z : (i : Int) + 1 < s.size := by omega
        obtain ⟨b, hb, hb9⟩ := al_split (all_get HD.out (i + 1) h1)
        have hcall := alCode_calls s[i + 1].toNat s[i + 1].toNat_lt
        rw [hb] at hcall
        have HC2 := Lib.hid hcall
        clear hcall
        have HE : Hid ((xs ++ msb (a * 45 + b) 11) ++ encAl ((nums s).drop (i + 2)) = encAl (nums s)) := Lib.hid (by
          have h := HI.out.2
          rw [nums_drop s i hi, nums_drop s (i + 1) h1] at h
          rw [← h]; simp only [encAl, HAa.out, hb, Int.toNat_natCast, List.append_assoc])
        clear hb
        have hbv : a * 45 + b < 4294967296 := by omega
        go_wp2_with fail
        refine (HC.out _).mono ?_
        rintro e w1 ⟨rfl, hf1⟩
        have hP1 := hP.fr hf1
        clear hP
        go_wp2_with fail
        refine (HC2.out _).mono ?_
        rintro e w2 ⟨rfl, hf2⟩
        have hP := hP1.fr hf2
        clear hP1
        have HA := Lib.hid (hP.appendBits hl (a * 45 + b) 11 hbv (by omega))
        clear hP
        go_wp2_with fail
        rw [show ((a : Int) * 45 + (b : Int)) = ((a * 45 + b : Nat) : Int) from by omega]
        refine HA.out.mono ?_
        rintro e w3 ⟨rfl, hP⟩
        go_wp2
        go_roundg (s.size - (i + 2))
        case measure => have := HI.out; omega
        case rel => exact ⟨i + 2, _, Lib.hid ⟨by omega, HE.out⟩, by go_num, by rw [← List.append_assoc]; exact hP⟩
      · have h1z : ¬ (i : Int) + 1 < s.size := by omega
        have HE : Hid (xs ++ msb a 6 = encAl (nums s)) := Lib.hid (by
          have h := HI.out.2
          rw [nums_drop s i hi, List.drop_of_length_le (by rw [nums_length]; omega)] at h
          rw [← h]; simp only [encAl, HAa.out, Int.toNat_natCast])
        go_wp2_with fail
        refine (HC.out _).mono ?_
        rintro e w1 ⟨rfl, hf1⟩
        have hP1 := hP.fr hf1
        clear hP
        have HA := Lib.hid (hP1.appendBits hl a 6 (by omega) (by omega))
        clear hP1
        go_wp2_with fail
        refine HA.out.mono ?_
        rintro e w3 ⟨rfl, hP⟩
        go_wp2
        go_roundg 0
        case measure => have := HI.out; omega
        case rel => exact ⟨i + 1, _, Lib.hid ⟨by omega, by rw [List.drop_of_length_le (by rw [nums_length]; omega)]; simpa [encAl] using HE.out⟩, by go_num, by rw [← List.append_assoc]; exact hP⟩
    · have hiz : ¬ (i : Int) < s.size := by omega
      have HE : Hid (xs = encAl (nums s)) := Lib.hid (by
        have h1 := HI.out.2
        rw [List.drop_of_length_le (by rw [nums_length]; omega)] at h1
        simpa [encAl] using h1)
      go_wp2
      go_ret
      exact ⟨rfl, by rw [← HE.out]; exact hP⟩
end Go.Proofs.YtcekbhhpcmhicaaGreatDoor
/- The encoder: the bits of a text in its mode; the count. -/
namespace Go.Proofs.YtcekbhhpcmhicaaGreatDoor
open Go Go.RowKit Go.Deep
set_option maxRecDepth 100000
/-- the bits of a text in a mode -/
def enc (m : Nat) (l : List Nat) : List Bool := if m = 1 then encNum l else if m = 2 then encAl l else encBy l
def okFor (m : Nat) (l : List Nat) : Prop := (m = 1 → ∀ c ∈ l, isDig c = true) ∧ (m = 2 → ∀ c ∈ l, isAl c = true)
theorem appendBytes_calls {w : World} {p g n : Nat} {bs : List Bool} (h : BA w p g n bs) (s : ByteArray) (hs : s.size ≤ 100000) (hM : bs.length ≤ 100000) (m : Nat) (hm : Mode3 m) (hok : okFor m (nums s)) :
    Calls Tryz.prog 47 #[.string s, i64 m, .pointer (some ⟨p, 0, none⟩)] w fun e w' => e = .returned .nilIface ∧ Put w p g (bs ++ enc m (nums s)) w' := by
  rcases hm with rfl | rfl | rfl
  · have HC := Lib.hid (numeric_calls h s hs hM (hok.1 rfl))
    clear hok
    go_enter Tryz.func47, Tryz.ntmps47
    go_wp2_with (go_at_call 102; refine HC.out.mono ?_; rintro e w1 ⟨rfl, hP⟩)
    go_ret
    exact ⟨rfl, hP⟩
  · have HC := Lib.hid (alnum_calls h s hs hM (hok.2 rfl))
    clear hok
    go_enter Tryz.func47, Tryz.ntmps47
    go_wp2_with (go_at_call 103; refine HC.out.mono ?_; rintro e w1 ⟨rfl, hP⟩)
    go_ret
    exact ⟨rfl, hP⟩
  · have HC := Lib.hid (append8_calls h s hs hM)
    clear hok
    go_enter Tryz.func47, Tryz.ntmps47
    go_wp2_with (go_at_call 104; refine HC.out.mono ?_; rintro e w1 ⟨rfl, hP⟩)
    go_ret
    exact ⟨rfl, hP⟩
theorem cc_bd (m v : Nat) : 8 ≤ cc m v ∧ cc m v ≤ 16 := by
  unfold cc ccRow
  split <;> split <;> first | exact ⟨by decide, by decide⟩ | (split <;> exact ⟨by decide, by decide⟩)
theorem lengthInfo_calls {w : World} {lo hi p v q g n : Nat} {bs : List Bool} (hv : VerAt w lo hi p v) (h : BA w q g n bs) (hM : bs.length ≤ 100000) (m : Nat) (hm : Mode3 m) (k : Nat) (hk : k < 2 ^ cc m v) :
    Calls Tryz.prog 56 #[i64 k, .pointer (some ⟨p, 0, none⟩), i64 m, .pointer (some ⟨q, 0, none⟩)] w fun e w' => e = .returned .nilIface ∧ Put w q g (bs ++ msb k (cc m v)) w' := by
  have hcc := cc_bd m v
  have hk2 : 2 ^ cc m v ≤ 2 ^ 16 := Nat.pow_le_pow_right (by omega) hcc.2
  have HC := Lib.hid (charCount_calls hv m hm)
  generalize cc m v = c at *
  have h16 : wrap64 ((2 : Int) ^ c) = ((2 ^ c : Nat) : Int) := by
    have e : ((2 : Int) ^ c) = ((2 ^ c : Nat) : Int) := by push_cast; rfl
    rw [e]; exact wrap64_small _ (by omega)
  have hkz : ¬ (2 : Int) ^ c ≤ k := by
    have e : ((2 : Int) ^ c) = ((2 ^ c : Nat) : Int) := by push_cast; rfl
    rw [e]; omega
  obtain ⟨hc8, hc16⟩ := hcc
  go_enter Tryz.func56, Tryz.ntmps56
  go_wp2_with fail
  refine HC.out.mono ?_
  rintro e w1 ⟨rfl, hf1⟩
  have h1 := h.fr hf1 (fun e => e) (fun e => e)
  have HA := Lib.hid (appendBits_calls h1 (by omega) k c (by omega) (by omega))
  go_wp2_with fail
  refine HA.out.mono ?_
  rintro e w2 ⟨rfl, hP⟩
  go_wp2
  go_ret
  exact ⟨rfl, (Put.nil h hf1).trans fun g' n' hb => by
    have : g' = g := by
      have a := hb.c0; have b := h1.c0; rw [a] at b; simp at b; exact b.1
    rw [this]; exact hP⟩
end Go.Proofs.YtcekbhhpcmhicaaGreatDoor
