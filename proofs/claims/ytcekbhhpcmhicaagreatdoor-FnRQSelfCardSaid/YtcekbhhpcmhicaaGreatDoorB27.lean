/- ReadCodewords. -/
import Derived.Laws.EntriesVeiled
import Derived.Test.YtcekbhhpcmhicaaGreatDoorB19
import Derived.Test.YtcekbhhpcmhicaaGreatDoorB20
set_option linter.unusedSimpArgs false
set_option linter.unusedVariables false
namespace Go.Proofs.YtcekbhhpcmhicaaGreatDoor
open Go Go.RowKit Go.Deep
set_option maxRecDepth 100000
def maskCells : List Value := [.func (.func 255) #[] #[], .func (.func 256) #[] #[], .func (.func 257) #[] #[], .func (.func 258) #[] #[], .func (.func 259) #[] #[], .func (.func 260) #[] #[], .func (.func 261) #[] #[], .func (.func 262) #[] #[]]
theorem masks_calls (w : World) : Calls Tryz.prog 215 #[] w fun e w' => e = .returned (sl w.heap.size 8) ∧ w.alloc (.cells maskCells.toArray 344) = w' :=
  calls_by_run (args := []) Tryz.func215 rfl 10 (by kernel_rfl) 30 (sl w.heap.size 8) (w.alloc (.cells maskCells.toArray 344)) (by kernel_rfl) ⟨rfl, rfl⟩
theorem maskCells_get : ∀ k, k < 8 → maskCells[k]? = some (.func (.func (255 + k)) #[] #[]) := by
  intro k hk
  match k, hk with
  | 0, _ | 1, _ | 2, _ | 3, _ | 4, _ | 5, _ | 6, _ | 7, _ => rfl
theorem fmtMask_calls {w : World} {f l k : Nat} (h : Blk w f 361 #[i64 l, .int .u8 (k : Int)]) : Calls Tryz.prog 216 #[.pointer (some ⟨f, 0, none⟩)] w fun e w' => e = .returned (.int .u8 (k : Int)) ∧ w = w' := by
  have c := h.cell 1
  simp only [Nat.reduceAdd, List.getElem?_toArray, List.getElem?_cons_succ, List.getElem?_cons_zero] at c
  clear h
  go_enter Tryz.func216, Tryz.ntmps216
  go_wp2
  go_ret
  exact ⟨rfl, rfl⟩
/-- ReadVersion once more -/
theorem readVer_again {w : World} {q p g v : Nat} {ver fmt : Value} {B : Nat → Nat → Bool} (hq : PM w q p ver fmt) (h : QM w p g (17 + 4 * v) B) (h1 : 1 ≤ v)
    (hver : (ver = .pointer none ∧ v ≤ 6) ∨ ∃ pv lo hi, ver = .pointer (some ⟨pv, 0, none⟩) ∧ VerAt w lo hi pv v ∧ g < lo ∧ hi ≤ w.heap.size) :
    Calls Tryz.prog 178 #[.pointer (some ⟨q, 0, none⟩)] w fun e w' => ∃ pv lo hi, e = .returned (.tuple #[.pointer (some ⟨pv, 0, none⟩), .nilIface]) ∧ VerAt w' lo hi pv v ∧ g < lo ∧ hi ≤ w'.heap.size ∧ Fr Nil w w' := by
  rcases hver with ⟨rfl, h6⟩ | ⟨pv, lo, hi, rfl, hv, hg, hh⟩
  · refine (readVer_small hq h h1 h6).mono ?_
    rintro e w' ⟨pv, rfl, hv, hf⟩
    exact ⟨pv, _, _, rfl, hv, h.ws.lt, Nat.le_refl _, hf⟩
  · refine (readVer_known hq).mono ?_
    rintro e w' ⟨rfl, rfl⟩
    exact ⟨pv, lo, hi, rfl, hv, hg, hh, Fr.refl _ _⟩
/-- the reading's state: R are the bits read -/
structure St (w : World) (S T : Nat) (R : List Bool) (o b cb : Nat) : Prop where
  o : o = R.length / 8
  b : b = R.length % 8
  cb : cb = cbR R
  row : w.rowIs S 5 T (rowR R)
theorem St.part {w : World} {S T o b cb : Nat} {R : List Bool} (h : St w S T R o b cb) (x : Bool) (hb : b ≠ 7) : St w S T (R ++ [x]) o (b + 1) (2 * cb + (if x then 1 else 0)) := by
  obtain ⟨a1, a2, a3, a4⟩ := step_part R x (by rw [← h.b]; exact hb)
  exact ⟨by rw [a1]; exact h.o, by rw [a2, h.b], by rw [a3, h.cb], h.row.congr (fun i _ => (a4 i).symm)⟩
theorem St.full {w : World} {S T o b cb : Nat} {R : List Bool} (h : St w S T R o b cb) (x : Bool) (hb : b = 7) : St (w.setCell ⟨S, o, none⟩ (u8 (2 * cb + (if x then 1 else 0)))) S T (R ++ [x]) (o + 1) 0 0 ∧ 2 * cb + (if x then 1 else 0) < 256 := by
  obtain ⟨a1, a2, a3, a4, a5⟩ := step_full R x (by rw [← h.b]; exact hb)
  refine ⟨⟨by rw [a1, h.o], by rw [a2], by rw [a3], (h.row.set o _).congr (fun i _ => ?_)⟩, by rw [h.cb]; exact a4⟩
  rw [a5 i, ← h.o, ← h.cb]
theorem St.lt {w : World} {S T o b cb : Nat} {R : List Bool} (h : St w S T R o b cb) : b < 8 ∧ cb < 128 := by
  have h1 := h.b
  have h2 := h.cb
  have h3 := cbR_lt R
  omega
theorem qmGet' {w : World} {p g n : Nat} {B : Nat → Nat → Bool} (h : QM w p g n B) (x y : Nat) (X Y : Int) (hX : X = x) (hY : Y = y) (hx : x < n) (hy : y < n) :
    Calls Tryz.prog 137 #[.pointer (some ⟨p, 0, none⟩), .int .i64 X, .int .i64 Y] w fun e w' => e = .returned (.bool (B y x)) ∧ w = w' := by
  subst hX hY; exact qmGet_calls h x y hx hy
set_option maxHeartbeats 3200000 in
theorem readCW_calls {w : World} {q p g v f l k : Nat} {ver : Value} {B : Nat → Nat → Bool} (hq : PM w q p ver (.pointer (some ⟨f, 0, none⟩))) (h : QM w p g (17 + 4 * v) B) (h1 : 1 ≤ v) (h2 : v ≤ 27)
    (hver : (ver = .pointer none ∧ v ≤ 6) ∨ ∃ pv lo hi, ver = .pointer (some ⟨pv, 0, none⟩) ∧ VerAt w lo hi pv v ∧ g < lo ∧ hi ≤ w.heap.size)
    (hfm : Blk w f 361 #[i64 l, .int .u8 (k : Int)]) (hk : k < 8) (hlen : (bOn (unmA k (17 + 4 * v) B) (fpM v) (pathOf (17 + 4 * v) (8 + 2 * v))).length / 8 = tot v) :
    Calls Tryz.prog 209 #[.pointer (some ⟨q, 0, none⟩)] w fun e w' => ∃ S, e = .returned (.tuple #[.slice (some ⟨S, 0, none⟩) (tot v) (tot v), .nilIface]) ∧ w.heap.size ≤ S ∧
      w'.rowIs S 5 (tot v) (fun i => u8 (rd (bOn (unmA k (17 + 4 * v) B) (fpM v) (pathOf (17 + 4 * v) (8 + 2 * v))) (8 * i) 8)) ∧ Fr (One g) w w' := by
  have hgl := h.ws.lt
  have hgp := h.ne
  have hgq : g ≠ q := (Blk.row_ne hq h.ws (by decide)).symm
  have hgf : g ≠ f := (Blk.row_ne hfm h.ws (by decide)).symm
  have HRF := Lib.hid (readFormat_again hq)
  have HRV := Lib.hid (readVer_again hq h h1 hver)
  have HQ := Lib.hid h
  have HPM := Lib.hid hq
  have HFM := Lib.hid hfm
  have HLEN := Lib.hid hlen
  have hT4 : tot v ≤ 4000 := (ver_tot h1 (by omega) (l := 0) (by omega)).2
  clear hq h hver hfm hlen
  go_enter Tryz.func209, Tryz.ntmps209
  go_wp2_with fail
  refine HRF.out.mono ?_
  rintro e w1 ⟨rfl, rfl⟩
  go_wp2_with fail
  refine HRV.out.mono ?_
  rintro e w1 ⟨pv, lo, hi, rfl, hv, hglo, hhi, hf1⟩
  have HV := Lib.hid hv
  have HF1 := Lib.hid hf1
  clear hv hf1 HRF HRV
  go_wp2_with fail
  refine (masks_calls w1).mono ?_
  rintro e w2 ⟨rfl, rfl⟩
  have hal : Fr Nil w1 (w1.alloc (.cells maskCells.toArray 344)) := (Fr.refl _ _).alloc _
  have HFM2 := Lib.hid (HFM.out.fr (HF1.out.trans hal) (fun e => e))
  have hmk := Blk.new w1 344 maskCells.toArray
  have hc0 : (w1.alloc (.cells maskCells.toArray 344)).cell? ⟨w1.heap.size, k, none⟩ = some (.func (.func (255 + k)) #[] #[]) := by
    rw [hmk.cell k, List.getElem?_toArray]; exact maskCells_get k hk
  have HAL := Lib.hid hal
  have hw1s : (w1.alloc (.cells maskCells.toArray 344)).heap.size = w1.heap.size + 1 := by simp
  obtain ⟨W2, hW2⟩ : ∃ W2, w1.alloc (.cells maskCells.toArray 344) = W2 := ⟨_, rfl⟩
  rw [hW2] at hc0 HAL HFM2 hw1s ⊢
  clear hmk hal hW2
  go_wp2_with fail
  refine (fmtMask_calls HFM2.out).mono ?_
  rintro e w3 ⟨rfl, rfl⟩
  have hal3 : Fr Nil W2 (W2.alloc (.cells #[.func (.func (255 + k)) #[] #[]] 344)) := (Fr.refl _ _).alloc _
  have hF3 := (HF1.out.trans HAL.out).trans hal3
  have hst3 := Blk.new W2 344 #[.func (.func (255 + k)) #[] #[]]
  have c3 : (W2.alloc (.cells #[.func (.func (255 + k)) #[] #[]] 344)).cell? ⟨q, 0, none⟩ = some (.pointer (some ⟨p, 0, none⟩)) := hF3.cell_some HPM.out.c.1 (fun e => e)
  have c4 : (W2.alloc (.cells #[.func (.func (255 + k)) #[] #[]] 344)).cell? ⟨W2.heap.size, 0, none⟩ = some (.func (.func (255 + k)) #[] #[]) := by simp
  have HF3 := Lib.hid hF3
  have HV3 := Lib.hid ((HV.out.fr HAL.out (fun _ _ _ e => e)).fr hal3 (fun _ _ _ e => e))
  have hsz3 : (W2.alloc (.cells #[.func (.func (255 + k)) #[] #[]] 344)).heap.size = W2.heap.size + 1 := by simp
  rw [hw1s] at c4
  have hs3 : w1.heap.size + 2 = (W2.alloc (.cells #[.func (.func (255 + k)) #[] #[]] 344)).heap.size := by omega
  clear hal3 hF3 hst3 HV HFM2
  go_wp2_with fail
  obtain ⟨W3, hW3⟩ : ∃ W3, (W2.alloc (.cells #[.func (.func (255 + k)) #[] #[]] 344)) = W3 := ⟨_, rfl⟩
  rw [hW3] at c3 c4 HF3 HV3 hsz3 hs3 ⊢
  obtain ⟨t, ht⟩ : ∃ t, w1.heap.size + 1 = t := ⟨_, rfl⟩
  rw [ht] at c4 ⊢
  have hgt : g ≠ t := by have := HF1.out.size; omega
  clear hW3 ht hc0 HAL
  refine (qmHeight_calls (HQ.out.nil HF3.out)).mono ?_
  rintro e w3 ⟨rfl, rfl⟩
  have HUN := Lib.hid (fun (w' : World) (hf : Fr Nil W3 w') => unmask_calls (HQ.out.nil (HF3.out.trans hf)) k hk)
  obtain ⟨n, hn⟩ : ∃ n, 17 + 4 * v = n := ⟨_, rfl⟩
  have HNV := Lib.hid hn
  have hn1 : 21 ≤ n := by omega
  have hn2 : n ≤ 200 := by omega
  have hno : n % 2 = 1 := by omega
  rw [hn] at HUN HLEN ⊢
  clear hn
  have HS4 := Lib.hid (fun (w' : World) (hf : Fr (One g) W3 w') => (show w'.cell? ⟨q, 0, none⟩ = some (.pointer (some ⟨p, 0, none⟩)) ∧ w'.cell? ⟨t, 0, none⟩ = some (.func (.func (255 + k)) #[] #[]) from
    ⟨hf.cell_some c3 (fun e => hgq (by have : q = g := e; exact this.symm)), hf.cell_some c4 (fun e => hgt (by have : t = g := e; exact this.symm))⟩))
  go_wp2_with fail
  go_region_held3 (fun w' => w'.cell? ⟨q, 0, none⟩ = some (.pointer (some ⟨p, 0, none⟩)) ∧ w'.cell? ⟨t, 0, none⟩ = some (.func (.func (255 + k)) #[] #[]))
    (first
      | exact ⟨c3, c4⟩
      | exact HS4.out _ hf4.from_drew)
    ((first
      | (go_at_call 217; refine (HUN.out _ (Fr.refl _ _).drew).mono ?_; rintro e w4 ⟨rfl, hQ4, hf4⟩)))
  all_goals
    have hf4' : Fr (One g) W3 w4 := hf4.from_drew
    have hs4 := hf4'.size
    have HQ4 := Lib.hid hQ4
    have HF4 := Lib.hid ((HF3.out.any (One g)).trans hf4')
    have HV4 := Lib.hid (HV3.out.fr hf4' (fun i h1 h2 e => by have : i = g := e; omega))
    clear hQ4 hf4 hf4' HUN HV3 c3 c4 hsz3 hw1s
    go_wp2_with fail
    refine (fpat_calls HV4.out).mono ?_
    rintro e w5 ⟨p2, g2, rfl, hQ5, hp2, hg2, hf5⟩
    rw [HNV.out] at hQ5
    have HQ5 := Lib.hid hQ5
    have HQD := Lib.hid (HQ4.out.nil hf5)
    have hs5 := hf5.size
    have HF5 := Lib.hid (HF4.out.trans (hf5.any _))
    have HV5 := Lib.hid (HV4.out.fr hf5 (fun _ _ _ e => e))
    have hw4s := HF4.out.size
    have hpl := Blk.lt HQ.out.st
    clear hQ5 hf5
    go_wp2_with fail
    refine (verTotal_calls HV5.out).mono ?_
    rintro e w6 ⟨rfl, rfl⟩
    obtain ⟨T, hT⟩ : ∃ T, tot v = T := ⟨_, rfl⟩
    have HTE := Lib.hid hT
    rw [hT] at hT4 HLEN ⊢
    clear hT
    have hmk := mkBytes T (by omega) w5
    have hrow := World.rowIs_made w5 (.int .u8 0) T 5
    have hal : Fr Nil w5 (w5.alloc (.cells (madeCells #[.int .u8 0] T) 5)) := (Fr.refl _ _).alloc _
    have hw5s := HF5.out.size
    have hg2l := HQ5.out.ws.lt
    have hp2l := Blk.lt HQ5.out.st
    obtain ⟨S, hS⟩ : ∃ S, w5.heap.size = S := ⟨_, rfl⟩
    rw [hS] at hmk hrow hw5s hg2l hp2l
    have hql := Blk.lt HPM.out
    obtain ⟨W, hW⟩ : ∃ W, (w5.alloc (.cells (madeCells #[.int .u8 0] T) 5)) = W := ⟨_, rfl⟩
    obtain ⟨D, hD⟩ : ∃ D, unmA k n B = D := ⟨_, rfl⟩
    obtain ⟨F, hFF⟩ : ∃ F, fpM v = F := ⟨_, rfl⟩
    have HDE := Lib.hid hD
    have HFE := Lib.hid hFF
    rw [hD] at HLEN HQD
    rw [hFF] at HLEN HQ5
    rw [hW] at hrow hal
    have HK := Lib.hid (fun (w' : World) (hf : Fr (One S) W w') => (show QM w' p g n D ∧ QM w' p2 g2 n F ∧ w'.cell? ⟨q, 0, none⟩ = some (.pointer (some ⟨p, 0, none⟩)) from
      ⟨(HQD.out.nil hal).fr hf (fun e => by have : p = S := e; omega) (fun e => by have : g = S := e; omega),
       (HQ5.out.nil hal).fr hf (fun e => by have : p2 = S := e; omega) (fun e => by have : g2 = S := e; omega),
       hf.cell_some (((HF5.out.trans (hal.any (One g))).cell_some HPM.out.c.1 (fun e => hgq (by have : q = g := e; exact this.symm)))) (fun e => by have : q = S := e; omega)⟩))
    have HHI := Lib.hid (show hi ≤ S by omega)
    have HVT := Lib.hid (HV5.out.fr hal (fun _ _ _ e => e))
    have HFW := Lib.hid (HF5.out.trans (hal.any (One g)))
    have HSG := Lib.hid (show w.heap.size ≤ S by omega)
    have HST0 : Hid (St W S T (bOn D F (pathOf n 0)) 0 0 0) := Lib.hid (by
      rw [show bOn D F (pathOf n 0) = [] from rfl]
      exact ⟨rfl, rfl, rfl, hrow.congr (fun i _ => by show Value.int .u8 0 = u8 (if i < 0 / 8 then _ else 0); rw [if_neg (by omega)]; rfl)⟩)
    obtain ⟨C, hC⟩ : ∃ C, 8 + 2 * v = C := ⟨_, rfl⟩
    have hnC : n = 2 * C + 1 := by have := HNV.out; omega
    have HCE := Lib.hid hC
    rw [hC] at HLEN
    have HN := Lib.hid hnC
    clear hC hnC hrow hal hD hFF HQ4 HQ5 HQD HV4 HF4 HF5 HV5 hw5s hw4s hg2l hp2l
    go_wp2_with fail
    try rw [hW]
    clear hmk hW
    go_loopg [10, 12, 13, 14, 15, 16, 17, 18] C (fun r s10 s12 s13 s14 s15 s16 s17 s18 wr => ∃ (c o b cb : Nat) (x : Int) (up : Bool), c + r = C ∧ s10 = .bool up ∧ s12 = .int .i64 o ∧ s13 = .int .i64 cb ∧ s14 = .int .i64 b ∧ s15 = .int .i64 x ∧
      Hid (x = hdX n c ∧ up = decide (c % 2 = 0)) ∧ Hid (St wr S T (bOn D F (pathOf n c)) o b cb) ∧ Hid (Fr (One S) W wr))
    case atStart => exact ⟨0, 0, 0, 0, (n : Int) - 1, true, by omega, rfl, rfl, rfl, rfl, by go_num, Lib.hid ⟨by unfold hdX; rw [if_neg (by omega)]; omega, rfl⟩, HST0, Lib.hid (Fr.refl _ _)⟩
    case round =>
      obtain ⟨c, o, b, cb, x, up, hc, rfl, rfl, rfl, rfl, rfl, HX, HS, HFR⟩ := hrel
      cases gk with
      | zero =>
        have hcC : c = C := by omega
        subst hcC
        have hx : ¬ (0 : Int) < x := by
          have h1 := HX.out.1
          have h2 := HN.out
          unfold hdX at h1
          rw [if_pos (by omega)] at h1
          omega
        have hx2 : x ≤ 0 := by omega
        have hoT : o = T := by have := HS.out.o; have := HLEN.out; omega
        have HROW := Lib.hid (HS.out.row.congr (g := fun i => u8 (rd (bOn D F (pathOf n c)) (8 * i) 8)) (fun i hi => by
          show u8 (if i < _ then _ else 0) = _
          rw [if_pos (by have := HS.out.o; omega)]))
        subst hoT
        have hver := verTotal_calls (HVT.out.fr HFR.out (fun i h1 h2 e => by have : i = S := e; have := HHI.out; omega))
        rw [HTE.out] at hver
        have HVC := Lib.hid hver
        have hoo : ((o : Int) != (o : Int)) = false := by simp
        have HFF := Lib.hid (HFW.out.trans' HFR.out (fun i hi e => by have : i = S := e; have := HSG.out; omega))
        clear hver
        go_wp2_with fail
        refine HVC.out.mono ?_
        rintro e w7 ⟨rfl, rfl⟩
        go_wp2_with fail
        go_ret2
        rw [HNV.out, HDE.out, HFE.out, HCE.out, HTE.out]
        exact ⟨S, rfl, HSG.out, HROW.out, HFF.out⟩
      | succ r =>
        have hcC : c < C := by omega
        have hnn := HN.out
        have hx0 : (0 : Int) < x := by
          have h1 := HX.out.1
          unfold hdX at h1
          split at h1 <;> omega
        have hxu : x ≤ 300 := by
          have h1 := HX.out.1
          unfold hdX at h1
          split at h1 <;> omega
        obtain ⟨X, hX⟩ : ∃ X, xr n c = X := ⟨_, rfl⟩
        have hXx : (x = 6 ∧ X = 5) ∨ (x ≠ 6 ∧ x = (X : Int)) := by
          have := HX.out.1; unfold hdX at this; unfold xr at hX
          split at this <;> split at hX <;> omega
        have hXn : X < n ∧ 1 ≤ X := by rw [← hX]; exact xr_lt n c (by omega)
        have HXE := Lib.hid hX
        have HCC := Lib.hid hc
        have HXX := Lib.hid hXx
        have hhd : Hid (hdX n (c + 1) = (X : Int) - 2) := Lib.hid (by
          unfold xr at hX; unfold hdX
          split at hX <;> split <;> omega)
        have HUP := Lib.hid HX.out.2
        clear hX hc hnn hXx HX
        go_upto_if 72 with fail
        go_cut [15] (fun s15 wc => s15 = .int .i64 (X : Int) ∧ wc = wr)
        case first =>
          by_cases h6 : x = 6
          · have hX5 : X = 5 := by rcases HXX.out with h | h; exact h.2; exact absurd h6 h.1
            subst h6
            subst hX5
            go_wp2_with fail
            go_meet
            exact ⟨rfl, rfl⟩
          · have h6b : (x == 6) = false := beq_eq_false_iff_ne.2 h6
            have hxX : x = (X : Int) := by rcases HXX.out with h | h; exact absurd h.1 h6; exact h.2
            subst hxX
            rw [h6b]
            go_wp2_with fail
            go_meet
            exact ⟨rfl, rfl⟩
        case rest =>
          obtain ⟨rfl, rfl⟩ := hcut
          clear HXX hx0 hxu
          go_wp2_with fail
          go_loopg [12, 13, 14, 16, 17, 18] n (fun r2 s12 s13 s14 s16 s17 s18 wq => ∃ (s o b cb : Nat), s + r2 = n ∧ s16 = .int .i64 s ∧ s12 = .int .i64 o ∧ s13 = .int .i64 cb ∧ s14 = .int .i64 b ∧
            Hid (St wq S T (bOn D F (pathOf n c ++ colOf n c s)) o b cb) ∧ Hid (Fr (One S) W wq))
          case atStart => exact ⟨0, o, b, cb, by omega, rfl, rfl, rfl, rfl, Lib.hid (by rw [show colOf n c 0 = [] from rfl, List.append_nil]; exact HS.out), HFR⟩
          case round =>
            obtain ⟨s, o2, b2, cb2, hs, rfl, rfl, rfl, rfl, HS2, HFR2⟩ := hrel
            cases gk with
            | zero =>
              have hsn : s = n := by omega
              have hzs : ¬ (s : Int) < (n : Int) := by omega
              have HS3 : Hid (St wr S T (bOn D F (pathOf n (c + 1))) o2 b2 cb2) := Lib.hid (by
                have := HS2.out
                rw [hsn] at this
                rw [pathOf_succ]; exact this)
              have HUP2 : Hid ((!up) = decide ((c + 1) % 2 = 0)) := Lib.hid (by
                rw [HUP.out]
                by_cases hp : c % 2 = 0
                · rw [decide_eq_true hp, decide_eq_false (by omega)]; rfl
                · rw [decide_eq_false hp, decide_eq_true (by omega)]; rfl)
              clear hs hsn
              go_wp2_with fail
              go_roundg r
              case measure => omega
              case rel => exact ⟨c + 1, o2, b2, cb2, (X : Int) - 2, !up, by have := HCC.out; omega, rfl, rfl, rfl, rfl, by go_num, Lib.hid ⟨hhd.out.symm, HUP2.out⟩, HS3, HFR2⟩
            | succ r2 =>
              have hsn : s < n := by omega
              have hzs : (s : Int) < (n : Int) := by omega
              obtain ⟨Z, hZ⟩ : ∃ Z, yy n c s = Z := ⟨_, rfl⟩
              have hZn : Z < n := by rw [← hZ]; exact yy_lt n c s hsn
              have HZ := Lib.hid hZ
              have HSS := Lib.hid hs
              clear hs hZ
              go_upto_if 81 with fail
              go_cut [17] (fun s17 wc => s17 = .int .i64 (Z : Int) ∧ wc = wr)
              case first =>
                cases up with
                | true =>
                  have hzz : (n : Int) - 1 - (s : Int) = (Z : Int) := by
                    have h1 := HUP.out
                    have h2 := HZ.out
                    unfold yy at h2
                    rw [if_pos (of_decide_eq_true h1.symm)] at h2
                    omega
                  go_wp2_with fail
                  go_meet
                  exact ⟨rfl, rfl⟩
                | false =>
                  have hzz : (s : Int) = (Z : Int) := by
                    have h1 := HUP.out
                    have h2 := HZ.out
                    unfold yy at h2
                    rw [if_neg (of_decide_eq_false h1.symm)] at h2
                    omega
                  go_wp2_with fail
                  go_meet
                  exact ⟨by go_num, rfl⟩
              case rest =>
                obtain ⟨rfl, rfl⟩ := hcut
                go_wp2_with fail
                go_loopg [12, 13, 14, 18] 2 (fun r3 s12 s13 s14 s18 wz => ∃ (t o b cb : Nat), t + r3 = 2 ∧ s18 = .int .i64 t ∧ s12 = .int .i64 o ∧ s13 = .int .i64 cb ∧ s14 = .int .i64 b ∧
                  Hid (St wz S T (bOn D F (pathOf n c ++ colOf n c s ++ (cellsOf n c s).take t)) o b cb) ∧ Hid (Fr (One S) W wz))
                case atStart => exact ⟨0, o2, b2, cb2, by omega, rfl, rfl, rfl, rfl, Lib.hid (by rw [List.take_zero, List.append_nil]; exact HS2.out), HFR2⟩
                case round =>
                  obtain ⟨t2, o3, b3, cb3, ht, rfl, rfl, rfl, rfl, HS3, HFR3⟩ := hrel
                  cases gk with
                  | zero =>
                    have ht2 : t2 = 2 := by omega
                    have hzt : ¬ (t2 : Int) < 2 := by omega
                    have HS4 : Hid (St wr S T (bOn D F (pathOf n c ++ colOf n c (s + 1))) o3 b3 cb3) := Lib.hid (by
                      have := HS3.out
                      rw [ht2, cells_take2] at this
                      rw [colOf_succ, ← List.append_assoc]; exact this)
                    clear ht ht2
                    go_wp2_with fail
                    go_roundg r2
                    case measure => omega
                    case rel => exact ⟨s + 1, o3, b3, cb3, by have := HSS.out; omega, by go_num, rfl, rfl, rfl, HS4, HFR3⟩
                  | succ r3 =>
                    have ht2 : t2 < 2 := by omega
                    have hzt : (t2 : Int) < 2 := by omega
                    have htake := cells_take n c s t2 ht2
                    rw [HXE.out, HZ.out] at htake
                    have hlt := HS3.out.lt
                    have HGF := Lib.hid (qmGet' (HK.out _ HFR3.out).2.1 (X - t2) Z ((X : Int) - (t2 : Int)) (Z : Int) (by omega) rfl (by omega) hZn)
                    have HGD := Lib.hid (qmGet' (HK.out _ HFR3.out).1 (X - t2) Z ((X : Int) - (t2 : Int)) (Z : Int) (by omega) rfl (by omega) hZn)
                    have k0 := (HK.out _ HFR3.out).2.2
                    have HTT := Lib.hid ht
                    clear ht
                    cases hF2 : F Z (X - t2) with
                    | true =>
                      have HS4 : Hid (St wr S T (bOn D F (pathOf n c ++ colOf n c s ++ (cellsOf n c s).take (t2 + 1))) o3 b3 cb3) := Lib.hid (by
                        rw [htake, ← List.append_assoc, bOn_no D F _ _ hF2]; exact HS3.out)
                      rw [hF2] at HGF
                      clear htake hF2
                      go_wp2_with fail
                      refine HGF.out.mono ?_
                      rintro e w8 ⟨rfl, rfl⟩
                      go_wp2_with fail
                      go_roundg r3
                      case measure => omega
                      case rel => exact ⟨t2 + 1, o3, b3, cb3, by have := HTT.out; omega, by go_num, rfl, rfl, rfl, HS4, HFR3⟩
                    | false =>
                      rw [hF2] at HGF
                      obtain ⟨R, hR⟩ : ∃ R, bOn D F (pathOf n c ++ colOf n c s ++ (cellsOf n c s).take t2) = R := ⟨_, rfl⟩
                      obtain ⟨bt, hbt⟩ : ∃ bt, D Z (X - t2) = bt := ⟨_, rfl⟩
                      have HR2 : Hid (bOn D F (pathOf n c ++ colOf n c s ++ (cellsOf n c s).take (t2 + 1)) = R ++ [bt]) := Lib.hid (by
                        rw [htake, ← List.append_assoc, bOn_yes D F _ _ hF2, hR, ← hbt])
                      have HRL : Hid ((R ++ [bt]).length / 8 ≤ T) := Lib.hid (by
                        rw [← HR2.out, ← HLEN.out]
                        obtain ⟨qs, e⟩ := path_pre n C c s (t2 + 1) hcC hsn
                        have := bOn_le D F (pathOf n c ++ colOf n c s ++ (cellsOf n c s).take (t2 + 1)) qs
                        rw [← e] at this
                        exact Nat.div_le_div_right this)
                      rw [hR] at HS3
                      rw [hbt] at HGD
                      clear htake hF2 hR hbt
                      go_wp2_with fail
                      refine HGF.out.mono ?_
                      rintro e w8 ⟨rfl, rfl⟩
                      go_wp2_with fail
                      refine HGD.out.mono ?_
                      rintro e w8 ⟨rfl, rfl⟩
                      obtain ⟨hb8, hcb⟩ := hlt
                      obtain ⟨z, hz⟩ : ∃ z, 2 * cb3 + (if bt then 1 else 0) = z := ⟨_, rfl⟩
                      have hzl : z < 256 := by split at hz <;> omega
                      have HB : Hid ((bt = true → bits .or .i64 ((cb3 : Int) * 2) 1 = (z : Int)) ∧ (bt = false → (cb3 : Int) * 2 = (z : Int))) := Lib.hid ⟨fun e => by rw [or1 cb3 (by omega), ← hz, e]; rfl, fun e => by rw [e] at hz; simp only [Bool.false_eq_true, if_false] at hz; omega⟩
                      by_cases h7 : b3 = 7
                      · have hfull := (HS3.out.full bt h7).1
                        rw [hz] at hfull
                        have hoT : o3 < T := by have h1 := HRL.out; have h2 := hfull.o; omega
                        have c1 := HS3.out.row.cell hoT
                        have zf := HS3.out.row.frozen o3
                        have hro : rowR R o3 = u8 0 := by unfold rowR; rw [if_neg (by have := HS3.out.o; omega)]
                        rw [hro] at c1
                        have HNW := Lib.hid (show St (wr.setCell ⟨S, o3, none⟩ (u8 z)) S T (bOn D F (pathOf n c ++ colOf n c s ++ (cellsOf n c s).take (t2 + 1))) (o3 + 1) 0 0 ∧ Fr (One S) W (wr.setCell ⟨S, o3, none⟩ (u8 z)) from ⟨by rw [HR2.out]; exact hfull, Fr.set1 HFR3.out o3 _⟩)
                        have h8 : ((b3 : Int) + 1 == 8) = true := by rw [h7]; rfl
                        clear hfull hro hz h7 HS3 k0
                        cases bt with
                        | true =>
                          have hor := HB.out.1 rfl
                          have k0 := (HK.out _ HFR3.out).2.2
                          go_wp2_with fail
                          go_roundg r3
                          case measure => omega
                          case rel => exact ⟨t2 + 1, o3 + 1, 0, 0, by have := HTT.out; omega, by go_num, by go_num, rfl, rfl, Lib.hid HNW.out.1, Lib.hid HNW.out.2⟩
                        | false =>
                          have hor := HB.out.2 rfl
                          go_wp2_with fail
                          go_roundg r3
                          case measure => omega
                          case rel => exact ⟨t2 + 1, o3 + 1, 0, 0, by have := HTT.out; omega, by go_num, by go_num, rfl, rfl, Lib.hid HNW.out.1, Lib.hid HNW.out.2⟩
                      · have hpart := HS3.out.part bt h7
                        rw [hz] at hpart
                        have HNW := Lib.hid (show St wr S T (bOn D F (pathOf n c ++ colOf n c s ++ (cellsOf n c s).take (t2 + 1))) o3 (b3 + 1) z from by rw [HR2.out]; exact hpart)
                        have h8 : ((b3 : Int) + 1 == 8) = false := beq_eq_false_iff_ne.2 (by omega)
                        clear hpart hz h7 HS3
                        cases bt with
                        | true =>
                          have hor := HB.out.1 rfl
                          go_wp2_with fail
                          go_roundg r3
                          case measure => omega
                          case rel => exact ⟨t2 + 1, o3, b3 + 1, z, by have := HTT.out; omega, by go_num, rfl, rfl, by go_num, HNW, HFR3⟩
                        | false =>
                          have hor := HB.out.2 rfl
                          go_wp2_with fail
                          go_roundg r3
                          case measure => omega
                          case rel => exact ⟨t2 + 1, o3, b3 + 1, z, by have := HTT.out; omega, by go_num, rfl, rfl, by go_num, HNW, HFR3⟩
end Go.Proofs.YtcekbhhpcmhicaaGreatDoor
