/- Decoder.decode of a symbol that the writer made. -/
import Derived.Test.YtcekbhhpcmhicaaGreatDoorB20
import Derived.Test.YtcekbhhpcmhicaaGreatDoorB18
import Derived.Test.YtcekbhhpcmhicaaGreatDoorB27
import Derived.Test.YtcekbhhpcmhicaaGreatDoorB19
import Derived.Test.YtcekbhhpcmhicaaGreatDoorB21
set_option linter.unusedSimpArgs false
set_option linter.unusedVariables false
namespace Go.Proofs.YtcekbhhpcmhicaaGreatDoor
open Go Go.RowKit Go.Deep
set_option maxRecDepth 100000
theorem fmtLevel_calls {w : World} {f l : Nat} {v : Value} (h : Blk w f 361 #[i64 l, v]) : Calls Tryz.prog 208 #[.pointer (some ⟨f, 0, none⟩)] w fun e w' => e = .returned (i64 l) ∧ w = w' := by
  have c0 := h.cell 0
  go_enter Tryz.func208, Tryz.ntmps208
  go_wp2
  go_ret
  exact ⟨rfl, rfl⟩
theorem readVer_any {w : World} {q p g v : Nat} {B : Nat → Nat → Bool} (hq : PM w q p (.pointer none) (.pointer none)) (h : QM w p g (17 + 4 * v) B) (h1 : 1 ≤ v) (h40 : v ≤ 40)
    (hB : ∀ s, s < 18 → 7 ≤ v → B (s / 3) (17 + 4 * v - 11 + s % 3) = (viBits v).getD (17 - s) false) :
    Calls Tryz.prog 178 #[.pointer (some ⟨q, 0, none⟩)] w fun e w' => ∃ pv lo hi ver, e = .returned (.tuple #[.pointer (some ⟨pv, 0, none⟩), .nilIface]) ∧ VerAt w' lo hi pv v ∧ w.heap.size ≤ lo ∧ hi ≤ w'.heap.size ∧ PM w' q p ver (.pointer none) ∧
      ((ver = .pointer none ∧ v ≤ 6) ∨ ver = .pointer (some ⟨pv, 0, none⟩)) ∧ Fr (One q) w w' := by
  by_cases h6 : v ≤ 6
  · refine (readVer_small hq h h1 h6).mono ?_
    rintro e w' ⟨pv, rfl, hv, hf⟩
    exact ⟨pv, w.heap.size, w'.heap.size, .pointer none, rfl, hv, Nat.le_refl _, Nat.le_refl _, Blk.fr hq hf (fun e => e), .inl ⟨rfl, h6⟩, hf.any _⟩
  · refine (readVer_big hq h (by omega) h40 (vb := viBits v) (viBits_length v) (fun s hs => hB s hs (by omega)) (vin_all v (by omega) (by omega))).mono ?_
    rintro e w' ⟨pv, lo, hi, rfl, hv, h1, h2, hp, hf⟩
    exact ⟨pv, lo, hi, _, rfl, hv, h1, h2, hp, .inr rfl, hf⟩
/-- the blocks of codewords -/
def BB (B : Nat → Nat) (nb : Nat) : Nat → Prop := fun i => ∃ j, j < nb ∧ i = B j
theorem DB.noRow {w : World} {lo rb nb k : Nat} {L dc P B : Nat → Nat} {f : Nat → Nat → Nat} (h : DB w lo rb nb k L dc P B f) : ¬ BB B k rb := by
  rintro ⟨j, hj, e⟩
  exact row_ne h.row (h.dat j hj) (by decide) e
theorem DB.noBlk {w : World} {lo rb nb k : Nat} {L dc P B : Nat → Nat} {f : Nat → Nat → Nat} (h : DB w lo rb nb k L dc P B f) (i : Nat) (hi : i < k) : ¬ BB B k (P i) := by
  rintro ⟨j, hj, e⟩
  exact (h.blk i hi).row_ne (h.dat j hj) (by decide) e
theorem tsum (c d j : Nat) : j * d + (j - c) + dOf c d j = (j + 1) * d + (j + 1 - c) := by
  unfold dOf; rw [Nat.add_mul]; split <;> omega
theorem tsum_le (c d j nb : Nat) (h : j < nb) : (j + 1) * d + (j + 1 - c) ≤ nb * d + (nb - c) := by
  have := Nat.mul_le_mul_right d (show j + 1 ≤ nb from h)
  omega
set_option maxHeartbeats 6400000 in
theorem decode_calls {w0 w : World} {lo f dd t q p g v l k : Nat} {tx : List Nat} {raw : List Bool} {es : List (List Nat)} (hg : GFAt w0 lo f) (hlo : lo ≤ w0.heap.size) (hd : Blk w0 dd 223 #[.pointer (some ⟨f, 0, none⟩)]) (ht : Blk w0 t 162 #[.pointer (some ⟨dd, 0, none⟩)])
    (hf0 : Fr Nil w0 w) (hq : PM w q p (.pointer none) (.pointer none)) (hQ : QM w p g (17 + 4 * v) (cutB (symB v l k (bitsOf (rawW l v raw es))) (17 + 4 * v))) (hq0 : w0.heap.size ≤ q) (hg0 : w0.heap.size ≤ g)
    (hk : k < 8) (hl : l < 4) (hc : Coded tx l v raw es) (ht1 : 1 ≤ tx.length) (ht2 : tx.length ≤ 600) (htb : ∀ c ∈ tx, c < 256) :
    Calls Tryz.prog 175 #[.pointer (some ⟨t, 0, none⟩), .pointer (some ⟨q, 0, none⟩), .map none] w fun e w' => ∃ rp segs gb L, e = .returned (.tuple #[.pointer (some ⟨rp, 0, none⟩), .nilIface]) ∧ Blk w' rp 221 (resCells gb L (strOf tx) segs (lvStr l)) ∧ SegsAt w' segs tx ∧
      (∃ F, w'.rowIs gb 5 L F ∧ ∀ j, j < L → (F j).oneCell' = true) ∧ L ≤ 4000 ∧ 1 ≤ L ∧ Fr Nil w0 w' := by
  have hv1 := hc.v1
  have hv2 := hc.v2
  have hcwl := rawW_len hc
  have hcwb := rawW_lt hc
  have hgs : g < w.heap.size := hQ.ws.lt
  have hqs : q < w.heap.size := Blk.lt hq
  obtain ⟨c, d, c2, hb⟩ := bl_law hv1 (by omega) (lvIdx_lt l)
  obtain ⟨cs, hcs, hsp⟩ := coded_cs hc hb
  have HDA := Lib.hid (coded_data hc)
  have HCNT := Lib.hid (show _ ∧ _ from ⟨hc.cnt, hc.len⟩)
  obtain ⟨cw, hcw⟩ : ∃ cw, rawW l v raw es = cw := ⟨_, rfl⟩
  rw [hcw] at hQ hcwl hcwb hsp
  have hfd := found_read v l k cw hv1 hv2 hk hcwl hcwb
  have hbn := bOn_found (symB v l k (bitsOf cw)) k v (8 + 2 * v) (by omega)
  rw [← hbn] at hfd
  have HFD := Lib.hid hfd
  have HB := Lib.hid hb
  have HCS := Lib.hid hcs
  have HSP := Lib.hid hsp
  have HTB := Lib.hid (show _ ∧ _ ∧ _ from ⟨ht1, ht2, htb⟩)
  have HM := Lib.hid (show _ ∧ _ ∧ _ ∧ _ from ⟨hg, hlo, hd, ht⟩)
  have HQ := Lib.hid hQ
  have HF0 := Lib.hid hf0
  have HL := Lib.hid (show _ ∧ _ ∧ _ ∧ _ from ⟨hq0, hg0, hgs, hqs⟩)
  have HRV := Lib.hid (readVer_any hq hQ hv1 (by omega) (fun s hs h7 => by
    rw [cutB_in _ _ _ _ (by omega) (by omega)]
    exact sym_ver v l k (bitsOf cw) h7 s hs))
  have HPQ : Hid (p ≠ q ∧ g ≠ q) := Lib.hid ⟨hQ.st.ne_ hq (by decide), fun e => (Blk.row_ne hq hQ.ws (by decide)) e.symm⟩
  clear hc hcwl hcwb hb hcs hsp hcw hQ hfd hbn hf0 hq0 hg0 hgs hqs hq hg hd ht hlo ht1 ht2 htb
  go_enter Tryz.func175, Tryz.ntmps175
  go_wp2_with fail
  refine HRV.out.mono ?_
  rintro e w1 ⟨pv, lov, hi, ver, rfl, hv, hlov, hhi, hpm, hver, hf1⟩
  have HV := Lib.hid (show _ ∧ _ ∧ _ from ⟨hv, hlov, hhi⟩)
  have HP := Lib.hid hpm
  have HVER := Lib.hid hver
  have HQ1 := Lib.hid (HQ.out.fr hf1 HPQ.out.1 HPQ.out.2)
  have HF1 := Lib.hid (HF0.out.trans' hf1 (fun i hi (e : i = q) => by have := HL.out.1; omega))
  clear hv hlov hhi hpm hver hf1 HRV HQ HF0
  go_wp2_with fail
  refine (readFormat_calls HP.out HQ1.out (by omega) (tb := tiBits l k) (symB_cut v l k (bitsOf cw) hv1) (l * 8 + k) (by omega) (fmt_all l hl k hk)).mono ?_
  rintro e w2 ⟨fm, rfl, hfm0, hfm, hpm, hf2⟩
  rw [show (l * 8 + k) / 8 = l from by omega, show (l * 8 + k) % 8 = k from by omega] at hfm
  have HFM := Lib.hid hfm
  have HP2 := Lib.hid hpm
  have HQ2 := Lib.hid (HQ1.out.fr hf2 HPQ.out.1 HPQ.out.2)
  have HV2 := Lib.hid (show _ ∧ _ ∧ _ from ⟨HV.out.1.fr hf2 (fun i h1 h2 (e : i = q) => by have := HV.out.2.1; have := HL.out; omega), HV.out.2.1, Nat.le_trans HV.out.2.2 hf2.size⟩)
  have HF2 := Lib.hid (HF1.out.trans' hf2 (fun i hi (e : i = q) => by have := HL.out.1; omega))
  have HGE := Lib.hid (show g < lov from by have := HV.out.2.1; have := HL.out; omega)
  clear hfm0 hfm hpm hf2 HP HQ1 HV HF1
  go_wp2_with fail
  refine (fmtLevel_calls HFM.out).mono ?_
  rintro e w3 ⟨rfl, rfl⟩
  go_wp2_with fail
  have HRC := Lib.hid (readCW_calls HP2.out HQ2.out hv1 hv2 (by
    rcases HVER.out with ⟨e, h⟩ | e
    · exact .inl ⟨e, h⟩
    · exact .inr ⟨pv, lov, hi, e, HV2.out.1, HGE.out, HV2.out.2.2⟩) HFM.out hk HFD.out.1)
  refine HRC.out.mono ?_
  rintro e w3 ⟨S, rfl, hS, hrow, hf3⟩
  have HROW := Lib.hid (show w3.rowIs S 5 (tot v) (fun i => u8 (cw.getD i 0)) from hrow.congr (fun i hi => by rw [HFD.out.2 i hi]))
  have HV3 := Lib.hid (show _ ∧ _ from ⟨HV2.out.1.fr hf3 (fun i h1 h2 (e : i = g) => by have := HGE.out; omega), Nat.le_trans HV2.out.2.2 hf3.size⟩)
  have HF3 := Lib.hid (HF2.out.trans' hf3 (fun i hi (e : i = g) => by have := HL.out.2.1; omega))
  clear hS hrow hf3 HRC HQ2 HP2 HFM HVER HV2 HF2
  go_wp2_with fail
  refine (getDB_calls HV3.out.1 HROW.out hl HB.out).mono ?_
  rintro e w4 ⟨rb, P, B, F, rfl, hdb, hdat, hf4⟩
  have HLEN := Lib.hid HCS.out.len
  have hrows : ∀ j, j < c + c2 → w4.rowIs (B j) 5 (dOf c d j + ecOf v (lvIdx l)) (fun i => u8 ((cs j).getD i 0)) := fun j hj => (hdb.dat j hj).congr (fun i hi => by rw [hdat j i hj hi, HSP.out j i hj hi])
  have HROWS := Lib.hid hrows
  have HDB := Lib.hid hdb
  have HV4 := Lib.hid (show _ ∧ _ from ⟨HV3.out.1.fr hf4 (fun _ _ _ e => e), Nat.le_trans HV3.out.2 hf4.size⟩)
  have HF4 := Lib.hid (HF3.out.trans hf4)
  have HS4 := Lib.hid (show w0.heap.size ≤ w3.heap.size from HF3.out.size)
  clear hdb hdat hf4 hrows HROW HSP HF3
  obtain ⟨nb, hnb⟩ : ∃ nb, c + c2 = nb := ⟨_, rfl⟩
  have hD4 : dataW v (lvIdx l) ≤ 4000 := by
    have := (ver_tot hv1 (by omega : v ≤ 40) (lvIdx_lt l)).2
    unfold dataW; omega
  have hDe := HB.out.D
  have hn2 := HB.out.n2
  have he1 := HB.out.e1
  have he2 := HB.out.e2
  have hd1 := HB.out.d1
  have hc1 := HB.out.c1
  have hd2 := HB.out.d2
  have HEL := Lib.hid HCS.out.el
  have HEV := Lib.hid HCS.out.ev_
  have HDT := Lib.hid HCS.out.dat
  rw [hnb] at HROWS HDB HLEN HEL HEV HDT hn2 hDe ⊢
  clear HCS
  have hcnb : c ≤ nb := by omega
  have hDn : dataW v (lvIdx l) = nb * d + (nb - c) := by omega
  have HDN := Lib.hid hDn
  have HOUT := Lib.hid (bytesOf_length raw (dataW v (lvIdx l)))
  have HOE := Lib.hid (show Elems (bytesOf raw (dataW v (lvIdx l))) from fun x hx => by
    unfold bytesOf at hx
    obtain ⟨i, _, rfl⟩ := List.mem_map.1 hx
    exact rd_lt _ _)
  generalize bytesOf raw (dataW v (lvIdx l)) = out at *
  generalize dataW v (lvIdx l) = D at *
  generalize ecOf v (lvIdx l) = E at *
  have HNB := Lib.hid (show ∀ j, j < nb → j * d + (j - c) + dOf c d j ≤ D ∧ dOf c d j ≤ 201 from fun j hj => ⟨by rw [tsum, HDN.out]; exact tsum_le c d j nb hj, by unfold dOf; split <;> omega⟩)
  clear hnb hDe hDn HB
  go_wp2_with fail
  go_loopg [14, 16, 67] nb (fun r s14 s16 s67 wr => ∃ j T : Nat, Hid (j + r = nb ∧ T = j * d + (j - c)) ∧ s67 = .int .i64 j ∧ s14 = .int .i64 T ∧ wr = w4)
  case atStart => exact ⟨0, 0, Lib.hid ⟨by omega, by simp⟩, rfl, rfl, rfl⟩
  case round =>
    obtain ⟨j, T, HJ, rfl, rfl, rfl⟩ := hrel
    cases gk with
    | succ r =>
      have hj : j < nb := by have := HJ.out; omega
      have hjz : (j : Int) < (nb : Int) := by omega
      have c0 := HDB.out.row.cell hj
      rw [if_pos hj] at c0
      have HN := Lib.hid (dbNum_calls (HDB.out.blk j hj))
      have hb1 := (HNB.out j hj).1
      have hb2 := (HNB.out j hj).2
      have hT : T ≤ 4000 := by have := HJ.out; omega
      have HT := Lib.hid (tsum c d j)
      generalize dOf c d j = x at *
      generalize P j = pj at *
      clear hb1
      go_wp2_with fail
      refine HN.out.mono ?_
      rintro e w5 ⟨rfl, rfl⟩
      go_wp2_with fail
      go_roundg r
      case measure => omega
      case rel => exact ⟨j + 1, T + x, Lib.hid ⟨by have := HJ.out; omega, by rw [← HT.out, HJ.out.2]⟩, by go_num, by go_num, rfl⟩
    | zero =>
      have hjz : ¬ (j : Int) < (nb : Int) := by have := HJ.out; omega
      have hTD : T = D := by have := HJ.out; rw [show j = nb by omega] at this; rw [this.2, HDN.out]
      subst hTD
      obtain ⟨w5, hw5⟩ : ∃ w5, w5 = wr := ⟨_, rfl⟩
      subst hw5
      have hmk := mkBytes T (by omega) w5
      have HNEW := Lib.hid (World.rowIs_made w5 (.int .u8 0) T 5)
      obtain ⟨R, hR⟩ : ∃ R, w5.heap.size = R := ⟨_, rfl⟩
      have HRR := Lib.hid hR
      rw [hR] at hmk HNEW
      clear hR
      go_wp2_with fail
      clear hmk
      go_loopg [18, 20, 21, 22, 23, 24, 80] nb (fun r s18 s20 s21 s22 s23 s24 s80 wq => ∃ j t : Nat, Hid (j + r = nb ∧ t = j * d + (j - c)) ∧ s80 = .int .i64 j ∧ s18 = .int .i64 t ∧ Hid (wq.rowIs R 5 T (fun i => u8 (if i < t then out.getD i 0 else 0))) ∧
        Hid (∀ j, j < nb → wq.rowIs (B j) 5 (dOf c d j + E) (fun i => u8 ((cs j).getD i 0))) ∧ Hid (Fr (BB B nb) w5 wq))
      case atStart => exact ⟨0, 0, Lib.hid ⟨by omega, by simp⟩, rfl, rfl, Lib.hid (HNEW.out.congr (fun i _ => by simp)), Lib.hid (fun j hj => rowFr (HROWS.out j hj) ((Fr.refl Nil _).alloc _) (fun e => e)), Lib.hid ((Fr.refl _ _).alloc _)⟩
      case round =>
        clear HNEW HROWS HJ
        obtain ⟨j, o, HJ, rfl, rfl, HR, HROWS, HF⟩ := hrel
        have HW := Lib.hid (show Fr Nil w0 wr from HF4.out.trans' HF.out (fun i hi e => by
          obtain ⟨a, ha, rfl⟩ := e
          have := HDB.out.loB a ha
          have := HS4.out
          omega))
        cases gk with
        | zero =>
          have hjz2 : ¬ (j : Int) < (nb : Int) := by have := HJ.out; omega
          have ho : o = T := by have := HJ.out; rw [show j = nb by omega] at this; rw [this.2, HDN.out]
          subst ho
          obtain ⟨zs, hz1, hz2⟩ := HDA.out
          have HDS := Lib.hid (decodeStream_calls (w := wr) (gb := R) (lov := lov) (hi := hi) (pv := pv) (v := v) (m := modeOf tx) (lv := l) (l := out) (t := tx) (zs := zs)
            (by rw [HOUT.out]; exact HR.out.congr (fun i hi => by rw [if_pos hi])) HOE.out (by rw [HOUT.out]; exact hD4)
            (HV4.out.1.fr HF.out (fun i h1 h2 e => by
              obtain ⟨a, ha, rfl⟩ := e
              have := HDB.out.loB a ha
              have := HV3.out.2
              omega)) (Nat.le_trans HV4.out.2 HF.out.size) (modeOf_3 tx) hl (modeOf_ok tx) HTB.out.2.1 HTB.out.1 HTB.out.2.2 HCNT.out.1 hz1 hz2)
          rw [HOUT.out] at HDS
          clear hz1 hz2
          go_wp2_with fail
          refine HDS.out.mono ?_
          rintro e w6 ⟨rp, segs, rfl, hres, hseg, hf6⟩
          have HE := Lib.hid (show _ ∧ _ ∧ _ ∧ _ from ⟨hres, hseg, rowFr HR.out hf6 (fun e => e), HW.out.trans hf6⟩)
          have hT1 : 1 ≤ o := by rw [HDN.out]; have : 1 * 1 ≤ nb * d := Nat.mul_le_mul (by omega) hd1; omega
          clear hres hseg hf6 HDS
          go_wp2_with fail
          go_ret2
          exact ⟨rp, segs, R, o, rfl, HE.out.1, HE.out.2.1, ⟨_, HE.out.2.2.1, fun _ _ => rfl⟩, hD4, hT1, HE.out.2.2.2⟩
        | succ r =>
          have hj : j < nb := by have := HJ.out; omega
          have hjz2 : (j : Int) < (nb : Int) := by omega
          have hP := HF.out.cell_some (HDB.out.row.cell hj) HDB.out.noRow
          rw [if_pos hj] at hP
          have HBJ := Lib.hid ((HDB.out.blk j hj).fr HF.out (HDB.out.noBlk j hj))
          have HCB := Lib.hid (correct_calls (w := wr) (lo := lo) (f := f) (d := dd) (t := t) (b := B j) (nd := dOf c d j) (E := E) (cs := cs j) (HM.out.1.fr HW.out (fun e => e) (fun _ _ _ e => e) (fun _ _ _ e => e)) (HM.out.2.2.1.fr HW.out (fun e => e)) (HM.out.2.2.2.fr HW.out (fun e => e))
            (by rw [HLEN.out j hj]; exact HROWS.out j hj) (by rw [HLEN.out j hj]; omega) (by rw [HLEN.out j hj]; have := (HNB.out j hj).2; omega) (HEL.out j hj) (Nat.le_trans HM.out.2.1 HW.out.size) (HLEN.out j hj).symm he1 (by omega) (HEV.out j hj))
          rw [HLEN.out j hj] at HCB
          have hb1 := (HNB.out j hj).1
          have hb2 := (HNB.out j hj).2
          have HB1 := Lib.hid hb1
          have HTS := Lib.hid (tsum c d j)
          have HO := Lib.hid (show o + dOf c d j ≤ T from by rw [HJ.out.2]; exact hb1)
          have HDJ := Lib.hid (fun i (hi : i < dOf c d j) => (show (cs j).getD i 0 = out.getD (o + i) 0 from by rw [HJ.out.2]; exact HDT.out j i hj hi))
          have HRJ := Lib.hid (fun (wz : World) (h : ∀ j, j < nb → wz.rowIs (B j) 5 (dOf c d j + E) (fun i => u8 ((cs j).getD i 0))) => h j hj)
          obtain ⟨D, hDD⟩ : ∃ D, dOf c d j = D := ⟨_, rfl⟩
          obtain ⟨L, hLL⟩ : ∃ L, D + E = L := ⟨_, rfl⟩
          rw [hDD] at hb2 HBJ HCB HTS HO HDJ HRJ
          rw [hLL] at HBJ HCB HRJ
          have HLL := Lib.hid hLL
          have HDD := Lib.hid hDD
          obtain ⟨pj, hpj⟩ : ∃ pj, P j = pj := ⟨_, rfl⟩
          obtain ⟨bj, hbj⟩ : ∃ bj, B j = bj := ⟨_, rfl⟩
          rw [hpj] at hP HBJ
          rw [hbj] at HBJ HCB HRJ
          have HBB := Lib.hid hbj
          clear hb1 hDD hLL hpj hbj
          go_wp2_with fail
          refine (dbCW_calls HBJ.out).mono ?_
          rintro e w6 ⟨rfl, rfl⟩
          go_wp2_with fail
          refine (dbNum_calls HBJ.out).mono ?_
          rintro e w6 ⟨rfl, rfl⟩
          clear hP
          go_wp2_with fail
          refine HCB.out.mono ?_
          rintro e w6 ⟨rfl, hrow6, hf6⟩
          have HF6 := Lib.hid (HF.out.trans' hf6 (fun i hi e => ⟨j, hj, by rw [HBB.out]; exact e⟩))
          have HR6 := Lib.hid (rowFr HR.out hf6 (fun e => by
            have e : R = bj := e
            have h1 := (HDB.out.dat j hj).lt
            rw [HBB.out, HRR.out] at h1
            omega))
          have HROW6 := Lib.hid (show ∀ j, j < nb → w6.rowIs (B j) 5 (dOf c d j + E) (fun i => u8 ((cs j).getD i 0)) from fun j2 hj2 => by
            by_cases e : j2 = j
            · subst e
              rw [HBB.out, HDD.out, HLL.out]
              exact hrow6
            · refine rowFr (HROWS.out j2 hj2) hf6 (fun e2 => e ?_)
              have e2 : B j2 = bj := e2
              rw [← HBB.out] at e2
              rcases Nat.lt_trichotomy j2 j with h | h | h
              · have := HDB.out.inj _ _ h hj; omega
              · exact h
              · have := HDB.out.inj _ _ h hj2; omega)
          clear hrow6 hf6 HBJ HCB HF HR HROWS HW
          go_wp2_with fail
          go_loopg [18, 24] D (fun r2 s18 s24 wz => ∃ i p : Nat, Hid (i + r2 = D ∧ p = o + i) ∧ s24 = .int .i64 i ∧ s18 = .int .i64 p ∧ Hid (wz.rowIs R 5 T (fun a => u8 (if a < p then out.getD a 0 else 0))) ∧
            Hid (∀ j, j < nb → wz.rowIs (B j) 5 (dOf c d j + E) (fun i => u8 ((cs j).getD i 0))) ∧ Hid (Fr (BB B nb) w5 wz))
          case atStart => exact ⟨0, o, Lib.hid (by simp), rfl, rfl, HR6, HROW6, HF6⟩
          case round =>
            clear HR6 HROW6 HF6
            obtain ⟨i, p, HI, rfl, rfl, HR, HROWS, HF⟩ := hrel
            cases gk with
            | zero =>
              have hiz : ¬ (i : Int) < (D : Int) := by have := HI.out; omega
              go_wp2_with fail
              go_roundg r
              case measure => omega
              case rel => exact ⟨j + 1, p, Lib.hid ⟨by have := HJ.out; omega, by have := HI.out; have := HJ.out; rw [← HTS.out]; omega⟩, by go_num, rfl, HR, HROWS, HF⟩
            | succ r2 =>
              have hiz : (i : Int) < (D : Int) := by have := HI.out; omega
              have hiL : i < L := by have := HLL.out; omega
              have hpT : p < T := by have := HO.out; have := HI.out; omega
              have b0 := (HRJ.out _ HROWS.out).cell hiL
              rw [HDJ.out i (by omega), ← HI.out.2] at b0
              have z0 := HR.out.frozen p
              have z1 := HR.out.cell hpT
              have HNEW := Lib.hid (show _ ∧ _ ∧ _ from ⟨(HR.out.set p (u8 (out.getD p 0))).congr (g := fun a => u8 (if a < p + 1 then out.getD a 0 else 0)) (fun a ha => by
                  by_cases e : a = p
                  · rw [if_pos e, e, if_pos (by omega)]
                  · rw [if_neg e]
                    by_cases h : a < p
                    · rw [if_pos h, if_pos (by omega)]
                    · rw [if_neg h, if_neg (by omega)]),
                (fun j2 (hj2 : j2 < nb) => (HROWS.out j2 hj2).setOther (a := ⟨R, p, none⟩) (by
                  have h1 := (HDB.out.dat j2 hj2).lt
                  rw [HRR.out] at h1
                  show B j2 ≠ R
                  omega) (u8 (out.getD p 0))),
                HF.out.setNew (by rw [HRR.out]; exact Nat.le_refl _) p (u8 (out.getD p 0))⟩)
              generalize out.getD p 0 = xv at *
              clear HR HROWS HF
              go_wp2_with fail
              go_roundg r2
              case measure => omega
              case rel => exact ⟨i + 1, p + 1, Lib.hid (by have := HI.out; omega), by go_num, by go_num, Lib.hid HNEW.out.1, Lib.hid HNEW.out.2.1, Lib.hid HNEW.out.2.2⟩
end Go.Proofs.YtcekbhhpcmhicaaGreatDoor
/- The decoder made and called on rows of modules: NewDecoder, Decode, DecodeBoolMap. -/
namespace Go.Proofs.YtcekbhhpcmhicaaGreatDoor
open Go Go.RowKit Go.Deep
set_option maxRecDepth 100000
theorem newRSD_calls (w : World) (f : Nat) : Calls Tryz.prog 88 #[.pointer (some ⟨f, 0, none⟩)] w fun e w' => e = .returned (.pointer (some ⟨w.heap.size, 0, none⟩)) ∧ Blk w' w.heap.size 223 #[.pointer (some ⟨f, 0, none⟩)] ∧ Fr Nil w w' := by
  have HF := Lib.hid (show _ ∧ _ from ⟨Blk.new w 223 #[.pointer (some ⟨f, 0, none⟩)], (Fr.refl Nil w).alloc (.cells #[.pointer (some ⟨f, 0, none⟩)] 223)⟩)
  go_enter Tryz.func88, Tryz.ntmps88
  go_wp2
  go_ret
  exact ⟨rfl, HF.out.1, HF.out.2⟩
/-- a decoder -/
structure DecAt (w : World) (lo f d t : Nat) : Prop where
  g : GFAt w lo f
  lo_ : lo ≤ w.heap.size
  d_ : Blk w d 223 #[.pointer (some ⟨f, 0, none⟩)]
  t_ : Blk w t 162 #[.pointer (some ⟨d, 0, none⟩)]
theorem newDecoder_calls (w : World) : Calls Tryz.prog 31 #[] w fun e w' => ∃ lo f d t, e = .returned (.pointer (some ⟨t, 0, none⟩)) ∧ DecAt w' lo f d t ∧ Fr Nil w w' := by
  go_enter Tryz.func31, Tryz.ntmps31
  go_wp2_with fail
  refine (qrField_calls w).mono ?_
  rintro e w1 ⟨rfl, hg, hf⟩
  have HG := Lib.hid hg
  have HF := Lib.hid hf
  clear hg hf
  go_wp2_with fail
  refine (newRSD_calls w1 w.heap.size).mono ?_
  rintro e w2 ⟨rfl, hd, hf2⟩
  have HD := Lib.hid hd
  have HF2 := Lib.hid hf2
  obtain ⟨d, hd⟩ : ∃ d, w1.heap.size = d := ⟨_, rfl⟩
  have HDE := Lib.hid hd
  rw [hd] at HD ⊢
  have HNEW := Lib.hid (show Blk (w2.alloc (.cells #[.pointer (some ⟨d, 0, none⟩)] 162)) w2.heap.size 162 #[.pointer (some ⟨d, 0, none⟩)] ∧ Fr Nil w2 (w2.alloc (.cells #[.pointer (some ⟨d, 0, none⟩)] 162)) from ⟨Blk.new _ _ _, (Fr.refl Nil w2).alloc _⟩)
  clear hd hf2
  go_wp2_with fail
  go_ret
  have h2 := HF2.out.trans HNEW.out.2
  have hsz := HF.out.size
  have hsz2 := h2.size
  exact ⟨w.heap.size, w.heap.size, d, w2.heap.size, rfl, ⟨HG.out.fr h2 (fun e => e) (fun _ _ _ e => e) (fun _ _ _ e => e), by omega, HD.out.fr HNEW.out.2 (fun e => e), HNEW.out.1⟩, HF.out.trans h2⟩
/-- what a decoder says of a text on a level -/
def ResAt (w : World) (rp : Nat) (tx : List Nat) (l : Nat) : Prop := ∃ segs gb L, Blk w rp 221 (resCells gb L (strOf tx) segs (lvStr l)) ∧ SegsAt w segs tx ∧ (∃ F, w.rowIs gb 5 L F ∧ ∀ j, j < L → (F j).oneCell' = true) ∧ L ≤ 4000 ∧ 1 ≤ L
set_option maxHeartbeats 1600000 in
theorem decodeM_calls {w0 w : World} {lo f dd t p g v l k : Nat} {tx : List Nat} {raw : List Bool} {es : List (List Nat)} (hD : DecAt w0 lo f dd t) (hf0 : Fr Nil w0 w)
    (hQ : QM w p g (17 + 4 * v) (cutB (symB v l k (bitsOf (rawW l v raw es))) (17 + 4 * v))) (hg0 : w0.heap.size ≤ g)
    (hk : k < 8) (hl : l < 4) (hc : Coded tx l v raw es) (ht1 : 1 ≤ tx.length) (ht2 : tx.length ≤ 600) (htb : ∀ c ∈ tx, c < 256) :
    Calls Tryz.prog 132 #[.pointer (some ⟨t, 0, none⟩), .pointer (some ⟨p, 0, none⟩), .map none] w fun e w' => ∃ rp, e = .returned (.tuple #[.pointer (some ⟨rp, 0, none⟩), .nilIface]) ∧ ResAt w' rp tx l ∧ Fr Nil w0 w' := by
  have hv1 := hc.v1
  have HN := Lib.hid (newParser_calls hQ hv1)
  have HQ := Lib.hid hQ
  have HDC := Lib.hid (fun (w1 : World) (q : Nat) (hf : Fr Nil w0 w1) (hq : PM w1 q p (.pointer none) (.pointer none)) (hQ : QM w1 p g (17 + 4 * v) (cutB (symB v l k (bitsOf (rawW l v raw es))) (17 + 4 * v))) (hq0 : w0.heap.size ≤ q) =>
    decode_calls hD.g hD.lo_ hD.d_ hD.t_ hf hq hQ hq0 hg0 hk hl hc ht1 ht2 htb)
  have HF := Lib.hid hf0
  clear hD hf0 hQ hg0 hc ht1 ht2 htb
  go_enter Tryz.func132, Tryz.ntmps132
  go_wp2_with fail
  refine HN.out.mono ?_
  rintro e w1 ⟨rfl, hp, hf⟩
  have HC := Lib.hid (HDC.out w1 w.heap.size (HF.out.trans hf) hp (HQ.out.nil hf) HF.out.size)
  clear hp hf HN HDC
  go_wp2_with fail
  refine HC.out.mono ?_
  rintro e w2 ⟨rp, segs, gb, L, rfl, hr⟩
  have HR := Lib.hid hr
  clear hr HC
  go_wp2_with fail
  go_ret2
  exact ⟨rp, rfl, ⟨segs, gb, L, HR.out.1, HR.out.2.1, HR.out.2.2.1, HR.out.2.2.2.1, HR.out.2.2.2.2.1⟩, HR.out.2.2.2.2.2⟩
set_option maxHeartbeats 1600000 in
theorem decodeB_calls {w0 w : World} {lo f dd t gm cap v l k : Nat} {R : Nat → Nat} {tx : List Nat} {raw : List Bool} {es : List (List Nat)} (hD : DecAt w0 lo f dd t) (hf0 : Fr Nil w0 w)
    (hM : MM w gm (17 + 4 * v) R (symB v l k (bitsOf (rawW l v raw es)))) (hcap : 17 + 4 * v ≤ cap)
    (hk : k < 8) (hl : l < 4) (hc : Coded tx l v raw es) (ht1 : 1 ≤ tx.length) (ht2 : tx.length ≤ 600) (htb : ∀ c ∈ tx, c < 256) :
    Calls Tryz.prog 90 #[.pointer (some ⟨t, 0, none⟩), .slice (some ⟨gm, 0, none⟩) (17 + 4 * v) cap, .map none] w fun e w' => ∃ rp, e = .returned (.tuple #[.pointer (some ⟨rp, 0, none⟩), .nilIface]) ∧ ResAt w' rp tx l ∧ Fr Nil w0 w' := by
  have hv1 := hc.v1
  have hv2 := hc.v2
  have HN := Lib.hid (parse_calls hM (by omega) (by omega) hcap)
  have HDC := Lib.hid (fun (w1 : World) (p g : Nat) (hf : Fr Nil w0 w1) (hQ : QM w1 p g (17 + 4 * v) (cutB (symB v l k (bitsOf (rawW l v raw es))) (17 + 4 * v))) (hg0 : w0.heap.size ≤ g) =>
    decodeM_calls hD hf hQ hg0 hk hl hc ht1 ht2 htb)
  have HF := Lib.hid hf0
  clear hD hf0 hM hc ht1 ht2 htb
  go_enter Tryz.func90, Tryz.ntmps90
  go_wp2_with fail
  refine HN.out.mono ?_
  rintro e w1 ⟨p, g, rfl, ⟨hq, hg⟩, hf⟩
  have HC := Lib.hid (HDC.out w1 p g (HF.out.trans hf) hq (Nat.le_trans HF.out.size hg))
  clear hq hg hf HN HDC
  go_wp2_with fail
  refine HC.out.mono ?_
  rintro e w2 ⟨rp, rfl, hr, hf⟩
  have HR := Lib.hid (show _ ∧ _ from ⟨hr, hf⟩)
  clear hr hf HC
  go_wp2_with fail
  go_ret2
  exact ⟨rp, rfl, HR.out⟩
set_option maxHeartbeats 1600000 in
theorem decodeH_calls {w0 w : World} {lo f dd t gm cap v l k : Nat} {R : Nat → Nat} {tx : List Nat} {raw : List Bool} {es : List (List Nat)} (hD : DecAt w0 lo f dd t) (hf0 : Fr Nil w0 w)
    (hM : MM w gm (17 + 4 * v) R (symB v l k (bitsOf (rawW l v raw es)))) (hcap : 17 + 4 * v ≤ cap)
    (hk : k < 8) (hl : l < 4) (hc : Coded tx l v raw es) (ht1 : 1 ≤ tx.length) (ht2 : tx.length ≤ 600) (htb : ∀ c ∈ tx, c < 256) :
    Calls Tryz.prog 32 #[.pointer (some ⟨t, 0, none⟩), .slice (some ⟨gm, 0, none⟩) (17 + 4 * v) cap] w fun e w' => ∃ rp, e = .returned (.tuple #[.pointer (some ⟨rp, 0, none⟩), .nilIface]) ∧ ResAt w' rp tx l ∧ Fr Nil w0 w' := by
  have HC := Lib.hid (decodeB_calls hD hf0 hM hcap hk hl hc ht1 ht2 htb)
  clear hD hf0 hM hc ht1 ht2 htb
  go_enter Tryz.func32, Tryz.ntmps32
  go_wp2_with fail
  refine HC.out.mono ?_
  rintro e w2 ⟨rp, rfl, hr, hf⟩
  have HR := Lib.hid (show _ ∧ _ from ⟨hr, hf⟩)
  clear hr hf HC
  go_wp2_with fail
  go_ret2
  exact ⟨rp, rfl, HR.out⟩
end Go.Proofs.YtcekbhhpcmhicaaGreatDoor
/- The decoder's result: getters; 'decoded'; QRDecode. -/
namespace Go.Proofs.YtcekbhhpcmhicaaGreatDoor
open Go Go.RowKit Go.Deep
set_option maxRecDepth 100000
section
variable {w : World} {rp gb L : Nat} {txt lv : ByteArray} {segs : Value} (h : Blk w rp 221 (resCells gb L txt segs lv))
include h
theorem resSegs_calls : Calls Tryz.prog 80 #[.pointer (some ⟨rp, 0, none⟩)] w fun e w' => e = .returned segs ∧ w = w' := by
  have c := h.cell 3
  unfold resCells at c
  clear h
  go_enter Tryz.func80, Tryz.ntmps80
  go_wp2
  go_ret
  exact ⟨rfl, rfl⟩
theorem resText_calls : Calls Tryz.prog 81 #[.pointer (some ⟨rp, 0, none⟩)] w fun e w' => e = .returned (.string txt) ∧ w = w' := by
  have c := h.cell 2
  unfold resCells at c
  clear h
  go_enter Tryz.func81, Tryz.ntmps81
  go_wp2
  go_ret
  exact ⟨rfl, rfl⟩
theorem resRaw_calls : Calls Tryz.prog 82 #[.pointer (some ⟨rp, 0, none⟩)] w fun e w' => e = .returned (.slice (some ⟨gb, 0, none⟩) L L) ∧ w = w' := by
  have c := h.cell 0
  unfold resCells at c
  clear h
  go_enter Tryz.func82, Tryz.ntmps82
  go_wp2
  go_ret
  exact ⟨rfl, rfl⟩
theorem resLevel_calls : Calls Tryz.prog 83 #[.pointer (some ⟨rp, 0, none⟩)] w fun e w' => e = .returned (.string lv) ∧ w = w' := by
  have c := h.cell 4
  unfold resCells at c
  clear h
  go_enter Tryz.func83, Tryz.ntmps83
  go_wp2
  go_ret
  exact ⟨rfl, rfl⟩
theorem resErrs_calls : Calls Tryz.prog 84 #[.pointer (some ⟨rp, 0, none⟩)] w fun e w' => e = .returned (.int .i64 0) ∧ w = w' := by
  have c := h.cell 5
  unfold resCells at c
  clear h
  go_enter Tryz.func84, Tryz.ntmps84
  go_wp2
  go_ret
  exact ⟨rfl, rfl⟩
theorem resSeq_calls : Calls Tryz.prog 85 #[.pointer (some ⟨rp, 0, none⟩)] w fun e w' => e = .returned (.int .i64 (-1)) ∧ w = w' := by
  have c := h.cell 9
  unfold resCells at c
  clear h
  go_enter Tryz.func85, Tryz.ntmps85
  go_wp2
  go_ret
  exact ⟨rfl, rfl⟩
theorem resPar_calls : Calls Tryz.prog 86 #[.pointer (some ⟨rp, 0, none⟩)] w fun e w' => e = .returned (.int .i64 (-1)) ∧ w = w' := by
  have c := h.cell 8
  unfold resCells at c
  clear h
  go_enter Tryz.func86, Tryz.ntmps86
  go_wp2
  go_ret
  exact ⟨rfl, rfl⟩
theorem resMod_calls : Calls Tryz.prog 87 #[.pointer (some ⟨rp, 0, none⟩)] w fun e w' => e = .returned (.int .i64 1) ∧ w = w' := by
  have c := h.cell 10
  unfold resCells at c
  clear h
  go_enter Tryz.func87, Tryz.ntmps87
  go_wp2
  go_ret
  exact ⟨rfl, rfl⟩
end
/-- bytes behind a nil slice: a new array -/
theorem appN {w : World} {rb n cap : Nat} {f : Nat → Value} (h : w.rowIs rb 5 n f) (hn : n ≤ 1000000) (hn1 : 1 ≤ n) (h1 : ∀ j, j < n → (f j).oneCell' = true) :
    ∃ g2 cap2 w2, (Builtin.append_ #[30, 30] 30 #[.slice none 0 0, .slice (some ⟨rb, 0, none⟩) n cap]).run Tryz.prog w = .ok (.slice (some ⟨g2, 0, none⟩) n cap2) w2 ∧ Fr Nil w w2 := by
  obtain ⟨i5, hi5, hzi⟩ := Option.map_eq_some_iff.1 Tryz.inf5
  simp only [Prod.mk.injEq] at hzi
  obtain ⟨g2, cap2, w7, hap, hown2, hgrow, hlies, hlt⟩ := run_append_lies (P := Tryz.prog) (w := w) 30 30 w.heap.size 5 i5 (.int .u8 0) 1 1 Tryz.und30 hi5 hzi.1 hzi.2.1 hzi.2.2 rfl (by omega)
    (.slice none 0 0) 0 [] (owns_nil _ _ _) ⟨rb, 0, none⟩ n cap ((List.range n).map f) (by simp)
    (fun k u hu => by
      have hk : k < n := by
        rcases Nat.lt_or_ge k n with h | h
        · exact h
        · rw [List.getElem?_eq_none (by simpa using h)] at hu; cases hu
      rw [List.getElem?_map, List.getElem?_range hk] at hu
      simp at hu
      rw [addr_add_row, Nat.zero_add, ← hu]
      exact h.cell hk) (fun u hu => by
      obtain ⟨x, hx, rfl⟩ := List.mem_map.1 hu
      exact h1 x (by simpa using hx)) (by omega) (by have : maxLen = 9223372036854775807 := rfl; omega) (by omega) (Nat.le_refl _) _ rfl
  rw [Nat.zero_add] at hap
  exact ⟨g2, cap2, w7, hap, (Fr.of_grown hgrow).mono fun k _ e => by cases e⟩
theorem segs_form {w : World} {segs : Value} {t : List Nat} (h : SegsAt w segs t) : ∃ sa N cs, segs = .slice sa N cs ∧ N ≤ 1 ∧ (0 < N → ∃ gs rb, sa = some ⟨gs, 0, none⟩ ∧ w.cell? ⟨gs, 0, none⟩ = some (.slice (some ⟨rb, 0, none⟩) t.length t.length) ∧ w.rowIs rb 5 t.length (fun i => u8 (t.getD i 0))) := by
  rcases h with h | ⟨gs, cs, rb, h, h1, h2⟩
  · exact ⟨none, 0, 0, h, by omega, fun e => absurd e (by omega)⟩
  · exact ⟨_, 1, cs, h, by omega, fun _ => ⟨gs, rb, rfl, h1, h2⟩⟩
set_option maxHeartbeats 3200000 in
theorem decoded_calls {w : World} {rp l : Nat} {tx : List Nat} (h : ResAt w rp tx l) (ht1 : 1 ≤ tx.length) (ht2 : tx.length ≤ 600) :
    Calls Tryz.prog 30 #[.pointer (some ⟨rp, 0, none⟩), .nilIface] w fun e w' => ∃ (a1 : Option Addr) (a2 a3 : Nat) (b1 : Option Addr) (b2 b3 : Nat), e = .returned (.tuple #[.agg #[.string (strOf tx), .slice a1 a2 a3, .slice b1 b2 b3, .string (lvStr l), .int .i64 0, .int .i64 (-1), .int .i64 (-1), .int .i64 1], .bool true]) ∧ Fr Nil w w' := by
  obtain ⟨segs, gb, L, hb, hs, ⟨F, hr, hro⟩, hL, hL1⟩ := h
  obtain ⟨sa, N, cs, rfl, hN, hsg⟩ := segs_form hs
  have HB := Lib.hid (fun (w' : World) (hf : Fr Nil w w') => hb.fr hf (fun e => e))
  have HR := Lib.hid (fun (w' : World) (hf : Fr Nil w w') => rowFr hr hf (fun e => e))
  have HSG := Lib.hid hsg
  have HS0 := Lib.hid (resSegs_calls hb)
  have HRO := Lib.hid hro
  clear hb hs hr hsg hro
  obtain ⟨w1, hw1⟩ : ∃ w1, w.alloc (.cells #[.string ⟨#[]⟩, .slice none 0 0, .slice none 0 0, .string ⟨#[]⟩, .int .i64 0, .int .i64 0, .int .i64 0, .int .i64 0] 33) = w1 := ⟨_, rfl⟩
  have HZ := Lib.hid (show Blk w1 w.heap.size 33 #[.string ⟨#[]⟩, .slice none 0 0, .slice none 0 0, .string ⟨#[]⟩, .int .i64 0, .int .i64 0, .int .i64 0, .int .i64 0] ∧ Fr Nil w w1 from by rw [← hw1]; exact ⟨Blk.new _ _ _, (Fr.refl _ _).alloc _⟩)
  have HW1 := Lib.hid hw1
  obtain ⟨tb, htb⟩ : ∃ tb, w.heap.size = tb := ⟨_, rfl⟩
  have HTB := Lib.hid htb
  rw [htb] at HZ
  clear hw1 htb HS0
  go_enter Tryz.func30, Tryz.ntmps30
  go_wp2_with fail
  rw [HW1.out]
  refine (resSegs_calls (HB.out _ HZ.out.2)).mono ?_
  rintro e w2 ⟨rfl, rfl⟩
  go_wp2_with fail
  rw [HTB.out]
  go_loopg [6, 8, 15] N (fun r s6 s8 s15 wr => ∃ (i : Nat) (b : Option Addr) (n c : Nat), Hid (i + r = N ∧ (i = 0 → b = none ∧ n = 0 ∧ c = 0)) ∧ s15 = .int .i64 i ∧ s6 = .slice b n c ∧ Hid (Blk wr tb 33 #[.string ⟨#[]⟩, .slice none 0 0, .slice none 0 0, .string ⟨#[]⟩, .int .i64 0, .int .i64 0, .int .i64 0, .int .i64 0]) ∧ Hid (Fr Nil w wr))
  case atStart => exact ⟨0, none, 0, 0, Lib.hid ⟨by omega, fun _ => ⟨rfl, rfl, rfl⟩⟩, rfl, rfl, Lib.hid HZ.out.1, Lib.hid HZ.out.2⟩
  case round =>
    clear HZ
    obtain ⟨i, b, n, c, HI, rfl, rfl, HZ, HF⟩ := hrel
    cases gk with
    | zero =>
      have hiz : ¬ (i : Int) < (N : Int) := by have := HI.out; omega
      have HBR := Lib.hid (HB.out wr HF.out)
      obtain ⟨g2, cap2, w3, hap, hf3⟩ := appN (cap := L) (HR.out wr HF.out) (by omega) hL1 (fun j hj => HRO.out j hj)
      have HAP := Lib.hid hap
      have HF3 := Lib.hid (HF.out.trans hf3)
      have HB3 := Lib.hid (HB.out w3 (HF.out.trans hf3))
      have HZ3 := Lib.hid (HZ.out.fr hf3 (fun e => e))
      clear hap hf3
      go_wp2_with fail
      refine (resText_calls HBR.out).mono ?_
      rintro e w4 ⟨rfl, rfl⟩
      go_wp2_with fail
      refine (resRaw_calls HBR.out).mono ?_
      rintro e w4 ⟨rfl, rfl⟩
      clear HBR HZ HF
      go_wp2_with (at_builtin; refine Lib.wpList_append_run _ rfl _ _ _ _ rfl _ _ rfl rfl _ _ HAP.out ?_)
      refine (resLevel_calls HB3.out).mono ?_
      rintro e w4 ⟨rfl, rfl⟩
      go_wp2_with fail
      refine (resErrs_calls HB3.out).mono ?_
      rintro e w4 ⟨rfl, rfl⟩
      go_wp2_with fail
      refine (resSeq_calls HB3.out).mono ?_
      rintro e w4 ⟨rfl, rfl⟩
      go_wp2_with fail
      refine (resPar_calls HB3.out).mono ?_
      rintro e w4 ⟨rfl, rfl⟩
      go_wp2_with fail
      refine (resMod_calls HB3.out).mono ?_
      rintro e w4 ⟨rfl, rfl⟩
      have z0 := HZ3.out.cell 0
      have z1 := HZ3.out.cell 1
      have z2 := HZ3.out.cell 2
      have z3 := HZ3.out.cell 3
      have z4 := HZ3.out.cell 4
      have z5 := HZ3.out.cell 5
      have z6 := HZ3.out.cell 6
      have z7 := HZ3.out.cell 7
      have y0 := HZ3.out.frozen 0
      have y1 := HZ3.out.frozen 1
      have y2 := HZ3.out.frozen 2
      have y3 := HZ3.out.frozen 3
      have y4 := HZ3.out.frozen 4
      have y5 := HZ3.out.frozen 5
      have y6 := HZ3.out.frozen 6
      have y7 := HZ3.out.frozen 7
      obtain ⟨W, hW⟩ : ∃ W, ((((((((w3.setCell ⟨tb, 0, none⟩ (.string (strOf tx))).setCell ⟨tb, 1, none⟩ (.slice (some ⟨g2, 0, none⟩) L cap2)).setCell ⟨tb, 2, none⟩ (.slice b n c)).setCell ⟨tb, 3, none⟩ (.string (lvStr l))).setCell ⟨tb, 4, none⟩ (.int .i64 0)).setCell ⟨tb, 5, none⟩ (.int .i64 (-1))).setCell ⟨tb, 6, none⟩ (.int .i64 (-1))).setCell ⟨tb, 7, none⟩ (.int .i64 1)) = W := ⟨_, rfl⟩
      have hB : Blk W tb 33 #[.string (strOf tx), .slice (some ⟨g2, 0, none⟩) L cap2, .slice b n c, .string (lvStr l), .int .i64 0, .int .i64 (-1), .int .i64 (-1), .int .i64 1] := by rw [← hW]; exact ((((((((HZ3.out.set_ 0 (.string (strOf tx))).set_ 1 (.slice (some ⟨g2, 0, none⟩) L cap2)).set_ 2 (.slice b n c)).set_ 3 (.string (lvStr l))).set_ 4 (.int .i64 0)).set_ 5 (.int .i64 (-1))).set_ 6 (.int .i64 (-1))).set_ 7 (.int .i64 1))
      have hFW : Fr Nil w W := by
        rw [← hW]
        exact ((((((((HF3.out.setNew (by rw [HTB.out]; exact Nat.le_refl _) 0 (.string (strOf tx))).setNew (by rw [HTB.out]; exact Nat.le_refl _) 1 (.slice (some ⟨g2, 0, none⟩) L cap2)).setNew (by rw [HTB.out]; exact Nat.le_refl _) 2 (.slice b n c)).setNew (by rw [HTB.out]; exact Nat.le_refl _) 3 (.string (lvStr l))).setNew (by rw [HTB.out]; exact Nat.le_refl _) 4 (.int .i64 0)).setNew (by rw [HTB.out]; exact Nat.le_refl _) 5 (.int .i64 (-1))).setNew (by rw [HTB.out]; exact Nat.le_refl _) 6 (.int .i64 (-1))).setNew (by rw [HTB.out]; exact Nat.le_refl _) 7 (.int .i64 1))
      have HBW := Lib.hid (show _ ∧ _ from ⟨hB, hFW⟩)
      have HWE := Lib.hid hW
      clear hB hFW hW
      go_wp2_with fail
      rw [HWE.out]
      obtain ⟨hB, hFW⟩ := HBW.out
      have x0 := hB.cell 0
      have x1 := hB.cell 1
      have x2 := hB.cell 2
      have x3 := hB.cell 3
      have x4 := hB.cell 4
      have x5 := hB.cell 5
      have x6 := hB.cell 6
      have x7 := hB.cell 7
      exact bodyPost_ret (v := .tuple #[.agg #[.string (strOf tx), .slice (some ⟨g2, 0, none⟩) L cap2, .slice b n c, .string (lvStr l), .int .i64 0, .int .i64 (-1), .int .i64 (-1), .int .i64 1], .bool true]) (by simp [results, Tryz.results30, go_sem, x0, x1, x2, x3, x4, x5, x6, x7]) rfl ⟨_, _, _, _, _, _, rfl, hFW⟩
    | succ r =>
      have hiz : (i : Int) < (N : Int) := by have := HI.out; omega
      obtain ⟨rfl, rfl, rfl⟩ : i = 0 ∧ r = 0 ∧ N = 1 := by have := HI.out; omega
      obtain ⟨rfl, rfl, rfl⟩ := HI.out.2 rfl
      obtain ⟨gs, rb, rfl, hc0, hrb⟩ := HSG.out (by omega)
      have c0 := HF.out.cell_some hc0 (fun e => e)
      obtain ⟨g2, cap2, w3, hap, hf3⟩ := appN (cap := tx.length) (rowFr hrb HF.out (fun e => e)) (by omega) ht1 (fun j hj => rfl)
      obtain ⟨g4, cap4, w4, hap4, -, hf4, -⟩ := appV (w := w3) (lo := w3.heap.size) (n := 0) (T := 30) (ST := 31) (sv := .slice none 0 0) (v := .slice (some ⟨g2, 0, none⟩) tx.length cap2) Tryz.und31 Tryz.inf30 rfl (by omega) (owns_nil _ _ _) (by omega) (Nat.le_refl _) rfl
      have hf34 : Fr Nil wr w4 := hf3.trans (hf4.mono fun k _ e => by cases e)
      have HAP := Lib.hid hap
      have HAP4 := Lib.hid hap4
      have HF4 := Lib.hid (HF.out.trans hf34)
      have HZ4 := Lib.hid (HZ.out.fr hf34 (fun e => e))
      have tok1 : True := trivial
      have tok2 : True := trivial
      clear hap hf3 hap4 hf4 hf34 HZ HF hc0 hrb
      go_wp2_with (first | (at_builtin; have _t := tok1; refine Lib.wpList_append_run _ rfl _ _ _ _ rfl _ _ rfl rfl _ _ HAP.out ?_; clear tok1) | (at_builtin; have _t := tok2; refine Lib.wpList_append_run _ rfl _ _ _ _ rfl _ _ rfl rfl _ _ HAP4.out ?_; clear tok2))
      go_roundg 0
      case measure => omega
      case rel => exact ⟨1, _, _, _, Lib.hid ⟨rfl, fun e => absurd e (by omega)⟩, by go_num, rfl, HZ4, HF4⟩
set_option maxHeartbeats 3200000 in
theorem qrDecode_calls {w : World} {gm cap v l k : Nat} {R : Nat → Nat} {tx : List Nat} {raw : List Bool} {es : List (List Nat)}
    (hM : MM w gm (17 + 4 * v) R (symB v l k (bitsOf (rawW l v raw es)))) (hcap : 17 + 4 * v ≤ cap)
    (hk : k < 8) (hl : l < 4) (hc : Coded tx l v raw es) (ht1 : 1 ≤ tx.length) (ht2 : tx.length ≤ 600) (htb : ∀ c ∈ tx, c < 256) :
    Calls Tryz.prog 9 #[.slice (some ⟨gm, 0, none⟩) (17 + 4 * v) cap] w fun e w' => ∃ (a1 : Option Addr) (a2 a3 : Nat) (b1 : Option Addr) (b2 b3 : Nat),
      e = .returned (.tuple #[.agg #[.string (strOf tx), .slice a1 a2 a3, .slice b1 b2 b3, .string (lvStr l), .int .i64 0, .int .i64 (-1), .int .i64 (-1), .int .i64 1], .bool true]) ∧ Fr Nil w w' := by
  obtain ⟨w1, hw1⟩ : ∃ w1, w.alloc (.cells #[.string ⟨#[]⟩, .slice none 0 0, .slice none 0 0, .string ⟨#[]⟩, .int .i64 0, .int .i64 0, .int .i64 0, .int .i64 0] 33) = w1 := ⟨_, rfl⟩
  have HZ := Lib.hid (show Blk w1 w.heap.size 33 #[.string ⟨#[]⟩, .slice none 0 0, .slice none 0 0, .string ⟨#[]⟩, .int .i64 0, .int .i64 0, .int .i64 0, .int .i64 0] ∧ Fr Nil w w1 from by rw [← hw1]; exact ⟨Blk.new _ _ _, (Fr.refl _ _).alloc _⟩)
  have HW1 := Lib.hid hw1
  obtain ⟨tb, htb2⟩ : ∃ tb, w.heap.size = tb := ⟨_, rfl⟩
  have HTB := Lib.hid htb2
  rw [htb2] at HZ
  have HDH := Lib.hid (fun (w0 : World) (lo f dd t : Nat) (hD : DecAt w0 lo f dd t) (hf : Fr Nil w w0) => decodeH_calls hD (Fr.refl _ _) (hM.nil hf) hcap hk hl hc ht1 ht2 htb)
  clear hw1 htb2 hM hc htb
  go_enter Tryz.func9, Tryz.ntmps9
  go_wp2_with fail
  rw [HW1.out, HTB.out]
  refine (newDecoder_calls w1).mono ?_
  rintro e w2 ⟨lo, f, dd, t, rfl, hD, hf2⟩
  have HD2 := Lib.hid (HDH.out w2 lo f dd t hD (HZ.out.2.trans hf2))
  have HZ2 := Lib.hid (show _ ∧ _ from ⟨HZ.out.1.fr hf2 (fun e => e), HZ.out.2.trans hf2⟩)
  clear hD hf2 HZ HDH
  go_wp2_with fail
  refine HD2.out.mono ?_
  rintro e w3 ⟨rp, rfl, hr, hf3⟩
  have HR := Lib.hid hr
  have HZ3 := Lib.hid (show _ ∧ _ from ⟨HZ2.out.1.fr hf3 (fun e => e), HZ2.out.2.trans hf3⟩)
  clear hr hf3 HD2 HZ2
  go_wp2_with fail
  refine (decoded_calls HR.out ht1 ht2).mono ?_
  rintro e w5 ⟨a1, a2, a3, b1, b2, b3, rfl, hf5⟩
  have HZ5 := Lib.hid (HZ3.out.1.fr hf5 (fun e => e))
  have HF5 := Lib.hid (HZ3.out.2.trans hf5)
  clear hf5 HZ3 HR
  have z0 := HZ5.out.cell 0
  have y0 := HZ5.out.frozen 0
  have z1 := HZ5.out.cell 1
  have y1 := HZ5.out.frozen 1
  have z2 := HZ5.out.cell 2
  have y2 := HZ5.out.frozen 2
  have z3 := HZ5.out.cell 3
  have y3 := HZ5.out.frozen 3
  have z4 := HZ5.out.cell 4
  have y4 := HZ5.out.frozen 4
  have z5 := HZ5.out.cell 5
  have y5 := HZ5.out.frozen 5
  have z6 := HZ5.out.cell 6
  have y6 := HZ5.out.frozen 6
  have z7 := HZ5.out.cell 7
  have y7 := HZ5.out.frozen 7
  obtain ⟨W, hW⟩ : ∃ W, ((((((((w5.setCell ⟨tb, 0, none⟩ (.string (strOf tx))).setCell ⟨tb, 1, none⟩ (.slice a1 a2 a3)).setCell ⟨tb, 2, none⟩ (.slice b1 b2 b3)).setCell ⟨tb, 3, none⟩ (.string (lvStr l))).setCell ⟨tb, 4, none⟩ (.int .i64 0)).setCell ⟨tb, 5, none⟩ (.int .i64 (-1))).setCell ⟨tb, 6, none⟩ (.int .i64 (-1))).setCell ⟨tb, 7, none⟩ (.int .i64 1)) = W := ⟨_, rfl⟩
  have hB : Blk W tb 33 #[.string (strOf tx), .slice a1 a2 a3, .slice b1 b2 b3, .string (lvStr l), .int .i64 0, .int .i64 (-1), .int .i64 (-1), .int .i64 1] := by rw [← hW]; exact ((((((((HZ5.out.set_ 0 (.string (strOf tx))).set_ 1 (.slice a1 a2 a3)).set_ 2 (.slice b1 b2 b3)).set_ 3 (.string (lvStr l))).set_ 4 (.int .i64 0)).set_ 5 (.int .i64 (-1))).set_ 6 (.int .i64 (-1))).set_ 7 (.int .i64 1))
  have hFW : Fr Nil w W := by
    rw [← hW]
    exact ((((((((HF5.out.setNew (by rw [HTB.out]; exact Nat.le_refl _) 0 (.string (strOf tx))).setNew (by rw [HTB.out]; exact Nat.le_refl _) 1 (.slice a1 a2 a3)).setNew (by rw [HTB.out]; exact Nat.le_refl _) 2 (.slice b1 b2 b3)).setNew (by rw [HTB.out]; exact Nat.le_refl _) 3 (.string (lvStr l))).setNew (by rw [HTB.out]; exact Nat.le_refl _) 4 (.int .i64 0)).setNew (by rw [HTB.out]; exact Nat.le_refl _) 5 (.int .i64 (-1))).setNew (by rw [HTB.out]; exact Nat.le_refl _) 6 (.int .i64 (-1))).setNew (by rw [HTB.out]; exact Nat.le_refl _) 7 (.int .i64 1))
  have HBW := Lib.hid (show _ ∧ _ from ⟨hB, hFW⟩)
  have HWE := Lib.hid hW
  clear hB hFW hW
  go_wp2_with fail
  rw [HWE.out]
  obtain ⟨hB, hFW⟩ := HBW.out
  have x0 := hB.cell 0
  have x1 := hB.cell 1
  have x2 := hB.cell 2
  have x3 := hB.cell 3
  have x4 := hB.cell 4
  have x5 := hB.cell 5
  have x6 := hB.cell 6
  have x7 := hB.cell 7
  exact bodyPost_ret (v := .tuple #[.agg #[.string (strOf tx), .slice a1 a2 a3, .slice b1 b2 b3, .string (lvStr l), .int .i64 0, .int .i64 (-1), .int .i64 (-1), .int .i64 1], .bool true]) (by simp [results, Tryz.results9, go_sem, x0, x1, x2, x3, x4, x5, x6, x7]) rfl ⟨_, _, _, _, _, _, rfl, hFW⟩
end Go.Proofs.YtcekbhhpcmhicaaGreatDoor
