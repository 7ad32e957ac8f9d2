/- Encoder_encode without hints. -/
import Derived.Test.YtcekbhhpcmhicaaGreatDoorB21
import Derived.Test.YtcekbhhpcmhicaaGreatDoorB23
import Derived.Test.YtcekbhhpcmhicaaGreatDoorB18
import Derived.Test.YtcekbhhpcmhicaaGreatDoorB19
set_option linter.unusedSimpArgs false
set_option linter.unusedVariables false
namespace Go.Proofs.YtcekbhhpcmhicaaGreatDoor
open Go Go.RowKit Go.Deep
set_option maxRecDepth 100000
theorem zs_cases {n k : Nat} {zs : List Bool} (h : Zs (min 4 (n - k)) zs) (hl : k + zs.length = n) : zs.length < 4 ∨ ∃ r, zs = msb 0 4 ++ r := by
  obtain ⟨r, hr⟩ := h
  by_cases h4 : n - k < 4
  · exact .inl (by omega)
  · rw [Nat.min_eq_left (by omega)] at hr
    exact .inr ⟨r, by rw [hr]; rfl⟩
/-- the finished symbol's record -/
def SymAt (w : World) (q : Nat) (t : List Nat) (l : Nat) : Prop := ∃ (vp v k mp r lo hi : Nat) (raw : List Bool) (es : List (List Nat)), k < 8 ∧ Coded t l v raw es ∧ VerAt w lo hi vp v ∧
  Blk w q 137 #[i64 (modeOf t), i64 l, .pointer (some ⟨vp, 0, none⟩), .int .i64 k, .pointer (some ⟨mp, 0, none⟩)] ∧ BM w mp r (17 + 4 * v) (symM v l k (bitsOf (rawW l v raw es))).1
set_option maxHeartbeats 6400000 in
theorem encoder_calls {w : World} {mb c : Nat} (hmap : w.heap[mb]? = some (.map #[] c)) (s : ByteArray) (hs : s.size ≤ 600) (l : Nat) (hl : l < 4) :
    Calls Tryz.prog 15 #[.string s, i64 l, .map (some mb)] w fun e w' => ∃ q, e = .returned (.tuple #[.pointer (some ⟨q, 0, none⟩), .nilIface]) ∧ SymAt w' q (nums s) l ∧ Fr Nil w w' ∧ w.heap.size ≤ q := by
  have hmlt : mb < w.heap.size := by
    rcases Nat.lt_or_ge mb w.heap.size with h | h
    · exact h
    · rw [Array.getElem?_eq_none h] at hmap; cases hmap
  have HM := Lib.hid (fun (w' : World) (hf : Fr Nil w w') (k : Int) => look_empty (w := w') ((hf.block mb hmlt (fun e => e)).trans hmap) k)
  have hlen : (nums s).length = s.size := by simp [nums]
  have HMC := Lib.hid (chooseMode_calls s (by omega) w)
  have HOK := Lib.hid (modeOf_ok (nums s))
  obtain ⟨v1, v2, a1, a2, b1, b2, f1, g1, f2, g2, hroom, hcnt⟩ := choice (modeOf (nums s)) l (modeOf_3 _) hl (nums s) (by omega)
  have HCH := Lib.hid (show _ ∧ _ ∧ _ ∧ _ from ⟨f1, g1, f2, g2⟩)
  have HV := Lib.hid (show _ ∧ _ ∧ _ ∧ _ ∧ _ ∧ _ from ⟨a1, a2, b1, b2, hroom, hcnt⟩)
  have HLEN := Lib.hid hlen
  have HN : Hid ((enc (modeOf (nums s)) (nums s)).length ≤ 32000) := Lib.hid (by
    have hd : dataW v2 (lvIdx l) ≤ 4000 := by
      have := (ver_tot b1 (by omega : v2 ≤ 40) (lvIdx_lt l)).2
      unfold dataW; omega
    omega)
  have hm3 := modeOf_3 (nums s)
  obtain ⟨t, ht⟩ : ∃ t, nums s = t := ⟨_, rfl⟩
  have HT := Lib.hid ht
  rw [ht] at HMC HOK HCH HV HN hm3 HLEN ⊢
  obtain ⟨m, hm⟩ : ∃ m, modeOf t = m := ⟨_, rfl⟩
  have HME := Lib.hid hm
  rw [hm] at HMC HOK HCH HV HN hm3
  have HM3 := Lib.hid hm3
  have hm16 : m < 16 := by rcases hm3 with rfl | rfl | rfl <;> omega
  clear hmap hmlt hlen a1 a2 b1 b2 f1 g1 f2 g2 hroom hcnt ht hm hm3
  have hrun := HM.out w (Fr.refl _ _) 1
  go_enter Tryz.func15, Tryz.ntmps15
  go_wp2_with fail
  refine HMC.out.mono ?_
  rintro e w1 ⟨rfl, hf1⟩
  have HF := Lib.hid hf1
  clear hf1 hrun HMC
  go_wp2_with fail
  refine (newEmpty_calls w1).mono ?_
  rintro e w2 ⟨rfl, hb, hf, -⟩
  have HA := Lib.hid (SA.new HF.out hf hb)
  have hrun := HM.out w2 HA.out.fr 12
  clear hb hf HF
  generalize w1.heap.size + 1 = p1 at HA ⊢
  generalize w1.heap.size = g1 at HA
  go_wp2_with fail
  refine (modeInfo_calls HA.out.a (by simp) m hm16).mono ?_
  rintro e w3 ⟨rfl, hP⟩
  obtain ⟨g1b, n1b, hA, -, -⟩ := HA.out.put hP
  rw [List.nil_append] at hA
  have HA2 := Lib.hid hA
  clear hP hA HA hrun
  go_wp2_with fail
  refine (newEmpty_calls w3).mono ?_
  rintro e w4 ⟨rfl, hb, hf, -⟩
  have HB := Lib.hid (SB.new HA2.out hf hb)
  clear hb hf HA2
  generalize w3.heap.size + 1 = p2 at HB ⊢
  generalize w3.heap.size = g2 at HB
  go_wp2_with fail
  refine (appendBytes_calls HB.out.s2.a s (by omega) (by simp) m HM3.out (by rw [HT.out]; exact HOK.out)).mono ?_
  rintro e w5 ⟨rfl, hP⟩
  rw [HT.out, List.nil_append] at hP
  obtain ⟨g2b, n2b, hB⟩ := HB.out.put hP
  have HB2 := Lib.hid hB
  have hrun := HM.out w5 hB.s1.fr 10
  clear hP hB HB
  go_wp2_with fail
  have HREC := Lib.hid (recommend_calls HB2.out.s1.a HB2.out.s2.a m l v1 v2 HM3.out hl (by have := HN.out; simp only [msb_length]; omega) HV.out.1 HV.out.2.1 HV.out.2.2.1 (by have := HV.out.2.2.2.1; omega)
    (by rw [msb_length]; exact HCH.out.1) (by rw [msb_length]; exact HCH.out.2.1) (by rw [msb_length]; exact HCH.out.2.2.1) (by rw [msb_length]; exact HCH.out.2.2.2))
  refine HREC.out.mono ?_
  rintro e w6 ⟨vp, lo, rfl, hlo, hv, hf⟩
  have HC := Lib.hid (SC.of HB2.out hf hv hlo)
  clear hrun HREC hlo hv hf HB2 HCH
  generalize w6.heap.size = hi at HC
  go_wp2_with fail
  refine (newEmpty_calls w6).mono ?_
  rintro e w7 ⟨rfl, hb, hf, -⟩
  have HD := Lib.hid (SD.new HC.out hf hb)
  clear hb hf HC
  generalize w6.heap.size + 1 = p3 at HD ⊢
  generalize w6.heap.size = g3 at HD
  go_wp2_with fail
  refine (HD.out.app1 (by simp [msb_length])).mono ?_
  rintro e w8 ⟨rfl, hP⟩
  obtain ⟨g3b, n3b, hD⟩ := HD.out.put hP
  rw [List.nil_append] at hD
  have HD2 := Lib.hid hD
  clear hP hD HD
  obtain ⟨N, hN⟩ : ∃ N, t.length = N := ⟨_, rfl⟩
  have HNE := Lib.hid hN
  rw [hN] at HLEN HV
  clear hN
  obtain ⟨L, hL⟩ : ∃ L, s.size = L := ⟨_, rfl⟩
  have hLN : L = N := by rw [← hL]; exact HLEN.out.symm
  subst hLN
  obtain ⟨b4, hb4⟩ : ∃ b, ((m : Int) == 4) = b := ⟨_, rfl⟩
  go_upto_if 158 with (first | exact hL | fail)
  go_cut [30] from 159 to 160 (fun s30 wc => s30 = i64 L ∧ wc = w8)
  case first =>
    cases b4
    · go_wp2_with fail
      go_meet
      exact ⟨rfl, rfl⟩
    · have hm4 : m = 4 := by
        have := eq_of_beq hb4
        omega
      have hsz : ((enc m t).length + 7) / 8 = L := by
        rw [hm4]
        show ((encBy t).length + 7) / 8 = L
        rw [encBy_length, HNE.out]
        omega
      have hsb := sizeBytes_calls HD2.out.s2.a
      rw [hsz] at hsb
      have HSB := Lib.hid hsb
      clear hm4 hsz hb4 hsb
      go_wp2_with fail
      refine HSB.out.mono ?_
      rintro e w9 ⟨rfl, rfl⟩
      go_wp2_with fail
      go_meet
      exact ⟨rfl, rfl⟩
  case rest =>
    obtain ⟨rfl, rfl⟩ := hcut
    have HLI := Lib.hid (lengthInfo_calls HD2.out.ver HD2.out.s3.a (by simp [msb_length]) m HM3.out L HV.out.2.2.2.2.2)
    go_wp2_with fail
    refine HLI.out.mono ?_
    rintro e w9 ⟨rfl, hP⟩
    obtain ⟨g3c, n3c, hD⟩ := HD2.out.put hP
    have HD3 := Lib.hid hD
    clear hP hD HD2 HLI
    go_wp2_with fail
    refine (HD3.out.app2 (by have := HN.out; have := cc_bd m v2; simp only [List.length_append, msb_length]; omega)).mono ?_
    rintro e w10 ⟨rfl, hP⟩
    obtain ⟨g3d, n3d, hD⟩ := HD3.out.put hP
    have HD4 := Lib.hid hD
    clear hP hD HD3
    obtain ⟨T, hT⟩ : ∃ T, tot v2 = T := ⟨_, rfl⟩
    obtain ⟨E, hE⟩ : ∃ E, ecTot v2 (lvIdx l) = E := ⟨_, rfl⟩
    obtain ⟨D, hD⟩ : ∃ D, dataW v2 (lvIdx l) = D := ⟨_, rfl⟩
    obtain ⟨NB, hNB⟩ : ∃ NB, cntBl (blOf v2 (lvIdx l)) = NB := ⟨_, rfl⟩
    have hv40 : v2 ≤ 40 := by have := HV.out.2.2.2.1; omega
    have hTE := ver_tot HV.out.2.2.1 hv40 (lvIdx_lt l)
    have hDT : D = T - E := by rw [← hD, ← hT, ← hE]; rfl
    rw [hT, hE] at hTE
    have hwr : IntKind.i64.wrap ((T : Int) - (E : Int)) = (D : Int) := by
      have hd4 : D ≤ 4000 := by omega
      rw [show (T : Int) - (E : Int) = (D : Int) from by omega]
      exact IntWalk.i64_in _ (by omega)
    have HEQ := Lib.hid (show _ ∧ _ ∧ _ ∧ _ from ⟨hT, hE, hD, hNB⟩)
    have HDT := Lib.hid hDT
    rw [hD] at HV
    have HVT := Lib.hid (verTotal_calls HD4.out.ver)
    have HGE := Lib.hid (getEC_calls HD4.out.ver l hl)
    have HTE := Lib.hid (fun (W : World) (lo hi g o : Nat) (h : ECAt W lo hi g o v2 (lvIdx l)) => totalEC_calls h)
    rw [show ecOf v2 (lvIdx l) * cntBl (blOf v2 (lvIdx l)) = E from hE] at HTE
    have HNBC := Lib.hid (fun (W : World) (lo hi g o : Nat) (h : ECAt W lo hi g o v2 (lvIdx l)) => numBlocks_calls h)
    rw [hNB] at HNBC
    rw [hT] at HVT
    clear hT hE hD hNB hDT
    go_wp2_with fail
    refine HGE.out.mono ?_
    rintro e w11 ⟨ge, go, rfl, he, rfl⟩
    have HE := Lib.hid he
    clear he HGE
    go_wp2_with fail
    refine HVT.out.mono ?_
    rintro e w11 ⟨rfl, rfl⟩
    go_wp2_with fail
    refine (HTE.out _ _ _ _ _ HE.out).mono ?_
    rintro e w11 ⟨rfl, hf⟩
    have HD5 := Lib.hid (HD4.out.nil hf)
    have HE5 := Lib.hid (HE.out.fr hf (fun _ _ _ e => e))
    clear hf HD4 HE HVT HTE
    go_wp2_with fail
    obtain ⟨RW, hRW⟩ : ∃ RW, msb m 4 ++ msb L (cc m v2) ++ enc m t = RW := ⟨_, rfl⟩
    have hRL : RW.length = 4 + cc m v2 + (enc m t).length := by rw [← hRW]; simp only [List.length_append, msb_length]
    have HRW := Lib.hid hRW
    have hRWe := Lib.hid hRW
    have hfit : RW.length ≤ 8 * D := by rw [hRL]; exact HV.out.2.2.2.2.1
    have hd4 : D ≤ 4000 := by have := HDT.out; omega
    have HTM := Lib.hid (show _ from (by have h := HD5; rw [hRW] at h; exact terminate_calls h.out.s3.a D hd4 hfit))
    clear hRW hRL
    go_wp2_with fail
    refine HTM.out.mono ?_
    rintro e w12 ⟨rfl, zs, hzs, hzl, hP⟩
    have hd5 := HD5.out
    rw [hRWe.out] at hd5
    obtain ⟨g3e, n3e, hD⟩ := hd5.put hP
    have HD6 := Lib.hid hD
    have HE6 := Lib.hid (HE5.out.fr (hd5.s3.put hP).choose_spec.choose_spec.2.1 (fun i _ h2 e => by
      obtain ⟨B, a1, a2, a3, a4, a5, a6, a7⟩ := hd5.B
      rcases e with e | e <;> omega))
    have HZ := Lib.hid (zs_cases hzs (by rw [List.length_append] at hzl; exact hzl))
    have HZL := Lib.hid hzl
    clear hzs hzl hP hd5 hD HD5 HE5 HTM
    have HVT := Lib.hid (verTotal_calls HD6.out.ver)
    rw [HEQ.out.1] at HVT
    go_wp2_with fail
    refine HVT.out.mono ?_
    rintro e w13 ⟨rfl, rfl⟩
    go_wp2_with fail
    refine (HNBC.out _ _ _ _ _ HE6.out).mono ?_
    rintro e w13 ⟨rfl, hf⟩
    have HD7 := Lib.hid (HD6.out.nil hf)
    clear hf HD6 HE6 HVT HNBC
    obtain ⟨c1, d1, c2, hbl⟩ := bl_law HV.out.2.2.1 hv40 (lvIdx_lt l)
    have hil := interleave_calls HD7.out.s3.a T D NB HZL.out (by rw [← HEQ.out.2.2.2, hbl.n]; have := hbl.c1; omega) (by rw [← HEQ.out.2.2.2, hbl.n]; have := hbl.n2; omega) (by omega) (by have := HDT.out; omega)
      (by have := hbl.hoff; rw [← hbl.n, HEQ.out.1, HEQ.out.2.2.1, HEQ.out.2.2.2] at this; exact this) (by have := hbl.hsum; rw [← hbl.n, HEQ.out.1, HEQ.out.2.2.1, HEQ.out.2.2.2] at this; exact this)
      (by have := hbl.div; rw [← hbl.n, HEQ.out.2.2.1, HEQ.out.2.2.2] at this; rw [this]; exact hbl.d1) (by have := hbl.div; rw [← hbl.n, HEQ.out.2.2.1, HEQ.out.2.2.2] at this; rw [this]; have := hbl.d2; omega)
      (by have := hbl.bec; rw [← hbl.n, HEQ.out.1, HEQ.out.2.2.1, HEQ.out.2.2.2] at this; rw [this]; exact hbl.e1) (by have := hbl.bec; rw [← hbl.n, HEQ.out.1, HEQ.out.2.2.1, HEQ.out.2.2.2] at this; rw [this]; have := hbl.e2; omega)
    have HIL := Lib.hid hil
    clear hil hbl
    go_wp2_with fail
    refine HIL.out.mono ?_
    rintro e w14 ⟨p4, g4, n4, es, rfl, hb4, hes, hec, hf⟩
    have HCOD : Hid (Coded t l v2 (RW ++ zs) es) := Lib.hid ⟨HV.out.2.2.1, HV.out.2.2.2.1, ⟨zs, by rw [HME.out, HNE.out, ← HRW.out]; simp only [List.append_assoc], HZ.out⟩, by rw [HEQ.out.2.2.1]; exact HZL.out, by rw [HME.out, HNE.out]; exact HV.out.2.2.2.2.2,
      by rw [HEQ.out.2.2.2]; exact hes, by rw [HEQ.out.1, HEQ.out.2.2.1, HEQ.out.2.2.2]; exact hec⟩
    have hrw : rawW l v2 (RW ++ zs) es = ilv (mxd T D NB NB) (dblks (RW ++ zs) T D NB) ++ ilv (bec T D NB) es := by unfold rawW; rw [HEQ.out.1, HEQ.out.2.2.1, HEQ.out.2.2.2]
    rw [← hrw] at hb4
    have HB4 := Lib.hid hb4
    have HF14 := Lib.hid hf
    clear hb4 hes hec hf hrw HIL HZ HZL
    go_wp2_with fail
    refine (newQR_calls w14).mono ?_
    rintro e w15 ⟨rfl, hk, hf⟩
    have HS := Lib.hid (SF.new HD7.out HF14.out HB4.out hf hk)
    clear hk hf HD7 HF14 HB4
    generalize w14.heap.size = q at HS ⊢
    go_wp2_with fail
    refine (setLevel_calls HS.out.st rfl l).mono ?_
    rintro e w16 ⟨rfl, hk, hf⟩
    have HS2 := Lib.hid (HS.out.set hk hf)
    clear hk hf HS
    go_wp2_with fail
    refine (setMode_calls HS2.out.st rfl m).mono ?_
    rintro e w17 ⟨rfl, hk, hf⟩
    have HS3 := Lib.hid (HS2.out.set hk hf)
    clear hk hf HS2
    go_wp2_with fail
    refine (setVersion_calls HS3.out.st rfl vp).mono ?_
    rintro e w18 ⟨rfl, hk, hf⟩
    have HS4 := Lib.hid (HS3.out.set hk hf)
    clear hk hf HS3
    go_wp2_with fail
    refine (verDim_calls HS4.out.ver).mono ?_
    rintro e w19 ⟨rfl, rfl⟩
    go_wp2_with fail
    have hrun := HM.out w18 HS4.out.fr 11
    refine (newBM_calls w18 (17 + 4 * v2) (by have := HV.out.2.2.2.1; omega)).mono ?_
    rintro e w19 ⟨mp, rfl, hb, hf⟩
    have hrun := HM.out w19 (HS4.out.fr.trans hf) 11
    have HG := Lib.hid (SG.new HS4.out hf hb)
    clear hb hf HS4
    generalize w18.heap.size = r at HG
    go_wp2_with fail
    have HBL := Lib.hid (show ∀ k, (symM v2 l k (bitsOf (rawW l v2 (RW ++ zs) es))).2 = (bitsOf (rawW l v2 (RW ++ zs) es)).length from fun k => sym_all v2 l k _ HV.out.2.2.1 HV.out.2.2.2.1 (by rw [bitsOf_length, rawW_len HCOD.out]))
    have HNO := Lib.hid HG.out.no
    have HCHO := Lib.hid (choose_calls HG.out.sf.ver HG.out.sf.a HG.out.bm HNO.out.1 HNO.out.2.1 HNO.out.2.2 l hl (fun k _ => HBL.out k))
    clear hrun
    refine HCHO.out.mono ?_
    rintro e w20 ⟨⟨k, rfl, hk⟩, ⟨M', hb⟩, hf⟩
    have HG2 := Lib.hid (HG.out.rows hb hf)
    clear hb hf HG HCHO
    go_wp2_with fail
    refine (setMask_calls HG2.out.sf.st rfl k).mono ?_
    rintro e w21 ⟨rfl, hb, hf⟩
    have HG3 := Lib.hid (HG2.out.set hb hf)
    clear hb hf HG2
    go_wp2_with fail
    refine (build_calls HG3.out.sf.ver HG3.out.sf.a HG3.out.bm HNO.out.1 HNO.out.2.1 HNO.out.2.2 l k hl hk (HBL.out k)).mono ?_
    rintro e w22 ⟨rfl, hb, hf⟩
    have HG4 := Lib.hid (HG3.out.rows hb hf)
    clear hb hf HG3
    go_wp2_with fail
    refine (setMatrix_calls HG4.out.sf.st rfl mp).mono ?_
    rintro e w23 ⟨rfl, hb, hf⟩
    have HG5 := Lib.hid (HG4.out.set hb hf)
    clear hb hf HG4
    go_wp2_with fail
    go_ret2
    exact ⟨q, rfl, ⟨vp, v2, k, mp, r, lo, hi, RW ++ zs, es, hk, HCOD.out, HG5.out.sf.ver, by rw [HME.out]; exact HG5.out.sf.st, HG5.out.bm⟩, HG5.out.sf.fr, HG5.out.sf.hq⟩
end Go.Proofs.YtcekbhhpcmhicaaGreatDoor
/- QREncode: the symbol as rows of modules. -/
namespace Go.Proofs.YtcekbhhpcmhicaaGreatDoor
open Go Go.RowKit Go.Deep
set_option maxRecDepth 100000
theorem Tryz.und42 : Tryz.prog.underlying 42 = some (.slice 4) := by kernel_rfl
theorem Tryz.inf4 : (Tryz.prog.info? 4).map (fun i => (i.zero, i.size, i.bytes)) = some (some (.bool false), 1, 1) := by kernel_rfl
theorem Tryz.und23 : Tryz.prog.underlying 23 = some (.slice 42) := by kernel_rfl
theorem Tryz.inf42 : (Tryz.prog.info? 42).map (fun i => (i.zero, i.size, i.bytes)) = some (some (.slice none 0 0), 1, 24) := by kernel_rfl
theorem mkBools (n : Nat) (h : n ≤ 1000000) (w : World) : (Instr.makeSlice 42 (.int .i64 (n : Int)) (.int .i64 (n : Int))).run Tryz.prog w = .ok (.slice (some ⟨w.heap.size, 0, none⟩) n n) (w.alloc (.cells (madeCells #[.bool false] n) 4)) :=
  run_make_row' (P := Tryz.prog) 42 4 (.bool false) 1 Tryz.und42 Tryz.inf4 rfl .i64 .i64 n (by omega) (by omega) w
/-- rows written so far: y of n -/
structure RQ (w0 w : World) (y n : Nat) (sv : Value) (B : Nat → Nat → Bool) (xs : List Value) (R : Nat → Nat) : Prop where
  fr : Fr Nil w0 w
  own : w.ownsRow w0.heap.size 42 1 sv y xs
  top : ∀ j, j < y → xs[j]? = some (.slice (some ⟨R j, 0, none⟩) n n)
  row : ∀ j, j < y → w.rowIs (R j) 4 n (fun x => .bool (B j x))
  len : xs.length = y
theorem RQ.start {w0 w : World} (hf : Fr Nil w0 w) (n : Nat) (B : Nat → Nat → Bool) : RQ w0 w 0 n (.slice none 0 0) B [] (fun _ => 0) :=
  ⟨hf, owns_nil _ _ _, fun j hj => absurd hj (by omega), fun j hj => absurd hj (by omega), rfl⟩
theorem RQ.nil {w0 w w' : World} {y n : Nat} {sv : Value} {B : Nat → Nat → Bool} {xs : List Value} {R : Nat → Nat} (h : RQ w0 w y n sv B xs R) (hf : Fr Nil w w') : RQ w0 w' y n sv B xs R :=
  ⟨h.fr.trans hf, owns_fr h.own hf (fun k hk e => e), h.top, fun j hj => rowFr (h.row j hj) hf (fun e => e), h.len⟩
theorem RQ.push {w0 w w2 : World} {y n r g2 cap2 : Nat} {sv : Value} {B : Nat → Nat → Bool} {xs : List Value} {R : Nat → Nat} (h : RQ w0 w y n sv B xs R) (hr : w.rowIs r 4 n (fun x => .bool (B y x))) (hf : Fr (Own sv) w w2)
    (hown : w2.ownsRow w0.heap.size 42 1 (.slice (some ⟨g2, 0, none⟩) (y + 1) cap2) (y + 1) (xs ++ [.slice (some ⟨r, 0, none⟩) n n])) :
    RQ w0 w2 (y + 1) n (.slice (some ⟨g2, 0, none⟩) (y + 1) cap2) B (xs ++ [.slice (some ⟨r, 0, none⟩) n n]) (fun j => if j = y then r else R j) := by
  have hno : ∀ b N f, w.rowIs b 4 N f → ¬ Own sv b := fun b N f hb e => by
    obtain ⟨_, _, cs, hk⟩ := owns_lt h.own e
    exact hk.row_ne hb (by decide) rfl
  refine ⟨h.fr.trans' hf (fun i hi e => by
    obtain ⟨_, hk, _⟩ := owns_lt h.own e
    omega), hown, fun j hj => ?_, fun j hj => ?_, by rw [List.length_append, h.len]; rfl⟩
  · by_cases e : j = y
    · subst e
      rw [if_pos rfl, List.getElem?_append_right (by rw [h.len]; exact Nat.le_refl _), h.len, Nat.sub_self]; rfl
    · rw [if_neg e, List.getElem?_append_left (by rw [h.len]; omega)]
      exact h.top j (by omega)
  · by_cases e : j = y
    · subst e
      rw [if_pos rfl]
      exact rowFr hr hf (hno _ _ _ hr)
    · rw [if_neg e]
      have := h.row j (by omega)
      exact rowFr this hf (hno _ _ _ this)
theorem RQ.done {w0 w : World} {n : Nat} {sv : Value} {B : Nat → Nat → Bool} {xs : List Value} {R : Nat → Nat} (h : RQ w0 w n n sv B xs R) (hn : 1 ≤ n) : ∃ g cap, sv = .slice (some ⟨g, 0, none⟩) n cap ∧ n ≤ cap ∧ MM w g n R B := by
  rcases h.own.2 with ⟨h0, h1⟩ | ⟨g, cap, cur, hv, h1, hb, hc, h2⟩
  · omega
  · subst hv
    exact ⟨g, cap, rfl, hc, fun y hy => own_cell h.own (h.top y hy), h.row⟩
theorem RQ.set {w0 w : World} {y n ob i : Nat} {sv u : Value} {cs : Array Value} {B : Nat → Nat → Bool} {xs : List Value} {R : Nat → Nat} (h : RQ w0 w y n sv B xs R) (hb : Blk w ob 25 cs) (hlo : w0.heap.size ≤ ob) : RQ w0 (w.setCell ⟨ob, i, none⟩ u) y n sv B xs R := by
  have hf : Fr (One ob) w (w.setCell ⟨ob, i, none⟩ u) := (Fr.refl _ _).set1 i u
  refine ⟨h.fr.setNew hlo i u, owns_fr h.own hf (fun k hk e => ?_), h.top, fun j hj => rowFr (h.row j hj) hf (fun e => ?_), h.len⟩
  · have e : k = ob := e
    subst e
    obtain ⟨_, _, cs2, hk2⟩ := owns_lt h.own hk
    exact hb.ne_ hk2 (by decide) rfl
  · have e : R j = ob := e
    exact hb.row_ne (h.row j hj) (by decide) e.symm
/-- what QREncode's loop keeps -/
structure QE (w0 w : World) (y n : Nat) (b : Option Addr) (c : Nat) (B : Nat → Nat → Bool) (rb ob mp r : Nat) (M : Nat → Nat → Int) (v1 v2 v3 v4 : Value) : Prop where
  rq : ∃ xs R, RQ w0 w y n (.slice b y c) B xs R
  rb_ : Blk w rb 25 #[.int .i64 0, .int .i64 0, .int .i64 0, .int .i64 0, .slice none 0 0]
  ob_ : Blk w ob 25 #[v1, v2, v3, v4, .slice b y c]
  bm : BM w mp r n M
  l1 : w0.heap.size ≤ rb
  l2 : w0.heap.size ≤ ob
  ne : rb ≠ ob
theorem QE.nil {w0 w w' : World} {y n : Nat} {b : Option Addr} {c : Nat} {B : Nat → Nat → Bool} {rb ob mp r : Nat} {M : Nat → Nat → Int} {v1 v2 v3 v4 : Value} (h : QE w0 w y n b c B rb ob mp r M v1 v2 v3 v4) (hf : Fr Nil w w') : QE w0 w' y n b c B rb ob mp r M v1 v2 v3 v4 :=
  ⟨by obtain ⟨xs, R, h⟩ := h.rq; exact ⟨xs, R, h.nil hf⟩, h.rb_.fr hf (fun e => e), h.ob_.fr hf (fun e => e), h.bm.nil hf, h.l1, h.l2, h.ne⟩
/-- one row more is appended, and kept in the record -/
theorem QE.push {w0 w : World} {y n : Nat} {b : Option Addr} {c : Nat} {B : Nat → Nat → Bool} {rb ob mp r : Nat} {M : Nat → Nat → Int} {v1 v2 v3 v4 : Value} (h : QE w0 w y n b c B rb ob mp r M v1 v2 v3 v4) (hy : y ≤ 1000) {A : Nat} (hr : w.rowIs A 4 n (fun x => .bool (B y x))) :
    ∃ g2 cap2 w2, (Builtin.append_ #[23, 23] 23 #[.slice b y c, .slice (some ⟨w.heap.size, 0, none⟩) 1 1]).run Tryz.prog (w.alloc (.cells #[.slice (some ⟨A, 0, none⟩) n n] 42)) = .ok (.slice (some ⟨g2, 0, none⟩) (y + 1) cap2) w2 ∧
      w2.cell? ⟨ob, 4, none⟩ = some (.slice b y c) ∧ w2.frozen? ⟨ob, 4, none⟩ = false ∧ QE w0 (w2.setCell ⟨ob, 4, none⟩ (.slice (some ⟨g2, 0, none⟩) (y + 1) cap2)) (y + 1) n (some ⟨g2, 0, none⟩) cap2 B rb ob mp r M v1 v2 v3 v4 := by
  obtain ⟨xs, R, hq⟩ := h.rq
  obtain ⟨g2, cap2, w2, hap, hown, hf, -⟩ := appV (w := w) (lo := w0.heap.size) (n := y) (T := 42) (ST := 23) (sv := .slice b y c) (v := .slice (some ⟨A, 0, none⟩) n n) Tryz.und23 Tryz.inf42 rfl (by omega) hq.own (by omega) hq.fr.size rfl
  have hno : ∀ k t cs, Blk w k t cs → t ≠ 42 → ¬ Own (.slice b y c) k := fun k t cs hk ht e => by
    obtain ⟨_, _, cs2, hk2⟩ := owns_lt hq.own e
    exact hk.ne_ hk2 ht rfl
  have hno2 : ∀ k t N f, w.rowIs k t N f → t ≠ 42 → ¬ Own (.slice b y c) k := fun k t N f hk ht e => by
    obtain ⟨_, _, cs2, hk2⟩ := owns_lt hq.own e
    exact hk2.row_ne hk (fun e => ht e.symm) rfl
  have hob := h.ob_.fr hf (hno _ _ _ h.ob_ (by decide))
  have hrb := h.rb_.fr hf (hno _ _ _ h.rb_ (by decide))
  have hbm := h.bm.fr hf (hno _ _ _ h.bm.st (by decide)) (hno2 _ _ _ _ h.bm.rw_ (by decide)) (fun y hy => hno2 _ _ _ _ (h.bm.row y hy) (by decide))
  have hf2 : Fr (One ob) w2 (w2.setCell ⟨ob, 4, none⟩ (.slice (some ⟨g2, 0, none⟩) (y + 1) cap2)) := (Fr.refl _ _).set1 4 _
  refine ⟨g2, cap2, w2, hap, hob.cell 4, hob.frozen 4, ⟨_, _, (hq.push hr hf hown).set hob h.l2⟩, hrb.fr hf2 h.ne, hob.set_ 4 _, hbm.fr hf2 ?_ ?_ ?_, h.l1, h.l2, h.ne⟩
  · exact fun e => hbm.st.ne_ hob (by decide) e
  · exact fun e => hob.row_ne hbm.rw_ (by decide) e.symm
  · exact fun y hy e => hob.row_ne (hbm.row y hy) (by decide) e.symm
set_option maxHeartbeats 6400000 in
theorem qrEncode_calls (s : ByteArray) (hs : s.size ≤ 600) (l : Nat) (hl : l < 4) (w : World) :
    Calls Tryz.prog 6 #[.string s, i64 l, i64 0, .int .i64 (-1)] w fun e w' => ∃ (g cap v k : Nat) (R : Nat → Nat) (raw : List Bool) (es : List (List Nat)), e = .returned (.tuple #[.agg #[i64 v, i64 k, i64 l, i64 (modeOf (nums s)), .slice (some ⟨g, 0, none⟩) (17 + 4 * v : Nat) cap], .bool true]) ∧
      k < 8 ∧ Coded (nums s) l v raw es ∧ 17 + 4 * v ≤ cap ∧ MM w' g (17 + 4 * v) R (symB v l k (bitsOf (rawW l v raw es))) ∧ Fr Nil w w' := by
  have hmm := @run_makeMap Tryz.prog
  obtain ⟨w1, hw1⟩ : ∃ w1, (w.alloc (.cells #[.int .i64 0, .int .i64 0, .int .i64 0, .int .i64 0, .slice none 0 0] 25)).alloc (.map #[] 0) = w1 := ⟨_, rfl⟩
  have HW1 := Lib.hid hw1
  obtain ⟨rb, hrb⟩ : ∃ rb, w.heap.size = rb := ⟨_, rfl⟩
  have HRB := Lib.hid hrb
  have HZ := Lib.hid (show Blk w1 rb 25 #[.int .i64 0, .int .i64 0, .int .i64 0, .int .i64 0, .slice none 0 0] ∧ Fr Nil w w1 ∧ w1.heap[rb + 1]? = some (.map #[] 0) from by
    rw [← hw1, ← hrb]
    refine ⟨(Blk.new _ _ _).alloc _, ((Fr.refl _ _).alloc _).alloc _, ?_⟩
    have h := heap_alloc_new (w.alloc (.cells #[.int .i64 0, .int .i64 0, .int .i64 0, .int .i64 0, .slice none 0 0] 25)) (.map #[] 0)
    rw [show (w.alloc (.cells #[.int .i64 0, .int .i64 0, .int .i64 0, .int .i64 0, .slice none 0 0] 25)).heap.size = w.heap.size + 1 from by simp] at h
    exact h)
  clear hw1 hrb
  go_enter Tryz.func6, Tryz.ntmps6
  go_wp2_with fail
  rw [HW1.out, HRB.out]
  refine (encoder_calls HZ.out.2.2 s hs l hl).mono ?_
  rintro e w2 ⟨q, rfl, ⟨vp, v, k, mp, r, lo, hi, raw, es, hk, hcod, hver, hblk, hbm⟩, hf2, hq⟩
  have HC := Lib.hid (show _ ∧ _ from ⟨hk, hcod⟩)
  have HV := Lib.hid hver
  have HB := Lib.hid hblk
  have hv2 := hcod.v2
  have hv1 := hcod.v1
  obtain ⟨n, hn⟩ : ∃ n, 17 + 4 * v = n := ⟨_, rfl⟩
  have hn2 : n ≤ 200 := by omega
  have hn1 : 1 ≤ n := by omega
  rw [hn] at hbm
  have HN := Lib.hid hn
  have HBM := Lib.hid hbm
  have HZ2 := Lib.hid (show _ ∧ _ from ⟨HZ.out.1.fr hf2 (fun e => e), HZ.out.2.1.trans hf2⟩)
  obtain ⟨M, hM⟩ : ∃ M, (symM v l k (bitsOf (rawW l v raw es))).1 = M := ⟨_, rfl⟩
  have HMM := Lib.hid (show symB v l k (bitsOf (rawW l v raw es)) = fun y x => M y x == 1 from by rw [← hM]; rfl)
  rw [hM] at HBM
  clear hmm hM hk hcod hver hblk hbm hf2 hq hn HZ
  go_wp2_with fail
  refine (qrMatrix_calls HB.out rfl).mono ?_
  rintro e w3 ⟨rfl, rfl⟩
  go_wp2_with fail
  refine (qrVersion_calls HB.out rfl).mono ?_
  rintro e w3 ⟨rfl, rfl⟩
  go_wp2_with fail
  refine (verNumber_calls HV.out).mono ?_
  rintro e w3 ⟨rfl, rfl⟩
  go_wp2_with fail
  refine (qrMask_calls HB.out rfl).mono ?_
  rintro e w3 ⟨rfl, rfl⟩
  go_wp2_with fail
  refine (qrLevel_calls HB.out rfl).mono ?_
  rintro e w3 ⟨rfl, rfl⟩
  go_wp2_with fail
  refine (levelBits_calls _ _).mono ?_
  rintro e w3 ⟨rfl, rfl⟩
  go_wp2_with fail
  refine (qrMode_calls HB.out rfl).mono ?_
  rintro e w3 ⟨rfl, rfl⟩
  go_wp2_with fail
  refine (modeBits_calls _ _).mono ?_
  rintro e w3 ⟨rfl, rfl⟩
  go_wp2_with fail
  obtain ⟨ob, hob⟩ : ∃ ob, w2.heap.size = ob := ⟨_, rfl⟩
  obtain ⟨w3, hw3⟩ : ∃ w3, w2.alloc (.cells #[i64 v, i64 k, i64 l, i64 (modeOf (nums s)), .slice none 0 0] 25) = w3 := ⟨_, rfl⟩
  have hf3 : Fr Nil w2 w3 := by rw [← hw3]; exact (Fr.refl _ _).alloc _
  have HQ0 := Lib.hid (show QE w w3 0 n none 0 (symB v l k (bitsOf (rawW l v raw es))) rb ob mp r M (i64 v) (i64 k) (i64 l) (i64 (modeOf (nums s))) from
    ⟨⟨_, _, RQ.start (HZ2.out.2.trans hf3) _ _⟩, HZ2.out.1.fr hf3 (fun e => e), by rw [← hw3, ← hob]; exact Blk.new _ _ _, HBM.out.nil hf3, by rw [HRB.out]; exact Nat.le_refl _, by have := HZ2.out.2.size; omega, by have := HZ2.out.1.lt; omega⟩)
  have HW3 := Lib.hid (show _ ∧ _ from ⟨hw3, hob⟩)
  clear hf3 hw3 hob HZ2 HBM HV HB
  rw [HW3.out.1, HW3.out.2]
  go_loopg [15, 16, 17, 62, 63, 64] n (fun q s15 s16 s17 s62 s63 s64 wr => ∃ (y : Nat) (b : Option Addr) (c : Nat), Hid (y + q = n) ∧ s15 = .int .i64 y ∧ Hid (QE w wr y n b c (symB v l k (bitsOf (rawW l v raw es))) rb ob mp r M (i64 v) (i64 k) (i64 l) (i64 (modeOf (nums s)))))
  case atStart => exact ⟨0, none, 0, Lib.hid (by omega), rfl, HQ0⟩
  case round =>
    clear HQ0
    obtain ⟨y, b, c, HY, rfl, HQ⟩ := hrel
    have HH := Lib.hid (height_calls HQ.out.bm)
    cases gk with
    | zero =>
      have hyz : ¬ (y : Int) < (n : Int) := by have := HY.out; omega
      obtain rfl : y = n := by have := HY.out; omega
      obtain ⟨xs, R, hrq⟩ := HQ.out.rq
      obtain ⟨g, cap, hsv, hcap, hMM⟩ := hrq.done hn1
      cases hsv
      have hfr := hrq.fr
      have hgr : g ≠ rb := by
        obtain ⟨_, _, cs2, hk2⟩ := owns_lt hrq.own (k := g) rfl
        exact hk2.ne_ HQ.out.rb_ (by decide)
      have HRQ := Lib.hid (show _ ∧ _ from ⟨hcap, hMM⟩)
      clear hcap hMM hrq
      have a0 := HQ.out.ob_.cell 0
      have a1 := HQ.out.ob_.cell 1
      have a2 := HQ.out.ob_.cell 2
      have a3 := HQ.out.ob_.cell 3
      have a4 := HQ.out.ob_.cell 4
      have z0 := HQ.out.rb_.cell 0
      have z1 := HQ.out.rb_.cell 1
      have z2 := HQ.out.rb_.cell 2
      have z3 := HQ.out.rb_.cell 3
      have z4 := HQ.out.rb_.cell 4
      have y0 := HQ.out.rb_.frozen 0
      have y1 := HQ.out.rb_.frozen 1
      have y2 := HQ.out.rb_.frozen 2
      have y3 := HQ.out.rb_.frozen 3
      have y4 := HQ.out.rb_.frozen 4
      obtain ⟨W, hW⟩ : ∃ W, (((((wr.setCell ⟨rb, 0, none⟩ (i64 v)).setCell ⟨rb, 1, none⟩ (i64 k)).setCell ⟨rb, 2, none⟩ (i64 l)).setCell ⟨rb, 3, none⟩ (i64 (modeOf (nums s)))).setCell ⟨rb, 4, none⟩ (.slice (some ⟨g, 0, none⟩) y c)) = W := ⟨_, rfl⟩
      have hB : Blk W rb 25 #[i64 v, i64 k, i64 l, i64 (modeOf (nums s)), .slice (some ⟨g, 0, none⟩) y c] := by rw [← hW]; exact (((((HQ.out.rb_.set_ 0 (i64 v)).set_ 1 (i64 k)).set_ 2 (i64 l)).set_ 3 (i64 (modeOf (nums s)))).set_ 4 (.slice (some ⟨g, 0, none⟩) y c))
      have hFW : Fr Nil w W := by
        rw [← hW]
        exact (((((hfr.setNew (by rw [HRB.out]; exact Nat.le_refl _) 0 (i64 v)).setNew (by rw [HRB.out]; exact Nat.le_refl _) 1 (i64 k)).setNew (by rw [HRB.out]; exact Nat.le_refl _) 2 (i64 l)).setNew (by rw [HRB.out]; exact Nat.le_refl _) 3 (i64 (modeOf (nums s)))).setNew (by rw [HRB.out]; exact Nat.le_refl _) 4 (.slice (some ⟨g, 0, none⟩) y c))
      have hFr : Fr (One rb) wr W := by
        rw [← hW]
        exact (((((Fr.refl _ _).set1 0 _).set1 1 _).set1 2 _).set1 3 _).set1 4 _
      have HBW := Lib.hid (show _ ∧ _ ∧ _ from ⟨hB, hFW, hFr⟩)
      have HWE := Lib.hid hW
      clear hB hFW hW hFr hfr
      have HGR := Lib.hid (show _ ∧ _ from ⟨hgr, fun j (hj : j < y) => (show R j ≠ rb from fun e => HQ.out.rb_.row_ne (HRQ.out.2.row j hj) (by decide) e.symm)⟩)
      clear hgr
      go_wp2_with fail
      refine HH.out.mono ?_
      rintro e w4 ⟨rfl, rfl⟩
      go_wp2_with fail
      rw [HWE.out]
      obtain ⟨hB, hFW, hFr⟩ := HBW.out
      have x0 := hB.cell 0
      have x1 := hB.cell 1
      have x2 := hB.cell 2
      have x3 := hB.cell 3
      have x4 := hB.cell 4
      refine bodyPost_ret (v := .tuple #[.agg #[i64 v, i64 k, i64 l, i64 (modeOf (nums s)), .slice (some ⟨g, 0, none⟩) y c], .bool true]) (by simp [results, Tryz.results6, go_sem, x0, x1, x2, x3, x4]) rfl ⟨g, c, v, k, R, raw, es, ?_⟩
      rw [HN.out]
      exact ⟨rfl, HC.out.1, HC.out.2, HRQ.out.1, ⟨fun j hj => hFr.cell_some (HRQ.out.2.top j hj) HGR.out.1, fun j hj => rowFr (HRQ.out.2.row j hj) hFr (HGR.out.2 j hj)⟩, hFW⟩
    | succ q =>
      have hyz : (y : Int) < (n : Int) := by have := HY.out; omega
      have hyn : y < n := by omega
      have HWI := Lib.hid (width_calls HQ.out.bm)
      have hmk := mkBools n (by omega) wr
      obtain ⟨A, hA⟩ : ∃ A, wr.heap.size = A := ⟨_, rfl⟩
      have HNR := Lib.hid (show _ ∧ _ from ⟨World.rowIs_made wr (.bool false) n 4, (Fr.refl Nil wr).alloc (.cells (madeCells #[.bool false] n) 4)⟩)
      have HA := Lib.hid hA
      rw [hA] at hmk HNR
      clear hA
      go_wp2_with fail
      refine HH.out.mono ?_
      rintro e w4 ⟨rfl, rfl⟩
      go_wp2_with fail
      refine HWI.out.mono ?_
      rintro e w4 ⟨rfl, rfl⟩
      go_wp2_with fail
      clear hmk HH HWI
      go_loopg [17, 64] n (fun p s17 s64 wz => ∃ x : Nat, Hid (x + p = n) ∧ s64 = .int .i64 x ∧ Hid (wz.rowIs A 4 n (fun i => .bool (if i < x then symB v l k (bitsOf (rawW l v raw es)) y i else false))) ∧ Hid (Fr Nil wr wz))
      case atStart => exact ⟨0, Lib.hid (by omega), rfl, Lib.hid (HNR.out.1.congr (fun i _ => by simp)), Lib.hid HNR.out.2⟩
      case round =>
        clear HNR
        obtain ⟨x, HX, rfl, HR, HF⟩ := hrel
        cases gk with
        | zero =>
          have hxz : ¬ (x : Int) < (n : Int) := by have := HX.out; omega
          have hxn : x = n := by have := HX.out; omega
          have HQ2 := Lib.hid (HQ.out.nil HF.out)
          obtain ⟨g2, cap2, w5, hap, c4, f4, hq5⟩ := HQ2.out.push (A := A) (by omega) (HR.out.congr (fun i hi => by rw [if_pos (by omega)]))
          have HAP := Lib.hid hap
          have HQ5 := Lib.hid hq5
          have b4 := HQ2.out.ob_.cell 4
          clear hap hq5 HR HF hxn
          go_wp2_with (at_builtin; refine Lib.wpList_append_run _ rfl _ _ _ _ rfl _ _ rfl rfl _ _ HAP.out ?_)
          go_roundg q
          case measure => omega
          case rel => exact ⟨y + 1, _, cap2, Lib.hid (by have := HY.out; omega), by go_num, HQ5⟩
        | succ p =>
          have hxz : (x : Int) < (n : Int) := by have := HX.out; omega
          have hxn : x < n := by omega
          have HG := Lib.hid (bmGet_calls (HQ.out.bm.nil HF.out) x y hxn hyn)
          have z0 := HR.out.frozen x
          have z1 := HR.out.cell hxn
          have hsy : symB v l k (bitsOf (rawW l v raw es)) y x = (M y x == 1) := by rw [HMM.out]
          have HN2 := Lib.hid (show _ ∧ _ from ⟨(HR.out.set x (.bool (M y x == 1))).congr (g := fun i => .bool (if i < x + 1 then symB v l k (bitsOf (rawW l v raw es)) y i else false)) (fun i hi => by
              by_cases e : i = x
              · rw [if_pos e, e, if_pos (by omega), hsy]
              · rw [if_neg e]
                by_cases h : i < x
                · rw [if_pos h, if_pos (by omega)]
                · rw [if_neg h, if_neg (by omega)]), HF.out.setNew (by rw [HA.out]; exact Nat.le_refl _) x (.bool (M y x == 1))⟩)
          rw [if_neg (by omega)] at z1
          clear HR HF hsy
          generalize M y x = mv at *
          go_wp2_with fail
          refine HG.out.mono ?_
          rintro e w5 ⟨rfl, rfl⟩
          go_wp2_with fail
          go_roundg p
          case measure => omega
          case rel => exact ⟨x + 1, Lib.hid (by have := HX.out; omega), by go_num, Lib.hid HN2.out.1, Lib.hid HN2.out.2⟩
end Go.Proofs.YtcekbhhpcmhicaaGreatDoor
/- The view's frame and tones. -/
namespace Go.Proofs.YtcekbhhpcmhicaaGreatDoor
open Go Go.RowKit Go.Deep
set_option maxRecDepth 100000
/-- a view as the call has it -/
structure View where
  s : Nat
  b0 : Nat
  b1 : Nat
  b2 : Nat
  b3 : Nat
  d : Nat
  l : Nat
  p : Bool
def View.val (v : View) : Value := .agg #[u8 v.s, u8 v.b0, u8 v.b1, u8 v.b2, u8 v.b3, u8 v.d, u8 v.l, .bool v.p]
structure View.ok (v : View) : Prop where
  s : v.s < 256
  b0 : v.b0 < 256
  b1 : v.b1 < 256
  b2 : v.b2 < 256
  b3 : v.b3 < 256
  d : v.d < 256
  l : v.l < 256
set_option maxHeartbeats 1600000 in
theorem tones_calls (v : View) (h : v.ok) (w : World) : Calls Tryz.prog 35 #[v.val] w fun e w' => ∃ dk lt : Nat, e = .returned (.tuple #[u8 dk, u8 lt]) ∧ lt = 128 + v.l % 128 ∧ dk = v.d % ((128 + v.l % 128) / 3 + 1) ∧ Fr Nil w w' := by
  obtain ⟨s, b0, b1, b2, b3, d, l, p⟩ := v
  obtain ⟨hs, h0, h1, h2, h3, hd, hl⟩ := h
  simp only at *
  unfold View.val
  go_enter Tryz.func35, Tryz.ntmps35
  go_wp2_with fail
  go_ret2
  refine ⟨_, _, ?_, rfl, rfl, (Fr.refl _ _).alloc _⟩
  have e1 : (128 : Int) + (l : Int) % 128 = ((128 + l % 128 : Nat) : Int) := by omega
  simp only [e1]
  have e2 : (((128 + l % 128 : Nat) : Int) / 3 + 1) = (((128 + l % 128) / 3 + 1 : Nat) : Int) := by omega
  rw [e2, ← Int.natCast_emod]
  rfl
set_option maxHeartbeats 1600000 in
theorem frame_calls (v : View) (h : v.ok) (w : World) : Calls Tryz.prog 34 #[v.val] w fun e w' => e = .returned (.agg #[i64 (1 + v.s % 6 : Nat), i64 (1 + v.b0 % 100 : Nat), i64 (1 + v.b1 % 100 : Nat), i64 (1 + v.b2 % 100 : Nat), i64 (1 + v.b3 % 100 : Nat)]) ∧ Fr Nil w w' := by
  obtain ⟨s, b0, b1, b2, b3, d, l, p⟩ := v
  obtain ⟨hs, h0, h1, h2, h3, hd, hl⟩ := h
  simp only at *
  unfold View.val
  go_enter Tryz.func34, Tryz.ntmps34
  go_wp2_with fail
  obtain ⟨w1, hw1⟩ : ∃ w1, (w.alloc (.cells #[u8 s, u8 b0, u8 b1, u8 b2, u8 b3, u8 d, u8 l, .bool p] 40)).alloc (.cells #[.int .i64 0, .int .i64 0, .int .i64 0, .int .i64 0, .int .i64 0] 84) = w1 := ⟨_, rfl⟩
  rw [hw1]
  obtain ⟨nb, hnb⟩ : ∃ nb, w1.heap.size = nb := ⟨_, rfl⟩
  have hsz : w1.heap.size = w.heap.size + 1 + 1 := by rw [← hw1]; simp
  have HS := Lib.hid hsz
  have hf1 : Fr Nil w w1 := by rw [← hw1]; exact ((Fr.refl _ _).alloc _).alloc _
  have hv : Blk w1 w.heap.size 40 #[u8 s, u8 b0, u8 b1, u8 b2, u8 b3, u8 d, u8 l, .bool p] := by rw [← hw1]; exact (Blk.new _ _ _).alloc _
  have hr : Blk w1 (w.heap.size + 1) 84 #[.int .i64 0, .int .i64 0, .int .i64 0, .int .i64 0, .int .i64 0] := by
    rw [← hw1]
    have h := Blk.new (w.alloc (.cells #[u8 s, u8 b0, u8 b1, u8 b2, u8 b3, u8 d, u8 l, .bool p] 40)) 84 #[.int .i64 0, .int .i64 0, .int .i64 0, .int .i64 0, .int .i64 0]
    rw [show (w.alloc (.cells #[u8 s, u8 b0, u8 b1, u8 b2, u8 b3, u8 d, u8 l, .bool p] 40)).heap.size = w.heap.size + 1 from by simp] at h
    exact h
  obtain ⟨w2, hw2⟩ : ∃ w2, w1.alloc (.cells #[.int .i64 0, .int .i64 0, .int .i64 0, .int .i64 0] 164) = w2 := ⟨_, rfl⟩
  have hn : Blk w2 nb 164 #[i64 (if 0 < 0 then 1 + b0 % 100 else 0 : Nat), i64 (if 1 < 0 then 1 + b1 % 100 else 0 : Nat), i64 (if 2 < 0 then 1 + b2 % 100 else 0 : Nat), i64 (if 3 < 0 then 1 + b3 % 100 else 0 : Nat)] := by
    rw [← hnb, ← hw2]; exact Blk.new _ _ _
  have hf2 : Fr Nil w w2 := by rw [← hw2]; exact hf1.alloc _
  have hv2 : Blk w2 w.heap.size 40 #[u8 s, u8 b0, u8 b1, u8 b2, u8 b3, u8 d, u8 l, .bool p] := by rw [← hw2]; exact hv.alloc _
  have hr2 : Blk w2 (w.heap.size + 1) 84 #[.int .i64 0, .int .i64 0, .int .i64 0, .int .i64 0, .int .i64 0] := by rw [← hw2]; exact hr.alloc _
  have HB := Lib.hid (show _ ∧ _ ∧ _ ∧ _ from ⟨hn, hf2, hv2, hr2⟩)
  have HW := Lib.hid (show w.heap.size ≤ nb ∧ w.heap.size + 1 + 1 = nb from by omega)
  rw [hw2, show w.heap.size + 1 + 1 = nb from HW.out.2]
  clear hw1 hw2 hsz hf1 hv hr hn hnb hf2 hv2 hr2
  go_loopg [4, 5, 9] 4 (fun r s4 s5 s9 wz => ∃ i : Nat, Hid (i + r = 4) ∧ s9 = .int .i64 i ∧ Hid (Blk wz nb 164 #[i64 (if 0 < i then 1 + b0 % 100 else 0 : Nat), i64 (if 1 < i then 1 + b1 % 100 else 0 : Nat), i64 (if 2 < i then 1 + b2 % 100 else 0 : Nat), i64 (if 3 < i then 1 + b3 % 100 else 0 : Nat)]) ∧ Hid (Fr Nil w wz ∧ Blk wz w.heap.size 40 #[u8 s, u8 b0, u8 b1, u8 b2, u8 b3, u8 d, u8 l, .bool p] ∧ Blk wz (w.heap.size + 1) 84 #[.int .i64 0, .int .i64 0, .int .i64 0, .int .i64 0, .int .i64 0]))
  case atStart => exact ⟨0, Lib.hid (by omega), rfl, Lib.hid HB.out.1, Lib.hid HB.out.2⟩
  case round =>
    clear HB
    obtain ⟨i, HI, rfl, HN, HR⟩ := hrel
    cases gk with
    | zero =>
      obtain rfl : i = 4 := by have := HI.out; omega
      have a0 := HN.out.cell 0
      have a1 := HN.out.cell 1
      have a2 := HN.out.cell 2
      have a3 := HN.out.cell 3
      have v0 := HR.out.2.1.cell 0
      have z0 := HR.out.2.2.cell 0
      have z1 := HR.out.2.2.cell 1
      have z2 := HR.out.2.2.cell 2
      have z3 := HR.out.2.2.cell 3
      have z4 := HR.out.2.2.cell 4
      have y0 := HR.out.2.2.frozen 0
      have y1 := HR.out.2.2.frozen 1
      have y2 := HR.out.2.2.frozen 2
      have y3 := HR.out.2.2.frozen 3
      have y4 := HR.out.2.2.frozen 4
      rw [show (#[i64 (if 0 < 4 then 1 + b0 % 100 else 0 : Nat), i64 (if 1 < 4 then 1 + b1 % 100 else 0 : Nat), i64 (if 2 < 4 then 1 + b2 % 100 else 0 : Nat), i64 (if 3 < 4 then 1 + b3 % 100 else 0 : Nat)] : Array Value) = #[i64 (1 + b0 % 100 : Nat), i64 (1 + b1 % 100 : Nat), i64 (1 + b2 % 100 : Nat), i64 (1 + b3 % 100 : Nat)] from rfl] at a0 a1 a2 a3
      go_wp2_with fail
      obtain ⟨hfr, _, hB0⟩ := HR.out
      have e0 : (.int .i64 (1 + (s : Int) % 6) : Value) = i64 (1 + s % 6 : Nat) := by
        show Value.int .i64 _ = Value.int .i64 _
        congr 1
      have e1 : (.int .i64 (1 + (b0 : Int) % 100) : Value) = i64 (1 + b0 % 100 : Nat) := by
        show Value.int .i64 _ = Value.int .i64 _
        congr 1
      have e2 : (.int .i64 (1 + (b1 : Int) % 100) : Value) = i64 (1 + b1 % 100 : Nat) := by
        show Value.int .i64 _ = Value.int .i64 _
        congr 1
      have e3 : (.int .i64 (1 + (b2 : Int) % 100) : Value) = i64 (1 + b2 % 100 : Nat) := by
        show Value.int .i64 _ = Value.int .i64 _
        congr 1
      have e4 : (.int .i64 (1 + (b3 : Int) % 100) : Value) = i64 (1 + b3 % 100 : Nat) := by
        show Value.int .i64 _ = Value.int .i64 _
        congr 1
      rw [e0, e1, e2, e3, e4]
      obtain ⟨W, hW⟩ : ∃ W, (((((wr.setCell ⟨w.heap.size + 1, 0, none⟩ (i64 (1 + s % 6 : Nat))).setCell ⟨w.heap.size + 1, 1, none⟩ (i64 (1 + b0 % 100 : Nat))).setCell ⟨w.heap.size + 1, 2, none⟩ (i64 (1 + b1 % 100 : Nat))).setCell ⟨w.heap.size + 1, 3, none⟩ (i64 (1 + b2 % 100 : Nat))).setCell ⟨w.heap.size + 1, 4, none⟩ (i64 (1 + b3 % 100 : Nat))) = W := ⟨_, rfl⟩
      rw [hW]
      have hB : Blk W (w.heap.size + 1) 84 #[i64 (1 + s % 6 : Nat), i64 (1 + b0 % 100 : Nat), i64 (1 + b1 % 100 : Nat), i64 (1 + b2 % 100 : Nat), i64 (1 + b3 % 100 : Nat)] := by
        rw [← hW]
        exact ((((hB0.set_ 0 (i64 (1 + s % 6 : Nat))).set_ 1 (i64 (1 + b0 % 100 : Nat))).set_ 2 (i64 (1 + b1 % 100 : Nat))).set_ 3 (i64 (1 + b2 % 100 : Nat))).set_ 4 (i64 (1 + b3 % 100 : Nat))
      have hFW : Fr Nil w W := by
        rw [← hW]
        exact ((((hfr.setNew (by omega) 0 _).setNew (by omega) 1 _).setNew (by omega) 2 _).setNew (by omega) 3 _).setNew (by omega) 4 _
      clear hW hfr hB0 e0 e1 e2 e3 e4 a0 a1 a2 a3 v0 z0 z1 z2 z3 z4 y0 y1 y2 y3 y4 HN HR HS
      have x0 := hB.cell 0
      have x1 := hB.cell 1
      have x2 := hB.cell 2
      have x3 := hB.cell 3
      have x4 := hB.cell 4
      exact bodyPost_ret (v := .agg #[i64 (1 + s % 6 : Nat), i64 (1 + b0 % 100 : Nat), i64 (1 + b1 % 100 : Nat), i64 (1 + b2 % 100 : Nat), i64 (1 + b3 % 100 : Nat)]) (by simp [results, Tryz.results34, go_sem, x0, x1, x2, x3, x4]) rfl ⟨rfl, hFW⟩
    | succ r =>
      have hi : i = 0 ∨ i = 1 ∨ i = 2 ∨ i = 3 := by have := HI.out; omega
      rcases hi with rfl | rfl | rfl | rfl
      · have hix : ∀ w : World, (Instr.index 38 (.agg #[u8 b0, u8 b1, u8 b2, u8 b3]) (.int .i64 0)).run Tryz.prog w = .ok (u8 b0) w := fun _ => by kernel_rfl
        have hc := HN.out.cell 0
        have hz := HN.out.frozen 0
        have he : (.int .i64 (1 + (b0 : Int) % 100) : Value) = i64 (1 + b0 % 100 : Nat) := by
          show Value.int .i64 _ = Value.int .i64 _
          congr 1
        have HN2 := Lib.hid (show Blk (wr.setCell ⟨nb, 0, none⟩ (.int .i64 (1 + (b0 : Int) % 100))) nb 164 #[i64 (if 0 < 1 then 1 + b0 % 100 else 0 : Nat), i64 (if 1 < 1 then 1 + b1 % 100 else 0 : Nat), i64 (if 2 < 1 then 1 + b2 % 100 else 0 : Nat), i64 (if 3 < 1 then 1 + b3 % 100 else 0 : Nat)] ∧ _ ∧ _ ∧ _ from ⟨by rw [he]; exact HN.out.set_ 0 (i64 (1 + b0 % 100 : Nat)), HR.out.1.setNew HW.out.1 0 (.int .i64 (1 + (b0 : Int) % 100)), HR.out.2.1.far (p := ⟨nb, 0, none⟩) (by have := HW.out; show w.heap.size ≠ nb; omega) (.int .i64 (1 + (b0 : Int) % 100)), HR.out.2.2.far (p := ⟨nb, 0, none⟩) (by have := HW.out; show w.heap.size + 1 ≠ nb; omega) (.int .i64 (1 + (b0 : Int) % 100))⟩)
        clear HN HR he
        go_wp2_with fail
        go_roundg r
        case measure => omega
        case rel => exact ⟨1, Lib.hid (by have := HI.out; omega), rfl, Lib.hid HN2.out.1, Lib.hid HN2.out.2⟩
      · have hix : ∀ w : World, (Instr.index 38 (.agg #[u8 b0, u8 b1, u8 b2, u8 b3]) (.int .i64 1)).run Tryz.prog w = .ok (u8 b1) w := fun _ => by kernel_rfl
        have hc := HN.out.cell 1
        have hz := HN.out.frozen 1
        have he : (.int .i64 (1 + (b1 : Int) % 100) : Value) = i64 (1 + b1 % 100 : Nat) := by
          show Value.int .i64 _ = Value.int .i64 _
          congr 1
        have HN2 := Lib.hid (show Blk (wr.setCell ⟨nb, 1, none⟩ (.int .i64 (1 + (b1 : Int) % 100))) nb 164 #[i64 (if 0 < 2 then 1 + b0 % 100 else 0 : Nat), i64 (if 1 < 2 then 1 + b1 % 100 else 0 : Nat), i64 (if 2 < 2 then 1 + b2 % 100 else 0 : Nat), i64 (if 3 < 2 then 1 + b3 % 100 else 0 : Nat)] ∧ _ ∧ _ ∧ _ from ⟨by rw [he]; exact HN.out.set_ 1 (i64 (1 + b1 % 100 : Nat)), HR.out.1.setNew HW.out.1 1 (.int .i64 (1 + (b1 : Int) % 100)), HR.out.2.1.far (p := ⟨nb, 1, none⟩) (by have := HW.out; show w.heap.size ≠ nb; omega) (.int .i64 (1 + (b1 : Int) % 100)), HR.out.2.2.far (p := ⟨nb, 1, none⟩) (by have := HW.out; show w.heap.size + 1 ≠ nb; omega) (.int .i64 (1 + (b1 : Int) % 100))⟩)
        clear HN HR he
        go_wp2_with fail
        go_roundg r
        case measure => omega
        case rel => exact ⟨2, Lib.hid (by have := HI.out; omega), rfl, Lib.hid HN2.out.1, Lib.hid HN2.out.2⟩
      · have hix : ∀ w : World, (Instr.index 38 (.agg #[u8 b0, u8 b1, u8 b2, u8 b3]) (.int .i64 2)).run Tryz.prog w = .ok (u8 b2) w := fun _ => by kernel_rfl
        have hc := HN.out.cell 2
        have hz := HN.out.frozen 2
        have he : (.int .i64 (1 + (b2 : Int) % 100) : Value) = i64 (1 + b2 % 100 : Nat) := by
          show Value.int .i64 _ = Value.int .i64 _
          congr 1
        have HN2 := Lib.hid (show Blk (wr.setCell ⟨nb, 2, none⟩ (.int .i64 (1 + (b2 : Int) % 100))) nb 164 #[i64 (if 0 < 3 then 1 + b0 % 100 else 0 : Nat), i64 (if 1 < 3 then 1 + b1 % 100 else 0 : Nat), i64 (if 2 < 3 then 1 + b2 % 100 else 0 : Nat), i64 (if 3 < 3 then 1 + b3 % 100 else 0 : Nat)] ∧ _ ∧ _ ∧ _ from ⟨by rw [he]; exact HN.out.set_ 2 (i64 (1 + b2 % 100 : Nat)), HR.out.1.setNew HW.out.1 2 (.int .i64 (1 + (b2 : Int) % 100)), HR.out.2.1.far (p := ⟨nb, 2, none⟩) (by have := HW.out; show w.heap.size ≠ nb; omega) (.int .i64 (1 + (b2 : Int) % 100)), HR.out.2.2.far (p := ⟨nb, 2, none⟩) (by have := HW.out; show w.heap.size + 1 ≠ nb; omega) (.int .i64 (1 + (b2 : Int) % 100))⟩)
        clear HN HR he
        go_wp2_with fail
        go_roundg r
        case measure => omega
        case rel => exact ⟨3, Lib.hid (by have := HI.out; omega), rfl, Lib.hid HN2.out.1, Lib.hid HN2.out.2⟩
      · have hix : ∀ w : World, (Instr.index 38 (.agg #[u8 b0, u8 b1, u8 b2, u8 b3]) (.int .i64 3)).run Tryz.prog w = .ok (u8 b3) w := fun _ => by kernel_rfl
        have hc := HN.out.cell 3
        have hz := HN.out.frozen 3
        have he : (.int .i64 (1 + (b3 : Int) % 100) : Value) = i64 (1 + b3 % 100 : Nat) := by
          show Value.int .i64 _ = Value.int .i64 _
          congr 1
        have HN2 := Lib.hid (show Blk (wr.setCell ⟨nb, 3, none⟩ (.int .i64 (1 + (b3 : Int) % 100))) nb 164 #[i64 (if 0 < 4 then 1 + b0 % 100 else 0 : Nat), i64 (if 1 < 4 then 1 + b1 % 100 else 0 : Nat), i64 (if 2 < 4 then 1 + b2 % 100 else 0 : Nat), i64 (if 3 < 4 then 1 + b3 % 100 else 0 : Nat)] ∧ _ ∧ _ ∧ _ from ⟨by rw [he]; exact HN.out.set_ 3 (i64 (1 + b3 % 100 : Nat)), HR.out.1.setNew HW.out.1 3 (.int .i64 (1 + (b3 : Int) % 100)), HR.out.2.1.far (p := ⟨nb, 3, none⟩) (by have := HW.out; show w.heap.size ≠ nb; omega) (.int .i64 (1 + (b3 : Int) % 100)), HR.out.2.2.far (p := ⟨nb, 3, none⟩) (by have := HW.out; show w.heap.size + 1 ≠ nb; omega) (.int .i64 (1 + (b3 : Int) % 100))⟩)
        clear HN HR he
        go_wp2_with fail
        go_roundg r
        case measure => omega
        case rel => exact ⟨4, Lib.hid (by have := HI.out; omega), rfl, Lib.hid HN2.out.1, Lib.hid HN2.out.2⟩
end Go.Proofs.YtcekbhhpcmhicaaGreatDoor
/- RQPicture: the picture of modules. -/
namespace Go.Proofs.YtcekbhhpcmhicaaGreatDoor
open Go Go.RowKit Go.Deep
set_option maxRecDepth 100000
/-- a picture in memory: H rows of W pixels -/
structure MR (w : World) (g W H : Nat) (R : Nat → Nat) (B : Nat → Nat → Bool) : Prop where
  top : ∀ y, y < H → w.cell? ⟨g, y, none⟩ = some (.slice (some ⟨R y, 0, none⟩) W W)
  row : ∀ y, y < H → w.rowIs (R y) 4 W (fun x => .bool (B y x))
theorem MR.nil {w w' : World} {g W H : Nat} {R : Nat → Nat} {B : Nat → Nat → Bool} (h : MR w g W H R B) (hf : Fr Nil w w') : MR w' g W H R B :=
  ⟨fun y hy => hf.cell_some (h.top y hy) (fun e => e), fun y hy => rowFr (h.row y hy) hf (fun e => e)⟩
/-- the pixels of a picture: S pixels square from (L, T) on, each module s of them -/
def picB (s S L T : Nat) (B : Nat → Nat → Bool) (y x : Nat) : Bool := decide (T ≤ y ∧ y < T + S ∧ L ≤ x ∧ x < L + S) && B ((y - T) / s) ((x - L) / s)
theorem mkPics (n : Nat) (h : n ≤ 1000000) (w : World) : (Instr.makeSlice 23 (.int .i64 (n : Int)) (.int .i64 (n : Int))).run Tryz.prog w = .ok (.slice (some ⟨w.heap.size, 0, none⟩) n n) (w.alloc (.cells (madeCells #[.slice none 0 0] n) 42)) :=
  run_make_row' (P := Tryz.prog) 23 42 (.slice none 0 0) 24 Tryz.und23 Tryz.inf42 rfl .i64 .i64 n (by omega) (by omega) w
/-- rows made so far: i; their slices are laid up to k -/
structure RP (w0 w : World) (g W H i k : Nat) (R : Nat → Nat) (B : Nat → Nat → Bool) : Prop where
  fr : Fr Nil w0 w
  lo : w0.heap.size ≤ g
  top : w.rowIs g 42 H (fun y => if y < k then .slice (some ⟨R y, 0, none⟩) W W else .slice none 0 0)
  row : ∀ y, y < i → w.rowIs (R y) 4 W (fun x => .bool (B y x))
theorem RP.start {w0 w : World} (hf : Fr Nil w0 w) (W H : Nat) (B : Nat → Nat → Bool) :
    RP w0 (w.alloc (.cells (madeCells #[.slice none 0 0] H) 42)) w.heap.size W H 0 0 (fun _ => 0) B :=
  ⟨hf.alloc _, hf.size, (World.rowIs_made w (.slice none 0 0) H 42).congr (fun y _ => by rw [if_neg (by omega)]), fun y hy => absurd hy (by omega)⟩
theorem RP.lt {w0 w : World} {g W H i k : Nat} {R : Nat → Nat} {B : Nat → Nat → Bool} (h : RP w0 w g W H i k R B) : g < w.heap.size := by obtain ⟨c, hc, _⟩ := h.top; exact (Array.getElem?_eq_some_iff.1 hc).1
/-- a new row of light pixels -/
theorem RP.add {w0 w : World} {g W H i : Nat} {R : Nat → Nat} {B : Nat → Nat → Bool} (h : RP w0 w g W H i i R B) :
    RP w0 ((w.alloc (.cells (madeCells #[.bool false] W) 4)).setCell ⟨g, i, none⟩ (.slice (some ⟨w.heap.size, 0, none⟩) W W)) g W H i (i + 1) (fun j => if j = i then w.heap.size else R j) B ∧
    ((w.alloc (.cells (madeCells #[.bool false] W) 4)).setCell ⟨g, i, none⟩ (.slice (some ⟨w.heap.size, 0, none⟩) W W)).rowIs w.heap.size 4 W (fun _ => .bool false) := by
  have hfa : Fr Nil w (w.alloc (.cells (madeCells #[.bool false] W) 4)) := (Fr.refl _ _).alloc _
  have hg : g < w.heap.size := by obtain ⟨c, hc, _⟩ := h.top; exact (Array.getElem?_eq_some_iff.1 hc).1
  have hfs : Fr (One g) (w.alloc (.cells (madeCells #[.bool false] W) 4)) ((w.alloc (.cells (madeCells #[.bool false] W) 4)).setCell ⟨g, i, none⟩ (.slice (some ⟨w.heap.size, 0, none⟩) W W)) := (Fr.refl _ _).set1 i _
  refine ⟨⟨(h.fr.trans hfa).setNew h.lo i _, h.lo, ((rowFr h.top hfa (fun e => e)).set i _).congr (fun y _ => ?_), fun y hy => ?_⟩, ?_⟩
  · by_cases e : y = i
    · subst e; rw [if_pos rfl, if_pos (by omega), if_pos rfl]
    · rw [if_neg e]
      by_cases hy : y < i
      · rw [if_pos hy, if_pos (by omega), if_neg e]
      · rw [if_neg hy, if_neg (by omega)]
  · simp only [if_neg (show ¬ y = i from by omega)]
    have hr := h.row y hy
    exact rowFr (rowFr hr hfa (fun e => e)) hfs (fun e => by
      have e : R y = g := e
      exact row_ne hr h.top (by decide) e)
  · exact rowFr (World.rowIs_made w (.bool false) W 4) hfs (fun e => by
      have e : w.heap.size = g := e
      omega)
/-- the row is done -/
theorem RP.close {w0 w w' : World} {g W H i A : Nat} {R : Nat → Nat} {B : Nat → Nat → Bool} (h : RP w0 w g W H i (i + 1) R B) (hA : R i = A) (hA2 : ∀ j, j < i → R j ≠ A) (hlo : w0.heap.size ≤ A) (hag : A ≠ g) (hf : Fr (One A) w w') (hr : w'.rowIs A 4 W (fun x => .bool (B i x))) :
    RP w0 w' g W H (i + 1) (i + 1) R B := by
  refine ⟨h.fr.trans' hf (fun k hk e => ?_), h.lo, rowFr h.top hf (fun e => hag e.symm), fun y hy => ?_⟩
  · have e : k = A := e
    omega
  · by_cases e : y = i
    · subst e; rw [hA]; exact hr
    · exact rowFr (h.row y (by omega)) hf (fun e2 => hA2 y (by omega) e2)
theorem RP.done {w0 w : World} {g W H : Nat} {R : Nat → Nat} {B : Nat → Nat → Bool} (h : RP w0 w g W H H H R B) : MR w g W H R B :=
  ⟨fun y hy => by have := h.top.cell hy; simpa [hy] using this, h.row⟩
set_option maxHeartbeats 6400000 in
theorem picture_calls {w : World} {g0 n cap0 : Nat} {R0 : Nat → Nat} {B0 : Nat → Nat → Bool} (h : MM w g0 n R0 B0) (h1 : 1 ≤ n) (h2 : n ≤ 177) (s L T Rr Bm : Nat) (s1 : 1 ≤ s) (s2 : s ≤ 6) (l2 : L ≤ 100) (t2 : T ≤ 100) (r2 : Rr ≤ 100) (b2 : Bm ≤ 100) :
    Calls Tryz.prog 33 #[.slice (some ⟨g0, 0, none⟩) n cap0, .agg #[i64 s, i64 L, i64 T, i64 Rr, i64 Bm]] w fun e w' => ∃ g R, e = .returned (.slice (some ⟨g, 0, none⟩) (T + s * n + Bm : Nat) (T + s * n + Bm : Nat)) ∧ MR w' g (L + s * n + Rr) (T + s * n + Bm) R (picB s (s * n) L T B0) ∧ Fr Nil w w' := by
  have hS2 : s * n ≤ 1062 := Nat.le_trans (Nat.mul_le_mul s2 h2) (by decide)
  have hS1 : 1 ≤ s * n := Nat.mul_pos s1 h1
  have HSN := Lib.hid (show ∀ i, i < s * n → i / s < n from fun i hi => Nat.div_lt_of_lt_mul hi)
  obtain ⟨S, hS⟩ : ∃ S, s * n = S := ⟨_, rfl⟩
  rw [hS] at hS2 hS1 HSN ⊢
  have hm : (s : Int) * (n : Int) = (S : Int) := by rw [← hS, Int.natCast_mul]
  obtain ⟨H, hH⟩ : ∃ H, T + S + Bm = H := ⟨_, rfl⟩
  obtain ⟨W, hW⟩ : ∃ W, L + S + Rr = W := ⟨_, rfl⟩
  rw [hH, hW]
  have eH : (T : Int) + (S : Int) + (Bm : Int) = (H : Int) := by omega
  have eW : (L : Int) + (S : Int) + (Rr : Int) = (W : Int) := by omega
  have HHW := Lib.hid (show _ ∧ _ from ⟨hH, hW⟩)
  have HM := Lib.hid h
  clear h hS hH hW
  have hb := Blk.new w 84 #[i64 s, i64 L, i64 T, i64 Rr, i64 Bm]
  have hf0 : Fr Nil w (w.alloc (.cells #[i64 s, i64 L, i64 T, i64 Rr, i64 Bm] 84)) := (Fr.refl _ _).alloc _
  have hmk := mkPics H (by omega) (w.alloc (.cells #[i64 s, i64 L, i64 T, i64 Rr, i64 Bm] 84))
  have hst := RP.start hf0 W H (picB s S L T B0)
  obtain ⟨fb, hfb⟩ : ∃ fb, w.heap.size = fb := ⟨_, rfl⟩
  obtain ⟨w1, hw1⟩ : ∃ w1, w.alloc (.cells #[i64 s, i64 L, i64 T, i64 Rr, i64 Bm] 84) = w1 := ⟨_, rfl⟩
  have HW1 := Lib.hid (show _ ∧ _ from ⟨hw1, hfb⟩)
  rw [hw1] at hb hst
  have hmk2 := hmk
  rw [hw1] at hmk2
  rw [hfb] at hb
  obtain ⟨g, hg⟩ : ∃ g, w1.heap.size = g := ⟨_, rfl⟩
  rw [hg] at hmk2 hst
  obtain ⟨w2, hw2⟩ : ∃ w2, w1.alloc (.cells (madeCells #[.slice none 0 0] H) 42) = w2 := ⟨_, rfl⟩
  have hb2 : Blk w2 fb 84 #[i64 s, i64 L, i64 T, i64 Rr, i64 Bm] := by rw [← hw2]; exact hb.alloc _
  rw [hw2] at hmk2 hst
  rw [← hw1] at hmk2
  have HST := Lib.hid (show _ ∧ _ from ⟨hst, hb2⟩)
  have c0 := hb.cell 0
  have c1 := hb.cell 1
  have c2 := hb.cell 2
  have c3 := hb.cell 3
  have c4 := hb.cell 4
  have HG := Lib.hid (show fb < g from by rw [← hg]; exact hb.lt)
  have HFB := Lib.hid (show w.heap.size = fb from hfb)
  clear hmk hb hf0 hst hw1 hfb hg hw2 hb2 c0 c1 c2 c3 c4
  go_enter Tryz.func33, Tryz.ntmps33
  go_wp2_with fail
  rw [HFB.out]
  clear hmk2
  go_loopg [7, 8, 9, 25] H (fun c s7 s8 s9 s25 wr => ∃ (i : Nat) (R : Nat → Nat), Hid (i + c = H) ∧ s25 = .int .i64 i ∧ Hid (RP w wr g W H i i R (picB s S L T B0)) ∧ Hid (Blk wr fb 84 #[i64 s, i64 L, i64 T, i64 Rr, i64 Bm]))
  case atStart => exact ⟨0, fun _ => 0, Lib.hid (by omega), rfl, Lib.hid HST.out.1, Lib.hid HST.out.2⟩
  case round =>
    clear HST
    obtain ⟨i, R, HI, rfl, HR, HB⟩ := hrel
    cases gk with
    | zero =>
      have hz : ¬ (i : Int) < (H : Int) := by have := HI.out; omega
      obtain rfl : i = H := by have := HI.out; omega
      go_wp2_with fail
      go_ret
      exact ⟨g, rfl, ⟨R, HR.out.done⟩, HR.out.fr⟩
    | succ c =>
      have hz : (i : Int) < (H : Int) := by have := HI.out; omega
      have hiH : i < H := by omega
      have hmk := mkBools W (by have := HHW.out; omega) wr
      obtain ⟨A, hA⟩ : ∃ A, wr.heap.size = A := ⟨_, rfl⟩
      obtain ⟨hadd, hrw⟩ := HR.out.add
      have hba := HB.out.alloc (.cells (madeCells #[.bool false] W) 4)
      have hgc := (rowFr HR.out.top ((Fr.refl Nil wr).alloc (.cells (madeCells #[.bool false] W) 4)) (fun e => e)).cell hiH
      have hgf := (rowFr HR.out.top ((Fr.refl Nil wr).alloc (.cells (madeCells #[.bool false] W) 4)) (fun e => e)).frozen i
      rw [if_neg (by omega)] at hgc
      rw [hA] at hmk hadd hrw
      obtain ⟨w3, hw3⟩ : ∃ w3, wr.alloc (.cells (madeCells #[.bool false] W) 4) = w3 := ⟨_, rfl⟩
      rw [hw3] at hmk hadd hrw hba hgc hgf
      have HA := Lib.hid (show g < A ∧ fb < A ∧ w.heap.size ≤ A ∧ (∀ j, j < i → R j ≠ A) from ⟨by rw [← hA]; exact HR.out.lt, by rw [← hA]; exact HB.out.lt, by rw [← hA]; exact HR.out.fr.size, fun j hj e => by
        have h := (HR.out.row j hj)
        obtain ⟨c, hc, _⟩ := h
        have := (Array.getElem?_eq_some_iff.1 hc).1
        omega⟩)
      have hgfb : g ≠ fb := by have := HG.out; omega
      have hfbg : fb ≠ g := by omega
      obtain ⟨w4, hw4⟩ : ∃ w4, w3.setCell ⟨g, i, none⟩ (.slice (some ⟨A, 0, none⟩) W W) = w4 := ⟨_, rfl⟩
      have hb4 : Blk w4 fb 84 #[i64 s, i64 L, i64 T, i64 Rr, i64 Bm] := by rw [← hw4]; exact hba.far (p := ⟨g, i, none⟩) hfbg _
      rw [hw4] at hadd hrw
      have HW4 := Lib.hid hw4
      have H4 := Lib.hid (show _ ∧ _ ∧ _ from ⟨hadd, hrw, hb4⟩)
      have c0 := HB.out.cell 0
      have c1 := HB.out.cell 1
      have c2 := HB.out.cell 2
      have c3 := HB.out.cell 3
      have c4 := HB.out.cell 4
      have d0 := hba.cell 0
      have d1 := hba.cell 1
      have d2 := hba.cell 2
      have d3 := hba.cell 3
      have d4 := hba.cell 4
      clear hadd hrw hb4 hba hw3 hw4 hA
      have heq : w4 = w4 := rfl
      have hend : ∀ x, (i < T ∨ T + S ≤ i) → picB s S L T B0 i x = false := fun x hx => by
        unfold picB
        rw [decide_eq_false (by omega), Bool.false_and]
      have HEND := Lib.hid hend
      clear hend heq
      by_cases hlow : i < T
      · have hlz : (i : Int) < (T : Int) := by omega
        go_wp2_with fail
        rw [HW4.out]
        go_roundg c
        case measure => have := HI.out; omega
        case rel => exact ⟨i + 1, _, Lib.hid (by have := HI.out; omega), by go_num, Lib.hid (H4.out.1.close (if_pos rfl) (fun j hj => by rw [if_neg (by omega)]; exact HA.out.2.2.2 j hj) HA.out.2.2.1 (by have := HA.out.1; omega) (Fr.refl _ _) (H4.out.2.1.congr (fun x _ => by rw [HEND.out x (.inl hlow)]))), Lib.hid H4.out.2.2⟩
      · have hlz : ¬ (i : Int) < (T : Int) := by omega
        by_cases hhigh : T + S ≤ i
        · have hhz : (T : Int) + (S : Int) ≤ (i : Int) := by omega
          go_wp2_with fail
          rw [HW4.out]
          go_roundg c
          case measure => have := HI.out; omega
          case rel => exact ⟨i + 1, _, Lib.hid (by have := HI.out; omega), by go_num, Lib.hid (H4.out.1.close (if_pos rfl) (fun j hj => by rw [if_neg (by omega)]; exact HA.out.2.2.2 j hj) HA.out.2.2.1 (by have := HA.out.1; omega) (Fr.refl _ _) (H4.out.2.1.congr (fun x _ => by rw [HEND.out x (.inr hhigh)]))), Lib.hid H4.out.2.2⟩
        · have hhz : ¬ (T : Int) + (S : Int) ≤ (i : Int) := by omega
          obtain ⟨t, ht⟩ : ∃ t, i - T = t := ⟨_, rfl⟩
          obtain ⟨q, hq⟩ : ∃ q, t / s = q := ⟨_, rfl⟩
          have hqn : q < n := by rw [← hq]; exact HSN.out t (by omega)
          have e1 : (i : Int) - (T : Int) = (t : Int) := by omega
          have e2 : Int.tdiv (t : Int) (s : Int) = (q : Int) := by rw [← Int.ofNat_tdiv, hq]
          have hsz : (s : Int) ≠ 0 := by omega
          have HM4 := HM.out.nil H4.out.1.fr
          have hm0 := HM4.top q hqn
          rw [← HW4.out] at hm0
          have HM4 := Lib.hid HM4
          have HQ := Lib.hid (show _ ∧ _ from ⟨ht, hq⟩)
          clear ht hq
          go_wp2_with fail
          rw [HW4.out]
          have HR4 := Lib.hid (H4.out.2.1.congr (g := fun x => .bool (decide (L ≤ x ∧ x < L + 0) && B0 q ((x - L) / s))) (fun x _ => by rw [decide_eq_false (by omega), Bool.false_and]))
          have HROW := Lib.hid (show ∀ x, picB s S L T B0 i x = (decide (L ≤ x ∧ x < L + S) && B0 q ((x - L) / s)) from fun x => by
            unfold picB
            rw [HQ.out.1, HQ.out.2]
            congr 1
            rw [decide_eq_decide]
            omega)
          clear HEND hm0 e1 e2 hsz hgf hgc hmk c0 c1 c2 c3 c4 d0 d1 d2 d3 d4 HR HB
          go_loopg [9] S (fun r s9 wz => ∃ x : Nat, Hid (x + r = S) ∧ s9 = .int .i64 x ∧ Hid (wz.rowIs A 4 W (fun j => .bool (decide (L ≤ j ∧ j < L + x) && B0 q ((j - L) / s)))) ∧ Hid (Fr (One A) w4 wz))
          case atStart => exact ⟨0, Lib.hid (by omega), rfl, HR4, Lib.hid (Fr.refl _ _)⟩
          case round =>
            clear HR4
            obtain ⟨x, HX, rfl, HRX, HFX⟩ := hrel
            cases gk with
            | zero =>
              have hxz : ¬ (x : Int) < (S : Int) := by have := HX.out; omega
              have hxS : x = S := by have := HX.out; omega
              go_wp2_with fail
              go_roundg c
              case measure => have := HI.out; omega
              case rel => exact ⟨i + 1, _, Lib.hid (by have := HI.out; omega), by go_num, Lib.hid (H4.out.1.close (if_pos rfl) (fun j hj => by rw [if_neg (by omega)]; exact HA.out.2.2.2 j hj) HA.out.2.2.1 (by have := HA.out.1; omega) HFX.out (HRX.out.congr (fun y _ => by rw [HROW.out y, hxS]))), Lib.hid (H4.out.2.2.fr HFX.out (fun e => by
                have e : fb = A := e
                have := HA.out.2.1
                omega))⟩
            | succ r =>
              have hxz : (x : Int) < (S : Int) := by have := HX.out; omega
              have hxS : x < S := by omega
              obtain ⟨p, hp⟩ : ∃ p, x / s = p := ⟨_, rfl⟩
              have hpn : p < n := by rw [← hp]; exact HSN.out x hxS
              have e2 : Int.tdiv (x : Int) (s : Int) = (p : Int) := by rw [← Int.ofNat_tdiv, hp]
              have hsz : (s : Int) ≠ 0 := by omega
              obtain ⟨k, hk⟩ : ∃ k, L + x = k := ⟨_, rfl⟩
              have hkz : (L : Int) + (x : Int) = (k : Int) := by omega
              have hkW : k < W := by have := HHW.out.2; omega
              have hbz := H4.out.2.2.fr HFX.out (fun e => by
                have e : fb = A := e
                have := HA.out.2.1
                omega)
              have c0 := hbz.cell 0
              have c1 := hbz.cell 1
              have HTP := (rowFr H4.out.1.top HFX.out (fun e => by
                have e : g = A := e
                have := HA.out.1
                omega)).cell hiH
              rw [if_pos (by omega), if_pos rfl] at HTP
              have hm0 := ((HM4.out.row q hqn))
              have hm1 := rowFr hm0 HFX.out (fun e => by
                have e : R0 q = A := e
                have h := (HM.out.row q hqn)
                obtain ⟨cc, hc, _⟩ := h
                have := (Array.getElem?_eq_some_iff.1 hc).1
                have := HA.out.2.2.1
                omega)
              have hm2 := hm1.cell hpn
              have z0 := HRX.out.cell hkW
              have z1 := HRX.out.frozen k
              have HN := Lib.hid (show _ ∧ _ from ⟨(HRX.out.set k (.bool (B0 q p))).congr (g := fun j => .bool (decide (L ≤ j ∧ j < L + (x + 1)) && B0 q ((j - L) / s))) (fun j hj => by
                by_cases e : j = k
                · rw [if_pos e, decide_eq_true (by omega), Bool.true_and, show j - L = x from by omega, hp]
                · rw [if_neg e]
                  congr 2
                  rw [decide_eq_decide]
                  omega), HFX.out.set1 k (.bool (B0 q p))⟩)
              clear HRX HFX hm0 hm1 hbz hp hk
              generalize B0 q p = bv at *
              go_wp2_with fail
              go_region
              all_goals
                go_wp2_with fail
                go_roundg r
                case measure => omega
                case rel => exact ⟨x + 1, Lib.hid (by have := HX.out; omega), by go_num, Lib.hid (rowFr HN.out.1 (Fr.refl Nil _).drew (fun e => e)), Lib.hid HN.out.2.drew⟩
end Go.Proofs.YtcekbhhpcmhicaaGreatDoor
/- RQGrays: the pixels as grays, row by row. -/
namespace Go.Proofs.YtcekbhhpcmhicaaGreatDoor
open Go Go.RowKit Go.Deep
set_option maxRecDepth 100000
theorem appW {w : World} {lo n T ST bytes : Nat} {z sv v : Value} {xs : List Value} (hu : Tryz.prog.underlying ST = some (.slice T)) (hi : (Tryz.prog.info? T).map (fun i => (i.zero, i.size, i.bytes)) = some (some z, 1, bytes)) (hz : z.cells.size = 1) (hby : bytes ≤ 1000) (h : w.ownsRow lo T 1 sv n xs) (hn : n ≤ 4000000) (hlo : lo ≤ w.heap.size) (hv : v.oneCell' = true) :
    ∃ g2 cap2 w2, (Builtin.append_ #[ST, ST] ST #[sv, .slice (some ⟨w.heap.size, 0, none⟩) 1 1]).run Tryz.prog (w.alloc (.cells #[v] T)) = .ok (.slice (some ⟨g2, 0, none⟩) (n + 1) cap2) w2 ∧
      w2.ownsRow lo T 1 (.slice (some ⟨g2, 0, none⟩) (n + 1) cap2) (n + 1) (xs ++ [v]) ∧ Fr (Own sv) w w2 ∧ lo ≤ w2.heap.size := by
  have hal : Fr Nil w (w.alloc (.cells #[v] T)) := (Fr.refl _ _).alloc _
  have hs := hal.size
  obtain ⟨iT, hiT, hzi⟩ := Option.map_eq_some_iff.1 hi
  simp only [Prod.mk.injEq] at hzi
  obtain ⟨g2, cap2, w7, hap, hown2, hgrow, hlies, hlt⟩ := run_append_lies (P := Tryz.prog) (w := w.alloc (.cells #[v] T)) ST ST lo T iT z 1 bytes hu hiT hzi.1 hzi.2.1 hzi.2.2 hz (by omega)
    sv n xs (owns_fr h hal (fun k hk e => e)) ⟨w.heap.size, 0, none⟩ 1 1 [v] rfl
    (fun k u hu => by
      have hk : k = 0 := by
        rcases Nat.lt_or_ge k 1 with h | h
        · omega
        · rw [List.getElem?_eq_none (by simpa using h)] at hu; cases hu
      subst hk
      rw [← hu, addr_add_row, Nat.zero_add]
      exact (Blk.new w T #[v]).cell 0) (fun u hu => by
      have : u = v := by simpa using hu
      rw [this]; exact hv) (by omega) (by have : maxLen = 9223372036854775807 := rfl; omega) (by
        have : (n + 1) * bytes ≤ 4000001 * 1000 := Nat.mul_le_mul (by omega) hby
        omega) (by omega) _ rfl
  have hfr : Fr (Own sv) (w.alloc (.cells #[v] T)) w7 := (Fr.of_grown hgrow).mono fun k _ e => e
  have hs2 := hfr.size
  exact ⟨g2, cap2, w7, hap, hown2, (hal.any (Own sv)).trans hfr, by omega⟩
/-- the first N pixels' grays -/
def grays (B : Nat → Nat → Bool) (W dk lt N : Nat) : List Nat := (List.range N).map fun k => if B (k / W) (k % W) then dk else lt
theorem grays_length (B : Nat → Nat → Bool) (W dk lt N : Nat) : (grays B W dk lt N).length = N := by unfold grays; rw [List.length_map, List.length_range]
theorem grays_succ (B : Nat → Nat → Bool) (W dk lt i x : Nat) (h : x < W) : grays B W dk lt (i * W + x + 1) = grays B W dk lt (i * W + x) ++ [if B i x then dk else lt] := by
  unfold grays
  rw [List.range_succ, List.map_append, List.map_cons, List.map_nil]
  congr 2
  rw [Nat.mul_comm, Nat.mul_add_div (by omega), Nat.mul_add_mod, Nat.div_eq_of_lt h, Nat.mod_eq_of_lt h, Nat.add_zero]
set_option maxHeartbeats 3200000 in
theorem grays_calls {w : World} {g W H cap : Nat} {R : Nat → Nat} {B : Nat → Nat → Bool} (h : MR w g W H R B) (w1 : 1 ≤ W) (w2 : W ≤ 1500) (h1 : 1 ≤ H) (h2 : H ≤ 1500) (dk lt : Nat) (d2 : dk < 256) (l2 : lt < 256) :
    Calls Tryz.prog 36 #[.slice (some ⟨g, 0, none⟩) H cap, u8 dk, u8 lt] w fun e w' => ∃ b c, e = .returned (.tuple #[i64 W, i64 H, .slice (some ⟨b, 0, none⟩) (H * W) c]) ∧
      w'.ownsRow w.heap.size 5 1 (.slice (some ⟨b, 0, none⟩) (H * W) c) (H * W) ((grays B W dk lt (H * W)).map u8) ∧ Fr Nil w w' := by
  have HM := Lib.hid h
  have HHW := Lib.hid (show ∀ i, i ≤ H → i * W ≤ H * W ∧ i * W ≤ 2250000 from fun i hi => ⟨Nat.mul_le_mul_right _ hi, Nat.mul_le_mul (Nat.le_trans hi h2) w2⟩)
  clear h
  go_enter Tryz.func36, Tryz.ntmps36
  go_wp2_with fail
  go_loopg [9, 10, 12, 14, 17] H (fun c s9 s10 s12 s14 s17 wr => ∃ (i N : Nat) (b : Option Addr) (cp : Nat), Hid (i + c = H ∧ N = i * W) ∧ s17 = .int .i64 i ∧ s9 = .slice b N cp ∧ s10 = i64 (if i = 0 then 0 else W) ∧ Hid (wr.ownsRow w.heap.size 5 1 (.slice b N cp) N ((grays B W dk lt N).map u8)) ∧ Hid (Fr Nil w wr))
  case atStart => exact ⟨0, 0, none, 0, Lib.hid ⟨by omega, by rw [Nat.zero_mul]⟩, rfl, rfl, rfl, Lib.hid (owns_nil _ _ _), Lib.hid (Fr.refl _ _)⟩
  case round =>
    obtain ⟨i, N, b, cp, HI, rfl, rfl, rfl, HO, HF⟩ := hrel
    cases gk with
    | zero =>
      have hz : ¬ (i : Int) < (H : Int) := by have := HI.out; omega
      obtain rfl : i = H := by have := HI.out; omega
      rw [if_neg (show ¬ i = 0 from by omega)]
      obtain ⟨g', hg'⟩ : ∃ g', b = some ⟨g', 0, none⟩ := by
        rcases HO.out.2 with ⟨h, _⟩ | ⟨g', cap', cur, hv, _⟩
        · cases h
          have := Nat.mul_pos h1 w1
          have := HI.out.2
          omega
        · cases hv; exact ⟨g', rfl⟩
      subst hg'
      have HN := Lib.hid HI.out.2
      clear HI
      go_wp2_with fail
      go_ret3
      exact ⟨g', cp, by rw [← HN.out]; rfl, by rw [← HN.out]; exact HO.out, HF.out⟩
    | succ c =>
      have hz : (i : Int) < (H : Int) := by have := HI.out; omega
      have hiH : i < H := by omega
      have ct := (HM.out.nil HF.out).top i hiH
      have HNN := Lib.hid (show i + 1 + c = H from by have := HI.out.1; omega)
      have HN := Lib.hid HI.out.2
      clear HI
      go_wp2_with fail
      go_loopg [9, 14, 25] W (fun r s9 s14 s25 wz => ∃ (x N2 : Nat) (b2 : Option Addr) (cp2 : Nat), Hid (x + r = W ∧ N2 = i * W + x) ∧ s25 = .int .i64 x ∧ s9 = .slice b2 N2 cp2 ∧ Hid (wz.ownsRow w.heap.size 5 1 (.slice b2 N2 cp2) N2 ((grays B W dk lt N2).map u8)) ∧ Hid (Fr Nil w wz))
      case atStart => exact ⟨0, N, b, cp, Lib.hid ⟨by omega, by rw [HN.out]; rfl⟩, rfl, rfl, HO, HF⟩
      case round =>
        clear HO HF ct
        obtain ⟨x, N2, b2, cp2, HX, rfl, rfl, HO, HF⟩ := hrel
        cases gk with
        | zero =>
          have hxz : ¬ (x : Int) < (W : Int) := by have := HX.out; omega
          have hxW : x = W := by have := HX.out; omega
          have HN2 := Lib.hid (show N2 = (i + 1) * W from by rw [HX.out.2, hxW, Nat.add_mul, Nat.one_mul])
          have HC := Lib.hid (show (i64 W : Value) = i64 (if i + 1 = 0 then 0 else W) from by rw [if_neg (by omega)])
          clear hxW
          go_wp2_with fail
          go_roundg c
          case measure => have := HNN.out; omega
          case rel => exact ⟨i + 1, N2, b2, cp2, Lib.hid ⟨HNN.out, HN2.out⟩, by go_num, rfl, HC.out, HO, HF⟩
        | succ r =>
          have hxz : (x : Int) < (W : Int) := by have := HX.out; omega
          have hxW : x < W := by omega
          have hN2 : N2 ≤ 4000000 := by
            have h := (HHW.out (i + 1) (by omega)).2
            rw [Nat.add_mul, Nat.one_mul] at h
            have := HX.out.2
            omega
          have cx := ((HM.out.nil HF.out).row i hiH).cell hxW
          have HG := Lib.hid (show grays B W dk lt (N2 + 1) = grays B W dk lt N2 ++ [if B i x then dk else lt] from by rw [HX.out.2]; exact grays_succ B W dk lt i x hxW)
          obtain ⟨bv, hbv⟩ : ∃ bv, B i x = bv := ⟨_, rfl⟩
          rw [hbv] at cx HG
          obtain ⟨v, hv⟩ : ∃ v, (if bv = true then dk else lt) = v := ⟨_, rfl⟩
          have HV := Lib.hid hv
          rw [hv] at HG
          obtain ⟨g2, cap2, w2, hap, hown, hfr, -⟩ := appW (w := wr) (lo := w.heap.size) (n := N2) (T := 5) (ST := 30) (sv := .slice b2 N2 cp2) (v := u8 v) Tryz.und30 Tryz.inf5 rfl (by omega) HO.out hN2 HF.out.size rfl
          have HNX := Lib.hid (show _ ∧ _ from ⟨(show w2.ownsRow w.heap.size 5 1 (.slice (some ⟨g2, 0, none⟩) (N2 + 1) cap2) (N2 + 1) ((grays B W dk lt (N2 + 1)).map u8) from by rw [HG.out, List.map_append]; exact hown),
            HF.out.trans' hfr (fun k hk e => by have := (owns_lt HO.out e).2.1; omega)⟩)
          have HAP := Lib.hid hap
          have HX2 := Lib.hid (show x + 1 + r = W ∧ N2 + 1 = i * W + (x + 1) from by have := HX.out; omega)
          clear hap hown hfr HO HF hv hbv HG HX
          cases bv with
          | false =>
            have hv : v = lt := HV.out.symm
            subst hv
            go_wp2_with (at_builtin; refine Lib.wpList_append_run _ rfl _ _ _ _ rfl _ _ rfl rfl _ _ HAP.out ?_)
            go_roundg r
            case measure => omega
            case rel => exact ⟨x + 1, N2 + 1, _, cap2, HX2, by go_num, rfl, Lib.hid HNX.out.1, Lib.hid HNX.out.2⟩
          | true =>
            have hv : v = dk := HV.out.symm
            subst hv
            go_wp2_with (at_builtin; refine Lib.wpList_append_run _ rfl _ _ _ _ rfl _ _ rfl rfl _ _ HAP.out ?_)
            go_roundg r
            case measure => omega
            case rel => exact ⟨x + 1, N2 + 1, _, cap2, HX2, by go_num, rfl, Lib.hid HNX.out.1, Lib.hid HNX.out.2⟩
end Go.Proofs.YtcekbhhpcmhicaaGreatDoor
/- RQTold: whether nobody can doubt which pixels are dark. -/
namespace Go.Proofs.YtcekbhhpcmhicaaGreatDoor
open Go Go.RowKit Go.Deep
set_option maxRecDepth 100000
/-- when it is told -/
def ToldIf (p : Bool) (W H dk : Nat) (B : Nat → Nat → Bool) : Prop := (p = false ∧ ∃ b, W < 5 * b ∧ ∀ y, y < H → ∀ x, x < W → B y x = true → b ≤ x) ∨ (p = true ∧ 40 ≤ W ∧ 40 ≤ H ∧ dk = 0)
def ToldRes (e : Ending) (p : Bool) (W H dk : Nat) (B : Nat → Nat → Bool) : Prop := ∃ t, e = .returned (.bool t) ∧ (t = true → ToldIf p W H dk B)
set_option maxHeartbeats 3200000 in
theorem told_calls {w : World} {g W H cap : Nat} {R : Nat → Nat} {B : Nat → Nat → Bool} (h : MR w g W H R B) (w1 : 1 ≤ W) (w2 : W ≤ 1500) (h1 : 1 ≤ H) (h2 : H ≤ 1500) (dk : Nat) (d2 : dk < 256) (p : Bool) :
    Calls Tryz.prog 37 #[.slice (some ⟨g, 0, none⟩) H cap, u8 dk, .bool p] w fun e w' => ToldRes e p W H dk B ∧ w = w' := by
  have HM := Lib.hid h
  have hHz : ((H : Int) == 0) = false := by rw [beq_eq_false_iff_ne]; omega
  have ct0 := h.top 0 (by omega)
  clear h
  go_enter Tryz.func37, Tryz.ntmps37
  go_wp2_with fail
  go_loopg [9, 11, 12, 13, 25] H (fun c s9 s11 s12 s13 s25 wr => ∃ (i b : Nat), Hid (i + c = H) ∧ s25 = .int .i64 i ∧ s9 = i64 b ∧ Hid (b ≤ W ∧ ∀ y, y < i → ∀ x, x < W → B y x = true → b ≤ x) ∧ w = wr)
  case atStart => exact ⟨0, W, Lib.hid (by omega), rfl, rfl, Lib.hid ⟨Nat.le_refl _, fun y hy => absurd hy (by omega)⟩, rfl⟩
  case round =>
    obtain ⟨i, b, HI, rfl, rfl, HBB, hw⟩ := hrel
    subst hw
    cases gk with
    | zero =>
      have hz : ¬ (i : Int) < (H : Int) := by have := HI.out; omega
      obtain rfl : i = H := by have := HI.out; omega
      have hbW := HBB.out.1
      cases p with
      | false =>
        by_cases hb : W < 5 * b
        · have hbz : (W : Int) < 5 * (b : Int) := by omega
          go_wp2_with fail
          go_ret
          exact ⟨⟨true, rfl, fun _ => .inl ⟨rfl, b, hb, HBB.out.2⟩⟩, rfl⟩
        · have hbz : ¬ (W : Int) < 5 * (b : Int) := by omega
          go_wp2_with fail
          go_ret
          exact ⟨⟨false, rfl, fun e => by cases e⟩, rfl⟩
      | true =>
        by_cases hb : 40 ≤ W
        · have hbz : (40 : Int) ≤ (W : Int) := by omega
          by_cases hc : 40 ≤ i
          · have hcz : (40 : Int) ≤ (i : Int) := by omega
            by_cases hd : dk = 0
            · subst hd
              go_wp2_with fail
              go_ret
              exact ⟨⟨true, rfl, fun _ => .inr ⟨rfl, hb, hc, rfl⟩⟩, rfl⟩
            · have hdz : ((dk : Int) == 0) = false := by rw [beq_eq_false_iff_ne]; omega
              go_wp2_with fail
              go_ret
              exact ⟨⟨false, rfl, fun e => by cases e⟩, rfl⟩
          · have hcz : ¬ (40 : Int) ≤ (i : Int) := by omega
            go_wp2_with fail
            go_ret
            exact ⟨⟨false, rfl, fun e => by cases e⟩, rfl⟩
        · have hbz : ¬ (40 : Int) ≤ (W : Int) := by omega
          go_wp2_with fail
          go_ret
          exact ⟨⟨false, rfl, fun e => by cases e⟩, rfl⟩
    | succ c =>
      have hz : (i : Int) < (H : Int) := by have := HI.out; omega
      have hiH : i < H := by omega
      have ct := HM.out.top i hiH
      go_wp2_with fail
      go_loopg [9, 12, 13, 31] W (fun r s9 s12 s13 s31 wz => ∃ (x b2 : Nat), Hid (x + r = W) ∧ s31 = .int .i64 x ∧ s9 = i64 b2 ∧ Hid (b2 ≤ W ∧ (∀ y, y < i → ∀ x, x < W → B y x = true → b2 ≤ x) ∧ ∀ k, k < x → B i k = true → b2 ≤ k) ∧ w = wz)
      case atStart => exact ⟨0, b, Lib.hid (by omega), rfl, rfl, Lib.hid ⟨HBB.out.1, HBB.out.2, fun y hy => absurd hy (by omega)⟩, rfl⟩
      case round =>
        obtain ⟨x, b2, HX, rfl, rfl, HB2, hw⟩ := hrel
        subst hw
        cases gk with
        | zero =>
          have hxz : ¬ (x : Int) < (W : Int) := by have := HX.out; omega
          obtain rfl : x = W := by have := HX.out; omega
          go_wp2_with fail
          go_roundg c
          case measure => have := HI.out; omega
          case rel => exact ⟨i + 1, b2, Lib.hid (by have := HI.out; omega), by go_num, rfl, Lib.hid ⟨HB2.out.1, fun y hy => by
            by_cases e : y = i
            · subst e; exact HB2.out.2.2
            · exact HB2.out.2.1 y (by omega)⟩, rfl⟩
        | succ r =>
          have hxz : (x : Int) < (W : Int) := by have := HX.out; omega
          have hxW : x < W := by omega
          have cx := (HM.out.row i hiH).cell hxW
          have HBX := Lib.hid (show ∀ b3, b3 ≤ b2 → (B i x = true → b3 ≤ x) → b3 ≤ W ∧ (∀ y, y < i → ∀ x, x < W → B y x = true → b3 ≤ x) ∧ ∀ k, k < x + 1 → B i k = true → b3 ≤ k from fun b3 hb3 hx => ⟨by have := HB2.out.1; omega, fun y hy k hk hB => Nat.le_trans hb3 (HB2.out.2.1 y hy k hk hB), fun k hk hB => by
            by_cases e : k = x
            · subst e; exact hx hB
            · exact Nat.le_trans hb3 (HB2.out.2.2 k (by omega) hB)⟩)
          obtain ⟨bv, hbv⟩ : ∃ bv, B i x = bv := ⟨_, rfl⟩
          rw [hbv] at cx HBX
          clear hbv
          cases bv with
          | false =>
            go_wp2_with fail
            go_roundg r
            case measure => omega
            case rel => exact ⟨x + 1, b2, Lib.hid (by have := HX.out; omega), by go_num, rfl, Lib.hid (HBX.out b2 (Nat.le_refl _) (fun e => by cases e)), rfl⟩
          | true =>
            by_cases hb : x < b2
            · have hbz : (x : Int) < (b2 : Int) := by omega
              go_wp2_with fail
              go_roundg r
              case measure => omega
              case rel => exact ⟨x + 1, x, Lib.hid (by have := HX.out; omega), by go_num, rfl, Lib.hid (HBX.out x (by omega) (fun _ => Nat.le_refl _)), rfl⟩
            · have hbz : ¬ (x : Int) < (b2 : Int) := by omega
              go_wp2_with fail
              go_roundg r
              case measure => omega
              case rel => exact ⟨x + 1, b2, Lib.hid (by have := HX.out; omega), by go_num, rfl, Lib.hid (HBX.out b2 (Nat.le_refl _) (fun _ => by omega)), rfl⟩
end Go.Proofs.YtcekbhhpcmhicaaGreatDoor
/- rqEven; RQShow: the picture of modules in a view. -/
namespace Go.Proofs.YtcekbhhpcmhicaaGreatDoor
open Go Go.RowKit Go.Deep
set_option maxRecDepth 100000
set_option maxHeartbeats 1600000 in
theorem even_calls {w : World} {g n cap lo hi : Nat} {R : Nat → Nat} {B : Nat → Nat → Bool} (h : MM w g n R B) (h1 : lo ≤ n) (h2 : n ≤ hi) (h3 : 1 ≤ lo) (h4 : hi ≤ 1000) :
    Calls Tryz.prog 11 #[.slice (some ⟨g, 0, none⟩) n cap, i64 lo, i64 hi] w fun e w' => e = .returned (.bool true) ∧ w = w' := by
  have HM := Lib.hid h
  have ct0 := h.top 0 (by omega)
  have z1 : (lo : Int) ≤ (n : Int) := by omega
  have z2 : (n : Int) ≤ (hi : Int) := by omega
  have z3 : ((n : Int) == (n : Int)) = true := by rw [beq_iff_eq]
  clear h
  go_enter Tryz.func11, Tryz.ntmps11
  go_wp2_with fail
  go_loopg [8, 9, 22] n (fun c s8 s9 s22 wr => ∃ i : Nat, Hid (i + c = n) ∧ s22 = .int .i64 i ∧ w = wr)
  case atStart => exact ⟨0, Lib.hid (by omega), rfl, rfl⟩
  case round =>
    obtain ⟨i, HI, rfl, hw⟩ := hrel
    subst hw
    cases gk with
    | zero =>
      have hz : ¬ (i : Int) < (n : Int) := by have := HI.out; omega
      go_wp2_with fail
      go_ret
      exact ⟨rfl, rfl⟩
    | succ c =>
      have hz : (i : Int) < (n : Int) := by have := HI.out; omega
      have ct := HM.out.top i (by omega)
      go_wp2_with fail
      go_roundg c
      case measure => omega
      case rel => exact ⟨i + 1, Lib.hid (by have := HI.out; omega), by go_num, rfl⟩
/-- the frame of a view -/
def View.sc (v : View) : Nat := 1 + v.s % 6
def View.le (v : View) : Nat := 1 + v.b0 % 100
def View.to (v : View) : Nat := 1 + v.b1 % 100
def View.ri (v : View) : Nat := 1 + v.b2 % 100
def View.bo (v : View) : Nat := 1 + v.b3 % 100
def View.lt (v : View) : Nat := 128 + v.l % 128
def View.dk (v : View) : Nat := v.d % ((128 + v.l % 128) / 3 + 1)
def View.wi (v : View) (n : Nat) : Nat := v.le + v.sc * n + v.ri
def View.hi (v : View) (n : Nat) : Nat := v.to + v.sc * n + v.bo
def View.pic (v : View) (n : Nat) (B : Nat → Nat → Bool) : Nat → Nat → Bool := picB v.sc (v.sc * n) v.le v.to B
/-- what RQShow hands back -/
def ShowRes (w0 : World) (e : Ending) (w : World) (v : View) (n : Nat) (B : Nat → Nat → Bool) : Prop :=
  ∃ b c t, e = .returned (.tuple #[i64 (v.wi n), i64 (v.hi n), .slice (some ⟨b, 0, none⟩) (v.hi n * v.wi n) c, .bool t]) ∧ (∀ y, y < v.hi n → ∀ x, x < v.wi n → w.cell? ⟨b, y * v.wi n + x, none⟩ = some (u8 (if v.pic n B y x then v.dk else v.lt))) ∧ v.hi n * v.wi n ≤ c ∧ (t = true → ToldIf v.p (v.wi n) (v.hi n) v.dk (v.pic n B)) ∧ Fr Nil w0 w
theorem idx_lt {W H x y : Nat} (hx : x < W) (hy : y < H) : y * W + x < H * W := by
  have h2 : (y + 1) * W ≤ H * W := Nat.mul_le_mul_right _ (by omega)
  rw [Nat.add_mul] at h2
  omega
theorem grays_at (B : Nat → Nat → Bool) (W H dk lt : Nat) {y x : Nat} (hx : x < W) (hy : y < H) : ((grays B W dk lt (H * W)).map u8)[y * W + x]? = some (u8 (if B y x then dk else lt)) := by
  have h := idx_lt hx hy
  unfold grays
  rw [List.getElem?_map, List.getElem?_map, List.getElem?_range h]
  rw [Option.map_some, Option.map_some]
  rw [Nat.mul_comm y W, Nat.mul_add_div (by omega), Nat.mul_add_mod, Nat.div_eq_of_lt hx, Nat.mod_eq_of_lt hx, Nat.add_zero]
set_option maxHeartbeats 1600000 in
theorem show_calls {w : World} {g n cap : Nat} {R : Nat → Nat} {B : Nat → Nat → Bool} (h : MM w g n R B) (h1 : 1 ≤ n) (h2 : n ≤ 177) (v : View) (hv : v.ok) :
    Calls Tryz.prog 12 #[.slice (some ⟨g, 0, none⟩) n cap, v.val] w fun e w' => ShowRes w e w' v n B := by
  have HM := Lib.hid h
  have HV := Lib.hid hv
  have hs : v.sc ≤ 6 ∧ 1 ≤ v.sc := by unfold View.sc; omega
  have hle : v.le ≤ 100 ∧ v.to ≤ 100 ∧ v.ri ≤ 100 ∧ v.bo ≤ 100 ∧ 1 ≤ v.le ∧ 1 ≤ v.to := by unfold View.le View.to View.ri View.bo; omega
  have hS2 : v.sc * n ≤ 1062 := Nat.le_trans (Nat.mul_le_mul hs.1 h2) (by decide)
  have hW : 1 ≤ v.wi n ∧ v.wi n ≤ 1500 := by unfold View.wi; omega
  have hH : 1 ≤ v.hi n ∧ v.hi n ≤ 1500 := by unfold View.hi; omega
  have hd : v.dk < 256 ∧ v.lt < 256 := by
    unfold View.dk View.lt
    have := Nat.mod_lt v.d (show 0 < (128 + v.l % 128) / 3 + 1 by omega)
    omega
  have HH := Lib.hid (show _ ∧ _ ∧ _ ∧ _ ∧ _ from ⟨hs, hle, hW, hH, hd⟩)
  obtain ⟨w1, hw1⟩ : ∃ w1, w.alloc (.cells #[u8 v.s, u8 v.b0, u8 v.b1, u8 v.b2, u8 v.b3, u8 v.d, u8 v.l, .bool v.p] 40) = w1 := ⟨_, rfl⟩
  have hf1 : Fr Nil w w1 := by rw [← hw1]; exact (Fr.refl _ _).alloc _
  have hb1 : Blk w1 w.heap.size 40 #[u8 v.s, u8 v.b0, u8 v.b1, u8 v.b2, u8 v.b3, u8 v.d, u8 v.l, .bool v.p] := by rw [← hw1]; exact Blk.new _ _ _
  have HW1 := Lib.hid hw1
  have H1 := Lib.hid (show _ ∧ _ from ⟨hf1, hb1⟩)
  have hfr := frame_calls v hv
  have hto := tones_calls v hv
  unfold View.val at hfr hto ⊢
  have HFR := Lib.hid hfr
  have HTO := Lib.hid hto
  clear h hv hs hle hS2 hW hH hd hw1 hf1 hb1 hfr hto
  go_enter Tryz.func12, Tryz.ntmps12
  go_wp2_with fail
  rw [HW1.out]
  refine (HFR.out w1).mono ?_
  rintro e w2 ⟨rfl, hf2⟩
  have hm2 := (HM.out.nil H1.out.1).nil hf2
  have HP := Lib.hid (picture_calls (cap0 := cap) hm2 h1 h2 v.sc v.le v.to v.ri v.bo HH.out.1.2 HH.out.1.1 HH.out.2.1.1 HH.out.2.1.2.1 HH.out.2.1.2.2.1 HH.out.2.1.2.2.2.1)
  have H2 := Lib.hid (show _ ∧ _ from ⟨H1.out.1.trans hf2, H1.out.2.fr hf2 (fun e => e)⟩)
  clear hf2 hm2 H1 HFR HW1
  go_wp2_with fail
  refine HP.out.mono ?_
  rintro e w3 ⟨g3, R3, rfl, hm3, hf3⟩
  have HM3 := Lib.hid (show MR w3 g3 (v.wi n) (v.hi n) R3 (v.pic n B) from hm3)
  have H3 := Lib.hid (show _ ∧ _ from ⟨H2.out.1.trans hf3, H2.out.2.fr hf3 (fun e => e)⟩)
  have c0 := H3.out.2.cell 0
  have c1 := H3.out.2.cell 1
  have c2 := H3.out.2.cell 2
  have c3 := H3.out.2.cell 3
  have c4 := H3.out.2.cell 4
  have c5 := H3.out.2.cell 5
  have c6 := H3.out.2.cell 6
  have c7 := H3.out.2.cell 7
  clear hm3 hf3 H2 HP
  go_wp2_with fail
  clear c0 c1 c2 c3 c4 c5 c6 c7
  refine (HTO.out w3).mono ?_
  rintro e w4 ⟨dk, lt, rfl, hlt, hdk, hf4⟩
  have hlt : lt = v.lt := hlt
  have hdk : dk = v.dk := hdk
  subst hlt hdk
  have HM4 := Lib.hid (HM3.out.nil hf4)
  have H4 := Lib.hid (show _ ∧ _ from ⟨H3.out.1.trans hf4, H3.out.2.fr hf4 (fun e => e)⟩)
  have HG := Lib.hid (grays_calls (cap := v.to + v.sc * n + v.bo) HM4.out HH.out.2.2.1.1 HH.out.2.2.1.2 HH.out.2.2.2.1.1 HH.out.2.2.2.1.2 v.dk v.lt HH.out.2.2.2.2.1 HH.out.2.2.2.2.2)
  clear hf4 H3 HM3 HTO
  go_wp2_with fail
  refine HG.out.mono ?_
  rintro e w5 ⟨b, c, rfl, hown, hf5⟩
  have HM5 := Lib.hid (HM4.out.nil hf5)
  have H5 := Lib.hid (show _ ∧ _ from ⟨H4.out.1.trans hf5, H4.out.2.fr hf5 (fun e => e)⟩)
  have HO := Lib.hid hown
  have HT := Lib.hid (told_calls (cap := v.to + v.sc * n + v.bo) HM5.out HH.out.2.2.1.1 HH.out.2.2.1.2 HH.out.2.2.2.1.1 HH.out.2.2.2.1.2 v.dk HH.out.2.2.2.2.1 v.p)
  have c7 := H5.out.2.cell 7
  clear hf5 hown H4 HM4 HG
  go_wp2_with fail
  refine HT.out.mono ?_
  rintro e w6 ⟨⟨t, rfl, ht⟩, rfl⟩
  have HTT := Lib.hid ht
  clear ht c7
  go_wp2_with fail
  have hcap : v.hi n * v.wi n ≤ c := by
    rcases HO.out.2 with ⟨h0, _⟩ | ⟨g', cap', cur, hv', _, hb, hc, _⟩
    · cases h0
    · cases hv'; exact hc
  refine bodyPost_ret (v := .tuple #[i64 (v.wi n), i64 (v.hi n), .slice (some ⟨b, 0, none⟩) (v.hi n * v.wi n) c, .bool t]) (by simp [results, Tryz.results12]) rfl ⟨b, c, t, rfl, ?_, hcap, HTT.out, H5.out.1⟩
  intro y hy x hx
  exact own_cell HO.out (grays_at (v.pic n B) (v.wi n) (v.hi n) v.dk v.lt hx hy)
end Go.Proofs.YtcekbhhpcmhicaaGreatDoor
/- The source of grays, and the binarizers, made. -/
namespace Go.Proofs.YtcekbhhpcmhicaaGreatDoor
open Go Go.RowKit Go.Deep
set_option maxRecDepth 100000
set_option maxHeartbeats 1600000 in
theorem fits_calls (w : World) (W H : Nat) (w1 : 1 ≤ W) (w2 : W ≤ 1500) (h1 : 1 ≤ H) (h2 : H ≤ 1500) :
    Calls Tryz.prog 133 #[i64 W, i64 H, i64 (H * W)] w fun e w' => e = .returned (.bool true) ∧ w = w' := by
  have hm : H * W ≤ 2250000 := Nat.mul_le_mul h2 w2
  have e1 : Int.tdiv ((H * W : Nat) : Int) (W : Int) = (H : Int) := by rw [← Int.ofNat_tdiv, Nat.mul_div_cancel _ (by omega)]
  have e2 : Int.tmod ((H * W : Nat) : Int) (W : Int) = 0 := by rw [← Int.ofNat_tmod, Nat.mul_mod_left]; rfl
  obtain ⟨N, hN⟩ : ∃ N, H * W = N := ⟨_, rfl⟩
  rw [hN] at e1 e2 hm ⊢
  have z1 : (0 : Int) < (W : Int) := by omega
  have z2 : (0 : Int) < (H : Int) := by omega
  have z3 : (W : Int) ≠ 0 := by omega
  clear hN
  go_enter Tryz.func133, Tryz.ntmps133
  go_wp2_with fail
  go_ret
  exact ⟨rfl, rfl⟩
/-- bytes behind a nil slice: a copy -/
theorem appC {w : World} {rb n cap : Nat} {f : Nat → Value} (h : ∀ j, j < n → w.cell? ⟨rb, j, none⟩ = some (f j)) (hn : n ≤ 4000000) (hn1 : 1 ≤ n) (h1 : ∀ j, j < n → (f j).oneCell' = true) :
    ∃ g2 cap2 w2, (Builtin.append_ #[30, 30] 30 #[.slice none 0 0, .slice (some ⟨rb, 0, none⟩) n cap]).run Tryz.prog w = .ok (.slice (some ⟨g2, 0, none⟩) n cap2) w2 ∧ (∀ j, j < n → w2.cell? ⟨g2, j, none⟩ = some (f j)) ∧ Fr Nil w w2 ∧ n ≤ cap2 ∧ ∃ cs, Blk w2 g2 5 cs := by
  obtain ⟨i5, hi5, hzi⟩ := Option.map_eq_some_iff.1 Tryz.inf5
  simp only [Prod.mk.injEq] at hzi
  obtain ⟨g2, cap2, w7, hap, hown2, hgrow, hlies, hlt⟩ := run_append_lies (P := Tryz.prog) (w := w) 30 30 w.heap.size 5 i5 (.int .u8 0) 1 1 Tryz.und30 hi5 hzi.1 hzi.2.1 hzi.2.2 rfl (by omega)
    (.slice none 0 0) 0 [] (owns_nil _ _ _) ⟨rb, 0, none⟩ n cap ((List.range n).map f) (by simp)
    (fun k u hu => by
      have hk : k < n := by
        rcases Nat.lt_or_ge k n with h | h
        · exact h
        · rw [List.getElem?_eq_none (by simpa using h)] at hu; cases hu
      rw [List.getElem?_map, List.getElem?_range hk] at hu
      simp at hu
      rw [addr_add_row, Nat.zero_add, ← hu]
      exact h k hk) (fun u hu => by
      obtain ⟨x, hx, rfl⟩ := List.mem_map.1 hu
      exact h1 x (by simpa using hx)) (by omega) (by have : maxLen = 9223372036854775807 := rfl; omega) (by omega) (Nat.le_refl _) _ rfl
  rw [Nat.zero_add] at hap hown2
  have hcap : n ≤ cap2 ∧ ∃ cs, Blk w7 g2 5 cs := by
    rcases hown2.2 with ⟨h0, _⟩ | ⟨g', cap', cur, hv', _, hb, hc, _⟩
    · cases h0
    · cases hv'; exact ⟨hc, cur, hb⟩
  refine ⟨g2, cap2, w7, hap, fun j hj => own_cell hown2 ?_, (Fr.of_grown hgrow).mono (fun k _ e => by cases e), hcap⟩
  rw [List.nil_append, List.getElem?_map, List.getElem?_range hj]
  rfl
/-- a source of grays, at block q; its bytes in block g -/
structure PL (w : World) (q g W H : Nat) (F : Nat → Nat) : Prop where
  st : ∃ c, H * W ≤ c ∧ Blk w q 302 #[i64 W, i64 H, .slice (some ⟨g, 0, none⟩) (H * W) c, i64 W, i64 H, .int .i64 0, .int .i64 0]
  px : ∀ k, k < H * W → w.cell? ⟨g, k, none⟩ = some (u8 (F k))
  gb : ∃ cs, Blk w g 5 cs
theorem PL.fr {w w' : World} {q g W H : Nat} {F : Nat → Nat} {X : Nat → Prop} (h : PL w q g W H F) (hf : Fr X w w') (hq : ¬ X q) (hg : ¬ X g) : PL w' q g W H F :=
  ⟨by obtain ⟨c, hc, h⟩ := h.st; exact ⟨c, hc, h.fr hf hq⟩, fun k hk => hf.cell_some (h.px k hk) hg, by obtain ⟨cs, h⟩ := h.gb; exact ⟨cs, h.fr hf hg⟩⟩
theorem PL.nil {w w' : World} {q g W H : Nat} {F : Nat → Nat} (h : PL w q g W H F) (hf : Fr Nil w w') : PL w' q g W H F := h.fr hf (fun e => e) (fun e => e)
set_option maxHeartbeats 1600000 in
theorem newPlanar_calls (w : World) (W H : Nat) (w2 : W ≤ 1500) (h2 : H ≤ 1500) (b : Option Addr) (n c : Nat) :
    Calls Tryz.prog 134 #[.slice b n c, i64 W, i64 H, .int .i64 0, .int .i64 0, i64 W, i64 H, .bool false] w fun e w' => e = .returned (.tuple #[.iface 298 (.pointer (some ⟨w.heap.size, 0, none⟩)), .nilIface]) ∧ w' = w.alloc (.cells #[i64 W, i64 H, .slice b n c, i64 W, i64 H, .int .i64 0, .int .i64 0] 302) := by
  go_enter Tryz.func134, Tryz.ntmps134
  go_wp2_with fail
  go_ret2
  exact ⟨rfl, rfl⟩
set_option maxHeartbeats 1600000 in
theorem source_calls {w : World} {W H b c : Nat} {F : Nat → Nat} (w1 : 1 ≤ W) (w2 : W ≤ 1500) (h1 : 1 ≤ H) (h2 : H ≤ 1500) (hc : ∀ k, k < H * W → w.cell? ⟨b, k, none⟩ = some (u8 (F k))) :
    Calls Tryz.prog 91 #[i64 W, i64 H, .slice (some ⟨b, 0, none⟩) (H * W) c, .bool false] w fun e w' => ∃ q g, e = .returned (.tuple #[.iface 298 (.pointer (some ⟨q, 0, none⟩)), .bool true]) ∧ PL w' q g W H F ∧ Fr Nil w w' := by
  have hm : H * W ≤ 2250000 := Nat.mul_le_mul h2 w2
  have hm1 : 1 ≤ H * W := Nat.mul_pos h1 w1
  obtain ⟨g, cap2, w3, hap, hcp, hf3, hcap, gcs, hgb⟩ := appC (w := w) (rb := b) (n := H * W) (cap := c) (f := fun k => u8 (F k)) hc (by omega) hm1 (fun _ _ => rfl)
  have HAP := Lib.hid hap
  have HF := Lib.hid (fits_calls w W H w1 w2 h1 h2)
  have HN := Lib.hid (newPlanar_calls w3 W H w2 h2 (some ⟨g, 0, none⟩) (H * W) cap2)
  have HE := Lib.hid (show PL (w3.alloc (.cells #[i64 W, i64 H, .slice (some ⟨g, 0, none⟩) (H * W) cap2, i64 W, i64 H, .int .i64 0, .int .i64 0] 302)) w3.heap.size g W H F ∧ Fr Nil w (w3.alloc (.cells #[i64 W, i64 H, .slice (some ⟨g, 0, none⟩) (H * W) cap2, i64 W, i64 H, .int .i64 0, .int .i64 0] 302)) from
    ⟨⟨⟨cap2, hcap, Blk.new _ _ _⟩, fun k hk => ((Fr.refl Nil w3).alloc _).cell_some (hcp k hk) (fun e => e), gcs, hgb.alloc _⟩, hf3.alloc _⟩)
  clear hap hcp hf3 hc hcap hgb
  obtain ⟨N, hN⟩ : ∃ N, H * W = N := ⟨_, rfl⟩
  rw [hN] at HAP HF HN hm hm1 ⊢
  have HN2 := Lib.hid hN
  clear hN
  go_enter Tryz.func91, Tryz.ntmps91
  go_wp2_with fail
  refine HF.out.mono ?_
  rintro e w4 ⟨rfl, rfl⟩
  go_wp2_with (at_builtin; refine Lib.wpList_append_run _ rfl _ _ _ _ rfl _ _ rfl rfl _ _ HAP.out ?_)
  refine HN.out.mono ?_
  rintro e w5 ⟨rfl, rfl⟩
  go_wp2_with fail
  rw [HN2.out] at HE
  obtain ⟨w5, hw5⟩ : ∃ w5, w3.alloc (.cells #[i64 W, i64 H, .slice (some ⟨g, 0, none⟩) N cap2, i64 W, i64 H, .int .i64 0, .int .i64 0] 302) = w5 := ⟨_, rfl⟩
  rw [hw5] at HE ⊢
  obtain ⟨q, hq⟩ : ∃ q, w3.heap.size = q := ⟨_, rfl⟩
  rw [hq] at HE ⊢
  clear HN HF HAP hw5 hq HN2
  go_region
  all_goals
    go_wp2_with fail
    go_ret2
    exact ⟨q, g, rfl, HE.out.1.nil (Fr.refl Nil w5).drew, HE.out.2.drew⟩
/-- a binarizer, at block p -/
structure GH (w : World) (p lb bb : Nat) (src : Value) : Prop where
  st : Blk w p 233 #[src, .slice (some ⟨lb, 0, none⟩) 0 0, .slice (some ⟨bb, 0, none⟩) 32 32]
  bk : w.rowIs bb 3 32 (fun _ => i64 0)
theorem newGlobal_calls (w : World) (q : Nat) :
    Calls Tryz.prog 92 #[.iface 298 (.pointer (some ⟨q, 0, none⟩))] w fun e w' => ∃ p lb bb, e = .returned (.iface 231 (.pointer (some ⟨p, 0, none⟩))) ∧ GH w' p lb bb (.iface 298 (.pointer (some ⟨q, 0, none⟩))) ∧ Fr Nil w w' ∧ w.heap.size ≤ bb ∧ w.heap.size ≤ p := by
  have hmk : (Instr.makeSlice 138 (.int .i64 32) (.int .i64 32)).run Tryz.prog (w.alloc (.cells #[] 5)) = _ := mkInts 32 (by omega) (w.alloc (.cells #[] 5))
  go_enter Tryz.func92, Tryz.ntmps92
  go_wp2_with fail
  go_ret
  have f1 : Fr Nil w (w.alloc (.cells #[] 5)) := (Fr.refl _ _).alloc _
  have f2 : Fr Nil w ((w.alloc (.cells #[] 5)).alloc (.cells (madeCells #[.int .i64 0] 32) 3)) := f1.alloc _
  have s1 : (w.alloc (.cells #[] 5)).heap.size = w.heap.size + 1 := by simp
  have s2 : ((w.alloc (.cells #[] 5)).alloc (.cells (madeCells #[.int .i64 0] 32) 3)).heap.size = w.heap.size + 2 := by simp
  have hr := World.rowIs_made (w.alloc (.cells #[] 5)) (.int .i64 0) 32 3
  rw [s1] at hr
  refine ⟨_, w.heap.size, w.heap.size + 1, rfl, ⟨?_, ?_⟩, f2.alloc _, by omega, ?_⟩
  · simpa using Blk.new ((w.alloc (.cells #[] 5)).alloc (.cells (madeCells #[.int .i64 0] 32) 3)) 233 #[.iface 298 (.pointer (some ⟨q, 0, none⟩)), .slice (some ⟨w.heap.size, 0, none⟩) 0 0, .slice (some ⟨w.heap.size + 1, 0, none⟩) 32 32]
  · exact rowFr hr ((Fr.refl Nil _).alloc _) (fun e => e)
  · omega
theorem Tryz.as231 (v : Value) (w : World) : (Instr.typeAssert (.iface 231 v) 170 231 false).run Tryz.prog w = .ok v w := by kernel_rfl
set_option maxHeartbeats 1600000 in
theorem newHybrid_calls (w : World) (q : Nat) :
    Calls Tryz.prog 93 #[.iface 298 (.pointer (some ⟨q, 0, none⟩))] w fun e w' => ∃ h p lb bb, e = .returned (.iface 234 (.pointer (some ⟨h, 0, none⟩))) ∧ Blk w' h 236 #[.pointer (some ⟨p, 0, none⟩), .pointer none] ∧ GH w' p lb bb (.iface 298 (.pointer (some ⟨q, 0, none⟩))) ∧ Fr Nil w w' ∧ w.heap.size ≤ bb ∧ w.heap.size ≤ p ∧ w.heap.size ≤ h := by
  go_enter Tryz.func93, Tryz.ntmps93
  go_wp2_with fail
  refine (newGlobal_calls w q).mono ?_
  rintro e w1 ⟨p, lb, bb, rfl, hg, hf, hb, hp⟩
  have HE := Lib.hid (show Blk (w1.alloc (.cells #[.pointer (some ⟨p, 0, none⟩), .pointer none] 236)) w1.heap.size 236 #[.pointer (some ⟨p, 0, none⟩), .pointer none] ∧ GH (w1.alloc (.cells #[.pointer (some ⟨p, 0, none⟩), .pointer none] 236)) p lb bb (.iface 298 (.pointer (some ⟨q, 0, none⟩))) ∧ Fr Nil w (w1.alloc (.cells #[.pointer (some ⟨p, 0, none⟩), .pointer none] 236)) ∧ w.heap.size ≤ bb ∧ w.heap.size ≤ p ∧ w.heap.size ≤ w1.heap.size from
    ⟨Blk.new _ _ _, ⟨hg.st.alloc _, rowFr hg.bk ((Fr.refl Nil _).alloc _) (fun e => e)⟩, hf.alloc _, hb, hp, hf.size⟩)
  clear hg hf hb hp
  have has := Tryz.as231 (.pointer (some ⟨p, 0, none⟩)) w1
  go_wp2_with fail
  go_ret
  exact ⟨w1.heap.size, p, lb, bb, rfl, HE.out⟩
end Go.Proofs.YtcekbhhpcmhicaaGreatDoor
/- The source of grays: width, height, the whole, a row. -/
namespace Go.Proofs.YtcekbhhpcmhicaaGreatDoor
open Go Go.RowKit Go.Deep
set_option maxRecDepth 100000
theorem Tryz.sizB : (Tryz.prog.info? 5).map (·.size) = some 1 := by kernel_rfl
theorem plWidth_calls {w : World} {q g W H : Nat} {F : Nat → Nat} (h : PL w q g W H F) : Calls Tryz.prog 348 #[.pointer (some ⟨q, 0, none⟩)] w fun e w' => e = .returned (i64 W) ∧ w = w' := by
  obtain ⟨c, hcap, hb⟩ := h.st
  have c0 := hb.cell 0
  clear h hb hcap
  go_enter Tryz.func348, Tryz.ntmps348
  go_wp2_with fail
  go_ret
  exact ⟨rfl, rfl⟩
theorem plHeight_calls {w : World} {q g W H : Nat} {F : Nat → Nat} (h : PL w q g W H F) : Calls Tryz.prog 345 #[.pointer (some ⟨q, 0, none⟩)] w fun e w' => e = .returned (i64 H) ∧ w = w' := by
  obtain ⟨c, hcap, hb⟩ := h.st
  have c1 := hb.cell 1
  clear h hb hcap
  go_enter Tryz.func345, Tryz.ntmps345
  go_wp2_with fail
  go_ret
  exact ⟨rfl, rfl⟩
set_option maxHeartbeats 1600000 in
theorem plMatrix_calls {w : World} {q g W H : Nat} {F : Nat → Nat} (h : PL w q g W H F) : Calls Tryz.prog 346 #[.pointer (some ⟨q, 0, none⟩)] w fun e w' => ∃ c, e = .returned (.slice (some ⟨g, 0, none⟩) (H * W) c) ∧ w = w' := by
  have HW := Lib.hid (plWidth_calls h)
  have HH := Lib.hid (plHeight_calls h)
  obtain ⟨c, hcap, hb⟩ := h.st
  have c2 := hb.cell 2
  have c3 := hb.cell 3
  have c4 := hb.cell 4
  have z1 : ((W : Int) == (W : Int)) = true := by rw [beq_iff_eq]
  have z2 : ((H : Int) == (H : Int)) = true := by rw [beq_iff_eq]
  clear h hb hcap
  go_enter Tryz.func346, Tryz.ntmps346
  go_wp2_with fail
  refine HW.out.mono ?_
  rintro e w1 ⟨rfl, rfl⟩
  go_wp2_with fail
  refine HH.out.mono ?_
  rintro e w1 ⟨rfl, rfl⟩
  go_wp2_with fail
  go_ret
  exact ⟨c, rfl, rfl⟩
theorem Tryz.eql30 (a : Addr) (n c : Nat) (w : World) : (binOp BinOp.eql 30 (.slice (some a) n c) (.slice none 0 0)).run Tryz.prog w = .ok (.bool false) w := by kernel_rfl
set_option maxHeartbeats 1600000 in
theorem plRow_calls {w : World} {q g W H lb : Nat} {F : Nat → Nat} {G : Nat → Value} (h : PL w q g W H F) (hr : w.rowIs lb 5 W G) (hlg : lb ≠ g) (hlq : lb ≠ q) (w1 : 1 ≤ W) (w2 : W ≤ 1500) (h2 : H ≤ 1500) (y : Nat) (hy : y < H) :
    Calls Tryz.prog 347 #[.pointer (some ⟨q, 0, none⟩), i64 y, .slice (some ⟨lb, 0, none⟩) W W] w fun e w' => e = .returned (.tuple #[.slice (some ⟨lb, 0, none⟩) W W, .nilIface]) ∧ w'.rowIs lb 5 W (fun x => u8 (F (y * W + x))) ∧ Fr (One lb) w w' := by
  have HW := Lib.hid (plWidth_calls h)
  have HH := Lib.hid (plHeight_calls h)
  obtain ⟨c, hcap, hb⟩ := h.st
  have c2 := hb.cell 2
  have c3 := hb.cell 3
  have c5 := hb.cell 5
  have c6 := hb.cell 6
  have hd := (Fr.refl Nil w).drew
  obtain ⟨S, hS⟩ : ∃ S, y * W = S := ⟨_, rfl⟩
  have hm : (y : Int) * (W : Int) = (S : Int) := by rw [← hS, Int.natCast_mul]
  have hSW : S + W ≤ H * W := by
    rw [← hS]
    have h2 : (y + 1) * W ≤ H * W := Nat.mul_le_mul_right _ (by omega)
    rw [Nat.add_mul, Nat.one_mul] at h2
    exact h2
  have hHW : H * W ≤ 2250000 := Nat.mul_le_mul h2 w2
  have hyz : ¬ (y : Int) < 0 := by omega
  have hyz2 : ¬ (H : Int) ≤ (y : Int) := by omega
  obtain ⟨T, hT⟩ : ∃ T, S + W = T := ⟨_, rfl⟩
  have hTz : (S : Int) + (W : Int) = (T : Int) := by omega
  obtain ⟨w3, hcp, hw3, hf3, -⟩ := copy_ex (P := Tryz.prog) (w := w.drew) (ty := 3) (dT := 30) (sT := 30) (o := 0) (dLen := W) (dCap := W) (G := fun x => u8 (F (S + x))) (⟨g, S, none⟩ : Addr) (T - S) (c - S) W Tryz.und30 Tryz.sizB (rowFr hr hd (fun e => e))
    (by rw [show T - S = W from by omega]; exact (Nat.min_eq_left (Nat.le_refl _)).symm) (by omega) (fun j hj => by rw [addr_add_row]; exact hd.cell_some (h.px (S + j) (by omega)) (fun e => e)) (fun _ _ => rfl)
  have HE := Lib.hid (show w3.rowIs lb 5 W (fun x => u8 (F (S + x))) ∧ Fr (One lb) w w3 from ⟨hw3.congr (fun j hj => by rw [if_pos (by omega)]; simp), (hd.any _).trans hf3⟩)
  have HS := Lib.hid hS
  clear h hb hr hw3 hf3 hd hS hT
  go_enter Tryz.func347, Tryz.ntmps347
  go_wp2_with fail
  refine HH.out.mono ?_
  rintro e w4 ⟨rfl, rfl⟩
  go_wp2_with fail
  refine HW.out.mono ?_
  rintro e w4 ⟨rfl, rfl⟩
  have hc1 : (T : Int) ≤ (c : Int) := by omega
  have hnil := Tryz.eql30 ⟨lb, 0, none⟩ W W w
  go_wp2_with fail
  go_region
  all_goals
    go_wp2_with fail
    go_ret2
    exact ⟨rfl, by rw [HS.out]; exact HE.out.1, HE.out.2⟩
end Go.Proofs.YtcekbhhpcmhicaaGreatDoor
/- The histogram: laid empty. -/
namespace Go.Proofs.YtcekbhhpcmhicaaGreatDoor
open Go Go.RowKit Go.Deep
set_option maxRecDepth 100000
/-- a binarizer with its arrays -/
structure GL (w : World) (p lb bb W : Nat) (src : Value) (Lm : Nat → Value) (b : Nat → Nat) : Prop where
  st : Blk w p 233 #[src, .slice (some ⟨lb, 0, none⟩) W W, .slice (some ⟨bb, 0, none⟩) 32 32]
  lm : w.rowIs lb 5 W Lm
  bk : w.rowIs bb 3 32 (fun i => i64 (b i))
theorem GL.nil {w w' : World} {p lb bb W : Nat} {src : Value} {Lm : Nat → Value} {b : Nat → Nat} (h : GL w p lb bb W src Lm b) (hf : Fr Nil w w') : GL w' p lb bb W src Lm b :=
  ⟨h.st.fr hf (fun e => e), rowFr h.lm hf (fun e => e), rowFr h.bk hf (fun e => e)⟩
set_option maxHeartbeats 1600000 in
theorem initArrays_calls {w : World} {p lb bb W : Nat} {src : Value} (h : GH w p lb bb src) (w1 : 1 ≤ W) (w2 : W ≤ 1500) :
    Calls Tryz.prog 332 #[.pointer (some ⟨p, 0, none⟩), i64 W] w fun e w' => e = .returned (.tuple #[]) ∧ ∃ l2, GL w' p l2 bb W src (fun _ => u8 0) (fun _ => 0) ∧ Fr (Two p bb) w w' ∧ w.heap.size ≤ l2 := by
  have hpb : p ≠ bb := h.st.row_ne h.bk (by decide)
  have c1 := h.st.cell 1
  have hmk := mkBytes W (by omega) w
  obtain ⟨l2, hl2⟩ : ∃ l2, w.heap.size = l2 := ⟨_, rfl⟩
  have hal : Fr Nil w (w.alloc (.cells (madeCells #[.int .u8 0] W) 5)) := (Fr.refl _ _).alloc _
  have hr := World.rowIs_made w (.int .u8 0) W 5
  rw [hl2] at hmk hr
  have hb1 := (h.st.fr hal (fun e => e))
  have hbk1 := rowFr h.bk hal (fun e => e)
  have hp2 : p < l2 := by rw [← hl2]; exact h.st.lt
  have hpb2 : bb < l2 := by rw [← hl2]; obtain ⟨c, hc, _⟩ := h.bk; exact (Array.getElem?_eq_some_iff.1 hc).1
  obtain ⟨w3, hw3⟩ : ∃ w3, w.alloc (.cells (madeCells #[.int .u8 0] W) 5) = w3 := ⟨_, rfl⟩
  rw [hw3] at hmk hr hb1 hbk1 hal
  have z1 := hb1.frozen 1
  have y1 := hb1.cell 1
  have hf3 : Fr (Two p bb) w3 (w3.setCell ⟨p, 1, none⟩ (.slice (some ⟨l2, 0, none⟩) W W)) := Fr.setCell (F := Two p bb) (a := ⟨p, 1, none⟩) (Fr.refl _ _) (.inl (.inl rfl)) _
  have hf4 : Fr (One p) w3 (w3.setCell ⟨p, 1, none⟩ (.slice (some ⟨l2, 0, none⟩) W W)) := (Fr.refl _ _).set1 1 _
  have HG := Lib.hid (show GL (w3.setCell ⟨p, 1, none⟩ (.slice (some ⟨l2, 0, none⟩) W W)) p l2 bb W src (fun _ => u8 0) (fun _ => 0) ∧ Fr (Two p bb) w (w3.setCell ⟨p, 1, none⟩ (.slice (some ⟨l2, 0, none⟩) W W)) ∧ w.heap.size ≤ l2 from
    ⟨⟨hb1.set_ 1 _, rowFr hr hf4 (fun e => by have e : l2 = p := e; omega), rowFr hbk1 hf4 (fun e => by have e : bb = p := e; omega)⟩, (hal.any _).trans hf3, by omega⟩)
  have hWz : (0 : Int) < (W : Int) := by omega
  have HN := Lib.hid hpb
  clear h hr hb1 hbk1 hal hf3 hf4 hw3 hl2 hpb hp2 hpb2
  go_enter Tryz.func332, Tryz.ntmps332
  go_wp2_with fail
  go_loopg [4] 32 (fun c s4 wr => ∃ x : Nat, Hid (x + c = 32) ∧ s4 = .int .i64 x ∧ Hid (GL wr p l2 bb W src (fun _ => u8 0) (fun _ => 0) ∧ Fr (Two p bb) w wr ∧ w.heap.size ≤ l2))
  case atStart => exact ⟨0, Lib.hid (by omega), rfl, HG⟩
  case round =>
    clear HG hmk z1 y1 c1
    obtain ⟨x, HX, rfl, HG⟩ := hrel
    cases gk with
    | zero =>
      have hz : ¬ (x : Int) < 32 := by have := HX.out; omega
      go_wp2_with fail
      go_end0
      exact ⟨rfl, l2, HG.out⟩
    | succ c =>
      have hz : (x : Int) < 32 := by have := HX.out; omega
      have hx : x < 32 := by omega
      have a2 := HG.out.1.st.cell 2
      have b0 := HG.out.1.bk.cell hx
      have b1 := HG.out.1.bk.frozen x
      have hf5 : Fr (One bb) wr (wr.setCell ⟨bb, x, none⟩ (.int .i64 0)) := (Fr.refl _ _).set1 x _
      have hf6 : Fr (Two p bb) wr (wr.setCell ⟨bb, x, none⟩ (.int .i64 0)) := hf5.mono (fun k _ e => .inr e)
      have HG2 := Lib.hid (show GL (wr.setCell ⟨bb, x, none⟩ (.int .i64 0)) p l2 bb W src (fun _ => u8 0) (fun _ => 0) ∧ Fr (Two p bb) w (wr.setCell ⟨bb, x, none⟩ (.int .i64 0)) ∧ w.heap.size ≤ l2 from
        ⟨⟨HG.out.1.st.fr hf5 (fun e => HN.out e), rowFr HG.out.1.lm hf5 (fun e => row_ne HG.out.1.lm HG.out.1.bk (by decide) e), (HG.out.1.bk.set x _).congr (fun j _ => by split <;> rfl)⟩, HG.out.2.1.trans hf6, HG.out.2.2⟩)
      clear HG hf5 hf6
      go_wp2_with fail
      go_roundg c
      case measure => omega
      case rel => exact ⟨x + 1, Lib.hid (by have := HX.out; omega), by go_num, HG2⟩
end Go.Proofs.YtcekbhhpcmhicaaGreatDoor
