/- Encoder_encode without hints. -/
import Derived.Test.YtcekbhhpcmhicaaGreatDoorA21
import Derived.Test.YtcekbhhpcmhicaaGreatDoorA23
import Derived.Test.YtcekbhhpcmhicaaGreatDoorA18
import Derived.Test.YtcekbhhpcmhicaaGreatDoorA19
set_option linter.unusedSimpArgs false
set_option linter.unusedVariables false
namespace Go.Proofs.YtcekbhhpcmhicaaGreatDoor
open Go Go.RowKit Go.Deep
set_option maxRecDepth 100000
theorem zs_cases {n k : Nat} {zs : List Bool} (h : Zs (min 4 (n - k)) zs) (hl : k + zs.length = n) : zs.length < 4 ∨ ∃ r, zs = msb 0 4 ++ r := by
  obtain ⟨r, hr⟩ := h
  by_cases h4 : n - k < 4
  · exact .inl (by omega)
  · rw [Nat.min_eq_left (by omega)] at hr
    exact .inr ⟨r, by rw [hr]; rfl⟩
/-- the finished symbol's record -/
def SymAt (w : World) (q : Nat) (t : List Nat) (l : Nat) : Prop := ∃ (vp v k mp r lo hi : Nat) (raw : List Bool) (es : List (List Nat)), k < 8 ∧ Coded t l v raw es ∧ VerAt w lo hi vp v ∧
  Blk w q 137 #[i64 (modeOf t), i64 l, .pointer (some ⟨vp, 0, none⟩), .int .i64 k, .pointer (some ⟨mp, 0, none⟩)] ∧ BM w mp r (17 + 4 * v) (symM v l k (bitsOf (rawW l v raw es))).1
set_option maxHeartbeats 6400000 in
theorem encoder_calls {w : World} {mb c : Nat} (hmap : w.heap[mb]? = some (.map #[] c)) (s : ByteArray) (hs : s.size ≤ 600) (l : Nat) (hl : l < 4) :
    Calls Tryz.prog 15 #[.string s, i64 l, .map (some mb)] w fun e w' => ∃ q, e = .returned (.tuple #[.pointer (some ⟨q, 0, none⟩), .nilIface]) ∧ SymAt w' q (nums s) l ∧ Fr Nil w w' ∧ w.heap.size ≤ q := by
  have hmlt : mb < w.heap.size := by
    rcases Nat.lt_or_ge mb w.heap.size with h | h
    · exact h
    · rw [Array.getElem?_eq_none h] at hmap; cases hmap
  have HM := Lib.hid (fun (w' : World) (hf : Fr Nil w w') (k : Int) => look_empty (w := w') ((hf.block mb hmlt (fun e => e)).trans hmap) k)
  have hlen : (nums s).length = s.size := by simp [nums]
  have HMC := Lib.hid (chooseMode_calls s (by omega) w)
  have HOK := Lib.hid (modeOf_ok (nums s))
  obtain ⟨v1, v2, a1, a2, b1, b2, f1, g1, f2, g2, hroom, hcnt⟩ := choice (modeOf (nums s)) l (modeOf_3 _) hl (nums s) (by omega)
  have HCH := Lib.hid (show _ ∧ _ ∧ _ ∧ _ from ⟨f1, g1, f2, g2⟩)
  have HV := Lib.hid (show _ ∧ _ ∧ _ ∧ _ ∧ _ ∧ _ from ⟨a1, a2, b1, b2, hroom, hcnt⟩)
  have HLEN := Lib.hid hlen
  have HN : Hid ((enc (modeOf (nums s)) (nums s)).length ≤ 32000) := Lib.hid (by
    have hd : dataW v2 (lvIdx l) ≤ 4000 := by
      have := (ver_tot b1 (by omega : v2 ≤ 40) (lvIdx_lt l)).2
      unfold dataW; omega
    omega)
  have hm3 := modeOf_3 (nums s)
  obtain ⟨t, ht⟩ : ∃ t, nums s = t := ⟨_, rfl⟩
  have HT := Lib.hid ht
  rw [ht] at HMC HOK HCH HV HN hm3 HLEN ⊢
  obtain ⟨m, hm⟩ : ∃ m, modeOf t = m := ⟨_, rfl⟩
  have HME := Lib.hid hm
  rw [hm] at HMC HOK HCH HV HN hm3
  have HM3 := Lib.hid hm3
  have hm16 : m < 16 := by rcases hm3 with rfl | rfl | rfl <;> omega
  clear hmap hmlt hlen a1 a2 b1 b2 f1 g1 f2 g2 hroom hcnt ht hm hm3
  have hrun := HM.out w (Fr.refl _ _) 1
  go_enter Tryz.func15, Tryz.ntmps15
  go_wp2_with fail
  refine HMC.out.mono ?_
  rintro e w1 ⟨rfl, hf1⟩
  have HF := Lib.hid hf1
  clear hf1 hrun HMC
  go_wp2_with fail
  refine (newEmpty_calls w1).mono ?_
  rintro e w2 ⟨rfl, hb, hf, -⟩
  have HA := Lib.hid (SA.new HF.out hf hb)
  have hrun := HM.out w2 HA.out.fr 12
  clear hb hf HF
  generalize w1.heap.size + 1 = p1 at HA ⊢
  generalize w1.heap.size = g1 at HA
  go_wp2_with fail
  refine (modeInfo_calls HA.out.a (by simp) m hm16).mono ?_
  rintro e w3 ⟨rfl, hP⟩
  obtain ⟨g1b, n1b, hA, -, -⟩ := HA.out.put hP
  rw [List.nil_append] at hA
  have HA2 := Lib.hid hA
  clear hP hA HA hrun
  go_wp2_with fail
  refine (newEmpty_calls w3).mono ?_
  rintro e w4 ⟨rfl, hb, hf, -⟩
  have HB := Lib.hid (SB.new HA2.out hf hb)
  clear hb hf HA2
  generalize w3.heap.size + 1 = p2 at HB ⊢
  generalize w3.heap.size = g2 at HB
  go_wp2_with fail
  refine (appendBytes_calls HB.out.s2.a s (by omega) (by simp) m HM3.out (by rw [HT.out]; exact HOK.out)).mono ?_
  rintro e w5 ⟨rfl, hP⟩
  rw [HT.out, List.nil_append] at hP
  obtain ⟨g2b, n2b, hB⟩ := HB.out.put hP
  have HB2 := Lib.hid hB
  have hrun := HM.out w5 hB.s1.fr 10
  clear hP hB HB
  go_wp2_with fail
  have HREC := Lib.hid (recommend_calls HB2.out.s1.a HB2.out.s2.a m l v1 v2 HM3.out hl (by have := HN.out; simp only [msb_length]; omega) HV.out.1 HV.out.2.1 HV.out.2.2.1 (by have := HV.out.2.2.2.1; omega)
    (by rw [msb_length]; exact HCH.out.1) (by rw [msb_length]; exact HCH.out.2.1) (by rw [msb_length]; exact HCH.out.2.2.1) (by rw [msb_length]; exact HCH.out.2.2.2))
  refine HREC.out.mono ?_
  rintro e w6 ⟨vp, lo, rfl, hlo, hv, hf⟩
  have HC := Lib.hid (SC.of HB2.out hf hv hlo)
  clear hrun HREC hlo hv hf HB2 HCH
  generalize w6.heap.size = hi at HC
  go_wp2_with fail
  refine (newEmpty_calls w6).mono ?_
  rintro e w7 ⟨rfl, hb, hf, -⟩
  have HD := Lib.hid (SD.new HC.out hf hb)
  clear hb hf HC
  generalize w6.heap.size + 1 = p3 at HD ⊢
  generalize w6.heap.size = g3 at HD
  go_wp2_with fail
  refine (HD.out.app1 (by simp [msb_length])).mono ?_
  rintro e w8 ⟨rfl, hP⟩
  obtain ⟨g3b, n3b, hD⟩ := HD.out.put hP
  rw [List.nil_append] at hD
  have HD2 := Lib.hid hD
  clear hP hD HD
  obtain ⟨N, hN⟩ : ∃ N, t.length = N := ⟨_, rfl⟩
  have HNE := Lib.hid hN
  rw [hN] at HLEN HV
  clear hN
  obtain ⟨L, hL⟩ : ∃ L, s.size = L := ⟨_, rfl⟩
  have hLN : L = N := by rw [← hL]; exact HLEN.out.symm
  subst hLN
  obtain ⟨b4, hb4⟩ : ∃ b, ((m : Int) == 4) = b := ⟨_, rfl⟩
  go_upto_if 158 with (first | exact hL | fail)
  go_cut [30] from 159 to 160 (fun s30 wc => s30 = i64 L ∧ wc = w8)
  case first =>
    cases b4
    · go_wp2_with fail
      go_meet
      exact ⟨rfl, rfl⟩
    · have hm4 : m = 4 := by
        have := eq_of_beq hb4
        omega
      have hsz : ((enc m t).length + 7) / 8 = L := by
        rw [hm4]
        show ((encBy t).length + 7) / 8 = L
        rw [encBy_length, HNE.out]
        omega
      have hsb := sizeBytes_calls HD2.out.s2.a
      rw [hsz] at hsb
      have HSB := Lib.hid hsb
      clear hm4 hsz hb4 hsb
      go_wp2_with fail
      refine HSB.out.mono ?_
      rintro e w9 ⟨rfl, rfl⟩
      go_wp2_with fail
      go_meet
      exact ⟨rfl, rfl⟩
  case rest =>
    obtain ⟨rfl, rfl⟩ := hcut
    have HLI := Lib.hid (lengthInfo_calls HD2.out.ver HD2.out.s3.a (by simp [msb_length]) m HM3.out L HV.out.2.2.2.2.2)
    go_wp2_with fail
    refine HLI.out.mono ?_
    rintro e w9 ⟨rfl, hP⟩
    obtain ⟨g3c, n3c, hD⟩ := HD2.out.put hP
    have HD3 := Lib.hid hD
    clear hP hD HD2 HLI
    go_wp2_with fail
    refine (HD3.out.app2 (by have := HN.out; have := cc_bd m v2; simp only [List.length_append, msb_length]; omega)).mono ?_
    rintro e w10 ⟨rfl, hP⟩
    obtain ⟨g3d, n3d, hD⟩ := HD3.out.put hP
    have HD4 := Lib.hid hD
    clear hP hD HD3
    obtain ⟨T, hT⟩ : ∃ T, tot v2 = T := ⟨_, rfl⟩
    obtain ⟨E, hE⟩ : ∃ E, ecTot v2 (lvIdx l) = E := ⟨_, rfl⟩
    obtain ⟨D, hD⟩ : ∃ D, dataW v2 (lvIdx l) = D := ⟨_, rfl⟩
    obtain ⟨NB, hNB⟩ : ∃ NB, cntBl (blOf v2 (lvIdx l)) = NB := ⟨_, rfl⟩
    have hv40 : v2 ≤ 40 := by have := HV.out.2.2.2.1; omega
    have hTE := ver_tot HV.out.2.2.1 hv40 (lvIdx_lt l)
    have hDT : D = T - E := by rw [← hD, ← hT, ← hE]; rfl
    rw [hT, hE] at hTE
    have hwr : IntKind.i64.wrap ((T : Int) - (E : Int)) = (D : Int) := by
      have hd4 : D ≤ 4000 := by omega
      rw [show (T : Int) - (E : Int) = (D : Int) from by omega]
      exact IntWalk.i64_in _ (by omega)
    have HEQ := Lib.hid (show _ ∧ _ ∧ _ ∧ _ from ⟨hT, hE, hD, hNB⟩)
    have HDT := Lib.hid hDT
    rw [hD] at HV
    have HVT := Lib.hid (verTotal_calls HD4.out.ver)
    have HGE := Lib.hid (getEC_calls HD4.out.ver l hl)
    have HTE := Lib.hid (fun (W : World) (lo hi g o : Nat) (h : ECAt W lo hi g o v2 (lvIdx l)) => totalEC_calls h)
    rw [show ecOf v2 (lvIdx l) * cntBl (blOf v2 (lvIdx l)) = E from hE] at HTE
    have HNBC := Lib.hid (fun (W : World) (lo hi g o : Nat) (h : ECAt W lo hi g o v2 (lvIdx l)) => numBlocks_calls h)
    rw [hNB] at HNBC
    rw [hT] at HVT
    clear hT hE hD hNB hDT
    go_wp2_with fail
    refine HGE.out.mono ?_
    rintro e w11 ⟨ge, go, rfl, he, rfl⟩
    have HE := Lib.hid he
    clear he HGE
    go_wp2_with fail
    refine HVT.out.mono ?_
    rintro e w11 ⟨rfl, rfl⟩
    go_wp2_with fail
    refine (HTE.out _ _ _ _ _ HE.out).mono ?_
    rintro e w11 ⟨rfl, hf⟩
    have HD5 := Lib.hid (HD4.out.nil hf)
    have HE5 := Lib.hid (HE.out.fr hf (fun _ _ _ e => e))
    clear hf HD4 HE HVT HTE
    go_wp2_with fail
    obtain ⟨RW, hRW⟩ : ∃ RW, msb m 4 ++ msb L (cc m v2) ++ enc m t = RW := ⟨_, rfl⟩
    have hRL : RW.length = 4 + cc m v2 + (enc m t).length := by rw [← hRW]; simp only [List.length_append, msb_length]
    have HRW := Lib.hid hRW
    have hRWe := Lib.hid hRW
    have hfit : RW.length ≤ 8 * D := by rw [hRL]; exact HV.out.2.2.2.2.1
    have hd4 : D ≤ 4000 := by have := HDT.out; omega
    have HTM := Lib.hid (show _ from (by have h := HD5; rw [hRW] at h; exact terminate_calls h.out.s3.a D hd4 hfit))
    clear hRW hRL
    go_wp2_with fail
    refine HTM.out.mono ?_
    rintro e w12 ⟨rfl, zs, hzs, hzl, hP⟩
    have hd5 := HD5.out
    rw [hRWe.out] at hd5
    obtain ⟨g3e, n3e, hD⟩ := hd5.put hP
    have HD6 := Lib.hid hD
    have HE6 := Lib.hid (HE5.out.fr (hd5.s3.put hP).choose_spec.choose_spec.2.1 (fun i _ h2 e => by
      obtain ⟨B, a1, a2, a3, a4, a5, a6, a7⟩ := hd5.B
      rcases e with e | e <;> omega))
    have HZ := Lib.hid (zs_cases hzs (by rw [List.length_append] at hzl; exact hzl))
    have HZL := Lib.hid hzl
    clear hzs hzl hP hd5 hD HD5 HE5 HTM
    have HVT := Lib.hid (verTotal_calls HD6.out.ver)
    rw [HEQ.out.1] at HVT
    go_wp2_with fail
    refine HVT.out.mono ?_
    rintro e w13 ⟨rfl, rfl⟩
    go_wp2_with fail
    refine (HNBC.out _ _ _ _ _ HE6.out).mono ?_
    rintro e w13 ⟨rfl, hf⟩
    have HD7 := Lib.hid (HD6.out.nil hf)
    clear hf HD6 HE6 HVT HNBC
    obtain ⟨c1, d1, c2, hbl⟩ := bl_law HV.out.2.2.1 hv40 (lvIdx_lt l)
    have hil := interleave_calls HD7.out.s3.a T D NB HZL.out (by rw [← HEQ.out.2.2.2, hbl.n]; have := hbl.c1; omega) (by rw [← HEQ.out.2.2.2, hbl.n]; have := hbl.n2; omega) (by omega) (by have := HDT.out; omega)
      (by have := hbl.hoff; rw [← hbl.n, HEQ.out.1, HEQ.out.2.2.1, HEQ.out.2.2.2] at this; exact this) (by have := hbl.hsum; rw [← hbl.n, HEQ.out.1, HEQ.out.2.2.1, HEQ.out.2.2.2] at this; exact this)
      (by have := hbl.div; rw [← hbl.n, HEQ.out.2.2.1, HEQ.out.2.2.2] at this; rw [this]; exact hbl.d1) (by have := hbl.div; rw [← hbl.n, HEQ.out.2.2.1, HEQ.out.2.2.2] at this; rw [this]; have := hbl.d2; omega)
      (by have := hbl.bec; rw [← hbl.n, HEQ.out.1, HEQ.out.2.2.1, HEQ.out.2.2.2] at this; rw [this]; exact hbl.e1) (by have := hbl.bec; rw [← hbl.n, HEQ.out.1, HEQ.out.2.2.1, HEQ.out.2.2.2] at this; rw [this]; have := hbl.e2; omega)
    have HIL := Lib.hid hil
    clear hil hbl
    go_wp2_with fail
    refine HIL.out.mono ?_
    rintro e w14 ⟨p4, g4, n4, es, rfl, hb4, hes, hec, hf⟩
    have HCOD : Hid (Coded t l v2 (RW ++ zs) es) := Lib.hid ⟨HV.out.2.2.1, HV.out.2.2.2.1, ⟨zs, by rw [HME.out, HNE.out, ← HRW.out]; simp only [List.append_assoc], HZ.out⟩, by rw [HEQ.out.2.2.1]; exact HZL.out, by rw [HME.out, HNE.out]; exact HV.out.2.2.2.2.2,
      by rw [HEQ.out.2.2.2]; exact hes, by rw [HEQ.out.1, HEQ.out.2.2.1, HEQ.out.2.2.2]; exact hec⟩
    have hrw : rawW l v2 (RW ++ zs) es = ilv (mxd T D NB NB) (dblks (RW ++ zs) T D NB) ++ ilv (bec T D NB) es := by unfold rawW; rw [HEQ.out.1, HEQ.out.2.2.1, HEQ.out.2.2.2]
    rw [← hrw] at hb4
    have HB4 := Lib.hid hb4
    have HF14 := Lib.hid hf
    clear hb4 hes hec hf hrw HIL HZ HZL
    go_wp2_with fail
    refine (newQR_calls w14).mono ?_
    rintro e w15 ⟨rfl, hk, hf⟩
    have HS := Lib.hid (SF.new HD7.out HF14.out HB4.out hf hk)
    clear hk hf HD7 HF14 HB4
    generalize w14.heap.size = q at HS ⊢
    go_wp2_with fail
    refine (setLevel_calls HS.out.st rfl l).mono ?_
    rintro e w16 ⟨rfl, hk, hf⟩
    have HS2 := Lib.hid (HS.out.set hk hf)
    clear hk hf HS
    go_wp2_with fail
    refine (setMode_calls HS2.out.st rfl m).mono ?_
    rintro e w17 ⟨rfl, hk, hf⟩
    have HS3 := Lib.hid (HS2.out.set hk hf)
    clear hk hf HS2
    go_wp2_with fail
    refine (setVersion_calls HS3.out.st rfl vp).mono ?_
    rintro e w18 ⟨rfl, hk, hf⟩
    have HS4 := Lib.hid (HS3.out.set hk hf)
    clear hk hf HS3
    go_wp2_with fail
    refine (verDim_calls HS4.out.ver).mono ?_
    rintro e w19 ⟨rfl, rfl⟩
    go_wp2_with fail
    have hrun := HM.out w18 HS4.out.fr 11
    refine (newBM_calls w18 (17 + 4 * v2) (by have := HV.out.2.2.2.1; omega)).mono ?_
    rintro e w19 ⟨mp, rfl, hb, hf⟩
    have hrun := HM.out w19 (HS4.out.fr.trans hf) 11
    have HG := Lib.hid (SG.new HS4.out hf hb)
    clear hb hf HS4
    generalize w18.heap.size = r at HG
    go_wp2_with fail
    have HBL := Lib.hid (show ∀ k, (symM v2 l k (bitsOf (rawW l v2 (RW ++ zs) es))).2 = (bitsOf (rawW l v2 (RW ++ zs) es)).length from fun k => sym_all v2 l k _ HV.out.2.2.1 HV.out.2.2.2.1 (by rw [bitsOf_length, rawW_len HCOD.out]))
    have HNO := Lib.hid HG.out.no
    have HCHO := Lib.hid (choose_calls HG.out.sf.ver HG.out.sf.a HG.out.bm HNO.out.1 HNO.out.2.1 HNO.out.2.2 l hl (fun k _ => HBL.out k))
    clear hrun
    refine HCHO.out.mono ?_
    rintro e w20 ⟨⟨k, rfl, hk⟩, ⟨M', hb⟩, hf⟩
    have HG2 := Lib.hid (HG.out.rows hb hf)
    clear hb hf HG HCHO
    go_wp2_with fail
    refine (setMask_calls HG2.out.sf.st rfl k).mono ?_
    rintro e w21 ⟨rfl, hb, hf⟩
    have HG3 := Lib.hid (HG2.out.set hb hf)
    clear hb hf HG2
    go_wp2_with fail
    refine (build_calls HG3.out.sf.ver HG3.out.sf.a HG3.out.bm HNO.out.1 HNO.out.2.1 HNO.out.2.2 l k hl hk (HBL.out k)).mono ?_
    rintro e w22 ⟨rfl, hb, hf⟩
    have HG4 := Lib.hid (HG3.out.rows hb hf)
    clear hb hf HG3
    go_wp2_with fail
    refine (setMatrix_calls HG4.out.sf.st rfl mp).mono ?_
    rintro e w23 ⟨rfl, hb, hf⟩
    have HG5 := Lib.hid (HG4.out.set hb hf)
    clear hb hf HG4
    go_wp2_with fail
    go_ret2
    exact ⟨q, rfl, ⟨vp, v2, k, mp, r, lo, hi, RW ++ zs, es, hk, HCOD.out, HG5.out.sf.ver, by rw [HME.out]; exact HG5.out.sf.st, HG5.out.bm⟩, HG5.out.sf.fr, HG5.out.sf.hq⟩
end Go.Proofs.YtcekbhhpcmhicaaGreatDoor
/- QREncode: the symbol as rows of modules. -/
namespace Go.Proofs.YtcekbhhpcmhicaaGreatDoor
open Go Go.RowKit Go.Deep
set_option maxRecDepth 100000
theorem Tryz.und42 : Tryz.prog.underlying 42 = some (.slice 4) := by kernel_rfl
theorem Tryz.inf4 : (Tryz.prog.info? 4).map (fun i => (i.zero, i.size, i.bytes)) = some (some (.bool false), 1, 1) := by kernel_rfl
theorem Tryz.und23 : Tryz.prog.underlying 23 = some (.slice 42) := by kernel_rfl
theorem Tryz.inf42 : (Tryz.prog.info? 42).map (fun i => (i.zero, i.size, i.bytes)) = some (some (.slice none 0 0), 1, 24) := by kernel_rfl
theorem mkBools (n : Nat) (h : n ≤ 1000000) (w : World) : (Instr.makeSlice 42 (.int .i64 (n : Int)) (.int .i64 (n : Int))).run Tryz.prog w = .ok (.slice (some ⟨w.heap.size, 0, none⟩) n n) (w.alloc (.cells (madeCells #[.bool false] n) 4)) :=
  run_make_row' (P := Tryz.prog) 42 4 (.bool false) 1 Tryz.und42 Tryz.inf4 rfl .i64 .i64 n (by omega) (by omega) w
/-- rows written so far: y of n -/
structure RQ (w0 w : World) (y n : Nat) (sv : Value) (B : Nat → Nat → Bool) (xs : List Value) (R : Nat → Nat) : Prop where
  fr : Fr Nil w0 w
  own : w.ownsRow w0.heap.size 42 1 sv y xs
  top : ∀ j, j < y → xs[j]? = some (.slice (some ⟨R j, 0, none⟩) n n)
  row : ∀ j, j < y → w.rowIs (R j) 4 n (fun x => .bool (B j x))
  len : xs.length = y
theorem RQ.start {w0 w : World} (hf : Fr Nil w0 w) (n : Nat) (B : Nat → Nat → Bool) : RQ w0 w 0 n (.slice none 0 0) B [] (fun _ => 0) :=
  ⟨hf, owns_nil _ _ _, fun j hj => absurd hj (by omega), fun j hj => absurd hj (by omega), rfl⟩
theorem RQ.nil {w0 w w' : World} {y n : Nat} {sv : Value} {B : Nat → Nat → Bool} {xs : List Value} {R : Nat → Nat} (h : RQ w0 w y n sv B xs R) (hf : Fr Nil w w') : RQ w0 w' y n sv B xs R :=
  ⟨h.fr.trans hf, owns_fr h.own hf (fun k hk e => e), h.top, fun j hj => rowFr (h.row j hj) hf (fun e => e), h.len⟩
theorem RQ.push {w0 w w2 : World} {y n r g2 cap2 : Nat} {sv : Value} {B : Nat → Nat → Bool} {xs : List Value} {R : Nat → Nat} (h : RQ w0 w y n sv B xs R) (hr : w.rowIs r 4 n (fun x => .bool (B y x))) (hf : Fr (Own sv) w w2)
    (hown : w2.ownsRow w0.heap.size 42 1 (.slice (some ⟨g2, 0, none⟩) (y + 1) cap2) (y + 1) (xs ++ [.slice (some ⟨r, 0, none⟩) n n])) :
    RQ w0 w2 (y + 1) n (.slice (some ⟨g2, 0, none⟩) (y + 1) cap2) B (xs ++ [.slice (some ⟨r, 0, none⟩) n n]) (fun j => if j = y then r else R j) := by
  have hno : ∀ b N f, w.rowIs b 4 N f → ¬ Own sv b := fun b N f hb e => by
    obtain ⟨_, _, cs, hk⟩ := owns_lt h.own e
    exact hk.row_ne hb (by decide) rfl
  refine ⟨h.fr.trans' hf (fun i hi e => by
    obtain ⟨_, hk, _⟩ := owns_lt h.own e
    omega), hown, fun j hj => ?_, fun j hj => ?_, by rw [List.length_append, h.len]; rfl⟩
  · by_cases e : j = y
    · subst e
      rw [if_pos rfl, List.getElem?_append_right (by rw [h.len]; exact Nat.le_refl _), h.len, Nat.sub_self]; rfl
    · rw [if_neg e, List.getElem?_append_left (by rw [h.len]; omega)]
      exact h.top j (by omega)
  · by_cases e : j = y
    · subst e
      rw [if_pos rfl]
      exact rowFr hr hf (hno _ _ _ hr)
    · rw [if_neg e]
      have := h.row j (by omega)
      exact rowFr this hf (hno _ _ _ this)
theorem RQ.done {w0 w : World} {n : Nat} {sv : Value} {B : Nat → Nat → Bool} {xs : List Value} {R : Nat → Nat} (h : RQ w0 w n n sv B xs R) (hn : 1 ≤ n) : ∃ g cap, sv = .slice (some ⟨g, 0, none⟩) n cap ∧ n ≤ cap ∧ MM w g n R B := by
  rcases h.own.2 with ⟨h0, h1⟩ | ⟨g, cap, cur, hv, h1, hb, hc, h2⟩
  · omega
  · subst hv
    exact ⟨g, cap, rfl, hc, fun y hy => own_cell h.own (h.top y hy), h.row⟩
theorem RQ.set {w0 w : World} {y n ob i : Nat} {sv u : Value} {cs : Array Value} {B : Nat → Nat → Bool} {xs : List Value} {R : Nat → Nat} (h : RQ w0 w y n sv B xs R) (hb : Blk w ob 25 cs) (hlo : w0.heap.size ≤ ob) : RQ w0 (w.setCell ⟨ob, i, none⟩ u) y n sv B xs R := by
  have hf : Fr (One ob) w (w.setCell ⟨ob, i, none⟩ u) := (Fr.refl _ _).set1 i u
  refine ⟨h.fr.setNew hlo i u, owns_fr h.own hf (fun k hk e => ?_), h.top, fun j hj => rowFr (h.row j hj) hf (fun e => ?_), h.len⟩
  · have e : k = ob := e
    subst e
    obtain ⟨_, _, cs2, hk2⟩ := owns_lt h.own hk
    exact hb.ne_ hk2 (by decide) rfl
  · have e : R j = ob := e
    exact hb.row_ne (h.row j hj) (by decide) e.symm
/-- what QREncode's loop keeps -/
structure QE (w0 w : World) (y n : Nat) (b : Option Addr) (c : Nat) (B : Nat → Nat → Bool) (rb ob mp r : Nat) (M : Nat → Nat → Int) (v1 v2 v3 v4 : Value) : Prop where
  rq : ∃ xs R, RQ w0 w y n (.slice b y c) B xs R
  rb_ : Blk w rb 25 #[.int .i64 0, .int .i64 0, .int .i64 0, .int .i64 0, .slice none 0 0]
  ob_ : Blk w ob 25 #[v1, v2, v3, v4, .slice b y c]
  bm : BM w mp r n M
  l1 : w0.heap.size ≤ rb
  l2 : w0.heap.size ≤ ob
  ne : rb ≠ ob
theorem QE.nil {w0 w w' : World} {y n : Nat} {b : Option Addr} {c : Nat} {B : Nat → Nat → Bool} {rb ob mp r : Nat} {M : Nat → Nat → Int} {v1 v2 v3 v4 : Value} (h : QE w0 w y n b c B rb ob mp r M v1 v2 v3 v4) (hf : Fr Nil w w') : QE w0 w' y n b c B rb ob mp r M v1 v2 v3 v4 :=
  ⟨by obtain ⟨xs, R, h⟩ := h.rq; exact ⟨xs, R, h.nil hf⟩, h.rb_.fr hf (fun e => e), h.ob_.fr hf (fun e => e), h.bm.nil hf, h.l1, h.l2, h.ne⟩
/-- one row more is appended, and kept in the record -/
theorem QE.push {w0 w : World} {y n : Nat} {b : Option Addr} {c : Nat} {B : Nat → Nat → Bool} {rb ob mp r : Nat} {M : Nat → Nat → Int} {v1 v2 v3 v4 : Value} (h : QE w0 w y n b c B rb ob mp r M v1 v2 v3 v4) (hy : y ≤ 1000) {A : Nat} (hr : w.rowIs A 4 n (fun x => .bool (B y x))) :
    ∃ g2 cap2 w2, (Builtin.append_ #[23, 23] 23 #[.slice b y c, .slice (some ⟨w.heap.size, 0, none⟩) 1 1]).run Tryz.prog (w.alloc (.cells #[.slice (some ⟨A, 0, none⟩) n n] 42)) = .ok (.slice (some ⟨g2, 0, none⟩) (y + 1) cap2) w2 ∧
      w2.cell? ⟨ob, 4, none⟩ = some (.slice b y c) ∧ w2.frozen? ⟨ob, 4, none⟩ = false ∧ QE w0 (w2.setCell ⟨ob, 4, none⟩ (.slice (some ⟨g2, 0, none⟩) (y + 1) cap2)) (y + 1) n (some ⟨g2, 0, none⟩) cap2 B rb ob mp r M v1 v2 v3 v4 := by
  obtain ⟨xs, R, hq⟩ := h.rq
  obtain ⟨g2, cap2, w2, hap, hown, hf, -⟩ := appV (w := w) (lo := w0.heap.size) (n := y) (T := 42) (ST := 23) (sv := .slice b y c) (v := .slice (some ⟨A, 0, none⟩) n n) Tryz.und23 Tryz.inf42 rfl (by omega) hq.own (by omega) hq.fr.size rfl
  have hno : ∀ k t cs, Blk w k t cs → t ≠ 42 → ¬ Own (.slice b y c) k := fun k t cs hk ht e => by
    obtain ⟨_, _, cs2, hk2⟩ := owns_lt hq.own e
    exact hk.ne_ hk2 ht rfl
  have hno2 : ∀ k t N f, w.rowIs k t N f → t ≠ 42 → ¬ Own (.slice b y c) k := fun k t N f hk ht e => by
    obtain ⟨_, _, cs2, hk2⟩ := owns_lt hq.own e
    exact hk2.row_ne hk (fun e => ht e.symm) rfl
  have hob := h.ob_.fr hf (hno _ _ _ h.ob_ (by decide))
  have hrb := h.rb_.fr hf (hno _ _ _ h.rb_ (by decide))
  have hbm := h.bm.fr hf (hno _ _ _ h.bm.st (by decide)) (hno2 _ _ _ _ h.bm.rw_ (by decide)) (fun y hy => hno2 _ _ _ _ (h.bm.row y hy) (by decide))
  have hf2 : Fr (One ob) w2 (w2.setCell ⟨ob, 4, none⟩ (.slice (some ⟨g2, 0, none⟩) (y + 1) cap2)) := (Fr.refl _ _).set1 4 _
  refine ⟨g2, cap2, w2, hap, hob.cell 4, hob.frozen 4, ⟨_, _, (hq.push hr hf hown).set hob h.l2⟩, hrb.fr hf2 h.ne, hob.set_ 4 _, hbm.fr hf2 ?_ ?_ ?_, h.l1, h.l2, h.ne⟩
  · exact fun e => hbm.st.ne_ hob (by decide) e
  · exact fun e => hob.row_ne hbm.rw_ (by decide) e.symm
  · exact fun y hy e => hob.row_ne (hbm.row y hy) (by decide) e.symm
set_option maxHeartbeats 6400000 in
theorem qrEncode_calls (s : ByteArray) (hs : s.size ≤ 600) (l : Nat) (hl : l < 4) (w : World) :
    Calls Tryz.prog 6 #[.string s, i64 l, i64 0, .int .i64 (-1)] w fun e w' => ∃ (g cap v k : Nat) (R : Nat → Nat) (raw : List Bool) (es : List (List Nat)), e = .returned (.tuple #[.agg #[i64 v, i64 k, i64 l, i64 (modeOf (nums s)), .slice (some ⟨g, 0, none⟩) (17 + 4 * v : Nat) cap], .bool true]) ∧
      k < 8 ∧ Coded (nums s) l v raw es ∧ 17 + 4 * v ≤ cap ∧ MM w' g (17 + 4 * v) R (symB v l k (bitsOf (rawW l v raw es))) ∧ Fr Nil w w' := by
  have hmm := @run_makeMap Tryz.prog
  obtain ⟨w1, hw1⟩ : ∃ w1, (w.alloc (.cells #[.int .i64 0, .int .i64 0, .int .i64 0, .int .i64 0, .slice none 0 0] 25)).alloc (.map #[] 0) = w1 := ⟨_, rfl⟩
  have HW1 := Lib.hid hw1
  obtain ⟨rb, hrb⟩ : ∃ rb, w.heap.size = rb := ⟨_, rfl⟩
  have HRB := Lib.hid hrb
  have HZ := Lib.hid (show Blk w1 rb 25 #[.int .i64 0, .int .i64 0, .int .i64 0, .int .i64 0, .slice none 0 0] ∧ Fr Nil w w1 ∧ w1.heap[rb + 1]? = some (.map #[] 0) from by
    rw [← hw1, ← hrb]
    refine ⟨(Blk.new _ _ _).alloc _, ((Fr.refl _ _).alloc _).alloc _, ?_⟩
    have h := heap_alloc_new (w.alloc (.cells #[.int .i64 0, .int .i64 0, .int .i64 0, .int .i64 0, .slice none 0 0] 25)) (.map #[] 0)
    rw [show (w.alloc (.cells #[.int .i64 0, .int .i64 0, .int .i64 0, .int .i64 0, .slice none 0 0] 25)).heap.size = w.heap.size + 1 from by simp] at h
    exact h)
  clear hw1 hrb
  go_enter Tryz.func6, Tryz.ntmps6
  go_wp2_with fail
  rw [HW1.out, HRB.out]
  refine (encoder_calls HZ.out.2.2 s hs l hl).mono ?_
  rintro e w2 ⟨q, rfl, ⟨vp, v, k, mp, r, lo, hi, raw, es, hk, hcod, hver, hblk, hbm⟩, hf2, hq⟩
  have HC := Lib.hid (show _ ∧ _ from ⟨hk, hcod⟩)
  have HV := Lib.hid hver
  have HB := Lib.hid hblk
  have hv2 := hcod.v2
  have hv1 := hcod.v1
  obtain ⟨n, hn⟩ : ∃ n, 17 + 4 * v = n := ⟨_, rfl⟩
  have hn2 : n ≤ 200 := by omega
  have hn1 : 1 ≤ n := by omega
  rw [hn] at hbm
  have HN := Lib.hid hn
  have HBM := Lib.hid hbm
  have HZ2 := Lib.hid (show _ ∧ _ from ⟨HZ.out.1.fr hf2 (fun e => e), HZ.out.2.1.trans hf2⟩)
  obtain ⟨M, hM⟩ : ∃ M, (symM v l k (bitsOf (rawW l v raw es))).1 = M := ⟨_, rfl⟩
  have HMM := Lib.hid (show symB v l k (bitsOf (rawW l v raw es)) = fun y x => M y x == 1 from by rw [← hM]; rfl)
  rw [hM] at HBM
  clear hmm hM hk hcod hver hblk hbm hf2 hq hn HZ
  go_wp2_with fail
  refine (qrMatrix_calls HB.out rfl).mono ?_
  rintro e w3 ⟨rfl, rfl⟩
  go_wp2_with fail
  refine (qrVersion_calls HB.out rfl).mono ?_
  rintro e w3 ⟨rfl, rfl⟩
  go_wp2_with fail
  refine (verNumber_calls HV.out).mono ?_
  rintro e w3 ⟨rfl, rfl⟩
  go_wp2_with fail
  refine (qrMask_calls HB.out rfl).mono ?_
  rintro e w3 ⟨rfl, rfl⟩
  go_wp2_with fail
  refine (qrLevel_calls HB.out rfl).mono ?_
  rintro e w3 ⟨rfl, rfl⟩
  go_wp2_with fail
  refine (levelBits_calls _ _).mono ?_
  rintro e w3 ⟨rfl, rfl⟩
  go_wp2_with fail
  refine (qrMode_calls HB.out rfl).mono ?_
  rintro e w3 ⟨rfl, rfl⟩
  go_wp2_with fail
  refine (modeBits_calls _ _).mono ?_
  rintro e w3 ⟨rfl, rfl⟩
  go_wp2_with fail
  obtain ⟨ob, hob⟩ : ∃ ob, w2.heap.size = ob := ⟨_, rfl⟩
  obtain ⟨w3, hw3⟩ : ∃ w3, w2.alloc (.cells #[i64 v, i64 k, i64 l, i64 (modeOf (nums s)), .slice none 0 0] 25) = w3 := ⟨_, rfl⟩
  have hf3 : Fr Nil w2 w3 := by rw [← hw3]; exact (Fr.refl _ _).alloc _
  have HQ0 := Lib.hid (show QE w w3 0 n none 0 (symB v l k (bitsOf (rawW l v raw es))) rb ob mp r M (i64 v) (i64 k) (i64 l) (i64 (modeOf (nums s))) from
    ⟨⟨_, _, RQ.start (HZ2.out.2.trans hf3) _ _⟩, HZ2.out.1.fr hf3 (fun e => e), by rw [← hw3, ← hob]; exact Blk.new _ _ _, HBM.out.nil hf3, by rw [HRB.out]; exact Nat.le_refl _, by have := HZ2.out.2.size; omega, by have := HZ2.out.1.lt; omega⟩)
  have HW3 := Lib.hid (show _ ∧ _ from ⟨hw3, hob⟩)
  clear hf3 hw3 hob HZ2 HBM HV HB
  rw [HW3.out.1, HW3.out.2]
  go_loopg [15, 16, 17, 62, 63, 64] n (fun q s15 s16 s17 s62 s63 s64 wr => ∃ (y : Nat) (b : Option Addr) (c : Nat), Hid (y + q = n) ∧ s15 = .int .i64 y ∧ Hid (QE w wr y n b c (symB v l k (bitsOf (rawW l v raw es))) rb ob mp r M (i64 v) (i64 k) (i64 l) (i64 (modeOf (nums s)))))
  case atStart => exact ⟨0, none, 0, Lib.hid (by omega), rfl, HQ0⟩
  case round =>
    clear HQ0
    obtain ⟨y, b, c, HY, rfl, HQ⟩ := hrel
    have HH := Lib.hid (height_calls HQ.out.bm)
    cases gk with
    | zero =>
      have hyz : ¬ (y : Int) < (n : Int) := by have := HY.out; omega
      obtain rfl : y = n := by have := HY.out; omega
      obtain ⟨xs, R, hrq⟩ := HQ.out.rq
      obtain ⟨g, cap, hsv, hcap, hMM⟩ := hrq.done hn1
      cases hsv
      have hfr := hrq.fr
      have hgr : g ≠ rb := by
        obtain ⟨_, _, cs2, hk2⟩ := owns_lt hrq.own (k := g) rfl
        exact hk2.ne_ HQ.out.rb_ (by decide)
      have HRQ := Lib.hid (show _ ∧ _ from ⟨hcap, hMM⟩)
      clear hcap hMM hrq
      have a0 := HQ.out.ob_.cell 0
      have a1 := HQ.out.ob_.cell 1
      have a2 := HQ.out.ob_.cell 2
      have a3 := HQ.out.ob_.cell 3
      have a4 := HQ.out.ob_.cell 4
      have z0 := HQ.out.rb_.cell 0
      have z1 := HQ.out.rb_.cell 1
      have z2 := HQ.out.rb_.cell 2
      have z3 := HQ.out.rb_.cell 3
      have z4 := HQ.out.rb_.cell 4
      have y0 := HQ.out.rb_.frozen 0
      have y1 := HQ.out.rb_.frozen 1
      have y2 := HQ.out.rb_.frozen 2
      have y3 := HQ.out.rb_.frozen 3
      have y4 := HQ.out.rb_.frozen 4
      obtain ⟨W, hW⟩ : ∃ W, (((((wr.setCell ⟨rb, 0, none⟩ (i64 v)).setCell ⟨rb, 1, none⟩ (i64 k)).setCell ⟨rb, 2, none⟩ (i64 l)).setCell ⟨rb, 3, none⟩ (i64 (modeOf (nums s)))).setCell ⟨rb, 4, none⟩ (.slice (some ⟨g, 0, none⟩) y c)) = W := ⟨_, rfl⟩
      have hB : Blk W rb 25 #[i64 v, i64 k, i64 l, i64 (modeOf (nums s)), .slice (some ⟨g, 0, none⟩) y c] := by rw [← hW]; exact (((((HQ.out.rb_.set_ 0 (i64 v)).set_ 1 (i64 k)).set_ 2 (i64 l)).set_ 3 (i64 (modeOf (nums s)))).set_ 4 (.slice (some ⟨g, 0, none⟩) y c))
      have hFW : Fr Nil w W := by
        rw [← hW]
        exact (((((hfr.setNew (by rw [HRB.out]; exact Nat.le_refl _) 0 (i64 v)).setNew (by rw [HRB.out]; exact Nat.le_refl _) 1 (i64 k)).setNew (by rw [HRB.out]; exact Nat.le_refl _) 2 (i64 l)).setNew (by rw [HRB.out]; exact Nat.le_refl _) 3 (i64 (modeOf (nums s)))).setNew (by rw [HRB.out]; exact Nat.le_refl _) 4 (.slice (some ⟨g, 0, none⟩) y c))
      have hFr : Fr (One rb) wr W := by
        rw [← hW]
        exact (((((Fr.refl _ _).set1 0 _).set1 1 _).set1 2 _).set1 3 _).set1 4 _
      have HBW := Lib.hid (show _ ∧ _ ∧ _ from ⟨hB, hFW, hFr⟩)
      have HWE := Lib.hid hW
      clear hB hFW hW hFr hfr
      have HGR := Lib.hid (show _ ∧ _ from ⟨hgr, fun j (hj : j < y) => (show R j ≠ rb from fun e => HQ.out.rb_.row_ne (HRQ.out.2.row j hj) (by decide) e.symm)⟩)
      clear hgr
      go_wp2_with fail
      refine HH.out.mono ?_
      rintro e w4 ⟨rfl, rfl⟩
      go_wp2_with fail
      rw [HWE.out]
      obtain ⟨hB, hFW, hFr⟩ := HBW.out
      have x0 := hB.cell 0
      have x1 := hB.cell 1
      have x2 := hB.cell 2
      have x3 := hB.cell 3
      have x4 := hB.cell 4
      refine bodyPost_ret (v := .tuple #[.agg #[i64 v, i64 k, i64 l, i64 (modeOf (nums s)), .slice (some ⟨g, 0, none⟩) y c], .bool true]) (by simp [results, Tryz.results6, go_sem, x0, x1, x2, x3, x4]) rfl ⟨g, c, v, k, R, raw, es, ?_⟩
      rw [HN.out]
      exact ⟨rfl, HC.out.1, HC.out.2, HRQ.out.1, ⟨fun j hj => hFr.cell_some (HRQ.out.2.top j hj) HGR.out.1, fun j hj => rowFr (HRQ.out.2.row j hj) hFr (HGR.out.2 j hj)⟩, hFW⟩
    | succ q =>
      have hyz : (y : Int) < (n : Int) := by have := HY.out; omega
      have hyn : y < n := by omega
      have HWI := Lib.hid (width_calls HQ.out.bm)
      have hmk := mkBools n (by omega) wr
      obtain ⟨A, hA⟩ : ∃ A, wr.heap.size = A := ⟨_, rfl⟩
      have HNR := Lib.hid (show _ ∧ _ from ⟨World.rowIs_made wr (.bool false) n 4, (Fr.refl Nil wr).alloc (.cells (madeCells #[.bool false] n) 4)⟩)
      have HA := Lib.hid hA
      rw [hA] at hmk HNR
      clear hA
      go_wp2_with fail
      refine HH.out.mono ?_
      rintro e w4 ⟨rfl, rfl⟩
      go_wp2_with fail
      refine HWI.out.mono ?_
      rintro e w4 ⟨rfl, rfl⟩
      go_wp2_with fail
      clear hmk HH HWI
      go_loopg [17, 64] n (fun p s17 s64 wz => ∃ x : Nat, Hid (x + p = n) ∧ s64 = .int .i64 x ∧ Hid (wz.rowIs A 4 n (fun i => .bool (if i < x then symB v l k (bitsOf (rawW l v raw es)) y i else false))) ∧ Hid (Fr Nil wr wz))
      case atStart => exact ⟨0, Lib.hid (by omega), rfl, Lib.hid (HNR.out.1.congr (fun i _ => by simp)), Lib.hid HNR.out.2⟩
      case round =>
        clear HNR
        obtain ⟨x, HX, rfl, HR, HF⟩ := hrel
        cases gk with
        | zero =>
          have hxz : ¬ (x : Int) < (n : Int) := by have := HX.out; omega
          have hxn : x = n := by have := HX.out; omega
          have HQ2 := Lib.hid (HQ.out.nil HF.out)
          obtain ⟨g2, cap2, w5, hap, c4, f4, hq5⟩ := HQ2.out.push (A := A) (by omega) (HR.out.congr (fun i hi => by rw [if_pos (by omega)]))
          have HAP := Lib.hid hap
          have HQ5 := Lib.hid hq5
          have b4 := HQ2.out.ob_.cell 4
          clear hap hq5 HR HF hxn
          go_wp2_with (at_builtin; refine Lib.wpList_append_run _ rfl _ _ _ _ rfl _ _ rfl rfl _ _ HAP.out ?_)
          go_roundg q
          case measure => omega
          case rel => exact ⟨y + 1, _, cap2, Lib.hid (by have := HY.out; omega), by go_num, HQ5⟩
        | succ p =>
          have hxz : (x : Int) < (n : Int) := by have := HX.out; omega
          have hxn : x < n := by omega
          have HG := Lib.hid (bmGet_calls (HQ.out.bm.nil HF.out) x y hxn hyn)
          have z0 := HR.out.frozen x
          have z1 := HR.out.cell hxn
          have hsy : symB v l k (bitsOf (rawW l v raw es)) y x = (M y x == 1) := by rw [HMM.out]
          have HN2 := Lib.hid (show _ ∧ _ from ⟨(HR.out.set x (.bool (M y x == 1))).congr (g := fun i => .bool (if i < x + 1 then symB v l k (bitsOf (rawW l v raw es)) y i else false)) (fun i hi => by
              by_cases e : i = x
              · rw [if_pos e, e, if_pos (by omega), hsy]
              · rw [if_neg e]
                by_cases h : i < x
                · rw [if_pos h, if_pos (by omega)]
                · rw [if_neg h, if_neg (by omega)]), HF.out.setNew (by rw [HA.out]; exact Nat.le_refl _) x (.bool (M y x == 1))⟩)
          rw [if_neg (by omega)] at z1
          clear HR HF hsy
          generalize M y x = mv at *
          go_wp2_with fail
          refine HG.out.mono ?_
          rintro e w5 ⟨rfl, rfl⟩
          go_wp2_with fail
          go_roundg p
          case measure => omega
          case rel => exact ⟨x + 1, Lib.hid (by have := HX.out; omega), by go_num, Lib.hid HN2.out.1, Lib.hid HN2.out.2⟩
end Go.Proofs.YtcekbhhpcmhicaaGreatDoor
