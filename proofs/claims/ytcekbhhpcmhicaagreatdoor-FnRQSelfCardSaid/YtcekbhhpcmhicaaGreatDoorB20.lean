/- DataBlock_GetDataBlocks 210. -/
import Derived.Test.YtcekbhhpcmhicaaGreatDoorB19
import Derived.Test.YtcekbhhpcmhicaaGreatDoorB18
set_option linter.unusedSimpArgs false
set_option linter.unusedVariables false
namespace Go.Proofs.YtcekbhhpcmhicaaGreatDoor
open Go Go.RowKit Go.Deep
set_option maxRecDepth 100000
theorem tab_facts {v l c d c2 : Nat} (hb : BlLaw v l c d c2) : cntBl (blOf v l) = c + c2 ∧ (∀ u (hu : u < (blOf v l).length), (∀ i, i < (blOf v l)[u].1 → (if cntBl ((blOf v l).take u) + i < c then d else d + 1) = (blOf v l)[u].2) ∧
    cntBl ((blOf v l).take (u + 1)) = cntBl ((blOf v l).take u) + (blOf v l)[u].1 ∧ cntBl ((blOf v l).take (u + 1)) ≤ c + c2) := by
  refine ⟨hb.n, fun u hu => ?_⟩
  rcases hb.tab with ⟨h, h2⟩ | ⟨h, h2⟩
  · generalize blOf v l = l0 at *
    subst h
    have : u = 0 := by simp at hu; exact hu
    subst this
    refine ⟨fun i hi => ?_, by simp [cntBl], by simp [cntBl]⟩
    have hi : i < c := hi
    show (if 0 + i < c then d else d + 1) = d
    rw [if_pos (by omega)]
  · generalize blOf v l = l0 at *
    subst h
    have : u = 0 ∨ u = 1 := by simp at hu; omega
    rcases this with rfl | rfl
    · refine ⟨fun i hi => ?_, by simp [cntBl], by simp [cntBl]⟩
      have hi : i < c := hi
      show (if 0 + i < c then d else d + 1) = d
      rw [if_pos (by omega)]
    · refine ⟨fun i hi => ?_, by simp [cntBl], by simp [cntBl]⟩
      show (if c + 0 + i < c then d else d + 1) = d + 1
      rw [if_neg (by omega)]
set_option maxHeartbeats 6400000 in
theorem getDB_calls {w : World} {lo hi vp v gb l c d c2 : Nat} {raw : List Nat} (hv : VerAt w lo hi vp v) (hrow : w.rowIs gb 5 (tot v) (fun i => u8 (raw.getD i 0))) (hlv : l < 4) (hb : BlLaw v (lvIdx l) c d c2) :
    Calls Tryz.prog 210 #[.slice (some ⟨gb, 0, none⟩) (tot v) (tot v), .pointer (some ⟨vp, 0, none⟩), i64 l] w fun e w' => ∃ rb P B f, e = .returned (.tuple #[.slice (some ⟨rb, 0, none⟩) (c + c2 : Nat) (c + c2 : Nat), .nilIface]) ∧
      DB w' w.heap.size rb (c + c2) (c + c2) (fun j => dOf c d j + ecOf v (lvIdx l)) (dOf c d) P B f ∧ (∀ j i, j < c + c2 → i < dOf c d j + ecOf v (lvIdx l) → f j i = cwAt raw d c (c + c2) j i) ∧ Fr Nil w w' := by
  have HVT := Lib.hid (verTotal_calls hv)
  have HGE := Lib.hid (getEC_calls hv l hlv)
  obtain ⟨hcn, htf⟩ := tab_facts hb
  have hsm := (ver_small hv.v1 hv.v2 (lvIdx l)).1
  have hT := (ver_tot hv.v1 hv.v2 (lvIdx_lt l)).2
  have hE1 := hb.e1
  have hE2 := hb.e2
  have hTE := hb.T
  have hd1 := hb.d1
  have hd2 := hb.d2
  have hc1 := hb.c1
  have hn2 := hb.n2
  clear hv hb
  generalize tot v = T at *
  generalize hEE : ecOf v (lvIdx l) = E at *
  obtain ⟨nb, hnb⟩ : ∃ nb, c + c2 = nb := ⟨_, rfl⟩
  rw [hnb] at hcn htf hn2 hTE ⊢
  have hcnb : c ≤ nb := by omega
  have HTE : Hid (T = d * nb + (nb - c) + E * nb) := Lib.hid (by rw [hTE, Nat.mul_add, Nat.mul_comm nb d, Nat.mul_comm nb E]; omega)
  clear hnb hTE
  have HOFF := Lib.hid (show ∀ j i, j < nb → i < dOf c d j + E → offAt d c nb j i < T from fun j i hj hi => by rw [HTE.out]; exact off_lt hcnb hj hi)
  have HEND := Lib.hid (show ∀ f : Nat → Nat → Nat, Fil d c nb raw f T → ∀ j i, j < nb → i < dOf c d j + E → f j i = cwAt raw d c nb j i from fun f hf j i hj hi => by rw [hf j i hj (HOFF.out j i hj hi), cwAt_off])
  go_enter Tryz.func210, Tryz.ntmps210
  go_wp2_with fail
  refine HVT.out.mono ?_
  rintro e w1 ⟨rfl, rfl⟩
  go_wp2_with fail
  refine HGE.out.mono ?_
  rintro e w1 ⟨ge, og, rfl, ⟨-, -, -, c0, -, -, b, c1, hbk, -, -⟩, rfl⟩
  rw [hEE] at c0
  clear HVT HGE hEE
  generalize blOf v (lvIdx l) = l0 at *
  obtain ⟨NL, hNL⟩ : ∃ NL, l0.length = NL := ⟨_, rfl⟩
  have HNL := Lib.hid hNL
  have hlen := hsm.len
  rw [hNL] at c1 hlen
  have HTF := Lib.hid htf
  have HSM := Lib.hid hsm
  have HBK := Lib.hid hbk
  have HC0 := Lib.hid c0
  have HROW := Lib.hid hrow
  have HCN := Lib.hid hcn
  clear htf hsm hbk hNL hrow c0 hcn
  go_wp2_with fail
  refine (ecBlocks_calls ge og _ _ c1).mono ?_
  rintro e w1 ⟨rfl, rfl⟩
  clear c1
  go_wp2_with fail
  go_loopg [9, 45] NL (fun r s9 s45 wr => ∃ j t : Nat, Hid (j + r = NL ∧ t = cntBl (l0.take j)) ∧ s45 = .int .i64 j ∧ s9 = .int .i64 t ∧ Hid (Fr Nil w wr))
  case atStart => exact ⟨0, 0, Lib.hid ⟨by omega, rfl⟩, rfl, rfl, Lib.hid (Fr.refl _ _)⟩
  case round =>
    obtain ⟨j, t, HJ, rfl, rfl, HF⟩ := hrel
    cases gk with
    | zero =>
      have ht : t = nb := by
        have h := HJ.out
        rw [List.take_of_length_le (by rw [HNL.out]; omega)] at h
        rw [h.2]; exact HCN.out
      have hj : ¬ (j : Int) < (NL : Int) := by have := HJ.out; omega
      subst ht
      obtain ⟨nb, hnb⟩ : ∃ nb, nb = t := ⟨_, rfl⟩
      subst hnb
      have hmk := mkDBs nb (by omega) wr
      have HF1 := Lib.hid (HF.out.alloc (.cells (madeCells #[.pointer none] nb) 340))
      have HDB0 := Lib.hid (DB.new wr w.heap.size nb (fun j => dOf c d j + E) (dOf c d) (fun _ => 0) (fun _ => 0) (fun _ _ => 0) HF.out.size)
      have HRB := Lib.hid (show w.heap.size ≤ wr.heap.size from HF.out.size)
      obtain ⟨rb, hrb⟩ : ∃ rb, wr.heap.size = rb := ⟨_, rfl⟩
      rw [hrb] at hmk HDB0 HRB
      clear hrb HF HJ
      go_wp2_with fail
      clear hmk
      go_loopg [14, 16, 17, 58] NL (fun r s14 s16 s17 s58 wq => ∃ j k : Nat, Hid (j + r = NL ∧ k = cntBl (l0.take j)) ∧ s58 = .int .i64 j ∧ s14 = .int .i64 k ∧ Hid (∃ P B f, DB wq w.heap.size rb nb k (fun j => dOf c d j + E) (dOf c d) P B f) ∧ Hid (Fr Nil w wq))
      case atStart => exact ⟨0, 0, Lib.hid ⟨by omega, rfl⟩, rfl, rfl, Lib.hid ⟨_, _, _, HDB0.out⟩, HF1⟩
      case round =>
        clear HDB0 HF1
        obtain ⟨j2, k, HJ, rfl, rfl, HD, HF⟩ := hrel
        cases gk with
        | zero =>
          have hjz : ¬ (j2 : Int) < (NL : Int) := by have := HJ.out; omega
          have hk : k = nb := by
            have h := HJ.out
            rw [List.take_of_length_le (by rw [HNL.out]; omega)] at h
            rw [h.2]; exact HCN.out
          subst hk
          obtain ⟨P, B, f, hdb⟩ := HD.out
          have HDB := Lib.hid hdb
          obtain ⟨S, hS⟩ : ∃ S, d + E = S := ⟨_, rfl⟩
          have hS2 : S ≤ 300 := by omega
          have HSE := Lib.hid hS
          have HL0 := Lib.hid (show ∀ j, j < c → dOf c d j + E = S from fun j hj => by rw [← hS]; unfold dOf; rw [if_pos hj])
          have HL1 := Lib.hid (show ∀ j, c ≤ j → dOf c d j + E = S + 1 from fun j hj => by rw [← hS]; unfold dOf; rw [if_neg (by omega)]; omega)
          have hk1 : 1 ≤ k := by omega
          have HC := Lib.hid (show ∀ wz : World, (∃ f, DB wz w.heap.size rb k k (fun j => dOf c d j + E) (dOf c d) P B f) → ∀ j, j < k → wz.cell? ⟨rb, j, none⟩ = some (.pointer (some ⟨P j, 0, none⟩)) ∧ wz.cell? ⟨P j, 1, none⟩ = some (.slice (some ⟨B j, 0, none⟩) (dOf c d j + E) (dOf c d j + E)) from fun wz ⟨f, h⟩ j hj => by
            have h1 := h.row.cell hj
            rw [if_pos hj] at h1
            exact ⟨h1, (h.blk j hj).cell 1⟩)
          obtain ⟨r0, p0⟩ := HC.out wr ⟨_, hdb⟩ 0 (by omega)
          rw [HL0.out 0 (by omega)] at p0
          have HFr := HF
          clear hdb hS HD HJ
          go_wp2_with fail
          clear r0 p0
          go_loopg [21, 22] (k - c) (fun r s21 s22 wz => ∃ u : Nat, Hid (u + 1 = c + r ∧ u < k) ∧ s21 = .int .i64 u ∧ wz = wr)
          case atStart => exact ⟨k - 1, Lib.hid (by omega), by go_num, rfl⟩
          case round =>
            obtain ⟨u, HU, rfl, rfl⟩ := hrel
            obtain ⟨r0, p0⟩ := HC.out wr ⟨_, HDB.out⟩ u HU.out.2
            cases gk with
            | succ r =>
              rw [HL1.out u (by have := HU.out; omega)] at p0
              obtain ⟨S1, hS1⟩ : ∃ S1, S + 1 = S1 := ⟨_, rfl⟩
              rw [hS1] at p0
              have hne : ((S1 : Int) == (S : Int)) = false := by rw [beq_eq_false_iff_ne]; omega
              clear hS1
              have hu1 : 1 ≤ u := by have := HU.out; omega
              have huk := HU.out.2
              go_wp2_with fail
              go_roundg r
              case measure => omega
              case rel => exact ⟨u - 1, Lib.hid (by have := HU.out; omega), by go_num, rfl⟩
            | zero =>
              rw [HL0.out u (by have := HU.out; omega)] at p0
              have huk := HU.out.2
              have huc : (u : Int) + 1 = (c : Int) := by have := HU.out; omega
              have hsd : IntKind.i64.wrap ((S : Int) - (E : Int)) = (d : Int) := by
                rw [show (S : Int) - (E : Int) = (d : Int) from by have := HSE.out; omega]
                exact IntWalk.i64_in _ (by omega)
              have c0 := HF.out.cell_some HC0.out (fun e => e)
              go_wp2_with fail
              clear r0 p0
              refine (ecPer_calls ge og _ _ c0).mono ?_
              rintro e w3 ⟨rfl, rfl⟩
              clear c0
              go_wp2_with fail
              clear hsd huc huk HU
              have HX := Lib.hid (show ∀ wz : World, (∃ f, DB wz w.heap.size rb k k (fun j => dOf c d j + E) (dOf c d) P B f) → ∀ j i, j < k → wz.frozen? ⟨B j, i, none⟩ = false ∧ (i < dOf c d j + E → ∃ x : Nat, wz.cell? ⟨B j, i, none⟩ = some (u8 x)) from fun wz ⟨f, h⟩ j i hj => ⟨(h.dat j hj).frozen i, fun hi => ⟨_, (h.dat j hj).cell hi⟩⟩)
              have HRW := Lib.hid (show ∀ wz : World, Fr Nil w wz → ∀ o, o < T → wz.cell? ⟨gb, o, none⟩ = some (u8 (raw.getD o 0)) from fun wz hf o ho => (rowFr HROW.out hf (fun e => e)).cell ho)
              go_loopg [24, 25, 26] d (fun r s24 s25 s26 wz => ∃ i o : Nat, Hid (i + r = d ∧ o = i * k) ∧ s25 = .int .i64 i ∧ s24 = .int .i64 o ∧ Hid (∃ f, DB wz w.heap.size rb k k (fun j => dOf c d j + E) (dOf c d) P B f ∧ Fil d c k raw f o) ∧ Hid (Fr Nil w wz))
              case atStart => exact ⟨0, 0, Lib.hid (by simp), rfl, rfl, Lib.hid ⟨_, HDB.out, Fil.zero _ _ _ _ _⟩, HF⟩
              case round =>
                clear HDB HF HFr
                obtain ⟨i, o, HI, rfl, rfl, HD, HF⟩ := hrel
                cases gk with
                | zero =>
                  have hid : ¬ (i : Int) < (d : Int) := by have := HI.out; omega
                  have ho : o = d * k := by have h := HI.out; rw [show i = d by omega] at h; exact h.2
                  have HOD := Lib.hid ho
                  clear ho
                  go_wp2_with fail
                  go_loopg [24, 27] (k - c) (fun r s24 s27 wz => ∃ j p : Nat, Hid (j + r = k ∧ c ≤ j ∧ p = o + (j - c)) ∧ s27 = .int .i64 j ∧ s24 = .int .i64 p ∧ Hid (∃ f, DB wz w.heap.size rb k k (fun j => dOf c d j + E) (dOf c d) P B f ∧ Fil d c k raw f p) ∧ Hid (Fr Nil w wz))
                  case atStart => exact ⟨c, o, Lib.hid (by omega), rfl, rfl, HD, HF⟩
                  case round =>
                    clear HD HF
                    obtain ⟨j3, p, HJ3, rfl, rfl, HD, HF⟩ := hrel
                    cases gk with
                    | succ r3 =>
                      have hjk : (j3 : Int) < (k : Int) := by have := HJ3.out; omega
                      have hjn : j3 < k := by omega
                      have hi2 : d < dOf c d j3 + E := by unfold dOf; split <;> omega
                      have hoff : offAt d c k j3 d = p := by
                        unfold offAt
                        rw [if_neg (by omega), if_neg (by have := HJ3.out; omega), if_pos rfl]
                        have := HOD.out; have := HJ3.out; omega
                      have hpT : p < T := by rw [← hoff]; exact HOFF.out j3 d hjn hi2
                      obtain ⟨f2, hd2', hfil⟩ := HD.out
                      obtain ⟨r0, p0⟩ := HC.out _ ⟨_, hd2'⟩ j3 hjn
                      obtain ⟨z0, z1⟩ := HX.out _ ⟨_, hd2'⟩ j3 d hjn
                      obtain ⟨xx, z2⟩ := z1 hi2
                      have w0 := HRW.out _ HF.out p hpT
                      have HST := Lib.hid (show _ ∧ _ ∧ _ from ⟨hd2'.store j3 d (raw.getD p 0) hjn, hfil.step hcnb j3 d hjn hoff, HF.out.setNew (hd2'.loB j3 hjn) d (u8 (raw.getD p 0))⟩)
                      generalize dOf c d j3 + E = LL at *
                      generalize raw.getD p 0 = xv at *
                      generalize B j3 = bj at *
                      generalize P j3 = pj at *
                      clear hd2' hfil HD HF z1 hoff
                      go_wp2_with fail
                      go_region
                      all_goals
                        go_wp2_with fail
                        go_roundg r3
                        case measure => omega
                        case rel => exact ⟨j3 + 1, p + 1, Lib.hid (by have := HJ3.out; omega), by go_num, by go_num, Lib.hid ⟨_, HST.out.1.fr (Fr.refl Nil _).drew (fun _ _ _ e => e), HST.out.2.1⟩, Lib.hid HST.out.2.2.drew⟩
                    | zero =>
                      have hjk : ¬ (j3 : Int) < (k : Int) := by have := HJ3.out; omega
                      have HPD : Hid (p = d * k + (k - c)) := Lib.hid (by have := HJ3.out; have := HOD.out; omega)
                      obtain ⟨f3, hd3, _⟩ := HD.out
                      obtain ⟨r0, p0⟩ := HC.out _ ⟨_, hd3⟩ 0 (by omega)
                      rw [HL0.out 0 (by omega)] at p0
                      clear hd3
                      go_wp2_with fail
                      clear r0 p0
                      go_loopg [24, 29, 30, 31] E (fun r s24 s29 s30 s31 wz => ∃ i o : Nat, Hid (i + r = S ∧ d ≤ i ∧ o = p + (i - d) * k) ∧ s29 = .int .i64 i ∧ s24 = .int .i64 o ∧ Hid (∃ f, DB wz w.heap.size rb k k (fun j => dOf c d j + E) (dOf c d) P B f ∧ Fil d c k raw f o) ∧ Hid (Fr Nil w wz))
                      case atStart => exact ⟨d, p, Lib.hid (by have := HSE.out; simp; omega), rfl, rfl, HD, HF⟩
                      case round =>
                        clear HD HF HI HJ3
                        obtain ⟨i, o, HI, rfl, rfl, HD, HF⟩ := hrel
                        cases gk with
                        | zero =>
                          have hiS : ¬ (i : Int) < (S : Int) := by have := HI.out; omega
                          have hoT : o = T := by
                            have h := HI.out
                            rw [show i - d = E by have := HSE.out; omega] at h
                            rw [h.2.2, HPD.out, HTE.out]
                          go_wp2_with fail
                          go_ret2
                          obtain ⟨f3, h3, h4⟩ := HD.out
                          exact ⟨rb, rfl, P, B, f3, h3, HEND.out f3 (by rw [← hoT]; exact h4), HF.out⟩
                        | succ r =>
                          have hiS : (i : Int) < (S : Int) := by have := HI.out; omega
                          have hi300 : i ≤ 300 := by omega
                          go_wp2_with fail
                          go_loopg [24, 30, 31] k (fun r s24 s30 s31 wz => ∃ j q : Nat, Hid (j + r = k ∧ q = o + j) ∧ s30 = .int .i64 j ∧ s24 = .int .i64 q ∧ Hid (∃ f, DB wz w.heap.size rb k k (fun j => dOf c d j + E) (dOf c d) P B f ∧ Fil d c k raw f q) ∧ Hid (Fr Nil w wz))
                          case atStart => exact ⟨0, o, Lib.hid (by simp), rfl, rfl, HD, HF⟩
                          case round =>
                            clear HD HF
                            obtain ⟨j3, q, HJ3, rfl, rfl, HD, HF⟩ := hrel
                            cases gk with
                            | zero =>
                              have hjk : ¬ (j3 : Int) < (k : Int) := by have := HJ3.out; omega
                              go_wp2_with fail
                              go_roundg r
                              case measure => omega
                              case rel => exact ⟨i + 1, q, Lib.hid ⟨by have := HI.out; omega, by have := HI.out; omega, by have h := HJ3.out; have h2 := HI.out; rw [show i + 1 - d = (i - d) + 1 by omega, Nat.add_mul]; omega⟩, by go_num, rfl, HD, HF⟩
                            | succ r3 =>
                              have hjk : (j3 : Int) < (k : Int) := by have := HJ3.out; omega
                              have hjn : j3 < k := by omega
                              by_cases hjc : c ≤ j3
                              · have hi2 : i + 1 < dOf c d j3 + E := by have := HI.out; have := HSE.out; unfold dOf; split <;> omega
                                have hoff : offAt d c k j3 (i + 1) = q := by
                                  unfold offAt
                                  have := HI.out; have := HJ3.out; have := HPD.out
                                  rw [if_neg (by omega), if_neg (by omega), if_neg (by omega), show i + 1 - 1 - d = i - d by omega]
                                  omega
                                have hpT : q < T := by rw [← hoff]; exact HOFF.out j3 (i + 1) hjn hi2
                                obtain ⟨f2, hd2', hfil⟩ := HD.out
                                obtain ⟨r0, p0⟩ := HC.out _ ⟨_, hd2'⟩ j3 hjn
                                obtain ⟨z0, z1⟩ := HX.out _ ⟨_, hd2'⟩ j3 (i + 1) hjn
                                obtain ⟨xx, z2⟩ := z1 hi2
                                have w0 := HRW.out _ HF.out q hpT
                                have HST := Lib.hid (show _ ∧ _ ∧ _ from ⟨hd2'.store j3 (i + 1) (raw.getD q 0) hjn, hfil.step hcnb j3 (i + 1) hjn hoff, HF.out.setNew (hd2'.loB j3 hjn) (i + 1) (u8 (raw.getD q 0))⟩)
                                generalize dOf c d j3 + E = LL at *
                                generalize raw.getD q 0 = xv at *
                                generalize B j3 = bj at *
                                generalize P j3 = pj at *
                                clear hd2' hfil HD HF z1 hoff
                                have hjz2 : (c : Int) ≤ (j3 : Int) := by omega
                                go_wp2_with fail
                                go_region
                                all_goals
                                  go_wp2_with fail
                                  go_roundg r3
                                  case measure => omega
                                  case rel => exact ⟨j3 + 1, q + 1, Lib.hid (by have := HJ3.out; omega), by go_num, by go_num, Lib.hid ⟨_, HST.out.1.fr (Fr.refl Nil _).drew (fun _ _ _ e => e), HST.out.2.1⟩, Lib.hid HST.out.2.2.drew⟩
                              · have hi2 : i < dOf c d j3 + E := by have := HI.out; have := HSE.out; unfold dOf; split <;> omega
                                have hoff : offAt d c k j3 (i) = q := by
                                  unfold offAt
                                  have := HI.out; have := HJ3.out; have := HPD.out
                                  rw [if_neg (by omega), if_pos (by omega)]
                                  omega
                                have hpT : q < T := by rw [← hoff]; exact HOFF.out j3 (i) hjn hi2
                                obtain ⟨f2, hd2', hfil⟩ := HD.out
                                obtain ⟨r0, p0⟩ := HC.out _ ⟨_, hd2'⟩ j3 hjn
                                obtain ⟨z0, z1⟩ := HX.out _ ⟨_, hd2'⟩ j3 (i) hjn
                                obtain ⟨xx, z2⟩ := z1 hi2
                                have w0 := HRW.out _ HF.out q hpT
                                have HST := Lib.hid (show _ ∧ _ ∧ _ from ⟨hd2'.store j3 (i) (raw.getD q 0) hjn, hfil.step hcnb j3 (i) hjn hoff, HF.out.setNew (hd2'.loB j3 hjn) (i) (u8 (raw.getD q 0))⟩)
                                generalize dOf c d j3 + E = LL at *
                                generalize raw.getD q 0 = xv at *
                                generalize B j3 = bj at *
                                generalize P j3 = pj at *
                                clear hd2' hfil HD HF z1 hoff
                                have hjz2 : ¬ (c : Int) ≤ (j3 : Int) := by omega
                                go_wp2_with fail
                                go_region
                                all_goals
                                  go_wp2_with fail
                                  go_roundg r3
                                  case measure => omega
                                  case rel => exact ⟨j3 + 1, q + 1, Lib.hid (by have := HJ3.out; omega), by go_num, by go_num, Lib.hid ⟨_, HST.out.1.fr (Fr.refl Nil _).drew (fun _ _ _ e => e), HST.out.2.1⟩, Lib.hid HST.out.2.2.drew⟩
                | succ r =>
                  have hid : (i : Int) < (d : Int) := by have := HI.out; omega
                  go_wp2_with fail
                  go_loopg [24, 26] k (fun r s24 s26 wz => ∃ j p : Nat, Hid (j + r = k ∧ p = o + j) ∧ s26 = .int .i64 j ∧ s24 = .int .i64 p ∧ Hid (∃ f, DB wz w.heap.size rb k k (fun j => dOf c d j + E) (dOf c d) P B f ∧ Fil d c k raw f p) ∧ Hid (Fr Nil w wz))
                  case atStart => exact ⟨0, o, Lib.hid (by simp), rfl, rfl, HD, HF⟩
                  case round =>
                    clear HD HF
                    obtain ⟨j3, p, HJ3, rfl, rfl, HD, HF⟩ := hrel
                    cases gk with
                    | zero =>
                      have hjk : ¬ (j3 : Int) < (k : Int) := by have := HJ3.out; omega
                      go_wp2_with fail
                      go_roundg r
                      case measure => omega
                      case rel => exact ⟨i + 1, p, Lib.hid ⟨by have := HI.out; omega, by have h := HJ3.out; rw [Nat.add_mul]; have := HI.out; omega⟩, by go_num, rfl, HD, HF⟩
                    | succ r3 =>
                      have hjk : (j3 : Int) < (k : Int) := by have := HJ3.out; omega
                      have hjn : j3 < k := by omega
                      have hi2 : i < dOf c d j3 + E := by have := HI.out; unfold dOf; split <;> omega
                      have hoff : offAt d c k j3 i = p := by
                        unfold offAt
                        rw [if_pos (by have := HI.out; omega)]
                        have := HI.out; have := HJ3.out; omega
                      have hpT : p < T := by rw [← hoff]; exact HOFF.out j3 i hjn hi2
                      obtain ⟨f2, hd2', hfil⟩ := HD.out
                      obtain ⟨r0, p0⟩ := HC.out _ ⟨_, hd2'⟩ j3 hjn
                      obtain ⟨z0, z1⟩ := HX.out _ ⟨_, hd2'⟩ j3 i hjn
                      obtain ⟨xx, z2⟩ := z1 hi2
                      have w0 := HRW.out _ HF.out p hpT
                      have HST := Lib.hid (show _ ∧ _ ∧ _ from ⟨hd2'.store j3 i (raw.getD p 0) hjn, hfil.step hcnb j3 i hjn hoff, HF.out.setNew (hd2'.loB j3 hjn) i (u8 (raw.getD p 0))⟩)
                      generalize dOf c d j3 + E = LL at *
                      generalize raw.getD p 0 = xv at *
                      generalize B j3 = bj at *
                      generalize P j3 = pj at *
                      clear hd2' hfil HD HF z1 hoff
                      go_wp2_with fail
                      go_region
                      all_goals
                        go_wp2_with fail
                        go_roundg r3
                        case measure => omega
                        case rel => exact ⟨j3 + 1, p + 1, Lib.hid (by have := HJ3.out; omega), by go_num, by go_num, Lib.hid ⟨_, HST.out.1.fr (Fr.refl Nil _).drew (fun _ _ _ e => e), HST.out.2.1⟩, Lib.hid HST.out.2.2.drew⟩
        | succ r =>
          have hj : j2 < l0.length := by have := HJ.out; have := HNL.out; omega
          have hjz : (j2 : Int) < (NL : Int) := by have := HJ.out; omega
          have hbr := HBK.out.fr HF.out (fun e => e)
          obtain ⟨g1, g2⟩ := blCells_get l0 j2 hj
          have d0 : wr.cell? ⟨b, j2 * 2, none⟩ = some (i64 l0[j2].1) := by rw [hbr.cell, List.getElem?_toArray, Nat.mul_comm]; exact g1
          have d1 : wr.cell? ⟨b, j2 * 2 + 1, none⟩ = some (i64 l0[j2].2) := by rw [hbr.cell, List.getElem?_toArray, Nat.mul_comm]; exact g2
          have hsm := HSM.out.small l0[j2] (List.getElem_mem hj)
          obtain ⟨x, hx⟩ : ∃ a, a = l0[j2].1 := ⟨_, rfl⟩
          obtain ⟨y, hy⟩ : ∃ a, a = l0[j2].2 := ⟨_, rfl⟩
          have htf := HTF.out j2 hj
          rw [← hx, ← hy, ← HJ.out.2] at htf
          have HTX := Lib.hid htf
          have hkx : k + x ≤ nb := by have := htf.2.1; have := htf.2.2; omega
          rw [← hx] at d0 hsm
          rw [← hy] at d1 hsm
          have HEB := Lib.hid (show _ ∧ _ from ⟨Blk.new wr 211 #[i64 x, i64 y], (Fr.refl Nil wr).alloc (.cells #[i64 x, i64 y] 211)⟩)
          obtain ⟨eb, heb⟩ : ∃ eb, wr.heap.size = eb := ⟨_, rfl⟩
          rw [heb] at HEB
          clear hx hy g1 g2 hbr htf
          go_wp2_with fail
          clear d0 d1
          go_loopg [14, 17, 18, 19] x (fun r3 s14 s17 s18 s19 wz => ∃ i m : Nat, Hid (i + r3 = x ∧ m = k + i) ∧ s17 = .int .i64 i ∧ s14 = .int .i64 m ∧ Hid (∃ P B f, DB wz w.heap.size rb nb m (fun j => dOf c d j + E) (dOf c d) P B f) ∧ Hid (Blk wz eb 211 #[i64 x, i64 y]) ∧ Hid (Fr Nil w wz))
          case atStart => exact ⟨0, k, Lib.hid (by omega), rfl, rfl, Lib.hid (by obtain ⟨P, B, f, h⟩ := HD.out; exact ⟨P, B, f, h.fr HEB.out.2 (fun _ _ _ e => e)⟩), Lib.hid HEB.out.1, Lib.hid (HF.out.trans HEB.out.2)⟩
          case round =>
            clear HEB HD HF
            obtain ⟨i, m, HI, rfl, rfl, HD, HEB, HF⟩ := hrel
            have e0 := HEB.out.cell 0
            have e1 := HEB.out.cell 1
            cases gk with
            | zero =>
              have hiz : ¬ (i : Int) < (x : Int) := by have := HI.out; omega
              go_wp2_with fail
              refine (ecbCount_calls _ _ _).mono ?_
              rintro e w1 ⟨rfl, rfl⟩
              go_wp2_with fail
              go_roundg r
              case measure => omega
              case rel => exact ⟨j2 + 1, m, Lib.hid ⟨by have := HJ.out; omega, by have := HI.out; rw [HTX.out.2.1]; omega⟩, by go_num, rfl, Lib.hid (by obtain ⟨P, B, f, h⟩ := HD.out; exact ⟨P, B, f, h.fr ((Fr.refl Nil _).alloc _) (fun _ _ _ e => e)⟩), Lib.hid (HF.out.alloc _)⟩
            | succ r3 =>
              have hiz : (i : Int) < (x : Int) := by have := HI.out; omega
              have hmn : m < nb := by have := HI.out; omega
              have hdo : dOf c d m = y := by
                have h := HTX.out.1 i (by have := HI.out; omega)
                rw [← h, HI.out.2]; rfl
              have HDO := Lib.hid hdo
              obtain ⟨S, hS⟩ : ∃ S, y + E = S := ⟨_, rfl⟩
              have hsum : (E : Int) + (y : Int) = (S : Int) := by omega
              have hS2 : S ≤ 300 := by omega
              have HSE := Lib.hid hS
              clear hdo hS
              go_wp2_with fail
              refine (ecbCount_calls _ _ _).mono ?_
              rintro e w1 ⟨rfl, hw⟩
              have hf1 : Fr Nil wr w1 := by rw [← hw]; exact (Fr.refl Nil _).alloc _
              clear e0 e1 hw
              have e0 := (HEB.out.fr hf1 (fun e => e)).cell 0
              have e1 := (HEB.out.fr hf1 (fun e => e)).cell 1
              have HF1 := Lib.hid hf1
              clear hf1
              go_wp2_with fail
              refine (ecbData_calls _ _ _).mono ?_
              rintro e w2 ⟨rfl, hw⟩
              have hf2 : Fr Nil wr w2 := by rw [← hw]; exact HF1.out.alloc _
              clear e0 e1 hw HF1
              have HF2 := Lib.hid hf2
              have HE2 := Lib.hid (HEB.out.fr hf2 (fun e => e))
              have HFw := Lib.hid (HF.out.trans hf2)
              obtain ⟨P, B, f, hdb⟩ := HD.out
              have HDB := Lib.hid (hdb.fr hf2 (fun _ _ _ e => e))
              clear hdb hf2 HD HEB HF HF2
              go_wp2_with fail
              refine (ecPer_calls ge og _ _ (HFw.out.cell_some HC0.out (fun e => e))).mono ?_
              rintro e w3 ⟨rfl, rfl⟩
              have hmk := mkBytes S (by omega) w2
              obtain ⟨A, hA⟩ : ∃ A, w2.heap.size = A := ⟨_, rfl⟩
              have HA := Lib.hid hA
              rw [hA] at hmk
              clear hA
              go_wp2_with fail
              clear hmk
              refine (newDB_calls _ _ _ _).mono ?_
              rintro e w4 ⟨rfl, hb4, hf4⟩
              have hq : (w2.alloc (.cells (madeCells #[.int .u8 0] S) 5)).heap.size = A + 1 := by rw [← HA.out]; simp
              rw [hq] at hb4 ⊢
              have hrw4 := (HDB.out.fr (((Fr.refl Nil w2).alloc (.cells (madeCells #[.int .u8 0] S) 5)).trans hf4) (fun _ _ _ e => e)).row
              have hzf := hrw4.frozen m
              have hzc := hrw4.cell hmn
              rw [if_neg (by omega)] at hzc
              clear hrw4
              have HPU := Lib.hid (HDB.out.push (w2 := w4) (q := A + 1) hmn (by rw [HDO.out, HSE.out]; exact hf4) (by rw [HDO.out, HSE.out, HA.out]; exact hb4) (by rw [HA.out]; omega))
              have HE4 := Lib.hid (((HE2.out.fr ((Fr.refl Nil w2).alloc (.cells (madeCells #[.int .u8 0] S) 5)) (fun e => e)).fr hf4 (fun e => e)).far (p := ⟨rb, m, none⟩) (by
                exact HE2.out.row_ne HDB.out.row (by decide)) (.pointer (some ⟨A + 1, 0, none⟩)))
              have HF4 := Lib.hid (Fr.setNew (((HFw.out.alloc (.cells (madeCells #[.int .u8 0] S) 5)).trans hf4)) HRB.out m (.pointer (some ⟨A + 1, 0, none⟩)))
              clear hb4 hf4 hq HDB HE2 HFw hsum
              go_wp2_with fail
              go_roundg r3
              case measure => omega
              case rel => exact ⟨i + 1, m + 1, Lib.hid (by have := HI.out; omega), by go_num, by go_num, Lib.hid ⟨_, _, _, HPU.out⟩, HE4, HF4⟩
    | succ r =>
      have hj : j < l0.length := by have := HJ.out; have := HNL.out; omega
      have hjz : (j : Int) < (NL : Int) := by have := HJ.out; omega
      have hbr := HBK.out.fr HF.out (fun e => e)
      obtain ⟨g1, g2⟩ := blCells_get l0 j hj
      have d0 : wr.cell? ⟨b, j * 2, none⟩ = some (i64 l0[j].1) := by rw [hbr.cell, List.getElem?_toArray, Nat.mul_comm]; exact g1
      have d1 : wr.cell? ⟨b, j * 2 + 1, none⟩ = some (i64 l0[j].2) := by rw [hbr.cell, List.getElem?_toArray, Nat.mul_comm]; exact g2
      have hsm := HSM.out.small l0[j] (List.getElem_mem hj)
      have ht : t ≤ 200 := by have := HSM.out.cnt j; have := HJ.out; omega
      obtain ⟨x, hx⟩ : ∃ a, a = l0[j].1 := ⟨_, rfl⟩
      obtain ⟨y, hy⟩ : ∃ a, a = l0[j].2 := ⟨_, rfl⟩
      rw [← hx] at d0 hsm
      rw [← hy] at d1 hsm
      have HAB := Lib.hid hx
      clear hx hy g1 g2 hbr
      go_wp2_with (go_at_call 121; refine (ecbCount_calls _ _ _).mono ?_; rintro e w1 ⟨rfl, rfl⟩)
      go_roundg r
      case measure => omega
      case rel =>
        refine ⟨j + 1, t + x, Lib.hid ⟨by have := HJ.out; omega, ?_⟩, by go_num, by go_num, Lib.hid ((HF.out.alloc _).alloc _)⟩
        rw [List.take_succ_eq_append_getElem hj, cntBl_snoc, ← HAB.out, ← HJ.out.2]
end Go.Proofs.YtcekbhhpcmhicaaGreatDoor
/- Version.buildFunctionPattern. -/
namespace Go.Proofs.YtcekbhhpcmhicaaGreatDoor
open Go Go.RowKit Go.Deep
set_option maxRecDepth 100000
theorem newSquare_calls (w : World) (n : Nat) (h1 : 1 ≤ n) (h2 : n ≤ 200) :
    Calls Tryz.prog 269 #[i64 n] w fun e w' => e = .returned (.tuple #[.pointer (some ⟨w.heap.size + 1, 0, none⟩), .nilIface]) ∧ QM w' (w.heap.size + 1) w.heap.size n noB ∧ Fr Nil w w' ∧ w'.heap.size = w.heap.size + 2 := by
  have H := Lib.hid (newQM_calls w n h1 h2)
  go_enter Tryz.func269, Tryz.ntmps269
  go_wp2_with fail
  refine H.out.mono ?_
  rintro e w1 ⟨rfl, hr⟩
  have HR := Lib.hid hr
  clear hr
  go_wp2_with fail
  go_ret2
  exact ⟨rfl, HR.out⟩
theorem setRegion' {w0 w : World} {p g n : Nat} {B : Nat → Nat → Bool} (h : QM w p g n B) (hf : Fr Nil w0 w) (hg : w0.heap.size ≤ g) (l t ww hh : Nat) (L T W' H' : Int) (h1 : 1 ≤ ww) (h2 : 1 ≤ hh) (hl : l + ww ≤ n) (ht : t + hh ≤ n) (eL : L = l) (eT : T = t) (eW : W' = ww) (eH : H' = hh) :
    Calls Tryz.prog 270 #[.pointer (some ⟨p, 0, none⟩), .int .i64 L, .int .i64 T, .int .i64 W', .int .i64 H'] w fun e w' => e = .returned .nilIface ∧ QM w' p g n (reg l t ww hh B) ∧ Fr Nil w0 w' := by
  subst eL eT eW eH
  refine (setRegion_calls h l t ww hh h1 h2 hl ht).mono ?_
  rintro e w' ⟨rfl, a, b⟩
  exact ⟨rfl, a, hf.trans' b (fun k hk e => by have : k = g := e; omega)⟩
set_option maxHeartbeats 3200000 in
theorem fpat_calls {w : World} {lo hi pv v : Nat} (h : VerAt w lo hi pv v) :
    Calls Tryz.prog 238 #[.pointer (some ⟨pv, 0, none⟩)] w fun e w' => ∃ p g, e = .returned (.tuple #[.pointer (some ⟨p, 0, none⟩), .nilIface]) ∧ QM w' p g (17 + 4 * v) (fpM v) ∧ w.heap.size ≤ p ∧ w.heap.size ≤ g ∧ Fr Nil w w' := by
  have hv1 := h.v1
  have hv2 := h.v2
  have HD := Lib.hid (verDim_calls h)
  obtain ⟨⟨cb, eb, s1, s2, _⟩, _⟩ := h
  have HK := Lib.hid (fun (w' : World) (hf : Fr Nil w w') => (show w'.cell? ⟨pv, 0, none⟩ = some (i64 v) ∧ w'.cell? ⟨pv, 1, none⟩ = some (sl cb (cen v).length) from
    ⟨by rw [hf.cell s1.lt (fun e => e)]; simpa using s1.cell 0, by rw [hf.cell s1.lt (fun e => e)]; simpa using s1.cell 1⟩))
  have HC := Lib.hid (fun (w' : World) (hf : Fr Nil w w') i (hi : i < (cen v).length) => (show w'.cell? ⟨cb, i, none⟩ = some (i64 ((cen v).getD i 0)) from by
    rw [hf.cell s2.lt (fun e => e), s2.cell i, List.getElem?_toArray, List.getElem?_map, List.getElem?_eq_getElem hi, gdE _ _ hi]; rfl))
  have HCE := Lib.hid (fun i (hi : i < (cen v).length) => (show (6 ≤ (cen v).getD i 0) ∧ (cen v).getD i 0 + 7 ≤ 17 + 4 * v from by
    have := cen_ok hv1 hv2 (c := (cen v).getD i 0) (by rw [gdE _ _ hi]; exact List.getElem_mem hi)
    omega))
  have hm7 : (cen v).length ≤ 7 := by
    have : ∀ v, v < 41 → (cen v).length ≤ 7 := by decide +kernel
    exact this v (by omega)
  clear s1 s2
  go_enter Tryz.func238, Tryz.ntmps238
  go_wp2_with fail
  refine HD.out.mono ?_
  rintro e w1 ⟨rfl, rfl⟩
  go_wp2_with fail
  refine (newSquare_calls w (17 + 4 * v) (by omega) (by omega)).mono ?_
  rintro e w1 ⟨rfl, hQ, hF, hsz⟩
  obtain ⟨p, hp⟩ : ∃ p, w.heap.size + 1 = p := ⟨_, rfl⟩
  obtain ⟨g, hg⟩ : ∃ g, w.heap.size = g := ⟨_, rfl⟩
  rw [hp] at hQ ⊢
  rw [hg] at hQ
  have HGE := Lib.hid (show w.heap.size ≤ g ∧ w.heap.size ≤ p from by omega)
  have HQ := Lib.hid hQ
  have HF := Lib.hid hF
  clear hp hg hsz hQ hF HD
  go_wp2_with fail
  refine (setRegion' HQ.out HF.out HGE.out.1 0 0 9 9 _ _ _ _ (by omega) (by omega) (by omega) (by omega) (by omega) (by omega) (by omega) (by omega)).mono ?_
  rintro e w2 ⟨rfl, hQ, hF⟩
  have HQ2 := Lib.hid hQ
  have HF2 := Lib.hid hF
  clear hQ hF HQ HF
  go_wp2_with fail
  refine (setRegion' HQ2.out HF2.out HGE.out.1 (17 + 4 * v - 8) 0 8 9 _ _ _ _ (by omega) (by omega) (by omega) (by omega) (by omega) (by omega) (by omega) (by omega)).mono ?_
  rintro e w3 ⟨rfl, hQ, hF⟩
  have HQ3 := Lib.hid hQ
  have HF3 := Lib.hid hF
  clear hQ hF HQ2 HF2
  go_wp2_with fail
  refine (setRegion' HQ3.out HF3.out HGE.out.1 0 (17 + 4 * v - 8) 9 8 _ _ _ _ (by omega) (by omega) (by omega) (by omega) (by omega) (by omega) (by omega) (by omega)).mono ?_
  rintro e w4 ⟨rfl, hQ, hF⟩
  have HQ4 : Hid (QM w4 p g (17 + 4 * v) (fpA v)) := Lib.hid hQ
  have HF4 := Lib.hid hF
  clear hQ hF HQ3 HF3
  have k1 := (HK.out _ HF4.out).2
  go_wp2_with fail
  clear k1
  obtain ⟨m, hm⟩ : ∃ m, (cen v).length = m := ⟨_, rfl⟩
  rw [hm] at hm7 HC HCE HK ⊢
  have HM := Lib.hid hm
  clear hm
  go_loopg [8, 9, 10] m (fun c s8 s9 s10 wr => ∃ i : Nat, i + c = m ∧ s8 = .int .i64 i ∧ Hid (QM wr p g (17 + 4 * v) ((List.range i).foldl (alI (cen v)) (fpA v))) ∧ Hid (Fr Nil w wr))
  case atStart => exact ⟨0, by omega, rfl, HQ4, HF4⟩
  case round =>
    obtain ⟨i, hi, rfl, HQ5, HF5⟩ := hrel
    cases gk with
    | zero =>
      have hz : ¬ (i : Int) < (m : Int) := by omega
      have him : i = m := by omega
      subst him
      have HQ6 : Hid (QM wr p g (17 + 4 * v) (alF (cen v) (fpA v))) := Lib.hid (HQ5.out.congr (by unfold alF; rw [HM.out]))
      clear HQ5
      go_wp2_with fail
      refine (setRegion' HQ6.out HF5.out HGE.out.1 6 9 1 (17 + 4 * v - 17) _ _ _ _ (by omega) (by omega) (by omega) (by omega) (by omega) (by omega) (by omega) (by omega)).mono ?_
      rintro e w5 ⟨rfl, hQ, hF⟩
      have HQ7 := Lib.hid hQ
      have HF7 := Lib.hid hF
      clear hQ hF HQ6 HF5
      go_wp2_with fail
      refine (setRegion' HQ7.out HF7.out HGE.out.1 9 6 (17 + 4 * v - 17) 1 _ _ _ _ (by omega) (by omega) (by omega) (by omega) (by omega) (by omega) (by omega) (by omega)).mono ?_
      rintro e w6 ⟨rfl, hQ, hF⟩
      have HQ8 : Hid (QM w6 p g (17 + 4 * v) (fpC v)) := Lib.hid hQ
      have HF8 := Lib.hid hF
      clear hQ hF HQ7 HF7
      have k0 := (HK.out _ HF8.out).1
      by_cases h6 : 6 < v
      · have hz6 : 6 < (v : Int) := by omega
        go_wp2_with fail
        refine (setRegion' HQ8.out HF8.out HGE.out.1 (17 + 4 * v - 11) 0 3 6 _ _ _ _ (by omega) (by omega) (by omega) (by omega) (by omega) (by omega) (by omega) (by omega)).mono ?_
        rintro e w7 ⟨rfl, hQ, hF⟩
        have HQ9 := Lib.hid hQ
        have HF9 := Lib.hid hF
        clear hQ hF k0
        go_wp2_with fail
        refine (setRegion' HQ9.out HF9.out HGE.out.1 0 (17 + 4 * v - 11) 6 3 _ _ _ _ (by omega) (by omega) (by omega) (by omega) (by omega) (by omega) (by omega) (by omega)).mono ?_
        rintro e w8 ⟨rfl, hQ, hF⟩
        have HQA : Hid (QM w8 p g (17 + 4 * v) (fpM v)) := Lib.hid (hQ.congr (by unfold fpM; rw [if_pos h6]))
        have HFA := Lib.hid hF
        clear hQ hF
        go_wp2_with fail
        go_ret2
        exact ⟨p, g, rfl, HQA.out, HGE.out.2, HGE.out.1, HFA.out⟩
      · have hz6 : ¬ 6 < (v : Int) := by omega
        have HQA : Hid (QM w6 p g (17 + 4 * v) (fpM v)) := Lib.hid (HQ8.out.congr (by unfold fpM; rw [if_neg h6]))
        go_wp2_with fail
        go_ret2
        exact ⟨p, g, rfl, HQA.out, HGE.out.2, HGE.out.1, HF8.out⟩
    | succ c =>
      have hz : (i : Int) < (m : Int) := by omega
      have him : i < m := by omega
      have k1 := (HK.out _ HF5.out).2
      have c0 := HC.out _ HF5.out i him
      have hce := HCE.out i him
      obtain ⟨ci, hci⟩ : ∃ ci, (cen v).getD i 0 = ci := ⟨_, rfl⟩
      rw [hci] at c0 hce
      have HCI := Lib.hid hci
      have HI := Lib.hid hi
      clear hi hci
      go_wp2_with fail
      clear k1 c0
      go_loopg [10] m (fun d s10 wq => ∃ j : Nat, j + d = m ∧ s10 = .int .i64 j ∧ Hid (QM wq p g (17 + 4 * v) ((List.range j).foldl (alJ (cen v) i) ((List.range i).foldl (alI (cen v)) (fpA v)))) ∧ Hid (Fr Nil w wq))
      case atStart => exact ⟨0, by omega, rfl, HQ5, HF5⟩
      case round =>
        obtain ⟨j, hj, rfl, HQ6, HF6⟩ := hrel
        cases gk with
        | zero =>
          have hzz : ¬ (j : Int) < (m : Int) := by omega
          have hjm : j = m := by omega
          subst hjm
          have HQ7 : Hid (QM wr p g (17 + 4 * v) ((List.range (i + 1)).foldl (alI (cen v)) (fpA v))) := Lib.hid (HQ6.out.congr (by
            rw [List.range_succ, List.foldl_append]
            show _ = alI (cen v) _ i
            unfold alI
            rw [HM.out]))
          go_wp2_with fail
          go_roundg c
          case measure => omega
          case rel => exact ⟨i + 1, by have := HI.out; omega, by go_num, HQ7, HF6⟩
        | succ d =>
          have hzz : (j : Int) < (m : Int) := by omega
          have hjm : j < m := by omega
          have HJ := Lib.hid hj
          clear hj
          have hstep : ∀ B, (List.range (j + 1)).foldl (alJ (cen v) i) B = alJ (cen v) i ((List.range j).foldl (alJ (cen v) i) B) j := fun B => by rw [List.range_succ, List.foldl_append]; rfl
          have HSTEP := Lib.hid hstep
          clear hstep
          go_upto_region 16 with fail
          go_cut [75] from 54 to 75 (fun s75 wc => s75 = .bool (exA m i j) ∧ wc = wr)
          case first =>
            have eA : ((i : Int) == 0) = (i == 0) := by rw [Bool.eq_iff_iff]; simp
            have eB : ((j : Int) == 0) = (j == 0) := by rw [Bool.eq_iff_iff]; simp
            have eC : ((j : Int) == (m : Int) - 1) = (j + 1 == m) := by rw [Bool.eq_iff_iff]; simp only [beq_iff_eq]; omega
            have eD : ((i : Int) == (m : Int) - 1) = (i + 1 == m) := by rw [Bool.eq_iff_iff]; simp only [beq_iff_eq]; omega
            have HE := Lib.hid (show exA m i j = ((i == 0 && (j == 0 || j + 1 == m)) || (i + 1 == m && j == 0)) from rfl)
            generalize (i == 0) = a at *
            generalize (j == 0) = b at *
            generalize (j + 1 == m) = c' at *
            generalize (i + 1 == m) = d' at *
            cases a <;> cases b <;> cases c' <;> cases d' <;> (go_wp2_with fail; go_meet; exact ⟨by rw [HE.out]; rfl, rfl⟩)
          case rest =>
            obtain ⟨rfl, rfl⟩ := hcut
            cases hex : exA m i j with
            | true =>
              have HQ7 := Lib.hid (HQ6.out.congr (show _ = (List.range (j + 1)).foldl (alJ (cen v) i) ((List.range i).foldl (alI (cen v)) (fpA v)) from by
                rw [HSTEP.out]; unfold alJ; rw [HM.out, hex, if_pos rfl]))
              go_wp2_with fail
              go_roundg d
              case measure => omega
              case rel => exact ⟨j + 1, by have := HJ.out; omega, by go_num, HQ7, HF6⟩
            | false =>
              have k1 := (HK.out _ HF6.out).2
              have c1 := HC.out _ HF6.out j hjm
              have hcj := HCE.out j hjm
              obtain ⟨cj, hcj2⟩ : ∃ cj, (cen v).getD j 0 = cj := ⟨_, rfl⟩
              rw [hcj2] at c1 hcj
              have HCJ := Lib.hid hcj2
              clear hcj2
              go_wp2_with fail
              refine (setRegion' HQ6.out HF6.out HGE.out.1 (cj - 2) (ci - 2) 5 5 _ _ _ _ (by omega) (by omega) (by omega) (by omega) (by omega) (by omega) (by omega) (by omega)).mono ?_
              rintro e w5 ⟨rfl, hQ, hF⟩
              have HQ7 := Lib.hid (hQ.congr (show _ = (List.range (j + 1)).foldl (alJ (cen v) i) ((List.range i).foldl (alI (cen v)) (fpA v)) from by
                rw [HSTEP.out]; unfold alJ; rw [HM.out, hex, if_neg (by decide), HCI.out, HCJ.out]))
              have HF7 := Lib.hid hF
              clear hQ hF k1 c1
              go_wp2_with fail
              go_roundg d
              case measure => omega
              case rel => exact ⟨j + 1, by have := HJ.out; omega, by go_num, HQ7, HF7⟩
end Go.Proofs.YtcekbhhpcmhicaaGreatDoor
/- The reader's masks. -/
namespace Go.Proofs.YtcekbhhpcmhicaaGreatDoor
open Go Go.RowKit Go.Deep
set_option maxRecDepth 100000
theorem dm0 (i j : Nat) (hi : i < 200) (hj : j < 200) (w : World) : Calls Tryz.prog 255 #[i64 i, i64 j] w fun e w' => e = .returned (.bool (dmk 0 i j)) ∧ w = w' := by
  have h := and1i (i + j) (by omega)
  rw [show ((i + j : Nat) : Int) = (i : Int) + (j : Int) from by omega] at h
  obtain ⟨v, hv⟩ : ∃ v, (i + j) % 2 = v := ⟨_, rfl⟩
  rw [hv] at h
  have HB : Hid (((v : Int) == 0) = dmk 0 i j) := Lib.hid (by rw [beqz, ← hv]; rfl)
  clear hv
  go_enter Tryz.func255, Tryz.ntmps255
  go_wp2_with fail
  go_ret
  exact ⟨congrArg (fun z => Ending.returned (Value.bool z)) HB.out, rfl⟩
theorem dm1 (i j : Nat) (hi : i < 200) (hj : j < 200) (w : World) : Calls Tryz.prog 256 #[i64 i, i64 j] w fun e w' => e = .returned (.bool (dmk 1 i j)) ∧ w = w' := by
  have h := and1i i (by omega)
  obtain ⟨v, hv⟩ : ∃ v, i % 2 = v := ⟨_, rfl⟩
  rw [hv] at h
  have HB : Hid (((v : Int) == 0) = dmk 1 i j) := Lib.hid (by rw [beqz, ← hv]; rfl)
  clear hv
  go_enter Tryz.func256, Tryz.ntmps256
  go_wp2_with fail
  go_ret
  exact ⟨congrArg (fun z => Ending.returned (Value.bool z)) HB.out, rfl⟩
theorem dm2 (i j : Nat) (hi : i < 200) (hj : j < 200) (w : World) : Calls Tryz.prog 257 #[i64 i, i64 j] w fun e w' => e = .returned (.bool (dmk 2 i j)) ∧ w = w' := by
  obtain ⟨v, hv⟩ : ∃ v, j % 3 = v := ⟨_, rfl⟩
  have h : (j : Int) % 3 = (v : Int) := by omega
  have hvl : v < 3 := by omega
  have HB : Hid (((v : Int) == 0) = dmk 2 i j) := Lib.hid (by rw [beqz, ← hv]; rfl)
  clear hv
  go_enter Tryz.func257, Tryz.ntmps257
  go_wp2_with fail
  go_ret
  exact ⟨congrArg (fun z => Ending.returned (Value.bool z)) HB.out, rfl⟩
theorem dm3 (i j : Nat) (hi : i < 200) (hj : j < 200) (w : World) : Calls Tryz.prog 258 #[i64 i, i64 j] w fun e w' => e = .returned (.bool (dmk 3 i j)) ∧ w = w' := by
  obtain ⟨v, hv⟩ : ∃ v, (i + j) % 3 = v := ⟨_, rfl⟩
  have h : ((i : Int) + (j : Int)) % 3 = (v : Int) := by omega
  have hvl : v < 3 := by omega
  have HB : Hid (((v : Int) == 0) = dmk 3 i j) := Lib.hid (by rw [beqz, ← hv]; rfl)
  clear hv
  go_enter Tryz.func258, Tryz.ntmps258
  go_wp2_with fail
  go_ret
  exact ⟨congrArg (fun z => Ending.returned (Value.bool z)) HB.out, rfl⟩
theorem dm4 (i j : Nat) (hi : i < 200) (hj : j < 200) (w : World) : Calls Tryz.prog 259 #[i64 i, i64 j] w fun e w' => e = .returned (.bool (dmk 4 i j)) ∧ w = w' := by
  obtain ⟨a, ha⟩ : ∃ a, i / 2 = a := ⟨_, rfl⟩
  obtain ⟨b, hb⟩ : ∃ b, j / 3 = b := ⟨_, rfl⟩
  have h1 : (i : Int) / 2 = (a : Int) := by omega
  have h2 : (j : Int) / 3 = (b : Int) := by omega
  have hal : a < 200 := by omega
  have hbl : b < 200 := by omega
  have h := and1i (a + b) (by omega)
  rw [show ((a + b : Nat) : Int) = (a : Int) + (b : Int) from by omega] at h
  obtain ⟨v, hv⟩ : ∃ v, (a + b) % 2 = v := ⟨_, rfl⟩
  rw [hv] at h
  have HB : Hid (((v : Int) == 0) = dmk 4 i j) := Lib.hid (by rw [beqz, ← hv, ← ha, ← hb]; rfl)
  clear hv ha hb
  go_enter Tryz.func259, Tryz.ntmps259
  go_wp2_with fail
  go_ret
  exact ⟨congrArg (fun z => Ending.returned (Value.bool z)) HB.out, rfl⟩
theorem ij_prod (i j : Nat) (hi : i < 200) (hj : j < 200) : ∃ p : Nat, i * j = p ∧ p < 40000 ∧ (i : Int) * (j : Int) = (p : Int) :=
  ⟨i * j, rfl, by have : i * j ≤ 199 * 199 := Nat.mul_le_mul (by omega) (by omega); omega, by rw [Int.natCast_mul]⟩
theorem dm5 (i j : Nat) (hi : i < 200) (hj : j < 200) (w : World) : Calls Tryz.prog 260 #[i64 i, i64 j] w fun e w' => e = .returned (.bool (dmk 5 i j)) ∧ w = w' := by
  obtain ⟨p, hp, hpl, hm⟩ := ij_prod i j hi hj
  obtain ⟨v, hv⟩ : ∃ v, p % 6 = v := ⟨_, rfl⟩
  have h : (p : Int) % 6 = (v : Int) := by omega
  have hvl : v < 6 := by omega
  have HB : Hid (((v : Int) == 0) = dmk 5 i j) := Lib.hid (by rw [beqz, ← hv, ← hp]; rfl)
  clear hv hp
  go_enter Tryz.func260, Tryz.ntmps260
  go_wp2_with fail
  go_ret
  exact ⟨congrArg (fun z => Ending.returned (Value.bool z)) HB.out, rfl⟩
theorem dm6 (i j : Nat) (hi : i < 200) (hj : j < 200) (w : World) : Calls Tryz.prog 261 #[i64 i, i64 j] w fun e w' => e = .returned (.bool (dmk 6 i j)) ∧ w = w' := by
  obtain ⟨p, hp, hpl, hm⟩ := ij_prod i j hi hj
  obtain ⟨v, hv⟩ : ∃ v, p % 6 = v := ⟨_, rfl⟩
  have h : (p : Int) % 6 = (v : Int) := by omega
  have hvl : v < 6 := by omega
  have HB : Hid (decide ((v : Int) < 3) = dmk 6 i j) := Lib.hid (by
    rw [← hp] at hv
    show decide ((v : Int) < 3) = decide (i * j % 6 < 3)
    rw [hv, decide_eq_decide]; omega)
  clear hv hp
  go_enter Tryz.func261, Tryz.ntmps261
  go_wp2_with fail
  go_ret
  exact ⟨congrArg (fun z => Ending.returned (Value.bool z)) HB.out, rfl⟩
theorem dm7 (i j : Nat) (hi : i < 200) (hj : j < 200) (w : World) : Calls Tryz.prog 262 #[i64 i, i64 j] w fun e w' => e = .returned (.bool (dmk 7 i j)) ∧ w = w' := by
  obtain ⟨p, hp, hpl, hm⟩ := ij_prod i j hi hj
  obtain ⟨u, hu⟩ : ∃ u, p % 3 = u := ⟨_, rfl⟩
  have h1 : (p : Int) % 3 = (u : Int) := by omega
  have hul : u < 3 := by omega
  have h := and1i (i + j + u) (by omega)
  rw [show ((i + j + u : Nat) : Int) = (i : Int) + (j : Int) + (u : Int) from by omega] at h
  obtain ⟨v, hv⟩ : ∃ v, (i + j + u) % 2 = v := ⟨_, rfl⟩
  rw [hv] at h
  have HB : Hid (((v : Int) == 0) = dmk 7 i j) := Lib.hid (by rw [beqz, ← hv, ← hu, ← hp]; rfl)
  clear hv hp hu
  go_enter Tryz.func262, Tryz.ntmps262
  go_wp2_with fail
  go_ret
  exact ⟨congrArg (fun z => Ending.returned (Value.bool z)) HB.out, rfl⟩
theorem dm_calls (k i j : Nat) (hk : k < 8) (hi : i < 200) (hj : j < 200) (w : World) : Calls Tryz.prog (255 + k) #[i64 i, i64 j] w fun e w' => e = .returned (.bool (dmk k i j)) ∧ w = w' := by
  match k, hk with
  | 0, _ => exact dm0 i j hi hj w
  | 1, _ => exact dm1 i j hi hj w
  | 2, _ => exact dm2 i j hi hj w
  | 3, _ => exact dm3 i j hi hj w
  | 4, _ => exact dm4 i j hi hj w
  | 5, _ => exact dm5 i j hi hj w
  | 6, _ => exact dm6 i j hi hj w
  | 7, _ => exact dm7 i j hi hj w
end Go.Proofs.YtcekbhhpcmhicaaGreatDoor
/- DataMask.UnmaskBitMatrix. -/
namespace Go.Proofs.YtcekbhhpcmhicaaGreatDoor
open Go Go.RowKit Go.Deep
set_option maxRecDepth 100000
/-- unmasked so far: rows below i, and of row i the columns below j -/
def unm (k n i j : Nat) (B : Nat → Nat → Bool) : Nat → Nat → Bool := fun y x => B y x ^^ (decide ((y < i ∧ x < n) ∨ (y = i ∧ x < j)) && dmk k y x)
def unmA (k n : Nat) (B : Nat → Nat → Bool) : Nat → Nat → Bool := fun y x => B y x ^^ (decide (y < n ∧ x < n) && dmk k y x)
theorem unm_zero (k n : Nat) (B : Nat → Nat → Bool) : unm k n 0 0 B = B := by
  funext y x; unfold unm; rw [decide_eq_false (by omega), Bool.false_and, Bool.xor_false]
theorem unm_row (k n i : Nat) (B : Nat → Nat → Bool) : unm k n i n B = unm k n (i + 1) 0 B := by
  funext y x; unfold unm; congr 2; rw [decide_eq_decide]; omega
theorem unm_end (k n : Nat) (B : Nat → Nat → Bool) : unm k n n 0 B = unmA k n B := by
  funext y x; unfold unm unmA; congr 2; rw [decide_eq_decide]; omega
theorem unm_no (k n i j : Nat) (B : Nat → Nat → Bool) (h : dmk k i j = false) : unm k n i j B = unm k n i (j + 1) B := by
  funext y x; unfold unm
  by_cases e : y = i ∧ x = j
  · rw [e.1, e.2, h, Bool.and_false, Bool.and_false]
  · congr 2; rw [decide_eq_decide]; omega
theorem unm_yes (k n i j : Nat) (B : Nat → Nat → Bool) (h : dmk k i j = true) : flipB (unm k n i j B) i j = unm k n i (j + 1) B := by
  funext y x; unfold flipB unm
  by_cases e : y = i ∧ x = j
  · rw [e.1, e.2, h, decide_eq_false (show ¬ ((i < i ∧ j < n) ∨ (i = i ∧ j < j)) by omega), decide_eq_true (show i = i ∧ j = j from ⟨rfl, rfl⟩), decide_eq_true (show (i < i ∧ j < n) ∨ (i = i ∧ j < j + 1) by omega)]
    simp
  · rw [decide_eq_false e, Bool.xor_false]; congr 2; rw [decide_eq_decide]; omega

set_option maxHeartbeats 1600000 in
theorem unmask0 {w : World} {p g n : Nat} {B : Nat → Nat → Bool} (h : QM w p g n B) :
    Calls Tryz.prog 217 #[.agg #[.func (.func 255) #[] #[]], .pointer (some ⟨p, 0, none⟩), i64 n] w fun e w' => e = .returned (.tuple #[]) ∧ QM w' p g n (unmA 0 n B) ∧ Fr (One g) w w' := by
  have hl := h.l2
  have hfa : Fr Nil w (w.alloc (.cells #[.func (.func 255) #[] #[]] 344)) := (Fr.refl _ _).alloc _
  have HQ := Lib.hid ((h.nil hfa).congr (unm_zero 0 n B).symm)
  have HF := Lib.hid (hfa.any (One g))
  have hst := Blk.new w 344 #[.func (.func 255) #[] #[]]
  obtain ⟨W, hW⟩ : ∃ W, (w.alloc (.cells #[.func (.func 255) #[] #[]] 344)) = W := ⟨_, rfl⟩
  obtain ⟨t, ht⟩ : ∃ t, w.heap.size = t := ⟨_, rfl⟩
  rw [hW] at HQ HF hst
  rw [ht] at hst
  have hgt : g ≠ t := by have := h.ws.lt; omega
  have HST := Lib.hid (fun (w' : World) (hf : Fr (One g) W w') => (show w'.cell? ⟨t, 0, none⟩ = some (.func (.func 255) #[] #[]) from by
    rw [hf.cell hst.lt (fun e => hgt (by have : t = g := e; exact this.symm))]; simpa using hst.cell 0))
  have HW0 := Lib.hid (Fr.refl (One g) W)
  clear h hfa hst
  go_enter Tryz.func217, Tryz.ntmps217
  go_wp2_with fail
  try rw [hW]
  clear hW
  go_loopg [6, 7] n (fun c s6 s7 wr => ∃ i : Nat, i + c = n ∧ s6 = .int .i64 i ∧ Hid (QM wr p g n (unm 0 n i 0 B)) ∧ Hid (Fr (One g) w wr) ∧ Hid (Fr (One g) W wr))
  case atStart => exact ⟨0, by omega, rfl, HQ, HF, HW0⟩
  case round =>
    obtain ⟨i, hi, rfl, HQ1, HF1, HW1⟩ := hrel
    cases gk with
    | zero =>
      have hz : ¬ (i : Int) < (n : Int) := by omega
      have hin : i = n := by omega
      subst hin
      have HE := Lib.hid (HQ1.out.congr (unm_end 0 i B))
      go_wp2_with fail
      go_end0
      exact ⟨rfl, HE.out, HF1.out⟩
    | succ c =>
      have hz : (i : Int) < (n : Int) := by omega
      have hin : i < n := by omega
      have HI := Lib.hid hi
      clear hi
      go_wp2_with fail
      go_loopg [7] n (fun d s7 wq => ∃ j : Nat, j + d = n ∧ s7 = .int .i64 j ∧ Hid (QM wq p g n (unm 0 n i j B)) ∧ Hid (Fr (One g) w wq) ∧ Hid (Fr (One g) W wq))
      case atStart => exact ⟨0, by omega, rfl, HQ1, HF1, HW1⟩
      case round =>
        obtain ⟨j, hj, rfl, HQ2, HF2, HW2⟩ := hrel
        cases gk with
        | zero =>
          have hzz : ¬ (j : Int) < (n : Int) := by omega
          have hjn : j = n := by omega
          subst hjn
          have HE := Lib.hid (HQ2.out.congr (unm_row 0 j i B))
          go_wp2_with fail
          go_roundg c
          case measure => omega
          case rel => exact ⟨i + 1, by have := HI.out; omega, by go_num, HE, HF2, HW2⟩
        | succ d =>
          have hzz : (j : Int) < (n : Int) := by omega
          have hjn : j < n := by omega
          have c0 := HST.out _ HW2.out
          have HD := Lib.hid (dm0 i j (by omega) (by omega) wr)
          have HS := Lib.hid (qmFlip_calls HQ2.out j i hjn hin)
          have HJ := Lib.hid hj
          clear hj
          cases hb : dmk 0 i j with
          | true =>
            rw [hb] at HD
            have HST2 := Lib.hid (unm_yes 0 n i j B hb)
            clear hb
            go_wp2_with (go_at_call 255; refine HD.out.mono ?_; rintro e w2 ⟨rfl, rfl⟩)
            refine HS.out.mono ?_
            rintro e w2 ⟨rfl, hQ3, hF3⟩
            have HE := Lib.hid (hQ3.congr HST2.out)
            have HF3 := Lib.hid (HF2.out.trans hF3)
            have HW3 := Lib.hid (HW2.out.trans hF3)
            clear hQ3 hF3 c0
            go_wp2_with fail
            go_roundg d
            case measure => omega
            case rel => exact ⟨j + 1, by have := HJ.out; omega, by go_num, HE, HF3, HW3⟩
          | false =>
            rw [hb] at HD
            have HE := Lib.hid (HQ2.out.congr (unm_no 0 n i j B hb))
            clear hb
            go_wp2_with (go_at_call 255; refine HD.out.mono ?_; rintro e w2 ⟨rfl, rfl⟩)
            go_roundg d
            case measure => omega
            case rel => exact ⟨j + 1, by have := HJ.out; omega, by go_num, HE, HF2, HW2⟩
set_option maxHeartbeats 1600000 in
theorem unmask1 {w : World} {p g n : Nat} {B : Nat → Nat → Bool} (h : QM w p g n B) :
    Calls Tryz.prog 217 #[.agg #[.func (.func 256) #[] #[]], .pointer (some ⟨p, 0, none⟩), i64 n] w fun e w' => e = .returned (.tuple #[]) ∧ QM w' p g n (unmA 1 n B) ∧ Fr (One g) w w' := by
  have hl := h.l2
  have hfa : Fr Nil w (w.alloc (.cells #[.func (.func 256) #[] #[]] 344)) := (Fr.refl _ _).alloc _
  have HQ := Lib.hid ((h.nil hfa).congr (unm_zero 1 n B).symm)
  have HF := Lib.hid (hfa.any (One g))
  have hst := Blk.new w 344 #[.func (.func 256) #[] #[]]
  obtain ⟨W, hW⟩ : ∃ W, (w.alloc (.cells #[.func (.func 256) #[] #[]] 344)) = W := ⟨_, rfl⟩
  obtain ⟨t, ht⟩ : ∃ t, w.heap.size = t := ⟨_, rfl⟩
  rw [hW] at HQ HF hst
  rw [ht] at hst
  have hgt : g ≠ t := by have := h.ws.lt; omega
  have HST := Lib.hid (fun (w' : World) (hf : Fr (One g) W w') => (show w'.cell? ⟨t, 0, none⟩ = some (.func (.func 256) #[] #[]) from by
    rw [hf.cell hst.lt (fun e => hgt (by have : t = g := e; exact this.symm))]; simpa using hst.cell 0))
  have HW0 := Lib.hid (Fr.refl (One g) W)
  clear h hfa hst
  go_enter Tryz.func217, Tryz.ntmps217
  go_wp2_with fail
  try rw [hW]
  clear hW
  go_loopg [6, 7] n (fun c s6 s7 wr => ∃ i : Nat, i + c = n ∧ s6 = .int .i64 i ∧ Hid (QM wr p g n (unm 1 n i 0 B)) ∧ Hid (Fr (One g) w wr) ∧ Hid (Fr (One g) W wr))
  case atStart => exact ⟨0, by omega, rfl, HQ, HF, HW0⟩
  case round =>
    obtain ⟨i, hi, rfl, HQ1, HF1, HW1⟩ := hrel
    cases gk with
    | zero =>
      have hz : ¬ (i : Int) < (n : Int) := by omega
      have hin : i = n := by omega
      subst hin
      have HE := Lib.hid (HQ1.out.congr (unm_end 1 i B))
      go_wp2_with fail
      go_end0
      exact ⟨rfl, HE.out, HF1.out⟩
    | succ c =>
      have hz : (i : Int) < (n : Int) := by omega
      have hin : i < n := by omega
      have HI := Lib.hid hi
      clear hi
      go_wp2_with fail
      go_loopg [7] n (fun d s7 wq => ∃ j : Nat, j + d = n ∧ s7 = .int .i64 j ∧ Hid (QM wq p g n (unm 1 n i j B)) ∧ Hid (Fr (One g) w wq) ∧ Hid (Fr (One g) W wq))
      case atStart => exact ⟨0, by omega, rfl, HQ1, HF1, HW1⟩
      case round =>
        obtain ⟨j, hj, rfl, HQ2, HF2, HW2⟩ := hrel
        cases gk with
        | zero =>
          have hzz : ¬ (j : Int) < (n : Int) := by omega
          have hjn : j = n := by omega
          subst hjn
          have HE := Lib.hid (HQ2.out.congr (unm_row 1 j i B))
          go_wp2_with fail
          go_roundg c
          case measure => omega
          case rel => exact ⟨i + 1, by have := HI.out; omega, by go_num, HE, HF2, HW2⟩
        | succ d =>
          have hzz : (j : Int) < (n : Int) := by omega
          have hjn : j < n := by omega
          have c0 := HST.out _ HW2.out
          have HD := Lib.hid (dm1 i j (by omega) (by omega) wr)
          have HS := Lib.hid (qmFlip_calls HQ2.out j i hjn hin)
          have HJ := Lib.hid hj
          clear hj
          cases hb : dmk 1 i j with
          | true =>
            rw [hb] at HD
            have HST2 := Lib.hid (unm_yes 1 n i j B hb)
            clear hb
            go_wp2_with (go_at_call 256; refine HD.out.mono ?_; rintro e w2 ⟨rfl, rfl⟩)
            refine HS.out.mono ?_
            rintro e w2 ⟨rfl, hQ3, hF3⟩
            have HE := Lib.hid (hQ3.congr HST2.out)
            have HF3 := Lib.hid (HF2.out.trans hF3)
            have HW3 := Lib.hid (HW2.out.trans hF3)
            clear hQ3 hF3 c0
            go_wp2_with fail
            go_roundg d
            case measure => omega
            case rel => exact ⟨j + 1, by have := HJ.out; omega, by go_num, HE, HF3, HW3⟩
          | false =>
            rw [hb] at HD
            have HE := Lib.hid (HQ2.out.congr (unm_no 1 n i j B hb))
            clear hb
            go_wp2_with (go_at_call 256; refine HD.out.mono ?_; rintro e w2 ⟨rfl, rfl⟩)
            go_roundg d
            case measure => omega
            case rel => exact ⟨j + 1, by have := HJ.out; omega, by go_num, HE, HF2, HW2⟩
set_option maxHeartbeats 1600000 in
theorem unmask2 {w : World} {p g n : Nat} {B : Nat → Nat → Bool} (h : QM w p g n B) :
    Calls Tryz.prog 217 #[.agg #[.func (.func 257) #[] #[]], .pointer (some ⟨p, 0, none⟩), i64 n] w fun e w' => e = .returned (.tuple #[]) ∧ QM w' p g n (unmA 2 n B) ∧ Fr (One g) w w' := by
  have hl := h.l2
  have hfa : Fr Nil w (w.alloc (.cells #[.func (.func 257) #[] #[]] 344)) := (Fr.refl _ _).alloc _
  have HQ := Lib.hid ((h.nil hfa).congr (unm_zero 2 n B).symm)
  have HF := Lib.hid (hfa.any (One g))
  have hst := Blk.new w 344 #[.func (.func 257) #[] #[]]
  obtain ⟨W, hW⟩ : ∃ W, (w.alloc (.cells #[.func (.func 257) #[] #[]] 344)) = W := ⟨_, rfl⟩
  obtain ⟨t, ht⟩ : ∃ t, w.heap.size = t := ⟨_, rfl⟩
  rw [hW] at HQ HF hst
  rw [ht] at hst
  have hgt : g ≠ t := by have := h.ws.lt; omega
  have HST := Lib.hid (fun (w' : World) (hf : Fr (One g) W w') => (show w'.cell? ⟨t, 0, none⟩ = some (.func (.func 257) #[] #[]) from by
    rw [hf.cell hst.lt (fun e => hgt (by have : t = g := e; exact this.symm))]; simpa using hst.cell 0))
  have HW0 := Lib.hid (Fr.refl (One g) W)
  clear h hfa hst
  go_enter Tryz.func217, Tryz.ntmps217
  go_wp2_with fail
  try rw [hW]
  clear hW
  go_loopg [6, 7] n (fun c s6 s7 wr => ∃ i : Nat, i + c = n ∧ s6 = .int .i64 i ∧ Hid (QM wr p g n (unm 2 n i 0 B)) ∧ Hid (Fr (One g) w wr) ∧ Hid (Fr (One g) W wr))
  case atStart => exact ⟨0, by omega, rfl, HQ, HF, HW0⟩
  case round =>
    obtain ⟨i, hi, rfl, HQ1, HF1, HW1⟩ := hrel
    cases gk with
    | zero =>
      have hz : ¬ (i : Int) < (n : Int) := by omega
      have hin : i = n := by omega
      subst hin
      have HE := Lib.hid (HQ1.out.congr (unm_end 2 i B))
      go_wp2_with fail
      go_end0
      exact ⟨rfl, HE.out, HF1.out⟩
    | succ c =>
      have hz : (i : Int) < (n : Int) := by omega
      have hin : i < n := by omega
      have HI := Lib.hid hi
      clear hi
      go_wp2_with fail
      go_loopg [7] n (fun d s7 wq => ∃ j : Nat, j + d = n ∧ s7 = .int .i64 j ∧ Hid (QM wq p g n (unm 2 n i j B)) ∧ Hid (Fr (One g) w wq) ∧ Hid (Fr (One g) W wq))
      case atStart => exact ⟨0, by omega, rfl, HQ1, HF1, HW1⟩
      case round =>
        obtain ⟨j, hj, rfl, HQ2, HF2, HW2⟩ := hrel
        cases gk with
        | zero =>
          have hzz : ¬ (j : Int) < (n : Int) := by omega
          have hjn : j = n := by omega
          subst hjn
          have HE := Lib.hid (HQ2.out.congr (unm_row 2 j i B))
          go_wp2_with fail
          go_roundg c
          case measure => omega
          case rel => exact ⟨i + 1, by have := HI.out; omega, by go_num, HE, HF2, HW2⟩
        | succ d =>
          have hzz : (j : Int) < (n : Int) := by omega
          have hjn : j < n := by omega
          have c0 := HST.out _ HW2.out
          have HD := Lib.hid (dm2 i j (by omega) (by omega) wr)
          have HS := Lib.hid (qmFlip_calls HQ2.out j i hjn hin)
          have HJ := Lib.hid hj
          clear hj
          cases hb : dmk 2 i j with
          | true =>
            rw [hb] at HD
            have HST2 := Lib.hid (unm_yes 2 n i j B hb)
            clear hb
            go_wp2_with (go_at_call 257; refine HD.out.mono ?_; rintro e w2 ⟨rfl, rfl⟩)
            refine HS.out.mono ?_
            rintro e w2 ⟨rfl, hQ3, hF3⟩
            have HE := Lib.hid (hQ3.congr HST2.out)
            have HF3 := Lib.hid (HF2.out.trans hF3)
            have HW3 := Lib.hid (HW2.out.trans hF3)
            clear hQ3 hF3 c0
            go_wp2_with fail
            go_roundg d
            case measure => omega
            case rel => exact ⟨j + 1, by have := HJ.out; omega, by go_num, HE, HF3, HW3⟩
          | false =>
            rw [hb] at HD
            have HE := Lib.hid (HQ2.out.congr (unm_no 2 n i j B hb))
            clear hb
            go_wp2_with (go_at_call 257; refine HD.out.mono ?_; rintro e w2 ⟨rfl, rfl⟩)
            go_roundg d
            case measure => omega
            case rel => exact ⟨j + 1, by have := HJ.out; omega, by go_num, HE, HF2, HW2⟩
set_option maxHeartbeats 1600000 in
theorem unmask3 {w : World} {p g n : Nat} {B : Nat → Nat → Bool} (h : QM w p g n B) :
    Calls Tryz.prog 217 #[.agg #[.func (.func 258) #[] #[]], .pointer (some ⟨p, 0, none⟩), i64 n] w fun e w' => e = .returned (.tuple #[]) ∧ QM w' p g n (unmA 3 n B) ∧ Fr (One g) w w' := by
  have hl := h.l2
  have hfa : Fr Nil w (w.alloc (.cells #[.func (.func 258) #[] #[]] 344)) := (Fr.refl _ _).alloc _
  have HQ := Lib.hid ((h.nil hfa).congr (unm_zero 3 n B).symm)
  have HF := Lib.hid (hfa.any (One g))
  have hst := Blk.new w 344 #[.func (.func 258) #[] #[]]
  obtain ⟨W, hW⟩ : ∃ W, (w.alloc (.cells #[.func (.func 258) #[] #[]] 344)) = W := ⟨_, rfl⟩
  obtain ⟨t, ht⟩ : ∃ t, w.heap.size = t := ⟨_, rfl⟩
  rw [hW] at HQ HF hst
  rw [ht] at hst
  have hgt : g ≠ t := by have := h.ws.lt; omega
  have HST := Lib.hid (fun (w' : World) (hf : Fr (One g) W w') => (show w'.cell? ⟨t, 0, none⟩ = some (.func (.func 258) #[] #[]) from by
    rw [hf.cell hst.lt (fun e => hgt (by have : t = g := e; exact this.symm))]; simpa using hst.cell 0))
  have HW0 := Lib.hid (Fr.refl (One g) W)
  clear h hfa hst
  go_enter Tryz.func217, Tryz.ntmps217
  go_wp2_with fail
  try rw [hW]
  clear hW
  go_loopg [6, 7] n (fun c s6 s7 wr => ∃ i : Nat, i + c = n ∧ s6 = .int .i64 i ∧ Hid (QM wr p g n (unm 3 n i 0 B)) ∧ Hid (Fr (One g) w wr) ∧ Hid (Fr (One g) W wr))
  case atStart => exact ⟨0, by omega, rfl, HQ, HF, HW0⟩
  case round =>
    obtain ⟨i, hi, rfl, HQ1, HF1, HW1⟩ := hrel
    cases gk with
    | zero =>
      have hz : ¬ (i : Int) < (n : Int) := by omega
      have hin : i = n := by omega
      subst hin
      have HE := Lib.hid (HQ1.out.congr (unm_end 3 i B))
      go_wp2_with fail
      go_end0
      exact ⟨rfl, HE.out, HF1.out⟩
    | succ c =>
      have hz : (i : Int) < (n : Int) := by omega
      have hin : i < n := by omega
      have HI := Lib.hid hi
      clear hi
      go_wp2_with fail
      go_loopg [7] n (fun d s7 wq => ∃ j : Nat, j + d = n ∧ s7 = .int .i64 j ∧ Hid (QM wq p g n (unm 3 n i j B)) ∧ Hid (Fr (One g) w wq) ∧ Hid (Fr (One g) W wq))
      case atStart => exact ⟨0, by omega, rfl, HQ1, HF1, HW1⟩
      case round =>
        obtain ⟨j, hj, rfl, HQ2, HF2, HW2⟩ := hrel
        cases gk with
        | zero =>
          have hzz : ¬ (j : Int) < (n : Int) := by omega
          have hjn : j = n := by omega
          subst hjn
          have HE := Lib.hid (HQ2.out.congr (unm_row 3 j i B))
          go_wp2_with fail
          go_roundg c
          case measure => omega
          case rel => exact ⟨i + 1, by have := HI.out; omega, by go_num, HE, HF2, HW2⟩
        | succ d =>
          have hzz : (j : Int) < (n : Int) := by omega
          have hjn : j < n := by omega
          have c0 := HST.out _ HW2.out
          have HD := Lib.hid (dm3 i j (by omega) (by omega) wr)
          have HS := Lib.hid (qmFlip_calls HQ2.out j i hjn hin)
          have HJ := Lib.hid hj
          clear hj
          cases hb : dmk 3 i j with
          | true =>
            rw [hb] at HD
            have HST2 := Lib.hid (unm_yes 3 n i j B hb)
            clear hb
            go_wp2_with (go_at_call 258; refine HD.out.mono ?_; rintro e w2 ⟨rfl, rfl⟩)
            refine HS.out.mono ?_
            rintro e w2 ⟨rfl, hQ3, hF3⟩
            have HE := Lib.hid (hQ3.congr HST2.out)
            have HF3 := Lib.hid (HF2.out.trans hF3)
            have HW3 := Lib.hid (HW2.out.trans hF3)
            clear hQ3 hF3 c0
            go_wp2_with fail
            go_roundg d
            case measure => omega
            case rel => exact ⟨j + 1, by have := HJ.out; omega, by go_num, HE, HF3, HW3⟩
          | false =>
            rw [hb] at HD
            have HE := Lib.hid (HQ2.out.congr (unm_no 3 n i j B hb))
            clear hb
            go_wp2_with (go_at_call 258; refine HD.out.mono ?_; rintro e w2 ⟨rfl, rfl⟩)
            go_roundg d
            case measure => omega
            case rel => exact ⟨j + 1, by have := HJ.out; omega, by go_num, HE, HF2, HW2⟩
set_option maxHeartbeats 1600000 in
theorem unmask4 {w : World} {p g n : Nat} {B : Nat → Nat → Bool} (h : QM w p g n B) :
    Calls Tryz.prog 217 #[.agg #[.func (.func 259) #[] #[]], .pointer (some ⟨p, 0, none⟩), i64 n] w fun e w' => e = .returned (.tuple #[]) ∧ QM w' p g n (unmA 4 n B) ∧ Fr (One g) w w' := by
  have hl := h.l2
  have hfa : Fr Nil w (w.alloc (.cells #[.func (.func 259) #[] #[]] 344)) := (Fr.refl _ _).alloc _
  have HQ := Lib.hid ((h.nil hfa).congr (unm_zero 4 n B).symm)
  have HF := Lib.hid (hfa.any (One g))
  have hst := Blk.new w 344 #[.func (.func 259) #[] #[]]
  obtain ⟨W, hW⟩ : ∃ W, (w.alloc (.cells #[.func (.func 259) #[] #[]] 344)) = W := ⟨_, rfl⟩
  obtain ⟨t, ht⟩ : ∃ t, w.heap.size = t := ⟨_, rfl⟩
  rw [hW] at HQ HF hst
  rw [ht] at hst
  have hgt : g ≠ t := by have := h.ws.lt; omega
  have HST := Lib.hid (fun (w' : World) (hf : Fr (One g) W w') => (show w'.cell? ⟨t, 0, none⟩ = some (.func (.func 259) #[] #[]) from by
    rw [hf.cell hst.lt (fun e => hgt (by have : t = g := e; exact this.symm))]; simpa using hst.cell 0))
  have HW0 := Lib.hid (Fr.refl (One g) W)
  clear h hfa hst
  go_enter Tryz.func217, Tryz.ntmps217
  go_wp2_with fail
  try rw [hW]
  clear hW
  go_loopg [6, 7] n (fun c s6 s7 wr => ∃ i : Nat, i + c = n ∧ s6 = .int .i64 i ∧ Hid (QM wr p g n (unm 4 n i 0 B)) ∧ Hid (Fr (One g) w wr) ∧ Hid (Fr (One g) W wr))
  case atStart => exact ⟨0, by omega, rfl, HQ, HF, HW0⟩
  case round =>
    obtain ⟨i, hi, rfl, HQ1, HF1, HW1⟩ := hrel
    cases gk with
    | zero =>
      have hz : ¬ (i : Int) < (n : Int) := by omega
      have hin : i = n := by omega
      subst hin
      have HE := Lib.hid (HQ1.out.congr (unm_end 4 i B))
      go_wp2_with fail
      go_end0
      exact ⟨rfl, HE.out, HF1.out⟩
    | succ c =>
      have hz : (i : Int) < (n : Int) := by omega
      have hin : i < n := by omega
      have HI := Lib.hid hi
      clear hi
      go_wp2_with fail
      go_loopg [7] n (fun d s7 wq => ∃ j : Nat, j + d = n ∧ s7 = .int .i64 j ∧ Hid (QM wq p g n (unm 4 n i j B)) ∧ Hid (Fr (One g) w wq) ∧ Hid (Fr (One g) W wq))
      case atStart => exact ⟨0, by omega, rfl, HQ1, HF1, HW1⟩
      case round =>
        obtain ⟨j, hj, rfl, HQ2, HF2, HW2⟩ := hrel
        cases gk with
        | zero =>
          have hzz : ¬ (j : Int) < (n : Int) := by omega
          have hjn : j = n := by omega
          subst hjn
          have HE := Lib.hid (HQ2.out.congr (unm_row 4 j i B))
          go_wp2_with fail
          go_roundg c
          case measure => omega
          case rel => exact ⟨i + 1, by have := HI.out; omega, by go_num, HE, HF2, HW2⟩
        | succ d =>
          have hzz : (j : Int) < (n : Int) := by omega
          have hjn : j < n := by omega
          have c0 := HST.out _ HW2.out
          have HD := Lib.hid (dm4 i j (by omega) (by omega) wr)
          have HS := Lib.hid (qmFlip_calls HQ2.out j i hjn hin)
          have HJ := Lib.hid hj
          clear hj
          cases hb : dmk 4 i j with
          | true =>
            rw [hb] at HD
            have HST2 := Lib.hid (unm_yes 4 n i j B hb)
            clear hb
            go_wp2_with (go_at_call 259; refine HD.out.mono ?_; rintro e w2 ⟨rfl, rfl⟩)
            refine HS.out.mono ?_
            rintro e w2 ⟨rfl, hQ3, hF3⟩
            have HE := Lib.hid (hQ3.congr HST2.out)
            have HF3 := Lib.hid (HF2.out.trans hF3)
            have HW3 := Lib.hid (HW2.out.trans hF3)
            clear hQ3 hF3 c0
            go_wp2_with fail
            go_roundg d
            case measure => omega
            case rel => exact ⟨j + 1, by have := HJ.out; omega, by go_num, HE, HF3, HW3⟩
          | false =>
            rw [hb] at HD
            have HE := Lib.hid (HQ2.out.congr (unm_no 4 n i j B hb))
            clear hb
            go_wp2_with (go_at_call 259; refine HD.out.mono ?_; rintro e w2 ⟨rfl, rfl⟩)
            go_roundg d
            case measure => omega
            case rel => exact ⟨j + 1, by have := HJ.out; omega, by go_num, HE, HF2, HW2⟩
set_option maxHeartbeats 1600000 in
theorem unmask5 {w : World} {p g n : Nat} {B : Nat → Nat → Bool} (h : QM w p g n B) :
    Calls Tryz.prog 217 #[.agg #[.func (.func 260) #[] #[]], .pointer (some ⟨p, 0, none⟩), i64 n] w fun e w' => e = .returned (.tuple #[]) ∧ QM w' p g n (unmA 5 n B) ∧ Fr (One g) w w' := by
  have hl := h.l2
  have hfa : Fr Nil w (w.alloc (.cells #[.func (.func 260) #[] #[]] 344)) := (Fr.refl _ _).alloc _
  have HQ := Lib.hid ((h.nil hfa).congr (unm_zero 5 n B).symm)
  have HF := Lib.hid (hfa.any (One g))
  have hst := Blk.new w 344 #[.func (.func 260) #[] #[]]
  obtain ⟨W, hW⟩ : ∃ W, (w.alloc (.cells #[.func (.func 260) #[] #[]] 344)) = W := ⟨_, rfl⟩
  obtain ⟨t, ht⟩ : ∃ t, w.heap.size = t := ⟨_, rfl⟩
  rw [hW] at HQ HF hst
  rw [ht] at hst
  have hgt : g ≠ t := by have := h.ws.lt; omega
  have HST := Lib.hid (fun (w' : World) (hf : Fr (One g) W w') => (show w'.cell? ⟨t, 0, none⟩ = some (.func (.func 260) #[] #[]) from by
    rw [hf.cell hst.lt (fun e => hgt (by have : t = g := e; exact this.symm))]; simpa using hst.cell 0))
  have HW0 := Lib.hid (Fr.refl (One g) W)
  clear h hfa hst
  go_enter Tryz.func217, Tryz.ntmps217
  go_wp2_with fail
  try rw [hW]
  clear hW
  go_loopg [6, 7] n (fun c s6 s7 wr => ∃ i : Nat, i + c = n ∧ s6 = .int .i64 i ∧ Hid (QM wr p g n (unm 5 n i 0 B)) ∧ Hid (Fr (One g) w wr) ∧ Hid (Fr (One g) W wr))
  case atStart => exact ⟨0, by omega, rfl, HQ, HF, HW0⟩
  case round =>
    obtain ⟨i, hi, rfl, HQ1, HF1, HW1⟩ := hrel
    cases gk with
    | zero =>
      have hz : ¬ (i : Int) < (n : Int) := by omega
      have hin : i = n := by omega
      subst hin
      have HE := Lib.hid (HQ1.out.congr (unm_end 5 i B))
      go_wp2_with fail
      go_end0
      exact ⟨rfl, HE.out, HF1.out⟩
    | succ c =>
      have hz : (i : Int) < (n : Int) := by omega
      have hin : i < n := by omega
      have HI := Lib.hid hi
      clear hi
      go_wp2_with fail
      go_loopg [7] n (fun d s7 wq => ∃ j : Nat, j + d = n ∧ s7 = .int .i64 j ∧ Hid (QM wq p g n (unm 5 n i j B)) ∧ Hid (Fr (One g) w wq) ∧ Hid (Fr (One g) W wq))
      case atStart => exact ⟨0, by omega, rfl, HQ1, HF1, HW1⟩
      case round =>
        obtain ⟨j, hj, rfl, HQ2, HF2, HW2⟩ := hrel
        cases gk with
        | zero =>
          have hzz : ¬ (j : Int) < (n : Int) := by omega
          have hjn : j = n := by omega
          subst hjn
          have HE := Lib.hid (HQ2.out.congr (unm_row 5 j i B))
          go_wp2_with fail
          go_roundg c
          case measure => omega
          case rel => exact ⟨i + 1, by have := HI.out; omega, by go_num, HE, HF2, HW2⟩
        | succ d =>
          have hzz : (j : Int) < (n : Int) := by omega
          have hjn : j < n := by omega
          have c0 := HST.out _ HW2.out
          have HD := Lib.hid (dm5 i j (by omega) (by omega) wr)
          have HS := Lib.hid (qmFlip_calls HQ2.out j i hjn hin)
          have HJ := Lib.hid hj
          clear hj
          cases hb : dmk 5 i j with
          | true =>
            rw [hb] at HD
            have HST2 := Lib.hid (unm_yes 5 n i j B hb)
            clear hb
            go_wp2_with (go_at_call 260; refine HD.out.mono ?_; rintro e w2 ⟨rfl, rfl⟩)
            refine HS.out.mono ?_
            rintro e w2 ⟨rfl, hQ3, hF3⟩
            have HE := Lib.hid (hQ3.congr HST2.out)
            have HF3 := Lib.hid (HF2.out.trans hF3)
            have HW3 := Lib.hid (HW2.out.trans hF3)
            clear hQ3 hF3 c0
            go_wp2_with fail
            go_roundg d
            case measure => omega
            case rel => exact ⟨j + 1, by have := HJ.out; omega, by go_num, HE, HF3, HW3⟩
          | false =>
            rw [hb] at HD
            have HE := Lib.hid (HQ2.out.congr (unm_no 5 n i j B hb))
            clear hb
            go_wp2_with (go_at_call 260; refine HD.out.mono ?_; rintro e w2 ⟨rfl, rfl⟩)
            go_roundg d
            case measure => omega
            case rel => exact ⟨j + 1, by have := HJ.out; omega, by go_num, HE, HF2, HW2⟩
set_option maxHeartbeats 1600000 in
theorem unmask6 {w : World} {p g n : Nat} {B : Nat → Nat → Bool} (h : QM w p g n B) :
    Calls Tryz.prog 217 #[.agg #[.func (.func 261) #[] #[]], .pointer (some ⟨p, 0, none⟩), i64 n] w fun e w' => e = .returned (.tuple #[]) ∧ QM w' p g n (unmA 6 n B) ∧ Fr (One g) w w' := by
  have hl := h.l2
  have hfa : Fr Nil w (w.alloc (.cells #[.func (.func 261) #[] #[]] 344)) := (Fr.refl _ _).alloc _
  have HQ := Lib.hid ((h.nil hfa).congr (unm_zero 6 n B).symm)
  have HF := Lib.hid (hfa.any (One g))
  have hst := Blk.new w 344 #[.func (.func 261) #[] #[]]
  obtain ⟨W, hW⟩ : ∃ W, (w.alloc (.cells #[.func (.func 261) #[] #[]] 344)) = W := ⟨_, rfl⟩
  obtain ⟨t, ht⟩ : ∃ t, w.heap.size = t := ⟨_, rfl⟩
  rw [hW] at HQ HF hst
  rw [ht] at hst
  have hgt : g ≠ t := by have := h.ws.lt; omega
  have HST := Lib.hid (fun (w' : World) (hf : Fr (One g) W w') => (show w'.cell? ⟨t, 0, none⟩ = some (.func (.func 261) #[] #[]) from by
    rw [hf.cell hst.lt (fun e => hgt (by have : t = g := e; exact this.symm))]; simpa using hst.cell 0))
  have HW0 := Lib.hid (Fr.refl (One g) W)
  clear h hfa hst
  go_enter Tryz.func217, Tryz.ntmps217
  go_wp2_with fail
  try rw [hW]
  clear hW
  go_loopg [6, 7] n (fun c s6 s7 wr => ∃ i : Nat, i + c = n ∧ s6 = .int .i64 i ∧ Hid (QM wr p g n (unm 6 n i 0 B)) ∧ Hid (Fr (One g) w wr) ∧ Hid (Fr (One g) W wr))
  case atStart => exact ⟨0, by omega, rfl, HQ, HF, HW0⟩
  case round =>
    obtain ⟨i, hi, rfl, HQ1, HF1, HW1⟩ := hrel
    cases gk with
    | zero =>
      have hz : ¬ (i : Int) < (n : Int) := by omega
      have hin : i = n := by omega
      subst hin
      have HE := Lib.hid (HQ1.out.congr (unm_end 6 i B))
      go_wp2_with fail
      go_end0
      exact ⟨rfl, HE.out, HF1.out⟩
    | succ c =>
      have hz : (i : Int) < (n : Int) := by omega
      have hin : i < n := by omega
      have HI := Lib.hid hi
      clear hi
      go_wp2_with fail
      go_loopg [7] n (fun d s7 wq => ∃ j : Nat, j + d = n ∧ s7 = .int .i64 j ∧ Hid (QM wq p g n (unm 6 n i j B)) ∧ Hid (Fr (One g) w wq) ∧ Hid (Fr (One g) W wq))
      case atStart => exact ⟨0, by omega, rfl, HQ1, HF1, HW1⟩
      case round =>
        obtain ⟨j, hj, rfl, HQ2, HF2, HW2⟩ := hrel
        cases gk with
        | zero =>
          have hzz : ¬ (j : Int) < (n : Int) := by omega
          have hjn : j = n := by omega
          subst hjn
          have HE := Lib.hid (HQ2.out.congr (unm_row 6 j i B))
          go_wp2_with fail
          go_roundg c
          case measure => omega
          case rel => exact ⟨i + 1, by have := HI.out; omega, by go_num, HE, HF2, HW2⟩
        | succ d =>
          have hzz : (j : Int) < (n : Int) := by omega
          have hjn : j < n := by omega
          have c0 := HST.out _ HW2.out
          have HD := Lib.hid (dm6 i j (by omega) (by omega) wr)
          have HS := Lib.hid (qmFlip_calls HQ2.out j i hjn hin)
          have HJ := Lib.hid hj
          clear hj
          cases hb : dmk 6 i j with
          | true =>
            rw [hb] at HD
            have HST2 := Lib.hid (unm_yes 6 n i j B hb)
            clear hb
            go_wp2_with (go_at_call 261; refine HD.out.mono ?_; rintro e w2 ⟨rfl, rfl⟩)
            refine HS.out.mono ?_
            rintro e w2 ⟨rfl, hQ3, hF3⟩
            have HE := Lib.hid (hQ3.congr HST2.out)
            have HF3 := Lib.hid (HF2.out.trans hF3)
            have HW3 := Lib.hid (HW2.out.trans hF3)
            clear hQ3 hF3 c0
            go_wp2_with fail
            go_roundg d
            case measure => omega
            case rel => exact ⟨j + 1, by have := HJ.out; omega, by go_num, HE, HF3, HW3⟩
          | false =>
            rw [hb] at HD
            have HE := Lib.hid (HQ2.out.congr (unm_no 6 n i j B hb))
            clear hb
            go_wp2_with (go_at_call 261; refine HD.out.mono ?_; rintro e w2 ⟨rfl, rfl⟩)
            go_roundg d
            case measure => omega
            case rel => exact ⟨j + 1, by have := HJ.out; omega, by go_num, HE, HF2, HW2⟩
set_option maxHeartbeats 1600000 in
theorem unmask7 {w : World} {p g n : Nat} {B : Nat → Nat → Bool} (h : QM w p g n B) :
    Calls Tryz.prog 217 #[.agg #[.func (.func 262) #[] #[]], .pointer (some ⟨p, 0, none⟩), i64 n] w fun e w' => e = .returned (.tuple #[]) ∧ QM w' p g n (unmA 7 n B) ∧ Fr (One g) w w' := by
  have hl := h.l2
  have hfa : Fr Nil w (w.alloc (.cells #[.func (.func 262) #[] #[]] 344)) := (Fr.refl _ _).alloc _
  have HQ := Lib.hid ((h.nil hfa).congr (unm_zero 7 n B).symm)
  have HF := Lib.hid (hfa.any (One g))
  have hst := Blk.new w 344 #[.func (.func 262) #[] #[]]
  obtain ⟨W, hW⟩ : ∃ W, (w.alloc (.cells #[.func (.func 262) #[] #[]] 344)) = W := ⟨_, rfl⟩
  obtain ⟨t, ht⟩ : ∃ t, w.heap.size = t := ⟨_, rfl⟩
  rw [hW] at HQ HF hst
  rw [ht] at hst
  have hgt : g ≠ t := by have := h.ws.lt; omega
  have HST := Lib.hid (fun (w' : World) (hf : Fr (One g) W w') => (show w'.cell? ⟨t, 0, none⟩ = some (.func (.func 262) #[] #[]) from by
    rw [hf.cell hst.lt (fun e => hgt (by have : t = g := e; exact this.symm))]; simpa using hst.cell 0))
  have HW0 := Lib.hid (Fr.refl (One g) W)
  clear h hfa hst
  go_enter Tryz.func217, Tryz.ntmps217
  go_wp2_with fail
  try rw [hW]
  clear hW
  go_loopg [6, 7] n (fun c s6 s7 wr => ∃ i : Nat, i + c = n ∧ s6 = .int .i64 i ∧ Hid (QM wr p g n (unm 7 n i 0 B)) ∧ Hid (Fr (One g) w wr) ∧ Hid (Fr (One g) W wr))
  case atStart => exact ⟨0, by omega, rfl, HQ, HF, HW0⟩
  case round =>
    obtain ⟨i, hi, rfl, HQ1, HF1, HW1⟩ := hrel
    cases gk with
    | zero =>
      have hz : ¬ (i : Int) < (n : Int) := by omega
      have hin : i = n := by omega
      subst hin
      have HE := Lib.hid (HQ1.out.congr (unm_end 7 i B))
      go_wp2_with fail
      go_end0
      exact ⟨rfl, HE.out, HF1.out⟩
    | succ c =>
      have hz : (i : Int) < (n : Int) := by omega
      have hin : i < n := by omega
      have HI := Lib.hid hi
      clear hi
      go_wp2_with fail
      go_loopg [7] n (fun d s7 wq => ∃ j : Nat, j + d = n ∧ s7 = .int .i64 j ∧ Hid (QM wq p g n (unm 7 n i j B)) ∧ Hid (Fr (One g) w wq) ∧ Hid (Fr (One g) W wq))
      case atStart => exact ⟨0, by omega, rfl, HQ1, HF1, HW1⟩
      case round =>
        obtain ⟨j, hj, rfl, HQ2, HF2, HW2⟩ := hrel
        cases gk with
        | zero =>
          have hzz : ¬ (j : Int) < (n : Int) := by omega
          have hjn : j = n := by omega
          subst hjn
          have HE := Lib.hid (HQ2.out.congr (unm_row 7 j i B))
          go_wp2_with fail
          go_roundg c
          case measure => omega
          case rel => exact ⟨i + 1, by have := HI.out; omega, by go_num, HE, HF2, HW2⟩
        | succ d =>
          have hzz : (j : Int) < (n : Int) := by omega
          have hjn : j < n := by omega
          have c0 := HST.out _ HW2.out
          have HD := Lib.hid (dm7 i j (by omega) (by omega) wr)
          have HS := Lib.hid (qmFlip_calls HQ2.out j i hjn hin)
          have HJ := Lib.hid hj
          clear hj
          cases hb : dmk 7 i j with
          | true =>
            rw [hb] at HD
            have HST2 := Lib.hid (unm_yes 7 n i j B hb)
            clear hb
            go_wp2_with (go_at_call 262; refine HD.out.mono ?_; rintro e w2 ⟨rfl, rfl⟩)
            refine HS.out.mono ?_
            rintro e w2 ⟨rfl, hQ3, hF3⟩
            have HE := Lib.hid (hQ3.congr HST2.out)
            have HF3 := Lib.hid (HF2.out.trans hF3)
            have HW3 := Lib.hid (HW2.out.trans hF3)
            clear hQ3 hF3 c0
            go_wp2_with fail
            go_roundg d
            case measure => omega
            case rel => exact ⟨j + 1, by have := HJ.out; omega, by go_num, HE, HF3, HW3⟩
          | false =>
            rw [hb] at HD
            have HE := Lib.hid (HQ2.out.congr (unm_no 7 n i j B hb))
            clear hb
            go_wp2_with (go_at_call 262; refine HD.out.mono ?_; rintro e w2 ⟨rfl, rfl⟩)
            go_roundg d
            case measure => omega
            case rel => exact ⟨j + 1, by have := HJ.out; omega, by go_num, HE, HF2, HW2⟩
theorem unmask_calls {w : World} {p g n : Nat} {B : Nat → Nat → Bool} (h : QM w p g n B) (k : Nat) (hk : k < 8) :
    Calls Tryz.prog 217 #[.agg #[.func (.func (255 + k)) #[] #[]], .pointer (some ⟨p, 0, none⟩), i64 n] w fun e w' => e = .returned (.tuple #[]) ∧ QM w' p g n (unmA k n B) ∧ Fr (One g) w w' := by
  match k, hk with
  | 0, _ => exact unmask0 h
  | 1, _ => exact unmask1 h
  | 2, _ => exact unmask2 h
  | 3, _ => exact unmask3 h
  | 4, _ => exact unmask4 h
  | 5, _ => exact unmask5 h
  | 6, _ => exact unmask6 h
  | 7, _ => exact unmask7 h
end Go.Proofs.YtcekbhhpcmhicaaGreatDoor
/- The bits read along the path, byte by byte (plain). -/
namespace Go.Proofs.YtcekbhhpcmhicaaGreatDoor
open Go
set_option maxRecDepth 100000
def bOn (D F : Nat → Nat → Bool) (ps : List (Nat × Nat)) : List Bool := (ps.filter (opn F)).map fun p => D p.2 p.1
theorem bOn_yes (D F : Nat → Nat → Bool) (ps : List (Nat × Nat)) (c : Nat × Nat) (h : F c.2 c.1 = false) : bOn D F (ps ++ [c]) = bOn D F ps ++ [D c.2 c.1] := by
  unfold bOn
  rw [List.filter_append, List.map_append, List.filter_cons_of_pos (by unfold opn; rw [h]; rfl)]; rfl
theorem bOn_no (D F : Nat → Nat → Bool) (ps : List (Nat × Nat)) (c : Nat × Nat) (h : F c.2 c.1 = true) : bOn D F (ps ++ [c]) = bOn D F ps := by
  unfold bOn
  rw [List.filter_append, List.map_append, List.filter_cons_of_neg (by unfold opn; rw [h]; decide)]; simp
theorem bOn_le (D F : Nat → Nat → Bool) (ps qs : List (Nat × Nat)) : (bOn D F ps).length ≤ (bOn D F (ps ++ qs)).length := by
  unfold bOn
  rw [List.filter_append, List.map_append, List.length_append]; omega
theorem bOn_found (B : Nat → Nat → Bool) (k v c : Nat) (hc : 2 * c < 17 + 4 * v) : bOn (unmA k (17 + 4 * v) (cutB B (17 + 4 * v))) (fpM v) (pathOf (17 + 4 * v) c) = found B k v c := by
  unfold bOn found
  refine List.map_congr_left fun p hp => ?_
  have hin := path_in (List.mem_filter.1 hp).1 hc
  unfold unmA cutB
  rw [decide_eq_true (show p.2 < 17 + 4 * v ∧ p.1 < 17 + 4 * v from ⟨hin.2, hin.1⟩), Bool.true_and, Bool.true_and]
/-- a prefix of the path -/
theorem path_pre (n C c s t : Nat) (hc : c < C) (hs : s < n) : ∃ qs, pathOf n C = (pathOf n c ++ colOf n c s ++ (cellsOf n c s).take t) ++ qs := by
  have h1 : ∀ d, ∃ qs, pathOf n (c + d) = pathOf n c ++ qs := by
    intro d
    induction d with
    | zero => exact ⟨[], by simp⟩
    | succ d ih => obtain ⟨qs, e⟩ := ih; exact ⟨qs ++ colOf n (c + d) n, by rw [← Nat.add_assoc, pathOf_succ, e, List.append_assoc]⟩
  have h2 : ∀ d, ∃ qs, colOf n c (s + d) = colOf n c s ++ qs := by
    intro d
    induction d with
    | zero => exact ⟨[], by simp⟩
    | succ d ih => obtain ⟨qs, e⟩ := ih; exact ⟨qs ++ cellsOf n c (s + d), by rw [← Nat.add_assoc, colOf_succ, e, List.append_assoc]⟩
  obtain ⟨q1, e1⟩ := h1 (C - (c + 1) + 1)
  obtain ⟨q2, e2⟩ := h2 (n - (s + 1) + 1)
  have h3 : ∃ qs, colOf n c n = colOf n c (s + 1) ++ qs := by
    have : ∀ d, ∃ qs, colOf n c (s + 1 + d) = colOf n c (s + 1) ++ qs := by
      intro d
      induction d with
      | zero => exact ⟨[], by simp⟩
      | succ d ih => obtain ⟨qs, e⟩ := ih; exact ⟨qs ++ cellsOf n c (s + 1 + d), by rw [← Nat.add_assoc, colOf_succ, e, List.append_assoc]⟩
    obtain ⟨qs, e⟩ := this (n - (s + 1))
    rw [show s + 1 + (n - (s + 1)) = n from by omega] at e
    exact ⟨qs, e⟩
  have h4 : ∃ qs, pathOf n C = pathOf n (c + 1) ++ qs := by
    have : ∀ d, ∃ qs, pathOf n (c + 1 + d) = pathOf n (c + 1) ++ qs := by
      intro d
      induction d with
      | zero => exact ⟨[], by simp⟩
      | succ d ih => obtain ⟨qs, e⟩ := ih; exact ⟨qs ++ colOf n (c + 1 + d) n, by rw [← Nat.add_assoc, pathOf_succ, e, List.append_assoc]⟩
    obtain ⟨qs, e⟩ := this (C - (c + 1))
    rw [show c + 1 + (C - (c + 1)) = C from by omega] at e
    exact ⟨qs, e⟩
  obtain ⟨q3, e3⟩ := h3
  obtain ⟨q4, e4⟩ := h4
  refine ⟨(cellsOf n c s).drop t ++ q3 ++ q4, ?_⟩
  rw [e4, pathOf_succ, e3, colOf_succ]
  conv => lhs; rw [← List.take_append_drop t (cellsOf n c s)]
  simp only [List.append_assoc]
/-- the byte that is being read -/
def cbR (R : List Bool) : Nat := rd R (8 * (R.length / 8)) (R.length % 8)
def rowR (R : List Bool) : Nat → Value := fun i => u8 (if i < R.length / 8 then rd R (8 * i) 8 else 0)
theorem rd_snoc_low (R : List Bool) (b : Bool) (p n : Nat) (h : p + n ≤ R.length) : rd (R ++ [b]) p n = rd R p n := rd_congr fun i hi => gdL _ _ _ _ (by omega)
theorem rd_snoc_new (R : List Bool) (b : Bool) : rd (R ++ [b]) (8 * (R.length / 8)) (R.length % 8 + 1) = 2 * cbR R + (if b then 1 else 0) := by
  rw [rd_add, rd_snoc_low R b _ _ (by omega)]
  have : rd (R ++ [b]) (8 * (R.length / 8) + R.length % 8) 1 = if b then 1 else 0 := by
    have hb : (R ++ [b]).getD (8 * (R.length / 8) + R.length % 8 + (1 - 1 - 0)) false = b := by
      rw [show 8 * (R.length / 8) + R.length % 8 + (1 - 1 - 0) = R.length from by omega, gdR _ _ _ _ (Nat.le_refl _), Nat.sub_self]; rfl
    show 0 + (if (R ++ [b]).getD (8 * (R.length / 8) + R.length % 8 + (1 - 1 - 0)) false = true then 2 ^ 0 else 0) = _
    rw [hb]
    cases b <;> rfl
  rw [this]
  unfold cbR
  omega
theorem cbR_lt (R : List Bool) : cbR R < 128 := by
  have h1 : cbR R < 2 ^ (R.length % 8) := wf_lt _ _
  have h2 : 2 ^ (R.length % 8) ≤ 2 ^ 7 := Nat.pow_le_pow_right (by omega) (by omega)
  omega
/-- the next bit, no byte full -/
theorem step_part (R : List Bool) (b : Bool) (h : R.length % 8 ≠ 7) : (R ++ [b]).length / 8 = R.length / 8 ∧ (R ++ [b]).length % 8 = R.length % 8 + 1 ∧ cbR (R ++ [b]) = 2 * cbR R + (if b then 1 else 0) ∧ ∀ i, rowR (R ++ [b]) i = rowR R i := by
  have hl : (R ++ [b]).length = R.length + 1 := by simp
  have h1 : (R ++ [b]).length / 8 = R.length / 8 := by omega
  have h2 : (R ++ [b]).length % 8 = R.length % 8 + 1 := by omega
  refine ⟨h1, h2, ?_, fun i => ?_⟩
  · rw [← rd_snoc_new]; unfold cbR; rw [h1, h2]
  · unfold rowR
    rw [h1]
    split
    · rw [rd_snoc_low R b _ _ (by omega)]
    · rfl
/-- the next bit, the byte full -/
theorem step_full (R : List Bool) (b : Bool) (h : R.length % 8 = 7) : (R ++ [b]).length / 8 = R.length / 8 + 1 ∧ (R ++ [b]).length % 8 = 0 ∧ cbR (R ++ [b]) = 0 ∧ 2 * cbR R + (if b then 1 else 0) < 256 ∧ ∀ i, rowR (R ++ [b]) i = if i = R.length / 8 then u8 (2 * cbR R + (if b then 1 else 0)) else rowR R i := by
  have hl : (R ++ [b]).length = R.length + 1 := by simp
  have h1 : (R ++ [b]).length / 8 = R.length / 8 + 1 := by omega
  have h2 : (R ++ [b]).length % 8 = 0 := by omega
  have hc := cbR_lt R
  refine ⟨h1, h2, by unfold cbR; rw [h2]; rfl, by split <;> omega, fun i => ?_⟩
  unfold rowR
  rw [h1]
  by_cases e : i = R.length / 8
  · rw [if_pos e, if_pos (by omega), e, ← rd_snoc_new, h]
  · rw [if_neg e]
    by_cases e2 : i < R.length / 8
    · rw [if_pos e2, if_pos (by omega), rd_snoc_low R b _ _ (by omega)]
    · rw [if_neg e2, if_neg (by omega)]
end Go.Proofs.YtcekbhhpcmhicaaGreatDoor
/- qrAscii: some text of 1 to 600 bytes. -/
namespace Go.Proofs.YtcekbhhpcmhicaaGreatDoor
open Go Go.RowKit Go.Deep
set_option maxRecDepth 100000
theorem qrSigns (i : Nat) (hi : i < 9) (w : World) : ∃ x : Nat, x < 256 ∧ (Instr.index 177 (.agg #[.int .u8 32, .int .u8 36, .int .u8 37, .int .u8 42, .int .u8 43, .int .u8 45, .int .u8 46, .int .u8 47, .int .u8 58]) (.int .i64 i)).run Tryz.prog w = .ok (.int .u8 x) w := by
  match i, hi with
  | 0, _ => exact ⟨32, by decide, by kernel_rfl⟩
  | 1, _ => exact ⟨36, by decide, by kernel_rfl⟩
  | 2, _ => exact ⟨37, by decide, by kernel_rfl⟩
  | 3, _ => exact ⟨42, by decide, by kernel_rfl⟩
  | 4, _ => exact ⟨43, by decide, by kernel_rfl⟩
  | 5, _ => exact ⟨45, by decide, by kernel_rfl⟩
  | 6, _ => exact ⟨46, by decide, by kernel_rfl⟩
  | 7, _ => exact ⟨47, by decide, by kernel_rfl⟩
  | 8, _ => exact ⟨58, by decide, by kernel_rfl⟩
set_option maxHeartbeats 1600000 in
theorem qrAlpha_any (c : Nat) (hc : c < 256) (w : World) : Calls Tryz.prog 41 #[.int .u8 c] w fun e w' => (∃ k : Int, e = .returned (.int .i64 k)) ∧ w = w' := by
  have hcz : (c : Int) < 256 := by omega
  go_enter Tryz.func41, Tryz.ntmps41
  go_wp2_with fail
  all_goals first | (go_ret; exact ⟨⟨_, rfl⟩, rfl⟩) | skip
  all_goals
    go_loopg [3, 4, 27] 9 (fun r s3 s4 s27 wr => ∃ i : Nat, Hid (i + r = 9) ∧ s27 = .int .i64 i ∧ wr = w)
    case atStart => exact ⟨0, Lib.hid rfl, rfl, rfl⟩
    case round =>
      obtain ⟨i, HI, rfl, rfl⟩ := hrel
      cases gk with
      | zero =>
        have hz : ¬ (i : Int) < 9 := by have := HI.out; omega
        go_wp2_with fail
        go_ret
        exact ⟨⟨_, rfl⟩, rfl⟩
      | succ r =>
        have hz : (i : Int) < 9 := by have := HI.out; omega
        have hi300 : i < 9 := by omega
        obtain ⟨x, hx, hrun⟩ := qrSigns i hi300 wr
        clear hx
        cases hb : ((c : Int) == (x : Int)) with
        | true =>
          go_wp2_with fail
          go_ret
          exact ⟨⟨_, rfl⟩, rfl⟩
        | false =>
          go_wp2_with fail
          go_roundg r
          case measure => omega
          case rel => exact ⟨i + 1, Lib.hid (by have := HI.out; omega), by go_num, rfl⟩
set_option maxHeartbeats 1600000 in
theorem qrAlphaByte_any (n : Int) (w : World) : Calls Tryz.prog 14 #[.int .i64 n] w fun e w' => (∃ c : Nat, e = .returned (.int .u8 c) ∧ c < 256) ∧ w = w' := by
  go_enter Tryz.func14, Tryz.ntmps14
  go_wp2_with fail
  go_loopg [3] 59 (fun r s3 wr => ∃ c : Nat, Hid (c + r = 91 ∧ 32 ≤ c) ∧ s3 = .int .u8 c ∧ wr = w)
  case atStart => exact ⟨32, Lib.hid ⟨by omega, by omega⟩, rfl, rfl⟩
  case round =>
    obtain ⟨c, HC, rfl, rfl⟩ := hrel
    cases gk with
    | zero =>
      have hz : ¬ (c : Int) ≤ 90 := by have := HC.out; omega
      go_wp2_with fail
      go_ret
      exact ⟨⟨0, rfl, by omega⟩, rfl⟩
    | succ r =>
      have hz : (c : Int) ≤ 90 := by have := HC.out; omega
      have hc : c < 256 := by omega
      go_wp2_with fail
      refine (qrAlpha_any c hc _).mono ?_
      rintro e w1 ⟨⟨k, rfl⟩, rfl⟩
      cases hb : (k == n) with
      | true =>
        go_wp2_with fail
        go_ret
        exact ⟨⟨c, rfl, hc⟩, rfl⟩
      | false =>
        go_wp2_with fail
        go_roundg r
        case measure => omega
        case rel => exact ⟨c + 1, Lib.hid (by have := HC.out; omega), by go_num, rfl⟩
set_option maxHeartbeats 3200000 in
theorem qrAscii_calls (text : ByteArray) (hx : text.size ≤ maxLen) (kind : Nat) (hk : kind < 256) (w : World) :
    Calls Tryz.prog 5 #[.string text, .int .u8 kind, .int .i64 600] w fun e w' => ∃ s : ByteArray, e = .returned (.string s) ∧ 1 ≤ s.size ∧ s.size ≤ 600 ∧ Fr Nil w w' := by
  unfold maxLen at hx
  obtain ⟨M, hM⟩ : ∃ M, min text.size 600 = M := ⟨_, rfl⟩
  have HM := Lib.hid hM
  clear hM
  go_enter Tryz.func5, Tryz.ntmps5
  go_wp2_with fail
  go_loopg [7, 8, 21, 30, 40] M (fun r s7 s8 s21 s30 s40 wr => ∃ (i : Nat) (b : Option Addr) (c : Nat) (xs : List Nat), Hid (i + r = M ∧ xs.length = i) ∧ s8 = .int .i64 i ∧ s7 = .slice b i c ∧ Hid (wr.ownsRow w.heap.size 5 1 (.slice b i c) i (xs.map u8)) ∧ Hid (Fr Nil w wr))
  case atStart => exact ⟨0, none, 0, [], Lib.hid ⟨by omega, rfl⟩, rfl, rfl, Lib.hid (owns_nil _ _ _), Lib.hid (Fr.refl _ _)⟩
  case round =>
    obtain ⟨i, b, c, xs, HI, rfl, rfl, HO, HF⟩ := hrel
    cases gk with
    | zero =>
      have hiM : i ≤ 600 := by have := HI.out; have := HM.out; omega
      have hout : ¬ (i : Int) < (text.size : Int) ∨ ((i : Int) < (text.size : Int) ∧ ¬ (i : Int) < 600) := by have := HI.out; have := HM.out; omega
      by_cases h0 : i = 0
      · rcases hout with h1 | ⟨h1, h2⟩
        · subst h0
          go_wp2_with fail
          go_ret
          exact ⟨_, rfl, by decide, by decide, HF.out⟩
        · omega
      · obtain ⟨g, hg⟩ : ∃ g, b = some ⟨g, 0, none⟩ := by
          rcases HO.out.2 with ⟨h, _⟩ | ⟨g, cap, cur, hv, _⟩
          · cases h; omega
          · cases hv; exact ⟨g, rfl⟩
        subst hg
        have hlen := HI.out.2
        subst hlen
        have hcv := convB HO.out
        have hne : ((xs.length : Int) == 0) = false := by rw [beq_eq_false_iff_ne]; omega
        have HSZ := Lib.hid (strOf_size xs)
        rcases hout with h1 | ⟨h1, h2⟩
        · go_wp2_with fail
          go_ret
          exact ⟨_, rfl, by rw [HSZ.out]; omega, by rw [HSZ.out]; exact hiM, HF.out⟩
        · go_wp2_with fail
          go_ret
          exact ⟨_, rfl, by rw [HSZ.out]; omega, by rw [HSZ.out]; exact hiM, HF.out⟩
    | succ r =>
      have hi1 : i < text.size := by have := HI.out; have := HM.out; omega
      have hi6 : (i : Int) < 600 := by have := HI.out; have := HM.out; omega
      have hi1z : (i : Int) < (text.size : Int) := by omega
      have hb : (text[i].toNat : Int) < 256 := by have := text[i].toNat_lt; omega
      have hk3 : kind % 3 = 0 ∨ kind % 3 = 1 ∨ kind % 3 = 2 := by omega
      have hkz : (kind : Int) % 3 = ((kind % 3 : Nat) : Int) := by omega
      rcases hk3 with h3 | h3 | h3
      · rw [h3] at hkz
        clear h3
        obtain ⟨g2, cap2, w2, hap, hown, hfr, -⟩ := appV (w := wr) (lo := w.heap.size) (n := i) (T := 5) (ST := 30) (sv := .slice b i c) (v := .int .u8 (48 + (text[i].toNat : Int) % 10)) Tryz.und30 Tryz.inf5 rfl (by omega) HO.out (by omega) HF.out.size rfl
        have hx : (.int .u8 (48 + (text[i].toNat : Int) % 10) : Value) = u8 (48 + text[i].toNat % 10) := by
          show Value.int .u8 _ = Value.int .u8 _
          congr 1
        have HN := Lib.hid (show _ ∧ _ from ⟨(show w2.ownsRow w.heap.size 5 1 (.slice (some ⟨g2, 0, none⟩) (i + 1) cap2) (i + 1) ((xs ++ [48 + text[i].toNat % 10]).map u8) from by rw [List.map_append]; rw [hx] at hown; exact hown),
          HF.out.trans' hfr (fun k hk e => by have := (owns_lt HO.out e).2.1; omega)⟩)
        have HAP := Lib.hid hap
        clear hap hown hfr hx HO HF
        go_wp2_with (at_builtin; refine Lib.wpList_append_run _ rfl _ _ _ _ rfl _ _ rfl rfl _ _ HAP.out ?_)
        go_roundg r
        case measure => omega
        case rel => exact ⟨i + 1, _, cap2, _, Lib.hid ⟨by have := HI.out; omega, by rw [List.length_append, HI.out.2]; rfl⟩, by go_num, rfl, Lib.hid HN.out.1, Lib.hid HN.out.2⟩
      · rw [h3] at hkz
        clear h3
        go_wp2_with fail
        refine (qrAlphaByte_any _ _).mono ?_
        rintro e w1 ⟨⟨x, rfl, hx⟩, rfl⟩
        obtain ⟨g2, cap2, w2, hap, hown, hfr, -⟩ := appV (w := wr) (lo := w.heap.size) (n := i) (T := 5) (ST := 30) (sv := .slice b i c) (v := .int .u8 (x : Int)) Tryz.und30 Tryz.inf5 rfl (by omega) HO.out (by omega) HF.out.size rfl
        have HN := Lib.hid (show _ ∧ _ from ⟨(show w2.ownsRow w.heap.size 5 1 (.slice (some ⟨g2, 0, none⟩) (i + 1) cap2) (i + 1) ((xs ++ [x]).map u8) from by rw [List.map_append]; exact hown),
          HF.out.trans' hfr (fun k hk e => by have := (owns_lt HO.out e).2.1; omega)⟩)
        have HAP := Lib.hid hap
        clear hap hown hfr HO HF
        go_wp2_with (at_builtin; refine Lib.wpList_append_run _ rfl _ _ _ _ rfl _ _ rfl rfl _ _ HAP.out ?_)
        go_roundg r
        case measure => omega
        case rel => exact ⟨i + 1, _, cap2, _, Lib.hid ⟨by have := HI.out; omega, by rw [List.length_append, HI.out.2]; rfl⟩, by go_num, rfl, Lib.hid HN.out.1, Lib.hid HN.out.2⟩
      · rw [h3] at hkz
        clear h3
        obtain ⟨g2, cap2, w2, hap, hown, hfr, -⟩ := appV (w := wr) (lo := w.heap.size) (n := i) (T := 5) (ST := 30) (sv := .slice b i c) (v := .int .u8 (32 + (text[i].toNat : Int) % 95)) Tryz.und30 Tryz.inf5 rfl (by omega) HO.out (by omega) HF.out.size rfl
        have hx : (.int .u8 (32 + (text[i].toNat : Int) % 95) : Value) = u8 (32 + text[i].toNat % 95) := by
          show Value.int .u8 _ = Value.int .u8 _
          congr 1
        have HN := Lib.hid (show _ ∧ _ from ⟨(show w2.ownsRow w.heap.size 5 1 (.slice (some ⟨g2, 0, none⟩) (i + 1) cap2) (i + 1) ((xs ++ [32 + text[i].toNat % 95]).map u8) from by rw [List.map_append]; rw [hx] at hown; exact hown),
          HF.out.trans' hfr (fun k hk e => by have := (owns_lt HO.out e).2.1; omega)⟩)
        have HAP := Lib.hid hap
        clear hap hown hfr hx HO HF
        go_wp2_with (at_builtin; refine Lib.wpList_append_run _ rfl _ _ _ _ rfl _ _ rfl rfl _ _ HAP.out ?_)
        go_roundg r
        case measure => omega
        case rel => exact ⟨i + 1, _, cap2, _, Lib.hid ⟨by have := HI.out; omega, by rw [List.length_append, HI.out.2]; rfl⟩, by go_num, rfl, Lib.hid HN.out.1, Lib.hid HN.out.2⟩
end Go.Proofs.YtcekbhhpcmhicaaGreatDoor
/- qrAscii: some text of 1 to 300 bytes. -/
namespace Go.Proofs.YtcekbhhpcmhicaaGreatDoor
open Go Go.RowKit Go.Deep
set_option maxRecDepth 100000
set_option maxHeartbeats 3200000 in
theorem qrAscii3_calls (text : ByteArray) (hx : text.size ≤ maxLen) (kind : Nat) (hk : kind < 256) (w : World) :
    Calls Tryz.prog 5 #[.string text, .int .u8 kind, .int .i64 300] w fun e w' => ∃ s : ByteArray, e = .returned (.string s) ∧ 1 ≤ s.size ∧ s.size ≤ 300 ∧ Fr Nil w w' := by
  unfold maxLen at hx
  obtain ⟨M, hM⟩ : ∃ M, min text.size 300 = M := ⟨_, rfl⟩
  have HM := Lib.hid hM
  clear hM
  go_enter Tryz.func5, Tryz.ntmps5
  go_wp2_with fail
  go_loopg [7, 8, 21, 30, 40] M (fun r s7 s8 s21 s30 s40 wr => ∃ (i : Nat) (b : Option Addr) (c : Nat) (xs : List Nat), Hid (i + r = M ∧ xs.length = i) ∧ s8 = .int .i64 i ∧ s7 = .slice b i c ∧ Hid (wr.ownsRow w.heap.size 5 1 (.slice b i c) i (xs.map u8)) ∧ Hid (Fr Nil w wr))
  case atStart => exact ⟨0, none, 0, [], Lib.hid ⟨by omega, rfl⟩, rfl, rfl, Lib.hid (owns_nil _ _ _), Lib.hid (Fr.refl _ _)⟩
  case round =>
    obtain ⟨i, b, c, xs, HI, rfl, rfl, HO, HF⟩ := hrel
    cases gk with
    | zero =>
      have hiM : i ≤ 300 := by have := HI.out; have := HM.out; omega
      have hout : ¬ (i : Int) < (text.size : Int) ∨ ((i : Int) < (text.size : Int) ∧ ¬ (i : Int) < 300) := by have := HI.out; have := HM.out; omega
      by_cases h0 : i = 0
      · rcases hout with h1 | ⟨h1, h2⟩
        · subst h0
          go_wp2_with fail
          go_ret
          exact ⟨_, rfl, by decide, by decide, HF.out⟩
        · omega
      · obtain ⟨g, hg⟩ : ∃ g, b = some ⟨g, 0, none⟩ := by
          rcases HO.out.2 with ⟨h, _⟩ | ⟨g, cap, cur, hv, _⟩
          · cases h; omega
          · cases hv; exact ⟨g, rfl⟩
        subst hg
        have hlen := HI.out.2
        subst hlen
        have hcv := convB HO.out
        have hne : ((xs.length : Int) == 0) = false := by rw [beq_eq_false_iff_ne]; omega
        have HSZ := Lib.hid (strOf_size xs)
        rcases hout with h1 | ⟨h1, h2⟩
        · go_wp2_with fail
          go_ret
          exact ⟨_, rfl, by rw [HSZ.out]; omega, by rw [HSZ.out]; exact hiM, HF.out⟩
        · go_wp2_with fail
          go_ret
          exact ⟨_, rfl, by rw [HSZ.out]; omega, by rw [HSZ.out]; exact hiM, HF.out⟩
    | succ r =>
      have hi1 : i < text.size := by have := HI.out; have := HM.out; omega
      have hi6 : (i : Int) < 300 := by have := HI.out; have := HM.out; omega
      have hi1z : (i : Int) < (text.size : Int) := by omega
      have hb : (text[i].toNat : Int) < 256 := by have := text[i].toNat_lt; omega
      have hk3 : kind % 3 = 0 ∨ kind % 3 = 1 ∨ kind % 3 = 2 := by omega
      have hkz : (kind : Int) % 3 = ((kind % 3 : Nat) : Int) := by omega
      rcases hk3 with h3 | h3 | h3
      · rw [h3] at hkz
        clear h3
        obtain ⟨g2, cap2, w2, hap, hown, hfr, -⟩ := appV (w := wr) (lo := w.heap.size) (n := i) (T := 5) (ST := 30) (sv := .slice b i c) (v := .int .u8 (48 + (text[i].toNat : Int) % 10)) Tryz.und30 Tryz.inf5 rfl (by omega) HO.out (by omega) HF.out.size rfl
        have hx : (.int .u8 (48 + (text[i].toNat : Int) % 10) : Value) = u8 (48 + text[i].toNat % 10) := by
          show Value.int .u8 _ = Value.int .u8 _
          congr 1
        have HN := Lib.hid (show _ ∧ _ from ⟨(show w2.ownsRow w.heap.size 5 1 (.slice (some ⟨g2, 0, none⟩) (i + 1) cap2) (i + 1) ((xs ++ [48 + text[i].toNat % 10]).map u8) from by rw [List.map_append]; rw [hx] at hown; exact hown),
          HF.out.trans' hfr (fun k hk e => by have := (owns_lt HO.out e).2.1; omega)⟩)
        have HAP := Lib.hid hap
        clear hap hown hfr hx HO HF
        go_wp2_with (at_builtin; refine Lib.wpList_append_run _ rfl _ _ _ _ rfl _ _ rfl rfl _ _ HAP.out ?_)
        go_roundg r
        case measure => omega
        case rel => exact ⟨i + 1, _, cap2, _, Lib.hid ⟨by have := HI.out; omega, by rw [List.length_append, HI.out.2]; rfl⟩, by go_num, rfl, Lib.hid HN.out.1, Lib.hid HN.out.2⟩
      · rw [h3] at hkz
        clear h3
        go_wp2_with fail
        refine (qrAlphaByte_any _ _).mono ?_
        rintro e w1 ⟨⟨x, rfl, hx⟩, rfl⟩
        obtain ⟨g2, cap2, w2, hap, hown, hfr, -⟩ := appV (w := wr) (lo := w.heap.size) (n := i) (T := 5) (ST := 30) (sv := .slice b i c) (v := .int .u8 (x : Int)) Tryz.und30 Tryz.inf5 rfl (by omega) HO.out (by omega) HF.out.size rfl
        have HN := Lib.hid (show _ ∧ _ from ⟨(show w2.ownsRow w.heap.size 5 1 (.slice (some ⟨g2, 0, none⟩) (i + 1) cap2) (i + 1) ((xs ++ [x]).map u8) from by rw [List.map_append]; exact hown),
          HF.out.trans' hfr (fun k hk e => by have := (owns_lt HO.out e).2.1; omega)⟩)
        have HAP := Lib.hid hap
        clear hap hown hfr HO HF
        go_wp2_with (at_builtin; refine Lib.wpList_append_run _ rfl _ _ _ _ rfl _ _ rfl rfl _ _ HAP.out ?_)
        go_roundg r
        case measure => omega
        case rel => exact ⟨i + 1, _, cap2, _, Lib.hid ⟨by have := HI.out; omega, by rw [List.length_append, HI.out.2]; rfl⟩, by go_num, rfl, Lib.hid HN.out.1, Lib.hid HN.out.2⟩
      · rw [h3] at hkz
        clear h3
        obtain ⟨g2, cap2, w2, hap, hown, hfr, -⟩ := appV (w := wr) (lo := w.heap.size) (n := i) (T := 5) (ST := 30) (sv := .slice b i c) (v := .int .u8 (32 + (text[i].toNat : Int) % 95)) Tryz.und30 Tryz.inf5 rfl (by omega) HO.out (by omega) HF.out.size rfl
        have hx : (.int .u8 (32 + (text[i].toNat : Int) % 95) : Value) = u8 (32 + text[i].toNat % 95) := by
          show Value.int .u8 _ = Value.int .u8 _
          congr 1
        have HN := Lib.hid (show _ ∧ _ from ⟨(show w2.ownsRow w.heap.size 5 1 (.slice (some ⟨g2, 0, none⟩) (i + 1) cap2) (i + 1) ((xs ++ [32 + text[i].toNat % 95]).map u8) from by rw [List.map_append]; rw [hx] at hown; exact hown),
          HF.out.trans' hfr (fun k hk e => by have := (owns_lt HO.out e).2.1; omega)⟩)
        have HAP := Lib.hid hap
        clear hap hown hfr hx HO HF
        go_wp2_with (at_builtin; refine Lib.wpList_append_run _ rfl _ _ _ _ rfl _ _ rfl rfl _ _ HAP.out ?_)
        go_roundg r
        case measure => omega
        case rel => exact ⟨i + 1, _, cap2, _, Lib.hid ⟨by have := HI.out; omega, by rw [List.length_append, HI.out.2]; rfl⟩, by go_num, rfl, Lib.hid HN.out.1, Lib.hid HN.out.2⟩
end Go.Proofs.YtcekbhhpcmhicaaGreatDoor
