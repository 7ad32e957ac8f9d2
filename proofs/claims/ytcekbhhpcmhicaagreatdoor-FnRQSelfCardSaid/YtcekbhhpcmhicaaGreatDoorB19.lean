/- BitSource.ReadBits. -/
import Derived.Laws.BytesString
import Derived.Test.YtcekbhhpcmhicaaGreatDoorB18
import Derived.Test.YtcekbhhpcmhicaaGreatDoorB05
import Derived.Test.YtcekbhhpcmhicaaGreatDoorB15
set_option linter.unusedSimpArgs false
set_option linter.unusedVariables false
namespace Go.Proofs.YtcekbhhpcmhicaaGreatDoor
open Go Go.RowKit Go.Deep
set_option maxRecDepth 100000
theorem SM.byte {w : World} {p g pos : Nat} {l : List Nat} (h : SM w p g l pos) {i : Nat} (hi : i < l.length) : w.cell? ⟨g, i, none⟩ = some (u8 (l.getD i 0)) ∧ l.getD i 0 < 256 :=
  ⟨h.ws.cell hi, Elems.at h.el i hi⟩
set_option maxHeartbeats 3200000 in
theorem readBits_calls {w : World} {p g pos : Nat} {l : List Nat} (h : SM w p g l pos) (n : Nat) (hn1 : 1 ≤ n) (hn : n ≤ 16) (hpos : pos + n ≤ 8 * l.length) :
    Calls Tryz.prog 244 #[.pointer (some ⟨p, 0, none⟩), i64 n] w fun e w' => e = .returned (.tuple #[i64 (rd (bitsOf l) pos n), .nilIface]) ∧ SM w' p g l (pos + n) ∧ Fr (One p) w w' := by
  have HAV := Lib.hid (available_calls h (by omega))
  obtain ⟨c0, c1, c2⟩ := h.c
  have hle := h.le
  have H := Lib.hid h
  obtain ⟨o, ho⟩ : ∃ o, pos / 8 = o := ⟨_, rfl⟩
  obtain ⟨bi, hbi⟩ : ∃ bi, pos % 8 = bi := ⟨_, rfl⟩
  rw [ho] at c1
  rw [hbi] at c2
  have hpe : pos = 8 * o + bi := by omega
  have hb8 : bi < 8 := by omega
  obtain ⟨av, hav⟩ : ∃ av, 8 * l.length - pos = av := ⟨_, rfl⟩
  rw [hav] at HAV
  have hnav : ¬ (av : Int) < (n : Int) := by omega
  have HP := Lib.hid hpe
  have HL := Lib.hid hpos
  have HO := Lib.hid (show _ ∧ _ from ⟨ho, hbi⟩)
  clear h ho hbi hav hpe c0 c1 c2
  generalize hL : l.length = L at *
  have HLL := Lib.hid hL
  clear hL
  go_enter Tryz.func244, Tryz.ntmps244
  go_wp2_with fail
  refine HAV.out.mono ?_
  rintro e w1 ⟨rfl, hf1⟩
  have H1 := Lib.hid (H.out.fr hf1 (fun e => e) (fun e => e))
  obtain ⟨c0, c1, c2⟩ := H1.out.c
  rw [HLL.out] at c0
  rw [HO.out.1] at c1
  rw [HO.out.2] at c2
  have HF1 := Lib.hid (hf1.any (One p))
  clear hf1
  go_upto_if 30 with fail
  go_cut [1, 6] (fun s1 s6 wc => ∃ m r : Nat, Hid (m ≤ n ∧ r = rd (bitsOf l) pos (n - m) ∧ (m = 0 ∨ (pos + (n - m)) % 8 = 0)) ∧ s1 = .int .i64 m ∧ s6 = .int .i64 r ∧ SM wc p g l (pos + (n - m)) ∧ Fr (One p) w wc)
  case first =>
    by_cases hb0 : bi = 0
    · subst hb0
      go_wp2_with fail
      go_meet
      exact ⟨n, 0, Lib.hid ⟨Nat.le_refl _, by rw [Nat.sub_self]; rfl, .inr (by have := HP.out; omega)⟩, rfl, rfl, by rw [Nat.sub_self]; exact H1.out, HF1.out⟩
    · obtain ⟨bl, hbl⟩ : ∃ bl, 8 - bi = bl := ⟨_, rfl⟩
      have hA1 : (8 : Int) - (bi : Int) = (bl : Int) := by omega
      have hbz : (0 : Int) < (bi : Int) := by omega
      have hoL : o < L := by have := HP.out; have := HL.out; omega
      obtain ⟨d0, d1⟩ := H1.out.byte (i := o) (by rw [HLL.out]; exact hoL)
      have hbu : bl ≤ 7 := by omega
      have hbl1 : 1 ≤ bl := by omega
      by_cases hlt : n < bl
      · have hltz : (n : Int) < (bl : Int) := by omega
        obtain ⟨kk, hkk⟩ : ∃ kk, bl - n = kk := ⟨_, rfl⟩
        have hA2 : (bl : Int) - (n : Int) = (kk : Int) := by omega
        obtain ⟨ee, hee⟩ : ∃ ee, 8 - n = ee := ⟨_, rfl⟩
        have hA3 : (8 : Int) - (n : Int) = (ee : Int) := by omega
        obtain ⟨mk, z, r, e1, e2, e3, e4, hz, hm⟩ := cut_byte n kk ee (l.getD o 0) (by omega) hee d1
        have hrd : r = rd (bitsOf l) pos n := by
          have := rd_piece l o bi n (by rw [HLL.out]; exact hoL) (by omega)
          rw [← HP.out, show 8 - bi - n = kk from by omega, ← e4] at this
          exact this.symm
        have hfz := Blk.frozen H1.out.st 2
        have HN := Lib.hid (fun nq => (show SM ((w1.drewN nq).setCell ⟨p, 2, none⟩ (.int .i64 ((bi : Int) + (n : Int)))) p g l (pos + n) ∧ Fr (One p) w ((w1.drewN nq).setCell ⟨p, 2, none⟩ (.int .i64 ((bi : Int) + (n : Int)))) from
          ⟨⟨by
            have hset := Blk.set_ (w := w1.drewN nq) H1.out.st 2 (.int .i64 ((bi : Int) + (n : Int)))
            rw [show (pos + n) / 8 = pos / 8 from by have := HP.out; omega, show (pos + n) % 8 = bi + n from by have := HP.out; omega, show i64 (bi + n) = .int .i64 ((bi : Int) + (n : Int)) from rfl]
            simpa using hset, World.rowIs.setOther (w := w1.drewN nq) (a := ⟨p, 2, none⟩) H1.out.ws (Blk.row_ne H1.out.st H1.out.ws (by decide)).symm _, H1.out.el, H1.out.le⟩, Fr.set1 (HF1.out.drewN nq) 2 _⟩))
        have HRD := Lib.hid hrd
        have hb8e : ((bi : Int) + (n : Int) == 8) = false := beq_eq_false_iff_ne.2 (by omega)
        clear hrd e4
        generalize l.getD o 0 = by0 at *
        go_wp2_with (go_quiet (fail))
        go_meet
        exact ⟨0, r, Lib.hid ⟨by omega, by rw [Nat.sub_zero]; exact HRD.out, .inl rfl⟩, rfl, rfl, by rw [Nat.sub_zero]; exact (HN.out _).1, (HN.out _).2⟩
      · have hltz : ¬ (n : Int) < (bl : Int) := by omega
        have hA3 : (8 : Int) - (bl : Int) = (bi : Int) := by omega
        obtain ⟨m, hm2⟩ : ∃ m, n - bl = m := ⟨_, rfl⟩
        have hA4 : (n : Int) - (bl : Int) = (m : Int) := by omega
        obtain ⟨mk, z, r, e1, e2, e3, e4, hz, hm⟩ := cut_byte bl 0 bi (l.getD o 0) (by omega) (by omega) d1
        have hrd : r = rd (bitsOf l) pos (n - m) := by
          have := rd_piece l o bi bl (by rw [HLL.out]; exact hoL) (by omega)
          rw [← HP.out, show 8 - bi - bl = 0 from by omega, ← e4] at this
          rw [show n - m = bl from by omega]
          exact this.symm
        have HRD := Lib.hid hrd
        have hfz := Blk.frozen H1.out.st 2
        have hfz1 := Blk.frozen H1.out.st 1
        have hb8e : (bi : Int) + (bl : Int) = 8 := by omega
        have HN := Lib.hid (fun nq => (show SM ((((w1.drewN nq).setCell ⟨p, 2, none⟩ (.int .i64 8)).setCell ⟨p, 2, none⟩ (.int .i64 0)).setCell ⟨p, 1, none⟩ (.int .i64 ((o : Int) + 1))) p g l (pos + (n - m)) ∧
            Fr (One p) w ((((w1.drewN nq).setCell ⟨p, 2, none⟩ (.int .i64 8)).setCell ⟨p, 2, none⟩ (.int .i64 0)).setCell ⟨p, 1, none⟩ (.int .i64 ((o : Int) + 1))) from
          ⟨⟨by
            have hset := Blk.set_ (Blk.set_ (Blk.set_ (w := w1.drewN nq) H1.out.st 2 (.int .i64 8)) 2 (.int .i64 0)) 1 (.int .i64 ((o : Int) + 1))
            rw [show (pos + (n - m)) / 8 = o + 1 from by have := HP.out; omega, show (pos + (n - m)) % 8 = 0 from by have := HP.out; omega, show i64 (o + 1) = .int .i64 ((o : Int) + 1) from rfl, show i64 0 = .int .i64 0 from rfl]
            simpa using hset, World.rowIs.setOther (a := ⟨p, 1, none⟩) (World.rowIs.setOther (a := ⟨p, 2, none⟩) (World.rowIs.setOther (w := w1.drewN nq) (a := ⟨p, 2, none⟩) H1.out.ws (Blk.row_ne H1.out.st H1.out.ws (by decide)).symm _) (Blk.row_ne H1.out.st H1.out.ws (by decide)).symm _) (Blk.row_ne H1.out.st H1.out.ws (by decide)).symm _, H1.out.el, H1.out.le⟩,
            Fr.set1 (Fr.set1 (Fr.set1 (HF1.out.drewN nq) 2 _) 2 _) 1 _⟩))
        have HMA := Lib.hid (show m ≤ n ∧ (pos + (n - m)) % 8 = 0 from ⟨by omega, by have := HP.out; omega⟩)
        simp only [Int.pow_zero, Int.mul_one, Int.ediv_one] at e1 e3
        clear hrd e4
        generalize l.getD o 0 = by0 at *
        go_wp2_with (go_quiet (fail))
        go_meet
        exact ⟨m, r, Lib.hid ⟨HMA.out.1, HRD.out, .inr HMA.out.2⟩, rfl, rfl, (HN.out _).1, (HN.out _).2⟩
  case rest =>
    obtain ⟨m, r, HM, rfl, rfl, hSM, hfc⟩ := hcut
    have HSM := Lib.hid hSM
    have HFC := Lib.hid hfc
    clear hSM hfc
    by_cases hm0 : m = 0
    · subst hm0
      have HR : Hid (r = rd (bitsOf l) pos n) := Lib.hid HM.out.2.1
      have HS2 : Hid (SM wc p g l (pos + n)) := Lib.hid HSM.out
      go_wp2_with fail
      go_ret2
      exact ⟨by rw [← HR.out]; rfl, HS2.out, HFC.out⟩
    · have hmz : (0 : Int) < (m : Int) := by omega
      have HM2 := Lib.hid (show m ≤ n ∧ r = rd (bitsOf l) pos (n - m) ∧ (pos + (n - m)) % 8 = 0 from ⟨HM.out.1, HM.out.2.1, HM.out.2.2.resolve_left hm0⟩)
      go_wp2_with fail
      go_loopg [1, 6] (m / 8) (fun k s1 s6 wr => ∃ m r : Nat, m / 8 = k ∧ Hid (m ≤ n ∧ r = rd (bitsOf l) pos (n - m) ∧ (pos + (n - m)) % 8 = 0) ∧ s1 = .int .i64 m ∧ s6 = .int .i64 r ∧ Hid (SM wr p g l (pos + (n - m))) ∧ Hid (Fr (One p) w wr))
      case atStart => exact ⟨m, r, rfl, HM2, rfl, rfl, HSM, HFC⟩
      case round =>
        obtain ⟨m3, r3, hk, HM3, rfl, rfl, HS3, HF3⟩ := hrel
        have hm3n : m3 ≤ 16 := by have := HM3.out.1; omega
        cases gk with
        | zero =>
          have h8 : ¬ (8 : Int) ≤ (m3 : Int) := by omega
          by_cases h0 : m3 = 0
          · subst h0
            have HR : Hid (r3 = rd (bitsOf l) pos n) := Lib.hid HM3.out.2.1
            have HS4 : Hid (SM wr p g l (pos + n)) := Lib.hid HS3.out
            go_wp2_with fail
            go_ret2
            exact ⟨by rw [← HR.out]; rfl, HS4.out, HF3.out⟩
          · have h0z : (0 : Int) < (m3 : Int) := by omega
            obtain ⟨o3, ho3⟩ : ∃ o3, (pos + (n - m3)) / 8 = o3 := ⟨_, rfl⟩
            have HPE := Lib.hid (show pos + (n - m3) = 8 * o3 from by have := HM3.out.2.2; omega)
            have hoL : o3 < L := by have := HPE.out; have := HL.out; have := HM3.out.1; omega
            obtain ⟨c0, c1, c2⟩ := HS3.out.c
            rw [HLL.out] at c0
            rw [ho3] at c1
            rw [HM3.out.2.2] at c2
            obtain ⟨d0, d1⟩ := HS3.out.byte (i := o3) (by rw [HLL.out]; exact hoL)
            obtain ⟨ee, hee⟩ : ∃ ee, 8 - m3 = ee := ⟨_, rfl⟩
            have hA3 : (8 : Int) - (m3 : Int) = (ee : Int) := by omega
            obtain ⟨mk, z, rr, e1, e2, e3, e4, hz, hm⟩ := cut_byte m3 ee ee (l.getD o3 0) (by omega) hee d1
            have hrr : rr < 2 ^ m3 := by rw [e4]; exact Nat.mod_lt _ (Nat.two_pow_pos _)
            have hr3 : r3 < 65536 := by
              have h1 : r3 < 2 ^ (n - m3) := by rw [HM3.out.2.1]; exact wf_lt _ _
              have h2 : 2 ^ (n - m3) ≤ 2 ^ 16 := Nat.pow_le_pow_right (by omega) (by omega)
              omega
            have hpw : 2 ^ m3 ≤ 128 := Nat.pow_le_pow_right (n := 2) (i := m3) (j := 7) (by omega) (by omega)
            have hmul : r3 * 2 ^ m3 ≤ 65536 * 128 := Nat.mul_le_mul (by omega) hpw
            have hor := or_add r3 m3 rr hrr (by omega)
            have hsh : (r3 : Int) * 2 ^ m3 = ((r3 * 2 ^ m3 : Nat) : Int) := by rw [Int.natCast_mul, Int.natCast_pow]; rfl
            have HRD : Hid (r3 * 2 ^ m3 + rr = rd (bitsOf l) pos n) := Lib.hid (by
              have h1 := rd_piece l o3 0 m3 (by rw [HLL.out]; exact hoL) (by omega)
              rw [Nat.add_zero, ← HPE.out, show 8 - 0 - m3 = ee from by omega, ← e4] at h1
              have h2 := rd_add (bitsOf l) pos (n - m3) m3
              rw [h1, ← HM3.out.2.1, show n - m3 + m3 = n from by have := HM3.out.1; omega] at h2
              exact h2.symm)
            have hfz := Blk.frozen HS3.out.st 2
            have HN := Lib.hid (fun nq => (show SM ((wr.drewN nq).setCell ⟨p, 2, none⟩ (.int .i64 (m3 : Int))) p g l (pos + n) ∧ Fr (One p) w ((wr.drewN nq).setCell ⟨p, 2, none⟩ (.int .i64 (m3 : Int))) from
              ⟨⟨by
                have hset := Blk.set_ (w := wr.drewN nq) HS3.out.st 2 (.int .i64 (m3 : Int))
                rw [show (pos + n) / 8 = (pos + (n - m3)) / 8 from by have := HPE.out; have := HM3.out.1; omega, show (pos + n) % 8 = m3 from by have := HPE.out; have := HM3.out.1; omega]
                simpa using hset, World.rowIs.setOther (w := wr.drewN nq) (a := ⟨p, 2, none⟩) HS3.out.ws (Blk.row_ne HS3.out.st HS3.out.ws (by decide)).symm _, HS3.out.el, HS3.out.le⟩, Fr.set1 (HF3.out.drewN nq) 2 _⟩))
            obtain ⟨q3, hq3⟩ : ∃ q3, r3 * 2 ^ m3 = q3 := ⟨_, rfl⟩
            rw [hq3] at hor hsh HRD hmul
            have hrb : rr < 128 := by omega
            have HFIN := Lib.hid (hor.trans (congrArg (fun z : Nat => (z : Int)) HRD.out))
            clear e4 hq3 hrr hor
            generalize l.getD o3 0 = by0 at *
            go_wp2_with (go_quiet (fail))
            go_ret2
            exact ⟨congrArg (fun z => Ending.returned (Value.tuple #[Value.int .i64 z, .nilIface])) HFIN.out, (HN.out _).1, (HN.out _).2⟩
        | succ k =>
          have h8 : (8 : Int) ≤ (m3 : Int) := by omega
          obtain ⟨o3, ho3⟩ : ∃ o3, (pos + (n - m3)) / 8 = o3 := ⟨_, rfl⟩
          have HPE := Lib.hid (show pos + (n - m3) = 8 * o3 from by have := HM3.out.2.2; omega)
          have hoL : o3 < L := by have := HPE.out; have := HL.out; have := HM3.out.1; omega
          obtain ⟨c0, c1, c2⟩ := HS3.out.c
          rw [HLL.out] at c0
          rw [ho3] at c1
          obtain ⟨d0, d1⟩ := HS3.out.byte (i := o3) (by rw [HLL.out]; exact hoL)
          have hand := u8_and255 _ d1
          have hr3 : r3 < 65536 := by
            have h1 : r3 < 2 ^ (n - m3) := by rw [HM3.out.2.1]; exact wf_lt _ _
            have h2 : 2 ^ (n - m3) ≤ 2 ^ 16 := Nat.pow_le_pow_right (by omega) (by omega)
            omega
          have hor : bits .or .i64 ((r3 : Int) * 256) ((l.getD o3 0 : Nat) : Int) = ((r3 * 256 + l.getD o3 0 : Nat) : Int) := by
            have := or_add r3 8 (l.getD o3 0) d1 (by omega)
            rw [← this]
            rfl
          have HRD : Hid (r3 * 256 + l.getD o3 0 = rd (bitsOf l) pos (n - (m3 - 8))) := Lib.hid (by
            have h1 := rd_piece l o3 0 8 (by rw [HLL.out]; exact hoL) (by omega)
            rw [Nat.add_zero, ← HPE.out, show 8 - 0 - 8 = 0 from rfl, Nat.pow_zero, Nat.div_one, Nat.mod_eq_of_lt d1] at h1
            have h2 := rd_add (bitsOf l) pos (n - m3) 8
            rw [h1, ← HM3.out.2.1, show n - m3 + 8 = n - (m3 - 8) from by have := HM3.out.1; omega] at h2
            exact h2.symm)
          have hfz := Blk.frozen HS3.out.st 1
          have HN := Lib.hid (fun nq => (show SM ((wr.drewN nq).setCell ⟨p, 1, none⟩ (.int .i64 ((o3 : Int) + 1))) p g l (pos + (n - (m3 - 8))) ∧ Fr (One p) w ((wr.drewN nq).setCell ⟨p, 1, none⟩ (.int .i64 ((o3 : Int) + 1))) from
            ⟨⟨by
              have hset := Blk.set_ (w := wr.drewN nq) HS3.out.st 1 (.int .i64 ((o3 : Int) + 1))
              rw [show (pos + (n - (m3 - 8))) / 8 = o3 + 1 from by have := HPE.out; have := HM3.out.1; omega, show (pos + (n - (m3 - 8))) % 8 = (pos + (n - m3)) % 8 from by have := HPE.out; have := HM3.out.1; omega, show i64 (o3 + 1) = .int .i64 ((o3 : Int) + 1) from rfl]
              simpa using hset, World.rowIs.setOther (w := wr.drewN nq) (a := ⟨p, 1, none⟩) HS3.out.ws (Blk.row_ne HS3.out.st HS3.out.ws (by decide)).symm _, HS3.out.el, HS3.out.le⟩, Fr.set1 (HF3.out.drewN nq) 1 _⟩))
          obtain ⟨m4, hm4⟩ : ∃ m4, m3 - 8 = m4 := ⟨_, rfl⟩
          have hz4 : (m3 : Int) - 8 = (m4 : Int) := by omega
          rw [hm4] at HN HRD
          have HMM := Lib.hid (show m4 ≤ n ∧ (pos + (n - m4)) % 8 = 0 ∧ m4 / 8 = k from ⟨by have := HM3.out.1; omega, by have := HPE.out; have := HM3.out.1; omega, by omega⟩)
          obtain ⟨by0, hby⟩ : ∃ by0, l.getD o3 0 = by0 := ⟨_, rfl⟩
          rw [hby] at d0 d1 hand hor HRD
          have HOR := Lib.hid (congrArg (Value.int .i64) hor)
          clear hor hby
          go_wp2_with (go_quiet (fail))
          go_roundg k
          case measure => omega
          case rel => exact ⟨m4, r3 * 256 + by0, HMM.out.2.2, Lib.hid ⟨HMM.out.1, HRD.out, HMM.out.2.1⟩, by first | rfl | go_num, by first | rfl | exact HOR.out, Lib.hid (HN.out _).1, Lib.hid (HN.out _).2⟩
end Go.Proofs.YtcekbhhpcmhicaaGreatDoor
/- The numeric segment read back. -/
namespace Go.Proofs.YtcekbhhpcmhicaaGreatDoor
open Go Go.RowKit Go.Deep
set_option maxRecDepth 100000
/-- all from lo on, and block p -/
def Up (lo p : Nat) : Nat → Prop := fun k => k = p ∨ lo ≤ k
theorem app1 {w : World} {lo g n cap : Nat} {xs : List Nat} (h : Own8 w lo g n cap xs) (hn : n ≤ 1000000) (hlo : lo ≤ w.heap.size) (c : Nat) :
    ∃ g2 cap2 w2, (Builtin.append_ #[30, 30] 30 #[.slice (some ⟨g, 0, none⟩) n cap, .slice (some ⟨w.heap.size, 0, none⟩) 1 1]).run Tryz.prog (w.alloc (.cells #[u8 c] 5)) = .ok (.slice (some ⟨g2, 0, none⟩) (n + 1) cap2) w2 ∧
      Own8 w2 lo g2 (n + 1) cap2 (xs ++ [c]) ∧ Fr (One g) w w2 ∧ lo ≤ w2.heap.size := by
  have hal : Fr Nil w (w.alloc (.cells #[u8 c] 5)) := (Fr.refl _ _).alloc _
  have hs := hal.size
  obtain ⟨g2, cap2, w2, h1, h2, h3, h4, h5⟩ := appB (h.fr hal (fun e => e)) hn (by omega) ⟨w.heap.size, 0, none⟩ 1 [c] (by simp) (by simp) (fun j hj => by
    have : j = 0 := by simpa using hj
    subst this
    rw [addr_add_row, Nat.zero_add]
    exact (Blk.new w 5 #[u8 c]).cell 0)
  have hs2 := h3.size
  exact ⟨g2, cap2, w2, h1, h2, (hal.any (One g)).trans h3, by omega⟩
theorem readBits' {w : World} {p g pos : Nat} {l : List Nat} (h : SM w p g l pos) (n v : Nat) (N : Int) (hN : N = n) (hn1 : 1 ≤ n) (hn : n ≤ 16) (hpos : pos + n ≤ (bitsOf l).length) (hv : rd (bitsOf l) pos n = v) :
    Calls Tryz.prog 244 #[.pointer (some ⟨p, 0, none⟩), .int .i64 N] w fun e w' => e = .returned (.tuple #[i64 v, .nilIface]) ∧ SM w' p g l (pos + n) ∧ Fr (One p) w w' := by
  subst hN hv
  exact readBits_calls h n hn1 hn (by rw [bitsOf_length] at hpos; exact hpos)
/-- where a segment's reading stands -/
structure Seg (w0 w : World) (p gb lo : Nat) (l : List Nat) (pos g n cap : Nat) (xs : List Nat) : Prop where
  sm : SM w p gb l pos
  own : Own8 w lo g n cap xs
  fr : Fr (Up lo p) w0 w
  hp : p < lo
  hb : gb < lo
  hlo : lo ≤ w.heap.size
theorem Seg.read {w0 w w' : World} {p gb lo pos g n cap : Nat} {l xs : List Nat} (h : Seg w0 w p gb lo l pos g n cap xs) {k : Nat} (hsm : SM w' p gb l (pos + k)) (hf : Fr (One p) w w') : Seg w0 w' p gb lo l (pos + k) g n cap xs :=
  ⟨hsm, h.own.fr hf (fun e => by have : g = p := e; have := h.own.ge; have := h.hp; omega), h.fr.trans' hf (fun i _ e => .inl e), h.hp, h.hb, Nat.le_trans h.hlo hf.size⟩
theorem Seg.app {w0 w : World} {p gb lo pos g n cap : Nat} {l xs : List Nat} (h : Seg w0 w p gb lo l pos g n cap xs) (hn : n ≤ 1000000) (c : Nat) :
    ∃ g2 cap2 w2, (Builtin.append_ #[30, 30] 30 #[.slice (some ⟨g, 0, none⟩) n cap, .slice (some ⟨w.heap.size, 0, none⟩) 1 1]).run Tryz.prog (w.alloc (.cells #[u8 c] 5)) = .ok (.slice (some ⟨g2, 0, none⟩) (n + 1) cap2) w2 ∧
      Seg w0 w2 p gb lo l pos g2 (n + 1) cap2 (xs ++ [c]) := by
  obtain ⟨g2, cap2, w2, h1, h2, h3, h4⟩ := app1 h.own hn h.hlo c
  have hg := h.own.ge
  exact ⟨g2, cap2, w2, h1, h.sm.fr h3 (fun e => by have : p = g := e; have := h.hp; omega) (fun e => by have : gb = g := e; have := h.hb; omega), h2, h.fr.trans' h3 (fun i _ e => .inr (by have : i = g := e; omega)), h.hp, h.hb, h4⟩
theorem dig_bounds {c : Nat} (h : isDig c = true) : 48 ≤ c ∧ c ≤ 57 := by
  unfold isDig at h
  simpa using h
set_option maxHeartbeats 3200000 in
theorem numericSeg_calls {w : World} {p gb lo pos g n cap : Nat} {l xs t : List Nat} {rest : List Bool} (h : Seg w w p gb lo l pos g n cap xs) (hn : n ≤ 1000) (ht : t.length ≤ 1000) (hd : ∀ c ∈ t, isDig c = true)
    (hat : At (bitsOf l) pos (encNum t ++ rest)) :
    Calls Tryz.prog 249 #[.pointer (some ⟨p, 0, none⟩), .slice (some ⟨g, 0, none⟩) n cap, i64 t.length] w fun e w' => ∃ g2 cap2, e = .returned (.tuple #[.slice (some ⟨g2, 0, none⟩) (n + t.length) cap2, .nilIface]) ∧ Seg w w' p gb lo l (pos + (encNum t).length) g2 (n + t.length) cap2 (xs ++ t) := by
  have H := Lib.hid h
  have HAT := Lib.hid hat
  have HD := Lib.hid hd
  obtain ⟨E, hE⟩ : ∃ E, pos + (encNum t).length = E := ⟨_, rfl⟩
  obtain ⟨T, hT⟩ : ∃ T, t.length = T := ⟨_, rfl⟩
  have HE := Lib.hid hE
  have HT := Lib.hid hT
  rw [hT] at ht
  rw [hE, hT]
  clear h hat hd hE hT
  go_enter Tryz.func249, Tryz.ntmps249
  go_wp2_with fail
  go_loopg [1, 2, 8, 9] (T / 3) (fun k s1 s2 s8 s9 wr => ∃ (g1 n1 cap1 pos1 m : Nat) (d u : List Nat), m / 3 = k ∧ s2 = .int .i64 m ∧ s1 = .slice (some ⟨g1, 0, none⟩) n1 cap1 ∧
    Hid (t = d ++ u ∧ m = u.length ∧ n1 = n + d.length ∧ pos1 + (encNum u).length = E ∧ At (bitsOf l) pos1 (encNum u ++ rest)) ∧ Hid (Seg w wr p gb lo l pos1 g1 n1 cap1 (xs ++ d)))
  case atStart => exact ⟨g, n, cap, pos, T, [], t, rfl, rfl, rfl, Lib.hid ⟨rfl, HT.out.symm, rfl, HE.out, HAT.out⟩, Lib.hid (by rw [List.append_nil]; exact H.out)⟩
  case round =>
    obtain ⟨g1, n1, cap1, pos1, m, d, u, hk, rfl, rfl, HU, HS⟩ := hrel
    have hmT : m ≤ T := by have h1 := HU.out.1; have h2 := HT.out; have h3 := HU.out.2.1; rw [h1, List.length_append] at h2; omega
    have hn1 : n1 ≤ 2000 := by have h1 := HU.out.1; have h2 := HT.out; have h3 := HU.out.2.2.1; rw [h1, List.length_append] at h2; omega
    cases gk with
    | succ k =>
      have hz : (3 : Int) ≤ (m : Int) := by omega
      obtain ⟨a, b, c, u', hu⟩ : ∃ a b c u', u = a :: b :: c :: u' := by
        have h3 := HU.out.2.1
        match u, h3 with
        | a :: b :: c :: u', _ => exact ⟨a, b, c, u', rfl⟩
        | [a, b], h => simp at h; omega
        | [a], h => simp at h; omega
        | [], h => simp at h; omega
      subst hu
      have hda := dig_bounds (HD.out a (by rw [HU.out.1]; simp))
      have hdb := dig_bounds (HD.out b (by rw [HU.out.1]; simp))
      have hdc := dig_bounds (HD.out c (by rw [HU.out.1]; simp))
      obtain ⟨v, hv⟩ : ∃ v, (a - 48) * 100 + (b - 48) * 10 + (c - 48) = v := ⟨_, rfl⟩
      have HAT2 := Lib.hid (show rd (bitsOf l) pos1 10 = v ∧ pos1 + 10 ≤ (bitsOf l).length ∧ At (bitsOf l) (pos1 + 10) (encNum u' ++ rest) from by
        have h1 := HU.out.2.2.2.2
        rw [show encNum (a :: b :: c :: u') = msb ((a - 48) * 100 + (b - 48) * 10 + (c - 48)) 10 ++ encNum u' from rfl, List.append_assoc, hv] at h1
        exact h1.msb (by rw [← hv]; omega))
      have HRB := Lib.hid (readBits' HS.out.sm 10 v 10 rfl (by omega) (by omega) HAT2.out.2.1 HAT2.out.1)
      have hv1 : v < 1000 := by omega
      have hA : (48 : Int) + (v : Int) / 100 = (a : Int) := by omega
      have hB : (48 : Int) + (v : Int) / 10 % 10 = (b : Int) := by omega
      have hC : (48 : Int) + (v : Int) % 10 = (c : Int) := by omega
      have hvz : ¬ (1000 : Int) ≤ (v : Int) := by omega
      clear hv
      go_wp2_with fail
      refine HRB.out.mono ?_
      rintro e w1 ⟨rfl, hsm, hf⟩
      have hS1 := HS.out.read hsm hf
      obtain ⟨g2, cap2, w2, a1, hS2⟩ := hS1.app (by omega) a
      obtain ⟨g3, cap3, w3, a2, hS3⟩ := hS2.app (by omega) b
      obtain ⟨g4, cap4, w4, a3, hS4⟩ := hS3.app (by omega) c
      have HA1 := Lib.hid a1
      have HA2 := Lib.hid a2
      have HA3 := Lib.hid a3
      have HS4 := Lib.hid hS4
      clear hS1 hS2 hS3 hS4 a1 a2 a3 hsm hf
      have HNU : Hid (t = (d ++ [a, b, c]) ++ u' ∧ m - 3 = u'.length ∧ n1 + 1 + 1 + 1 = n + (d ++ [a, b, c]).length ∧ pos1 + 10 + (encNum u').length = E ∧ At (bitsOf l) (pos1 + 10) (encNum u' ++ rest)) := Lib.hid (by
        obtain ⟨h1, h2, h3, h4, h5⟩ := HU.out
        refine ⟨by rw [h1]; simp, by rw [h2]; simp, by rw [h3]; simp; omega, ?_, HAT2.out.2.2⟩
        rw [← h4, show encNum (a :: b :: c :: u') = msb ((a - 48) * 100 + (b - 48) * 10 + (c - 48)) 10 ++ encNum u' from rfl, List.length_append, msb_length]
        omega)
      have HS5 : Hid (Seg w w4 p gb lo l (pos1 + 10) g4 (n1 + 1 + 1 + 1) cap4 (xs ++ (d ++ [a, b, c]))) := Lib.hid (by
        have := HS4.out
        simpa using this)
      obtain ⟨m3, hm3⟩ : ∃ m3, m - 3 = m3 := ⟨_, rfl⟩
      have hm3z : (m : Int) - 3 = (m3 : Int) := by omega
      have hm3k : m3 / 3 = k := by omega
      rw [hm3] at HNU
      clear hm3
      go_upto_region 8 with (at_builtin; refine Lib.wpList_append_run _ rfl _ _ _ _ rfl _ _ rfl rfl _ _ HA1.out ?_)
      go_upto_region 9 with (at_builtin; refine Lib.wpList_append_run _ rfl _ _ _ _ rfl _ _ rfl rfl _ _ HA2.out ?_)
      go_wp2_with (at_builtin; refine Lib.wpList_append_run _ rfl _ _ _ _ rfl _ _ rfl rfl _ _ HA3.out ?_)
      go_roundg k
      case measure => omega
      case rel => exact ⟨g4, n1 + 1 + 1 + 1, cap4, pos1 + 10, m3, d ++ [a, b, c], u', hm3k, rfl, rfl, HNU, HS5⟩
    | zero =>
      have hz : ¬ (3 : Int) ≤ (m : Int) := by omega
      have hm3 : m < 3 := by omega
      match u, HU with
      | [], HU =>
        have hm0 : m = 0 := by have := HU.out.2.1; simpa using this
        subst hm0
        have HFIN : Hid (n1 = n + T ∧ pos1 = E ∧ d = t) := Lib.hid (by
          obtain ⟨h1, h2, h3, h4, h5⟩ := HU.out
          rw [List.append_nil] at h1
          refine ⟨by rw [h3, ← h1, HT.out], by rw [← h4]; rfl, h1.symm⟩)
        have HS6 : Hid (Seg w wr p gb lo l E g1 (n + T) cap1 (xs ++ t)) := Lib.hid (by
          have := HS.out
          rw [HFIN.out.1, HFIN.out.2.1, HFIN.out.2.2] at this; exact this)
        go_wp2_with fail
        go_ret2
        rw [← HFIN.out.1]
        exact ⟨g1, cap1, rfl, by rw [HFIN.out.1]; exact HS6.out⟩
      | [a], HU =>
        have hm1 : m = 1 := by have := HU.out.2.1; simpa using this
        subst hm1
        have hda := dig_bounds (HD.out a (by rw [HU.out.1]; simp))
        obtain ⟨v, hv⟩ : ∃ v, a - 48 = v := ⟨_, rfl⟩
        have HAT2 := Lib.hid (show rd (bitsOf l) pos1 4 = v ∧ pos1 + 4 ≤ (bitsOf l).length ∧ At (bitsOf l) (pos1 + 4) rest from by
          have h1 := HU.out.2.2.2.2
          rw [show encNum [a] = msb (a - 48) 4 from rfl, hv] at h1
          exact h1.msb (by omega))
        have HRB := Lib.hid (readBits' HS.out.sm 4 v 4 rfl (by omega) (by omega) HAT2.out.2.1 HAT2.out.1)
        have hv1 : v < 10 := by omega
        have hA : (48 : Int) + (v : Int) = (a : Int) := by omega
        have hvz : ¬ (10 : Int) ≤ (v : Int) := by omega
        have HFIN : Hid (n1 + 1 = n + T ∧ pos1 + 4 = E ∧ d ++ [a] = t) := Lib.hid (by
          obtain ⟨h1, h2, h3, h4, h5⟩ := HU.out
          have h6 := HT.out
          rw [h1, List.length_append] at h6
          refine ⟨by rw [h3]; simp at h6; omega, by rw [← h4]; simp [encNum, msb_length], h1.symm⟩)
        clear hv
        go_wp2_with fail
        refine HRB.out.mono ?_
        rintro e w1 ⟨rfl, hsm, hf⟩
        have hS1 := HS.out.read hsm hf
        obtain ⟨g2, cap2, w2, a1, hS2⟩ := hS1.app (by omega) a
        have HA1 := Lib.hid a1
        have HS6 : Hid (Seg w w2 p gb lo l E g2 (n + T) cap2 (xs ++ t)) := Lib.hid (by
          have := hS2
          rw [HFIN.out.1, HFIN.out.2.1, List.append_assoc, HFIN.out.2.2] at this; exact this)
        clear hS1 hS2 a1 hsm hf
        go_wp2_with (at_builtin; refine Lib.wpList_append_run _ rfl _ _ _ _ rfl _ _ rfl rfl _ _ HA1.out ?_)
        go_ret2
        rw [← HFIN.out.1]
        exact ⟨g2, cap2, rfl, by rw [HFIN.out.1]; exact HS6.out⟩
      | [a, b], HU =>
        have hm2 : m = 2 := by have := HU.out.2.1; simpa using this
        subst hm2
        have hda := dig_bounds (HD.out a (by rw [HU.out.1]; simp))
        have hdb := dig_bounds (HD.out b (by rw [HU.out.1]; simp))
        obtain ⟨v, hv⟩ : ∃ v, (a - 48) * 10 + (b - 48) = v := ⟨_, rfl⟩
        have HAT2 := Lib.hid (show rd (bitsOf l) pos1 7 = v ∧ pos1 + 7 ≤ (bitsOf l).length ∧ At (bitsOf l) (pos1 + 7) rest from by
          have h1 := HU.out.2.2.2.2
          rw [show encNum [a, b] = msb ((a - 48) * 10 + (b - 48)) 7 from rfl, hv] at h1
          exact h1.msb (by omega))
        have HRB := Lib.hid (readBits' HS.out.sm 7 v 7 rfl (by omega) (by omega) HAT2.out.2.1 HAT2.out.1)
        have hv1 : v < 100 := by omega
        have hA : (48 : Int) + (v : Int) / 10 = (a : Int) := by omega
        have hB : (48 : Int) + (v : Int) % 10 = (b : Int) := by omega
        have hvz : ¬ (100 : Int) ≤ (v : Int) := by omega
        have HFIN : Hid (n1 + 1 + 1 = n + T ∧ pos1 + 7 = E ∧ d ++ [a, b] = t) := Lib.hid (by
          obtain ⟨h1, h2, h3, h4, h5⟩ := HU.out
          have h6 := HT.out
          rw [h1, List.length_append] at h6
          refine ⟨by rw [h3]; simp at h6; omega, by rw [← h4]; simp [encNum, msb_length], h1.symm⟩)
        clear hv
        go_wp2_with fail
        refine HRB.out.mono ?_
        rintro e w1 ⟨rfl, hsm, hf⟩
        have hS1 := HS.out.read hsm hf
        obtain ⟨g2, cap2, w2, a1, hS2⟩ := hS1.app (by omega) a
        obtain ⟨g3, cap3, w3, a2, hS3⟩ := hS2.app (by omega) b
        have HA1 := Lib.hid a1
        have HA2 := Lib.hid a2
        have HS6 : Hid (Seg w w3 p gb lo l E g3 (n + T) cap3 (xs ++ t)) := Lib.hid (by
          have := hS3
          rw [HFIN.out.1, HFIN.out.2.1, List.append_assoc, List.append_assoc, show d ++ ([a] ++ [b]) = d ++ [a, b] from rfl, HFIN.out.2.2] at this; exact this)
        clear hS1 hS2 hS3 a1 a2 hsm hf
        go_upto_region 18 with (at_builtin; refine Lib.wpList_append_run _ rfl _ _ _ _ rfl _ _ rfl rfl _ _ HA1.out ?_)
        go_wp2_with (at_builtin; refine Lib.wpList_append_run _ rfl _ _ _ _ rfl _ _ rfl rfl _ _ HA2.out ?_)
        go_ret2
        rw [← HFIN.out.1]
        exact ⟨g3, cap3, rfl, by rw [HFIN.out.1]; exact HS6.out⟩
      | a :: b :: c :: u', HU => have := HU.out.2.1; simp at this; omega
end Go.Proofs.YtcekbhhpcmhicaaGreatDoor
/- The alphanumeric segment read back. -/
namespace Go.Proofs.YtcekbhhpcmhicaaGreatDoor
open Go Go.RowKit Go.Deep
set_option maxRecDepth 100000
/-- the characters of the alphanumeric mode -/
def alCh : List Nat := [48, 49, 50, 51, 52, 53, 54, 55, 56, 57, 65, 66, 67, 68, 69, 70, 71, 72, 73, 74, 75, 76, 77, 78, 79, 80, 81, 82, 83, 84, 85, 86, 87, 88, 89, 90, 32, 36, 37, 42, 43, 45, 46, 47, 58]
theorem al_code (c : Nat) (h : isAl c = true) : (alCode c).toNat < 45 ∧ alCh.getD (alCode c).toNat 0 = c := by
  have hc : c < 96 := by
    rcases Nat.lt_or_ge c 96 with h1 | h1
    · exact h1
    · unfold isAl at h; rw [alCode_big c h1] at h; exact absurd h (by decide)
  have key : ∀ c, c < 96 → isAl c = true → (alCode c).toNat < 45 ∧ alCh.getD (alCode c).toNat 0 = c := by decide +kernel
  exact key c hc h
set_option maxHeartbeats 1600000 in
theorem toAl_calls (k : Nat) (hk : k < 45) (w : World) : Calls Tryz.prog 278 #[i64 k] w fun e w' => e = .returned (.tuple #[u8 (alCh.getD k 0), .nilIface]) ∧ w = w' := by
  have hkz : ¬ (45 : Int) ≤ (k : Int) := by omega
  have hkz2 : (k : Int) < 45 := by omega
  have HB : Hid (∀ (h : k < (ByteArray.mk #[48, 49, 50, 51, 52, 53, 54, 55, 56, 57, 65, 66, 67, 68, 69, 70, 71, 72, 73, 74, 75, 76, 77, 78, 79, 80, 81, 82, 83, 84, 85, 86, 87, 88, 89, 90, 32, 36, 37, 42, 43, 45, 46, 47, 58]).size), (ByteArray.mk #[48, 49, 50, 51, 52, 53, 54, 55, 56, 57, 65, 66, 67, 68, 69, 70, 71, 72, 73, 74, 75, 76, 77, 78, 79, 80, 81, 82, 83, 84, 85, 86, 87, 88, 89, 90, 32, 36, 37, 42, 43, 45, 46, 47, 58])[k].toNat = alCh.getD k 0) := Lib.hid (by
    clear hkz hkz2
    intro h
    match k, hk with
    | 0, _ | 1, _ | 2, _ | 3, _ | 4, _ | 5, _ | 6, _ | 7, _ | 8, _ | 9, _ | 10, _ | 11, _ | 12, _ | 13, _ | 14, _ | 15, _ | 16, _ | 17, _ | 18, _ | 19, _ | 20, _ | 21, _ | 22, _ | 23, _ | 24, _ | 25, _ | 26, _ | 27, _ | 28, _ | 29, _ | 30, _ | 31, _ | 32, _ | 33, _ | 34, _ | 35, _ | 36, _ | 37, _ | 38, _ | 39, _ | 40, _ | 41, _ | 42, _ | 43, _ | 44, _ => rfl
    | n + 45, h => omega)
  go_enter Tryz.func278, Tryz.ntmps278
  go_wp2_with fail
  go_ret2
  exact ⟨congrArg (fun z : Nat => Ending.returned (Value.tuple #[Value.int .u8 (z : Int), .nilIface])) (HB.out _), rfl⟩
set_option maxHeartbeats 3200000 in
theorem alSeg_calls {w : World} {p gb lo pos g n cap : Nat} {l xs t : List Nat} {rest : List Bool} (h : Seg w w p gb lo l pos g n cap xs) (hn : n ≤ 1000) (ht : t.length ≤ 1000) (hd : ∀ c ∈ t, isAl c = true)
    (hat : At (bitsOf l) pos (encAl t ++ rest)) :
    Calls Tryz.prog 250 #[.pointer (some ⟨p, 0, none⟩), .slice (some ⟨g, 0, none⟩) n cap, i64 t.length, .bool false] w fun e w' => ∃ g2 cap2, e = .returned (.tuple #[.slice (some ⟨g2, 0, none⟩) (n + t.length) cap2, .nilIface]) ∧ Seg w w' p gb lo l (pos + (encAl t).length) g2 (n + t.length) cap2 (xs ++ t) := by
  have H := Lib.hid h
  have HAT := Lib.hid hat
  have HD := Lib.hid hd
  obtain ⟨E, hE⟩ : ∃ E, pos + (encAl t).length = E := ⟨_, rfl⟩
  obtain ⟨T, hT⟩ : ∃ T, t.length = T := ⟨_, rfl⟩
  have HE := Lib.hid hE
  have HT := Lib.hid hT
  rw [hT] at ht
  rw [hE, hT]
  clear h hat hd hE hT
  go_enter Tryz.func250, Tryz.ntmps250
  go_wp2_with fail
  go_loopg [1, 2, 11, 12, 13] (T / 2) (fun k s1 s2 s11 s12 s13 wr => ∃ (g1 n1 cap1 pos1 m : Nat) (d u : List Nat), m / 2 = k ∧ s2 = .int .i64 m ∧ s1 = .slice (some ⟨g1, 0, none⟩) n1 cap1 ∧
    Hid (t = d ++ u ∧ m = u.length ∧ n1 = n + d.length ∧ pos1 + (encAl u).length = E ∧ At (bitsOf l) pos1 (encAl u ++ rest)) ∧ Hid (Seg w wr p gb lo l pos1 g1 n1 cap1 (xs ++ d)))
  case atStart => exact ⟨g, n, cap, pos, T, [], t, rfl, rfl, rfl, Lib.hid ⟨rfl, HT.out.symm, rfl, HE.out, HAT.out⟩, Lib.hid (by rw [List.append_nil]; exact H.out)⟩
  case round =>
    obtain ⟨g1, n1, cap1, pos1, m, d, u, hk, rfl, rfl, HU, HS⟩ := hrel
    have hmT : m ≤ T := by have h1 := HU.out.1; have h2 := HT.out; have h3 := HU.out.2.1; rw [h1, List.length_append] at h2; omega
    have hn1 : n1 ≤ 2000 := by have h1 := HU.out.1; have h2 := HT.out; have h3 := HU.out.2.2.1; rw [h1, List.length_append] at h2; omega
    cases gk with
    | succ k =>
      have hz : (1 : Int) < (m : Int) := by omega
      obtain ⟨a, b, u', hu⟩ : ∃ a b u', u = a :: b :: u' := by
        have h3 := HU.out.2.1
        match u, h3 with
        | a :: b :: u', _ => exact ⟨a, b, u', rfl⟩
        | [a], h => simp at h; omega
        | [], h => simp at h; omega
      subst hu
      have hda := al_code a (HD.out a (by rw [HU.out.1]; simp))
      have hdb := al_code b (HD.out b (by rw [HU.out.1]; simp))
      obtain ⟨ca, hca⟩ : ∃ ca, (alCode a).toNat = ca := ⟨_, rfl⟩
      obtain ⟨cb, hcb⟩ : ∃ cb, (alCode b).toNat = cb := ⟨_, rfl⟩
      rw [hca] at hda
      rw [hcb] at hdb
      obtain ⟨v, hv⟩ : ∃ v, ca * 45 + cb = v := ⟨_, rfl⟩
      have HAT2 := Lib.hid (show rd (bitsOf l) pos1 11 = v ∧ pos1 + 11 ≤ (bitsOf l).length ∧ At (bitsOf l) (pos1 + 11) (encAl u' ++ rest) from by
        have h1 := HU.out.2.2.2.2
        rw [show encAl (a :: b :: u') = msb ((alCode a).toNat * 45 + (alCode b).toNat) 11 ++ encAl u' from rfl, List.append_assoc, hca, hcb, hv] at h1
        exact h1.msb (by omega))
      have HRB := Lib.hid (readBits' HS.out.sm 11 v 11 rfl (by omega) (by omega) HAT2.out.2.1 HAT2.out.1)
      have hv1 : v < 2025 := by omega
      have hA : (v : Int) / 45 = (ca : Int) := by omega
      have hB : (v : Int) % 45 = (cb : Int) := by omega
      have HNU : Hid (t = (d ++ [a, b]) ++ u' ∧ m - 2 = u'.length ∧ n1 + 1 + 1 = n + (d ++ [a, b]).length ∧ pos1 + 11 + (encAl u').length = E ∧ At (bitsOf l) (pos1 + 11) (encAl u' ++ rest)) := Lib.hid (by
        obtain ⟨h1, h2, h3, h4, h5⟩ := HU.out
        refine ⟨by rw [h1]; simp, by rw [h2]; simp, by rw [h3]; simp; omega, ?_, HAT2.out.2.2⟩
        rw [← h4, show encAl (a :: b :: u') = msb ((alCode a).toNat * 45 + (alCode b).toNat) 11 ++ encAl u' from rfl, List.length_append, msb_length]
        omega)
      clear hv hca hcb
      have HTA := Lib.hid (fun W => toAl_calls ca hda.1 W)
      have HTB := Lib.hid (fun W => toAl_calls cb hdb.1 W)
      rw [hda.2] at HTA
      rw [hdb.2] at HTB
      clear hda hdb
      go_wp2_with fail
      refine HRB.out.mono ?_
      rintro e w1 ⟨rfl, hsm, hf⟩
      have hS1 := HS.out.read hsm hf
      obtain ⟨g2, cap2, w2, a1, hS2⟩ := hS1.app (by omega) a
      obtain ⟨g3, cap3, w3, a2, hS3⟩ := hS2.app (by omega) b
      have HA1 := Lib.hid a1
      have HA2 := Lib.hid a2
      have HS4 : Hid (Seg w w3 p gb lo l (pos1 + 11) g3 (n1 + 1 + 1) cap3 (xs ++ (d ++ [a, b]))) := Lib.hid (by
        have := hS3
        simpa using this)
      clear hS1 hS2 hS3 a1 a2 hsm hf
      obtain ⟨m3, hm3⟩ : ∃ m3, m - 2 = m3 := ⟨_, rfl⟩
      have hm3z : (m : Int) - 2 = (m3 : Int) := by omega
      have hm3k : m3 / 2 = k := by omega
      rw [hm3] at HNU
      clear hm3
      go_wp2_with fail
      refine (HTA.out _).mono ?_
      rintro e wx ⟨rfl, rfl⟩
      go_upto_region 10 with (at_builtin; refine Lib.wpList_append_run _ rfl _ _ _ _ rfl _ _ rfl rfl _ _ HA1.out ?_)
      go_wp2_with fail
      refine (HTB.out _).mono ?_
      rintro e wx ⟨rfl, rfl⟩
      go_wp2_with (at_builtin; refine Lib.wpList_append_run _ rfl _ _ _ _ rfl _ _ rfl rfl _ _ HA2.out ?_)
      go_roundg k
      case measure => omega
      case rel => exact ⟨g3, n1 + 1 + 1, cap3, pos1 + 11, m3, d ++ [a, b], u', hm3k, rfl, rfl, HNU, HS4⟩
    | zero =>
      have hz : ¬ (1 : Int) < (m : Int) := by omega
      have hm3 : m < 2 := by omega
      match u, HU with
      | [], HU =>
        have hm0 : m = 0 := by have := HU.out.2.1; simpa using this
        subst hm0
        have HFIN : Hid (n1 = n + T ∧ pos1 = E ∧ d = t) := Lib.hid (by
          obtain ⟨h1, h2, h3, h4, h5⟩ := HU.out
          rw [List.append_nil] at h1
          refine ⟨by rw [h3, ← h1, HT.out], by rw [← h4]; rfl, h1.symm⟩)
        have HS6 : Hid (Seg w wr p gb lo l E g1 (n + T) cap1 (xs ++ t)) := Lib.hid (by
          have := HS.out
          rw [HFIN.out.1, HFIN.out.2.1, HFIN.out.2.2] at this; exact this)
        go_wp2_with fail
        go_ret2
        rw [← HFIN.out.1]
        exact ⟨g1, cap1, rfl, by rw [HFIN.out.1]; exact HS6.out⟩
      | [a], HU =>
        have hm1 : m = 1 := by have := HU.out.2.1; simpa using this
        subst hm1
        have hda := al_code a (HD.out a (by rw [HU.out.1]; simp))
        obtain ⟨v, hv⟩ : ∃ v, (alCode a).toNat = v := ⟨_, rfl⟩
        rw [hv] at hda
        have HAT2 := Lib.hid (show rd (bitsOf l) pos1 6 = v ∧ pos1 + 6 ≤ (bitsOf l).length ∧ At (bitsOf l) (pos1 + 6) rest from by
          have h1 := HU.out.2.2.2.2
          rw [show encAl [a] = msb (alCode a).toNat 6 from rfl, hv] at h1
          exact h1.msb (by omega))
        have HRB := Lib.hid (readBits' HS.out.sm 6 v 6 rfl (by omega) (by omega) HAT2.out.2.1 HAT2.out.1)
        have HTA := Lib.hid (fun W => toAl_calls v hda.1 W)
        rw [hda.2] at HTA
        have HFIN : Hid (n1 + 1 = n + T ∧ pos1 + 6 = E ∧ d ++ [a] = t) := Lib.hid (by
          obtain ⟨h1, h2, h3, h4, h5⟩ := HU.out
          have h6 := HT.out
          rw [h1, List.length_append] at h6
          refine ⟨by rw [h3]; simp at h6; omega, by rw [← h4]; simp [encAl, msb_length], h1.symm⟩)
        clear hv hda
        go_wp2_with fail
        refine HRB.out.mono ?_
        rintro e w1 ⟨rfl, hsm, hf⟩
        have hS1 := HS.out.read hsm hf
        obtain ⟨g2, cap2, w2, a1, hS2⟩ := hS1.app (by omega) a
        have HA1 := Lib.hid a1
        have HS6 : Hid (Seg w w2 p gb lo l E g2 (n + T) cap2 (xs ++ t)) := Lib.hid (by
          have := hS2
          rw [HFIN.out.1, HFIN.out.2.1, List.append_assoc, HFIN.out.2.2] at this; exact this)
        clear hS1 hS2 a1 hsm hf
        go_wp2_with fail
        refine (HTA.out _).mono ?_
        rintro e wx ⟨rfl, rfl⟩
        go_wp2_with (at_builtin; refine Lib.wpList_append_run _ rfl _ _ _ _ rfl _ _ rfl rfl _ _ HA1.out ?_)
        go_ret2
        rw [← HFIN.out.1]
        exact ⟨g2, cap2, rfl, by rw [HFIN.out.1]; exact HS6.out⟩
      | a :: b :: u', HU => have := HU.out.2.1; simp at this; omega
end Go.Proofs.YtcekbhhpcmhicaaGreatDoor
/- The segment of bytes read back. -/
namespace Go.Proofs.YtcekbhhpcmhicaaGreatDoor
open Go Go.RowKit Go.Deep
set_option maxRecDepth 100000
theorem Seg.keep {w0 w w' : World} {F : Nat → Prop} {p gb lo pos g n cap : Nat} {l xs : List Nat} (h : Seg w0 w p gb lo l pos g n cap xs) (hf : Fr F w w') (h1 : ∀ k, F k → lo ≤ k ∧ k ≠ g) : Seg w0 w' p gb lo l pos g n cap xs :=
  ⟨h.sm.fr hf (fun e => by have := h1 _ e; have := h.hp; omega) (fun e => by have := h1 _ e; have := h.hb; omega), h.own.fr hf (fun e => (h1 _ e).2 rfl), h.fr.trans' hf (fun i _ e => .inr (h1 _ e).1), h.hp, h.hb, Nat.le_trans h.hlo hf.size⟩
theorem Tryz.und31 : Tryz.prog.underlying 31 = some (.slice 30) := by kernel_rfl
theorem Tryz.inf30 : (Tryz.prog.info? 30).map (fun i => (i.zero, i.size, i.bytes)) = some (some (.slice none 0 0), 1, 24) := by kernel_rfl
/-- one slice more -/
theorem appS {w : World} {lo g n cap : Nat} {xs : List Value} (h : w.ownsRow lo 30 1 (.slice (some ⟨g, 0, none⟩) n cap) n xs) (hn : n ≤ 1000) (hlo : lo ≤ w.heap.size) (v : Value) (hv : v.oneCell' = true) :
    ∃ g2 cap2 w2, (Builtin.append_ #[31, 31] 31 #[.slice (some ⟨g, 0, none⟩) n cap, .slice (some ⟨w.heap.size, 0, none⟩) 1 1]).run Tryz.prog (w.alloc (.cells #[v] 30)) = .ok (.slice (some ⟨g2, 0, none⟩) (n + 1) cap2) w2 ∧
      w2.ownsRow lo 30 1 (.slice (some ⟨g2, 0, none⟩) (n + 1) cap2) (n + 1) (xs ++ [v]) ∧ Fr (One g) w w2 ∧ lo ≤ w2.heap.size := by
  have hal : Fr Nil w (w.alloc (.cells #[v] 30)) := (Fr.refl _ _).alloc _
  have hs := hal.size
  obtain ⟨i30, hi30, hzi⟩ := Option.map_eq_some_iff.1 Tryz.inf30
  simp only [Prod.mk.injEq] at hzi
  obtain ⟨g2, cap2, w7, hap, hown2, hgrow, hlies, hlt⟩ := run_append_lies (P := Tryz.prog) (w := w.alloc (.cells #[v] 30)) 31 31 lo 30 i30 (.slice none 0 0) 1 24 Tryz.und31 hi30 hzi.1 hzi.2.1 hzi.2.2 rfl (by omega)
    (.slice (some ⟨g, 0, none⟩) n cap) n xs (own_fr h hal (fun e => e)) ⟨w.heap.size, 0, none⟩ 1 1 [v] rfl
    (fun k u hu => by
      have hk : k = 0 := by
        rcases Nat.lt_or_ge k 1 with h | h
        · omega
        · rw [List.getElem?_eq_none (by simpa using h)] at hu; cases hu
      subst hk
      rw [← hu, addr_add_row, Nat.zero_add]
      exact (Blk.new w 30 #[v]).cell 0) (fun u hu => by
      have : u = v := by simpa using hu
      rw [this]; exact hv) (by omega) (by have : maxLen = 9223372036854775807 := rfl; omega) (by omega) (by omega) _ rfl
  have hfr : Fr (One g) (w.alloc (.cells #[v] 30)) w7 := (Fr.of_grown hgrow).mono fun k _ e => by
    have : k = g := by cases e; rfl
    exact this
  have hs2 := hfr.size
  exact ⟨g2, cap2, w7, hap, hown2, (hal.any (One g)).trans hfr, by omega⟩
set_option maxHeartbeats 3200000 in
theorem bySeg_calls {w : World} {p gb lo pos g n cap gs cs : Nat} {l xs t : List Nat} {rest : List Bool} (h : Seg w w p gb lo l pos g n cap xs) (hn : n ≤ 1000) (ht : t.length ≤ 1000) (ht1 : 1 ≤ t.length) (hd : ∀ c ∈ t, c < 256)
    (hat : At (bitsOf l) pos (encBy t ++ rest)) (hgs : w.ownsRow lo 30 1 (.slice (some ⟨gs, 0, none⟩) 0 cs) 0 []) :
    Calls Tryz.prog 251 #[.pointer (some ⟨p, 0, none⟩), .slice (some ⟨g, 0, none⟩) n cap, i64 t.length, .pointer none, .slice (some ⟨gs, 0, none⟩) 0 cs, .map none] w fun e w' => ∃ g2 cap2 gs2 cs2 rb,
      e = .returned (.tuple #[.slice (some ⟨g2, 0, none⟩) (n + t.length) cap2, .slice (some ⟨gs2, 0, none⟩) 1 cs2, .nilIface]) ∧ Seg w w' p gb lo l (pos + (encBy t).length) g2 (n + t.length) cap2 (xs ++ t) ∧
      w'.ownsRow lo 30 1 (.slice (some ⟨gs2, 0, none⟩) 1 cs2) 1 [.slice (some ⟨rb, 0, none⟩) t.length t.length] ∧ w'.rowIs rb 5 t.length (fun i => u8 (t.getD i 0)) := by
  have hel := encBy_length t
  have hle := h.sm.le
  have hat1 := hat.1
  rw [List.length_append, bitsOf_length, hel] at hat1
  obtain ⟨cur, hgb, _⟩ := own_blk hgs
  obtain ⟨cur2, hgb2, _⟩ := own_blk h.own
  have hgne : gs ≠ g := hgb.ne_ hgb2 (by decide)
  have hgsl := hgb.lt
  have hgl := hgb2.lt
  have hgslo : lo ≤ gs := by
    rcases hgs.2 with ⟨h0, _⟩ | ⟨g', cap', cur, hv', h1, _⟩
    · cases h0
    · cases hv'; exact h1
  have HAV := Lib.hid (available_calls h.sm (by omega))
  have hlo := h.hlo
  have hplo := h.hp
  have H := Lib.hid h
  have HAT := Lib.hid hat
  have HD := Lib.hid hd
  have HGS := Lib.hid hgs
  obtain ⟨av, hav⟩ : ∃ av, 8 * l.length - pos = av := ⟨_, rfl⟩
  rw [hav] at HAV
  obtain ⟨T, hT⟩ : ∃ T, t.length = T := ⟨_, rfl⟩
  rw [hel]
  rw [hT] at ht ht1 hat1 ⊢
  have HT := Lib.hid hT
  have hz8 : ¬ (av : Int) < 8 * (T : Int) := by omega
  clear h hat hd hT hel hgb hgb2 hgs hav
  go_enter Tryz.func251, Tryz.ntmps251
  go_wp2_with fail
  refine HAV.out.mono ?_
  rintro e w1 ⟨rfl, hf1⟩
  have hS1 := H.out.keep hf1 (fun _ e => e.elim)
  have hmk := mkBytes T (by omega) w1
  have hrow := World.rowIs_made w1 (.int .u8 0) T 5
  have hal : Fr Nil w1 (w1.alloc (.cells (madeCells #[.int .u8 0] T) 5)) := (Fr.refl _ _).alloc _
  have hs1 := hf1.size
  have HS2 := Lib.hid (hS1.keep hal (fun _ e => e.elim))
  have HG2 := Lib.hid (own_fr (own_fr HGS.out hf1 (fun e => e)) hal (fun e => e))
  obtain ⟨rb, hrb⟩ : ∃ rb, w1.heap.size = rb := ⟨_, rfl⟩
  rw [hrb] at hmk hrow hs1
  obtain ⟨W, hW⟩ : ∃ W, (w1.alloc (.cells (madeCells #[.int .u8 0] T) 5)) = W := ⟨_, rfl⟩
  rw [hW] at hrow HS2 HG2
  have HROW := Lib.hid (hrow.congr (g := fun j => u8 (if j < 0 then t.getD j 0 else 0)) (fun j _ => by rw [if_neg (by omega)]; rfl))
  clear hf1 hS1 hal hrow
  go_wp2_with fail
  try rw [hW]
  clear hmk hW
  go_loopg [16, 17, 18] T (fun k s16 s17 s18 wr => ∃ (i : Nat) (u : List Nat), i + k = T ∧ s16 = .int .i64 i ∧ Hid (t.drop i = u ∧ At (bitsOf l) (pos + 8 * i) (encBy u ++ rest)) ∧ Hid (Seg w wr p gb lo l (pos + 8 * i) g n cap xs) ∧
    Hid (wr.rowIs rb 5 T (fun j => u8 (if j < i then t.getD j 0 else 0))) ∧ Hid (wr.ownsRow lo 30 1 (.slice (some ⟨gs, 0, none⟩) 0 cs) 0 []))
  case atStart => exact ⟨0, t, by omega, rfl, Lib.hid ⟨rfl, HAT.out⟩, HS2, HROW, HG2⟩
  case round =>
    obtain ⟨i, u, hi, rfl, HU, HS3, HR3, HG3⟩ := hrel
    cases gk with
    | succ k =>
      have hz : (i : Int) < (T : Int) := by omega
      have hiT : i < T := by omega
      have hcons : u = t.getD i 0 :: t.drop (i + 1) := by
        rw [← HU.out.1, List.drop_eq_getElem_cons (by rw [HT.out]; exact hiT), gdE _ _ (by rw [HT.out]; exact hiT)]
      obtain ⟨c, hc⟩ : ∃ c, t.getD i 0 = c := ⟨_, rfl⟩
      rw [hc] at hcons
      have hc256 : c < 256 := by rw [← hc, gdE _ _ (by rw [HT.out]; exact hiT)]; exact HD.out _ (List.getElem_mem _)
      have HAT2 := Lib.hid (show rd (bitsOf l) (pos + 8 * i) 8 = c ∧ pos + 8 * i + 8 ≤ (bitsOf l).length ∧ At (bitsOf l) (pos + 8 * i + 8) (encBy (t.drop (i + 1)) ++ rest) from by
        have h1 := HU.out.2
        rw [hcons, show encBy (c :: t.drop (i + 1)) = msb c 8 ++ encBy (t.drop (i + 1)) from rfl, List.append_assoc] at h1
        exact h1.msb (by omega))
      have HRB := Lib.hid (readBits' HS3.out.sm 8 c 8 rfl (by omega) (by omega) HAT2.out.2.1 HAT2.out.1)
      have HC := Lib.hid hc
      have HI := Lib.hid hi
      clear hcons hc hi
      go_wp2_with fail
      refine HRB.out.mono ?_
      rintro e w2 ⟨rfl, hsm, hf⟩
      have hS4 := HS3.out.read hsm hf
      have hR4 := rowFr HR3.out hf (fun e => by have : rb = p := e; omega)
      have hG4 := own_fr HG3.out hf (fun e => by have : gs = p := e; omega)
      have c0 := hR4.cell hiT
      rw [if_neg (by omega)] at c0
      have z0 := hR4.frozen i
      have hset := (hR4.set i (u8 c)).congr (g := fun j => u8 (if j < i + 1 then t.getD j 0 else 0)) (fun j hj => by
        by_cases e : j = i
        · rw [if_pos e, if_pos (by omega), e, HC.out]
        · rw [if_neg e]
          by_cases e2 : j < i
          · rw [if_pos e2, if_pos (by omega)]
          · rw [if_neg e2, if_neg (by omega)])
      have hone : Fr (One rb) w2 (w2.setCell ⟨rb, i, none⟩ (u8 c)) := Fr.set1 (Fr.refl _ _) i _
      have HN := Lib.hid (show Seg w (w2.setCell ⟨rb, i, none⟩ (u8 c)) p gb lo l (pos + 8 * (i + 1)) g n cap xs ∧ (w2.setCell ⟨rb, i, none⟩ (u8 c)).rowIs rb 5 T (fun j => u8 (if j < i + 1 then t.getD j 0 else 0)) ∧ (w2.setCell ⟨rb, i, none⟩ (u8 c)).ownsRow lo 30 1 (.slice (some ⟨gs, 0, none⟩) 0 cs) 0 [] from
        ⟨by rw [show pos + 8 * (i + 1) = pos + 8 * i + 8 from by omega]; exact hS4.keep hone (fun k e => by have : k = rb := e; omega), hset, own_fr hG4 hone (fun e => by have : gs = rb := e; omega)⟩)
      clear hS4 hR4 hG4 hset hone hsm hf
      go_wp2_with fail
      go_roundg k
      case measure => omega
      case rel => exact ⟨i + 1, t.drop (i + 1), by have := HI.out; omega, by go_num, Lib.hid ⟨rfl, by rw [show pos + 8 * (i + 1) = pos + 8 * i + 8 from by omega]; exact HAT2.out.2.2⟩, Lib.hid HN.out.1, Lib.hid HN.out.2.1, Lib.hid HN.out.2.2⟩
    | zero =>
      have hz : ¬ (i : Int) < (T : Int) := by omega
      have hiT : i = T := by omega
      subst hiT
      have hR4 := HR3.out.congr (g := fun j => u8 (t.getD j 0)) (fun j hj => by rw [if_pos hj])
      obtain ⟨g2, cap2, w3, a1, hown, hf3, hlies, _⟩ := appB HS3.out.own (by omega) HS3.out.hlo ⟨rb, 0, none⟩ i t (by rw [HT.out]; omega) (by rw [HT.out]; omega) (fun j hj => by rw [addr_add_row, Nat.zero_add]; exact hR4.cell (by rw [← HT.out]; exact hj))
      have hgelo := HS3.out.own.ge
      have hS5 : Seg w w3 p gb lo l (pos + 8 * i) g2 (n + t.length) cap2 (xs ++ t) := ⟨HS3.out.sm.fr hf3 (fun e => by have : p = g := e; omega) (fun e => by have : gb = g := e; have := HS3.out.hb; omega), hown, HS3.out.fr.trans' hf3 (fun k _ e => .inr (by have : k = g := e; omega)), HS3.out.hp, HS3.out.hb, Nat.le_trans HS3.out.hlo hf3.size⟩
      have hR5 := rowFr hR4 hf3 (fun e => by have : rb = g := e; omega)
      have hG5 := own_fr HG3.out hf3 (fun e => hgne (by have : gs = g := e; exact this))
      obtain ⟨gs2, cs2, w4, a2, hown2, hf4, _⟩ := appS hG5 (by omega) hS5.hlo (.slice (some ⟨rb, 0, none⟩) i i) rfl
      have hgs3 : gs ≠ g2 := by
        rcases hlies with e | e
        · rw [e]; exact hgne
        · have := HS3.out.fr.size; omega
      have hS6 := hS5.keep hf4 (fun k e => by have : k = gs := e; omega)
      have hR6 := rowFr hR5 hf4 (fun e => by have : rb = gs := e; omega)
      rw [HT.out] at a1 hS6
      rw [show 0 + 1 = 1 from rfl] at a2 hown2
      have HA1 := Lib.hid a1
      have HA2 := Lib.hid a2
      have HFIN := Lib.hid (show _ ∧ _ ∧ _ from ⟨hS6, hown2, hR6⟩)
      clear hR4 hown hf3 hlies hS5 hR5 hG5 a1 a2 hown2 hf4 hS6 hR6
      go_upto_region 10 with (at_builtin; refine Lib.wpList_append_run _ rfl _ _ _ _ rfl _ _ rfl rfl _ _ HA1.out ?_)
      go_wp2_with (at_builtin; refine Lib.wpList_append_run _ rfl _ _ _ _ rfl _ _ rfl rfl _ _ HA2.out ?_)
      go_ret3
      first
        | exact ⟨g2, cap2, gs2, cs2, rfl, HFIN.out.1, rb, HFIN.out.2.1, HFIN.out.2.2⟩
        | exact ⟨g2, cap2, gs2, cs2, rfl, HFIN.out.1, rb, HFIN.out.2.1, HFIN.out.2.2.congr (fun j _ => by rw [List.getD_eq_getElem?_getD])⟩
end Go.Proofs.YtcekbhhpcmhicaaGreatDoor
/- The parts of the bit stream's parser. -/
namespace Go.Proofs.YtcekbhhpcmhicaaGreatDoor
open Go Go.RowKit Go.Deep
set_option maxRecDepth 100000
theorem modeFor_calls (m : Nat) (hm : m = 0 ∨ m = 1 ∨ m = 2 ∨ m = 4) (w : World) : Calls Tryz.prog 245 #[i64 m] w fun e w' => e = .returned (.tuple #[i64 m, .nilIface]) ∧ w = w' := by
  rcases hm with rfl | rfl | rfl | rfl <;> (go_enter Tryz.func245, Tryz.ntmps245; go_wp2; go_ret2; exact ⟨rfl, rfl⟩)
def lvStr : Nat → ByteArray
  | 0 => ⟨#[77]⟩
  | 1 => ⟨#[76]⟩
  | 2 => ⟨#[72]⟩
  | _ => ⟨#[81]⟩
theorem levelStr_calls (l : Nat) (hl : l < 4) (w : World) : Calls Tryz.prog 254 #[i64 l] w fun e w' => e = .returned (.string (lvStr l)) ∧ w = w' := by
  match l, hl with
  | 0, _ | 1, _ | 2, _ | 3, _ =>
    go_enter Tryz.func254, Tryz.ntmps254
    go_wp2
    go_ret
    exact ⟨rfl, rfl⟩
/-- the result's record -/
def resCells (gb L : Nat) (txt : ByteArray) (segs : Value) (lv : ByteArray) : Array Value :=
  #[.slice (some ⟨gb, 0, none⟩) L L, .int .i64 (8 * (L : Int)), .string txt, segs, .string lv, .int .i64 0, .int .i64 0, .nilIface, .int .i64 (-1), .int .i64 (-1), .int .i64 1]
set_option maxHeartbeats 1600000 in
theorem newResult_calls (gb L gs n cs : Nat) (hL : L ≤ 4000) (txt lv : ByteArray) (segs : Value) (hs : segs = .slice none 0 0 ∨ ∃ gs n cs, segs = .slice (some ⟨gs, 0, none⟩) n cs) (w : World) :
    Calls Tryz.prog 253 #[.slice (some ⟨gb, 0, none⟩) L L, .string txt, segs, .string lv, .int .i64 (-1), .int .i64 (-1), .int .i64 1] w fun e w' => e = .returned (.pointer (some ⟨w.heap.size, 0, none⟩)) ∧ Blk w' w.heap.size 221 (resCells gb L txt segs lv) ∧ Fr Nil w w' := by
  have hf : Fr Nil w (w.alloc (.cells (resCells gb L txt segs lv) 221)) := (Fr.refl _ _).alloc _
  have HN := Lib.hid (show _ ∧ _ from ⟨Blk.new w 221 (resCells gb L txt segs lv), hf⟩)
  clear hf
  unfold resCells at *
  rcases hs with rfl | ⟨gs, n, cs, rfl⟩
  · go_enter Tryz.func253, Tryz.ntmps253
    go_wp2_with fail
    go_ret
    exact ⟨rfl, HN.out⟩
  · go_enter Tryz.func253, Tryz.ntmps253
    go_wp2_with fail
    go_ret
    exact ⟨rfl, HN.out⟩
theorem mk50 (w : World) : (Instr.makeSlice 30 (.int .i64 0) (.int .i64 50)).run Tryz.prog w = .ok (.slice (some ⟨w.heap.size, 0, none⟩) 0 50) (w.alloc (.cells (madeCells #[.int .u8 0] 50) 5)) := by
  obtain ⟨i, hi, hzz⟩ := Option.map_eq_some_iff.1 Tryz.inf5
  simp only [Prod.mk.injEq] at hzz
  have := run_make (P := Tryz.prog) w 30 5 i (.int .u8 0) Tryz.und30 hi hzz.1 .i64 .i64 0 50 (by omega) (by omega) (by rw [hzz.2.2]; decide) (by omega)
  rw [hzz.2.1] at this
  exact this
theorem mkSeg1 (w : World) : (Instr.makeSlice 31 (.int .i64 0) (.int .i64 1)).run Tryz.prog w = .ok (.slice (some ⟨w.heap.size, 0, none⟩) 0 1) (w.alloc (.cells (madeCells #[.slice none 0 0] 1) 30)) := by
  obtain ⟨i, hi, hzz⟩ := Option.map_eq_some_iff.1 Tryz.inf30
  simp only [Prod.mk.injEq] at hzz
  have := run_make (P := Tryz.prog) w 31 30 i (.slice none 0 0) Tryz.und31 hi hzz.1 .i64 .i64 0 1 (by omega) (by omega) (by rw [hzz.2.2]; decide) (by omega)
  rw [hzz.2.1] at this
  exact this
theorem own_spare (w : World) (e : TypeId) (z : Value) (c lo : Nat) (hlo : lo ≤ w.heap.size) (hc : c ≤ maxLen) : (w.alloc (.cells (madeCells #[z] c) e)).ownsRow lo e 1 (.slice (some ⟨w.heap.size, 0, none⟩) 0 c) 0 [] :=
  ⟨rfl, .inr ⟨w.heap.size, c, madeCells #[z] c, rfl, hlo, heap_alloc_new w _, Nat.zero_le _, hc, (size_madeCells _ _).trans (Nat.mul_one _).symm, by simp⟩⟩
end Go.Proofs.YtcekbhhpcmhicaaGreatDoor
/- DecodedBitStreamParser_Decode of one segment and what fills up. -/
namespace Go.Proofs.YtcekbhhpcmhicaaGreatDoor
open Go Go.RowKit Go.Deep
set_option maxRecDepth 100000
theorem Tryz.und9 : Tryz.prog.underlying 9 = some .string := by kernel_rfl
theorem Tryz.und5 : Tryz.prog.underlying 5 = some (.int .u8) := by kernel_rfl
/-- the string of bytes -/
def strOf (t : List Nat) : ByteArray := (t.map Int.ofNat).foldl (fun r n => r.push (UInt8.ofNat n.toNat)) ByteArray.empty
theorem own8_cell {w : World} {lo g n cap : Nat} {t : List Nat} (h : Own8 w lo g n cap t) {j : Nat} {v : Value} (hv : (t.map u8)[j]? = some v) : w.cell? ⟨g, j, none⟩ = some v := own_cell h hv
theorem convB {w : World} {lo g cap : Nat} {t : List Nat} (h : Own8 w lo g t.length cap t) : (convert 30 9 (.slice (some ⟨g, 0, none⟩) t.length cap)).run Tryz.prog w = .ok (.string (strOf t)) w := by
  rw [run_convert_bytes_string w 30 9 5 _ _ _ Tryz.und30 Tryz.und5 Tryz.und9]
  have hl := run_loadCells_list (P := Tryz.prog) (w := w) ⟨g, 0, none⟩ (t.map u8) (fun j v hv => by rw [addr_add_row, Nat.zero_add]; exact own8_cell h hv)
  rw [List.length_map] at hl
  refine run_bytesToString w ⟨g, 0, none⟩ t.length cap (t.map Int.ofNat) ?_
  rw [List.map_map]
  exact hl
theorem Seg.self {w0 w : World} {p gb lo pos g n cap : Nat} {l xs : List Nat} (h : Seg w0 w p gb lo l pos g n cap xs) : Seg w w p gb lo l pos g n cap xs := ⟨h.sm, h.own, Fr.refl _ _, h.hp, h.hb, h.hlo⟩
theorem Seg.chain {w0 w w' : World} {p gb lo pos pos' g n cap g' n' cap' : Nat} {l xs xs' : List Nat} (h : Seg w0 w p gb lo l pos g n cap xs) (k : Seg w w' p gb lo l pos' g' n' cap' xs') : Seg w0 w' p gb lo l pos' g' n' cap' xs' := ⟨k.sm, k.own, h.fr.trans k.fr, k.hp, k.hb, k.hlo⟩
/-- the segments of bytes as the result keeps them: none, or the one -/
def SegsAt (w : World) (segs : Value) (t : List Nat) : Prop := segs = .slice none 0 0 ∨ ∃ gs cs rb, segs = .slice (some ⟨gs, 0, none⟩) 1 cs ∧ w.cell? ⟨gs, 0, none⟩ = some (.slice (some ⟨rb, 0, none⟩) t.length t.length) ∧ w.rowIs rb 5 t.length (fun i => u8 (t.getD i 0))
set_option maxHeartbeats 3200000 in
theorem decodeStream_calls {w : World} {gb lov hi pv v m lv : Nat} {l t : List Nat} {zs : List Bool} (hrow : w.rowIs gb 5 l.length (fun i => u8 (l.getD i 0))) (hel : Elems l) (hle : l.length ≤ 4000)
    (hv : VerAt w lov hi pv v) (hhi : hi ≤ w.heap.size) (hm : Mode3 m) (hlv : lv < 4) (hok : okFor m t) (ht : t.length ≤ 600) (ht1 : 1 ≤ t.length) (htb : ∀ c ∈ t, c < 256) (hcc : t.length < 2 ^ cc m v)
    (hbits : bitsOf l = msb m 4 ++ (msb t.length (cc m v) ++ (enc m t ++ zs))) (hz : zs.length < 4 ∨ ∃ r, zs = msb 0 4 ++ r) :
    Calls Tryz.prog 214 #[.slice (some ⟨gb, 0, none⟩) l.length l.length, .pointer (some ⟨pv, 0, none⟩), i64 lv, .map none] w fun e w' => ∃ rp segs, e = .returned (.tuple #[.pointer (some ⟨rp, 0, none⟩), .nilIface]) ∧
      Blk w' rp 221 (resCells gb l.length (strOf t) segs (lvStr lv)) ∧ SegsAt w' segs t ∧ Fr Nil w w' := by
  have hcr := cc_range m v hm
  have hgbl := hrow.lt
  have hT8 : (bitsOf l).length = 8 * l.length := bitsOf_length l
  have HNS := Lib.hid (newSource_calls hrow hel hle)
  have HV := Lib.hid hv
  obtain ⟨T, hT⟩ : ∃ T, t.length = T := ⟨_, rfl⟩
  have HAT0 := Lib.hid (show At (bitsOf l) 0 (msb m 4 ++ (msb T (cc m v) ++ (enc m t ++ zs))) from by
    rw [← hT]; exact At.here _ _ [] (by rw [List.append_nil]; exact hbits))
  rw [hT] at ht ht1 hcc
  have HT := Lib.hid hT
  have hm16 : m < 2 ^ 4 := by rcases hm with rfl | rfl | rfl <;> decide
  have HA1 := Lib.hid (HAT0.out.msb hm16)
  have HA2 := Lib.hid (HA1.out.2.2.msb hcc)
  rw [Nat.zero_add] at HA1 HA2
  have HLN : Hid (8 * l.length = 4 + cc m v + (enc m t).length + zs.length) := Lib.hid (by
    rw [← hT8, hbits]
    simp only [List.length_append, msb_length]
    omega)
  have HTB := Lib.hid htb
  have HOK := Lib.hid hok
  have HZ := Lib.hid hz
  obtain ⟨L, hL⟩ : ∃ L, l.length = L := ⟨_, rfl⟩
  have HL := Lib.hid hL
  rw [hL] at hle ⊢
  rw [hL] at HNS
  clear hrow hel hv hT hok htb hbits hz hT8 hL
  go_enter Tryz.func214, Tryz.ntmps214
  go_wp2_with fail
  refine HNS.out.mono ?_
  rintro e w1 ⟨rfl, hSM, hf1⟩
  have hp1 := Blk.lt hSM.st
  have hs1 := hf1.size
  obtain ⟨p, hp⟩ : ∃ p, w.heap.size = p := ⟨_, rfl⟩
  rw [hp] at hSM hp1 hs1 ⊢
  have hmk1 := mk50 w1
  have hf2 : Fr Nil w1 (w1.alloc (.cells (madeCells #[.int .u8 0] 50) 5)) := (Fr.refl _ _).alloc _
  have hown1 : Own8 (w1.alloc (.cells (madeCells #[.int .u8 0] 50) 5)) (p + 1) w1.heap.size 0 50 [] := own_spare w1 5 (.int .u8 0) 50 (p + 1) (by omega) (by decide)
  have hsz2 : (w1.alloc (.cells (madeCells #[.int .u8 0] 50) 5)).heap.size = w1.heap.size + 1 := by simp
  obtain ⟨W1, hW1⟩ : ∃ W1, (w1.alloc (.cells (madeCells #[.int .u8 0] 50) 5)) = W1 := ⟨_, rfl⟩
  rw [hW1] at hf2 hown1 hsz2
  have hmk2 := mkSeg1 W1
  have hf3 : Fr Nil W1 (W1.alloc (.cells (madeCells #[.slice none 0 0] 1) 30)) := (Fr.refl _ _).alloc _
  have hown2 : (W1.alloc (.cells (madeCells #[.slice none 0 0] 1) 30)).ownsRow (p + 1) 30 1 (.slice (some ⟨W1.heap.size, 0, none⟩) 0 1) 0 [] := own_spare W1 30 (.slice none 0 0) 1 (p + 1) (by omega) (by decide)
  obtain ⟨W2, hW2⟩ : ∃ W2, (W1.alloc (.cells (madeCells #[.slice none 0 0] 1) 30)) = W2 := ⟨_, rfl⟩
  rw [hW2] at hf3 hown2
  have hs3 := hf3.size
  obtain ⟨g0, hg0⟩ : ∃ g0, w1.heap.size = g0 := ⟨_, rfl⟩
  obtain ⟨gs0, hgs0⟩ : ∃ gs0, W1.heap.size = gs0 := ⟨_, rfl⟩
  rw [hg0] at hown1 hmk1
  rw [hgs0] at hown2 hmk2
  have HSEG := Lib.hid (show Seg W2 W2 p gb (p + 1) l 0 g0 0 50 [] from ⟨(hSM.fr hf2 (fun e => e) (fun e => e)).fr hf3 (fun e => e) (fun e => e), hown1.fr hf3 (fun e => e), Fr.refl _ _, by omega, by omega, by omega⟩)
  have HOWN := Lib.hid hown2
  have HFW := Lib.hid ((hf1.trans hf2).trans hf3)
  have HV2 := Lib.hid (HV.out.fr HFW.out (fun _ _ _ e => e))
  have hhip : hi ≤ p := by omega
  have hpw : Hid (w.heap.size = p) := Lib.hid hp
  clear hSM hf1 hf2 hf3 hown1 hown2 HV hp hg0 hgs0 hp1 hs1 hsz2 hs3
  go_wp2_with fail
  try rw [hW2]
  clear hmk1 hmk2 hW1 hW2
  obtain ⟨C, hC⟩ : ∃ C, cc m v = C := ⟨_, rfl⟩
  have HCE := Lib.hid hC
  rw [hC] at HA1 HA2 HLN HAT0 hcr
  clear hC
  go_loopg [11, 12, 13, 14, 16, 17, 18, 19] 2 (fun k s11 s12 s13 s14 s16 s17 s18 s19 wr => ∃ (g1 n1 cap1 pos1 gs1 ns1 cs1 : Nat) (xs : List Nat), s11 = .slice (some ⟨g1, 0, none⟩) n1 cap1 ∧ s12 = .slice (some ⟨gs1, 0, none⟩) ns1 cs1 ∧ s13 = .int .i64 (-1) ∧ s14 = .int .i64 (-1) ∧ s16 = .pointer none ∧ s17 = .bool false ∧ s18 = .bool false ∧ s19 = .bool false ∧
    Hid (Seg W2 wr p gb (p + 1) l pos1 g1 n1 cap1 xs) ∧ Hid ((k = 2 ∧ n1 = 0 ∧ pos1 = 0 ∧ xs = [] ∧ ns1 = 0 ∧ wr.ownsRow (p + 1) 30 1 (.slice (some ⟨gs1, 0, none⟩) 0 cs1) 0 []) ∨
      (k = 1 ∧ n1 = T ∧ pos1 = 4 + C + (enc m t).length ∧ xs = t ∧ (ns1 = 0 ∨ (ns1 = 1 ∧ p + 1 ≤ gs1 ∧ ∃ rb, wr.cell? ⟨gs1, 0, none⟩ = some (.slice (some ⟨rb, 0, none⟩) T T) ∧ wr.rowIs rb 5 T (fun i => u8 (t.getD i 0)))))))
  case atStart => exact ⟨g0, 0, 50, 0, gs0, 0, 1, [], rfl, rfl, rfl, rfl, rfl, rfl, rfl, rfl, HSEG, Lib.hid (.inl ⟨rfl, rfl, rfl, rfl, rfl, HOWN.out⟩)⟩
  case round =>
    obtain ⟨g1, n1, cap1, pos1, gs1, ns1, cs1, xs, rfl, rfl, rfl, rfl, rfl, rfl, rfl, rfl, HS, HR⟩ := hrel
    cases gk with
    | zero => rcases HR.out with h | h <;> (have := h.1; omega)
    | succ k =>
      by_cases hk : k = 1
      · have hA : n1 = 0 ∧ pos1 = 0 ∧ xs = [] ∧ ns1 = 0 ∧ wr.ownsRow (p + 1) 30 1 (.slice (some ⟨gs1, 0, none⟩) 0 cs1) 0 [] := by
          rcases HR.out with h | h
          · exact h.2
          · have := h.1; omega
        obtain ⟨rfl, rfl, rfl, rfl, hgs⟩ := hA
        have HG := Lib.hid hgs
        have HAV := Lib.hid (available_calls HS.out.sm (by omega))
        obtain ⟨av, hav⟩ : ∃ av, 8 * l.length - 0 = av := ⟨_, rfl⟩
        rw [hav] at HAV
        have hav4 : ¬ (av : Int) < 4 := by have := HLN.out; omega
        clear hgs hav
        go_wp2_with fail
        refine HAV.out.mono ?_
        rintro e w2 ⟨rfl, hf⟩
        have HS2 := Lib.hid (HS.out.keep hf (fun _ e => e.elim))
        have HG2 := Lib.hid (own_fr HG.out hf (fun e => e))
        have HRB := Lib.hid (readBits' HS2.out.sm 4 m 4 rfl (by omega) (by omega) (by rw [Nat.zero_add]; exact HA1.out.2.1) HA1.out.1)
        clear hf
        go_wp2_with fail
        refine HRB.out.mono ?_
        rintro e w3 ⟨rfl, hsm, hf⟩
        have hgp : gs1 ≠ p := by
          rcases HG2.out.2 with ⟨h0, _⟩ | ⟨g', cap', cur, hv', h1, _⟩
          · cases h0
          · cases hv'; omega
        have HS3 := Lib.hid (HS2.out.read hsm hf)
        have HG3 := Lib.hid (own_fr HG2.out hf hgp)
        clear hsm hf
        go_wp2_with fail
        refine (modeFor_calls m (by rcases hm with h | h | h <;> omega) _).mono ?_
        rintro e w4 ⟨rfl, rfl⟩
        have HVW := Lib.hid (HV2.out.fr HS3.out.fr (fun i h1 h2 e => by rcases e with e | e <;> omega))
        have HCCx := charCount_calls HVW.out m hm
        rw [HCE.out] at HCCx
        have HCC := Lib.hid HCCx
        clear HCCx
        rcases hm with rfl | rfl | rfl
        · have henc : enc 1 t = encNum t := rfl
          go_wp2_with fail
          refine HCC.out.mono ?_
          rintro e w5 ⟨rfl, hf⟩
          have HS4 := Lib.hid (HS3.out.keep hf (fun _ e => e.elim))
          have HG4 := Lib.hid (own_fr HG3.out hf (fun e => e))
          have HRB2 := Lib.hid (readBits' HS4.out.sm C T (C : Int) rfl (by omega) (by omega) (by rw [Nat.zero_add]; exact HA2.out.2.1) (by rw [Nat.zero_add]; exact HA2.out.1))
          clear hf
          go_wp2_with fail
          refine HRB2.out.mono ?_
          rintro e w6 ⟨rfl, hsm, hf⟩
          have HS5 := Lib.hid (HS4.out.read hsm hf)
          have HG5 := Lib.hid (own_fr HG4.out hf hgp)
          clear hsm hf
          have hseg := numericSeg_calls (rest := zs) HS5.out.self (by omega) (by rw [HT.out]; omega) (HOK.out.1 rfl) (by rw [Nat.zero_add, ← henc]; exact HA2.out.2.2)
          rw [Nat.zero_add, HT.out, ← henc] at hseg
          have HSG := Lib.hid hseg
          clear hseg henc
          go_wp2_with fail
          refine HSG.out.mono ?_
          rintro e w7 ⟨g2, cap2, rfl, hs⟩
          have HS6 : Hid (Seg W2 w7 p gb (p + 1) l (4 + C + (enc 1 t).length) g2 T cap2 t) := Lib.hid (by
            have := HS5.out.chain hs
            rw [show (0 + 4 + C + (enc 1 t).length) = 4 + C + (enc 1 t).length from by omega, List.nil_append] at this
            exact this)
          clear hs
          go_wp2_with fail
          go_roundg k
          case measure => omega
          case rel => exact ⟨g2, T, cap2, 4 + C + (enc 1 t).length, gs1, 0, cs1, t, rfl, rfl, rfl, rfl, rfl, rfl, rfl, rfl, HS6, Lib.hid (.inr ⟨hk, rfl, rfl, rfl, .inl rfl⟩)⟩
        · have henc : enc 2 t = encAl t := rfl
          go_wp2_with fail
          refine HCC.out.mono ?_
          rintro e w5 ⟨rfl, hf⟩
          have HS4 := Lib.hid (HS3.out.keep hf (fun _ e => e.elim))
          have HG4 := Lib.hid (own_fr HG3.out hf (fun e => e))
          have HRB2 := Lib.hid (readBits' HS4.out.sm C T (C : Int) rfl (by omega) (by omega) (by rw [Nat.zero_add]; exact HA2.out.2.1) (by rw [Nat.zero_add]; exact HA2.out.1))
          clear hf
          go_wp2_with fail
          refine HRB2.out.mono ?_
          rintro e w6 ⟨rfl, hsm, hf⟩
          have HS5 := Lib.hid (HS4.out.read hsm hf)
          have HG5 := Lib.hid (own_fr HG4.out hf hgp)
          clear hsm hf
          have hseg := alSeg_calls (rest := zs) HS5.out.self (by omega) (by rw [HT.out]; omega) (HOK.out.2 rfl) (by rw [Nat.zero_add, ← henc]; exact HA2.out.2.2)
          rw [Nat.zero_add, HT.out, ← henc] at hseg
          have HSG := Lib.hid hseg
          clear hseg henc
          go_wp2_with fail
          refine HSG.out.mono ?_
          rintro e w7 ⟨g2, cap2, rfl, hs⟩
          have HS6 : Hid (Seg W2 w7 p gb (p + 1) l (4 + C + (enc 2 t).length) g2 T cap2 t) := Lib.hid (by
            have := HS5.out.chain hs
            rw [show (0 + 4 + C + (enc 2 t).length) = 4 + C + (enc 2 t).length from by omega, List.nil_append] at this
            exact this)
          clear hs
          go_wp2_with fail
          go_roundg k
          case measure => omega
          case rel => exact ⟨g2, T, cap2, 4 + C + (enc 2 t).length, gs1, 0, cs1, t, rfl, rfl, rfl, rfl, rfl, rfl, rfl, rfl, HS6, Lib.hid (.inr ⟨hk, rfl, rfl, rfl, .inl rfl⟩)⟩
        · have henc : enc 4 t = encBy t := rfl
          go_wp2_with fail
          refine HCC.out.mono ?_
          rintro e w5 ⟨rfl, hf⟩
          have HS4 := Lib.hid (HS3.out.keep hf (fun _ e => e.elim))
          have HG4 := Lib.hid (own_fr HG3.out hf (fun e => e))
          have HRB2 := Lib.hid (readBits' HS4.out.sm C T (C : Int) rfl (by omega) (by omega) (by rw [Nat.zero_add]; exact HA2.out.2.1) (by rw [Nat.zero_add]; exact HA2.out.1))
          clear hf
          go_wp2_with fail
          refine HRB2.out.mono ?_
          rintro e w6 ⟨rfl, hsm, hf⟩
          have HS5 := Lib.hid (HS4.out.read hsm hf)
          have HG5 := Lib.hid (own_fr HG4.out hf hgp)
          clear hsm hf
          have hseg := bySeg_calls (rest := zs) HS5.out.self (by omega) (by rw [HT.out]; omega) (by rw [HT.out]; omega) HTB.out (by rw [Nat.zero_add, ← henc]; exact HA2.out.2.2) HG5.out
          rw [Nat.zero_add, HT.out, ← henc] at hseg
          have HSG := Lib.hid hseg
          clear hseg henc
          go_wp2_with fail
          refine HSG.out.mono ?_
          rintro e w7 ⟨g2, cap2, gs2, cs2, rb, rfl, hs, ho, hr⟩
          have HS6 : Hid (Seg W2 w7 p gb (p + 1) l (4 + C + (enc 4 t).length) g2 T cap2 t) := Lib.hid (by
            have := HS5.out.chain hs
            rw [show (0 + 4 + C + (enc 4 t).length) = 4 + C + (enc 4 t).length from by omega, List.nil_append] at this
            exact this)
          have hgg : p + 1 ≤ gs2 := by
            rcases ho.2 with ⟨h0, _⟩ | ⟨g', cap', cur, hv', h1, _⟩
            · cases h0
            · cases hv'; omega
          have HB := Lib.hid (show _ ∧ _ ∧ _ from ⟨hgg, own_cell ho (i := 0) rfl, hr⟩)
          clear hs ho hr hgg
          go_wp2_with fail
          go_roundg k
          case measure => omega
          case rel => exact ⟨g2, T, cap2, 4 + C + (enc 4 t).length, gs2, 1, cs2, t, rfl, rfl, rfl, rfl, rfl, rfl, rfl, rfl, HS6, Lib.hid (.inr ⟨hk, rfl, rfl, rfl, .inr ⟨rfl, HB.out.1, rb, HB.out.2⟩⟩)⟩
      · have hB : n1 = T ∧ pos1 = 4 + C + (enc m t).length ∧ xs = t ∧ (ns1 = 0 ∨ (ns1 = 1 ∧ p + 1 ≤ gs1 ∧ ∃ rb, wr.cell? ⟨gs1, 0, none⟩ = some (.slice (some ⟨rb, 0, none⟩) T T) ∧ wr.rowIs rb 5 T (fun i => Value.int .u8 ((t.getD i 0 : Nat) : Int)))) := by
          rcases HR.out with h | h
          · have := h.1; omega
          · exact h.2
        obtain ⟨rfl, rfl, rfl, hR0⟩ := hB
        clear HR
        have HAV := Lib.hid (available_calls HS.out.sm (by have := HLN.out; omega))
        have HAVE : Hid (8 * l.length - (4 + C + (enc m xs).length) = zs.length) := Lib.hid (by have := HLN.out; omega)
        rw [HAVE.out] at HAV
        have HR0 := Lib.hid hR0
        clear hR0
        by_cases hav : zs.length < 4
        · have havz : (zs.length : Int) < 4 := by omega
          go_wp2_with fail
          refine HAV.out.mono ?_
          rintro e w2 ⟨rfl, hf⟩
          have HS2 := Lib.hid (HS.out.keep hf (fun _ e => e.elim))
          have hR2 : ns1 = 0 ∨ (ns1 = 1 ∧ p + 1 ≤ gs1 ∧ ∃ rb, w2.cell? ⟨gs1, 0, none⟩ = some (.slice (some ⟨rb, 0, none⟩) n1 n1) ∧ w2.rowIs rb 5 n1 (fun i => Value.int .u8 ((xs.getD i 0 : Nat) : Int))) := by
            rcases HR0.out with h | ⟨h, hg, rb, h1, h2⟩
            · exact .inl h
            · exact .inr ⟨h, hg, rb, hf.cell_some h1 (fun e => e), rowFr h2 hf (fun e => e)⟩
          clear hf
          have HCV := Lib.hid (fun (w' : World) (hf : Fr Nil w2 w') => (show (convert 30 9 (.slice (some ⟨g1, 0, none⟩) n1 cap1)).run Tryz.prog w' = .ok (.string (strOf xs)) w' from by
            have := convB (w := w') (lo := p + 1) (g := g1) (cap := cap1) (t := xs) (by have := HS2.out.own.fr hf (fun e => e); rw [HT.out]; exact this)
            rw [HT.out] at this
            exact this))
          have HFZ := Lib.hid (HFW.out.trans' HS2.out.fr (fun i hi e => by have := hpw.out; rcases e with e | e <;> omega))
          rcases hR2 with rfl | ⟨rfl, _, rb, hc0, hr0⟩
          · have hsg : ∀ w', SegsAt w' (.slice none 0 0) xs := fun w' => .inl rfl
            have HNR := Lib.hid (fun W => newResult_calls gb L 0 0 0 hle (strOf xs) (lvStr lv) (.slice none 0 0) (.inl rfl) W)
            go_wp2_with fail
            go_region_held3 (fun w' => (convert 30 9 (.slice (some ⟨g1, 0, none⟩) n1 cap1)).run Tryz.prog w' = .ok (.string (strOf xs)) w')
              (first
                | exact HCV.out _ (Fr.refl _ _).drew
                | exact HCV.out _ hfa)
              ((first
                | (go_at_call 254; refine (levelStr_calls lv hlv _).mono ?_; rintro e wa ⟨rfl, rfl⟩)
                | (go_at_call 253; refine (HNR.out _).mono ?_; rintro e wb ⟨rfl, hb, hf1⟩; have hfa : Fr Nil w2 wb := hf1.from_drew)))
            all_goals
              have HFIN := Lib.hid (show _ ∧ _ from ⟨hb, HFZ.out.trans hfa⟩)
              clear hb hf1 hfa
              go_wp2_with fail
              go_ret2
              exact ⟨_, .slice none 0 0, rfl, HFIN.out.1, hsg _, HFIN.out.2⟩
          · have HNR := Lib.hid (fun W => newResult_calls gb L 0 0 0 hle (strOf xs) (lvStr lv) (.slice (some ⟨gs1, 0, none⟩) 1 cs1) (.inr ⟨_, _, _, rfl⟩) W)
            have HSS := Lib.hid (fun (w' : World) (hf : Fr Nil w2 w') => (show SegsAt w' (.slice (some ⟨gs1, 0, none⟩) 1 cs1) xs from .inr ⟨gs1, cs1, rb, rfl, by rw [HT.out]; exact hf.cell_some hc0 (fun e => e), by rw [HT.out]; exact rowFr hr0 hf (fun e => e)⟩))
            clear hc0 hr0
            go_wp2_with fail
            go_region_held3 (fun w' => (convert 30 9 (.slice (some ⟨g1, 0, none⟩) n1 cap1)).run Tryz.prog w' = .ok (.string (strOf xs)) w')
              (first
                | exact HCV.out _ (Fr.refl _ _).drew
                | exact HCV.out _ hfa)
              ((first
                | (go_at_call 254; refine (levelStr_calls lv hlv _).mono ?_; rintro e wa ⟨rfl, rfl⟩)
                | (go_at_call 253; refine (HNR.out _).mono ?_; rintro e wb ⟨rfl, hb, hf1⟩; have hfa : Fr Nil w2 wb := hf1.from_drew)))
            all_goals
              have HFIN := Lib.hid (show _ ∧ _ ∧ _ from ⟨hb, HSS.out _ hfa, HFZ.out.trans hfa⟩)
              clear hb hf1 hfa
              go_wp2_with fail
              go_ret2
              exact ⟨_, _, rfl, HFIN.out⟩
        · have havz : ¬ (zs.length : Int) < 4 := by omega
          have HAT3 := Lib.hid (show rd (bitsOf l) (4 + C + (enc m xs).length) 4 = 0 ∧ 4 + C + (enc m xs).length + 4 ≤ (bitsOf l).length from by
            rcases HZ.out with h | ⟨r, h⟩
            · omega
            · have h1 := HA2.out.2.2.snd
              rw [h] at h1
              have h2 := h1.msb (by decide)
              exact ⟨h2.1, h2.2.1⟩)
          go_wp2_with fail
          refine HAV.out.mono ?_
          rintro e w2 ⟨rfl, hf⟩
          have HS2 := Lib.hid (HS.out.keep hf (fun _ e => e.elim))
          have hR1 : ns1 = 0 ∨ (ns1 = 1 ∧ p + 1 ≤ gs1 ∧ ∃ rb, w2.cell? ⟨gs1, 0, none⟩ = some (.slice (some ⟨rb, 0, none⟩) n1 n1) ∧ w2.rowIs rb 5 n1 (fun i => Value.int .u8 ((xs.getD i 0 : Nat) : Int))) := by
            rcases HR0.out with h | ⟨h, hg, rb, h1, h2⟩
            · exact .inl h
            · exact .inr ⟨h, hg, rb, hf.cell_some h1 (fun e => e), rowFr h2 hf (fun e => e)⟩
          have HR1 := Lib.hid hR1
          have HRB := Lib.hid (readBits' HS2.out.sm 4 0 4 rfl (by omega) (by omega) HAT3.out.2 HAT3.out.1)
          clear hf hR1
          go_wp2_with fail
          refine HRB.out.mono ?_
          rintro e w3 ⟨rfl, hsm, hf⟩
          have HS4 := Lib.hid (HS2.out.read hsm hf)
          have hbp := Blk.lt HS2.out.sm.st
          have hR2 : ns1 = 0 ∨ (ns1 = 1 ∧ p + 1 ≤ gs1 ∧ ∃ rb, w3.cell? ⟨gs1, 0, none⟩ = some (.slice (some ⟨rb, 0, none⟩) n1 n1) ∧ w3.rowIs rb 5 n1 (fun i => Value.int .u8 ((xs.getD i 0 : Nat) : Int))) := by
            rcases HR1.out with h | ⟨h, hg, rb, h1, h2⟩
            · exact .inl h
            · refine .inr ⟨h, hg, rb, hf.cell_some h1 (fun e => ?_), rowFr h2 hf (fun e => ?_)⟩
              · have e : gs1 = p := e
                omega
              · have e : rb = p := e
                rw [e] at h2
                exact Blk.row_ne HS2.out.sm.st h2 (by decide) rfl
          have HR2 := Lib.hid hR2
          clear hsm hf hR2
          go_wp2_with fail
          refine (modeFor_calls 0 (by omega) _).mono ?_
          rintro e w4 ⟨rfl, rfl⟩
          have hR2 := HR2.out
          have HCV := Lib.hid (fun (w' : World) (hf : Fr Nil w3 w') => (show (convert 30 9 (.slice (some ⟨g1, 0, none⟩) n1 cap1)).run Tryz.prog w' = .ok (.string (strOf xs)) w' from by
            have := convB (w := w') (lo := p + 1) (g := g1) (cap := cap1) (t := xs) (by have := HS4.out.own.fr hf (fun e => e); rw [HT.out]; exact this)
            rw [HT.out] at this
            exact this))
          have HFZ := Lib.hid (HFW.out.trans' HS4.out.fr (fun i hi e => by have := hpw.out; rcases e with e | e <;> omega))
          rcases hR2 with rfl | ⟨rfl, _, rb, hc0, hr0⟩
          · have hsg : ∀ w', SegsAt w' (.slice none 0 0) xs := fun w' => .inl rfl
            have HNR := Lib.hid (fun W => newResult_calls gb L 0 0 0 hle (strOf xs) (lvStr lv) (.slice none 0 0) (.inl rfl) W)
            go_wp2_with fail
            go_region_held3 (fun w' => (convert 30 9 (.slice (some ⟨g1, 0, none⟩) n1 cap1)).run Tryz.prog w' = .ok (.string (strOf xs)) w')
              (first
                | exact HCV.out _ (Fr.refl _ _).drew
                | exact HCV.out _ hfa)
              ((first
                | (go_at_call 254; refine (levelStr_calls lv hlv _).mono ?_; rintro e wa ⟨rfl, rfl⟩)
                | (go_at_call 253; refine (HNR.out _).mono ?_; rintro e wb ⟨rfl, hb, hf1⟩; have hfa : Fr Nil w3 wb := hf1.from_drew)))
            all_goals
              have HFIN := Lib.hid (show _ ∧ _ from ⟨hb, HFZ.out.trans hfa⟩)
              clear hb hf1 hfa
              go_wp2_with fail
              go_ret2
              exact ⟨_, .slice none 0 0, rfl, HFIN.out.1, hsg _, HFIN.out.2⟩
          · have HNR := Lib.hid (fun W => newResult_calls gb L 0 0 0 hle (strOf xs) (lvStr lv) (.slice (some ⟨gs1, 0, none⟩) 1 cs1) (.inr ⟨_, _, _, rfl⟩) W)
            have HSS := Lib.hid (fun (w' : World) (hf : Fr Nil w3 w') => (show SegsAt w' (.slice (some ⟨gs1, 0, none⟩) 1 cs1) xs from .inr ⟨gs1, cs1, rb, rfl, by rw [HT.out]; exact hf.cell_some hc0 (fun e => e), by rw [HT.out]; exact rowFr hr0 hf (fun e => e)⟩))
            clear hc0 hr0
            go_wp2_with fail
            go_region_held3 (fun w' => (convert 30 9 (.slice (some ⟨g1, 0, none⟩) n1 cap1)).run Tryz.prog w' = .ok (.string (strOf xs)) w')
              (first
                | exact HCV.out _ (Fr.refl _ _).drew
                | exact HCV.out _ hfa)
              ((first
                | (go_at_call 254; refine (levelStr_calls lv hlv _).mono ?_; rintro e wa ⟨rfl, rfl⟩)
                | (go_at_call 253; refine (HNR.out _).mono ?_; rintro e wb ⟨rfl, hb, hf1⟩; have hfa : Fr Nil w3 wb := hf1.from_drew)))
            all_goals
              have HFIN := Lib.hid (show _ ∧ _ ∧ _ from ⟨hb, HSS.out _ hfa, HFZ.out.trans hfa⟩)
              clear hb hf1 hfa
              go_wp2_with fail
              go_ret2
              exact ⟨_, _, rfl, HFIN.out⟩
end Go.Proofs.YtcekbhhpcmhicaaGreatDoor
/- One value more at a slice of ours that may be nil; the law's small functions. -/
namespace Go.Proofs.YtcekbhhpcmhicaaGreatDoor
open Go Go.RowKit Go.Deep
set_option maxRecDepth 100000
/-- the block of a slice -/
def Own (sv : Value) : Nat → Prop := fun k => some k = sv.ownBlock
theorem owns_fr {w w' : World} {F : Nat → Prop} {lo n : Nat} {e : TypeId} {sv : Value} {xs : List Value} (h : w.ownsRow lo e 1 sv n xs) (hf : Fr F w w') (hg : ∀ k, Own sv k → ¬ F k) : w'.ownsRow lo e 1 sv n xs := by
  rcases h.2 with ⟨h0, h1⟩ | ⟨g, cap, cur, hv, h1, hb, h2⟩
  · exact ⟨h.1, .inl ⟨h0, h1⟩⟩
  · subst hv
    exact own_fr h hf (hg g rfl)
theorem owns_lt {w : World} {lo n : Nat} {e : TypeId} {sv : Value} {xs : List Value} (h : w.ownsRow lo e 1 sv n xs) {k : Nat} (hk : Own sv k) : k < w.heap.size ∧ lo ≤ k ∧ ∃ cs, Blk w k e cs := by
  rcases h.2 with ⟨h0, h1⟩ | ⟨g, cap, cur, hv, h1, hb, h2⟩
  · subst h0; cases hk
  · subst hv
    have e : k = g := by cases hk; rfl
    subst e
    exact ⟨Blk.lt hb, h1, cur, hb⟩
theorem owns_nil (w : World) (lo : Nat) (e : TypeId) : w.ownsRow lo e 1 (.slice none 0 0) 0 [] := ⟨rfl, .inl ⟨rfl, rfl⟩⟩
theorem appV {w : World} {lo n T ST bytes : Nat} {z sv v : Value} {xs : List Value} (hu : Tryz.prog.underlying ST = some (.slice T)) (hi : (Tryz.prog.info? T).map (fun i => (i.zero, i.size, i.bytes)) = some (some z, 1, bytes)) (hz : z.cells.size = 1) (hby : bytes ≤ 1000) (h : w.ownsRow lo T 1 sv n xs) (hn : n ≤ 1000000) (hlo : lo ≤ w.heap.size) (hv : v.oneCell' = true) :
    ∃ g2 cap2 w2, (Builtin.append_ #[ST, ST] ST #[sv, .slice (some ⟨w.heap.size, 0, none⟩) 1 1]).run Tryz.prog (w.alloc (.cells #[v] T)) = .ok (.slice (some ⟨g2, 0, none⟩) (n + 1) cap2) w2 ∧
      w2.ownsRow lo T 1 (.slice (some ⟨g2, 0, none⟩) (n + 1) cap2) (n + 1) (xs ++ [v]) ∧ Fr (Own sv) w w2 ∧ lo ≤ w2.heap.size := by
  have hal : Fr Nil w (w.alloc (.cells #[v] T)) := (Fr.refl _ _).alloc _
  have hs := hal.size
  obtain ⟨iT, hiT, hzi⟩ := Option.map_eq_some_iff.1 hi
  simp only [Prod.mk.injEq] at hzi
  obtain ⟨g2, cap2, w7, hap, hown2, hgrow, hlies, hlt⟩ := run_append_lies (P := Tryz.prog) (w := w.alloc (.cells #[v] T)) ST ST lo T iT z 1 bytes hu hiT hzi.1 hzi.2.1 hzi.2.2 hz (by omega)
    sv n xs (owns_fr h hal (fun k hk e => e)) ⟨w.heap.size, 0, none⟩ 1 1 [v] rfl
    (fun k u hu => by
      have hk : k = 0 := by
        rcases Nat.lt_or_ge k 1 with h | h
        · omega
        · rw [List.getElem?_eq_none (by simpa using h)] at hu; cases hu
      subst hk
      rw [← hu, addr_add_row, Nat.zero_add]
      exact (Blk.new w T #[v]).cell 0) (fun u hu => by
      have : u = v := by simpa using hu
      rw [this]; exact hv) (by omega) (by have : maxLen = 9223372036854775807 := rfl; omega) (by
        have : (n + 1) * bytes ≤ 1000001 * 1000 := Nat.mul_le_mul (by omega) hby
        omega) (by omega) _ rfl
  have hfr : Fr (Own sv) (w.alloc (.cells #[v] T)) w7 := (Fr.of_grown hgrow).mono fun k _ e => e
  have hs2 := hfr.size
  exact ⟨g2, cap2, w7, hap, hown2, (hal.any (Own sv)).trans hfr, by omega⟩
theorem fold_push (l : List UInt8) : ∀ r : ByteArray, ((l.map UInt8.toNat).map Int.ofNat).foldl (fun r n => r.push (UInt8.ofNat n.toNat)) r = ⟨r.data ++ l.toArray⟩ := by
  induction l with
  | nil => intro r; simp
  | cons c l ih =>
    intro r
    rw [List.map_cons, List.map_cons, List.foldl_cons, ih]
    have : (r.push (UInt8.ofNat (Int.ofNat c.toNat).toNat)).data = r.data.push c := by
      show r.data.push (UInt8.ofNat c.toNat) = _
      rw [UInt8.ofNat_toNat]
    rw [this]
    simp
theorem strOf_nums (s : ByteArray) : strOf (nums s) = s := by
  unfold strOf nums
  rw [fold_push]
  simp only [ByteArray.empty, ByteArray.emptyWithCapacity]
  cases s
  simp
  rfl
theorem fold_size (l : List Int) : ∀ r : ByteArray, (l.foldl (fun r n => r.push (UInt8.ofNat n.toNat)) r).size = r.size + l.length := by
  induction l with
  | nil => intro r; simp
  | cons c l ih =>
    intro r
    rw [List.foldl_cons, ih, ByteArray.size_push, List.length_cons]; omega
theorem strOf_size (t : List Nat) : (strOf t).size = t.length := by
  unfold strOf
  rw [fold_size, List.length_map]
  exact Nat.zero_add _
theorem lawLevel_calls (n : Nat) (hn : n < 256) (w : World) : Calls Tryz.prog 7 #[.int .u8 n] w fun e w' => e = .returned (i64 (n % 4 : Nat)) ∧ w = w' := by
  have hm : (n : Int) % 4 = ((n % 4 : Nat) : Int) := by omega
  go_enter Tryz.func7, Tryz.ntmps7
  go_wp2
  go_ret
  exact ⟨rfl, rfl⟩
theorem lawName_calls (l : Nat) (hl : l < 4) (w : World) : Calls Tryz.prog 10 #[i64 l] w fun e w' => e = .returned (.string (lvStr l)) ∧ w = w' := by
  have hi : ∀ w : World, (Instr.index 81 (.agg #[.string ⟨#[77]⟩, .string ⟨#[76]⟩, .string ⟨#[72]⟩, .string ⟨#[81]⟩]) (i64 l)).run Tryz.prog w = .ok (.string (lvStr l)) w := by
    match l, hl with
    | 0, _ => exact fun _ => by kernel_rfl
    | 1, _ => exact fun _ => by kernel_rfl
    | 2, _ => exact fun _ => by kernel_rfl
    | 3, _ => exact fun _ => by kernel_rfl
  go_enter Tryz.func10, Tryz.ntmps10
  go_wp2
  go_ret
  exact ⟨rfl, rfl⟩
end Go.Proofs.YtcekbhhpcmhicaaGreatDoor
/- BitMatrix of any width and height: in memory; height, width, get, set, a new one. -/
namespace Go.Proofs.YtcekbhhpcmhicaaGreatDoor
open Go Go.RowKit Go.Deep
set_option maxRecDepth 100000
/-- a BitMatrix of H rows and W columns at block p, its words in block g -/
structure QX (w : World) (p g W H : Nat) (B : Nat → Nat → Bool) : Prop where
  st : Blk w p 304 #[i64 W, i64 H, i64 (qs W), .slice (some ⟨g, 0, none⟩) (qs W * H) (qs W * H)]
  ws : w.rowIs g 252 (qs W * H) (qwV B (qs W))
  w1 : 1 ≤ W
  w2 : W ≤ 2000
  h1 : 1 ≤ H
  h2 : H ≤ 2000
theorem QX.fr {w w' : World} {p g W H : Nat} {B : Nat → Nat → Bool} {F : Nat → Prop} (h : QX w p g W H B) (hf : Fr F w w') (h1 : ¬ F p) (h2 : ¬ F g) : QX w' p g W H B := ⟨h.st.fr hf h1, rowFr h.ws hf h2, h.w1, h.w2, h.h1, h.h2⟩
theorem QX.nil {w w' : World} {p g W H : Nat} {B : Nat → Nat → Bool} (h : QX w p g W H B) (hf : Fr Nil w w') : QX w' p g W H B := h.fr hf (fun e => e) (fun e => e)
theorem QX.ne {w : World} {p g W H : Nat} {B : Nat → Nat → Bool} (h : QX w p g W H B) : p ≠ g := h.st.row_ne h.ws (by decide)
theorem QX.c {w : World} {p g W H : Nat} {B : Nat → Nat → Bool} (h : QX w p g W H B) : w.cell? ⟨p, 0, none⟩ = some (i64 W) ∧ w.cell? ⟨p, 1, none⟩ = some (i64 H) ∧ w.cell? ⟨p, 2, none⟩ = some (i64 (qs W)) ∧ w.cell? ⟨p, 3, none⟩ = some (.slice (some ⟨g, 0, none⟩) (qs W * H) (qs W * H)) :=
  ⟨by simpa using h.st.cell 0, by simpa using h.st.cell 1, by simpa using h.st.cell 2, by simpa using h.st.cell 3⟩
theorem QX.congr {w : World} {p g W H : Nat} {B C : Nat → Nat → Bool} (h : QX w p g W H B) (e : B = C) : QX w p g W H C := e ▸ h
theorem qo2_lt (W H x y : Nat) (hx : x < W) (hy : y < H) : y * qs W + x / 32 < qs W * H := by
  have h1 := qs_lt W x hx
  have h2 : (y + 1) * qs W ≤ H * qs W := Nat.mul_le_mul_right _ (by omega)
  rw [Nat.add_mul, Nat.mul_comm H] at h2
  omega
theorem ql2_le (W H : Nat) (h : W ≤ 2000) (h2 : H ≤ 2000) : qs W ≤ 63 ∧ qs W * H ≤ 126000 := by
  have h1 : qs W ≤ 63 := by unfold qs; omega
  exact ⟨h1, Nat.le_trans (Nat.mul_le_mul h1 h2) (by decide)⟩
theorem QX.set {w : World} {p g W H : Nat} {B : Nat → Nat → Bool} (h : QX w p g W H B) {x y : Nat} (hx : x < W) : QX (w.setCell ⟨g, y * qs W + x / 32, none⟩ (.int .u32 (qw B (qs W) (y * qs W + x / 32) ||| 2 ^ (x % 32) : Nat))) p g W H (setB B y x) := by
  refine ⟨h.st.far (p := ⟨g, _, none⟩) h.ne _, (h.ws.set _ _).congr (fun i _ => ?_), h.w1, h.w2, h.h1, h.h2⟩
  show (if i = _ then Value.int .u32 _ else Value.int .u32 _) = Value.int .u32 _
  rw [qw_set B (qs W) y x i (qs_lt W x hx)]
  split
  · rename_i e; rw [e]
  · rfl
theorem qxHeight_calls {w : World} {p g W H : Nat} {B : Nat → Nat → Bool} (h : QX w p g W H B) : Calls Tryz.prog 135 #[.pointer (some ⟨p, 0, none⟩)] w fun e w' => e = .returned (i64 H) ∧ w = w' := by
  obtain ⟨c0, c1, c2, c3⟩ := h.c
  clear c0 c2 c3
  go_enter Tryz.func135, Tryz.ntmps135
  go_wp2
  go_ret
  exact ⟨rfl, rfl⟩
theorem qxWidth_calls {w : World} {p g W H : Nat} {B : Nat → Nat → Bool} (h : QX w p g W H B) : Calls Tryz.prog 136 #[.pointer (some ⟨p, 0, none⟩)] w fun e w' => e = .returned (i64 W) ∧ w = w' := by
  obtain ⟨c0, c1, c2, c3⟩ := h.c
  clear c1 c2 c3
  go_enter Tryz.func136, Tryz.ntmps136
  go_wp2
  go_ret
  exact ⟨rfl, rfl⟩
set_option maxHeartbeats 1600000 in
theorem qxGet_calls {w : World} {p g W H : Nat} {B : Nat → Nat → Bool} (h : QX w p g W H B) (x y : Nat) (hx : x < W) (hy : y < H) :
    Calls Tryz.prog 137 #[.pointer (some ⟨p, 0, none⟩), i64 x, i64 y] w fun e w' => e = .returned (.bool (B y x)) ∧ w = w' := by
  obtain ⟨c0, c1, c2, c3⟩ := h.c
  have hl := h.w2
  have hl2 := h.h2
  have ⟨hr1, hr2⟩ := ql2_le W H hl hl2
  have ho := qo2_lt W H x y hx hy
  have d := h.ws.cell ho
  unfold qwV at d
  have hbit := qw_bit B (qs W) y x (qs_lt W x hx)
  have hlt := qw_lt B (qs W) (y * qs W + x / 32)
  generalize B y x = b at *
  generalize qw B (qs W) (y * qs W + x / 32) = V at *
  clear h
  generalize qs W * H = L at *
  generalize qs W = r at *
  obtain ⟨q, hq⟩ : ∃ q, y * r = q := ⟨_, rfl⟩
  rw [hq] at ho d
  have hm : (y : Int) * (r : Int) = (q : Int) := by rw [← hq, Int.natCast_mul]
  have HB := Lib.hid (get_bit V (x % 32) hlt)
  have HB2 := Lib.hid hbit
  clear hbit hq
  go_enter Tryz.func137, Tryz.ntmps137
  go_wp2_with fail
  go_ret
  exact ⟨by rw [← HB2.out, ← HB.out]; rfl, rfl⟩
set_option maxHeartbeats 1600000 in
theorem qxSet_calls {w : World} {p g W H : Nat} {B : Nat → Nat → Bool} (h : QX w p g W H B) (x y : Nat) (hx : x < W) (hy : y < H) :
    Calls Tryz.prog 144 #[.pointer (some ⟨p, 0, none⟩), i64 x, i64 y] w fun e w' => e = .returned (.tuple #[]) ∧ QX w' p g W H (setB B y x) ∧ Fr (One g) w w' := by
  obtain ⟨c0, c1, c2, c3⟩ := h.c
  have hl := h.w2
  have hl2 := h.h2
  have ⟨hr1, hr2⟩ := ql2_le W H hl hl2
  have ho := qo2_lt W H x y hx hy
  have d := h.ws.cell ho
  have zf := h.ws.frozen (y * qs W + x / 32)
  have pf := h.st.frozen 3
  have hne := h.ne
  unfold qwV at d
  have HOR := Lib.hid (qw_or B (qs W) (y * qs W + x / 32) (x % 32) (by omega))
  have HF := Lib.hid (show _ ∧ _ from ⟨h.set (x := x) (y := y) hx, Fr.set1 (g := g) (Fr.refl _ w) (y * qs W + x / 32) (.int .u32 (qw B (qs W) (y * qs W + x / 32) ||| 2 ^ (x % 32) : Nat))⟩)
  have hlt := qw_lt B (qs W) (y * qs W + x / 32)
  generalize qw B (qs W) (y * qs W + x / 32) = V at *
  clear h
  generalize qs W * H = L at *
  generalize qs W = r at *
  obtain ⟨q, hq⟩ : ∃ q, y * r = q := ⟨_, rfl⟩
  rw [hq] at ho d zf HF
  have hm : (y : Int) * (r : Int) = (q : Int) := by rw [← hq, Int.natCast_mul]
  clear hq
  go_enter Tryz.func144, Tryz.ntmps144
  go_wp2_with fail
  go_end0
  refine ⟨rfl, ?_⟩
  rw [HOR.out]
  exact HF.out
set_option maxHeartbeats 1600000 in
theorem newQX_calls (w : World) (W H : Nat) (w1 : 1 ≤ W) (w2 : W ≤ 2000) (h1 : 1 ≤ H) (h2 : H ≤ 2000) :
    Calls Tryz.prog 143 #[i64 W, i64 H] w fun e w' => e = .returned (.tuple #[.pointer (some ⟨w.heap.size + 1, 0, none⟩), .nilIface]) ∧ QX w' (w.heap.size + 1) w.heap.size W H noB ∧ Fr Nil w w' ∧ w'.heap.size = w.heap.size + 2 := by
  obtain ⟨hr1, hr2⟩ := ql2_le W H w2 h2
  have hmk := Tryz.mk184 (qs W * H) (by omega) w
  have hrow := World.rowIs_made w (.int .u32 0) (qs W * H) 252
  have hfa : Fr Nil w (w.alloc (.cells (madeCells #[.int .u32 0] (qs W * H)) 252)) := (Fr.refl _ _).alloc _
  have hsz : (w.alloc (.cells (madeCells #[.int .u32 0] (qs W * H)) 252)).heap.size = w.heap.size + 1 := by simp
  have hal : Fr Nil (w.alloc (.cells (madeCells #[.int .u32 0] (qs W * H)) 252)) ((w.alloc (.cells (madeCells #[.int .u32 0] (qs W * H)) 252)).alloc (.cells #[i64 W, i64 H, i64 (qs W), .slice (some ⟨w.heap.size, 0, none⟩) (qs W * H) (qs W * H)] 304)) := (Fr.refl _ _).alloc _
  have hst := Blk.new (w.alloc (.cells (madeCells #[.int .u32 0] (qs W * H)) 252)) 304 #[i64 W, i64 H, i64 (qs W), .slice (some ⟨w.heap.size, 0, none⟩) (qs W * H) (qs W * H)]
  rw [hsz] at hst
  have HF := Lib.hid (show QX _ (w.heap.size + 1) w.heap.size W H noB ∧ Fr Nil w _ from ⟨⟨hst, (rowFr hrow hal (fun e => e)).congr (fun k _ => by show _ = Value.int .u32 _; rw [qw_zero]; rfl), w1, w2, h1, h2⟩, hfa.trans hal⟩)
  have hdiv : ((W : Int) + 31) / 32 = ((qs W : Nat) : Int) := by unfold qs; omega
  have hm : ((qs W : Nat) : Int) * (H : Int) = ((qs W * H : Nat) : Int) := by rw [Int.natCast_mul]
  clear hrow hfa hal hst
  generalize qs W * H = L at *
  generalize qs W = r at *
  go_enter Tryz.func143, Tryz.ntmps143
  go_wp2_with fail
  go_ret2
  exact ⟨rfl, HF.out.1, HF.out.2, by simp⟩
end Go.Proofs.YtcekbhhpcmhicaaGreatDoor
/- The reader's data blocks in memory; NewDataBlock 239, getters 211, 212. -/
namespace Go.Proofs.YtcekbhhpcmhicaaGreatDoor
open Go Go.RowKit Go.Deep
set_option maxRecDepth 100000
theorem Tryz.und337 : Tryz.prog.underlying 337 = some (.slice 340) := by kernel_rfl
theorem Tryz.inf340 : (Tryz.prog.info? 340).map (fun i => (i.zero, i.size, i.bytes)) = some (some (.pointer none), 1, 8) := by kernel_rfl
structure DB (w : World) (lo rb nb k : Nat) (L dc : Nat → Nat) (P B : Nat → Nat) (f : Nat → Nat → Nat) : Prop where
  row : w.rowIs rb 340 nb (fun j => if j < k then .pointer (some ⟨P j, 0, none⟩) else .pointer none)
  blk : ∀ j, j < k → Blk w (P j) 364 #[i64 (dc j), .slice (some ⟨B j, 0, none⟩) (L j) (L j)]
  dat : ∀ j, j < k → w.rowIs (B j) 5 (L j) (fun i => u8 (f j i))
  inj : ∀ j j', j < j' → j' < k → B j < B j'
  loP : ∀ j, j < k → lo ≤ P j
  loB : ∀ j, j < k → lo ≤ B j
  hrb : lo ≤ rb
theorem DB.fr {w w' : World} {lo rb nb k : Nat} {L dc P B : Nat → Nat} {f : Nat → Nat → Nat} {F : Nat → Prop} (h : DB w lo rb nb k L dc P B f) (hf : Fr F w w') (hF : ∀ i, lo ≤ i → i < w.heap.size → ¬ F i) : DB w' lo rb nb k L dc P B f :=
  ⟨rowFr h.row hf (hF _ h.hrb h.row.lt), fun j hj => (h.blk j hj).fr hf (hF _ (h.loP j hj) (h.blk j hj).lt), fun j hj => rowFr (h.dat j hj) hf (hF _ (h.loB j hj) (h.dat j hj).lt), h.inj, h.loP, h.loB, h.hrb⟩
theorem DB.new (w : World) (lo nb : Nat) (L dc P B : Nat → Nat) (f : Nat → Nat → Nat) (hlo : lo ≤ w.heap.size) : DB (w.alloc (.cells (madeCells #[.pointer none] nb) 340)) lo w.heap.size nb 0 L dc P B f :=
  ⟨(World.rowIs_made w (.pointer none) nb 340).congr (fun j _ => by rw [if_neg (by omega)]), fun j hj => absurd hj (by omega), fun j hj => absurd hj (by omega), fun j j' _ hj => absurd hj (by omega), fun j hj => absurd hj (by omega), fun j hj => absurd hj (by omega), hlo⟩
theorem DB.store {w : World} {lo rb nb k : Nat} {L dc P B : Nat → Nat} {f : Nat → Nat → Nat} (h : DB w lo rb nb k L dc P B f) (j i x : Nat) (hj : j < k) :
    DB (w.setCell ⟨B j, i, none⟩ (u8 x)) lo rb nb k L dc P B (fun a b => if a = j ∧ b = i then x else f a b) := by
  have hjb := h.dat j hj
  refine ⟨h.row.setOther (a := ⟨B j, i, none⟩) (row_ne h.row hjb (by decide)) _, fun a ha => ?_, fun a ha => ?_, h.inj, h.loP, h.loB, h.hrb⟩
  · exact (blk_setCell_other _ _ _ _ ((h.blk a ha).row_ne hjb (by decide))).trans (h.blk a ha)
  · by_cases e : a = j
    · subst e
      exact (hjb.set i (u8 x)).congr (fun b hb => by
        by_cases e : b = i
        · rw [if_pos e, if_pos ⟨rfl, e⟩]
        · rw [if_neg e, if_neg (fun h => e h.2)])
    · have hne : B a ≠ B j := by
        rcases Nat.lt_or_gt_of_ne e with h1 | h1
        · have := h.inj a j h1 hj; omega
        · have := h.inj j a h1 ha; omega
      exact ((h.dat a ha).setOther (a := ⟨B j, i, none⟩) hne _).congr (fun b hb => by rw [if_neg (fun h => e h.1)])
theorem DB.push {w w2 : World} {lo rb nb k q : Nat} {L dc P B : Nat → Nat} {f : Nat → Nat → Nat} (h : DB w lo rb nb k L dc P B f) (hk : k < nb) (hf : Fr Nil (w.alloc (.cells (madeCells #[.int .u8 0] (L k)) 5)) w2)
    (hb : Blk w2 q 364 #[i64 (dc k), .slice (some ⟨w.heap.size, 0, none⟩) (L k) (L k)]) (hq : w.heap.size < q) :
    DB (w2.setCell ⟨rb, k, none⟩ (.pointer (some ⟨q, 0, none⟩))) lo rb nb (k + 1) L dc (fun j => if j = k then q else P j) (fun j => if j = k then w.heap.size else B j) (fun j i => if j = k then 0 else f j i) := by
  have hal : Fr Nil w (w.alloc (.cells (madeCells #[.int .u8 0] (L k)) 5)) := (Fr.refl _ _).alloc _
  have hf2 := hal.trans hf
  have h2 := h.fr hf2 (fun _ _ _ e => e)
  have hnew := rowFr (World.rowIs_made w (.int .u8 0) (L k) 5) hf (fun e => e)
  have hrl := h.row.lt
  have hlo := h.hrb
  refine ⟨(h2.row.set k (.pointer (some ⟨q, 0, none⟩))).congr (fun j hj => ?_), fun j hj => ?_, fun j hj => ?_, fun j j' h1 h3 => ?_, fun j hj => ?_, fun j hj => ?_, h.hrb⟩
  · by_cases e : j = k
    · simp only [if_pos e]; rw [if_pos (by omega)]
    · simp only [if_neg e]
      by_cases h3 : j < k
      · rw [if_pos h3, if_pos (by omega)]
      · rw [if_neg h3, if_neg (by omega)]
  · by_cases e : j = k
    · subst e
      simp only [if_pos rfl]
      exact (blk_setCell_other _ _ _ _ (hb.row_ne h2.row (by decide))).trans hb
    · simp only [if_neg e]
      have hj2 := h2.blk j (by omega)
      exact (blk_setCell_other _ _ _ _ (hj2.row_ne h2.row (by decide))).trans hj2
  · by_cases e : j = k
    · subst e
      simp only [if_pos rfl]
      exact (hnew.setOther (a := ⟨rb, j, none⟩) (row_ne hnew h2.row (by decide)) _)
    · simp only [if_neg e]
      have hj2 := h2.dat j (by omega)
      exact (hj2.setOther (a := ⟨rb, k, none⟩) (row_ne hj2 h2.row (by decide)) _)
  · have hne : j ≠ k := by omega
    simp only [if_neg hne]
    by_cases e : j' = k
    · simp only [if_pos e]
      have := (h.dat j (by omega)).lt
      omega
    · simp only [if_neg e]; exact h.inj j j' h1 (by omega)
  · by_cases e : j = k
    · simp only [if_pos e]; omega
    · simp only [if_neg e]; exact h.loP j (by omega)
  · by_cases e : j = k
    · simp only [if_pos e]; omega
    · simp only [if_neg e]; exact h.loB j (by omega)
theorem newDB_calls (w : World) (k g n : Nat) : Calls Tryz.prog 239 #[i64 k, .slice (some ⟨g, 0, none⟩) n n] w fun e w' => e = .returned (.pointer (some ⟨w.heap.size, 0, none⟩)) ∧ Blk w' w.heap.size 364 #[i64 k, .slice (some ⟨g, 0, none⟩) n n] ∧ Fr Nil w w' := by
  have HF := Lib.hid (show _ ∧ _ from ⟨Blk.new w 364 #[i64 k, .slice (some ⟨g, 0, none⟩) n n], (Fr.refl Nil w).alloc (.cells #[i64 k, .slice (some ⟨g, 0, none⟩) n n] 364)⟩)
  go_enter Tryz.func239, Tryz.ntmps239
  go_wp2
  go_ret
  exact ⟨rfl, HF.out.1, HF.out.2⟩
theorem dbNum_calls {w : World} {q k : Nat} {v : Value} (h : Blk w q 364 #[i64 k, v]) : Calls Tryz.prog 211 #[.pointer (some ⟨q, 0, none⟩)] w fun e w' => e = .returned (i64 k) ∧ w = w' := by
  have c0 := h.cell 0
  go_enter Tryz.func211, Tryz.ntmps211
  go_wp2
  go_ret
  exact ⟨rfl, rfl⟩
theorem dbCW_calls {w : World} {q k : Nat} {v : Value} (h : Blk w q 364 #[i64 k, v]) : Calls Tryz.prog 212 #[.pointer (some ⟨q, 0, none⟩)] w fun e w' => e = .returned v ∧ w = w' := by
  have c0 := h.cell 1
  go_enter Tryz.func212, Tryz.ntmps212
  go_wp2
  go_ret
  exact ⟨rfl, rfl⟩
theorem mkDBs (n : Nat) (h : n ≤ 1000000) (w : World) : (Instr.makeSlice 337 (.int .i64 (n : Int)) (.int .i64 (n : Int))).run Tryz.prog w = .ok (.slice (some ⟨w.heap.size, 0, none⟩) n n) (w.alloc (.cells (madeCells #[.pointer none] n) 340)) :=
  run_make_row' (P := Tryz.prog) 337 340 (.pointer none) 8 Tryz.und337 Tryz.inf340 rfl .i64 .i64 n (by omega) (by omega) w
end Go.Proofs.YtcekbhhpcmhicaaGreatDoor
/- The version out of its bits, where they are a code word; ReadVersion. -/
namespace Go.Proofs.YtcekbhhpcmhicaaGreatDoor
open Go Go.RowKit Go.Deep
set_option maxRecDepth 100000
theorem vin_calls (w : World) : Calls Tryz.prog 263 #[] w fun e w' => e = .returned (sl w.heap.size 34) ∧ w.alloc (.cells (vinT.map i64).toArray 3) = w' :=
  calls_by_run (args := []) Tryz.func263 rfl 2 (by kernel_rfl) 20 (sl w.heap.size 34) (w.alloc (.cells (vinT.map i64).toArray 3)) (by kernel_rfl) ⟨rfl, rfl⟩
theorem vin_differ : ∀ i, i < 34 → ∀ j, j < 34 → i ≠ j → vinT.getD i 0 ≠ vinT.getD j 0 := by decide +kernel
theorem vin_small : ∀ i, i < 34 → vinT.getD i 0 < 1000000 := by decide +kernel
set_option maxHeartbeats 3200000 in
theorem decVer_calls (t : Nat) (ht : t < 34) (w : World) :
    Calls Tryz.prog 219 #[i64 (vinT.getD t 0)] w fun e w' => ∃ p lo, e = .returned (.tuple #[.pointer (some ⟨p, 0, none⟩), .nilIface]) ∧ w.heap.size ≤ lo ∧ VerAt w' lo w'.heap.size p (t + 7) ∧ Fr Nil w w' := by
  have HT := Lib.hid (vin_calls w)
  have hTF : Fr Nil w (w.alloc (.cells (vinT.map i64).toArray 3)) := (Fr.refl _ _).alloc _
  have hb := Blk.new w 3 (vinT.map i64).toArray
  have HROW := Lib.hid (fun i (hi : i < 34) => (show (w.alloc (.cells (vinT.map i64).toArray 3)).cell? ⟨w.heap.size, i, none⟩ = some (i64 (vinT.getD i 0)) from by
    have hl : i < vinT.length := by simpa [vinT] using hi
    rw [hb.cell i, List.getElem?_toArray, List.getElem?_map, List.getElem?_eq_getElem hl, gdE _ _ hl]; rfl))
  have HTF := Lib.hid hTF
  have HDF := Lib.hid (fun i (hi : i < 34) (h : i ≠ t) => vin_differ i hi t ht h)
  have HSM := Lib.hid vin_small
  generalize w.alloc (.cells (vinT.map i64).toArray 3) = W at *
  obtain ⟨G, hG⟩ : ∃ G, w.heap.size = G := ⟨_, rfl⟩
  rw [hG] at HT HROW
  have HGE : Hid (w.heap.size ≤ W.heap.size) := Lib.hid HTF.out.size
  obtain ⟨f, hf⟩ : ∃ f, vinT.getD t 0 = f := ⟨_, rfl⟩
  have HFE := Lib.hid hf
  rw [hf] at HDF ⊢
  have hfs : f < 1000000 := by rw [← hf]; exact vin_small t ht
  clear hf hG hTF hb
  go_enter Tryz.func219, Tryz.ntmps219
  go_wp2_with fail
  refine HT.out.mono ?_
  rintro e w1 ⟨rfl, rfl⟩
  go_wp2_with fail
  go_loopg [4, 5, 6, 7, 8, 11] 34 (fun q s4 s5 s6 s7 s8 s11 wr => ∃ (i : Nat) (bd bv : Int), i + q = 34 ∧ i ≤ t ∧ s11 = .int .i64 i ∧ s4 = .int .i64 bd ∧ s5 = .int .i64 bv ∧ W = wr)
  case atStart => exact ⟨0, 2147483647, 0, by omega, by omega, rfl, rfl, rfl, rfl⟩
  case round =>
    obtain ⟨i, bd, bv, hi, hit, rfl, rfl, rfl, rfl⟩ := hrel
    cases gk with
    | zero => omega
    | succ q =>
      have hi34 : i < 34 := by omega
      have hz : (i : Int) < 34 := by omega
      have c0 := HROW.out i hi34
      by_cases e : i = t
      · subst e
        rw [HFE.out] at c0
        have HN := Lib.hid (getVersion_calls (i + 7) (by omega) (by omega) W)
        go_wp2_with fail
        rw [show ((i : Int) + 7) = ((i + 7 : Nat) : Int) from by omega]
        refine HN.out.mono ?_
        rintro e w2 ⟨p, rfl, hv, hf⟩
        have HB := Lib.hid (show _ ∧ _ from ⟨hv, HTF.out.trans hf⟩)
        clear hv hf
        go_wp2_with fail
        go_ret2
        exact ⟨p, W.heap.size, rfl, HGE.out, HB.out⟩
      · have hne : (((vinT.getD i 0 : Nat) : Int) == (f : Int)) = false := beq_eq_false_iff_ne.2 (by have := HDF.out i hi34 e; omega)
        have hlt : i + 1 ≤ t := by omega
        have hxs := HSM.out i hi34
        have HI := Lib.hid hi
        clear hi hit e
        generalize vinT.getD i 0 = x at *
        go_wp2_with fail
        refine (differing_any _ _ _).mono ?_
        rintro e w2 ⟨⟨k, rfl⟩, rfl⟩
        by_cases hk : k < bd
        · go_wp2_with fail
          go_roundg q
          case measure => omega
          case rel => exact ⟨i + 1, k, (i : Int) + 7, by have := HI.out; omega, hlt, by go_num, rfl, rfl, rfl⟩
        · go_wp2_with fail
          go_roundg q
          case measure => omega
          case rel => exact ⟨i + 1, bd, bv, by have := HI.out; omega, hlt, by go_num, rfl, rfl, rfl⟩
/-- what a parser knows of its version -/
def VS (w : World) (b : Nat) (ver : Value) (v : Nat) : Prop := ver = .pointer none ∨ ∃ pv lo hi, ver = .pointer (some ⟨pv, 0, none⟩) ∧ VerAt w lo hi pv v ∧ b ≤ lo ∧ hi ≤ w.heap.size
theorem readVer_known {w : World} {q p pv : Nat} {fmt : Value} (hq : PM w q p (.pointer (some ⟨pv, 0, none⟩)) fmt) :
    Calls Tryz.prog 178 #[.pointer (some ⟨q, 0, none⟩)] w fun e w' => e = .returned (.tuple #[.pointer (some ⟨pv, 0, none⟩), .nilIface]) ∧ w = w' := by
  obtain ⟨c0, c1, c2, c3⟩ := hq.c
  clear hq c0 c2 c3
  go_enter Tryz.func178, Tryz.ntmps178
  go_wp2_with fail
  go_ret2
  exact ⟨rfl, rfl⟩
set_option maxHeartbeats 1600000 in
theorem readVer_small {w : World} {q p g v : Nat} {fmt : Value} {B : Nat → Nat → Bool} (hq : PM w q p (.pointer none) fmt) (h : QM w p g (17 + 4 * v) B) (h1 : 1 ≤ v) (h6 : v ≤ 6) :
    Calls Tryz.prog 178 #[.pointer (some ⟨q, 0, none⟩)] w fun e w' => ∃ pv, e = .returned (.tuple #[.pointer (some ⟨pv, 0, none⟩), .nilIface]) ∧ VerAt w' w.heap.size w'.heap.size pv v ∧ Fr Nil w w' := by
  obtain ⟨c0, c1, c2, c3⟩ := hq.c
  have HH := Lib.hid (qmHeight_calls h)
  have HG := Lib.hid (getVersion_calls v h1 (by omega) w)
  have hd : (((17 + 4 * v : Nat) : Int) - 17) / 4 = (v : Int) := by omega
  have hz : (v : Int) ≤ 6 := by omega
  have hn : 17 + 4 * v ≤ 200 := by omega
  clear hq h c2 c3
  generalize 17 + 4 * v = n at *
  go_enter Tryz.func178, Tryz.ntmps178
  go_wp2_with fail
  refine HH.out.mono ?_
  rintro e w1 ⟨rfl, rfl⟩
  go_wp2_with fail
  refine HG.out.mono ?_
  rintro e w1 ⟨pv, rfl, hv, hf⟩
  have HV := Lib.hid (show _ ∧ _ from ⟨hv, hf⟩)
  clear hv hf
  go_wp2_with fail
  go_ret2
  exact ⟨pv, rfl, HV.out⟩
set_option maxHeartbeats 3200000 in
theorem readVer_big {w : World} {q p g v : Nat} {fmt : Value} {B : Nat → Nat → Bool} (hq : PM w q p (.pointer none) fmt) (h : QM w p g (17 + 4 * v) B) (h7 : 7 ≤ v) (h40 : v ≤ 40)
    {vb : List Bool} (hlen : vb.length = 18) (hB : ∀ s, s < 18 → B (s / 3) (17 + 4 * v - 11 + s % 3) = vb.getD (17 - s) false) (hnum : bnum 0 vb = vinT.getD (v - 7) 0) :
    Calls Tryz.prog 178 #[.pointer (some ⟨q, 0, none⟩)] w fun e w' => ∃ pv lo hi, e = .returned (.tuple #[.pointer (some ⟨pv, 0, none⟩), .nilIface]) ∧ VerAt w' lo hi pv v ∧ w.heap.size ≤ lo ∧ hi ≤ w'.heap.size ∧ PM w' q p (.pointer (some ⟨pv, 0, none⟩)) fmt ∧ Fr (One q) w w' := by
  obtain ⟨c0, c1, c2, c3⟩ := hq.c
  have z1 := Blk.frozen hq 1
  have HH := Lib.hid (qmHeight_calls h)
  have HCB := Lib.hid (fun x y vb X Y V z hX hY hV hx hy hvb hz => copyBit' hq h x y vb X Y V z hX hY hV hx hy hvb hz)
  have HTK := Lib.hid (fun k (hk : k < 18) => tk_succ vb k (by rw [hlen]; exact hk))
  have HLT := Lib.hid (fun k (hk : k ≤ 18) => tk_lt vb k hk)
  have HT18 : Hid (tk vb 18 = vinT.getD (v - 7) 0) := Lib.hid (by unfold tk; rw [List.take_of_length_le (by rw [hlen]; exact Nat.le_refl _)]; exact hnum)
  have HB := Lib.hid hB
  have HQ := Lib.hid hq
  have HDV := Lib.hid (decVer_calls (v - 7) (by omega) w)
  rw [show v - 7 + 7 = v from by omega] at HDV
  obtain ⟨n, hn⟩ : ∃ n, 17 + 4 * v = n := ⟨_, rfl⟩
  have HNV := Lib.hid hn
  have hn1 : 45 ≤ n := by omega
  have hn2 : n ≤ 200 := by omega
  have hd : ¬ ((n : Int) - 17) / 4 ≤ 6 := by omega
  rw [hn] at HH HB HCB
  clear hq h hlen hB hnum c2 c3 hn
  go_enter Tryz.func178, Tryz.ntmps178
  go_wp2_with fail
  refine HH.out.mono ?_
  rintro e w1 ⟨rfl, rfl⟩
  go_wp2_with fail
  go_loopg [6, 8, 9] 6 (fun c s6 s8 s9 wr => ∃ r a : Nat, ∃ j : Int, r + c = 6 ∧ Hid (j = 5 - (r : Int)) ∧ s8 = .int .i64 j ∧ s6 = .int .i64 a ∧ Hid (a = tk vb (3 * r)) ∧ w = wr)
  case atStart => exact ⟨0, 0, 5, by omega, Lib.hid (by omega), rfl, rfl, Lib.hid rfl, rfl⟩
  case round =>
    obtain ⟨r, a, j, hr, hj, rfl, rfl, HA, rfl⟩ := hrel
    cases gk with
    | succ c =>
      have hz : 0 ≤ j := by have := hj.out; omega
      have hz2 : ¬ j < 0 := by have := hj.out; omega
      have hju : j ≤ 5 := by have := hj.out; omega
      go_wp2_with fail
      go_loopg [6, 9] 3 (fun d s6 s9 wq => ∃ k a : Nat, ∃ i : Int, k + d = 3 ∧ Hid (i = (n : Int) - 9 - (k : Int)) ∧ s9 = .int .i64 i ∧ s6 = .int .i64 a ∧ Hid (a = tk vb (3 * r + k)) ∧ w = wq)
      case atStart => exact ⟨0, a, (n : Int) - 9, by omega, Lib.hid (by omega), rfl, rfl, HA, rfl⟩
      case round =>
        obtain ⟨k, a2, i, hk, hi, rfl, rfl, HA2, rfl⟩ := hrel
        cases gk with
        | succ d =>
          have hy : ¬ i < (n : Int) - 11 := by have := hi.out; omega
          have hy2 : (n : Int) - 11 ≤ i := by have := hi.out; omega
          have hiu : i ≤ 300 := by have := hi.out; omega
          have hal : a2 < 1000000 := by rw [HA2.out]; exact HLT.out _ (by omega)
          go_wp2_with fail
          refine (HCB.out (n - 9 - k) (5 - r) a2 _ _ _ (tk vb (3 * r + k + 1)) (by have := hi.out; omega) (by have := hj.out; omega) rfl (by omega) (by omega) hal (by
            have hb := HB.out (17 - (3 * r + k)) (by omega)
            rw [show (17 - (3 * r + k)) / 3 = 5 - r from by omega, show n - 11 + (17 - (3 * r + k)) % 3 = n - 9 - k from by omega, show 17 - (17 - (3 * r + k)) = 3 * r + k from by omega] at hb
            rw [HTK.out _ (by omega), ← HA2.out, hb])).mono ?_
          rintro e w1 ⟨rfl, rfl⟩
          go_wp2_with fail
          go_roundg d
          case measure => omega
          case rel => exact ⟨k + 1, _, i - 1, by omega, Lib.hid (by have := hi.out; omega), by go_num, rfl, Lib.hid rfl, rfl⟩
        | zero =>
          have hy : i < (n : Int) - 11 := by have := hi.out; omega
          have hy2 : ¬ (n : Int) - 11 ≤ i := by have := hi.out; omega
          have HA3 : Hid (a2 = tk vb (3 * (r + 1))) := Lib.hid (by rw [HA2.out]; congr 1; omega)
          go_wp2_with fail
          go_roundg c
          case measure => omega
          case rel => exact ⟨r + 1, a2, j - 1, by omega, Lib.hid (by have := hj.out; omega), by go_num, rfl, HA3, rfl⟩
    | zero =>
      have hz : ¬ 0 ≤ j := by have := hj.out; omega
      have hz2 : j < 0 := by have := hj.out; omega
      have HA6 : Hid (a = vinT.getD (v - 7) 0) := Lib.hid (by rw [HA.out, ← HT18.out]; congr 1; omega)
      have hDV := HDV.out
      rw [← HA6.out] at hDV
      have HDV2 := Lib.hid hDV
      clear hDV HDV HA
      go_wp2_with fail
      refine HDV2.out.mono ?_
      rintro e w1 ⟨pv, lo, rfl, hlo, hv, hf⟩
      have hq1 : PM w1 q p (.pointer none) fmt := Blk.fr HQ.out hf (fun e => e)
      have hql := Blk.lt HQ.out
      have hset : Fr (One q) w1 (w1.setCell ⟨q, 1, none⟩ (.pointer (some ⟨pv, 0, none⟩))) := Fr.set1 (Fr.refl _ _) 1 _
      have HDM := Lib.hid (verDim_calls hv)
      rw [show (17 + 4 * v) = n from HNV.out] at HDM
      have HN := Lib.hid (show VerAt (w1.setCell ⟨q, 1, none⟩ (.pointer (some ⟨pv, 0, none⟩))) lo w1.heap.size pv v ∧ w.heap.size ≤ lo ∧ w1.heap.size ≤ (w1.setCell ⟨q, 1, none⟩ (.pointer (some ⟨pv, 0, none⟩))).heap.size ∧ PM (w1.setCell ⟨q, 1, none⟩ (.pointer (some ⟨pv, 0, none⟩))) q p (.pointer (some ⟨pv, 0, none⟩)) fmt ∧ Fr (One q) w (w1.setCell ⟨q, 1, none⟩ (.pointer (some ⟨pv, 0, none⟩))) from
        ⟨hv.fr hset (fun i h1 h2 e => by have : i = q := e; omega), hlo, hset.size, by unfold PM; simpa using Blk.set_ hq1 1 (.pointer (some ⟨pv, 0, none⟩)), Fr.set1 (hf.any _) 1 _⟩)
      have k1 := hq1.c.2.1
      have z3 := Blk.frozen hq1 1
      have hnn : ((n : Int) == (n : Int)) = true := by simp
      clear hq1 hv hf c1 z1 hlo hset hql
      go_wp2_with fail
      refine HDM.out.mono ?_
      rintro e w2 ⟨rfl, rfl⟩
      go_wp2_with fail
      go_ret2
      exact ⟨pv, lo, w1.heap.size, rfl, HN.out⟩
end Go.Proofs.YtcekbhhpcmhicaaGreatDoor
/- BitMatrix.SetRegion. -/
namespace Go.Proofs.YtcekbhhpcmhicaaGreatDoor
open Go Go.RowKit Go.Deep
set_option maxRecDepth 100000
/-- i rows done, and of the next row j columns -/
def pr (l t ww i j : Nat) (B : Nat → Nat → Bool) : Nat → Nat → Bool := fun y x => B y x || decide ((t ≤ y ∧ y < t + i ∧ l ≤ x ∧ x < l + ww) ∨ (y = t + i ∧ l ≤ x ∧ x < l + j))
theorem pr_zero (l t ww : Nat) (B : Nat → Nat → Bool) : pr l t ww 0 0 B = B := by
  funext y x; unfold pr; rw [decide_eq_false (by omega), Bool.or_false]
theorem pr_row (l t ww i : Nat) (B : Nat → Nat → Bool) : pr l t ww i ww B = pr l t ww (i + 1) 0 B := by
  funext y x; unfold pr; congr 1; rw [decide_eq_decide]; omega
theorem pr_end (l t ww hh : Nat) (B : Nat → Nat → Bool) : pr l t ww hh 0 B = reg l t ww hh B := by
  funext y x; unfold pr reg; congr 1; rw [decide_eq_decide]; omega
theorem pr_step (l t ww i j : Nat) (B : Nat → Nat → Bool) (h : j < ww) : setB (pr l t ww i j B) (t + i) (l + j) = pr l t ww i (j + 1) B := by
  funext y x; unfold setB pr
  rw [Bool.or_assoc]
  congr 1
  rw [← Bool.decide_or, decide_eq_decide]
  omega
set_option maxHeartbeats 3200000 in
theorem setRegion_calls {w : World} {p g n : Nat} {B : Nat → Nat → Bool} (h : QM w p g n B) (l t ww hh : Nat) (h1 : 1 ≤ ww) (h2 : 1 ≤ hh) (hl : l + ww ≤ n) (ht : t + hh ≤ n) :
    Calls Tryz.prog 270 #[.pointer (some ⟨p, 0, none⟩), i64 l, i64 t, i64 ww, i64 hh] w fun e w' => e = .returned .nilIface ∧ QM w' p g n (reg l t ww hh B) ∧ Fr (One g) w w' := by
  have hn2 := h.l2
  obtain ⟨c0, c1, c2, c3⟩ := h.c
  have HQ0 := Lib.hid (h.congr (pr_zero l t ww B).symm)
  obtain ⟨hr1, hr2⟩ := ql_le n hn2
  have a1 : ¬ (t : Int) < 0 := by omega
  have a2 : ¬ (l : Int) < 0 := by omega
  have a3 : ¬ (hh : Int) < 1 := by omega
  have a4 : ¬ (ww : Int) < 1 := by omega
  have a5 : ¬ (n : Int) < (t : Int) + (hh : Int) := by omega
  have a6 : ¬ (n : Int) < (l : Int) + (ww : Int) := by omega
  clear h c2 c3
  go_enter Tryz.func270, Tryz.ntmps270
  go_wp2_with fail
  clear c0 c1
  go_loopg [13, 14, 15] hh (fun c s13 s14 s15 wr => ∃ i : Nat, i + c = hh ∧ s13 = .int .i64 ((t : Int) + (i : Int)) ∧ Hid (QM wr p g n (pr l t ww i 0 B)) ∧ Hid (Fr (One g) w wr))
  case atStart => exact ⟨0, by omega, by go_num, HQ0, Lib.hid (Fr.refl _ _)⟩
  case round =>
    obtain ⟨i, hi, rfl, HQ, HF⟩ := hrel
    cases gk with
    | zero =>
      have hz : ¬ (t : Int) + (i : Int) < (t : Int) + (hh : Int) := by omega
      have hih : i = hh := by omega
      subst hih
      have HE := Lib.hid (HQ.out.congr (pr_end l t ww i B))
      go_wp2_with fail
      go_ret
      exact ⟨rfl, HE.out, HF.out⟩
    | succ c =>
      have hz : (t : Int) + (i : Int) < (t : Int) + (hh : Int) := by omega
      have hyn : t + i < n := by omega
      have c2 := HQ.out.c.2.2.1
      obtain ⟨q, hq⟩ : ∃ q, (t + i) * qs n = q := ⟨_, rfl⟩
      have hm : ((t : Int) + (i : Int)) * ((qs n : Nat) : Int) = (q : Int) := by rw [← hq, Int.natCast_mul, Int.natCast_add]
      have hq1 : q ≤ 1400 := by
        have := qo_lt n 0 (t + i) (by omega) hyn
        omega
      have HO := Lib.hid (fun x (hx : x < n) => (show q + x / 32 < qs n * n from by rw [← hq]; exact qo_lt n x (t + i) hx hyn))
      have HI := Lib.hid hi
      have HQE := Lib.hid hq
      clear hi hq
      go_wp2_with fail
      clear c2 hm
      go_loopg [15] ww (fun d s15 wq => ∃ j : Nat, j + d = ww ∧ s15 = .int .i64 ((l : Int) + (j : Int)) ∧ Hid (QM wq p g n (pr l t ww i j B)) ∧ Hid (Fr (One g) w wq))
      case atStart => exact ⟨0, by omega, by go_num, HQ, HF⟩
      case round =>
        obtain ⟨j, hj, rfl, HQ2, HF2⟩ := hrel
        cases gk with
        | zero =>
          have hzz : ¬ (l : Int) + (j : Int) < (l : Int) + (ww : Int) := by omega
          have hjw : j = ww := by omega
          subst hjw
          have HE := Lib.hid (HQ2.out.congr (pr_row l t j i B))
          go_wp2_with fail
          go_roundg c
          case measure => omega
          case rel => exact ⟨i + 1, by have := HI.out; omega, by go_num, HE, HF2⟩
        | succ d =>
          have hzz : (l : Int) + (j : Int) < (l : Int) + (ww : Int) := by omega
          have hxn : l + j < n := by omega
          obtain ⟨x, hx⟩ : ∃ x, l + j = x := ⟨_, rfl⟩
          have hxz : (l : Int) + (j : Int) = (x : Int) := by omega
          have hQ := HQ2.out
          have c3 := hQ.c.2.2.2
          have pf := hQ.st.frozen 3
          have hne := hQ.ne
          have ho := HO.out x (by omega)
          have d0 := hQ.ws.cell ho
          have zf := hQ.ws.frozen (q + x / 32)
          unfold qwV at d0
          have HNEW := Lib.hid (show _ ∧ _ from ⟨hQ.set (x := x) (y := t + i) (by omega), Fr.set1 (g := g) HF2.out (q + x / 32) (.int .u32 (qw (pr l t ww i j B) (qs n) (q + x / 32) ||| 2 ^ (x % 32) : Nat))⟩)
          rw [HQE.out] at HNEW
          have HOR := Lib.hid (qw_or (pr l t ww i j B) (qs n) (q + x / 32) (x % 32) (by omega))
          have HST := Lib.hid (pr_step l t ww i j B (by omega))
          have hVl := qw_lt (pr l t ww i j B) (qs n) (q + x / 32)
          generalize qw (pr l t ww i j B) (qs n) (q + x / 32) = V at *
          have HJ := Lib.hid hj
          have HX := Lib.hid hx
          clear hj hQ hx
          generalize qs n * n = L at *
          go_wp2_with fail
          rw [HOR.out]
          have HQ3 : Hid (QM _ p g n (pr l t ww i (j + 1) B)) := Lib.hid (HNEW.out.1.congr (by rw [← HX.out]; exact HST.out))
          go_roundg d
          case measure => omega
          case rel => exact ⟨j + 1, by have := HJ.out; omega, by go_num, HQ3, Lib.hid HNEW.out.2⟩
end Go.Proofs.YtcekbhhpcmhicaaGreatDoor
