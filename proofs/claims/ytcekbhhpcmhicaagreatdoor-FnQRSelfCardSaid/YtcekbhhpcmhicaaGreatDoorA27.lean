/- FnQRSelf walked: for every input it returns true. -/
import Derived.Test.YtcekbhhpcmhicaaGreatDoorA24
import Derived.Test.YtcekbhhpcmhicaaGreatDoorA19
import Derived.Test.YtcekbhhpcmhicaaGreatDoorA26
set_option linter.unusedSimpArgs false
set_option linter.unusedVariables false
namespace Go.Proofs.YtcekbhhpcmhicaaGreatDoor
open Go Go.RowKit Go.Deep
set_option maxRecDepth 100000
set_option maxHeartbeats 3200000 in
theorem qrSelf_calls (text : ByteArray) (hx : text.size ≤ maxLen) (kind level : Nat) (hk : kind < 256) (hl : level < 256) (w : World) :
    Calls Tryz.prog 3 #[.string text, .int .u8 kind, .int .u8 level] w fun e w' => e = .returned (.bool true) ∧ Fr Nil w w' := by
  unfold maxLen at hx
  by_cases hlong : 2147483647 < text.size
  · have hz : (2147483647 : Int) < (text.size : Int) := by omega
    go_enter Tryz.func3, Tryz.ntmps3
    go_wp2_with fail
    go_ret
    exact ⟨rfl, Fr.refl _ _⟩
  · have hz : ¬ (2147483647 : Int) < (text.size : Int) := by omega
    have HLV := Lib.hid (fun (w : World) => lawLevel_calls level hl w)
    have hL4 : level % 4 < 4 := by omega
    obtain ⟨L, hL⟩ : ∃ L, level % 4 = L := ⟨_, rfl⟩
    rw [hL] at HLV hL4
    clear hL
    have HA := Lib.hid (qrAscii_calls text (by unfold maxLen; omega) kind hk w)
    go_enter Tryz.func3, Tryz.ntmps3
    go_wp2_with fail
    refine HA.out.mono ?_
    rintro e w1 ⟨s, rfl, h1, h600, hf⟩
    have HF := Lib.hid hf
    have HS := Lib.hid (show _ ∧ _ from ⟨h1, h600⟩)
    clear hf h1 HA hlong hz hx
    go_wp2_with fail
    refine (HLV.out w1).mono ?_
    rintro e w2 ⟨rfl, rfl⟩
    go_wp2_with fail
    refine (qrEncode_calls s h600 L hL4 w1).mono ?_
    rintro e w3 ⟨g, cap, v, k, R, raw, es, rfl, hk8, hc, hcap, hM, hf⟩
    have HE := Lib.hid (show _ ∧ _ ∧ _ ∧ _ from ⟨hk8, hc, hcap, hM⟩)
    have HF3 := Lib.hid (HF.out.trans hf)
    obtain ⟨n, hn⟩ : ∃ n, 17 + 4 * v = n := ⟨_, rfl⟩
    have hlen : (nums s).length = s.size := by simp [nums]
    obtain ⟨w4, hw4⟩ : ∃ w4, w3.alloc (.cells #[i64 v, i64 k, i64 L, i64 (modeOf (nums s)), .slice (some ⟨g, 0, none⟩) n cap] 25) = w4 := ⟨_, rfl⟩
    obtain ⟨gb, hgb⟩ : ∃ gb, w3.heap.size = gb := ⟨_, rfl⟩
    have hf4 : Fr Nil w3 w4 := by rw [← hw4]; exact (Fr.refl _ _).alloc _
    have b4 : w4.cell? ⟨gb, 4, none⟩ = some (.slice (some ⟨g, 0, none⟩) n cap) := by rw [← hw4, ← hgb]; exact (Blk.new w3 25 _).cell 4
    have HQD := Lib.hid (qrDecode_calls (hM.nil hf4) hcap hk8 hL4 hc (by rw [hlen]; exact HS.out.1) (by rw [hlen]; exact HS.out.2) (fun c hc => by
      unfold nums at hc
      obtain ⟨x, _, rfl⟩ := List.mem_map.1 hc
      exact x.toNat_lt))
    rw [hn] at HQD
    have HN := Lib.hid hn
    have HW4 := Lib.hid (show _ ∧ _ from ⟨hw4, hgb⟩)
    have HF4 := Lib.hid (HF3.out.trans hf4)
    clear hk8 hc hcap hM hf hf4 hlen hn hw4 hgb HE HF3 HF
    rw [strOf_nums] at HQD
    go_wp2_with fail
    rw [HN.out, HW4.out.1, HW4.out.2]
    clear b4
    refine HQD.out.mono ?_
    rintro e w5 ⟨a1, a2, a3, b1, b2, b3, rfl, hf5⟩
    have HF5 := Lib.hid (HF4.out.trans hf5)
    clear hf5 HQD HW4 HF4
    obtain ⟨w6, hw6⟩ : ∃ w6, w5.alloc (.cells #[.string s, .slice a1 a2 a3, .slice b1 b2 b3, .string (lvStr L), .int .i64 0, .int .i64 (-1), .int .i64 (-1), .int .i64 1] 33) = w6 := ⟨_, rfl⟩
    obtain ⟨db, hdb⟩ : ∃ db, w5.heap.size = db := ⟨_, rfl⟩
    have hb6 : Blk w6 db 33 #[.string s, .slice a1 a2 a3, .slice b1 b2 b3, .string (lvStr L), .int .i64 0, .int .i64 (-1), .int .i64 (-1), .int .i64 1] := by rw [← hw6, ← hdb]; exact Blk.new _ _ _
    have HF6 := Lib.hid (show Fr Nil w w6 from by rw [← hw6]; exact HF5.out.alloc _)
    have HW6 := Lib.hid (show _ ∧ _ from ⟨hw6, hdb⟩)
    have HB6 := Lib.hid hb6
    clear hw6 hdb hb6 HF5
    go_upto_region 8 with fail
    rw [HW6.out.1, HW6.out.2]
    have c0 := HB6.out.cell 0
    have c3 := HB6.out.cell 3
    go_quiet (first | (go_at_call 7; exact Calls.quiet_of_same ((HLV.out _).mono fun _ _ h => ⟨h.1, h.2.symm⟩)) | (go_at_call 10; exact Calls.quiet_of_same ((lawName_calls L hL4 _).mono fun _ _ h => ⟨h.1, h.2.symm⟩)))
    go_wp2_with fail
    go_ret
    exact ⟨rfl, HF6.out.drewN nq⟩
end Go.Proofs.YtcekbhhpcmhicaaGreatDoor
