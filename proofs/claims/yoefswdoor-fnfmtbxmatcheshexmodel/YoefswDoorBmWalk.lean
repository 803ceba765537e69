/-
  FnFmtBxMatchesHexModel, walked.
-/
import Derived.Test.YoefswDoorBxWalk
namespace Go.Proofs.YoefswDoor
open Go.RowKit

set_option maxRecDepth 100000 in
set_option maxHeartbeats 1000000 in
theorem bxm_row (ao : Option Addr) (len cap : Nat) (S : List UInt8) (up : Bool) (wid prec N : Nat) (wp pp mi pl sh sp ze : Bool) (w : World) (hs : len ≤ 1048576) (hlen : len = S.length) (hin : Hid (BytesRow w ao len S)) (hwid : wid ≤ 65536)
    (hM : w.cell? ⟨0, 0, none⟩ = some (.int .i64 2147483647)) (hN : Hid (effN pp prec S.length = N)) (hNs : N ≤ S.length) :
    Calls Efsg.prog 5 #[.slice ao len cap, .bool up, .int .i64 wid, .int .i64 prec, .bool wp, .bool pp, .bool mi, .bool pl, .bool sh, .bool sp, .bool ze] w fun e w' => e = .returned (.bool true) ∧ Below w.heap.size w w' := by
  have hz : 0 < w.heap.size := World.block_lt_of_cell? w ⟨0, 0, none⟩ hM
  have hd : decide (len ≤ 1048576) = true := by simp [hs]
  have hsS : S.length ≤ 1048576 := by omega
  clear hlen
  have hNs2 : Hid (N ≤ S.length) := hNs
  obtain ⟨B, hB⟩ : ∃ B, B = hexBody (digs up).data.toList sh sp S N := ⟨_, rfl⟩
  have HB : Hid (B = hexBody (digs up).data.toList sh sp S N) := hB
  have hBl : B.length ≤ 10000000 := by have := hexBody_le (digs up).data.toList sh sp S N; rw [hB]; omega
  clear hB hNs
  obtain ⟨X, hX⟩ : ∃ X, X = padded wp mi ze wid B := ⟨_, rfl⟩
  have HX : Hid (X = padded wp mi ze wid B) := hX
  clear hX
  go_enter Efsg.func5, Efsg.ntmps5
  go_upto_region 13 with (first | (go_at_call 17; refine (bytesB17_any ao len cap up wid prec wp pp mi pl sh sp ze _ (by omega)).mono ?_; rintro e w' ⟨rfl, rfl⟩) | (go_at_call 18; refine (copy_row ao len cap S w hs hin).mono ?_; rintro e w1 ⟨rfl, hown, hlt, hb1⟩; have hM1 := (hb1.cell (p := ⟨0, 0, none⟩) hz).trans hM) | (go_at_call 13; refine (digits_any up _).mono ?_; rintro e w' ⟨rfl, rfl⟩) | (go_at_call 19; refine (zzBx_any wid prec N w.heap.size S.length S (digs up) wp pp mi pl sh sp ze w1 hsS hwid (digs_size up) hM1 hN hNs2.out hlt (src_of_owns hown (Below.refl _ _))).mono ?_; rintro e w2 ⟨rfl, hb2⟩; rw [show fmtHex (digs up).data.toList wid wp mi sh sp ze S N = X from by rw [HX.out, HB.out]; rfl]; have hcn := conv_own 25 Efsg.underlying25 (hown.later hb2)))
  go_cut [76] from 38 to 76 (fun s76 wx => s76 = .bool (pp && decide (prec < S.length)) ∧ w2 = wx)
  case first =>
    cases pp
    all_goals
      go_wp2
      go_meet
      case rel => exact ⟨by simp, rfl⟩
  case rest =>
    obtain ⟨rfl, rfl⟩ := hcut
    go_upto_if 76 with (fail)
    go_cut [25] from 76 to 77 (fun s25 wx => s25 = .int .i64 (N : Int) ∧ w2 = wx)
    case first =>
      cases hp : (pp && decide (prec < S.length))
      all_goals
        go_wp2
        go_meet
        case rel => exact ⟨by rw [← hN.out]; simp [effN, hp], rfl⟩
    case rest =>
      obtain ⟨rfl, rfl⟩ := hcut
      go_wp2_with (first | (go_at_call 14; refine (hexModel_any N ⟨S.toArray⟩ up sh sp w2 hsS hNs2.out).mono ?_; rintro e w3 ⟨v, rfl, hown3, hb3⟩; rw [show hexBody (digs up).data.toList sh sp (⟨S.toArray⟩ : ByteArray).data.toList N = B from HB.out.symm] at hown3; obtain ⟨ao3, c3, hv3⟩ := hown3.form; subst hv3) | (go_at_call 15; refine (zpad_any ao3 c3 _ B.length wid B wp mi ze w3 hown3 hBl hwid).mono ?_; rintro e w4 ⟨rfl, hb4⟩; rw [show padded.padTo (cond wp (wid - B.length) 0) mi ze B = X from by rw [HX.out]; rfl]))
      go_ret
      exact ⟨rfl, ((hb1.trans (hb2.mono hb1.size)).trans (hb3.mono (Nat.le_trans hb1.size hb2.size))).trans (hb4.mono (Nat.le_trans (Nat.le_trans hb1.size hb2.size) hb3.size))⟩

set_option maxRecDepth 100000 in
set_option maxHeartbeats 1000000 in
theorem bxm_nil (up : Bool) (wid prec N : Nat) (wp pp mi pl sh sp ze : Bool) (w : World) (hwid : wid ≤ 65536)
    (hM : w.cell? ⟨0, 0, none⟩ = some (.int .i64 2147483647)) (hN : Hid (effN pp prec 0 = N)) (hNs : N ≤ 0) :
    Calls Efsg.prog 5 #[.slice none 0 0, .bool up, .int .i64 wid, .int .i64 prec, .bool wp, .bool pp, .bool mi, .bool pl, .bool sh, .bool sp, .bool ze] w fun e w' => e = .returned (.bool true) ∧ Below w.heap.size w w' := by
  have hz : 0 < w.heap.size := World.block_lt_of_cell? w ⟨0, 0, none⟩ hM
  have hNs2 : Hid (N ≤ 0) := hNs
  obtain ⟨B, hB⟩ : ∃ B, B = hexBody (digs up).data.toList sh sp [] N := ⟨_, rfl⟩
  have HB : Hid (B = hexBody (digs up).data.toList sh sp [] N) := hB
  have hBl : B.length ≤ 10000000 := by have := hexBody_le (digs up).data.toList sh sp [] N; rw [hB]; omega
  clear hB hNs
  obtain ⟨X, hX⟩ : ∃ X, X = padded wp mi ze wid B := ⟨_, rfl⟩
  have HX : Hid (X = padded wp mi ze wid B) := hX
  clear hX
  go_enter Efsg.func5, Efsg.ntmps5
  go_upto_region 13 with (first | (go_at_call 17; refine (bytesB17_any none 0 0 up wid prec wp pp mi pl sh sp ze _ (by omega)).mono ?_; rintro e w' ⟨rfl, rfl⟩) | (go_at_call 18; refine (copy_nil w).mono ?_; rintro e w1 ⟨rfl, rfl⟩) | (go_at_call 13; refine (digits_any up _).mono ?_; rintro e w' ⟨rfl, rfl⟩) | (go_at_call 19; refine (zzBx_nil wid prec N (digs up) wp pp mi pl sh sp ze _ hwid (digs_size up) hM hN hNs2.out).mono ?_; rintro e w2 ⟨rfl, hb2⟩; rw [show fmtHex (digs up).data.toList wid wp mi sh sp ze [] N = X from by rw [HX.out, HB.out]; rfl]; have hcn := conv_own (base := 0) (bs := []) 25 Efsg.underlying25 (World.ownsRow_nil w2 _ _ _)))
  go_cut [76] from 38 to 76 (fun s76 wx => s76 = .bool (pp && decide (prec < 0)) ∧ w2 = wx)
  case first =>
    cases pp
    all_goals
      go_wp2
      go_meet
      case rel => exact ⟨by simp, rfl⟩
  case rest =>
    obtain ⟨rfl, rfl⟩ := hcut
    go_upto_if 76 with (fail)
    go_cut [25] from 76 to 77 (fun s25 wx => s25 = .int .i64 (N : Int) ∧ w2 = wx)
    case first =>
      have hp : (pp && decide (prec < 0)) = false := by simp
      go_wp2
      go_meet
      case rel => exact ⟨by have := hNs2.out; have e : N = 0 := by omega
                            rw [e]; rfl, rfl⟩
    case rest =>
      obtain ⟨rfl, rfl⟩ := hcut
      go_wp2_with (first | (go_at_call 14; refine (hexModel_any N ⟨#[]⟩ up sh sp w2 (Nat.zero_le _) hNs2.out).mono ?_; rintro e w3 ⟨v, rfl, hown3, hb3⟩; rw [show hexBody (digs up).data.toList sh sp (⟨#[]⟩ : ByteArray).data.toList N = B from HB.out.symm] at hown3; obtain ⟨ao3, c3, hv3⟩ := hown3.form; subst hv3) | (go_at_call 15; refine (zpad_any ao3 c3 _ B.length wid B wp mi ze w3 hown3 hBl hwid).mono ?_; rintro e w4 ⟨rfl, hb4⟩; rw [show padded.padTo (cond wp (wid - B.length) 0) mi ze B = X from by rw [HX.out]; rfl]))
      go_ret
      exact ⟨rfl, (hb2.trans (hb3.mono hb2.size)).trans (hb4.mono (Nat.le_trans hb2.size hb3.size))⟩

end Go.Proofs.YoefswDoor
