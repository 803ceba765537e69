/-
  FnFmtSxMatchesHexModel, walked.
-/
import Derived.Test.YoefswDoorHex
import Derived.Test.YoefswDoorZpad
namespace Go.Proofs.YoefswDoor
open Go.RowKit

/-- The guard on the length, over a string. -/
theorem bytesS2_any (s : ByteArray) (up : Bool) (wid prec : Int) (wp pp mi pl sh sp ze : Bool) (w : World) (hs : s.size ≤ 9223372036854775807) :
    Calls Efsg.prog 11 #[.string s, .bool up, .int .i64 wid, .int .i64 prec, .bool wp, .bool pp, .bool mi, .bool pl, .bool sh, .bool sp, .bool ze] w fun e w' => e = .returned (.bool (decide (s.size ≤ 1048576))) ∧ w = w' := by
  by_cases h : s.size ≤ 1048576
  all_goals
    go_enter Efsg.func11, Efsg.ntmps11
    go_wp2
    go_ret
    exact ⟨by simp [h], rfl⟩

set_option maxRecDepth 100000 in
set_option maxHeartbeats 400000 in
theorem sx_out (s : ByteArray) (up : Bool) (wid prec : Int) (wp pp mi pl sh sp ze : Bool) (w : World) (hs : s.size ≤ 9223372036854775807) (h : 1048576 < s.size ∨ wid < 0 ∨ 65536 < wid ∨ prec < 0) :
    Calls Efsg.prog 3 #[.string s, .bool up, .int .i64 wid, .int .i64 prec, .bool wp, .bool pp, .bool mi, .bool pl, .bool sh, .bool sp, .bool ze] w fun e w' => e = .returned (.bool true) ∧ Below w.heap.size w w' := by
  by_cases h1 : s.size ≤ 1048576
  · have hd : decide (s.size ≤ 1048576) = true := by simp [h1]
    by_cases h2 : wid < 0
    · go_enter Efsg.func3, Efsg.ntmps3
      go_wp2_with (go_at_call 11; refine (bytesS2_any s up wid prec wp pp mi pl sh sp ze _ hs).mono ?_; rintro e w' ⟨rfl, rfl⟩)
      go_ret
      exact ⟨rfl, Below.refl _ _⟩
    · by_cases h3 : 65536 < wid
      · go_enter Efsg.func3, Efsg.ntmps3
        go_wp2_with (go_at_call 11; refine (bytesS2_any s up wid prec wp pp mi pl sh sp ze _ hs).mono ?_; rintro e w' ⟨rfl, rfl⟩)
        go_ret
        exact ⟨rfl, Below.refl _ _⟩
      · have h4 : prec < 0 := by omega
        go_enter Efsg.func3, Efsg.ntmps3
        go_wp2_with (go_at_call 11; refine (bytesS2_any s up wid prec wp pp mi pl sh sp ze _ hs).mono ?_; rintro e w' ⟨rfl, rfl⟩)
        go_ret
        exact ⟨rfl, Below.refl _ _⟩
  · have hd : decide (s.size ≤ 1048576) = false := by simp; omega
    go_enter Efsg.func3, Efsg.ntmps3
    go_wp2_with (go_at_call 11; refine (bytesS2_any s up wid prec wp pp mi pl sh sp ze _ hs).mono ?_; rintro e w' ⟨rfl, rfl⟩)
    go_ret
    exact ⟨rfl, Below.refl _ _⟩

set_option maxRecDepth 100000 in
set_option maxHeartbeats 1000000 in
theorem sx_in (s : ByteArray) (up : Bool) (wid prec N : Nat) (wp pp mi pl sh sp ze : Bool) (w : World) (hs : s.size ≤ 1048576) (hwid : wid ≤ 65536) (hM : w.cell? ⟨0, 0, none⟩ = some (.int .i64 2147483647)) (hN : Hid (effN pp prec s.size = N)) (hNs : N ≤ s.size) :
    Calls Efsg.prog 3 #[.string s, .bool up, .int .i64 wid, .int .i64 prec, .bool wp, .bool pp, .bool mi, .bool pl, .bool sh, .bool sp, .bool ze] w fun e w' => e = .returned (.bool true) ∧ Below w.heap.size w w' := by
  have hz : 0 < w.heap.size := World.block_lt_of_cell? w ⟨0, 0, none⟩ hM
  have hd : decide (s.size ≤ 1048576) = true := by simp [hs]
  obtain ⟨B, hB⟩ : ∃ B, B = hexBody (digs up).data.toList sh sp s.data.toList N := ⟨_, rfl⟩
  have HB : Hid (B = hexBody (digs up).data.toList sh sp s.data.toList N) := hB
  have hBl : B.length ≤ 10000000 := by have := hexBody_le (digs up).data.toList sh sp s.data.toList N; rw [hB]; omega
  clear hB
  obtain ⟨X, hX⟩ : ∃ X, X = padded wp mi ze wid B := ⟨_, rfl⟩
  have HX : Hid (X = padded wp mi ze wid B) := hX
  clear hX
  go_enter Efsg.func3, Efsg.ntmps3
  go_upto_region 11 with (first | (go_at_call 11; refine (bytesS2_any s up wid prec wp pp mi pl sh sp ze _ (by omega)).mono ?_; rintro e w' ⟨rfl, rfl⟩) | (go_at_call 13; refine (digits_any up _).mono ?_; rintro e w' ⟨rfl, rfl⟩) | (go_at_call 12; refine (zzSx_any wid prec N s (digs up) wp pp mi pl sh sp ze w hs hwid (digs_size up) hM hN hNs).mono ?_; rintro e w1 ⟨rfl, hb1⟩; rw [show fmtHex (digs up).data.toList wid wp mi sh sp ze s.data.toList N = X from by rw [HX.out, HB.out]; rfl]))
  go_cut [71] from 38 to 71 (fun s71 wx => s71 = .bool (pp && decide (prec < s.size)) ∧ w1 = wx)
  case first =>
    cases pp
    all_goals
      go_wp2
      go_meet
      case rel => exact ⟨by simp, rfl⟩
  case rest =>
    obtain ⟨rfl, rfl⟩ := hcut
    go_upto_if 71 with (fail)
    go_cut [24] from 71 to 72 (fun s24 wx => s24 = .int .i64 (N : Int) ∧ w1 = wx)
    case first =>
      cases hp : (pp && decide (prec < s.size))
      all_goals
        go_wp2
        go_meet
        case rel => exact ⟨by rw [← hN.out]; simp [effN, hp], rfl⟩
    case rest =>
      obtain ⟨rfl, rfl⟩ := hcut
      go_wp2_with (first | (go_at_call 14; refine (hexModel_any N s up sh sp w1 hs hNs).mono ?_; rintro e w2 ⟨v, rfl, hown, hb2⟩; rw [← HB.out] at hown; obtain ⟨ao, c, hv⟩ := hown.form; subst hv) | (go_at_call 15; refine (zpad_any ao c _ B.length wid B wp mi ze w2 hown hBl hwid).mono ?_; rintro e w3 ⟨rfl, hb3⟩; rw [show padded.padTo (cond wp (wid - B.length) 0) mi ze B = X from by rw [HX.out]; rfl]))
      go_ret
      exact ⟨rfl, (hb1.trans (hb2.mono hb1.size)).trans (hb3.mono (Nat.le_trans hb1.size hb2.size))⟩
end Go.Proofs.YoefswDoor
