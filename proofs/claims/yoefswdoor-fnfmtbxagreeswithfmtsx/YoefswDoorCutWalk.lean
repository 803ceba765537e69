/-
  FnFmtSxPrecisionIsACut, walked.
-/
import Derived.Test.YoefswDoorZsx
namespace Go.Proofs.YoefswDoor
open Go.RowKit

def digU : ByteArray := ⟨#[48, 49, 50, 51, 52, 53, 54, 55, 56, 57, 65, 66, 67, 68, 69, 70, 88]⟩
def digL : ByteArray := ⟨#[48, 49, 50, 51, 52, 53, 54, 55, 56, 57, 97, 98, 99, 100, 101, 102, 120]⟩
def digs (up : Bool) : ByteArray := cond up digU digL
theorem digs_size (up : Bool) : (digs up).size = 17 := by cases up <;> rfl

theorem digits_any (up : Bool) (w : World) : Calls Efsg.prog 13 #[.bool up] w fun e w' => e = .returned (.string (digs up)) ∧ w = w' := by
  cases up
  all_goals
    go_enter Efsg.func13, Efsg.ntmps13
    go_wp2
    go_ret
    exact ⟨rfl, rfl⟩

/-- The guard on the length, over a string. -/
theorem bytesS_any (s : ByteArray) (up : Bool) (p wid : Int) (wp mi pl sh sp ze : Bool) (w : World) (hs : s.size ≤ 9223372036854775807) :
    Calls Efsg.prog 16 #[.string s, .bool up, .int .i64 p, .int .i64 wid, .bool wp, .bool mi, .bool pl, .bool sh, .bool sp, .bool ze] w fun e w' => e = .returned (.bool (decide (s.size ≤ 1048576))) ∧ w = w' := by
  by_cases h : s.size ≤ 1048576
  all_goals
    go_enter Efsg.func16, Efsg.ntmps16
    go_wp2
    go_ret
    exact ⟨by simp [h], rfl⟩

set_option maxRecDepth 100000 in
set_option maxHeartbeats 400000 in
theorem cut_out (s : ByteArray) (up : Bool) (p wid : Int) (wp mi pl sh sp ze : Bool) (w : World) (hs : s.size ≤ 9223372036854775807) (h : 1048576 < s.size ∨ wid < 0 ∨ 65536 < wid ∨ p < 0) :
    Calls Efsg.prog 4 #[.string s, .bool up, .int .i64 p, .int .i64 wid, .bool wp, .bool mi, .bool pl, .bool sh, .bool sp, .bool ze] w fun e w' => e = .returned (.bool true) ∧ Below w.heap.size w w' := by
  by_cases h1 : s.size ≤ 1048576
  · have hd : decide (s.size ≤ 1048576) = true := by simp [h1]
    by_cases h2 : wid < 0
    · go_enter Efsg.func4, Efsg.ntmps4
      go_wp2_with (go_at_call 16; refine (bytesS_any s up p wid wp mi pl sh sp ze _ hs).mono ?_; rintro e w' ⟨rfl, rfl⟩)
      go_ret
      exact ⟨rfl, Below.refl _ _⟩
    · by_cases h3 : 65536 < wid
      · go_enter Efsg.func4, Efsg.ntmps4
        go_wp2_with (go_at_call 16; refine (bytesS_any s up p wid wp mi pl sh sp ze _ hs).mono ?_; rintro e w' ⟨rfl, rfl⟩)
        go_ret
        exact ⟨rfl, Below.refl _ _⟩
      · have h4 : p < 0 := by omega
        go_enter Efsg.func4, Efsg.ntmps4
        go_wp2_with (go_at_call 16; refine (bytesS_any s up p wid wp mi pl sh sp ze _ hs).mono ?_; rintro e w' ⟨rfl, rfl⟩)
        go_ret
        exact ⟨rfl, Below.refl _ _⟩
  · have hd : decide (s.size ≤ 1048576) = false := by simp; omega
    go_enter Efsg.func4, Efsg.ntmps4
    go_wp2_with (go_at_call 16; refine (bytesS_any s up p wid wp mi pl sh sp ze _ hs).mono ?_; rintro e w' ⟨rfl, rfl⟩)
    go_ret
    exact ⟨rfl, Below.refl _ _⟩

theorem cut_plain (dg : List UInt8) (wid : Nat) (wp mi sh sp ze : Bool) (s : ByteArray) (p : Nat) :
    fmtHex dg wid wp mi sh sp ze (s.extract 0 p).data.toList p = fmtHex dg wid wp mi sh sp ze s.data.toList p := by
  unfold fmtHex
  rw [hexBody_congr]
  intro j hj
  simp [List.getD_eq_getElem?_getD, hj]

set_option maxRecDepth 100000 in
set_option maxHeartbeats 400000 in
theorem cut_in (s : ByteArray) (up : Bool) (p wid : Nat) (wp mi pl sh sp ze : Bool) (w : World) (hs : s.size ≤ 1048576) (hwid : wid ≤ 65536) (hM : w.cell? ⟨0, 0, none⟩ = some (.int .i64 2147483647)) :
    Calls Efsg.prog 4 #[.string s, .bool up, .int .i64 p, .int .i64 wid, .bool wp, .bool mi, .bool pl, .bool sh, .bool sp, .bool ze] w fun e w' => e = .returned (.bool true) ∧ Below w.heap.size w w' := by
  have hz : 0 < w.heap.size := World.block_lt_of_cell? w ⟨0, 0, none⟩ hM
  have hd : decide (s.size ≤ 1048576) = true := by simp [hs]
  by_cases hp : p < s.size
  · go_enter Efsg.func4, Efsg.ntmps4
    go_wp2_with (first | (go_at_call 16; refine (bytesS_any s up p wid wp mi pl sh sp ze _ (by omega)).mono ?_; rintro e w' ⟨rfl, rfl⟩) | (go_at_call 13; refine (digits_any up _).mono ?_; rintro e w' ⟨rfl, rfl⟩))
    refine (zzSx_any wid p p s (digs up) wp true mi pl sh sp ze _ hs hwid (digs_size up) hM (by unfold Hid; simp [effN, hp]) (by omega)).mono ?_
    rintro e w1 ⟨rfl, hb1⟩
    have hM1 := (hb1.cell (p := ⟨0, 0, none⟩) hz).trans hM
    obtain ⟨X, hX⟩ : ∃ X, X = fmtHex (digs up).data.toList wid wp mi sh sp ze s.data.toList p := ⟨_, rfl⟩
    rw [← hX]
    have HX : Hid (X = _) := hX
    clear hX
    go_wp2_with fail
    refine (zzSx_any wid 0 p (s.extract 0 p) (digs up) wp false mi pl sh sp ze _ (by simp; omega) hwid (digs_size up) hM1 (by unfold Hid; simp [effN]; omega) (by simp; omega)).mono ?_
    rintro e w2 ⟨rfl, hb2⟩
    rw [cut_plain, ← HX.out]
    have hb3 := hb1.trans (hb2.mono hb1.size)
    clear HX
    go_wp2
    go_ret
    exact ⟨rfl, hb3⟩
  · go_enter Efsg.func4, Efsg.ntmps4
    go_wp2_with (first | (go_at_call 16; refine (bytesS_any s up p wid wp mi pl sh sp ze _ (by omega)).mono ?_; rintro e w' ⟨rfl, rfl⟩) | (go_at_call 13; refine (digits_any up _).mono ?_; rintro e w' ⟨rfl, rfl⟩))
    refine (zzSx_any wid p s.size s (digs up) wp true mi pl sh sp ze _ hs hwid (digs_size up) hM (by unfold Hid; simp [effN, hp]) (by omega)).mono ?_
    rintro e w1 ⟨rfl, hb1⟩
    have hM1 := (hb1.cell (p := ⟨0, 0, none⟩) hz).trans hM
    obtain ⟨X, hX⟩ : ∃ X, X = fmtHex (digs up).data.toList wid wp mi sh sp ze s.data.toList s.size := ⟨_, rfl⟩
    rw [← hX]
    have HX : Hid (X = _) := hX
    clear hX
    go_wp2_with fail
    refine (zzSx_any wid 0 s.size s (digs up) wp false mi pl sh sp ze _ hs hwid (digs_size up) hM1 (by unfold Hid; simp [effN]) (Nat.le_refl _)).mono ?_
    rintro e w2 ⟨rfl, hb2⟩
    rw [← HX.out]
    have hb3 := hb1.trans (hb2.mono hb1.size)
    clear HX
    go_wp2
    go_ret
    exact ⟨rfl, hb3⟩
end Go.Proofs.YoefswDoor
