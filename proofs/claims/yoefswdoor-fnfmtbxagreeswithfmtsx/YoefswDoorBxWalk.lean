/-
  FnFmtBxMatchesHexModel and FnFmtBxAgreesWithFmtSx, walked.
-/
import Derived.Test.YoefswDoorHex
import Derived.Test.YoefswDoorZpad
import Derived.Test.YoefswDoorCopy
import Derived.Test.YoefswDoorZbx
namespace Go.Proofs.YoefswDoor
open Go.RowKit

/-- The guard on the length, over a slice. -/
theorem bytesB17_any (ao : Option Addr) (len cap : Nat) (up : Bool) (wid prec : Int) (wp pp mi pl sh sp ze : Bool) (w : World) (hs : len ≤ 9223372036854775807) :
    Calls Efsg.prog 17 #[.slice ao len cap, .bool up, .int .i64 wid, .int .i64 prec, .bool wp, .bool pp, .bool mi, .bool pl, .bool sh, .bool sp, .bool ze] w fun e w' => e = .returned (.bool (decide (len ≤ 1048576))) ∧ w = w' := by
  by_cases h : len ≤ 1048576
  all_goals
    go_enter Efsg.func17, Efsg.ntmps17
    go_wp2
    go_ret
    exact ⟨by simp [h], rfl⟩

set_option maxRecDepth 100000 in
set_option maxHeartbeats 400000 in
theorem bxm_out (ao : Option Addr) (len cap : Nat) (up : Bool) (wid prec : Int) (wp pp mi pl sh sp ze : Bool) (w : World) (hs : len ≤ 9223372036854775807) (h : 1048576 < len ∨ wid < 0 ∨ 65536 < wid ∨ prec < 0) :
    Calls Efsg.prog 5 #[.slice ao len cap, .bool up, .int .i64 wid, .int .i64 prec, .bool wp, .bool pp, .bool mi, .bool pl, .bool sh, .bool sp, .bool ze] w fun e w' => e = .returned (.bool true) ∧ Below w.heap.size w w' := by
  by_cases h1 : len ≤ 1048576
  · have hd : decide (len ≤ 1048576) = true := by simp [h1]
    by_cases h2 : wid < 0
    · go_enter Efsg.func5, Efsg.ntmps5
      go_wp2_with (go_at_call 17; refine (bytesB17_any ao len cap up wid prec wp pp mi pl sh sp ze _ hs).mono ?_; rintro e w' ⟨rfl, rfl⟩)
      go_ret
      exact ⟨rfl, Below.refl _ _⟩
    · by_cases h3 : 65536 < wid
      · go_enter Efsg.func5, Efsg.ntmps5
        go_wp2_with (go_at_call 17; refine (bytesB17_any ao len cap up wid prec wp pp mi pl sh sp ze _ hs).mono ?_; rintro e w' ⟨rfl, rfl⟩)
        go_ret
        exact ⟨rfl, Below.refl _ _⟩
      · have h4 : prec < 0 := by omega
        go_enter Efsg.func5, Efsg.ntmps5
        go_wp2_with (go_at_call 17; refine (bytesB17_any ao len cap up wid prec wp pp mi pl sh sp ze _ hs).mono ?_; rintro e w' ⟨rfl, rfl⟩)
        go_ret
        exact ⟨rfl, Below.refl _ _⟩
  · have hd : decide (len ≤ 1048576) = false := by simp; omega
    go_enter Efsg.func5, Efsg.ntmps5
    go_wp2_with (go_at_call 17; refine (bytesB17_any ao len cap up wid prec wp pp mi pl sh sp ze _ hs).mono ?_; rintro e w' ⟨rfl, rfl⟩)
    go_ret
    exact ⟨rfl, Below.refl _ _⟩

/-- The guard on the length, over a slice. -/
theorem bytesB20_any (ao : Option Addr) (len cap : Nat) (up : Bool) (wid prec : Int) (wp pp mi pl sh sp ze : Bool) (w : World) (hs : len ≤ 9223372036854775807) :
    Calls Efsg.prog 20 #[.slice ao len cap, .bool up, .int .i64 wid, .int .i64 prec, .bool wp, .bool pp, .bool mi, .bool pl, .bool sh, .bool sp, .bool ze] w fun e w' => e = .returned (.bool (decide (len ≤ 1048576))) ∧ w = w' := by
  by_cases h : len ≤ 1048576
  all_goals
    go_enter Efsg.func20, Efsg.ntmps20
    go_wp2
    go_ret
    exact ⟨by simp [h], rfl⟩

set_option maxRecDepth 100000 in
set_option maxHeartbeats 400000 in
theorem bxa_out (ao : Option Addr) (len cap : Nat) (up : Bool) (wid prec : Int) (wp pp mi pl sh sp ze : Bool) (w : World) (hs : len ≤ 9223372036854775807) (h : 1048576 < len ∨ wid < 0 ∨ 65536 < wid ∨ prec < 0) :
    Calls Efsg.prog 6 #[.slice ao len cap, .bool up, .int .i64 wid, .int .i64 prec, .bool wp, .bool pp, .bool mi, .bool pl, .bool sh, .bool sp, .bool ze] w fun e w' => e = .returned (.bool true) ∧ Below w.heap.size w w' := by
  by_cases h1 : len ≤ 1048576
  · have hd : decide (len ≤ 1048576) = true := by simp [h1]
    by_cases h2 : wid < 0
    · go_enter Efsg.func6, Efsg.ntmps6
      go_wp2_with (go_at_call 20; refine (bytesB20_any ao len cap up wid prec wp pp mi pl sh sp ze _ hs).mono ?_; rintro e w' ⟨rfl, rfl⟩)
      go_ret
      exact ⟨rfl, Below.refl _ _⟩
    · by_cases h3 : 65536 < wid
      · go_enter Efsg.func6, Efsg.ntmps6
        go_wp2_with (go_at_call 20; refine (bytesB20_any ao len cap up wid prec wp pp mi pl sh sp ze _ hs).mono ?_; rintro e w' ⟨rfl, rfl⟩)
        go_ret
        exact ⟨rfl, Below.refl _ _⟩
      · have h4 : prec < 0 := by omega
        go_enter Efsg.func6, Efsg.ntmps6
        go_wp2_with (go_at_call 20; refine (bytesB20_any ao len cap up wid prec wp pp mi pl sh sp ze _ hs).mono ?_; rintro e w' ⟨rfl, rfl⟩)
        go_ret
        exact ⟨rfl, Below.refl _ _⟩
  · have hd : decide (len ≤ 1048576) = false := by simp; omega
    go_enter Efsg.func6, Efsg.ntmps6
    go_wp2_with (go_at_call 20; refine (bytesB20_any ao len cap up wid prec wp pp mi pl sh sp ze _ hs).mono ?_; rintro e w' ⟨rfl, rfl⟩)
    go_ret
    exact ⟨rfl, Below.refl _ _⟩

/-- What the laws ask of a slice that came in and is not nil: S's bytes, at a plain address where there is one at all. -/
def BytesRow (w : World) (ao : Option Addr) (len : Nat) (S : List UInt8) : Prop :=
  (∃ a, ao = some a ∧ len = 0 ∧ S = []) ∨
  (∃ gb off, ao = some ⟨gb, off, none⟩ ∧ len = S.length ∧ gb < w.heap.size ∧ Hid (∀ k, k < S.length → w.cell? ⟨gb, off + k, none⟩ = some (.int .u8 ((S.getD k 0).toNat : Int))))

theorem src_of_owns {w w' : World} {base n c : Nat} {S : List UInt8} (h : Owns w base (.slice (some ⟨base, 0, none⟩) n c) S) (hb : Below w.heap.size w w') :
    Hid (∀ k, k < S.length → w'.cell? ⟨base, k, none⟩ = some (.int .u8 ((S.getD k 0).toNat : Int))) := by
  intro k hk
  have h2 := h.later hb
  have := World.ownsRow.cells h2 (g := base) rfl k (.int .u8 ((S.getD k 0).toNat : Int)) (by simp [bv, List.getElem?_eq_getElem hk, List.getD_eq_getElem?_getD])
  rwa [Addr.add_lit, Nat.zero_add] at this

/-- zzCopyBytes of a slice that is not nil: a row of its own with S's bytes. -/
theorem copy_row (ao : Option Addr) (len cap : Nat) (S : List UInt8) (w : World) (hs : len ≤ 1048576) (hin : Hid (BytesRow w ao len S)) :
    Calls Efsg.prog 18 #[.slice ao len cap] w fun e w' => e = .returned (.slice (some ⟨w.heap.size, 0, none⟩) S.length S.length) ∧ Owns w' w.heap.size (.slice (some ⟨w.heap.size, 0, none⟩) S.length S.length) S ∧ w.heap.size < w'.heap.size ∧ Below w.heap.size w w' := by
  rcases hin with ⟨a, rfl, rfl, rfl⟩ | ⟨gb, off, rfl, rfl, hgb, hsrc⟩
  · refine (copy_zero a cap w).mono ?_
    rintro e w' ⟨rfl, h1, h2⟩
    exact ⟨rfl, h1, (World.ownsRow.lt h1 _ rfl).2, h2⟩
  · refine (copy_some gb off cap S w hs hgb hsrc).mono ?_
    rintro e w' ⟨rfl, h1, h2⟩
    exact ⟨rfl, h1, (World.ownsRow.lt h1 _ rfl).2, h2⟩

set_option maxRecDepth 100000 in
set_option maxHeartbeats 400000 in
theorem bxa_row (ao : Option Addr) (len cap : Nat) (S : List UInt8) (up : Bool) (wid prec N : Nat) (wp pp mi pl sh sp ze : Bool) (w : World) (hs : len ≤ 1048576) (hlen : len = S.length) (hin : Hid (BytesRow w ao len S)) (hwid : wid ≤ 65536)
    (hM : w.cell? ⟨0, 0, none⟩ = some (.int .i64 2147483647)) (hN : Hid (effN pp prec S.length = N)) (hNs : N ≤ S.length) :
    Calls Efsg.prog 6 #[.slice ao len cap, .bool up, .int .i64 wid, .int .i64 prec, .bool wp, .bool pp, .bool mi, .bool pl, .bool sh, .bool sp, .bool ze] w fun e w' => e = .returned (.bool true) ∧ Below w.heap.size w w' := by
  have hz : 0 < w.heap.size := World.block_lt_of_cell? w ⟨0, 0, none⟩ hM
  have hd : decide (len ≤ 1048576) = true := by simp [hs]
  have hsS : S.length ≤ 1048576 := by omega
  clear hlen
  obtain ⟨X, hX⟩ : ∃ X, X = fmtHex (digs up).data.toList wid wp mi sh sp ze S N := ⟨_, rfl⟩
  have HX : Hid (X = fmtHex (digs up).data.toList wid wp mi sh sp ze S N) := hX
  clear hX
  go_enter Efsg.func6, Efsg.ntmps6
  go_wp2_with (first | (go_at_call 20; refine (bytesB20_any ao len cap up wid prec wp pp mi pl sh sp ze _ (by omega)).mono ?_; rintro e w' ⟨rfl, rfl⟩) | (go_at_call 18; refine (copy_row ao len cap S w hs hin).mono ?_; rintro e w1 ⟨rfl, hown, hlt, hb1⟩; have hM1 := (hb1.cell (p := ⟨0, 0, none⟩) hz).trans hM) | (go_at_call 13; refine (digits_any up _).mono ?_; rintro e w' ⟨rfl, rfl⟩) | (go_at_call 19; refine (zzBx_any wid prec N w.heap.size S.length S (digs up) wp pp mi pl sh sp ze w1 hsS hwid (digs_size up) hM1 hN hNs hlt (src_of_owns hown (Below.refl _ _))).mono ?_; rintro e w2 ⟨rfl, hb2⟩; rw [← HX.out]; have hcn := conv_own 25 Efsg.underlying25 (hown.later hb2); have hM2 := (hb2.cell (p := ⟨0, 0, none⟩) (Nat.lt_of_lt_of_le hz hb1.size)).trans hM1) | (go_at_call 12; refine (zzSx_any wid prec N ⟨S.toArray⟩ (digs up) wp pp mi pl sh sp ze w2 hsS hwid (digs_size up) hM2 hN hNs).mono ?_; rintro e w3 ⟨rfl, hb3⟩; rw [show fmtHex (digs up).data.toList wid wp mi sh sp ze (⟨S.toArray⟩ : ByteArray).data.toList N = X from HX.out.symm]))
  go_ret
  exact ⟨rfl, (hb1.trans (hb2.mono hb1.size)).trans (hb3.mono (Nat.le_trans hb1.size hb2.size))⟩

set_option maxRecDepth 100000 in
set_option maxHeartbeats 400000 in
theorem bxa_nil (up : Bool) (wid prec N : Nat) (wp pp mi pl sh sp ze : Bool) (w : World) (hwid : wid ≤ 65536)
    (hM : w.cell? ⟨0, 0, none⟩ = some (.int .i64 2147483647)) (hN : Hid (effN pp prec 0 = N)) (hNs : N ≤ 0) :
    Calls Efsg.prog 6 #[.slice none 0 0, .bool up, .int .i64 wid, .int .i64 prec, .bool wp, .bool pp, .bool mi, .bool pl, .bool sh, .bool sp, .bool ze] w fun e w' => e = .returned (.bool true) ∧ Below w.heap.size w w' := by
  have hz : 0 < w.heap.size := World.block_lt_of_cell? w ⟨0, 0, none⟩ hM
  obtain ⟨X, hX⟩ : ∃ X, X = fmtHex (digs up).data.toList wid wp mi sh sp ze [] N := ⟨_, rfl⟩
  have HX : Hid (X = fmtHex (digs up).data.toList wid wp mi sh sp ze [] N) := hX
  have hNs2 : Hid (N ≤ 0) := hNs
  clear hX hNs
  go_enter Efsg.func6, Efsg.ntmps6
  go_wp2_with (first | (go_at_call 20; refine (bytesB20_any none 0 0 up wid prec wp pp mi pl sh sp ze _ (by omega)).mono ?_; rintro e w' ⟨rfl, rfl⟩) | (go_at_call 18; refine (copy_nil w).mono ?_; rintro e w1 ⟨rfl, rfl⟩) | (go_at_call 13; refine (digits_any up _).mono ?_; rintro e w' ⟨rfl, rfl⟩) | (go_at_call 19; refine (zzBx_nil wid prec N (digs up) wp pp mi pl sh sp ze _ hwid (digs_size up) hM hN hNs2.out).mono ?_; rintro e w2 ⟨rfl, hb2⟩; rw [← HX.out]; have hcn := conv_own (base := 0) (bs := []) 25 Efsg.underlying25 (World.ownsRow_nil w2 _ _ _); have hM2 := (hb2.cell (p := ⟨0, 0, none⟩) hz).trans hM) | (go_at_call 12; refine (zzSx_any wid prec N ⟨#[]⟩ (digs up) wp pp mi pl sh sp ze w2 (Nat.zero_le _) hwid (digs_size up) hM2 hN hNs2.out).mono ?_; rintro e w3 ⟨rfl, hb3⟩; rw [show fmtHex (digs up).data.toList wid wp mi sh sp ze (⟨#[]⟩ : ByteArray).data.toList N = X from HX.out.symm]))
  go_ret
  exact ⟨rfl, hb2.trans (hb3.mono hb2.size)⟩
end Go.Proofs.YoefswDoor
