/-
  utf8.EncodeRune into the formatter's intbuf, by contract.
-/
import Derived.Test.YoefswDoorZpad
import Derived.Test.YoefswDoorUPlain
import Derived.Laws.IdiomCopy
namespace Go.Proofs.YoefswDoor
open Go.RowKit

/-- The four cells are there and may be written. -/
def Four (w : World) (fb : Nat) : Prop := ∀ j, j < 4 → (∃ c, w.cell? ⟨fb, 15 + j, none⟩ = some c) ∧ w.frozen? ⟨fb, 15 + j, none⟩ = false

theorem bv_enc {r : Nat} (hr : r ≤ 1114111) : bv (enc r) = (encN r).map (fun n : Nat => Value.int .u8 (n : Int)) := by
  have h := encN_byte hr
  unfold bv enc
  rw [List.map_map]
  apply List.map_congr_left
  intro x hx
  have := h x hx
  simp
  omega

set_option maxRecDepth 100000 in
set_option maxHeartbeats 400000 in
theorem encode_one (fb : Nat) (r : Int) (w : World) (h0 : 0 ≤ r) (h : r ≤ 127) (h4 : Four w fb) :
    Calls Efsg.prog 41 #[.slice (some ⟨fb, 15, none⟩) 4 68, .int .i32 r] w fun e w' => e = .returned (.int .i64 1) ∧ w' = w.setCells fb 15 [.int .u8 r] := by
  obtain ⟨⟨c0, hc0⟩, hf0⟩ := h4 0 (by omega)
  clear h4
  go_enter Efsg.func41, Efsg.ntmps41
  go_wp2
  go_ret
  exact ⟨rfl, rfl⟩

set_option maxRecDepth 100000 in
set_option maxHeartbeats 1000000 in
theorem encode_two (fb : Nat) (r : Int) (w : World) (h0 : 128 ≤ r) (h : r ≤ 2047) (h4 : Four w fb) :
    Calls Efsg.prog 41 #[.slice (some ⟨fb, 15, none⟩) 4 68, .int .i32 r] w fun e w' => e = .returned (.int .i64 2) ∧ w' = w.setCells fb 15 [.int .u8 (192 + r / 64), .int .u8 (128 + r % 64)] := by
  obtain ⟨⟨c0, hc0⟩, hf0⟩ := h4 0 (by omega)
  obtain ⟨⟨c1, hc1⟩, hf1⟩ := h4 1 (by omega)
  clear h4
  go_enter Efsg.func41, Efsg.ntmps41
  go_wp2
  go_ret
  exact ⟨rfl, rfl⟩

set_option maxRecDepth 100000 in
set_option maxHeartbeats 1000000 in
theorem encode_three_lo (fb : Nat) (r : Int) (w : World) (h0 : 2048 ≤ r) (h : r < 55296) (h4 : Four w fb) :
    Calls Efsg.prog 41 #[.slice (some ⟨fb, 15, none⟩) 4 68, .int .i32 r] w fun e w' => e = .returned (.int .i64 3) ∧ w' = w.setCells fb 15 [.int .u8 (224 + r / 4096), .int .u8 (128 + r / 64 % 64), .int .u8 (128 + r % 64)] := by
  obtain ⟨⟨c0, hc0⟩, hf0⟩ := h4 0 (by omega)
  obtain ⟨⟨c1, hc1⟩, hf1⟩ := h4 1 (by omega)
  obtain ⟨⟨c2, hc2⟩, hf2⟩ := h4 2 (by omega)
  clear h4
  go_enter Efsg.func41, Efsg.ntmps41
  go_wp2
  go_ret
  exact ⟨rfl, rfl⟩

set_option maxRecDepth 100000 in
set_option maxHeartbeats 1000000 in
theorem encode_three_hi (fb : Nat) (r : Int) (w : World) (h0 : 57343 < r) (h : r ≤ 65535) (h4 : Four w fb) :
    Calls Efsg.prog 41 #[.slice (some ⟨fb, 15, none⟩) 4 68, .int .i32 r] w fun e w' => e = .returned (.int .i64 3) ∧ w' = w.setCells fb 15 [.int .u8 (224 + r / 4096), .int .u8 (128 + r / 64 % 64), .int .u8 (128 + r % 64)] := by
  obtain ⟨⟨c0, hc0⟩, hf0⟩ := h4 0 (by omega)
  obtain ⟨⟨c1, hc1⟩, hf1⟩ := h4 1 (by omega)
  obtain ⟨⟨c2, hc2⟩, hf2⟩ := h4 2 (by omega)
  clear h4
  go_enter Efsg.func41, Efsg.ntmps41
  go_wp2
  go_ret
  exact ⟨rfl, rfl⟩

set_option maxRecDepth 100000 in
set_option maxHeartbeats 1000000 in
theorem encode_sur (fb : Nat) (r : Int) (w : World) (h0 : 55296 ≤ r) (h : r ≤ 57343) (h4 : Four w fb) :
    Calls Efsg.prog 41 #[.slice (some ⟨fb, 15, none⟩) 4 68, .int .i32 r] w fun e w' => e = .returned (.int .i64 3) ∧ w' = w.setCells fb 15 [.int .u8 239, .int .u8 191, .int .u8 189] := by
  obtain ⟨⟨c0, hc0⟩, hf0⟩ := h4 0 (by omega)
  obtain ⟨⟨c1, hc1⟩, hf1⟩ := h4 1 (by omega)
  obtain ⟨⟨c2, hc2⟩, hf2⟩ := h4 2 (by omega)
  clear h4
  go_enter Efsg.func41, Efsg.ntmps41
  go_wp2
  go_ret
  exact ⟨rfl, rfl⟩

set_option maxRecDepth 100000 in
set_option maxHeartbeats 1000000 in
theorem encode_four (fb : Nat) (r : Int) (w : World) (h0 : 65536 ≤ r) (h : r ≤ 1114111) (h4 : Four w fb) :
    Calls Efsg.prog 41 #[.slice (some ⟨fb, 15, none⟩) 4 68, .int .i32 r] w fun e w' => e = .returned (.int .i64 4) ∧ w' = w.setCells fb 15 [.int .u8 (240 + r / 262144), .int .u8 (128 + r / 4096 % 64), .int .u8 (128 + r / 64 % 64), .int .u8 (128 + r % 64)] := by
  obtain ⟨⟨c0, hc0⟩, hf0⟩ := h4 0 (by omega)
  obtain ⟨⟨c1, hc1⟩, hf1⟩ := h4 1 (by omega)
  obtain ⟨⟨c2, hc2⟩, hf2⟩ := h4 2 (by omega)
  obtain ⟨⟨c3, hc3⟩, hf3⟩ := h4 3 (by omega)
  clear h4
  go_enter Efsg.func41, Efsg.ntmps41
  go_wp2
  go_ret
  exact ⟨rfl, rfl⟩

theorem encode_any (fb r : Nat) (w : World) (hr : r ≤ 1114111) (h4 : Four w fb) :
    Calls Efsg.prog 41 #[.slice (some ⟨fb, 15, none⟩) 4 68, .int .i32 r] w fun e w' => e = .returned (.int .i64 ((enc (mend r)).length : Int)) ∧ w' = w.setCells fb 15 (bv (enc (mend r))) := by
  have hl : (enc (mend r)).length = (encN (mend r)).length := by simp [enc]
  rw [bv_enc (mend_le r), hl]
  by_cases h1 : r < 128
  · rw [mend_scal (by simp [scal]; omega), encN_one h1]
    exact encode_one fb r w (by omega) (by omega) h4
  by_cases h2 : r < 2048
  · rw [mend_scal (by simp [scal]; omega), encN_two h1 h2]
    exact encode_two fb r w (by omega) (by omega) h4
  by_cases h3 : r < 55296
  · rw [mend_scal (by simp [scal]; omega), encN_three h2 (by omega)]
    exact encode_three_lo fb r w (by omega) (by omega) h4
  by_cases h5 : 57343 < r
  · by_cases h6 : r < 65536
    · rw [mend_scal (by simp [scal]; omega), encN_three h2 h6]
      exact encode_three_hi fb r w (by omega) (by omega) h4
    · rw [mend_scal (by simp [scal]; omega), encN_four h6]
      exact encode_four fb r w (by omega) (by omega) h4
  · rw [mend_not (by simp [scal]; omega)]
    rw [encN_three (by decide) (by decide)]
    exact encode_sur fb r w (by omega) (by omega) h4
end Go.Proofs.YoefswDoor
