/-
  One encoded scalar value is one rune to the decoder.
-/
import Derived.Test.YoefswDoorRune
namespace Go.Proofs.YoefswDoor
open Go.RowKit

theorem ofNat_toNat {n : Nat} (h : n < 256) : (UInt8.ofNat n).toNat = n := by simp; omega

theorem decode_two (a b : UInt8) (h1 : a.toNat / 32 = 6) (h2 : b.toNat / 64 = 2) (h3 : 128 ≤ a.toNat % 32 * 64 + b.toNat % 64) : (Utf8.decode ⟨#[a, b]⟩ 0).2 = 2 := by
  have e0 : (⟨#[a, b]⟩ : ByteArray).get! 0 = a := rfl
  have e1 : (⟨#[a, b]⟩ : ByteArray).get! 1 = b := rfl
  have es : (⟨#[a, b]⟩ : ByteArray).size = 2 := rfl
  have hn : ¬ a.toNat < 128 := by omega
  simp [Utf8.decode, e0, e1, es, hn, h1, h2, h3]

theorem valid_of {c : Nat} (h1 : c ≤ 1114111) (h2 : c < 55296 ∨ 57343 < c) : Utf8.valid (c : Int) = true := by
  unfold Utf8.valid
  rcases h2 with h | h
  · simp; omega
  · simp; omega

theorem decode_three (a b c : UInt8) (h1 : a.toNat / 16 = 14) (h2 : b.toNat / 64 = 2) (h3 : c.toNat / 64 = 2) (h4 : 2048 ≤ a.toNat % 16 * 4096 + b.toNat % 64 * 64 + c.toNat % 64)
    (h5 : Utf8.valid ((a.toNat % 16 * 4096 + b.toNat % 64 * 64 + c.toNat % 64 : Nat) : Int) = true) : (Utf8.decode ⟨#[a, b, c]⟩ 0).2 = 3 := by
  have e0 : (⟨#[a, b, c]⟩ : ByteArray).get! 0 = a := rfl
  have e1 : (⟨#[a, b, c]⟩ : ByteArray).get! 1 = b := rfl
  have e2 : (⟨#[a, b, c]⟩ : ByteArray).get! 2 = c := rfl
  have es : (⟨#[a, b, c]⟩ : ByteArray).size = 3 := rfl
  have hn : ¬ a.toNat < 128 := by omega
  have hm : ¬ a.toNat / 32 = 6 := by omega
  simp only [Utf8.decode, Nat.zero_add, e0, e1, e2, es, h2, h3, h1]
  rw [if_neg hn]
  simp at h5
  simp [hm, h4, h5]

theorem decode_four (a b c d : UInt8) (h1 : a.toNat / 8 = 30) (h2 : b.toNat / 64 = 2) (h3 : c.toNat / 64 = 2) (h6 : d.toNat / 64 = 2) (h4 : 65536 ≤ a.toNat % 8 * 262144 + b.toNat % 64 * 4096 + c.toNat % 64 * 64 + d.toNat % 64)
    (h5 : Utf8.valid ((a.toNat % 8 * 262144 + b.toNat % 64 * 4096 + c.toNat % 64 * 64 + d.toNat % 64 : Nat) : Int) = true) : (Utf8.decode ⟨#[a, b, c, d]⟩ 0).2 = 4 := by
  have e0 : (⟨#[a, b, c, d]⟩ : ByteArray).get! 0 = a := rfl
  have e1 : (⟨#[a, b, c, d]⟩ : ByteArray).get! 1 = b := rfl
  have e2 : (⟨#[a, b, c, d]⟩ : ByteArray).get! 2 = c := rfl
  have e3 : (⟨#[a, b, c, d]⟩ : ByteArray).get! 3 = d := rfl
  have es : (⟨#[a, b, c, d]⟩ : ByteArray).size = 4 := rfl
  have hn : ¬ a.toNat < 128 := by omega
  have hm : ¬ a.toNat / 32 = 6 := by omega
  have hk : ¬ a.toNat / 16 = 14 := by omega
  simp only [Utf8.decode, Nat.zero_add, e0, e1, e2, e3, es, h2, h3, h6, h1]
  rw [if_neg hn]
  simp at h5
  simp [hm, hk, h4, h5]

theorem oneRune_enc {r : Nat} (hr : scal r = true) : OneRune (enc r) := by
  have hle : r ≤ 1114111 := by simp [scal] at hr; exact hr.1
  have hsc : r < 55296 ∨ 57343 < r := by simp [scal] at hr; exact hr.2
  have hl := enc_len r
  by_cases h1 : r < 128
  · have e : enc r = [UInt8.ofNat r] := by rw [enc, encN_one h1]; rfl
    refine ⟨by omega, by omega, fun _ => by rw [e]; rfl, fun h => ?_⟩
    rw [e] at h
    have : (UInt8.ofNat r).toNat = r := ofNat_toNat (by omega)
    simp only [List.getD_cons_zero, this] at h
    omega
  by_cases h2 : r < 2048
  · have e : enc r = [UInt8.ofNat (192 + r / 64), UInt8.ofNat (128 + r % 64)] := by rw [enc, encN_two h1 h2]; rfl
    have q0 : (UInt8.ofNat (192 + r / 64)).toNat = 192 + r / 64 := ofNat_toNat (by omega)
    have q1 : (UInt8.ofNat (128 + r % 64)).toNat = 128 + r % 64 := ofNat_toNat (by omega)
    refine ⟨by omega, by omega, fun h => ?_, fun _ => ?_⟩
    · rw [e] at h
      simp only [List.getD_cons_zero, q0] at h
      omega
    · rw [e]
      exact decode_two _ _ (by rw [q0]; omega) (by rw [q1]; omega) (by rw [q0, q1]; omega)
  by_cases h3 : r < 65536
  · have e : enc r = [UInt8.ofNat (224 + r / 4096), UInt8.ofNat (128 + r / 64 % 64), UInt8.ofNat (128 + r % 64)] := by rw [enc, encN_three h2 h3]; rfl
    have q0 : (UInt8.ofNat (224 + r / 4096)).toNat = 224 + r / 4096 := ofNat_toNat (by omega)
    have q1 : (UInt8.ofNat (128 + r / 64 % 64)).toNat = 128 + r / 64 % 64 := ofNat_toNat (by omega)
    have q2 : (UInt8.ofNat (128 + r % 64)).toNat = 128 + r % 64 := ofNat_toNat (by omega)
    refine ⟨by omega, by omega, fun h => ?_, fun _ => ?_⟩
    · rw [e] at h
      simp only [List.getD_cons_zero, q0] at h
      omega
    · rw [e]
      have hv : (224 + r / 4096) % 16 * 4096 + (128 + r / 64 % 64) % 64 * 64 + (128 + r % 64) % 64 = r := by omega
      exact decode_three _ _ _ (by rw [q0]; omega) (by rw [q1]; omega) (by rw [q2]; omega) (by rw [q0, q1, q2, hv]; omega) (by rw [q0, q1, q2, hv]; exact valid_of hle hsc)
  · have e : enc r = [UInt8.ofNat (240 + r / 262144), UInt8.ofNat (128 + r / 4096 % 64), UInt8.ofNat (128 + r / 64 % 64), UInt8.ofNat (128 + r % 64)] := by rw [enc, encN_four h3]; rfl
    have q0 : (UInt8.ofNat (240 + r / 262144)).toNat = 240 + r / 262144 := ofNat_toNat (by omega)
    have q1 : (UInt8.ofNat (128 + r / 4096 % 64)).toNat = 128 + r / 4096 % 64 := ofNat_toNat (by omega)
    have q2 : (UInt8.ofNat (128 + r / 64 % 64)).toNat = 128 + r / 64 % 64 := ofNat_toNat (by omega)
    have q3 : (UInt8.ofNat (128 + r % 64)).toNat = 128 + r % 64 := ofNat_toNat (by omega)
    refine ⟨by omega, by omega, fun h => ?_, fun _ => ?_⟩
    · rw [e] at h
      simp only [List.getD_cons_zero, q0] at h
      omega
    · rw [e]
      have hv : (240 + r / 262144) % 8 * 262144 + (128 + r / 4096 % 64) % 64 * 4096 + (128 + r / 64 % 64) % 64 * 64 + (128 + r % 64) % 64 = r := by omega
      exact decode_four _ _ _ _ (by rw [q0]; omega) (by rw [q1]; omega) (by rw [q2]; omega) (by rw [q3]; omega) (by rw [q0, q1, q2, q3, hv]; omega) (by rw [q0, q1, q2, q3, hv]; exact valid_of hle hsc)
end Go.Proofs.YoefswDoor
