/-
  zzValidScalar and zzUTF8 by contract.
-/
import Derived.Test.YoefswDoorFmtC
namespace Go.Proofs.YoefswDoor
open Go.RowKit

set_option maxRecDepth 100000 in
set_option maxHeartbeats 400000 in
theorem valid_any (c : Nat) (w : World) : Calls Efsg.prog 28 #[.int .u64 c] w fun e w' => e = .returned (.bool (scal c)) ∧ w = w' := by
  by_cases h1 : (c : Int) ≤ 1114111
  · by_cases h2 : (c : Int) < 55296
    · have e : scal c = true := by simp [scal]; omega
      rw [e]
      clear e
      go_enter Efsg.func28, Efsg.ntmps28
      go_wp2
      go_ret
      exact ⟨by simp, rfl⟩
    · by_cases h3 : (57343 : Int) < c
      · have e : scal c = true := by simp [scal]; omega
        rw [e]
        clear e
        go_enter Efsg.func28, Efsg.ntmps28
        go_wp2
        go_ret
        exact ⟨by simp, rfl⟩
      · have e : scal c = false := by simp [scal]; omega
        rw [e]
        clear e
        go_enter Efsg.func28, Efsg.ntmps28
        go_wp2
        go_ret
        exact ⟨by simp, rfl⟩
  · have e : scal c = false := by simp [scal]; omega
    rw [e]
    clear e
    go_enter Efsg.func28, Efsg.ntmps28
    go_wp2
    go_ret
    exact ⟨by simp, rfl⟩

/-! ### The bits -/
theorem lor_add {a b i : Nat} (h : b < 2 ^ i) : 2 ^ i * a ||| b = 2 ^ i * a + b := (Nat.two_pow_add_eq_or_of_lt h a).symm

theorem or192 (x : Int) (h0 : 0 ≤ x) (h1 : x < 64) : bits .or .u64 192 x % 256 = 192 + x := by
  rw [u64_or 192 x (by omega) (by omega) h0 (by omega)]
  have : (192 : Int).toNat ||| x.toNat = 192 + x.toNat := lor_add (a := 3) (i := 6) (by omega)
  rw [this]
  omega
theorem or224 (x : Int) (h0 : 0 ≤ x) (h1 : x < 16) : bits .or .u64 224 x % 256 = 224 + x := by
  rw [u64_or 224 x (by omega) (by omega) h0 (by omega)]
  have : (224 : Int).toNat ||| x.toNat = 224 + x.toNat := lor_add (a := 7) (i := 5) (by omega)
  rw [this]
  omega
theorem or240 (x : Int) (h0 : 0 ≤ x) (h1 : x < 8) : bits .or .u64 240 x % 256 = 240 + x := by
  rw [u64_or 240 x (by omega) (by omega) h0 (by omega)]
  have : (240 : Int).toNat ||| x.toNat = 240 + x.toNat := lor_add (a := 15) (i := 4) (by omega)
  rw [this]
  omega
theorem and63 (x : Int) (h0 : 0 ≤ x) (h1 : x < 18446744073709551616) : bits .and .u64 x 63 = x % 64 := by
  rw [u64_and x 63 h0 h1 (by omega) (by omega)]
  have : x.toNat &&& (63 : Int).toNat = x.toNat % 64 := Nat.and_two_pow_sub_one_eq_mod x.toNat 6
  rw [this]
  omega
theorem or128 (x : Int) (h0 : 0 ≤ x) (h1 : x < 18446744073709551616) : bits .or .u64 128 (bits .and .u64 x 63) % 256 = 128 + x % 64 := by
  rw [and63 x h0 h1, u64_or 128 (x % 64) (by omega) (by omega) (by omega) (by omega)]
  have : (128 : Int).toNat ||| (x % 64).toNat = 128 + (x % 64).toNat := lor_add (a := 1) (i := 7) (by omega)
  rw [this]
  omega

theorem owns_lit {w : World} {cs : List Value} {bs : List UInt8} {n : Nat} (h : cs = bv bs) (hn : n = bs.length) (hl : bs.length ≤ 4) : Owns (w.alloc (.cells cs.toArray 5)) w.heap.size (.slice (some ⟨w.heap.size, 0, none⟩) n n) bs := by
  subst h; subst hn
  have := World.ownsRow_lit (base := w.heap.size) (e := 5) (size := 1) w (bv bs).toArray bs.length (Nat.le_refl _) (by unfold maxLen; omega) (by simp [bv])
  exact this

theorem valid_at (x : Int) (b : Bool) (w : World) (h0 : 0 ≤ x) (hb : Hid (scal x.toNat = b)) : Calls Efsg.prog 28 #[.int .u64 x] w fun e w' => e = .returned (.bool b) ∧ w = w' := by
  obtain ⟨n, rfl⟩ := Int.eq_ofNat_of_zero_le h0
  have hb2 : scal n = b := hb.out
  rw [← hb2]
  exact valid_any n w

set_option maxRecDepth 100000 in
set_option maxHeartbeats 400000 in
theorem utf_one (x : Int) (L : List UInt8) (w : World) (hx : 0 ≤ x) (hs : Hid (scal x.toNat = true)) (h1 : x < 128) (hL : Hid (bv L = [.int .u8 x])) (hl : L.length = 1) :
    Calls Efsg.prog 27 #[.int .u64 x] w fun e w' => ∃ v, e = .returned v ∧ Owns w' w.heap.size v L ∧ Below w.heap.size w w' := by
  go_enter Efsg.func27, Efsg.ntmps27
  go_wp2_with (go_at_call 28; refine (valid_at x true w hx hs).mono ?_; rintro e w' ⟨rfl, rfl⟩)
  go_ret
  exact ⟨_, rfl, owns_lit hL.out.symm hl.symm (by omega), (Below.refl _ _).alloc (Nat.le_refl _) _⟩

set_option maxRecDepth 100000 in
set_option maxHeartbeats 400000 in
theorem utf_two (x : Int) (L : List UInt8) (w : World) (hx : 0 ≤ x) (hs : Hid (scal x.toNat = true)) (h0 : 128 ≤ x) (h1 : x < 2048) (hL : Hid (bv L = [.int .u8 (192 + x / 64), .int .u8 (128 + x % 64)])) (hl : L.length = 2) :
    Calls Efsg.prog 27 #[.int .u64 x] w fun e w' => ∃ v, e = .returned v ∧ Owns w' w.heap.size v L ∧ Below w.heap.size w w' := by
  have q0 := or192 (x / 64) (by omega) (by omega)
  have q1 := or128 x (by omega) (by omega)
  go_enter Efsg.func27, Efsg.ntmps27
  go_wp2_with (go_at_call 28; refine (valid_at x true w hx hs).mono ?_; rintro e w' ⟨rfl, rfl⟩)
  go_ret
  exact ⟨_, rfl, owns_lit hL.out.symm hl.symm (by omega), (Below.refl _ _).alloc (Nat.le_refl _) _⟩

set_option maxRecDepth 100000 in
set_option maxHeartbeats 400000 in
theorem utf_three (x : Int) (L : List UInt8) (w : World) (hx : 0 ≤ x) (hs : Hid (scal x.toNat = true)) (h0 : 2048 ≤ x) (h1 : x < 65536) (hL : Hid (bv L = [.int .u8 (224 + x / 4096), .int .u8 (128 + x / 64 % 64), .int .u8 (128 + x % 64)])) (hl : L.length = 3) :
    Calls Efsg.prog 27 #[.int .u64 x] w fun e w' => ∃ v, e = .returned v ∧ Owns w' w.heap.size v L ∧ Below w.heap.size w w' := by
  have q0 := or224 (x / 4096) (by omega) (by omega)
  have q1 := or128 (x / 64) (by omega) (by omega)
  have q2 := or128 x (by omega) (by omega)
  go_enter Efsg.func27, Efsg.ntmps27
  go_wp2_with (go_at_call 28; refine (valid_at x true w hx hs).mono ?_; rintro e w' ⟨rfl, rfl⟩)
  go_ret
  exact ⟨_, rfl, owns_lit hL.out.symm hl.symm (by omega), (Below.refl _ _).alloc (Nat.le_refl _) _⟩

set_option maxRecDepth 100000 in
set_option maxHeartbeats 400000 in
theorem utf_four (x : Int) (L : List UInt8) (w : World) (hx : 0 ≤ x) (hs : Hid (scal x.toNat = true)) (h0 : 65536 ≤ x) (h1 : x ≤ 1114111) (hL : Hid (bv L = [.int .u8 (240 + x / 262144), .int .u8 (128 + x / 4096 % 64), .int .u8 (128 + x / 64 % 64), .int .u8 (128 + x % 64)])) (hl : L.length = 4) :
    Calls Efsg.prog 27 #[.int .u64 x] w fun e w' => ∃ v, e = .returned v ∧ Owns w' w.heap.size v L ∧ Below w.heap.size w w' := by
  have q0 := or240 (x / 262144) (by omega) (by omega)
  have q1 := or128 (x / 4096) (by omega) (by omega)
  have q2 := or128 (x / 64) (by omega) (by omega)
  have q3 := or128 x (by omega) (by omega)
  go_enter Efsg.func27, Efsg.ntmps27
  go_wp2_with (go_at_call 28; refine (valid_at x true w hx hs).mono ?_; rintro e w' ⟨rfl, rfl⟩)
  go_ret
  exact ⟨_, rfl, owns_lit hL.out.symm hl.symm (by omega), (Below.refl _ _).alloc (Nat.le_refl _) _⟩

set_option maxRecDepth 100000 in
set_option maxHeartbeats 400000 in
theorem utf_not (x : Int) (L : List UInt8) (w : World) (hx : 0 ≤ x) (hs : Hid (scal x.toNat = false))  (hL : Hid (bv L = [.int .u8 239, .int .u8 191, .int .u8 189])) (hl : L.length = 3) :
    Calls Efsg.prog 27 #[.int .u64 x] w fun e w' => ∃ v, e = .returned v ∧ Owns w' w.heap.size v L ∧ Below w.heap.size w w' := by
  have q0 := or224 15 (by omega) (by omega)
  have q1 := or128 1023 (by omega) (by omega)
  have q2 := or128 65533 (by omega) (by omega)
  go_enter Efsg.func27, Efsg.ntmps27
  go_wp2_with (go_at_call 28; refine (valid_at x false w hx hs).mono ?_; rintro e w' ⟨rfl, rfl⟩)
  go_ret
  exact ⟨_, rfl, owns_lit hL.out.symm hl.symm (by omega), (Below.refl _ _).alloc (Nat.le_refl _) _⟩

theorem utf_any (c : Nat) (w : World) : Calls Efsg.prog 27 #[.int .u64 c] w fun e w' => ∃ v, e = .returned v ∧ Owns w' w.heap.size v (enc (mend c)) ∧ Below w.heap.size w w' := by
  have hb := bv_enc (mend_le c)
  have he : (enc (mend c)).length = (encN (mend c)).length := by simp [enc]
  cases hs : scal c
  · rw [mend_not hs] at hb he ⊢
    rw [encN_three (by omega) (by omega)] at hb he
    exact utf_not c _ w (by omega) hs hb he
  · have hle : c ≤ 1114111 := by simp [scal] at hs; exact hs.1
    rw [mend_scal hs] at hb he ⊢
    by_cases h1 : c < 128
    · rw [encN_one h1] at hb he
      exact utf_one c _ w (by omega) hs (by omega) hb he
    by_cases h2 : c < 2048
    · rw [encN_two h1 h2] at hb he
      exact utf_two c _ w (by omega) hs (by omega) (by omega) hb he
    by_cases h3 : c < 65536
    · rw [encN_three h2 h3] at hb he
      exact utf_three c _ w (by omega) hs (by omega) (by omega) hb he
    · rw [encN_four h3] at hb he
      exact utf_four c _ w (by omega) hs (by omega) (by omega) hb he
end Go.Proofs.YoefswDoor
