/-
  The UTF-8 encoding, plainly: its bytes, its length, that no two code points share one. No Go here.
-/
namespace Go.Proofs.YoefswDoor

/-- The bytes, as numbers. -/
def encN (r : Nat) : List Nat :=
  if r < 128 then [r] else if r < 2048 then [192 + r / 64, 128 + r % 64] else if r < 65536 then [224 + r / 4096, 128 + r / 64 % 64, 128 + r % 64]
  else [240 + r / 262144, 128 + r / 4096 % 64, 128 + r / 64 % 64, 128 + r % 64]
def enc (r : Nat) : List UInt8 := (encN r).map UInt8.ofNat
/-- Is it a scalar value? -/
def scal (c : Nat) : Bool := decide (c ≤ 1114111) && (decide (c < 55296) || decide (57343 < c))
/-- What is no scalar value goes out as U+FFFD. -/
def mend (c : Nat) : Nat := cond (scal c) c 65533

theorem mend_le (c : Nat) : mend c ≤ 1114111 := by
  unfold mend
  cases h : scal c
  · show 65533 ≤ 1114111
    decide
  · simp [scal] at h
    exact h.1
theorem scal_mend (c : Nat) : scal (mend c) = true := by
  unfold mend
  cases h : scal c
  · show scal 65533 = true
    decide
  · exact h
theorem mend_scal {c : Nat} (h : scal c = true) : mend c = c := by simp [mend, h]
theorem mend_not {c : Nat} (h : scal c = false) : mend c = 65533 := by simp [mend, h]

theorem encN_one {r : Nat} (h : r < 128) : encN r = [r] := by simp [encN, h]
theorem encN_two {r : Nat} (h0 : ¬ r < 128) (h : r < 2048) : encN r = [192 + r / 64, 128 + r % 64] := by simp [encN, h, h0]
theorem encN_three {r : Nat} (h0 : ¬ r < 2048) (h : r < 65536) : encN r = [224 + r / 4096, 128 + r / 64 % 64, 128 + r % 64] := by
  have : ¬ r < 128 := by omega
  simp [encN, h, h0, this]
theorem encN_four {r : Nat} (h0 : ¬ r < 65536) : encN r = [240 + r / 262144, 128 + r / 4096 % 64, 128 + r / 64 % 64, 128 + r % 64] := by
  have h1 : ¬ r < 128 := by omega
  have h2 : ¬ r < 2048 := by omega
  simp [encN, h0, h1, h2]

theorem encN_byte {r : Nat} (hr : r ≤ 1114111) : ∀ x ∈ encN r, x < 256 := by
  by_cases h1 : r < 128
  · rw [encN_one h1]; simp; omega
  by_cases h2 : r < 2048
  · rw [encN_two h1 h2]; simp; omega
  by_cases h3 : r < 65536
  · rw [encN_three h2 h3]; simp; omega
  · rw [encN_four h3]; simp; omega

theorem enc_len (r : Nat) : 1 ≤ (enc r).length ∧ (enc r).length ≤ 4 := by
  unfold enc
  rw [List.length_map]
  by_cases h1 : r < 128
  · rw [encN_one h1]; simp
  by_cases h2 : r < 2048
  · rw [encN_two h1 h2]; simp
  by_cases h3 : r < 65536
  · rw [encN_three h2 h3]; simp
  · rw [encN_four h3]; simp

theorem ofNat_inj {x y : Nat} (hx : x < 256) (hy : y < 256) (h : UInt8.ofNat x = UInt8.ofNat y) : x = y := by
  have := congrArg UInt8.toNat h
  simpa [Nat.mod_eq_of_lt hx, Nat.mod_eq_of_lt hy] using this

theorem map_inj : ∀ (a b : List Nat), (∀ x ∈ a, x < 256) → (∀ x ∈ b, x < 256) → a.map UInt8.ofNat = b.map UInt8.ofNat → a = b
  | [], [], _, _, _ => rfl
  | [], _ :: _, _, _, h => by simp at h
  | _ :: _, [], _, _, h => by simp at h
  | x :: a, y :: b, ha, hb, h => by
    simp only [List.map_cons, List.cons.injEq] at h
    have e1 := ofNat_inj (ha x (by simp)) (hb y (by simp)) h.1
    have e2 := map_inj a b (fun z hz => ha z (by simp [hz])) (fun z hz => hb z (by simp [hz])) h.2
    rw [e1, e2]

theorem encN_inj {a b : Nat} (ha : a ≤ 1114111) (hb : b ≤ 1114111) (h : encN a = encN b) : a = b := by
  by_cases a1 : a < 128
  · rw [encN_one a1] at h
    by_cases b1 : b < 128
    · rw [encN_one b1] at h; simpa using h
    by_cases b2 : b < 2048
    · rw [encN_two b1 b2] at h; simp at h
    by_cases b3 : b < 65536
    · rw [encN_three b2 b3] at h; simp at h
    · rw [encN_four b3] at h; simp at h
  by_cases a2 : a < 2048
  · rw [encN_two a1 a2] at h
    by_cases b1 : b < 128
    · rw [encN_one b1] at h; simp at h
    by_cases b2 : b < 2048
    · rw [encN_two b1 b2] at h; simp at h; omega
    by_cases b3 : b < 65536
    · rw [encN_three b2 b3] at h; simp at h
    · rw [encN_four b3] at h; simp at h
  by_cases a3 : a < 65536
  · rw [encN_three a2 a3] at h
    by_cases b1 : b < 128
    · rw [encN_one b1] at h; simp at h
    by_cases b2 : b < 2048
    · rw [encN_two b1 b2] at h; simp at h
    by_cases b3 : b < 65536
    · rw [encN_three b2 b3] at h; simp at h; omega
    · rw [encN_four b3] at h; simp at h
  · rw [encN_four a3] at h
    by_cases b1 : b < 128
    · rw [encN_one b1] at h; simp at h
    by_cases b2 : b < 2048
    · rw [encN_two b1 b2] at h; simp at h
    by_cases b3 : b < 65536
    · rw [encN_three b2 b3] at h; simp at h
    · rw [encN_four b3] at h; simp at h; omega

theorem enc_inj {a b : Nat} (ha : a ≤ 1114111) (hb : b ≤ 1114111) (h : enc a = enc b) : a = b :=
  encN_inj ha hb (map_inj _ _ (encN_byte ha) (encN_byte hb) h)
end Go.Proofs.YoefswDoor
