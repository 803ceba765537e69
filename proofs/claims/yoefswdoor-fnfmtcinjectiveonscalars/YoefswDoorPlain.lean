/-
  The plain mathematics: what fmtSx and fmtBx write, what the hex model says, what padding is. No Go here.
-/
namespace Go.Proofs.YoefswDoor

/-- The leading 0x or 0X, the x taken out of the digits. -/
def lead (dg : List UInt8) : List UInt8 := [48, dg.getD 16 0]
def leadIf (dg : List UInt8) (sh : Bool) : List UInt8 := cond sh (lead dg) []
/-- What goes ahead of element k. -/
def sepIf (dg : List UInt8) (sh sp : Bool) (k : Nat) : List UInt8 := cond (sp && decide (0 < k)) (32 :: leadIf dg sh) []
def pair (dg : List UInt8) (c : UInt8) : List UInt8 := [dg.getD (c.toNat / 16) 0, dg.getD (c.toNat % 16) 0]
/-- What fmtSbx has written behind k rounds. -/
def sbxTo (dg : List UInt8) (sh sp : Bool) (data : List UInt8) : Nat → List UInt8
  | 0 => leadIf dg sh
  | k + 1 => sbxTo dg sh sp data k ++ (sepIf dg sh sp k ++ pair dg (data.getD k 0))
/-- The width that fmtSbx reckons. -/
def sbxW (sh sp : Bool) (N : Nat) : Nat := cond sp (cond sh (5 * N - 1) (3 * N - 1)) (cond sh (2 * N + 2) (2 * N))

theorem length_leadIf (dg : List UInt8) (sh : Bool) : (leadIf dg sh).length = cond sh 2 0 := by cases sh <;> rfl
theorem length_sepIf (dg : List UInt8) (sh sp : Bool) (k : Nat) : (sepIf dg sh sp k).length = cond (sp && decide (0 < k)) (cond sh 3 1) 0 := by
  unfold sepIf
  cases (sp && decide (0 < k)) <;> cases sh <;> rfl

theorem length_sbxTo (dg : List UInt8) (sh sp : Bool) (data : List UInt8) (k : Nat) : (sbxTo dg sh sp data k).length = (cond sh 2 0) + 2 * k + cond sp ((k - 1) * cond sh 3 1) 0 := by
  induction k with
  | zero => cases sh <;> cases sp <;> simp [sbxTo, length_leadIf]
  | succ k ih =>
    simp only [sbxTo, List.length_append, ih, length_sepIf, pair, List.length_cons, List.length_nil]
    cases sp <;> cases sh <;> cases k <;> simp <;> omega

theorem length_sbx (dg : List UInt8) (sh sp : Bool) (data : List UInt8) (N : Nat) (h : 0 < N) : (sbxTo dg sh sp data N).length = sbxW sh sp N := by
  rw [length_sbxTo]
  cases sp <;> cases sh <;> simp [sbxW] <;> omega

theorem length_sbxTo_le (dg : List UInt8) (sh sp : Bool) (data : List UInt8) (k : Nat) : (sbxTo dg sh sp data k).length ≤ 5 * k + 2 := by
  rw [length_sbxTo]
  cases sp <;> cases sh <;> simp <;> omega

/-- The data count only as far as they are read. -/
theorem sbxTo_congr (dg : List UInt8) (sh sp : Bool) (a b : List UInt8) (k : Nat) (h : ∀ j, j < k → a.getD j 0 = b.getD j 0) : sbxTo dg sh sp a k = sbxTo dg sh sp b k := by
  induction k with
  | zero => rfl
  | succ k ih => rw [sbxTo, sbxTo, ih fun j hj => h j (by omega), h k (by omega)]

def padB (ze : Bool) : UInt8 := cond ze 48 32
/-- Padding to the width: on the right where minus stands, else on the left. -/
def padded (wp mi ze : Bool) (wid : Nat) (body : List UInt8) : List UInt8 := padTo (cond wp (wid - body.length) 0) mi ze body
where padTo (k : Nat) (mi ze : Bool) (body : List UInt8) : List UInt8 := cond mi (body ++ List.replicate k (padB ze)) (List.replicate k (padB ze) ++ body)

/-- The first N bytes, in hex; nothing at all for no bytes. -/
def hexBody (dg : List UInt8) (sh sp : Bool) (data : List UInt8) (N : Nat) : List UInt8 := cond (N == 0) [] (sbxTo dg sh sp data N)
def effN (pp : Bool) (prec len : Nat) : Nat := cond (pp && decide (prec < len)) prec len
def fmtHex (dg : List UInt8) (wid : Nat) (wp mi sh sp ze : Bool) (data : List UInt8) (N : Nat) : List UInt8 := padded wp mi ze wid (hexBody dg sh sp data N)

theorem hexBody_congr (dg : List UInt8) (sh sp : Bool) (a b : List UInt8) (k : Nat) (h : ∀ j, j < k → a.getD j 0 = b.getD j 0) : hexBody dg sh sp a k = hexBody dg sh sp b k := by
  unfold hexBody
  rw [sbxTo_congr dg sh sp a b k h]

theorem hexBody_le (dg : List UInt8) (sh sp : Bool) (data : List UInt8) (k : Nat) : (hexBody dg sh sp data k).length ≤ 5 * k + 2 := by
  unfold hexBody
  have := length_sbxTo_le dg sh sp data k
  cases (k == 0) <;> simp <;> omega

/-- What fmtSbx does, step by step: left padding, the text, right padding. -/
theorem fmtHex_eq (dg : List UInt8) (wid W : Nat) (wp mi sh sp ze : Bool) (data : List UInt8) (N : Nat) (hN : ¬ N = 0) (hW : W = sbxW sh sp N) :
    (List.replicate (cond (wp && decide (W < wid) && !mi) (wid - W) 0) (padB ze) ++ sbxTo dg sh sp data N) ++ List.replicate (cond (wp && decide (W < wid) && mi) (wid - W) 0) (padB ze) = fmtHex dg wid wp mi sh sp ze data N := by
  have hb : hexBody dg sh sp data N = sbxTo dg sh sp data N := by
    have : (N == 0) = false := by simp [hN]
    simp [hexBody, this]
  have hl : (sbxTo dg sh sp data N).length = W := by rw [hW]; exact length_sbx dg sh sp data N (by omega)
  have h0 : ¬ W < wid → wid - W = 0 := by omega
  unfold fmtHex padded
  rw [hb, hl]
  cases wp <;> cases mi <;> by_cases h : W < wid <;> simp [padded.padTo, h, h0]

theorem fmtHex_zero (dg : List UInt8) (wid : Nat) (wp mi sh sp ze : Bool) (data : List UInt8) : fmtHex dg wid wp mi sh sp ze data 0 = List.replicate (cond wp wid 0) (padB ze) := by
  cases wp <;> cases mi <;> simp [fmtHex, padded, padded.padTo, hexBody]

theorem effN_le (pp : Bool) (prec len : Nat) : effN pp prec len ≤ len := by
  unfold effN
  cases pp <;> simp
  cases h : decide (prec < len) <;> simp at h ⊢
  omega
end Go.Proofs.YoefswDoor
