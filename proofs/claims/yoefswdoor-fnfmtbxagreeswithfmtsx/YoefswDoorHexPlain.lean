/-
  The hex model by itself: what zzHexModel gathers, and that it is what fmtSbx writes. No Go here.
-/
import Derived.Test.YoefswDoorPlain
namespace Go.Proofs.YoefswDoor

/-- What zzHexModel has gathered behind k of n rounds. -/
def mdTo (dg : List UInt8) (sh sp : Bool) (n : Nat) (data : List UInt8) : Nat → List UInt8
  | 0 => cond (sh && !sp && decide (0 < n)) (lead dg) []
  | k + 1 => mdTo dg sh sp n data k ++ (cond (sp && decide (0 < k)) [32] [] ++ (cond (sp && sh) (lead dg) [] ++ pair dg (data.getD k 0)))

theorem mdTo_eq (dg : List UInt8) (sh sp : Bool) (n : Nat) (data : List UInt8) (hn : 0 < n) (k : Nat) : mdTo dg sh sp n data (k + 1) = sbxTo dg sh sp data (k + 1) := by
  induction k with
  | zero => cases sh <;> cases sp <;> simp [mdTo, sbxTo, leadIf, sepIf, hn]
  | succ k ih =>
    have e : ∀ m, sbxTo dg sh sp data (m + 1) = sbxTo dg sh sp data m ++ (sepIf dg sh sp m ++ pair dg (data.getD m 0)) := fun _ => rfl
    rw [mdTo, ih, e (k + 1)]
    congr 1
    cases sh <;> cases sp <;> simp [leadIf, sepIf]

theorem mdTo_all (dg : List UInt8) (sh sp : Bool) (n : Nat) (data : List UInt8) : mdTo dg sh sp n data n = hexBody dg sh sp data n := by
  cases n with
  | zero => cases sh <;> cases sp <;> rfl
  | succ n => exact mdTo_eq dg sh sp (n + 1) data (by omega) n

theorem length_mdTo_le (dg : List UInt8) (sh sp : Bool) (n : Nat) (data : List UInt8) (k : Nat) : (mdTo dg sh sp n data k).length ≤ 5 * k + 2 := by
  induction k with
  | zero => cases sh <;> cases sp <;> cases n <;> simp [mdTo, lead]
  | succ k ih =>
    simp only [mdTo, List.length_append, pair, List.length_cons, List.length_nil]
    have h1 : (cond (sp && decide (0 < k)) [(32 : UInt8)] []).length ≤ 1 := by cases (sp && decide (0 < k)) <;> simp
    have h2 : (cond (sp && sh) (lead dg) []).length ≤ 2 := by cases (sp && sh) <;> simp [lead]
    omega
end Go.Proofs.YoefswDoor
