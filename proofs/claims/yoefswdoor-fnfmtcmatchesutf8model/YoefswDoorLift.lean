/-
  What all rows of this seat share: the listed variables, the witness's heap, the named variables read again.
-/
import Derived.Test.YoefswDoorRows
import Derived.WalkKit
import Derived.ProofKit
import Derived.LaidMore
import Derived.OpenShut
import Derived.OpenVars
import Derived.Stop.Joined
namespace Go.Proofs.YoefswDoor
open Go.ChangeShapes Go.WideShapes Go.ChangeAt Go.WideMaps Go.WideElems Go.RowKit

theorem own : ownKnob Efsg.prog.godebug = none := by kernel_rfl
theorem laidOut : laidOutB Efsg.prog = true := by kernel_rfl
/-- The two named variables' names, off the given specification. -/
abbrev nMax : String := Rows.fnFmtSxPrecisionIsACutSpec.vars.getD 0 ""
abbrev nErr : String := Rows.fnFmtSxPrecisionIsACutSpec.vars.getD 1 ""
theorem gMax : Efsg.prog.globalNamed nMax = some 0 := by kernel_rfl
theorem tMax : (Efsg.prog.globals[0]?).map (·.type) = some 3 := by kernel_rfl
theorem rowed : varsRowed Efsg.prog [nMax, nErr] = true := by kernel_rfl

/-- What every row of the six lists. -/
abbrev laid2 : List (String × DataW Unit) := [(nErr, Rows.laid_github_com_d5_tengo_v2_ErrStringLimit), (nMax, Rows.laid_github_com_d5_tengo_v2_MaxStringLen)]

/-- The door's own heap meets the condition. -/
theorem door_met (os : Os) (args : Array Value) : laidMetH Efsg.prog laid2 ((World.doorLaid Efsg.prog 42 os).forCall (fun _ _ => 0) ⟨#[], args, []⟩).memory :=
  laidMetH_of_parts3 (fuel := 8) (laidMet_of_run' 8 (by kernel_rfl) (by kernel_rfl)) (by kernel_rfl) (by kernel_rfl)

/-- The condition gives the walks MaxStringLen's cell. -/
theorem max_of_laid {W : World} (h : laidMetH Efsg.prog laid2 W) : W.cell? ⟨0, 0, none⟩ = some (.int .i64 2147483647) := by
  rw [MakeChecks.laidMetH_plain _ _ _ (by kernel_rfl)] at h
  obtain ⟨ps, ⟨g0, t0, cs0, f0, p0, q0, hg0, ht0, hv0, hd0, ⟨g1, t1, cs1, f1, p1, q1, hg1, ht1, hv1, hd1, _, _⟩, _⟩, _, _⟩ := h
  obtain rfl := Option.some.inj (gMax.symm.trans hg1)
  obtain rfl := Option.some.inj (tMax.symm.trans ht1)
  obtain ⟨k, e1, e2, _⟩ := DataW.trod_int Efsg.underlying3 hd1
  have hk : k = 2147483647 := by
    simp only [Rows.laid_github_com_d5_tengo_v2_MaxStringLen, Prod.mk.injEq, DataW.lit.injEq, Lit.int.injEq, true_and] at e2
    exact e2.1.symm
  subst hk
  have := World.var?_cell hg1 hv1 0
  rw [Array.eq_one_of_toList e1] at this
  simpa using this
end Go.Proofs.YoefswDoor
