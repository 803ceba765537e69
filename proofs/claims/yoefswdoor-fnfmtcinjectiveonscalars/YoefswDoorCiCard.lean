/-
  FnFmtCInjectiveOnScalars: the row and the tied card.
-/
import Derived.Test.YoefswDoorLift
import Derived.Test.YoefswDoorCWalk
import Derived.Test.YoefswDoorTie
import Derived.Test.YoefswDoorCards
import Derived.SevenTiedAt
namespace Go.Proofs.YoefswDoor
open Go.ChangeShapes Go.WideShapes Go.ChangeAt Go.WideMaps Go.WideElems Go.RowKit
open Go.ChangeMaps (open_string shut_string)
namespace FnFmtCInjectiveOnScalarsProof

set_option maxRecDepth 100000 in
theorem lifted (os : Os) (started : os.Started) (H : Type) (enc : TypeId × Value → H) :
    ReturnsInHanded {} Efsg.checked os 10 .any (fun w args => (Rows.fnFmtCInjectiveOnScalarsSpec.pre enc Efsg.prog Efsg.f10 [] false w args ∧ laidMetH Efsg.prog laid2 w) ∧ sizedMet enc Efsg.prog Efsg.f10 (OpenSpec.ofChange Rows.fnFmtCInjectiveOnScalarsSpec) false w args)
      (Rows.fnFmtCInjectiveOnScalarsSpec.post enc Efsg.prog Efsg.f10 false true false false) := by
  refine returnsInHanded_of_change_and (C := Efsg.checked) (X := fun w _ => laidMetH Efsg.prog laid2 w) (fun _ _ _ hh h => h.of_heap hh) own started (by kernel_rfl) Efsg.func10
    (ChangeSpec.witness_shaped (enc := enc) (C := Efsg.checked) (os := os) (X := fun w _ => laidMetH Efsg.prog laid2 w) false (World.doorLaid Efsg.prog 42 os) #[.int .u64 0, .int .u64 0] 8 rfl (World.shaped_of_RefB (by kernel_rfl) (by kernel_rfl)) (by kernel_rfl) (by kernel_rfl) (by kernel_rfl) (door_met os _)) ?_
  intro W base args ds gs before hval0 hW _ _ hL _
  have hval : ∀ (j : Nat) t v, Efsg.f10.params[j]? = some t → args[j]? = some v → Value.okWide Efsg.prog W .any base t v := hval0
  have hW' := hW
  obtain ⟨p, q, hA0, hV0, rfl, hfz, hnd⟩ := hW
  have hA : DataW.TrodAll enc Efsg.prog W 0 (fun _ => true) true Efsg.f10.params.toList args.toList ds p := hA0
  have hV : DataW.TrodVars enc Efsg.prog W (fun _ => true) [nMax, nErr] gs q := hV0
  rw [Efsg.params10] at hA hval
  obtain ⟨v0, vs0, d0, ds0, p0, q0, hargs, rfl, rfl, h0, r0⟩ := trodAll_cons hA
  obtain ⟨v1, vs1, d1, ds1, p1, q1, rfl, rfl, rfl, h1, r1⟩ := trodAll_cons r0
  obtain ⟨rfl, rfl, rfl⟩ := trodAll_nil r1
  obtain rfl : args = #[v0, v1] := by cases args; simp_all
  obtain ⟨g1, g2, rfl⟩ : ∃ g1 g2, gs = [g1, g2] := by obtain ⟨_, _, _, _, d0, _, _, _, _, _, d1, _, e, _⟩ := trodVars_two hV; exact ⟨d0, d1, e⟩
  obtain ⟨a0, rfl, rfl, rfl, w0⟩ := open_int Efsg.underlying37 (hval 0 37 v0 rfl rfl) h0
  obtain ⟨a1, rfl, rfl, rfl, w1⟩ := open_int Efsg.underlying37 (hval 1 37 v1 rfl rfl) h1
  have hM := max_of_laid hL
  clear hA0 hV0 hval0
  have fin : ∀ (e : Ending) (W' : World), (e = .returned (.bool true) ∧ Below W.heap.size W W') → ∃ v, e = .returned v ∧ Rows.fnFmtCInjectiveOnScalarsSpec.post enc Efsg.prog Efsg.f10 false true false false W #[.int .u64 a0, .int .u64 a1] v W' := by
    rintro e W' ⟨rfl, hbel⟩
    refine ⟨_, rfl, _, _, _, [], [], q, hW', ?_, ?_, ?_, hbel.frame _, fun h => by cases h⟩
    · exact trodAll_cons_mk (shut_bool Efsg.underlying4 _) trodAll_mk0
    · exact (trodAll_cons_mk (shut_int Efsg.underlying37 w0) (trodAll_cons_mk (shut_int Efsg.underlying37 w1) trodAll_mk0))
    · exact Below.trodVars laidOut hbel rowed hV
  obtain ⟨n0, rfl⟩ := Int.eq_ofNat_of_zero_le (bounds_u64 w0).1
  obtain ⟨n1, rfl⟩ := Int.eq_ofNat_of_zero_le (bounds_u64 w1).1
  exact (ci_any n0 n1 W hM).mono fin

theorem row_holds : Rows.FnFmtCInjectiveOnScalarsSaid :=
  OpenClaim.holds_of_wide 10 Efsg.f10 rfl rfl rfl rfl rfl rfl rfl ⟨rfl, rfl, rfl, rfl, rfl⟩ rfl rfl rfl rfl rfl (by kernel_rfl) Efsg.func10 (by kernel_rfl)
    (of_decide_eq_true (by kernel_rfl)) (by unfold Func.isWrapper; rw [if_neg (by decide +kernel)]; exact ⟨rfl, rfl⟩)
    (fun os started H enc _ => lifted os started H enc)

/-- THE TIED CARD. -/
theorem card_holds : Rows.FnFmtCInjectiveOnScalarsCardSaid :=
  Claim7.holds_tied_plain_at .later [] [.called, .data] true (true, "ae7ba54e47974b603e3e7543807faaceec2fb17de876f8734a255a13861ee89e") false
    row_holds (fun _ h => by cases h) (by kernel_rfl) (fun _ h => by cases h) fnFmtCInjectiveOnScalars_row_tie rfl ⟨rfl, rfl⟩ (by kernel_rfl) rfl
    (fun f fn hf hfn => by
      obtain rfl : f = 10 := Option.some.inj ((show Efsg.prog.funcNamed Rows.fnFmtCInjectiveOnScalarsRow.func = some 10 by kernel_rfl).symm.trans hf) |>.symm
      obtain rfl : fn = Efsg.f10 := (Option.some.inj (Efsg.func10.symm.trans hfn)).symm
      exact ⟨by kernel_rfl, fun j t ht => by
        rw [Efsg.params10] at ht
        have hm : t ∈ [37, 37] := by simpa using Array.mem_of_getElem? ht
        have hall : ([37, 37].all fun u => !Efsg.prog.wantsStandIn u) = true := by kernel_rfl
        exact (show Efsg.prog.wantsStandIn t = false by simpa using List.all_eq_true.1 hall t hm)⟩)
    (by kernel_rfl)
end FnFmtCInjectiveOnScalarsProof

theorem fnFmtCInjectiveOnScalars_card : Rows.FnFmtCInjectiveOnScalarsCardSaid := FnFmtCInjectiveOnScalarsProof.card_holds
end Go.Proofs.YoefswDoor
