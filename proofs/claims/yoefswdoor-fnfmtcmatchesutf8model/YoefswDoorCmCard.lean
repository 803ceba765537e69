/-
  FnFmtCMatchesUTF8Model: the row and the tied card.
-/
import Derived.Test.YoefswDoorLift
import Derived.Test.YoefswDoorCWalk
import Derived.Test.YoefswDoorTie
import Derived.Test.YoefswDoorCards
import Derived.SevenTiedAt
namespace Go.Proofs.YoefswDoor
open Go.ChangeShapes Go.WideShapes Go.ChangeAt Go.WideMaps Go.WideElems Go.RowKit
open Go.ChangeMaps (open_string shut_string)
namespace FnFmtCMatchesUTF8ModelProof

set_option maxRecDepth 100000 in
theorem lifted (os : Os) (started : os.Started) (H : Type) (enc : TypeId × Value → H) :
    ReturnsInHanded {} Efsg.checked os 9 .any (fun w args => (Rows.fnFmtCMatchesUTF8ModelSpec.pre enc Efsg.prog Efsg.f9 [] false w args ∧ laidMetH Efsg.prog laid2 w) ∧ sizedMet enc Efsg.prog Efsg.f9 (OpenSpec.ofChange Rows.fnFmtCMatchesUTF8ModelSpec) false w args)
      (Rows.fnFmtCMatchesUTF8ModelSpec.post enc Efsg.prog Efsg.f9 false true false false) := by
  refine returnsInHanded_of_change_and (C := Efsg.checked) (X := fun w _ => laidMetH Efsg.prog laid2 w) (fun _ _ _ hh h => h.of_heap hh) own started (by kernel_rfl) Efsg.func9
    (ChangeSpec.witness_shaped (enc := enc) (C := Efsg.checked) (os := os) (X := fun w _ => laidMetH Efsg.prog laid2 w) false (World.doorLaid Efsg.prog 42 os) #[.int .u64 0, .int .i64 0, .bool false, .bool false, .bool false] 8 rfl (World.shaped_of_RefB (by kernel_rfl) (by kernel_rfl)) (by kernel_rfl) (by kernel_rfl) (by kernel_rfl) (door_met os _)) ?_
  intro W base args ds gs before hval0 hW _ _ hL _
  have hval : ∀ (j : Nat) t v, Efsg.f9.params[j]? = some t → args[j]? = some v → Value.okWide Efsg.prog W .any base t v := hval0
  have hW' := hW
  obtain ⟨p, q, hA0, hV0, rfl, hfz, hnd⟩ := hW
  have hA : DataW.TrodAll enc Efsg.prog W 0 (fun _ => true) true Efsg.f9.params.toList args.toList ds p := hA0
  have hV : DataW.TrodVars enc Efsg.prog W (fun _ => true) [nMax, nErr] gs q := hV0
  rw [Efsg.params9] at hA hval
  obtain ⟨v0, vs0, d0, ds0, p0, q0, hargs, rfl, rfl, h0, r0⟩ := trodAll_cons hA
  obtain ⟨v1, vs1, d1, ds1, p1, q1, rfl, rfl, rfl, h1, r1⟩ := trodAll_cons r0
  obtain ⟨v2, vs2, d2, ds2, p2, q2, rfl, rfl, rfl, h2, r2⟩ := trodAll_cons r1
  obtain ⟨v3, vs3, d3, ds3, p3, q3, rfl, rfl, rfl, h3, r3⟩ := trodAll_cons r2
  obtain ⟨v4, vs4, d4, ds4, p4, q4, rfl, rfl, rfl, h4, r4⟩ := trodAll_cons r3
  obtain ⟨rfl, rfl, rfl⟩ := trodAll_nil r4
  obtain rfl : args = #[v0, v1, v2, v3, v4] := by cases args; simp_all
  obtain ⟨g1, g2, rfl⟩ : ∃ g1 g2, gs = [g1, g2] := by obtain ⟨_, _, _, _, d0, _, _, _, _, _, d1, _, e, _⟩ := trodVars_two hV; exact ⟨d0, d1, e⟩
  obtain ⟨a0, rfl, rfl, rfl, w0⟩ := open_int Efsg.underlying37 (hval 0 37 v0 rfl rfl) h0
  obtain ⟨a1, rfl, rfl, rfl, w1⟩ := open_int Efsg.underlying3 (hval 1 3 v1 rfl rfl) h1
  obtain ⟨a2, rfl, rfl, rfl⟩ := open_bool Efsg.underlying4 (hval 2 4 v2 rfl rfl) h2
  obtain ⟨a3, rfl, rfl, rfl⟩ := open_bool Efsg.underlying4 (hval 3 4 v3 rfl rfl) h3
  obtain ⟨a4, rfl, rfl, rfl⟩ := open_bool Efsg.underlying4 (hval 4 4 v4 rfl rfl) h4
  have hM := max_of_laid hL
  clear hA0 hV0 hval0
  have fin : ∀ (e : Ending) (W' : World), (e = .returned (.bool true) ∧ Below W.heap.size W W') → ∃ v, e = .returned v ∧ Rows.fnFmtCMatchesUTF8ModelSpec.post enc Efsg.prog Efsg.f9 false true false false W #[.int .u64 a0, .int .i64 a1, .bool a2, .bool a3, .bool a4] v W' := by
    rintro e W' ⟨rfl, hbel⟩
    refine ⟨_, rfl, _, _, _, [], [], q, hW', ?_, ?_, ?_, hbel.frame _, fun h => by cases h⟩
    · exact trodAll_cons_mk (shut_bool Efsg.underlying4 _) trodAll_mk0
    · exact (trodAll_cons_mk (shut_int Efsg.underlying37 w0) (trodAll_cons_mk (shut_int Efsg.underlying3 w1) (trodAll_cons_mk (shut_bool Efsg.underlying4 _) (trodAll_cons_mk (shut_bool Efsg.underlying4 _) (trodAll_cons_mk (shut_bool Efsg.underlying4 _) trodAll_mk0)))))
    · exact Below.trodVars laidOut hbel rowed hV
  obtain ⟨n0, rfl⟩ := Int.eq_ofNat_of_zero_le (bounds_u64 w0).1
  by_cases hout : a1 < 0 ∨ 65536 < a1
  · exact (cm_out n0 a1 a2 a3 a4 W hout).mono fin
  · obtain ⟨n1, rfl⟩ := Int.eq_ofNat_of_zero_le (show 0 ≤ a1 by omega)
    exact (cm_in n0 n1 a2 a3 a4 W (by omega) hM).mono fin

theorem row_holds : Rows.FnFmtCMatchesUTF8ModelSaid :=
  OpenClaim.holds_of_wide 9 Efsg.f9 rfl rfl rfl rfl rfl rfl rfl ⟨rfl, rfl, rfl, rfl, rfl⟩ rfl rfl rfl rfl rfl (by kernel_rfl) Efsg.func9 (by kernel_rfl)
    (of_decide_eq_true (by kernel_rfl)) (by unfold Func.isWrapper; rw [if_neg (by decide +kernel)]; exact ⟨rfl, rfl⟩)
    (fun os started H enc _ => lifted os started H enc)

/-- THE TIED CARD. -/
theorem card_holds : Rows.FnFmtCMatchesUTF8ModelCardSaid :=
  Claim7.holds_tied_plain_at .later [] [.called, .data] true (true, "ae7ba54e47974b603e3e7543807faaceec2fb17de876f8734a255a13861ee89e") false
    row_holds (fun _ h => by cases h) (by kernel_rfl) (fun _ h => by cases h) fnFmtCMatchesUTF8Model_row_tie rfl ⟨rfl, rfl⟩ (by kernel_rfl) rfl
    (fun f fn hf hfn => by
      obtain rfl : f = 9 := Option.some.inj ((show Efsg.prog.funcNamed Rows.fnFmtCMatchesUTF8ModelRow.func = some 9 by kernel_rfl).symm.trans hf) |>.symm
      obtain rfl : fn = Efsg.f9 := (Option.some.inj (Efsg.func9.symm.trans hfn)).symm
      exact ⟨by kernel_rfl, fun j t ht => by
        rw [Efsg.params9] at ht
        have hm : t ∈ [37, 3, 4, 4, 4] := by simpa using Array.mem_of_getElem? ht
        have hall : ([37, 3, 4, 4, 4].all fun u => !Efsg.prog.wantsStandIn u) = true := by kernel_rfl
        exact (show Efsg.prog.wantsStandIn t = false by simpa using List.all_eq_true.1 hall t hm)⟩)
    (by kernel_rfl)
end FnFmtCMatchesUTF8ModelProof

theorem fnFmtCMatchesUTF8Model_card : Rows.FnFmtCMatchesUTF8ModelCardSaid := FnFmtCMatchesUTF8ModelProof.card_holds
end Go.Proofs.YoefswDoor
