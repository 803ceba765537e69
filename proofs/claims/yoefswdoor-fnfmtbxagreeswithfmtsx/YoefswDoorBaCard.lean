/-
  FnFmtBxAgreesWithFmtSx: the row and the tied card.
-/
import Derived.Test.YoefswDoorLift
import Derived.Test.YoefswDoorBytesArg
import Derived.Test.YoefswDoorBxWalk
import Derived.Test.YoefswDoorTie
import Derived.Test.YoefswDoorCards
import Derived.SevenTiedAt
namespace Go.Proofs.YoefswDoor
open Go.ChangeShapes Go.WideShapes Go.ChangeAt Go.WideMaps Go.WideElems Go.RowKit
open Go.ChangeMaps (open_string shut_string)
namespace FnFmtBxAgreesWithFmtSxProof

set_option maxRecDepth 100000 in
theorem lifted (os : Os) (started : os.Started) (H : Type) (enc : TypeId × Value → H) :
    ReturnsInHanded {} Efsg.checked os 6 .any (fun w args => (Rows.fnFmtBxAgreesWithFmtSxSpec.pre enc Efsg.prog Efsg.f6 [] false w args ∧ laidMetH Efsg.prog laid2 w) ∧ sizedMet enc Efsg.prog Efsg.f6 (OpenSpec.ofChange Rows.fnFmtBxAgreesWithFmtSxSpec) false w args)
      (Rows.fnFmtBxAgreesWithFmtSxSpec.post enc Efsg.prog Efsg.f6 false true false false) := by
  refine returnsInHanded_of_change_and (C := Efsg.checked) (X := fun w _ => laidMetH Efsg.prog laid2 w) (fun _ _ _ hh h => h.of_heap hh) own started (by kernel_rfl) Efsg.func6
    (ChangeSpec.witness_shaped (enc := enc) (C := Efsg.checked) (os := os) (X := fun w _ => laidMetH Efsg.prog laid2 w) false (World.doorLaid Efsg.prog 42 os) #[.slice none 0 0, .bool false, .int .i64 0, .int .i64 0, .bool false, .bool false, .bool false, .bool false, .bool false, .bool false, .bool false] 8 rfl (World.shaped_of_RefB (by kernel_rfl) (by kernel_rfl)) (by kernel_rfl) (by kernel_rfl) (by kernel_rfl) (door_met os _)) ?_
  intro W base args ds gs before hval0 hW _ _ hL _
  have hval : ∀ (j : Nat) t v, Efsg.f6.params[j]? = some t → args[j]? = some v → Value.okWide Efsg.prog W .any base t v := hval0
  have hW' := hW
  obtain ⟨p, q, hA0, hV0, rfl, hfz, hnd⟩ := hW
  have hA : DataW.TrodAll enc Efsg.prog W 0 (fun _ => true) true Efsg.f6.params.toList args.toList ds p := hA0
  have hV : DataW.TrodVars enc Efsg.prog W (fun _ => true) [nMax, nErr] gs q := hV0
  rw [Efsg.params6] at hA hval
  obtain ⟨v0, vs0, d0, ds0, p0, q0, hargs, rfl, rfl, h0, r0⟩ := trodAll_cons hA
  obtain ⟨v1, vs1, d1, ds1, p1, q1, rfl, rfl, rfl, h1, r1⟩ := trodAll_cons r0
  obtain ⟨v2, vs2, d2, ds2, p2, q2, rfl, rfl, rfl, h2, r2⟩ := trodAll_cons r1
  obtain ⟨v3, vs3, d3, ds3, p3, q3, rfl, rfl, rfl, h3, r3⟩ := trodAll_cons r2
  obtain ⟨v4, vs4, d4, ds4, p4, q4, rfl, rfl, rfl, h4, r4⟩ := trodAll_cons r3
  obtain ⟨v5, vs5, d5, ds5, p5, q5, rfl, rfl, rfl, h5, r5⟩ := trodAll_cons r4
  obtain ⟨v6, vs6, d6, ds6, p6, q6, rfl, rfl, rfl, h6, r6⟩ := trodAll_cons r5
  obtain ⟨v7, vs7, d7, ds7, p7, q7, rfl, rfl, rfl, h7, r7⟩ := trodAll_cons r6
  obtain ⟨v8, vs8, d8, ds8, p8, q8, rfl, rfl, rfl, h8, r8⟩ := trodAll_cons r7
  obtain ⟨v9, vs9, d9, ds9, p9, q9, rfl, rfl, rfl, h9, r9⟩ := trodAll_cons r8
  obtain ⟨v10, vs10, d10, ds10, p10, q10, rfl, rfl, rfl, h10, r10⟩ := trodAll_cons r9
  obtain ⟨rfl, rfl, rfl⟩ := trodAll_nil r10
  obtain rfl : args = #[v0, v1, v2, v3, v4, v5, v6, v7, v8, v9, v10] := by cases args; simp_all
  obtain ⟨g1, g2, rfl⟩ : ∃ g1 g2, gs = [g1, g2] := by obtain ⟨_, _, _, _, d0, _, _, _, _, _, d1, _, e, _⟩ := trodVars_two hV; exact ⟨d0, d1, e⟩
  have h0k := h0
  have hlt0 : ∀ x ∈ p0, x.block < W.heap.size := fun x hx => by simpa using hW'.lt x (by simp [hx])
  obtain ⟨a1, rfl, rfl, rfl⟩ := open_bool Efsg.underlying4 (hval 1 4 v1 rfl rfl) h1
  obtain ⟨a2, rfl, rfl, rfl, w2⟩ := open_int Efsg.underlying3 (hval 2 3 v2 rfl rfl) h2
  obtain ⟨a3, rfl, rfl, rfl, w3⟩ := open_int Efsg.underlying3 (hval 3 3 v3 rfl rfl) h3
  obtain ⟨a4, rfl, rfl, rfl⟩ := open_bool Efsg.underlying4 (hval 4 4 v4 rfl rfl) h4
  obtain ⟨a5, rfl, rfl, rfl⟩ := open_bool Efsg.underlying4 (hval 5 4 v5 rfl rfl) h5
  obtain ⟨a6, rfl, rfl, rfl⟩ := open_bool Efsg.underlying4 (hval 6 4 v6 rfl rfl) h6
  obtain ⟨a7, rfl, rfl, rfl⟩ := open_bool Efsg.underlying4 (hval 7 4 v7 rfl rfl) h7
  obtain ⟨a8, rfl, rfl, rfl⟩ := open_bool Efsg.underlying4 (hval 8 4 v8 rfl rfl) h8
  obtain ⟨a9, rfl, rfl, rfl⟩ := open_bool Efsg.underlying4 (hval 9 4 v9 rfl rfl) h9
  obtain ⟨a10, rfl, rfl, rfl⟩ := open_bool Efsg.underlying4 (hval 10 4 v10 rfl rfl) h10
  have hM := max_of_laid hL
  clear hA0 hV0 hval0
  have fin : ∀ (e : Ending) (W' : World), (e = .returned (.bool true) ∧ Below W.heap.size W W') → ∃ v, e = .returned v ∧ Rows.fnFmtBxAgreesWithFmtSxSpec.post enc Efsg.prog Efsg.f6 false true false false W #[v0, .bool a1, .int .i64 a2, .int .i64 a3, .bool a4, .bool a5, .bool a6, .bool a7, .bool a8, .bool a9, .bool a10] v W' := by
    rintro e W' ⟨rfl, hbel⟩
    refine ⟨_, rfl, _, _, _, [], (p0 ++ []), q, hW', ?_, ?_, ?_, hbel.frame _, fun h => by cases h⟩
    · exact trodAll_cons_mk (shut_bool Efsg.underlying4 _) trodAll_mk0
    · exact (trodAll_cons_mk (Below.trod laidOut (by kernel_rfl) (of_decide_eq_true (by kernel_rfl)) h0k hbel hlt0) (trodAll_cons_mk (shut_bool Efsg.underlying4 _) (trodAll_cons_mk (shut_int Efsg.underlying3 w2) (trodAll_cons_mk (shut_int Efsg.underlying3 w3) (trodAll_cons_mk (shut_bool Efsg.underlying4 _) (trodAll_cons_mk (shut_bool Efsg.underlying4 _) (trodAll_cons_mk (shut_bool Efsg.underlying4 _) (trodAll_cons_mk (shut_bool Efsg.underlying4 _) (trodAll_cons_mk (shut_bool Efsg.underlying4 _) (trodAll_cons_mk (shut_bool Efsg.underlying4 _) (trodAll_cons_mk (shut_bool Efsg.underlying4 _) trodAll_mk0)))))))))))
    · exact Below.trodVars laidOut hbel rowed hV
  rcases bytes_arg (hval 0 25 v0 rfl rfl) h0 with rfl | ⟨ao, len, cap, S, rfl, hlen, hmax, hrow⟩
  · by_cases hout : 1048576 < 0 ∨ a2 < 0 ∨ 65536 < a2 ∨ a3 < 0
    · exact (bxa_out none 0 0 a1 a2 a3 a4 a5 a6 a7 a8 a9 a10 W (by omega) hout).mono fin
    · obtain ⟨n2, rfl⟩ := Int.eq_ofNat_of_zero_le (show 0 ≤ a2 by omega)
      obtain ⟨n3, rfl⟩ := Int.eq_ofNat_of_zero_le (show 0 ≤ a3 by omega)
      exact (bxa_nil a1 n2 n3 _ a4 a5 a6 a7 a8 a9 a10 W (by omega) hM rfl (effN_le _ _ _)).mono fin
  · by_cases hout : 1048576 < len ∨ a2 < 0 ∨ 65536 < a2 ∨ a3 < 0
    · exact (bxa_out ao len cap a1 a2 a3 a4 a5 a6 a7 a8 a9 a10 W hmax hout).mono fin
    · obtain ⟨n2, rfl⟩ := Int.eq_ofNat_of_zero_le (show 0 ≤ a2 by omega)
      obtain ⟨n3, rfl⟩ := Int.eq_ofNat_of_zero_le (show 0 ≤ a3 by omega)
      exact (bxa_row ao len cap S a1 n2 n3 _ a4 a5 a6 a7 a8 a9 a10 W (by omega) hlen hrow (by omega) hM rfl (effN_le _ _ _)).mono fin

theorem row_holds : Rows.FnFmtBxAgreesWithFmtSxSaid :=
  OpenClaim.holds_of_wide 6 Efsg.f6 rfl rfl rfl rfl rfl rfl rfl ⟨rfl, rfl, rfl, rfl, rfl⟩ rfl rfl rfl rfl rfl (by kernel_rfl) Efsg.func6 (by kernel_rfl)
    (of_decide_eq_true (by kernel_rfl)) (by unfold Func.isWrapper; rw [if_neg (by decide +kernel)]; exact ⟨rfl, rfl⟩)
    (fun os started H enc _ => lifted os started H enc)

/-- THE TIED CARD. -/
theorem card_holds : Rows.FnFmtBxAgreesWithFmtSxCardSaid :=
  Claim7.holds_tied_plain_at .later [] [.called, .data] true (true, "ae7ba54e47974b603e3e7543807faaceec2fb17de876f8734a255a13861ee89e") false
    row_holds (fun _ h => by cases h) (by kernel_rfl) (fun _ h => by cases h) fnFmtBxAgreesWithFmtSx_row_tie rfl ⟨rfl, rfl⟩ (by kernel_rfl) rfl
    (fun f fn hf hfn => by
      obtain rfl : f = 6 := Option.some.inj ((show Efsg.prog.funcNamed Rows.fnFmtBxAgreesWithFmtSxRow.func = some 6 by kernel_rfl).symm.trans hf) |>.symm
      obtain rfl : fn = Efsg.f6 := (Option.some.inj (Efsg.func6.symm.trans hfn)).symm
      exact ⟨by kernel_rfl, fun j t ht => by
        rw [Efsg.params6] at ht
        have hm : t ∈ [25, 4, 3, 3, 4, 4, 4, 4, 4, 4, 4] := by simpa using Array.mem_of_getElem? ht
        have hall : ([25, 4, 3, 3, 4, 4, 4, 4, 4, 4, 4].all fun u => !Efsg.prog.wantsStandIn u) = true := by kernel_rfl
        exact (show Efsg.prog.wantsStandIn t = false by simpa using List.all_eq_true.1 hall t hm)⟩)
    (by kernel_rfl)
end FnFmtBxAgreesWithFmtSxProof

theorem fnFmtBxAgreesWithFmtSx_card : Rows.FnFmtBxAgreesWithFmtSxCardSaid := FnFmtBxAgreesWithFmtSxProof.card_holds
end Go.Proofs.YoefswDoor
