/-
  A byte slice that came in, opened into what the walks ask.
-/
import Derived.Test.YoefswDoorBxWalk
import Derived.Test.YoefswDoorLift
namespace Go.Proofs.YoefswDoor
open Go.ChangeShapes Go.WideShapes Go.ChangeAt Go.WideMaps Go.WideElems Go.RowKit

theorem cells5 : Efsg.prog.cellsOf 5 = 1 := by kernel_rfl

theorem byte_back {n : Int} (h : (Lit.int .u8 n).wf = true) : ((UInt8.ofNat n.toNat).toNat : Int) = n := by
  have := bounds_u8 h
  simp
  omega

theorem bytes_arg {H : Type} {enc : TypeId × Value → H} {W : World} {base : Nat} {v : Value} {d : DataW H} {p : List MemPlace} (hok : Value.okWide Efsg.prog W .any base 25 v)
    (h : DataW.Trod enc Efsg.prog W 0 (fun _ => true) true 25 v d p) :
    v = .slice none 0 0 ∨ ∃ ao len cap S, v = .slice ao len cap ∧ len = S.length ∧ len ≤ 9223372036854775807 ∧ BytesRow W ao len S := by
  obtain ⟨ao, len, cap, rfl⟩ := okWide_slice Efsg.underlying25 hok
  obtain ⟨fuel, hf⟩ := h
  rcases open_ints Efsg.underlying25 Efsg.underlying5 cells5 hf with ⟨hcs, _⟩ | ⟨a, len', cap', zs, hcs, _, hl, hm, hz, _, hcell, hwz⟩
  · left
    simpa [Value.cells] using hcs
  · right
    obtain ⟨rfl, rfl, rfl⟩ : ao = some a ∧ len = len' ∧ cap = cap' := by simpa [Value.cells] using hcs
    simp only [if_true] at hz
    have hSl : ((zs.take len).map fun n => UInt8.ofNat n.toNat).length = len := by simp; omega
    refine ⟨_, len, cap, (zs.take len).map fun n => UInt8.ofNat n.toNat, rfl, hSl.symm, by unfold maxLen at hm; omega, ?_⟩
    by_cases h0 : len = 0
    · left
      exact ⟨a, rfl, h0, by rw [h0]; rfl⟩
    · right
      obtain ⟨b, off, rfl, hc⟩ := ints_at hcell (by omega)
      refine ⟨b, off, rfl, hSl.symm, World.block_lt_of_cell? W ⟨b, off + 0, none⟩ (hc 0 (by omega)), ?_⟩
      intro k hk
      rw [hSl] at hk
      rw [hc k (by omega)]
      have hkz : k < zs.length := by omega
      have e : (((zs.take len).map fun n => UInt8.ofNat n.toNat).getD k 0).toNat = zs.getD k 0 := by
        rw [List.getD_eq_getElem?_getD, List.getElem?_map, List.getElem?_take, if_pos hk, List.getElem?_eq_getElem hkz, List.getD_eq_getElem?_getD, List.getElem?_eq_getElem hkz]
        exact byte_back (hwz _ (List.getElem_mem hkz))
      rw [e]
end Go.Proofs.YoefswDoor
