/-
  writePadding, whole: from whatever owned buffer.
-/
import Derived.Test.YoefswDoorPadB
import Derived.Test.YoefswDoorPlain
namespace Go.Proofs.YoefswDoor
open Go.RowKit

/-- The buffer behind f.buf holds the bytes bs, in a row of the call's own from block 'base' on. -/
def Buf (w : World) (bb base : Nat) (bs : List UInt8) : Prop := ∃ v, w.heap[bb]? = some (.cells #[v] 43 (0, 0)) ∧ w.ownsRow base 5 1 v bs.length (bv bs)

theorem padV_eq (ze : Bool) : padV ze = Value.int .u8 ((padB ze).toNat : Int) := by cases ze <;> rfl

theorem bv_pad (bs : List UInt8) (n : Nat) (ze : Bool) : bv bs ++ List.replicate n (padV ze) = bv (bs ++ List.replicate n (padB ze)) := by
  rw [bv_append, bv_replicate, padV_eq]

theorem pad_any (fb bb base : Nat) (n : Int) (ze : Bool) (bs : List UInt8) (w : World) (hsmall : (bs.length : Int) + n ≤ 2147483647)
    (hM : w.cell? ⟨0, 0, none⟩ = some (.int .i64 2147483647)) (hbb : bb < base) (hfb : fb < base) (hbase : base ≤ w.heap.size)
    (hf0 : w.cell? ⟨fb, 0, none⟩ = some (.pointer (some ⟨bb, 0, none⟩))) (hf7 : w.cell? ⟨fb, 7, none⟩ = some (.bool ze)) (hbuf : Buf w bb base bs) :
    Calls Efsg.prog 42 #[.pointer (some ⟨fb, 0, none⟩), .int .i64 n] w fun e w' => e = .returned (.tuple #[]) ∧ Buf w' bb base (bs ++ List.replicate n.toNat (padB ze)) ∧ Fr bb base w w' := by
  obtain ⟨v, hv, hown⟩ := hbuf
  by_cases hn : n ≤ 0
  · refine (pad_none fb n w hn).mono ?_
    rintro e w' ⟨rfl, rfl⟩
    have h0 : n.toNat = 0 := by omega
    rw [h0]
    exact ⟨rfl, ⟨v, hv, by simpa using hown⟩, Fr.refl _ _ _⟩
  · obtain ⟨m, rfl⟩ := Int.eq_ofNat_of_zero_le (show 0 ≤ n by omega)
    have fin : ∀ (e : Ending) (w' : World), (e = .returned (.tuple #[]) ∧ ∃ v', w'.heap[bb]? = some (.cells #[v'] 43 (0, 0)) ∧ w'.ownsRow base 5 1 v' (bs.length + m) (bv bs ++ List.replicate m (padV ze)) ∧ Fr bb base w w') →
        e = .returned (.tuple #[]) ∧ Buf w' bb base (bs ++ List.replicate (Int.ofNat m).toNat (padB ze)) ∧ Fr bb base w w' := by
      rintro e w' ⟨rfl, v', h1, h2, h3⟩
      refine ⟨rfl, ⟨v', h1, ?_⟩, h3⟩
      rw [bv_pad] at h2
      simpa using h2
    rcases own_form hown with ⟨rfl, hl, hx⟩ | ⟨g, cap, rfl, hg, hn2, hcm⟩
    · obtain rfl : bs = [] := List.eq_nil_of_length_eq_zero hl
      exact (pad_grow fb bb base 0 0 m none ze (bv []) w (by omega) (by omega) (Nat.le_refl _) (by simp at hsmall; omega) hM hbb hfb hbase hf0 hf7 hv rfl (bv_one _) (fun h => absurd h (by omega))).mono fin
    · by_cases hr : bs.length + m ≤ cap
      · exact (pad_room fb bb base g bs.length cap m ze (bv bs) w (by omega) hr (by unfold maxLen at hcm; omega) (by omega) hM hbb hfb hbase hf0 hf7 hv hown).mono fin
      · refine (pad_grow fb bb base bs.length cap m (some ⟨g, 0, none⟩) ze (bv bs) w (by omega) (by omega) hn2 (by omega) hM hbb hfb hbase hf0 hf7 hv (bv_length _) (bv_one _) (fun _ => ⟨⟨g, 0, none⟩, rfl, hown.cells rfl⟩)).mono fin

end Go.Proofs.YoefswDoor
