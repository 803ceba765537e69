/-
  Small facts on worlds for the walks over tengo's formatter: the frame 'Fr' (below block B all but block bb is as it was), byte cells, the element type's row.
-/
import Derived.Test.YoefswDoorProg
import Derived.WalkKit
import Derived.WalkSpells
import Derived.WalkLawsBesides
namespace Go.Proofs.YoefswDoor
open Go.RowKit

theorem Efsg.info5 : (Efsg.prog.info? 5).map (fun i => (i.zero, i.size, i.bytes)) = some (some (.int .u8 0), 1, 1) := by kernel_rfl

/-- Bytes as cells. -/
def bv (l : List UInt8) : List Value := l.map fun b => Value.int .u8 (b.toNat : Int)

theorem bv_length (l : List UInt8) : (bv l).length = l.length := by simp [bv]
theorem bv_append (a b : List UInt8) : bv (a ++ b) = bv a ++ bv b := by simp [bv]
theorem bv_nil : bv [] = [] := rfl
theorem bv_replicate (n : Nat) (b : UInt8) : bv (List.replicate n b) = List.replicate n (Value.int .u8 (b.toNat : Int)) := by simp [bv]
theorem bv_one (l : List UInt8) : ∀ u ∈ bv l, u.oneCell' = true := by
  intro u hu
  obtain ⟨_, _, rfl⟩ := List.mem_map.1 hu
  rfl

/-- Below block B all but block bb is as it was. -/
structure Fr (bb B : Nat) (w w' : World) : Prop where
  os : w'.os = w.os
  tape : w'.tape = w.tape
  output : w'.output = w.output
  size : w.heap.size ≤ w'.heap.size
  block : ∀ k, k < B → k ≠ bb → w'.heap[k]? = w.heap[k]?

theorem Fr.refl (bb B : Nat) (w : World) : Fr bb B w w := ⟨rfl, rfl, rfl, Nat.le_refl _, fun _ _ _ => rfl⟩
theorem Fr.trans {bb B : Nat} {a b c : World} (h : Fr bb B a b) (k : Fr bb B b c) : Fr bb B a c :=
  ⟨k.os.trans h.os, k.tape.trans h.tape, k.output.trans h.output, Nat.le_trans h.size k.size, fun i hi hn => (k.block i hi hn).trans (h.block i hi hn)⟩
theorem Fr.of_below {bb B : Nat} {a b : World} (h : Below B a b) : Fr bb B a b := ⟨h.os, h.tape, h.output, h.size, fun i hi _ => h.block i hi⟩
theorem Fr.below {bb B : Nat} {a b : World} (h : Fr bb B a b) (hB : bb ≤ B) : Below bb a b := ⟨h.os, h.tape, h.output, h.size, fun i hi => h.block i (by omega) (by omega)⟩
theorem Fr.cell {bb B : Nat} {a b : World} (h : Fr bb B a b) {p : Addr} (hp : p.block < B) (hn : p.block ≠ bb) : b.cell? p = a.cell? p := World.cell?_of_block (w := a) (h.block p.block hp hn)
theorem Fr.frozen {bb B : Nat} {a b : World} (h : Fr bb B a b) {p : Addr} (hp : p.block < B) (hn : p.block ≠ bb) : b.frozen? p = a.frozen? p := World.frozen?_of_block (w := a) (h.block p.block hp hn)
theorem Fr.setBuf {bb B : Nat} {a w : World} (h : Fr bb B a w) (off : Nat) (u : Value) : Fr bb B a (w.setCell ⟨bb, off, none⟩ u) :=
  h.trans ⟨rfl, rfl, rfl, by simp [World.setCell], fun k _ hn => Below.heap_setCell _ _ _ _ hn⟩
theorem Fr.drew {bb B : Nat} {a w : World} (h : Fr bb B a w) : Fr bb B a w.drew := ⟨h.os, h.tape, h.output, h.size, h.block⟩
theorem Fr.grown {bb B : Nat} {a w w' : World} {row : Option Nat} (h : Fr bb B a w) (hg : w.grownBy w' row) (hB : B ≤ w.heap.size) (hr : ∀ k, row = some k → B ≤ k) : Fr bb B a w' :=
  h.trans (Fr.of_below ((Below.refl B w).grown hg hB hr))

/-- An owned slice, its value written out: nil, or at the head of a row. -/
theorem own_form {w : World} {base n : Nat} {v : Value} {xs : List Value} (h : w.ownsRow base 5 1 v n xs) :
    (v = .slice none 0 0 ∧ n = 0 ∧ xs = []) ∨ ∃ g cap, v = .slice (some ⟨g, 0, none⟩) n cap ∧ base ≤ g ∧ n ≤ cap ∧ cap ≤ maxLen := by
  rcases h.2 with ⟨rfl, rfl⟩ | ⟨g, cap, cur, rfl, hg, _, hn, hm, _⟩
  · exact .inl ⟨rfl, rfl, List.eq_nil_of_length_eq_zero (by simpa using h.1)⟩
  · exact .inr ⟨g, cap, rfl, hg, hn, hm⟩

/-- A longer cut of an owned row, within its capacity: the first cells are the same. -/
theorem own_longer {w : World} {base g n cap m : Nat} {xs : List Value} (h : w.ownsRow base 5 1 (.slice (some ⟨g, 0, none⟩) n cap) n xs) (hm : n + m ≤ cap) :
    ∃ ys, ys.length = m ∧ w.ownsRow base 5 1 (.slice (some ⟨g, 0, none⟩) (n + m) cap) (n + m) (xs ++ ys) := by
  rcases h.2 with ⟨h', _⟩ | ⟨g', cap', cur, h', hb, hg, hnc, hcm, hcs, htake⟩
  · simp at h'
  · simp only [Value.slice.injEq, Option.some.injEq, Addr.mk.injEq, and_true, true_and] at h'
    obtain ⟨rfl, rfl⟩ := h'
    simp only [Nat.mul_one] at hcs htake
    refine ⟨(cur.toList.drop n).take m, by simp [hcs]; omega, ⟨?_, .inr ⟨g, cap, cur, rfl, hb, hg, hm, hcm, by simpa using hcs, ?_⟩⟩⟩
    · have := h.1
      simp at this ⊢
      omega
    · rw [← htake, Nat.mul_one, List.take_add]

end Go.Proofs.YoefswDoor
