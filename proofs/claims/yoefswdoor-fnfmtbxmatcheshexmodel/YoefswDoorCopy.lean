/-
  zzCopyBytes by contract.
-/
import Derived.Test.YoefswDoorZpad
namespace Go.Proofs.YoefswDoor
open Go.RowKit

/-- The first k cells copied. -/
def cpy (S : List UInt8) (ys : List Value) (k : Nat) : List Value := bv (S.take k) ++ ys.drop k
theorem cpy_zero (S : List UInt8) (ys : List Value) : cpy S ys 0 = ys := by simp [cpy, bv]
theorem cpy_all (S : List UInt8) (ys : List Value) (k : Nat) (h1 : S.length ≤ k) (h2 : ys.length ≤ k) : cpy S ys k = bv S := by simp [cpy, List.drop_eq_nil_of_le h2, List.take_of_length_le h1]
theorem cpy_set (S : List UInt8) (ys : List Value) (k : Nat) (h1 : k < S.length) (h2 : k < ys.length) : (cpy S ys k).set k (.int .u8 ((S.getD k 0).toNat : Int)) = cpy S ys (k + 1) := by
  have hl : (bv (S.take k)).length = k := by simp [bv]; omega
  unfold cpy
  rw [List.set_append_right _ _ (by omega), hl, Nat.sub_self, List.drop_eq_getElem_cons h2, List.set_cons_zero, List.take_succ_eq_append_getElem h1, bv_append, List.getD_eq_getElem?_getD, List.getElem?_eq_getElem h1]
  simp [bv]

theorem copy_step {w : World} {base k n : Nat} {S : List UInt8} {ys : List Value} (h1 : k < S.length) (h2 : k < ys.length) (h : w.ownsRow base 5 1 (.slice (some ⟨base, 0, none⟩) n n) n (cpy S ys k)) :
    (w.setCell ⟨base, k, none⟩ (.int .u8 ((S.getD k 0).toNat : Int))).ownsRow base 5 1 (.slice (some ⟨base, 0, none⟩) n n) n (cpy S ys (k + 1)) := by
  have := (h.stored k (.int .u8 ((S.getD k 0).toNat : Int))).1
  rwa [cpy_set S ys k h1 h2] at this

theorem copy_nil (w : World) : Calls Efsg.prog 18 #[.slice none 0 0] w fun e w' => e = .returned (.slice none 0 0) ∧ w' = w := by
  have heq := fun (w : World) (a : Option Addr) (n c : Nat) => Lib.run_eql_slice_nil (P := Efsg.prog) w 25 5 a n c 0 0 Efsg.underlying25
  go_enter Efsg.func18, Efsg.ntmps18
  go_wp2
  go_ret
  exact ⟨rfl, rfl⟩

set_option maxRecDepth 100000 in
set_option maxHeartbeats 400000 in
theorem copy_zero (a : Addr) (cap : Nat) (w : World) :
    Calls Efsg.prog 18 #[.slice (some a) 0 cap] w fun e w' => e = .returned (.slice (some ⟨w.heap.size, 0, none⟩) 0 0) ∧ Owns w' w.heap.size (.slice (some ⟨w.heap.size, 0, none⟩) 0 0) [] ∧ Below w.heap.size w w' := by
  have heq := fun (w : World) (a : Option Addr) (n c : Nat) => Lib.run_eql_slice_nil (P := Efsg.prog) w 25 5 a n c 0 0 Efsg.underlying25
  obtain ⟨i0, hi, hi0, hi1, hi2⟩ := info_parts Efsg.info5
  go_enter Efsg.func18, Efsg.ntmps18
  go_wp2_with (at_make; refine wpList_make_full _ rfl _ _ 25 rfl w.heap.size 5 i0 (.int .u8 0) 1 Efsg.underlying25 hi hi0 hi1 _ _ _ _ 0 rfl rfl (by omega) (by omega) (by omega) (by unfold maxLen; omega) (Nat.le_refl _) ?_; intro w1 hown1 hgr1)
  refine wp_loop_rounds 1 ?_
  rw [rounds_succ]
  go_wp2
  go_ret
  have e0 : (madeCells (Value.int IntKind.u8 0).cells (0 * 1)).toList = [] := List.eq_nil_of_length_eq_zero hown1.1
  rw [e0] at hown1
  exact ⟨rfl, hown1, grown_below (Nat.le_refl _) hgr1⟩

set_option maxRecDepth 100000 in
set_option maxHeartbeats 400000 in
theorem copy_some (gb off cap : Nat) (S : List UInt8) (w : World) (hs : S.length ≤ 1048576) (hgb : gb < w.heap.size)
    (hsrc : Hid (∀ k, k < S.length → w.cell? ⟨gb, off + k, none⟩ = some (.int .u8 ((S.getD k 0).toNat : Int)))) :
    Calls Efsg.prog 18 #[.slice (some ⟨gb, off, none⟩) S.length cap] w fun e w' => e = .returned (.slice (some ⟨w.heap.size, 0, none⟩) S.length S.length) ∧ Owns w' w.heap.size (.slice (some ⟨w.heap.size, 0, none⟩) S.length S.length) S ∧ Below w.heap.size w w' := by
  have heq := fun (w : World) (a : Option Addr) (n c : Nat) => Lib.run_eql_slice_nil (P := Efsg.prog) w 25 5 a n c 0 0 Efsg.underlying25
  obtain ⟨i0, hi, hi0, hi1, hi2⟩ := info_parts Efsg.info5
  go_enter Efsg.func18, Efsg.ntmps18
  go_wp2_with (at_make; refine wpList_make_full _ rfl _ _ 25 rfl w.heap.size 5 i0 (.int .u8 0) 1 Efsg.underlying25 hi hi0 hi1 _ _ _ _ S.length rfl rfl (by omega) (by omega) (by rw [hi2]; omega) (by unfold maxLen; omega) (Nat.le_refl _) ?_; intro w1 hown1 hgr1)
  have hb1 := grown_below (Nat.le_refl _) hgr1
  obtain ⟨ys, hys⟩ : ∃ ys, ys = (madeCells (Value.int IntKind.u8 0).cells (S.length * 1)).toList := ⟨_, rfl⟩
  rw [← hys] at hown1
  have hyl : ys.length = S.length := by simpa using hown1.1
  clear hys
  go_loopw [4] (fun i wr => ∃ k : Nat, k ≤ S.length ∧ i = .int .i64 k ∧ wr.ownsRow w.heap.size 5 1 (.slice (some ⟨w.heap.size, 0, none⟩) S.length S.length) S.length (cpy S ys k) ∧ Below w.heap.size w wr) (fun i _ => S.length - (intOf i).toNat)
  case atStart => exact ⟨0, Nat.zero_le _, rfl, by rw [cpy_zero]; exact hown1, hb1⟩
  case round =>
    clear hown1 hgr1 hb1
    obtain ⟨k, hk, rfl, hown, hbr⟩ := hrel
    by_cases hlt : k < S.length
    · obtain ⟨cb, hcb⟩ : ∃ cb, cb = S.getD k 0 := ⟨_, rfl⟩
      have hck : wr.cell? ⟨gb, off + k, none⟩ = some (.int .u8 (cb.toNat : Int)) := (hbr.cell (p := ⟨gb, off + k, none⟩) hgb).trans (by rw [hsrc.out k hlt, hcb])
      have Hcb : Hid (S.getD k 0 = cb) := hcb.symm
      clear hcb
      obtain ⟨u0, hu0⟩ := own_cell hown (j := k) (by omega)
      have hfz := hown.frozenAt k
      go_wp2
      go_roundw
      case rel =>
        have h2 := copy_step hlt (by omega) hown
        rw [Hcb.out] at h2
        exact ⟨k + 1, by omega, by go_num, h2, hbr.grown (hown.stored k _).2 hbr.size (fun _ h => by cases h; exact Nat.le_refl _)⟩
      case measure => simp [intOf]; omega
    · go_wp2
      go_ret
      obtain rfl : k = S.length := by omega
      rw [cpy_all _ _ _ (Nat.le_refl _) (by omega)] at hown
      exact ⟨rfl, hown, hbr⟩
end Go.Proofs.YoefswDoor
