import Derived.Test.YoefswDoorBase
namespace Go.Proofs.YoefswDoor
open Go.RowKit

set_option maxHeartbeats 400000 in
theorem pad_none (fb : Nat) (n : Int) (w : World) (hn : n ≤ 0) :
    Calls Efsg.prog 42 #[.pointer (some ⟨fb, 0, none⟩), .int .i64 n] w fun e w' => e = .returned (.tuple #[]) ∧ w' = w := by
  go_enter Efsg.func42, Efsg.ntmps42
  go_wp2
  first | go_end0 | refine bodyPost_ret (results_none rfl _ _ _) rfl ?_
  exact ⟨rfl, rfl⟩

/-- The padding's cell. -/
def padV (ze : Bool) : Value := .int .u8 (cond ze 48 32)

/-- The first k of the new cells filled. -/
def fill (xs : List Value) (p : Value) (ys : List Value) (k : Nat) : List Value := xs ++ (List.replicate k p ++ ys.drop k)
theorem fill_zero (xs : List Value) (p : Value) (ys : List Value) : fill xs p ys 0 = xs ++ ys := by simp [fill]
theorem fill_all (xs : List Value) (p : Value) (ys : List Value) (k : Nat) (h : ys.length ≤ k) : fill xs p ys k = xs ++ List.replicate k p := by simp [fill, List.drop_eq_nil_of_le h]
theorem fill_set (xs : List Value) (p : Value) (ys : List Value) (k : Nat) (h : k < ys.length) : (fill xs p ys k).set (xs.length + k) p = fill xs p ys (k + 1) := by
  unfold fill
  rw [List.set_append_right _ _ (by omega), Nat.add_sub_cancel_left, List.set_append_right _ _ (by simp), List.length_replicate, Nat.sub_self, List.drop_eq_getElem_cons h, List.set_cons_zero, List.replicate_succ']
  simp

theorem own_cell {w : World} {base g n cap : Nat} {xs : List Value} (h : w.ownsRow base 5 1 (.slice (some ⟨g, 0, none⟩) n cap) n xs) {j : Nat} (hj : j < n) : ∃ u, w.cell? ⟨g, j, none⟩ = some u := by
  rw [h.cellAt j (by omega)]
  have := h.1
  exact ⟨_, List.getElem?_eq_getElem (by omega)⟩

theorem pad_step {w : World} {base g n m cap k : Nat} {xs ys : List Value} {p : Value} (hl : xs.length = n) (hk : k < ys.length) (h : w.ownsRow base 5 1 (.slice (some ⟨g, 0, none⟩) m cap) m (fill xs p ys k)) :
    (w.setCell ⟨g, n + k, none⟩ p).ownsRow base 5 1 (.slice (some ⟨g, 0, none⟩) m cap) m (fill xs p ys (k + 1)) := by
  have := (h.stored (n + k) p).1
  subst hl
  rwa [fill_set _ _ _ _ hk] at this

theorem pad_end {w wr : World} {bb base g n L cap k : Nat} {xs ys : List Value} {p v : Value} (hl : ys.length = n) (hk : k = n) (hbuf : w.heap[bb]? = some (.cells #[v] 43 (0, 0))) (hbb : bb < base)
    (h : wr.ownsRow base 5 1 (.slice (some ⟨g, 0, none⟩) (L + n) cap) (L + n) (fill xs p ys k)) (hb : Below base w wr) :
    ∃ v', (wr.setCell ⟨bb, 0, none⟩ (.slice (some ⟨g, 0, none⟩) (L + n) cap)).drew.heap[bb]? = some (.cells #[v'] 43 (0, 0)) ∧
      (wr.setCell ⟨bb, 0, none⟩ (.slice (some ⟨g, 0, none⟩) (L + n) cap)).drew.ownsRow base 5 1 v' (L + n) (xs ++ List.replicate n p) ∧
      Fr bb base w (wr.setCell ⟨bb, 0, none⟩ (.slice (some ⟨g, 0, none⟩) (L + n) cap)).drew := by
  subst hk
  rw [fill_all _ _ _ _ (by omega)] at h
  exact ⟨_, one_setCell ((hb.block bb hbb).trans hbuf), (ownsRow_setCell_below h hbb _).drew, ((Fr.of_below hb).setBuf 0 _).drew⟩

set_option maxRecDepth 100000 in
set_option maxHeartbeats 1000000 in
theorem pad_room (fb bb base g L cap n : Nat) (ze : Bool) (xs : List Value) (w : World) (hn : 0 < n) (hroom : L + n ≤ cap) (_hcapm : cap ≤ 9223372036854775807) (hsmall : L + n ≤ 2147483647)
    (hM : w.cell? ⟨0, 0, none⟩ = some (.int .i64 2147483647)) (hbb : bb < base) (hfb : fb < base) (hbase : base ≤ w.heap.size)
    (hf0 : w.cell? ⟨fb, 0, none⟩ = some (.pointer (some ⟨bb, 0, none⟩))) (hf7 : w.cell? ⟨fb, 7, none⟩ = some (.bool ze))
    (hbuf : w.heap[bb]? = some (.cells #[.slice (some ⟨g, 0, none⟩) L cap] 43 (0, 0)))
    (hown : w.ownsRow base 5 1 (.slice (some ⟨g, 0, none⟩) L cap) L xs) :
    Calls Efsg.prog 42 #[.pointer (some ⟨fb, 0, none⟩), .int .i64 n] w fun e w' => e = .returned (.tuple #[]) ∧ ∃ v', w'.heap[bb]? = some (.cells #[v'] 43 (0, 0)) ∧
      w'.ownsRow base 5 1 v' (L + n) (xs ++ List.replicate n (padV ze)) ∧ Fr bb base w w' := by
  have hcb := cell_of_one hbuf
  have hgb : base ≤ g := by rcases own_form hown with ⟨h, _⟩ | ⟨g', c', h, hg, _⟩ <;> simp at h; omega
  obtain ⟨ys, hys, hlong⟩ := own_longer hown hroom
  have hn0 : ¬ n = 0 := by omega
  have hz1 : ¬ (2147483647 : Int) < (L : Int) + (n : Int) := by omega
  have hz2 : ¬ (cap : Int) < (L : Int) + (n : Int) := by omega
  have hz3 : L + n - L = n := by omega
  have hxl : xs.length = L := by have := hown.1; omega
  cases ze
  · go_enter Efsg.func42, Efsg.ntmps42
    go_wp2
    go_loopw [56] (fun i wr => ∃ k : Nat, k ≤ n ∧ i = .int .i64 k ∧ wr.ownsRow base 5 1 (.slice (some ⟨g, 0, none⟩) (L + n) cap) (L + n) (fill xs (padV false) ys k) ∧ Below base w wr) (fun i _ => n - (intOf i).toNat)
    case atStart => exact ⟨0, Nat.zero_le _, rfl, by rw [fill_zero]; exact hlong, Below.refl _ _⟩
    case round =>
      obtain ⟨k, hk, rfl, hw1, hw2⟩ := hrel
      by_cases hlt : k < n
      · obtain ⟨u0, hu0⟩ := own_cell hw1 (j := L + k) (by omega)
        have hfz := hw1.frozenAt (L + k)
        go_wp2
        go_roundw
        case rel => exact ⟨k + 1, by omega, by go_num, pad_step hxl (by omega) hw1, hw2.grown (hw1.stored (L + k) _).2 (by have := hw2.size; omega) (fun _ h => by cases h; exact hgb)⟩
        case measure => simp [intOf]; omega
      · have hf0' := (hw2.cell (p := ⟨fb, 0, none⟩) hfb).trans hf0
        have hcb' := (hw2.cell (p := ⟨bb, 0, none⟩) hbb).trans hcb
        have hfrb := (hw2.frozen (p := ⟨bb, 0, none⟩) hbb).trans (free_of_one hbuf)
        go_wp2
        go_region
        all_goals (go_wp2; go_end0; exact ⟨rfl, pad_end hys (by omega) hbuf hbb hw1 hw2⟩)
  · go_enter Efsg.func42, Efsg.ntmps42
    go_wp2
    go_loopw [56] (fun i wr => ∃ k : Nat, k ≤ n ∧ i = .int .i64 k ∧ wr.ownsRow base 5 1 (.slice (some ⟨g, 0, none⟩) (L + n) cap) (L + n) (fill xs (padV true) ys k) ∧ Below base w wr) (fun i _ => n - (intOf i).toNat)
    case atStart => exact ⟨0, Nat.zero_le _, rfl, by rw [fill_zero]; exact hlong, Below.refl _ _⟩
    case round =>
      obtain ⟨k, hk, rfl, hw1, hw2⟩ := hrel
      by_cases hlt : k < n
      · obtain ⟨u0, hu0⟩ := own_cell hw1 (j := L + k) (by omega)
        have hfz := hw1.frozenAt (L + k)
        go_wp2
        go_roundw
        case rel => exact ⟨k + 1, by omega, by go_num, pad_step hxl (by omega) hw1, hw2.grown (hw1.stored (L + k) _).2 (by have := hw2.size; omega) (fun _ h => by cases h; exact hgb)⟩
        case measure => simp [intOf]; omega
      · have hf0' := (hw2.cell (p := ⟨fb, 0, none⟩) hfb).trans hf0
        have hcb' := (hw2.cell (p := ⟨bb, 0, none⟩) hbb).trans hcb
        have hfrb := (hw2.frozen (p := ⟨bb, 0, none⟩) hbb).trans (free_of_one hbuf)
        go_wp2
        go_region
        all_goals (go_wp2; go_end0; exact ⟨rfl, pad_end hys (by omega) hbuf hbb hw1 hw2⟩)
end Go.Proofs.YoefswDoor
