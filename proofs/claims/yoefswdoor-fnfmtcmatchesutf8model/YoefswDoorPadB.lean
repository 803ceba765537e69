import Derived.Test.YoefswDoorPadA
import Derived.Laws.CopyOwn
namespace Go.Proofs.YoefswDoor
open Go.RowKit

/-- 'copy(dst, src)' into a row of the call's own, the whole of src: the first cells are src's. -/
theorem wpList_copy_head {P : Program} {w : World} {ops : Array Oper} {rest : List Oper} {o : Oper} {a : Act} {Q : Exit → Act → World → Prop} (hgd : o.guard = none) (d s : Operand) (dT sT : TypeId)
    (ho : o.op = .call { callee := .builtin .copy, args := #[d, s], argTypes := #[dT, sT] }) (hu : P.underlying dT = some (.slice 5)) (hsz : (P.info? 5).map (·.size) = some 1)
    (sp : Option Addr) (g N L cap base : Nat) (hd : a.eval d = .slice (some ⟨g, 0, none⟩) N N) (hs : a.eval s = .slice sp L cap)
    (xs ys : List Value) (hown : w.ownsRow base 5 1 (.slice (some ⟨g, 0, none⟩) N N) N ys) (hxs : xs.length = L) (hle : L ≤ N)
    (hsrc : 0 < L → ∃ ad, sp = some ad ∧ ∀ j v, xs[j]? = some v → w.cell? (ad.add j) = some v) (h1 : ∀ v ∈ xs, v.oneCell' = true)
    (h : ∀ w', w'.ownsRow base 5 1 (.slice (some ⟨g, 0, none⟩) N N) N (xs ++ ys.drop L) → Below g w w' → wpList P ops Q rest (a.put o.dst (goInt L)) w') :
    wpList P ops Q (o :: rest) a w := by
  rcases hown.2 with ⟨h', _⟩ | ⟨g', cap', cur, h', hb, hg, hnc, hcm, hcs, htake⟩
  · simp at h'
  · simp only [Value.slice.injEq, Option.some.injEq, Addr.mk.injEq, and_true, true_and] at h'
    obtain ⟨rfl, rfl⟩ := h'
    have hyl := hown.1
    simp only [Nat.mul_one] at hcs htake hyl
    rw [List.take_of_length_le (by simp [hcs])] at htake
    subst hxs
    refine wpList_copy_splice hgd d s dT sT ho 5 hu hsz _ sp N N _ cap hd hs g 0 cur.toList 5 (by simpa using hg) xs (Nat.min_eq_left hle).symm (fun hp => ⟨rfl, hsrc hp⟩) (by simp [hcs]; omega) h1 g w (Below.refl _ _) (Nat.le_refl _) ?_
    intro w' hh hbel
    refine h w' ⟨by simp; omega, .inr ⟨g, N, _, rfl, hb, hh.out, Nat.le_refl _, hcm, ?_, ?_⟩⟩ hbel
    · simp [splice, hcs]; omega
    · simp [splice, htake]
      rw [List.take_of_length_le (by simp; omega)]

theorem grown_below {w w' : World} {base : Nat} (hbase : base ≤ w.heap.size) (h : w.grownBy w' none) : Below base w w' := (Below.refl _ _).grown h hbase (fun _ e => by cases e)

theorem src_grown {w w' : World} {L : Nat} {ao : Option Addr} {xs : List Value} (h : w.grownBy w' none) (hsrc : 0 < L → ∃ ad, ao = some ad ∧ ∀ j v, xs[j]? = some v → w.cell? (ad.add j) = some v) :
    0 < L → ∃ ad, ao = some ad ∧ ∀ j v, xs[j]? = some v → w'.cell? (ad.add j) = some v := fun hp => by
  obtain ⟨ad, e, hc⟩ := hsrc hp
  exact ⟨ad, e, fun j v hj => h.cell (hc j v hj) (by simp)⟩

theorem own_cut {w : World} {base g N L n : Nat} {xs zs : List Value} (h : w.ownsRow base 5 1 (.slice (some ⟨g, 0, none⟩) N N) N (xs ++ zs)) (hl : xs.length = L) (hle : L + n ≤ N) :
    ∃ ys, ys.length = n ∧ w.ownsRow base 5 1 (.slice (some ⟨g, 0, none⟩) (L + n) N) (L + n) (xs ++ ys) := by
  have hlen := h.1
  rcases h.2 with ⟨h', _⟩ | ⟨g', cap', cur, h', hb, hg, hnc, hcm, hcs, htake⟩
  · simp at h'
  · simp only [Value.slice.injEq, Option.some.injEq, Addr.mk.injEq, and_true, true_and] at h'
    obtain ⟨rfl, rfl⟩ := h'
    simp only [Nat.mul_one, List.length_append] at hcs htake hlen
    rw [List.take_of_length_le (by simp [hcs])] at htake
    subst hl
    refine ⟨zs.take n, by simp; omega, ⟨by simp; omega, .inr ⟨g, N, cur, rfl, hb, hg, hle, hcm, by simpa using hcs, ?_⟩⟩⟩
    rw [htake, Nat.mul_one, List.take_append, List.take_of_length_le (by omega), Nat.add_sub_cancel_left]

set_option maxRecDepth 100000 in
set_option maxHeartbeats 1000000 in
theorem pad_grow (fb bb base L cap n : Nat) (ao : Option Addr) (ze : Bool) (xs : List Value) (w : World) (hn : 0 < n) (hroom : cap < L + n) (hLc : L ≤ cap) (hsmall : L + n ≤ 2147483647)
    (hM : w.cell? ⟨0, 0, none⟩ = some (.int .i64 2147483647)) (hbb : bb < base) (hfb : fb < base) (hbase : base ≤ w.heap.size)
    (hf0 : w.cell? ⟨fb, 0, none⟩ = some (.pointer (some ⟨bb, 0, none⟩))) (hf7 : w.cell? ⟨fb, 7, none⟩ = some (.bool ze))
    (hbuf : w.heap[bb]? = some (.cells #[.slice ao L cap] 43 (0, 0)))
    (hxl : xs.length = L) (hx1 : ∀ v ∈ xs, v.oneCell' = true) (hsrc : 0 < L → ∃ ad, ao = some ad ∧ ∀ j v, xs[j]? = some v → w.cell? (ad.add j) = some v) :
    Calls Efsg.prog 42 #[.pointer (some ⟨fb, 0, none⟩), .int .i64 n] w fun e w' => e = .returned (.tuple #[]) ∧ ∃ v', w'.heap[bb]? = some (.cells #[v'] 43 (0, 0)) ∧
      w'.ownsRow base 5 1 v' (L + n) (xs ++ List.replicate n (padV ze)) ∧ Fr bb base w w' := by
  have hcb := cell_of_one hbuf
  have hn0 : ¬ n = 0 := by omega
  have hz1 : ¬ (2147483647 : Int) < (L : Int) + (n : Int) := by omega
  have hz2 : (cap : Int) < (L : Int) + (n : Int) := by omega
  have hz3 : L + n - L = n := by omega
  obtain ⟨i0, hi, hi0, hi1, hi2⟩ := info_parts Efsg.info5
  have hs5 : (Efsg.prog.info? 5).map (·.size) = some 1 := by rw [hi]; simp [hi1]
  cases ze
  · go_enter Efsg.func42, Efsg.ntmps42
    go_wp2_with (first | (at_make; refine wpList_make_full _ rfl _ _ 43 rfl base 5 i0 (.int .u8 0) 1 Efsg.underlying43 hi hi0 hi1 _ _ _ _ (cap * 2 + n) rfl rfl (by omega) (by omega) (by rw [hi2]; omega) (by unfold maxLen; omega) hbase ?_; intro w1 hown1 hgr1; have hb1 := grown_below hbase hgr1; have hf0a := (hb1.cell (p := ⟨fb, 0, none⟩) hfb).trans hf0; have hcba := (hb1.cell (p := ⟨bb, 0, none⟩) hbb).trans hcb; have hf7a := (hb1.cell (p := ⟨fb, 7, none⟩) hfb).trans hf7) | (refine wpList_copy_head rfl (.tmp 37) (.tmp 43) 43 43 rfl Efsg.underlying43 hs5 ao w.heap.size (cap * 2 + n) L cap base rfl rfl xs _ hown1 hxl (by omega) (src_grown hgr1 hsrc) hx1 ?_; intro w2 hown2 hb2a; have hb2 := hb1.trans (hb2a.mono hbase); have hf7b := (hb2.cell (p := ⟨fb, 7, none⟩) hfb).trans hf7))
    obtain ⟨ys, hys, hlong⟩ := own_cut (L := L) (n := n) hown2 hxl (by omega)
    clear hown1 hown2 hgr1 hb2a hb1
    go_loopw [56] (fun i wr => ∃ k : Nat, k ≤ n ∧ i = .int .i64 k ∧ wr.ownsRow base 5 1 (.slice (some ⟨w.heap.size, 0, none⟩) (L + n) (cap * 2 + n)) (L + n) (fill xs (padV false) ys k) ∧ Below base w wr) (fun i _ => n - (intOf i).toNat)
    case atStart => exact ⟨0, Nat.zero_le _, rfl, by rw [fill_zero]; exact hlong, hb2⟩
    case round =>
      obtain ⟨k, hk, rfl, hw1, hw2⟩ := hrel
      by_cases hlt : k < n
      · obtain ⟨u0, hu0⟩ := own_cell hw1 (j := L + k) (by omega)
        have hfz := hw1.frozenAt (L + k)
        go_wp2
        go_roundw
        case rel => exact ⟨k + 1, by omega, by go_num, pad_step hxl (by omega) hw1, hw2.grown (hw1.stored (L + k) _).2 (by have := hw2.size; omega) (fun _ h => by cases h; exact hbase)⟩
        case measure => simp [intOf]; omega
      · have hf0' := (hw2.cell (p := ⟨fb, 0, none⟩) hfb).trans hf0
        have hcb' := (hw2.cell (p := ⟨bb, 0, none⟩) hbb).trans hcb
        have hfrb := (hw2.frozen (p := ⟨bb, 0, none⟩) hbb).trans (free_of_one hbuf)
        go_wp2
        go_region
        all_goals (go_wp2; go_end0; exact ⟨rfl, pad_end hys (by omega) hbuf hbb hw1 hw2⟩)
  · go_enter Efsg.func42, Efsg.ntmps42
    go_wp2_with (first | (at_make; refine wpList_make_full _ rfl _ _ 43 rfl base 5 i0 (.int .u8 0) 1 Efsg.underlying43 hi hi0 hi1 _ _ _ _ (cap * 2 + n) rfl rfl (by omega) (by omega) (by rw [hi2]; omega) (by unfold maxLen; omega) hbase ?_; intro w1 hown1 hgr1; have hb1 := grown_below hbase hgr1; have hf0a := (hb1.cell (p := ⟨fb, 0, none⟩) hfb).trans hf0; have hcba := (hb1.cell (p := ⟨bb, 0, none⟩) hbb).trans hcb; have hf7a := (hb1.cell (p := ⟨fb, 7, none⟩) hfb).trans hf7) | (refine wpList_copy_head rfl (.tmp 37) (.tmp 43) 43 43 rfl Efsg.underlying43 hs5 ao w.heap.size (cap * 2 + n) L cap base rfl rfl xs _ hown1 hxl (by omega) (src_grown hgr1 hsrc) hx1 ?_; intro w2 hown2 hb2a; have hb2 := hb1.trans (hb2a.mono hbase); have hf7b := (hb2.cell (p := ⟨fb, 7, none⟩) hfb).trans hf7))
    obtain ⟨ys, hys, hlong⟩ := own_cut (L := L) (n := n) hown2 hxl (by omega)
    clear hown1 hown2 hgr1 hb2a hb1
    go_loopw [56] (fun i wr => ∃ k : Nat, k ≤ n ∧ i = .int .i64 k ∧ wr.ownsRow base 5 1 (.slice (some ⟨w.heap.size, 0, none⟩) (L + n) (cap * 2 + n)) (L + n) (fill xs (padV true) ys k) ∧ Below base w wr) (fun i _ => n - (intOf i).toNat)
    case atStart => exact ⟨0, Nat.zero_le _, rfl, by rw [fill_zero]; exact hlong, hb2⟩
    case round =>
      obtain ⟨k, hk, rfl, hw1, hw2⟩ := hrel
      by_cases hlt : k < n
      · obtain ⟨u0, hu0⟩ := own_cell hw1 (j := L + k) (by omega)
        have hfz := hw1.frozenAt (L + k)
        go_wp2
        go_roundw
        case rel => exact ⟨k + 1, by omega, by go_num, pad_step hxl (by omega) hw1, hw2.grown (hw1.stored (L + k) _).2 (by have := hw2.size; omega) (fun _ h => by cases h; exact hbase)⟩
        case measure => simp [intOf]; omega
      · have hf0' := (hw2.cell (p := ⟨fb, 0, none⟩) hfb).trans hf0
        have hcb' := (hw2.cell (p := ⟨bb, 0, none⟩) hbb).trans hcb
        have hfrb := (hw2.frozen (p := ⟨bb, 0, none⟩) hbb).trans (free_of_one hbuf)
        go_wp2
        go_region
        all_goals (go_wp2; go_end0; exact ⟨rfl, pad_end hys (by omega) hbuf hbb hw1 hw2⟩)
end Go.Proofs.YoefswDoor
