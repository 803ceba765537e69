/-
  fmtC and ZZfmtC by contract.
-/
import Derived.Test.YoefswDoorFpad
import Derived.Test.YoefswDoorOne
namespace Go.Proofs.YoefswDoor
open Go.RowKit

theorem fpad_any (fb bb base wid prec : Nat) (ns : List UInt8) (wp pp mi sh sp ze : Bool) (w : World) (hwid : wid ≤ 65536) (hns : Hid (OneRune ns))
    (h0bb : 0 < bb) (hbb : bb < base) (hfb : fb < base) (hne : fb ≠ bb) (hbase : base ≤ w.heap.size) (hF : Hid (FmtAt w fb bb wp pp mi sh sp ze wid prec)) (hbuf : Hid (Buf w bb base [])) (hsrc : Hid (Src w fb ns)) :
    Calls Efsg.prog 38 #[.pointer (some ⟨fb, 0, none⟩), .slice (some ⟨fb, 15, none⟩) ns.length 68] w fun e w' => e = .returned (.tuple #[]) ∧ Buf w' bb base (padded.padTo (cond wp (wid - 1) 0) mi ze ns) ∧ Fr bb base w w' := by
  by_cases h : wp = true ∧ 0 < wid
  · obtain ⟨rfl, hw0⟩ := h
    exact fpad_wide fb bb base wid prec ns pp mi sh sp ze w hwid hw0 hns hns.out.le h0bb hbb hfb hne hbase hF.out hbuf.out hsrc
  · refine (fpad_plain fb bb base wid prec ns wp pp mi sh sp ze w (fun e => Nat.le_zero.1 (Nat.le_of_not_lt fun q => h ⟨e, q⟩)) hns.out.le hbb hbase hF.out hbuf.out hsrc).mono ?_
    rintro e w' ⟨rfl, h1, h2⟩
    have h0 : cond wp (wid - 1) 0 = 0 := by
      cases wp
      · rfl
      · have : ¬ 0 < wid := fun q => h ⟨rfl, q⟩
        show wid - 1 = 0
        omega
    refine ⟨rfl, ?_, h2⟩
    rw [h0]
    cases mi <;> simpa [padded.padTo] using h1

theorem heap_setCells {k fb : Nat} (hk : k ≠ fb) : ∀ (vs : List Value) (o : Nat) (w : World), (w.setCells fb o vs).heap[k]? = w.heap[k]?
  | [], _, _ => rfl
  | v :: r, o, w => by rw [World.setCells, heap_setCells hk r (o + 1), Below.heap_setCell _ _ _ _ hk]
theorem size_setCells {fb : Nat} : ∀ (vs : List Value) (o : Nat) (w : World), (w.setCells fb o vs).heap.size = w.heap.size
  | [], _, _ => rfl
  | v :: r, o, w => by rw [World.setCells, size_setCells r (o + 1)]; simp
theorem rest_setCells {fb : Nat} : ∀ (vs : List Value) (o : Nat) (w : World), (w.setCells fb o vs).os = w.os ∧ (w.setCells fb o vs).tape = w.tape ∧ (w.setCells fb o vs).output = w.output
  | [], _, _ => ⟨rfl, rfl, rfl⟩
  | v :: r, o, w => by rw [World.setCells]; exact rest_setCells r (o + 1) _

theorem below_cells {B fb : Nat} (hB : B ≤ fb) (vs : List Value) (o : Nat) (w : World) : Below B w (w.setCells fb o vs) :=
  ⟨(rest_setCells vs o w).1, (rest_setCells vs o w).2.1, (rest_setCells vs o w).2.2, Nat.le_of_eq (size_setCells vs o w).symm, fun k hk => heap_setCells (by omega) vs o w⟩

theorem FmtAt.cells {w : World} {fb bb : Nat} {wp pp mi sh sp ze : Bool} {wid prec : Int} (h : FmtAt w fb bb wp pp mi sh sp ze wid prec) (hfb : 0 < fb) (vs : List Value) : FmtAt (w.setCells fb 15 vs) fb bb wp pp mi sh sp ze wid prec := by
  have out : ∀ j, j < 15 → (w.setCells fb 15 vs).cell? ⟨fb, j, none⟩ = w.cell? ⟨fb, j, none⟩ := fun j hj => World.cell?_setCells_out fb vs 15 w ⟨fb, j, none⟩ (fun _ _ => Or.inl hj)
  exact ⟨(World.cell?_setCells_out fb vs 15 w ⟨0, 0, none⟩ (fun e _ => by simp at e; omega)).trans h.gM, (out 0 (by decide)).trans h.f0, (out 1 (by decide)).trans h.f1, (out 2 (by decide)).trans h.f2, (out 3 (by decide)).trans h.f3,
    (out 5 (by decide)).trans h.f5, (out 6 (by decide)).trans h.f6, (out 7 (by decide)).trans h.f7, (out 13 (by decide)).trans h.f13, (out 14 (by decide)).trans h.f14⟩

theorem Buf.cells {w : World} {fb bb base : Nat} {bs : List UInt8} (h : Buf w bb base bs) (hne : fb ≠ bb) (hfb : fb < base) (vs : List Value) : Buf (w.setCells fb 15 vs) bb base bs := by
  obtain ⟨v, h1, h2⟩ := h
  exact ⟨v, (heap_setCells hne.symm vs 15 w).trans h1, Owns.below h2 fun k hk => heap_setCells (by have := (World.ownsRow.lt h2 k hk).1; omega) vs 15 w⟩

theorem src_cells {w : World} {fb : Nat} {ns : List UInt8} (h4 : Four w fb) (hl : ns.length ≤ 4) : Src (w.setCells fb 15 (bv ns)) fb ns := fun j u hj => by
  have hjl : j < (bv ns).length := (List.getElem?_eq_some_iff.1 hj).1
  rw [Addr.add_lit, World.cell?_setCells_in fb (bv ns) 15 w (fun i hi => by
    rw [bv_length] at hi
    obtain ⟨⟨c, hc⟩, _⟩ := h4 i (by omega)
    rw [hc]; rfl) j hjl, ← hj, List.getElem?_eq_getElem hjl]

set_option maxRecDepth 100000 in
set_option maxHeartbeats 1000000 in
theorem fmtC_in (fb bb base wid prec c : Nat) (wp pp mi sh sp ze : Bool) (w : World) (hc : c ≤ 1114111) (hwid : wid ≤ 65536)
    (h0bb : 0 < bb) (hbb : bb < fb) (hfb : fb < base) (hbase : base ≤ w.heap.size) (hF : Hid (FmtAt w fb bb wp pp mi sh sp ze wid prec)) (hbuf : Hid (Buf w bb base [])) (h4 : Hid (Four w fb)) :
    Calls Efsg.prog 33 #[.pointer (some ⟨fb, 0, none⟩), .int .u64 c] w fun e w' => e = .returned (.tuple #[]) ∧ Buf w' bb base (padded.padTo (cond wp (wid - 1) 0) mi ze (enc (mend c))) ∧ Below bb w w' := by
  obtain ⟨ns, hns⟩ : ∃ ns, ns = enc (mend c) := ⟨_, rfl⟩
  have Hns : Hid (ns = enc (mend c)) := hns
  have Hone : Hid (OneRune ns) := by unfold Hid; rw [hns]; exact oneRune_enc (scal_mend c)
  have hle : ns.length ≤ 4 := Hone.out.le
  have hpos : 0 < ns.length := Hone.out.pos
  rw [← hns]
  clear hns
  go_enter Efsg.func33, Efsg.ntmps33
  go_wp2_with fail
  refine (encode_any fb c w hc h4.out).mono ?_
  rintro e w1 ⟨rfl, hw1⟩
  rw [← Hns.out] at hw1 ⊢
  have hF1 : Hid (FmtAt w1 fb bb wp pp mi sh sp ze wid prec) := by unfold Hid; rw [hw1]; exact hF.out.cells (by omega) _
  have hB1 : Hid (Buf w1 bb base []) := by unfold Hid; rw [hw1]; exact hbuf.out.cells (by omega) hfb _
  have hS1 : Hid (Src w1 fb ns) := by unfold Hid; rw [hw1]; exact src_cells h4.out hle
  have hb1 : Below bb w w1 := by rw [hw1]; exact below_cells (by omega) _ _ _
  have hbw1 : base ≤ w1.heap.size := by rw [hw1, size_setCells]; exact hbase
  clear hw1
  go_wp2_with fail
  refine (fpad_any fb bb base wid prec ns wp pp mi sh sp ze w1 hwid Hone h0bb (by omega) hfb (by omega) hbw1 hF1 hB1 hS1).mono ?_
  rintro e w2 ⟨rfl, hb2, hfr2⟩
  go_wp2_with fail
  go_end0
  exact ⟨rfl, hb2, hb1.trans (hfr2.below (by omega))⟩

set_option maxRecDepth 100000 in
set_option maxHeartbeats 1000000 in
theorem fmtC_out (fb bb base wid prec c : Nat) (wp pp mi sh sp ze : Bool) (w : World) (hc : 1114111 < (c : Int)) (hwid : wid ≤ 65536)
    (h0bb : 0 < bb) (hbb : bb < fb) (hfb : fb < base) (hbase : base ≤ w.heap.size) (hF : Hid (FmtAt w fb bb wp pp mi sh sp ze wid prec)) (hbuf : Hid (Buf w bb base [])) (h4 : Hid (Four w fb)) :
    Calls Efsg.prog 33 #[.pointer (some ⟨fb, 0, none⟩), .int .u64 c] w fun e w' => e = .returned (.tuple #[]) ∧ Buf w' bb base (padded.padTo (cond wp (wid - 1) 0) mi ze (enc (mend c))) ∧ Below bb w w' := by
  have hm : mend c = mend 65533 := by rw [mend_not (by simp [scal]; omega)]; rfl
  rw [hm]
  clear hm
  obtain ⟨ns, hns⟩ : ∃ ns, ns = enc (mend 65533) := ⟨_, rfl⟩
  have Hns : Hid (ns = enc (mend 65533)) := hns
  have Hone : Hid (OneRune ns) := by unfold Hid; rw [hns]; exact oneRune_enc (scal_mend 65533)
  have hle : ns.length ≤ 4 := Hone.out.le
  have hpos : 0 < ns.length := Hone.out.pos
  rw [← hns]
  clear hns
  go_enter Efsg.func33, Efsg.ntmps33
  go_wp2_with fail
  refine (encode_any fb 65533 w (by decide) h4.out).mono ?_
  rintro e w1 ⟨rfl, hw1⟩
  rw [← Hns.out] at hw1 ⊢
  have hF1 : Hid (FmtAt w1 fb bb wp pp mi sh sp ze wid prec) := by unfold Hid; rw [hw1]; exact hF.out.cells (by omega) _
  have hB1 : Hid (Buf w1 bb base []) := by unfold Hid; rw [hw1]; exact hbuf.out.cells (by omega) hfb _
  have hS1 : Hid (Src w1 fb ns) := by unfold Hid; rw [hw1]; exact src_cells h4.out hle
  have hb1 : Below bb w w1 := by rw [hw1]; exact below_cells (by omega) _ _ _
  have hbw1 : base ≤ w1.heap.size := by rw [hw1, size_setCells]; exact hbase
  clear hw1
  go_wp2_with fail
  refine (fpad_any fb bb base wid prec ns wp pp mi sh sp ze w1 hwid Hone h0bb (by omega) hfb (by omega) hbw1 hF1 hB1 hS1).mono ?_
  rintro e w2 ⟨rfl, hb2, hfr2⟩
  go_wp2_with fail
  go_end0
  exact ⟨rfl, hb2, hb1.trans (hfr2.below (by omega))⟩

theorem fmtC_any (fb bb base wid prec c : Nat) (wp pp mi sh sp ze : Bool) (w : World) (hwid : wid ≤ 65536)
    (h0bb : 0 < bb) (hbb : bb < fb) (hfb : fb < base) (hbase : base ≤ w.heap.size) (hF : Hid (FmtAt w fb bb wp pp mi sh sp ze wid prec)) (hbuf : Hid (Buf w bb base [])) (h4 : Hid (Four w fb)) :
    Calls Efsg.prog 33 #[.pointer (some ⟨fb, 0, none⟩), .int .u64 c] w fun e w' => e = .returned (.tuple #[]) ∧ Buf w' bb base (padded.padTo (cond wp (wid - 1) 0) mi ze (enc (mend c))) ∧ Below bb w w' := by
  by_cases h : c ≤ 1114111
  · exact fmtC_in fb bb base wid prec c wp pp mi sh sp ze w h hwid h0bb hbb hfb hbase hF hbuf h4
  · exact fmtC_out fb bb base wid prec c wp pp mi sh sp ze w (by omega) hwid h0bb hbb hfb hbase hF hbuf h4

/-- The intbuf's cells as the shim lays them. -/
theorem four_new (wid prec : Nat) (wp pp mi pl sh sp ze : Bool) (w : World) : Hid (Four ((w.alloc (.cells #[.slice none 0 0] 43)).alloc (.cells (((((((((((((((Efsg.zeroCells50.setIfInBounds 0 (.pointer (some ⟨w.heap.size, 0, none⟩))).setIfInBounds 1 (.bool wp)).setIfInBounds 2 (.bool pp)).setIfInBounds 3 (.bool mi)).setIfInBounds 4 (.bool pl)).setIfInBounds 5 (.bool sh)).setIfInBounds 6 (.bool sp)).setIfInBounds 7 (.bool ze)).setIfInBounds 8 (.bool false)).setIfInBounds 9 (.bool false)).setIfInBounds 10 (.bool false)).setIfInBounds 11 (.bool false)).setIfInBounds 12 (.bool false)).setIfInBounds 13 (.int .i64 (wid : Int))).setIfInBounds 14 (.int .i64 (prec : Int))) 50)) (w.heap.size + 1)) := by
  have hs := Efsg.zeroCells50_size
  intro j hj
  have hnew : ∀ (C : Array Value) (j : Nat), ((w.alloc (.cells #[.slice none 0 0] 43)).alloc (.cells C 50)).cell? ⟨w.heap.size + 1, j, none⟩ = C[j]? := fun C j => by
    simp
  have hfr : ∀ (C : Array Value) (j : Nat), ((w.alloc (.cells #[.slice none 0 0] 43)).alloc (.cells C 50)).frozen? ⟨w.heap.size + 1, j, none⟩ = false := fun C j => by
    simp
  refine ⟨?_, hfr _ _⟩
  rw [hnew]
  exact ⟨_, Array.getElem?_eq_getElem (by simp [hs]; omega)⟩

set_option maxRecDepth 100000 in
set_option maxHeartbeats 400000 in
theorem zzC_any (wid prec c : Nat) (wp pp mi pl sh sp ze : Bool) (w : World) (hwid : wid ≤ 65536) (hM : w.cell? ⟨0, 0, none⟩ = some (.int .i64 2147483647)) :
    Calls Efsg.prog 26 #[.int .u64 c, .int .i64 wid, .int .i64 prec, .bool wp, .bool pp, .bool mi, .bool pl, .bool sh, .bool sp, .bool ze] w fun e w' =>
      e = .returned (.string ⟨(padded.padTo (cond wp (wid - 1) 0) mi ze (enc (mend c))).toArray⟩) ∧ Below w.heap.size w w' := by
  have hz : 0 < w.heap.size := World.block_lt_of_cell? w ⟨0, 0, none⟩ hM
  obtain ⟨X, hX⟩ : ∃ X, X = padded.padTo (cond wp (wid - 1) 0) mi ze (enc (mend c)) := ⟨_, rfl⟩
  have HX : Hid (X = padded.padTo (cond wp (wid - 1) 0) mi ze (enc (mend c))) := hX
  rw [← hX]
  clear hX
  go_enter Efsg.func26, Efsg.ntmps26
  go_wp2_with fail
  refine (fmtC_any (w.heap.size + 1) w.heap.size (w.heap.size + 2) wid prec c wp pp mi sh sp ze _ hwid hz (by omega) (by omega) (by simp) (fmtAt_new wid prec wp pp mi pl sh sp ze w hM) (buf_new w _) (four_new wid prec wp pp mi pl sh sp ze w)).mono ?_
  rintro e w' ⟨rfl, hb1, hb2⟩
  rw [← HX.out] at hb1
  obtain ⟨v, hv, hown⟩ := hb1
  have hcv := cell_of_one hv
  have hcn := conv_own 43 Efsg.underlying43 hown
  have hbel : Below w.heap.size w w' := (((Below.refl _ w).alloc (Nat.le_refl _) _).alloc (by simp) _).trans hb2
  clear hb2 hown
  go_wp2
  go_ret
  exact ⟨rfl, hbel⟩
end Go.Proofs.YoefswDoor
