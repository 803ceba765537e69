/-
  fmtSx and ZZfmtSx by contract.
-/
import Derived.Test.YoefswDoorSbx
namespace Go.Proofs.YoefswDoor
open Go.RowKit

set_option maxRecDepth 100000 in
set_option maxHeartbeats 400000 in
theorem fmtSx_any (fb bb base wid prec N : Nat) (s dg : ByteArray) (wp pp mi sh sp ze : Bool) (w : World) (hs : s.size ≤ 1048576) (hwid : wid ≤ 65536) (hdg : dg.size = 17)
    (h0bb : 0 < bb) (hbb : bb < base) (hfb : fb < base) (hne : fb ≠ bb) (hbase : base ≤ w.heap.size) (hF : FmtAt w fb bb wp pp mi sh sp ze wid prec) (hbuf : Buf w bb base []) (hN : Hid (effN pp prec s.size = N)) (hNs : N ≤ s.size) :
    Calls Efsg.prog 29 #[.pointer (some ⟨fb, 0, none⟩), .string s, .string dg] w fun e w' => e = .returned (.tuple #[]) ∧
      Buf w' bb base (fmtHex dg.data.toList wid wp mi sh sp ze s.data.toList N) ∧ Fr bb base w w' := by
  have HF : Hid (FmtAt w fb bb wp pp mi sh sp ze wid prec) := hF
  clear hF
  go_enter Efsg.func29, Efsg.ntmps29
  go_wp2_with (go_at_call 34; refine (sbxS fb bb base wid prec N s dg wp pp mi sh sp ze _ hs hwid hdg h0bb hbb hfb hne hbase HF.out hbuf hN hNs).mono ?_; rintro e w' ⟨rfl, hb1, hb2⟩)
  go_end0
  exact ⟨rfl, hb1, hb2⟩

/-- The formatter as the shim lays it. -/
theorem fmtAt_new (wid prec : Nat) (wp pp mi pl sh sp ze : Bool) (w : World) (hM : w.cell? ⟨0, 0, none⟩ = some (.int .i64 2147483647)) :
    FmtAt ((w.alloc (.cells #[.slice none 0 0] 43)).alloc (.cells (((((((((((((((Efsg.zeroCells50.setIfInBounds 0 (.pointer (some ⟨w.heap.size, 0, none⟩))).setIfInBounds 1 (.bool wp)).setIfInBounds 2 (.bool pp)).setIfInBounds 3 (.bool mi)).setIfInBounds 4 (.bool pl)).setIfInBounds 5 (.bool sh)).setIfInBounds 6 (.bool sp)).setIfInBounds 7 (.bool ze)).setIfInBounds 8 (.bool false)).setIfInBounds 9 (.bool false)).setIfInBounds 10 (.bool false)).setIfInBounds 11 (.bool false)).setIfInBounds 12 (.bool false)).setIfInBounds 13 (.int .i64 (wid : Int))).setIfInBounds 14 (.int .i64 (prec : Int))) 50)) (w.heap.size + 1) w.heap.size wp pp mi sh sp ze wid prec := by
  have hs := Efsg.zeroCells50_size
  have hz : 0 < w.heap.size := World.block_lt_of_cell? w ⟨0, 0, none⟩ hM
  have hnew : ∀ (C : Array Value) (j : Nat), ((w.alloc (.cells #[.slice none 0 0] 43)).alloc (.cells C 50)).cell? ⟨w.heap.size + 1, j, none⟩ = C[j]? := fun C j => by
    simp
  refine ⟨?_, ?_, ?_, ?_, ?_, ?_, ?_, ?_, ?_, ?_⟩
  · rw [World.cell?_alloc_lt _ _ _ (by simp), World.cell?_alloc_lt _ _ _ (by simpa using hz)]
    exact hM
  all_goals
    rw [hnew]
    simp [hs]

theorem buf_new (w : World) (o : Obj) : Buf ((w.alloc (.cells #[.slice none 0 0] 43)).alloc o) w.heap.size (w.heap.size + 2) [] := by
  refine ⟨.slice none 0 0, ?_, World.ownsRow_nil _ _ _ _⟩
  rw [Below.heap_alloc _ _ _ (by simp)]
  exact heap_alloc_new w _

theorem below_new {w w' : World} {o1 o2 : Obj} (h : Fr w.heap.size (w.heap.size + 2) ((w.alloc o1).alloc o2) w') : Below w.heap.size w w' :=
  (((Below.refl _ w).alloc (Nat.le_refl _) o1).alloc (by simp) o2).trans (h.below (by omega))

/-- 'string(b)', b an owned row of bytes. -/
theorem conv_own {w : World} {base : Nat} {v : Value} {bs : List UInt8} (t : TypeId) (ht : Efsg.prog.underlying t = some (.slice 5)) (h : Owns w base v bs) : (convert t 9 v).run Efsg.prog w = .ok (.string ⟨bs.toArray⟩) w := by
  rcases h.2 with ⟨rfl, hl⟩ | ⟨g, cap, cur, rfl, _⟩
  · obtain rfl : bs = [] := List.eq_nil_of_length_eq_zero hl
    exact run_convert_bytes_nil w t 5 ht Efsg.underlying5 0 0 9 Efsg.underlying9
  · refine run_convert_bytes_back w t 9 5 ⟨g, 0, none⟩ cap bs ht Efsg.underlying5 Efsg.underlying9 fun j hj => ?_
    refine World.ownsRow.cells h rfl j _ ?_
    simp [bv, List.getElem?_eq_getElem hj]

set_option maxRecDepth 100000 in
set_option maxHeartbeats 400000 in
theorem zzSx_any (wid prec N : Nat) (s dg : ByteArray) (wp pp mi pl sh sp ze : Bool) (w : World) (hs : s.size ≤ 1048576) (hwid : wid ≤ 65536) (hdg : dg.size = 17)
    (hM : w.cell? ⟨0, 0, none⟩ = some (.int .i64 2147483647)) (hN : Hid (effN pp prec s.size = N)) (hNs : N ≤ s.size) :
    Calls Efsg.prog 12 #[.string s, .string dg, .int .i64 wid, .int .i64 prec, .bool wp, .bool pp, .bool mi, .bool pl, .bool sh, .bool sp, .bool ze] w fun e w' =>
      e = .returned (.string ⟨(fmtHex dg.data.toList wid wp mi sh sp ze s.data.toList N).toArray⟩) ∧ Below w.heap.size w w' := by
  have hz : 0 < w.heap.size := World.block_lt_of_cell? w ⟨0, 0, none⟩ hM
  go_enter Efsg.func12, Efsg.ntmps12
  go_wp2_with (go_at_call 29; refine (fmtSx_any (w.heap.size + 1) w.heap.size (w.heap.size + 2) wid prec N s dg wp pp mi sh sp ze _ hs hwid hdg hz (by omega) (by omega) (by omega) (by simp) (fmtAt_new wid prec wp pp mi pl sh sp ze w hM) (buf_new w _) hN hNs).mono ?_; rintro e w' ⟨rfl, hb1, hb2⟩; obtain ⟨v, hv, hown⟩ := hb1; have hcv := cell_of_one hv; have hcn := conv_own 43 Efsg.underlying43 hown)
  go_ret
  exact ⟨rfl, below_new hb2⟩
end Go.Proofs.YoefswDoor
