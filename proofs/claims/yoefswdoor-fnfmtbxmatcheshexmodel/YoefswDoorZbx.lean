/-
  fmtBx and ZZfmtBx by contract.
-/
import Derived.Test.YoefswDoorSbxB
namespace Go.Proofs.YoefswDoor
open Go.RowKit

set_option maxRecDepth 100000 in
set_option maxHeartbeats 400000 in
theorem fmtBx_any (fb bb base wid prec N gb cap : Nat) (S : List UInt8) (dg : ByteArray) (wp pp mi sh sp ze : Bool) (w : World) (hs : S.length ≤ 1048576) (hwid : wid ≤ 65536) (hdg : dg.size = 17)
    (h0bb : 0 < bb) (hbb : bb < base) (hfb : fb < base) (hne : fb ≠ bb) (hbase : base ≤ w.heap.size) (hF : FmtAt w fb bb wp pp mi sh sp ze wid prec) (hbuf : Buf w bb base []) (hN : Hid (effN pp prec S.length = N)) (hNs : N ≤ S.length) (hgb : gb < base) (hgn : gb ≠ bb)
    (hsrc : Hid (∀ k, k < S.length → w.cell? ⟨gb, k, none⟩ = some (.int .u8 ((S.getD k 0).toNat : Int)))) :
    Calls Efsg.prog 31 #[.pointer (some ⟨fb, 0, none⟩), .slice (some ⟨gb, 0, none⟩) S.length cap, .string dg] w fun e w' => e = .returned (.tuple #[]) ∧
      Buf w' bb base (fmtHex dg.data.toList wid wp mi sh sp ze S N) ∧ Fr bb base w w' := by
  have HF : Hid (FmtAt w fb bb wp pp mi sh sp ze wid prec) := hF
  clear hF
  go_enter Efsg.func31, Efsg.ntmps31
  go_wp2_with (go_at_call 34; refine (sbxB fb bb base wid prec N gb cap S dg wp pp mi sh sp ze _ hs hwid hdg h0bb hbb hfb hne hbase HF.out hbuf hN hNs hgb hgn hsrc).mono ?_; rintro e w' ⟨rfl, hb1, hb2⟩)
  go_end0
  exact ⟨rfl, hb1, hb2⟩

set_option maxRecDepth 100000 in
set_option maxHeartbeats 400000 in
theorem fmtBx_nil (fb bb base wid prec N : Nat) (dg : ByteArray) (wp pp mi sh sp ze : Bool) (w : World) (hwid : wid ≤ 65536) (hdg : dg.size = 17)
    (h0bb : 0 < bb) (hbb : bb < base) (hfb : fb < base) (hne : fb ≠ bb) (hbase : base ≤ w.heap.size) (hF : FmtAt w fb bb wp pp mi sh sp ze wid prec) (hbuf : Buf w bb base []) (hN : Hid (effN pp prec 0 = N)) (hNs : N ≤ 0) :
    Calls Efsg.prog 31 #[.pointer (some ⟨fb, 0, none⟩), .slice none 0 0, .string dg] w fun e w' => e = .returned (.tuple #[]) ∧
      Buf w' bb base (fmtHex dg.data.toList wid wp mi sh sp ze [] N) ∧ Fr bb base w w' := by
  have HF : Hid (FmtAt w fb bb wp pp mi sh sp ze wid prec) := hF
  clear hF
  go_enter Efsg.func31, Efsg.ntmps31
  go_wp2_with (go_at_call 34; refine (sbxS fb bb base wid prec N ⟨#[]⟩ dg wp pp mi sh sp ze _ (Nat.zero_le _) hwid hdg h0bb hbb hfb hne hbase HF.out hbuf hN hNs).mono ?_; rintro e w' ⟨rfl, hb1, hb2⟩)
  go_end0
  exact ⟨rfl, hb1, hb2⟩

theorem src_new {w : World} {gb : Nat} {S : List UInt8} {o1 o2 : Obj} (hgb : gb < w.heap.size) (h : Hid (∀ k, k < S.length → w.cell? ⟨gb, k, none⟩ = some (.int .u8 ((S.getD k 0).toNat : Int)))) :
    Hid (∀ k, k < S.length → ((w.alloc o1).alloc o2).cell? ⟨gb, k, none⟩ = some (.int .u8 ((S.getD k 0).toNat : Int))) := by
  intro k hk
  rw [World.cell?_alloc_lt _ _ _ (by simp; omega), World.cell?_alloc_lt _ _ _ (by simpa using hgb)]
  exact h.out k hk

set_option maxRecDepth 100000 in
set_option maxHeartbeats 400000 in
theorem zzBx_any (wid prec N gb cap : Nat) (S : List UInt8) (dg : ByteArray) (wp pp mi pl sh sp ze : Bool) (w : World) (hs : S.length ≤ 1048576) (hwid : wid ≤ 65536) (hdg : dg.size = 17)
    (hM : w.cell? ⟨0, 0, none⟩ = some (.int .i64 2147483647)) (hN : Hid (effN pp prec S.length = N)) (hNs : N ≤ S.length) (hgb : gb < w.heap.size)
    (hsrc : Hid (∀ k, k < S.length → w.cell? ⟨gb, k, none⟩ = some (.int .u8 ((S.getD k 0).toNat : Int)))) :
    Calls Efsg.prog 19 #[.slice (some ⟨gb, 0, none⟩) S.length cap, .string dg, .int .i64 wid, .int .i64 prec, .bool wp, .bool pp, .bool mi, .bool pl, .bool sh, .bool sp, .bool ze] w fun e w' =>
      e = .returned (.string ⟨(fmtHex dg.data.toList wid wp mi sh sp ze S N).toArray⟩) ∧ Below w.heap.size w w' := by
  have hz : 0 < w.heap.size := World.block_lt_of_cell? w ⟨0, 0, none⟩ hM
  go_enter Efsg.func19, Efsg.ntmps19
  go_wp2_with (go_at_call 31; refine (fmtBx_any (w.heap.size + 1) w.heap.size (w.heap.size + 2) wid prec N gb cap S dg wp pp mi sh sp ze _ hs hwid hdg hz (by omega) (by omega) (by omega) (by simp) (fmtAt_new wid prec wp pp mi pl sh sp ze w hM) (buf_new w _) hN hNs (by omega) (by omega) (src_new hgb hsrc)).mono ?_; rintro e w' ⟨rfl, hb1, hb2⟩; obtain ⟨v, hv, hown⟩ := hb1; have hcv := cell_of_one hv; have hcn := conv_own 43 Efsg.underlying43 hown)
  go_ret
  exact ⟨rfl, below_new hb2⟩
set_option maxRecDepth 100000 in
set_option maxHeartbeats 400000 in
theorem zzBx_nil (wid prec N : Nat) (dg : ByteArray) (wp pp mi pl sh sp ze : Bool) (w : World) (hwid : wid ≤ 65536) (hdg : dg.size = 17)
    (hM : w.cell? ⟨0, 0, none⟩ = some (.int .i64 2147483647)) (hN : Hid (effN pp prec 0 = N)) (hNs : N ≤ 0) :
    Calls Efsg.prog 19 #[.slice none 0 0, .string dg, .int .i64 wid, .int .i64 prec, .bool wp, .bool pp, .bool mi, .bool pl, .bool sh, .bool sp, .bool ze] w fun e w' =>
      e = .returned (.string ⟨(fmtHex dg.data.toList wid wp mi sh sp ze [] N).toArray⟩) ∧ Below w.heap.size w w' := by
  have hz : 0 < w.heap.size := World.block_lt_of_cell? w ⟨0, 0, none⟩ hM
  go_enter Efsg.func19, Efsg.ntmps19
  go_wp2_with (go_at_call 31; refine (fmtBx_nil (w.heap.size + 1) w.heap.size (w.heap.size + 2) wid prec N dg wp pp mi sh sp ze _ hwid hdg hz (by omega) (by omega) (by omega) (by simp) (fmtAt_new wid prec wp pp mi pl sh sp ze w hM) (buf_new w _) hN hNs).mono ?_; rintro e w' ⟨rfl, hb1, hb2⟩; obtain ⟨v, hv, hown⟩ := hb1; have hcv := cell_of_one hv; have hcn := conv_own 43 Efsg.underlying43 hown)
  go_ret
  exact ⟨rfl, below_new hb2⟩
end Go.Proofs.YoefswDoor
