/-
  (*formatter).pad of one encoded rune that lies in the formatter's intbuf, by contract.
-/
import Derived.Test.YoefswDoorRune
import Derived.Deep.RegionWith
import Derived.Deep.DeepCutAuto
namespace Go.Proofs.YoefswDoor
open Go.RowKit

/-- The bytes lie in the intbuf. -/
def Src (w : World) (fb : Nat) (ns : List UInt8) : Prop := ∀ j u, (bv ns)[j]? = some u → w.cell? ((⟨fb, 15, none⟩ : Addr).add j) = some u

theorem Src.fr {w w' : World} {fb bb base : Nat} {ns : List UInt8} (h : Src w fb ns) (hf : Fr bb base w w') (h1 : fb < base) (h2 : fb ≠ bb) : Src w' fb ns := fun j u hj => by
  have := h j u hj
  rw [Addr.add_lit] at this ⊢
  exact (hf.cell (p := ⟨fb, 15 + j, none⟩) h1 h2).trans this

theorem wrap_in {x : Int} (h1 : -9223372036854775808 ≤ x) (h2 : x ≤ 9223372036854775807) : IntKind.i64.wrap x = x := by
  rw [IntKind.wrap_i64]
  omega

theorem Buf.later {w w' : World} {bb base : Nat} {bs : List UInt8} (h : Buf w bb base bs) (hb : Below w.heap.size w w') (hbb : bb < w.heap.size) : Buf w' bb base bs := by
  obtain ⟨v, h1, h2⟩ := h
  exact ⟨v, (hb.block bb hbb).trans h1, Owns.later h2 hb⟩

set_option maxRecDepth 100000 in
set_option maxHeartbeats 1000000 in
theorem fpad_plain (fb bb base wid prec : Nat) (ns : List UInt8) (wp pp mi sh sp ze : Bool) (w : World) (hwp : wp = true → wid = 0) (hns : ns.length ≤ 4)
    (hbb : bb < base) (hbase : base ≤ w.heap.size) (hF : FmtAt w fb bb wp pp mi sh sp ze wid prec) (hbuf : Buf w bb base []) (hsrc : Hid (Src w fb ns)) :
    Calls Efsg.prog 38 #[.pointer (some ⟨fb, 0, none⟩), .slice (some ⟨fb, 15, none⟩) ns.length 68] w fun e w' => e = .returned (.tuple #[]) ∧ Buf w' bb base ns ∧ Fr bb base w w' := by
  obtain ⟨hM, hf0, hf1, hf2, hf3, hf5, hf6, hf7, hf13, hf14⟩ := hF
  have Hbuf : Hid (Buf w bb base []) := hbuf
  clear hbuf
  cases wp
  · clear hwp
    go_enter Efsg.func38, Efsg.ntmps38
    go_wp2_with (go_at_call 46; refine (write_any fb bb base 68 [] ns w hM hbb hbase Hbuf.out hsrc (by simp; omega)).mono ?_; rintro e w' ⟨rfl, hb1, hb2⟩)
    first | go_end0 | refine bodyPost_ret (results_none rfl _ _ _) rfl ?_
    exact ⟨rfl, by simpa using hb1, hb2⟩
  · have hw0 : wid = 0 := hwp rfl
    subst hw0
    clear hwp
    go_enter Efsg.func38, Efsg.ntmps38
    go_wp2_with (go_at_call 46; refine (write_any fb bb base 68 [] ns w hM hbb hbase Hbuf.out hsrc (by simp; omega)).mono ?_; rintro e w' ⟨rfl, hb1, hb2⟩)
    first | go_end0 | refine bodyPost_ret (results_none rfl _ _ _) rfl ?_
    exact ⟨rfl, by simpa using hb1, hb2⟩

set_option maxRecDepth 100000 in
set_option maxHeartbeats 1000000 in
theorem fpad_wide (fb bb base wid prec : Nat) (ns : List UInt8) (pp mi sh sp ze : Bool) (w : World) (hwid : wid ≤ 65536) (hw0 : 0 < wid) (hns : Hid (OneRune ns)) (hns4 : ns.length ≤ 4)
    (h0bb : 0 < bb) (hbb : bb < base) (hfb : fb < base) (hne : fb ≠ bb) (hbase : base ≤ w.heap.size) (hF : FmtAt w fb bb true pp mi sh sp ze wid prec) (hbuf : Buf w bb base []) (hsrc : Hid (Src w fb ns)) :
    Calls Efsg.prog 38 #[.pointer (some ⟨fb, 0, none⟩), .slice (some ⟨fb, 15, none⟩) ns.length 68] w fun e w' => e = .returned (.tuple #[]) ∧ Buf w' bb base (padded.padTo (wid - 1) mi ze ns) ∧ Fr bb base w w' := by
  have HF : Hid (FmtAt w fb bb true pp mi sh sp ze wid prec) := hF
  obtain ⟨hM, hf0, hf1, hf2, hf3, hf5, hf6, hf7, hf13, hf14⟩ := hF
  have Hbuf : Hid (Buf w bb base []) := hbuf
  clear hbuf
  have hwz : ((wid : Int) == 0) = false := by simp; omega
  go_enter Efsg.func38, Efsg.ntmps38
  go_upto_region 2 with (fail)
  go_cut [4] from 5 to 30 (fun s4 wx => s4 = .int .i64 ((wid : Int) - 1) ∧ Below w.heap.size w wx)
  case first =>
    go_region_with (go_at_call 47; refine (rc_one fb ns w.drew hns hsrc).mono ?_; rintro e w1 ⟨rfl, hb1⟩; have hf13a := (hb1.cell (p := ⟨fb, 13, none⟩) (Nat.lt_of_lt_of_le hfb hbase)).trans hf13)
    all_goals
      go_wp2
      go_meet
      case rel => exact ⟨by rw [wrap_in (by omega) (by omega)], (Below.refl w.heap.size w).drew.trans hb1⟩
  case rest =>
    obtain ⟨rfl, hbl⟩ := hcut
    have hFr : Fr bb base w wc := Fr.of_below (hbl.mono hbase)
    have hbufc := Hbuf.out.later hbl (by omega)
    have HFc : Hid (FmtAt wc fb bb true pp mi sh sp ze wid prec) := HF.out.fr hFr hfb hne h0bb hbb
    have Hsrc : Hid (Src wc fb ns) := Src.fr hsrc.out hFr hfb hne
    have hbw : base ≤ wc.heap.size := Nat.le_trans hbase hbl.size
    have Hbufc : Hid (Buf wc bb base []) := hbufc
    clear hbufc hM hf0 hf1 hf2 hf3 hf5 hf6 hf7 hf13 hf14 HF hsrc Hbuf
    obtain ⟨hM, hf0, hf1, hf2, hf3, hf5, hf6, hf7, hf13, hf14⟩ := HFc.out
    have e1 : ((wid : Int) - 1).toNat = wid - 1 := by omega
    have E1 : Hid (((wid : Int) - 1).toNat = wid - 1) := e1
    clear e1
    cases mi
    · go_wp2_with (first | (go_at_call 42; refine (pad_any fb bb base _ ze [] wc (by simp; omega) hM hbb hfb hbw hf0 hf7 Hbufc.out).mono ?_; rintro e w2 ⟨rfl, hb2, hfr2⟩; have hF2 := HFc.out.fr hfr2 hfb hne h0bb hbb; have hM2 := hF2.gM; have hg0 := hF2.f0; have HF2 : Hid (FmtAt w2 fb bb true pp false sh sp ze wid prec) := hF2; clear hF2; have Hsrc2 : Hid (Src w2 fb ns) := Src.fr Hsrc.out hfr2 hfb hne; have Hb2 : Hid (Buf w2 bb base ([] ++ List.replicate ((wid : Int) - 1).toNat (padB ze))) := hb2; clear hb2; have hbw2 := Nat.le_trans hbw hfr2.size) | (go_at_call 46; refine (write_any fb bb base 68 _ ns w2 hM2 hbb hbw2 Hb2.out Hsrc2 (by simp; omega)).mono ?_; rintro e w3 ⟨rfl, hb3, hfr3⟩))
      go_end0
      exact ⟨rfl, by rw [E1.out] at hb3; simpa [padded.padTo] using hb3, (hFr.trans hfr2).trans hfr3⟩
    · go_wp2_with (first | (go_at_call 46; refine (write_any fb bb base 68 [] ns wc hM hbb hbw Hbufc.out Hsrc (by simp; omega)).mono ?_; rintro e w2 ⟨rfl, hb2, hfr2⟩; have hF2 := HFc.out.fr hfr2 hfb hne h0bb hbb; have hM2 := hF2.gM; have hg0 := hF2.f0; have hg7 := hF2.f7; have HF2 : Hid (FmtAt w2 fb bb true pp true sh sp ze wid prec) := hF2; clear hF2; have Hb2 : Hid (Buf w2 bb base ([] ++ ns)) := hb2; clear hb2; have hbw2 := Nat.le_trans hbw hfr2.size) | (go_at_call 42; refine (pad_any fb bb base _ ze _ w2 (by simp; omega) hM2 hbb hfb hbw2 hg0 hg7 Hb2.out).mono ?_; rintro e w3 ⟨rfl, hb3, hfr3⟩))
      go_end0
      exact ⟨rfl, by rw [E1.out] at hb3; simpa [padded.padTo] using hb3, (hFr.trans hfr2).trans hfr3⟩
end Go.Proofs.YoefswDoor
