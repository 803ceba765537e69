/-
  FnFmtCMatchesUTF8Model and FnFmtCInjectiveOnScalars, walked.
-/
import Derived.Test.YoefswDoorUtf
namespace Go.Proofs.YoefswDoor
open Go.RowKit

set_option maxRecDepth 100000 in
set_option maxHeartbeats 400000 in
theorem cm_out (c : Nat) (wid : Int) (wp mi ze : Bool) (w : World) (h : wid < 0 ∨ 65536 < wid) :
    Calls Efsg.prog 9 #[.int .u64 c, .int .i64 wid, .bool wp, .bool mi, .bool ze] w fun e w' => e = .returned (.bool true) ∧ Below w.heap.size w w' := by
  by_cases h2 : wid < 0
  · go_enter Efsg.func9, Efsg.ntmps9
    go_wp2
    go_ret
    exact ⟨rfl, Below.refl _ _⟩
  · have h3 : 65536 < wid := by omega
    go_enter Efsg.func9, Efsg.ntmps9
    go_wp2
    go_ret
    exact ⟨rfl, Below.refl _ _⟩

set_option maxRecDepth 100000 in
set_option maxHeartbeats 400000 in
theorem cm_in (c wid : Nat) (wp mi ze : Bool) (w : World) (hwid : wid ≤ 65536) (hM : w.cell? ⟨0, 0, none⟩ = some (.int .i64 2147483647)) :
    Calls Efsg.prog 9 #[.int .u64 c, .int .i64 wid, .bool wp, .bool mi, .bool ze] w fun e w' => e = .returned (.bool true) ∧ Below w.heap.size w w' := by
  obtain ⟨ns, hns⟩ : ∃ ns, ns = enc (mend c) := ⟨_, rfl⟩
  have Hns : Hid (ns = enc (mend c)) := hns
  have hl : ns.length ≤ 10000000 := by have := enc_len (mend c); rw [hns]; omega
  clear hns
  obtain ⟨X, hX⟩ : ∃ X, X = padded.padTo (cond wp (wid - 1) 0) mi ze ns := ⟨_, rfl⟩
  have HX : Hid (X = padded.padTo (cond wp (wid - 1) 0) mi ze ns) := hX
  clear hX
  go_enter Efsg.func9, Efsg.ntmps9
  go_wp2_with (first | (go_at_call 26; refine (zzC_any wid 0 c wp false mi false false false ze w hwid hM).mono ?_; rintro e w1 ⟨rfl, hb1⟩; rw [← Hns.out, ← HX.out]) | (go_at_call 27; refine (utf_any c w1).mono ?_; rintro e w2 ⟨v, rfl, hown, hb2⟩; rw [← Hns.out] at hown; obtain ⟨ao, k, hv⟩ := hown.form; subst hv) | (go_at_call 15; refine (zpad_any ao k _ 1 wid ns wp mi ze w2 hown hl hwid).mono ?_; rintro e w3 ⟨rfl, hb3⟩; rw [← HX.out]))
  go_ret
  exact ⟨rfl, (hb1.trans (hb2.mono hb1.size)).trans (hb3.mono (Nat.le_trans hb1.size hb2.size))⟩

theorem zzC_bare (c : Nat) (w : World) (hM : w.cell? ⟨0, 0, none⟩ = some (.int .i64 2147483647)) :
    Calls Efsg.prog 26 #[.int .u64 c, .int .i64 0, .int .i64 0, .bool false, .bool false, .bool false, .bool false, .bool false, .bool false, .bool false] w fun e w' =>
      e = .returned (.string ⟨(enc (mend c)).toArray⟩) ∧ Below w.heap.size w w' :=
  zzC_any 0 0 c false false false false false false false w (by decide) hM

set_option maxRecDepth 100000 in
set_option maxHeartbeats 400000 in
theorem ci_any (a b : Nat) (w : World) (hM : w.cell? ⟨0, 0, none⟩ = some (.int .i64 2147483647)) :
    Calls Efsg.prog 10 #[.int .u64 a, .int .u64 b] w fun e w' => e = .returned (.bool true) ∧ Below w.heap.size w w' := by
  have hz : 0 < w.heap.size := World.block_lt_of_cell? w ⟨0, 0, none⟩ hM
  obtain ⟨A, hA⟩ : ∃ A, A = enc (mend a) := ⟨_, rfl⟩
  have HA : Hid (A = enc (mend a)) := hA
  have hl1 : 1 ≤ A.length := by rw [hA]; exact (enc_len _).1
  have hl4 : A.length ≤ 4 := by rw [hA]; exact (enc_len _).2
  clear hA
  obtain ⟨B, hB⟩ : ∃ B, B = enc (mend b) := ⟨_, rfl⟩
  have HB : Hid (B = enc (mend b)) := hB
  clear hB
  go_enter Efsg.func10, Efsg.ntmps10
  go_wp2_with fail
  refine (zzC_bare a w hM).mono ?_
  rintro e w1 ⟨rfl, hb1⟩
  rw [← HA.out]
  have hM1 := (hb1.cell (p := ⟨0, 0, none⟩) hz).trans hM
  go_wp2_with fail
  refine (zzC_bare b w1 hM1).mono ?_
  rintro e w2 ⟨rfl, hb2⟩
  rw [← HB.out]
  have hM2 := (hb2.cell (p := ⟨0, 0, none⟩) (Nat.lt_of_lt_of_le hz hb1.size)).trans hM1
  have hb12 := hb1.trans (hb2.mono hb1.size)
  clear hb1 hM1
  cases hs : scal a
  · have eA : enc (mend 65533) = A := by rw [HA.out, mend_not hs]; rfl
    have Hs : Hid (scal a = false) := hs
    have EA : Hid (enc (mend 65533) = A) := eA
    clear hs eA
    go_wp2_with (go_at_call 28; refine (valid_at a false _ (by omega) Hs).mono ?_; rintro e w' ⟨rfl, rfl⟩)
    refine (zzC_bare 65533 w2 hM2).mono ?_
    rintro e w3 ⟨rfl, hb3⟩
    rw [EA.out]
    have hb4 := hb12.trans (hb3.mono hb12.size)
    clear hb3
    go_wp2
    go_ret
    exact ⟨rfl, hb4⟩
  · have Hs : Hid (scal a = true) := hs
    clear hs
    go_wp2_with fail
    refine (valid_at a true _ (by omega) Hs).mono ?_
    rintro e w' ⟨rfl, rfl⟩
    go_wp2_with fail
    cases hsb : scal b
    · have Hsb : Hid (scal b = false) := hsb
      clear hsb
      refine (valid_at b false _ (by omega) Hsb).mono ?_
      rintro e w' ⟨rfl, rfl⟩
      go_wp2
      go_ret
      exact ⟨rfl, hb12⟩
    · have Hsb : Hid (scal b = true) := hsb
      clear hsb
      refine (valid_at b true _ (by omega) Hsb).mono ?_
      rintro e w' ⟨rfl, rfl⟩
      by_cases hab : a = b
      · subst hab
        go_wp2
        go_ret
        exact ⟨rfl, hb12⟩
      · have hne : ((a : Int) != (b : Int)) = true := by rw [bne_iff_ne]; omega
        have hAB : ¬ A = B := by
          intro e
          rw [HA.out, HB.out, mend_scal Hs.out, mend_scal Hsb.out] at e
          have ha : a ≤ 1114111 := by have := Hs.out; simp [scal] at this; exact this.1
          have hb : b ≤ 1114111 := by have := Hsb.out; simp [scal] at this; exact this.1
          exact hab (enc_inj ha hb e)
        go_wp2
        go_ret
        exact ⟨by simp [hAB], hb12⟩
end Go.Proofs.YoefswDoor
