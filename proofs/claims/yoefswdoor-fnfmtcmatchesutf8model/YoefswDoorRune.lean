/-
  utf8.RuneCount and RuneCountInString of one encoded rune: 1.
-/
import Derived.Test.YoefswDoorWrite
namespace Go.Proofs.YoefswDoor
open Go.RowKit

/-- One rune: a byte below 128, or an encoding that the decoder takes whole. -/
structure OneRune (ns : List UInt8) : Prop where
  pos : 0 < ns.length
  le : ns.length ≤ 4
  one : (ns.getD 0 0).toNat < 128 → ns.length = 1
  more : 128 ≤ (ns.getD 0 0).toNat → (Utf8.decode ⟨ns.toArray⟩ 0).2 = ns.length

set_option maxRecDepth 100000 in
set_option maxHeartbeats 400000 in
theorem rcs_one (s : ByteArray) (w : World) (hs0 : 0 < s.size) (hs4 : s.size ≤ 4) (hd : (Utf8.decode s 0).2 = s.size) :
    Calls Efsg.prog 45 #[.string s] w fun e w' => e = .returned (.int .i64 1) ∧ Below w.heap.size w w' := by
  have Hd : Hid ((Utf8.decode s 0).2 = s.size) := hd
  clear hd
  go_enter Efsg.func45, Efsg.ntmps45
  go_wp2
  go_loopw [2] (fun n w' => ∃ (pos acc : Nat), w' = w.iter s pos ∧ n = .int .i64 acc ∧ acc ≤ 1 ∧ (acc = 0 → pos = 0) ∧ (acc = 1 → pos = s.size)) (fun _ w' => s.size - w'.iterPos w.heap.size)
  case atStart => exact ⟨0, 0, rfl, rfl, by omega, fun _ => rfl, fun h => by cases h⟩
  case round =>
    obtain ⟨pos, acc, rfl, rfl, ha, h0, h1⟩ := hrel
    have H0 : Hid (acc = 0 → pos = 0) := h0
    have H1 : Hid (acc = 1 → pos = s.size) := h1
    clear h0 h1
    by_cases hp : pos < s.size
    · have hac : acc = 0 := by
        by_cases h : acc = 1
        · have := H1.out h; omega
        · omega
      have hpz := H0.out hac
      subst hac
      subst hpz
      have hnx : ∀ ty, (Instr.next (.pointer (some ⟨w.heap.size, 0, none⟩)) true ty).run Efsg.prog (w.iter s 0) = _ := fun ty => run_next_any w s 0 ty hp
      rw [Hd.out] at hnx
      go_wp2
      go_roundw
      case rel => exact ⟨s.size, 1, rfl, rfl, by omega, (fun h => by cases h), (fun _ => rfl)⟩
      case measure =>
        simp
        omega
    · have hnx : ∀ ty, (Instr.next (.pointer (some ⟨w.heap.size, 0, none⟩)) true ty).run Efsg.prog (w.iter s pos) = _ := fun ty => run_next_end w s pos ty hp
      have hac : acc = 1 := by
        by_cases h : acc = 0
        · have := H0.out h; omega
        · omega
      subst hac
      go_wp2
      go_ret
      exact ⟨rfl, (Below.refl _ w).alloc (Nat.le_refl _) _⟩

set_option maxRecDepth 100000 in
set_option maxHeartbeats 400000 in
theorem rc_one (fb : Nat) (ns : List UInt8) (w : World) (hns : Hid (OneRune ns)) (hsrc : Hid (∀ j u, (bv ns)[j]? = some u → w.cell? ((⟨fb, 15, none⟩ : Addr).add j) = some u)) :
    Calls Efsg.prog 47 #[.slice (some ⟨fb, 15, none⟩) ns.length 68] w fun e w' => e = .returned (.int .i64 1) ∧ Below w.heap.size w w' := by
  have hpos := hns.out.pos
  have hle := hns.out.le
  obtain ⟨b, hb⟩ : ∃ b, b = ns.getD 0 0 := ⟨_, rfl⟩
  have hc0 : w.cell? ⟨fb, 15, none⟩ = some (.int .u8 (b.toNat : Int)) := by
    have := hsrc.out 0 (.int .u8 (b.toNat : Int)) (by rw [hb]; simp [bv, List.getElem?_eq_getElem hpos, List.getD_eq_getElem?_getD])
    simpa [Addr.add_lit] using this
  by_cases h128 : b.toNat < 128
  · have h1 : ns.length = 1 := hns.out.one (hb ▸ h128)
    clear hb
    rw [h1]
    clear h1 hpos hle
    go_enter Efsg.func47, Efsg.ntmps47
    go_wp2
    refine wp_loop_rounds 2 ?_
    rw [rounds_succ]
    go_wp2
    rw [rounds_succ]
    go_wp2
    go_ret
    exact ⟨rfl, Below.refl _ _⟩
  · have hd := hns.out.more (by rw [← hb]; omega)
    have Hd : Hid ((Utf8.decode ⟨ns.toArray⟩ 0).2 = ns.length) := hd
    clear hb hd
    have hcn : (convert 25 9 (.slice (some ⟨fb, 15, none⟩) ns.length 68)).run Efsg.prog w = .ok (.string ⟨ns.toArray⟩) w := by
      refine run_convert_bytes_back w 25 9 5 ⟨fb, 15, none⟩ 68 ns Efsg.underlying25 Efsg.underlying5 Efsg.underlying9 fun j hj => ?_
      exact hsrc.out j _ (by simp [bv, List.getElem?_eq_getElem hj])
    go_enter Efsg.func47, Efsg.ntmps47
    go_wp2
    refine wp_loop_rounds 1 ?_
    rw [rounds_succ]
    go_wp2_with (go_at_call 45; refine (rcs_one ⟨ns.toArray⟩ w hpos hle Hd.out).mono ?_; rintro e w' ⟨rfl, hb1⟩)
    go_ret
    exact ⟨rfl, hb1⟩
end Go.Proofs.YoefswDoor
