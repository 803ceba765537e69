/-
  zzPad by contract.
-/
import Derived.Test.YoefswDoorZsx
import Derived.Laws.AppendOwnNone
namespace Go.Proofs.YoefswDoor
open Go.RowKit

theorem Owns.later {w w' : World} {base : Nat} {v : Value} {bs : List UInt8} (h : Owns w base v bs) (hb : Below w.heap.size w w') : Owns w' base v bs :=
  h.below fun k hk => hb.block k (World.ownsRow.lt h k hk).2

theorem Owns.form {w : World} {base : Nat} {v : Value} {bs : List UInt8} (h : Owns w base v bs) : ∃ ao c, v = .slice ao bs.length c := by
  rcases own_form h with ⟨rfl, hl, _⟩ | ⟨g, c, rfl, _⟩
  · exact ⟨none, 0, by rw [hl]⟩
  · exact ⟨_, _, rfl⟩

/-- append of an owned row of bytes onto an owned row of bytes. -/
theorem wpList_appSrc {w : World} {ops : Array Oper} {rest : List Oper} {o : Oper} {a : Act} {Q : Exit → Act → World → Prop} (hgd : o.guard = none) (s x : Operand) (t : TypeId)
    (ho : o.op = .call { callee := .builtin .append, args := #[s, x], argTypes := #[t, t] }) (ht : Efsg.prog.underlying t = some (.slice 5)) (base base2 : Nat) (v u : Value) (bs ns : List UInt8) (hs : a.eval s = v)
    (hown : Owns w base v bs) (hx : a.eval x = u) (hsrc : Owns w base2 u ns) (hbd : bs.length + ns.length ≤ 1099511627776) (hbase : base ≤ w.heap.size)
    (h : ∀ v' w', Owns w' base v' (bs ++ ns) → Below base w w' → wpList Efsg.prog ops Q rest (a.put o.dst v') w') :
    wpList Efsg.prog ops Q (o :: rest) a w := by
  obtain ⟨i0, hi, hi0, hi1, hi2⟩ := info_parts Efsg.info5
  rcases own_form hsrc with ⟨rfl, hl, _⟩ | ⟨g, c, rfl, _⟩
  · obtain rfl : ns = [] := List.eq_nil_of_length_eq_zero hl
    refine wpList_append_own_none hgd s x t ho base 5 i0 1 ht hi v bs.length (bv bs) hs hown hx ?_
    exact h v w (by simpa using hown) (Below.refl _ _)
  · refine wpList_append_own _ hgd s x t ho base 5 i0 (.int .u8 0) 1 1 ht hi hi0 hi1 hi2 rfl (by decide) v bs.length (bv bs) hs hown ⟨g, 0, none⟩ ns.length c (bv ns) hx (by simp [bv]) (World.ownsRow.cells hsrc rfl) (bv_one _) (by unfold maxLen; omega) (by omega) hbase ?_
    intro v' w' h1 h2 _
    exact h v' w' (by unfold Owns; rw [bv_append, List.length_append]; exact h1) ((Below.refl base w).grown h2 hbase fun k hk => (World.ownsRow.lt hown k hk).1)

set_option maxRecDepth 100000 in
set_option maxHeartbeats 1000000 in
theorem zpad_some (ao : Option Addr) (c base0 runes wid : Nat) (bs : List UInt8) (mi ze : Bool) (w : World) (hown0 : Owns w base0 (.slice ao bs.length c) bs) (hbs : bs.length ≤ 10000000) (hwid : wid ≤ 65536) (hr : runes < wid) :
    Calls Efsg.prog 15 #[.slice ao bs.length c, .int .i64 runes, .int .i64 wid, .bool true, .bool mi, .bool ze] w fun e w' => e = .returned (.string ⟨(padded.padTo (wid - runes) mi ze bs).toArray⟩) ∧ Below w.heap.size w w' := by
  obtain ⟨k, hk⟩ : ∃ k, wid = runes + k := ⟨wid - runes, by omega⟩
  subst hk
  rw [Nat.add_sub_cancel_left]
  obtain ⟨base, hbase⟩ : ∃ base, base = w.heap.size := ⟨_, rfl⟩
  obtain ⟨i0, hi, hi0, hi1, hi2⟩ := info_parts Efsg.info5
  rw [← hbase]
  have hbl : base ≤ w.heap.size := by omega
  have HB : Hid (base = w.heap.size) := hbase
  clear hbase
  have hkz : ¬ (runes : Int) + (k : Int) ≤ (runes : Int) := by omega
  have hrk : (runes : Int) + (k : Int) - (runes : Int) = (k : Int) := by omega
  cases mi
  · go_enter Efsg.func15, Efsg.ntmps15
    go_upto_if 29 with (fail)
    go_cut [14] from 29 to 29 (fun s14 wx => s14 = .int .u8 ((padB ze).toNat : Int) ∧ w = wx)
    case first =>
      cases ze
      all_goals
        go_wp2
        go_meet
        case rel => exact ⟨rfl, rfl⟩
    case rest =>
      obtain ⟨rfl, rfl⟩ := hcut
      go_wp2_with (at_make; refine wpList_make_own _ rfl _ _ 25 rfl base 5 i0 (.int .u8 0) 1 Efsg.underlying25 hi hi0 hi1 _ _ _ (k + bs.length) rfl rfl (by omega) (by rw [hi2]; omega) (by unfold maxLen; omega) hbl ?_; intro w1 hown1 hgr1; have hb1 := grown_below hbl hgr1; have hownA : Owns w1 base (.slice (some ⟨w.heap.size, 0, none⟩) 0 (k + bs.length)) [] := hown1; have hsrc1 := hown0.later (HB.out ▸ hb1))
      go_loopw [15, 16] (fun v i wr => ∃ j : Nat, j ≤ k ∧ i = .int .i64 j ∧ Owns wr base v ([] ++ List.replicate j (padB ze)) ∧ Below base w wr) (fun _ i _ => k - (intOf i).toNat)
      case atStart => exact ⟨0, Nat.zero_le _, rfl, by simpa using hownA, hb1⟩
      case round =>
        clear hown1 hgr1 hownA hsrc1
        obtain ⟨j, hj, rfl, hown, hbr⟩ := hrel
        have hbw : base ≤ wr.heap.size := Nat.le_trans hbl hbr.size
        by_cases hlt : j < k
        · obtain ⟨acc, hacc⟩ : ∃ acc, acc = [] ++ List.replicate j (padB ze) := ⟨_, rfl⟩
          have hal : acc.length ≤ 20000000 := by rw [hacc]; simp; omega
          have Hacc : Hid (acc = [] ++ List.replicate j (padB ze)) := hacc
          rw [← hacc] at hown
          clear hacc
          go_wp2_with (at_builtin; refine wpList_app rfl (.tmp 44) (.tmp 46) 25 rfl Efsg.underlying25 base u15 acc [padB ze] rfl hown _ 1 1 rfl rfl rfl (by simp; omega) hbw ?_; intro v2 w2 hown2 hb2)
          go_roundw
          case rel =>
            refine ⟨j + 1, by omega, by go_num, ?_, hbr.trans hb2⟩
            rw [Hacc.out] at hown2
            rw [List.replicate_succ']
            simpa [List.append_assoc] using hown2
          case measure => simp [intOf]; omega
        · obtain rfl : j = k := by omega
          have hsrc2 := hown0.later (HB.out ▸ hbr)
          have hbd : ([] ++ List.replicate j (padB ze)).length + bs.length ≤ 1099511627776 := by simp; omega
          go_wp2_with (at_builtin; refine wpList_appSrc rfl (.tmp 50) (.tmp 51) 25 rfl Efsg.underlying25 base base0 u15 _ _ bs rfl hown rfl hsrc2 hbd hbw ?_; intro v3 w3 hown3 hb3; have hcn := conv_own 25 Efsg.underlying25 hown3)
          go_ret
          exact ⟨by simp [padded.padTo], hbr.trans hb3⟩
  · go_enter Efsg.func15, Efsg.ntmps15
    go_upto_if 29 with (fail)
    go_cut [14] from 29 to 29 (fun s14 wx => s14 = .int .u8 ((padB ze).toNat : Int) ∧ w = wx)
    case first =>
      cases ze
      all_goals
        go_wp2
        go_meet
        case rel => exact ⟨rfl, rfl⟩
    case rest =>
      obtain ⟨rfl, rfl⟩ := hcut
      go_wp2_with (first | (at_make; refine wpList_make_own _ rfl _ _ 25 rfl base 5 i0 (.int .u8 0) 1 Efsg.underlying25 hi hi0 hi1 _ _ _ (k + bs.length) rfl rfl (by omega) (by rw [hi2]; omega) (by unfold maxLen; omega) hbl ?_; intro w1 hown1 hgr1; have hb1 := grown_below hbl hgr1; have hownA : Owns w1 base (.slice (some ⟨w.heap.size, 0, none⟩) 0 (k + bs.length)) [] := hown1; have hsrc1 := hown0.later (HB.out ▸ hb1)) | (at_builtin; refine wpList_appSrc rfl (.tmp 36) (.tmp 37) 25 rfl Efsg.underlying25 base base0 _ _ [] bs rfl hownA rfl hsrc1 (by simp; omega) (Nat.le_trans hbl hb1.size) ?_; intro v2 w2 hown2 hb2))
      go_loopw [15, 16] (fun v i wr => ∃ j : Nat, j ≤ k ∧ i = .int .i64 j ∧ Owns wr base v (bs ++ List.replicate j (padB ze)) ∧ Below base w wr) (fun _ i _ => k - (intOf i).toNat)
      case atStart => exact ⟨0, Nat.zero_le _, rfl, by simpa using hown2, hb1.trans hb2⟩
      case round =>
        clear hown1 hgr1 hownA hsrc1 hown2 hb2
        obtain ⟨j, hj, rfl, hown, hbr⟩ := hrel
        have hbw : base ≤ wr.heap.size := Nat.le_trans hbl hbr.size
        by_cases hlt : j < k
        · obtain ⟨acc, hacc⟩ : ∃ acc, acc = bs ++ List.replicate j (padB ze) := ⟨_, rfl⟩
          have hal : acc.length ≤ 20000000 := by rw [hacc]; simp; omega
          have Hacc : Hid (acc = bs ++ List.replicate j (padB ze)) := hacc
          rw [← hacc] at hown
          clear hacc
          go_wp2_with (at_builtin; refine wpList_app rfl (.tmp 44) (.tmp 46) 25 rfl Efsg.underlying25 base u15 acc [padB ze] rfl hown _ 1 1 rfl rfl rfl (by simp; omega) hbw ?_; intro v2 w2 hown2 hb2)
          go_roundw
          case rel =>
            refine ⟨j + 1, by omega, by go_num, ?_, hbr.trans hb2⟩
            rw [Hacc.out] at hown2
            rw [List.replicate_succ']
            simpa [List.append_assoc] using hown2
          case measure => simp [intOf]; omega
        · obtain rfl : j = k := by omega
          have hcn := conv_own 25 Efsg.underlying25 hown
          go_wp2
          go_ret
          exact ⟨by simp [padded.padTo], hbr⟩

set_option maxRecDepth 100000 in
set_option maxHeartbeats 400000 in
theorem zpad_none (ao : Option Addr) (c base0 runes wid : Nat) (bs : List UInt8) (wp mi ze : Bool) (w : World) (hown0 : Owns w base0 (.slice ao bs.length c) bs) (hr : wp = true → wid ≤ runes) :
    Calls Efsg.prog 15 #[.slice ao bs.length c, .int .i64 runes, .int .i64 wid, .bool wp, .bool mi, .bool ze] w fun e w' => e = .returned (.string ⟨bs.toArray⟩) ∧ w' = w := by
  have hcn := conv_own 25 Efsg.underlying25 hown0
  cases wp
  · clear hr
    go_enter Efsg.func15, Efsg.ntmps15
    go_wp2
    go_ret
    exact ⟨rfl, rfl⟩
  · have hr2 : wid ≤ runes := hr rfl
    clear hr
    go_enter Efsg.func15, Efsg.ntmps15
    go_wp2
    go_ret
    exact ⟨rfl, rfl⟩

theorem zpad_any (ao : Option Addr) (c base0 runes wid : Nat) (bs : List UInt8) (wp mi ze : Bool) (w : World) (hown0 : Owns w base0 (.slice ao bs.length c) bs) (hbs : bs.length ≤ 10000000) (hwid : wid ≤ 65536) :
    Calls Efsg.prog 15 #[.slice ao bs.length c, .int .i64 runes, .int .i64 wid, .bool wp, .bool mi, .bool ze] w fun e w' => e = .returned (.string ⟨(padded.padTo (cond wp (wid - runes) 0) mi ze bs).toArray⟩) ∧ Below w.heap.size w w' := by
  by_cases h : wp = true ∧ runes < wid
  · obtain ⟨rfl, hr⟩ := h
    exact zpad_some ao c base0 runes wid bs mi ze w hown0 hbs hwid hr
  · refine (zpad_none ao c base0 runes wid bs wp mi ze w hown0 (fun e => Nat.le_of_not_lt fun q => h ⟨e, q⟩)).mono ?_
    rintro e w' ⟨rfl, rfl⟩
    have h0 : cond wp (wid - runes) 0 = 0 := by
      cases wp
      · rfl
      · have : ¬ runes < wid := fun q => h ⟨rfl, q⟩
        show wid - runes = 0
        omega
    refine ⟨?_, Below.refl _ _⟩
    rw [h0]
    cases mi <;> simp [padded.padTo]
end Go.Proofs.YoefswDoor
