/-
  (*fmtbuf).Write of the formatter's own intbuf cells, by contract.
-/
import Derived.Test.YoefswDoorEnc
namespace Go.Proofs.YoefswDoor
open Go.RowKit

/-- append's second argument type may be another slice type. -/
theorem run_append_types (w : World) (t t2 ty e : TypeId) (p q : Option Addr) (n c m d : Nat) (ht : Efsg.prog.underlying t = some (.slice e)) (ht2 : Efsg.prog.underlying t2 = some (.slice e)) :
    (Builtin.append_ #[t, t2] ty #[.slice p n c, .slice q m d]).run Efsg.prog w = (Builtin.append_ #[t, t] ty #[.slice p n c, .slice q m d]).run Efsg.prog w := by
  simp [Builtin.append_, run_underlying ht, run_underlying ht2]

/-- append of bytes that lie at a plain address onto an owned row of bytes. -/
theorem wpList_appAt {w : World} {ops : Array Oper} {rest : List Oper} {o : Oper} {a : Act} {Q : Exit → Act → World → Prop} (hgd : o.guard = none) (s x : Operand) (t t2 : TypeId)
    (ho : o.op = .call { callee := .builtin .append, args := #[s, x], argTypes := #[t, t2] }) (ht : Efsg.prog.underlying t = some (.slice 5)) (ht2 : Efsg.prog.underlying t2 = some (.slice 5)) (base : Nat) (v : Value) (bs ns : List UInt8) (hs : a.eval s = v)
    (hown : Owns w base v bs) (ad : Addr) (c : Nat) (hx : a.eval x = .slice (some ad) ns.length c) (hsrc : ∀ j u, (bv ns)[j]? = some u → w.cell? (ad.add j) = some u) (hbd : bs.length + ns.length ≤ 1099511627776) (hbase : base ≤ w.heap.size)
    (h : ∀ v' w', Owns w' base v' (bs ++ ns) → Below base w w' → wpList Efsg.prog ops Q rest (a.put o.dst v') w') :
    wpList Efsg.prog ops Q (o :: rest) a w := by
  obtain ⟨i0, hi, hi0, hi1, hi2⟩ := info_parts Efsg.info5
  obtain ⟨p, c0, rfl⟩ := Owns.form hown
  obtain ⟨v', w', hr, h2, h3, _⟩ := run_append_own (P := Efsg.prog) w base t o.type 5 i0 (.int .u8 0) 1 1 ht hi hi0 hi1 hi2 rfl (by decide) _ bs.length (bv bs) hown ad ns.length c (bv ns) (by simp [bv]) hsrc (bv_one _) (by unfold maxLen; omega) (by omega) hbase
  rw [← run_append_types w t t2 o.type 5 _ _ _ _ _ _ ht ht2] at hr
  refine wpList_plain hgd fun K hK => ?_
  unfold Oper.wp execOp
  simp only [ho, resolve, invoke, builtin, Sem.run_bind, Sem.run_pure, Result.andThen_ok, List.map_toArray, List.map_cons, List.map_nil, hs, hx, hr]
  exact hK _ _ (h v' w' (by unfold Owns; rw [bv_append, List.length_append]; exact h2) ((Below.refl base w).grown h3 hbase fun k hk => (World.ownsRow.lt hown k hk).1))

set_option maxRecDepth 100000 in
set_option maxHeartbeats 400000 in
theorem write_any (fb bb base cap : Nat) (bs ns : List UInt8) (w : World) (hM : w.cell? ⟨0, 0, none⟩ = some (.int .i64 2147483647)) (hbb : bb < base) (hbase : base ≤ w.heap.size) (hbuf : Buf w bb base bs)
    (hsrc : Hid (∀ j u, (bv ns)[j]? = some u → w.cell? ((⟨fb, 15, none⟩ : Addr).add j) = some u)) (hsmall : bs.length + ns.length ≤ 2147483647) :
    Calls Efsg.prog 46 #[.pointer (some ⟨bb, 0, none⟩), .slice (some ⟨fb, 15, none⟩) ns.length cap] w fun e w' => e = .returned (.tuple #[]) ∧ Buf w' bb base (bs ++ ns) ∧ Fr bb base w w' := by
  obtain ⟨v, hv, hown⟩ := hbuf
  obtain ⟨ao, c, rfl⟩ := Owns.form hown
  have hcv := cell_of_one hv
  have hz1 : ¬ (2147483647 : Int) < (bs.length : Int) + (ns.length : Int) := by omega
  go_enter Efsg.func46, Efsg.ntmps46
  go_wp2
  go_region
  all_goals
    go_wp2_with (at_builtin; refine wpList_appAt rfl (.tmp 17) (.tmp 18) 43 25 rfl Efsg.underlying43 Efsg.underlying25 base _ bs ns rfl (World.ownsRow.drew hown) ⟨fb, 15, none⟩ cap rfl hsrc.out (by omega) hbase ?_; intro v1 w1 hown1 hb1; obtain ⟨ao1, c1, hv1⟩ := hown1.form; subst hv1; have hcb1 := (hb1.cell (p := ⟨bb, 0, none⟩) hbb).trans hcv; have hfb1 := (hb1.frozen (p := ⟨bb, 0, none⟩) hbb).trans (free_of_one hv))
    go_end0
    rw [List.length_append] at hown1
    exact ⟨rfl, ⟨_, one_setCell ((hb1.block bb hbb).trans hv), ownsRow_setCell_below hown1 hbb _⟩, (Fr.of_below ((Below.refl base w).drew.trans hb1)).setBuf 0 _⟩
end Go.Proofs.YoefswDoor
