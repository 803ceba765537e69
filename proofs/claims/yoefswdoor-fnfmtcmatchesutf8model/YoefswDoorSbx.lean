/-
  fmtSbx over a string (b nil).
-/
import Derived.Test.YoefswDoorPad
import Derived.Deep.DeepCutAuto
import Derived.Deep.RegionLaw
namespace Go.Proofs.YoefswDoor
open Go.RowKit

/-- What the walk reads of the formatter. -/
structure FmtAt (w : World) (fb bb : Nat) (wp pp mi sh sp ze : Bool) (wid prec : Int) : Prop where
  gM : w.cell? ⟨0, 0, none⟩ = some (.int .i64 2147483647)
  f0 : w.cell? ⟨fb, 0, none⟩ = some (.pointer (some ⟨bb, 0, none⟩))
  f1 : w.cell? ⟨fb, 1, none⟩ = some (.bool wp)
  f2 : w.cell? ⟨fb, 2, none⟩ = some (.bool pp)
  f3 : w.cell? ⟨fb, 3, none⟩ = some (.bool mi)
  f5 : w.cell? ⟨fb, 5, none⟩ = some (.bool sh)
  f6 : w.cell? ⟨fb, 6, none⟩ = some (.bool sp)
  f7 : w.cell? ⟨fb, 7, none⟩ = some (.bool ze)
  f13 : w.cell? ⟨fb, 13, none⟩ = some (.int .i64 wid)
  f14 : w.cell? ⟨fb, 14, none⟩ = some (.int .i64 prec)

theorem FmtAt.fr {w w' : World} {fb bb base : Nat} {wp pp mi sh sp ze : Bool} {wid prec : Int} (h : FmtAt w fb bb wp pp mi sh sp ze wid prec) (hf : Fr bb base w w') (h1 : fb < base) (h2 : fb ≠ bb) (h3 : 0 < bb) (h4 : bb < base) : FmtAt w' fb bb wp pp mi sh sp ze wid prec :=
  ⟨(hf.cell (p := ⟨0, 0, none⟩) (by simp; omega) (by simp; omega)).trans h.gM, (hf.cell (p := ⟨fb, _, none⟩) h1 h2).trans h.f0, (hf.cell (p := ⟨fb, _, none⟩) h1 h2).trans h.f1, (hf.cell (p := ⟨fb, _, none⟩) h1 h2).trans h.f2, (hf.cell (p := ⟨fb, _, none⟩) h1 h2).trans h.f3,
    (hf.cell (p := ⟨fb, _, none⟩) h1 h2).trans h.f5, (hf.cell (p := ⟨fb, _, none⟩) h1 h2).trans h.f6, (hf.cell (p := ⟨fb, _, none⟩) h1 h2).trans h.f7, (hf.cell (p := ⟨fb, _, none⟩) h1 h2).trans h.f13, (hf.cell (p := ⟨fb, _, none⟩) h1 h2).trans h.f14⟩

/-- The value v owns the bytes bs. (A name of its own: the walk's simp leaves it standing.) -/
def Owns (w : World) (base : Nat) (v : Value) (bs : List UInt8) : Prop := w.ownsRow base 5 1 v bs.length (bv bs)

theorem Owns.below {w w' : World} {base : Nat} {v : Value} {bs : List UInt8} (h : Owns w base v bs) (hg : ∀ k, v.ownBlock = some k → w'.heap[k]? = w.heap[k]?) : Owns w' base v bs := by
  refine ⟨h.1, ?_⟩
  rcases h.2 with hn | ⟨g, cap, cur, rfl, hb, hgg, rest⟩
  · exact .inl hn
  · exact .inr ⟨g, cap, cur, rfl, hb, by rw [hg g rfl]; exact hgg, rest⟩

theorem lead_cells {dg : ByteArray} {D : List UInt8} (hD : D = dg.data.toList) (h : 16 < dg.size) : [Value.int .u8 48, Value.int .u8 (dg[16].toNat : Int)] = bv (lead D) := by
  have e : D.getD 16 0 = dg[16] := by
    subst hD
    rw [List.getD_eq_getElem?_getD, List.getElem?_eq_getElem (by simpa using h)]
    rfl
  simp only [lead, e]
  rfl

/-- append of freshly laid bytes onto an owned byte row. -/
theorem wpList_app {w : World} {ops : Array Oper} {rest : List Oper} {o : Oper} {a : Act} {Q : Exit → Act → World → Prop} (hgd : o.guard = none) (s x : Operand) (t : TypeId)
    (ho : o.op = .call { callee := .builtin .append, args := #[s, x], argTypes := #[t, t] }) (ht : Efsg.prog.underlying t = some (.slice 5)) (base : Nat) (v : Value) (bs ns : List UInt8) (hs : a.eval s = v)
    (hown : Owns w base v bs) (news : List Value) (m c : Nat) (hx : a.eval x = .slice (some ⟨w.heap.size, 0, none⟩) m c) (hm : m = ns.length) (hnews : news = bv ns) (hbd : bs.length + ns.length ≤ 1099511627776) (hbase : base ≤ w.heap.size)
    (h : ∀ v' w', Owns w' base v' (bs ++ ns) → Below base w w' → wpList Efsg.prog ops Q rest (a.put o.dst v') w') :
    wpList Efsg.prog ops Q (o :: rest) a (w.alloc (.cells news.toArray 5)) := by
  obtain ⟨i0, hi, hi0, hi1, hi2⟩ := info_parts Efsg.info5
  subst hm; subst hnews
  refine wpList_append_own _ hgd s x t ho base 5 i0 (.int .u8 0) 1 1 ht hi hi0 hi1 hi2 rfl (by decide) v bs.length (bv bs) hs (hown.alloc _) ⟨w.heap.size, 0, none⟩ ns.length c (bv ns) hx (by simp [bv]) ?_ (bv_one _) (by unfold maxLen; omega) (by omega) (by simp; omega) ?_
  · intro j u hj
    rw [Addr.add_lit, World.cell?_alloc_at _ _ _ _ rfl]
    simpa using hj
  · intro v' w' h1 h2 _
    refine h v' w' (by unfold Owns; rw [bv_append, List.length_append]; exact h1) (((Below.refl base w).alloc hbase _).grown h2 (by simp; omega) fun k hk => (hown.lt k hk).1)

/-- .. the same as one step of a region that draws its order. -/
theorem step_app {w : World} {ops : Array Oper} {o : Oper} {a : Act} {K : Act → World → Prop} {Q : Exit → Act → World → Prop} {E : Prop} (hgd : o.guard = none) (s x : Operand) (t : TypeId)
    (ho : o.op = .call { callee := .builtin .append, args := #[s, x], argTypes := #[t, t] }) (ht : Efsg.prog.underlying t = some (.slice 5)) (base : Nat) (v : Value) (bs ns : List UInt8) (hs : a.eval s = v)
    (hown : Owns w base v bs) (news : List Value) (m c : Nat) (hx : a.eval x = .slice (some ⟨w.heap.size, 0, none⟩) m c) (hm : m = ns.length) (hnews : news = bv ns) (hbd : bs.length + ns.length ≤ 1099511627776) (hbase : base ≤ w.heap.size)
    (h : ∀ v' w', Owns w' base v' (bs ++ ns) → Below base w w' → K (a.put o.dst v') w') :
    if Region.wanted o (yielded ops a.tmps) = true then Oper.wp Efsg.prog o a (w.alloc (.cells news.toArray 5)).drew K Q else E := by
  have hw : Region.wanted o (yielded ops a.tmps) = true := by simp [Region.wanted, hgd]
  rw [if_pos hw]
  obtain ⟨i0, hi, hi0, hi1, hi2⟩ := info_parts Efsg.info5
  subst hm; subst hnews
  refine wp_append_own _ s x t ho base 5 i0 (.int .u8 0) 1 1 ht hi hi0 hi1 hi2 rfl (by decide) v bs.length (bv bs) hs ((World.ownsRow.alloc hown _).drew) ⟨w.heap.size, 0, none⟩ ns.length c (bv ns) hx (by simp [bv]) ?_ (bv_one _) (by unfold maxLen; omega) (by omega) (by simp; omega) ?_
  · intro j u hj
    rw [Addr.add_lit]
    show (w.alloc _).cell? _ = _
    rw [World.cell?_alloc_at _ _ _ _ rfl]
    simpa using hj
  · intro v' w' h1 h2 _
    refine h v' w' (by unfold Owns; rw [bv_append, List.length_append]; exact h1) ((((Below.refl base w).alloc hbase _).drew).grown h2 (by simp; omega) fun k hk => (World.ownsRow.lt hown k hk).1)

theorem pair_cells {dg : ByteArray} {D : List UInt8} {cb : UInt8} (hD : D = dg.data.toList) (hdg : dg.size = 17) {h1 h2} :
    [Value.int .u8 ((dg[((cb.toNat : Int) / 16).toNat]'h1).toNat : Int), Value.int .u8 ((dg[((cb.toNat : Int) % 16).toNat]'h2).toNat : Int)] = bv (pair D cb) := by
  have e : ∀ (j : Nat) (hj : j < dg.size), D.getD j 0 = dg[j]'hj := by
    intro j hj
    subst hD
    rw [List.getD_eq_getElem?_getD, List.getElem?_eq_getElem (by simpa using hj)]
    rfl
  have hc := cb.toNat_lt
  simp only [pair, bv, List.map_cons, List.map_nil, e (cb.toNat / 16) (by omega), e (cb.toNat % 16) (by omega)]
  rfl

set_option maxRecDepth 100000 in
set_option maxHeartbeats 3000000 in
theorem sbxS (fb bb base wid prec N : Nat) (s dg : ByteArray) (wp pp mi sh sp ze : Bool) (w : World) (hs : s.size ≤ 1048576) (hwid : wid ≤ 65536) (hdg : dg.size = 17)
    (h0bb : 0 < bb) (hbb : bb < base) (hfb : fb < base) (hne : fb ≠ bb) (hbase : base ≤ w.heap.size) (hF : FmtAt w fb bb wp pp mi sh sp ze wid prec) (hbuf : Buf w bb base []) (hN : Hid (effN pp prec s.size = N)) (hNs : N ≤ s.size) :
    Calls Efsg.prog 34 #[.pointer (some ⟨fb, 0, none⟩), .string s, .slice none 0 0, .string dg] w fun e w' => e = .returned (.tuple #[]) ∧
      Buf w' bb base (fmtHex dg.data.toList wid wp mi sh sp ze s.data.toList N) ∧ Fr bb base w w' := by
  obtain ⟨D, hD⟩ : ∃ D, D = dg.data.toList := ⟨_, rfl⟩
  have HD : Hid (D = dg.data.toList) := hD
  rw [← hD]
  clear hD
  obtain ⟨S, hS⟩ : ∃ S, S = s.data.toList := ⟨_, rfl⟩
  have HS : Hid (S = s.data.toList) := hS
  rw [← hS]
  clear hS
  have HF : Hid (FmtAt w fb bb wp pp mi sh sp ze wid prec) := hF
  obtain ⟨hM, hf0, hf1, hf2, hf3, hf5, hf6, hf7, hf13, hf14⟩ := hF
  have heq := fun (w : World) (a : Option Addr) (n c : Nat) => Lib.run_eql_slice_nil (P := Efsg.prog) w 25 5 a n c 0 0 Efsg.underlying25
  go_enter Efsg.func34, Efsg.ntmps34
  go_upto_region 3 with (fail)
  go_cut [31] from 19 to 31 (fun s31 wx => s31 = .bool (pp && decide (prec < s.size)) ∧ w = wx)
  case first =>
    cases pp
    all_goals
      go_wp2
      go_meet
      case rel => exact ⟨by simp, rfl⟩
  case rest =>
    obtain ⟨rfl, rfl⟩ := hcut
    go_upto_if 31 with (fail)
    go_cut [8] from 19 to 35 (fun s8 wx => s8 = .int .i64 (N : Int) ∧ w = wx)
    case first =>
      cases hp : (pp && decide (prec < s.size))
      all_goals
        go_wp2
        go_meet
        case rel => exact ⟨by rw [← hN.out]; simp [effN, hp], rfl⟩
    case rest =>
      obtain ⟨rfl, rfl⟩ := hcut
      by_cases hN0 : N = 0
      · subst hN0
        cases wp
        · go_wp2_with fail
          first | go_end0 | refine bodyPost_ret (results_none rfl _ _ _) rfl ?_
          exact ⟨rfl, by rw [fmtHex_zero]; exact hbuf, Fr.refl _ _ _⟩
        · go_wp2_with (go_at_call 42; refine (pad_any fb bb base _ ze [] w (by simp; omega) hM hbb hfb hbase hf0 hf7 hbuf).mono ?_; rintro e w' ⟨rfl, hb1, hb2⟩)
          first | go_end0 | refine bodyPost_ret (results_none rfl _ _ _) rfl ?_
          exact ⟨rfl, by rw [fmtHex_zero]; simpa using hb1, hb2⟩
      · obtain ⟨W, hW⟩ : ∃ W, W = sbxW sh sp N := ⟨_, rfl⟩
        have HW : Hid (W = sbxW sh sp N) := hW
        clear hW
        go_upto_if 39 with (fail)
        go_cut [9] from 36 to 62 (fun s9 wx => s9 = .int .i64 (W : Int) ∧ w = wx)
        case first =>
          cases sp
          all_goals
            cases sh
            all_goals
              go_wp2
              go_meet
              case rel => exact ⟨by rw [HW.out]; simp [sbxW]; try omega, rfl⟩
        case rest =>
          obtain ⟨rfl, rfl⟩ := hcut
          go_upto_region 15 with (fail)
          go_cut [94] from 74 to 94 (fun s94 wx => s94 = .bool (wp && decide (W < wid) && !mi) ∧ w = wx)
          case first =>
            cases wp
            · go_wp2
              go_meet
              case rel => exact ⟨by simp, rfl⟩
            · by_cases hd : W < wid
              · go_wp2
                go_meet
                case rel => exact ⟨by simp [hd], rfl⟩
              · go_wp2
                go_meet
                case rel => exact ⟨by simp [hd], rfl⟩
          case rest =>
            obtain ⟨rfl, rfl⟩ := hcut
            go_upto_if 94 with (fail)
            obtain ⟨pre, hpre⟩ : ∃ pre, pre = List.replicate (cond (wp && decide (W < wid) && !mi) (wid - W) 0) (padB ze) := ⟨_, rfl⟩
            have Hpre : Hid (pre = List.replicate (cond (wp && decide (W < wid) && !mi) (wid - W) 0) (padB ze)) := hpre
            clear hpre
            go_cut [94] from 95 to 102 (fun _ wx => Buf wx bb base pre ∧ Fr bb base w wx)
            case first =>
              cases hd : (wp && decide (W < wid) && !mi)
              · go_wp2
                go_meet
                case rel => exact ⟨by rw [Hpre.out, hd]; exact hbuf, Fr.refl _ _ _⟩
              · have hlt : W < wid := by simp at hd; omega
                go_wp2_with (go_at_call 42; refine (pad_any fb bb base _ ze [] w (by simp; omega) hM hbb hfb hbase hf0 hf7 hbuf).mono ?_; rintro e w' ⟨rfl, hb1, hb2⟩)
                go_meet
                case rel => exact ⟨by rw [Hpre.out, hd]; have e : ((wid : Int) - (W : Int)).toNat = wid - W := by omega
                                      simpa [e] using hb1, hb2⟩
            case rest =>
              obtain ⟨hbw, hFr⟩ := hcut
              have hF1 := HF.out.fr hFr hfb hne h0bb hbb
              clear hM hf0 hf1 hf2 hf3 hf5 hf6 hf7 hf13 hf14 hbuf
              obtain ⟨hM, hf0, hf1, hf2, hf3, hf5, hf6, hf7, hf13, hf14⟩ := hF1
              obtain ⟨v, hv, hown⟩ := hbw
              have hcb := cell_of_one hv
              have hpl : pre.length ≤ 65536 := by rw [Hpre.out]; cases (wp && decide (W < wid) && !mi) <;> simp <;> omega
              have hbw : base ≤ wc.heap.size := by have := hFr.size; omega
              go_upto_if 113 with (fail)
              go_cut [10] from 103 to 118 (fun s10 wx => Owns wx base s10 (pre ++ sbxTo D sh sp S 0) ∧ (∃ v0, wx.heap[bb]? = some (.cells #[v0] 43 (0, 0))) ∧ Fr bb base w wx)
              case first =>
                cases sh
                · go_wp2
                  go_meet
                  case rel => exact ⟨by simpa [sbxTo, leadIf, Owns] using hown, ⟨v, hv⟩, hFr⟩
                · go_wp2_with (at_builtin; refine wpList_app rfl (.tmp 114) (.tmp 117) 43 rfl Efsg.underlying43 base v pre (lead D) rfl hown _ 2 2 rfl rfl (lead_cells HD.out (by omega)) (by simp [lead]; omega) hbw ?_; intro v1 w1 hown1 hb1)
                  go_meet
                  case rel => exact ⟨hown1, ⟨v, (hb1.block bb hbb).trans hv⟩, hFr.trans (Fr.of_below hb1)⟩
              case rest =>
                obtain ⟨hown1, ⟨v0, hv0⟩, hFr1⟩ := hcut
                clear hM hf0 hf1 hf2 hf3 hf5 hf6 hf7 hf13 hf14 hown hcb hv hFr
                go_wp2_with fail
                go_loopw [10, 12] (fun v i wr => ∃ k : Nat, k ≤ N ∧ i = .int .i64 k ∧ Owns wr base v (pre ++ sbxTo D sh sp S k) ∧ (∃ v0, wr.heap[bb]? = some (.cells #[v0] 43 (0, 0))) ∧ Fr bb base w wr) (fun _ i _ => N - (intOf i).toNat)
                case atStart => exact ⟨0, Nat.zero_le _, rfl, hown1, ⟨v0, hv0⟩, hFr1⟩
                case round =>
                  clear hown1 hv0 hFr1
                  obtain ⟨k, hk, rfl, hown, ⟨v0, hv⟩, hFr⟩ := hrel
                  have hF1 := HF.out.fr hFr hfb hne h0bb hbb
                  obtain ⟨hM, hf0, hf1, hf2, hf3, hf5, hf6, hf7, hf13, hf14⟩ := hF1
                  have hbw : base ≤ wr.heap.size := by have := hFr.size; omega
                  by_cases hlt : k < N
                  · have hln := length_sbxTo_le D sh sp S k
                    obtain ⟨acc, hacc⟩ : ∃ acc, acc = pre ++ sbxTo D sh sp S k := ⟨_, rfl⟩
                    have hal : acc.length ≤ 10000000 := by rw [hacc, List.length_append]; omega
                    have Hacc : Hid (acc = pre ++ sbxTo D sh sp S k) := hacc
                    rw [← hacc] at hown
                    clear hacc hln
                    go_upto_region 24 with (fail)
                    go_cut [132] from 124 to 132 (fun s132 wx => s132 = .bool (sp && decide (0 < k)) ∧ wr = wx)
                    case first =>
                      cases sp
                      all_goals
                        go_wp2
                        go_meet
                        case rel => exact ⟨by simp, rfl⟩
                    case rest =>
                      obtain ⟨rfl, rfl⟩ := hcut
                      go_upto_if 132 with (fail)
                      go_cut [10] from 132 to 145 (fun s10 wx => Owns wx base s10 (acc ++ sepIf D sh sp k) ∧ Below base wr wx)
                      case first =>
                        cases hd : (sp && decide (0 < k))
                        · go_wp2
                          go_meet
                          case rel => exact ⟨by simpa [sepIf, hd] using hown, Below.refl _ _⟩
                        · cases sh
                          · go_wp2_with (at_builtin; refine wpList_app rfl (.tmp 133) (.tmp 134) 43 rfl Efsg.underlying43 base u10 acc [32] rfl hown _ 1 1 rfl rfl rfl (by simp; omega) hbw ?_; intro v1 w1 hown1 hb1; have hf5a := (hb1.cell (p := ⟨fb, 5, none⟩) hfb).trans hf5)
                            go_meet
                            case rel => exact ⟨by simpa [sepIf, hd, leadIf] using hown1, hb1⟩
                          · go_wp2_with (first | (at_builtin; refine wpList_app rfl (.tmp 133) (.tmp 134) 43 rfl Efsg.underlying43 base u10 acc [32] rfl hown _ 1 1 rfl rfl rfl (by simp; omega) hbw ?_; intro v1 w1 hown1 hb1; have hf5a := (hb1.cell (p := ⟨fb, 5, none⟩) hfb).trans hf5; have hbw1 := Nat.le_trans hbw hb1.size) | (at_builtin; refine wpList_app rfl (.tmp 141) (.tmp 144) 43 rfl Efsg.underlying43 base v1 (acc ++ [32]) (lead D) rfl hown1 _ 2 2 rfl rfl (lead_cells HD.out (by omega)) (by simp [lead]; omega) hbw1 ?_; intro v2 w2 hown2 hb2))
                            go_meet
                            case rel => exact ⟨by simpa [sepIf, hd, leadIf] using hown2, hb1.trans hb2⟩
                      case rest =>
                        obtain ⟨hown1, hb1⟩ := hcut
                        go_upto_region 31 with (fail)
                        obtain ⟨cb, hcb⟩ : ∃ cb, cb = s[k] := ⟨_, rfl⟩
                        have Hcb : Hid (cb = s[k]) := hcb
                        rw [← hcb]
                        clear hcb
                        have hcl := cb.toNat_lt
                        have hi1 : 0 ≤ (cb.toNat : Int) / 16 ∧ (cb.toNat : Int) / 16 < 17 := by omega
                        have hi2 : 0 ≤ (cb.toNat : Int) % 16 ∧ (cb.toNat : Int) % 16 < 17 := by omega
                        have h15 : bits BinOp.and IntKind.u8 (cb.toNat : Int) 15 = (cb.toNat : Int) % 16 := u8_and15 _ (by omega) (by omega)
                        have hsl : (sepIf D sh sp k).length ≤ 3 := by rw [length_sepIf]; cases (sp && decide (0 < k)) <;> cases sh <;> simp
                        have hbd1 : (acc ++ sepIf D sh sp k).length + (pair D cb).length ≤ 1099511627776 := by rw [List.length_append]; show _ + 2 ≤ _; omega
                        have hbw1 : base ≤ wc.heap.size := Nat.le_trans hbw hb1.size
                        go_region_law (refine step_app rfl (.tmp 155) (.tmp 164) 43 rfl Efsg.underlying43 base u10 (acc ++ sepIf D sh sp k) (pair D cb) (by simp [Act.eval]) hown1 _ 2 2 (by simp [Act.eval]) rfl (pair_cells HD.out hdg) hbd1 hbw1 ?_; intro v2 w2 hown2 hb2)
                        all_goals
                          go_wp2
                          go_roundw
                          case rel =>
                            refine ⟨k + 1, by omega, by go_num, ?_, ⟨v0, (hb2.block bb hbb).trans ((hb1.block bb hbb).trans hv)⟩, hFr.trans (Fr.of_below (hb1.trans hb2))⟩
                            rw [Hacc.out] at hown2
                            have e : S.getD k 0 = cb := by rw [HS.out, Hcb.out, List.getD_eq_getElem?_getD, List.getElem?_eq_getElem (by simp; omega)]; rfl
                            rw [sbxTo, e]
                            simpa [List.append_assoc] using hown2
                          case measure => simp [intOf]; omega
                  · obtain ⟨ao, l, c, h10⟩ : ∃ ao l c, u10 = .slice ao l c := by
                      rcases own_form hown with ⟨h, _⟩ | ⟨g, c, h, _⟩
                      · exact ⟨_, _, _, h⟩
                      · exact ⟨_, _, _, h⟩
                    subst h10
                    have hcb := cell_of_one hv
                    have hfr := free_of_one hv
                    have hFr2 := hFr.setBuf 0 (.slice ao l c)
                    have hbf2 : Buf (wr.setCell ⟨bb, 0, none⟩ (.slice ao l c)) bb base (pre ++ sbxTo D sh sp S N) := by
                      obtain rfl : k = N := by omega
                      exact ⟨_, one_setCell hv, ownsRow_setCell_below hown hbb _⟩
                    have hF2 := HF.out.fr hFr2 hfb hne h0bb hbb
                    have hsz : base ≤ (wr.setCell ⟨bb, 0, none⟩ (.slice ao l c)).heap.size := by simpa using hbw
                    go_upto_region 33 with (fail)
                    clear hM hf0 hf1 hf2 hf3 hf5 hf6 hf7 hf13 hf14 hown hv hcb hfr hFr hbw
                    generalize wr.setCell ⟨bb, 0, none⟩ (.slice ao l c) = w3 at *
                    obtain ⟨hM, hf0, hf1, hf2, hf3, hf5, hf6, hf7, hf13, hf14⟩ := hF2
                    go_cut [191] from 172 to 191 (fun s191 wx => s191 = .bool (wp && decide (W < wid) && mi) ∧ w3 = wx)
                    case first =>
                      cases wp
                      · go_wp2
                        go_meet
                        case rel => exact ⟨by simp, rfl⟩
                      · by_cases hd : W < wid
                        · go_wp2
                          go_meet
                          case rel => exact ⟨by simp [hd], rfl⟩
                        · go_wp2
                          go_meet
                          case rel => exact ⟨by simp [hd], rfl⟩
                    case rest =>
                      obtain ⟨rfl, rfl⟩ := hcut
                      have hln := length_sbxTo_le D sh sp S N
                      have hq : ((pre ++ sbxTo D sh sp S N).length : Int) + ((wid : Int) - (W : Int)) ≤ 2147483647 := by rw [List.length_append]; omega
                      have hfin := fmtHex_eq D wid W wp mi sh sp ze S N hN0 HW.out
                      rw [← Hpre.out] at hfin
                      cases hd : (wp && decide (W < wid) && mi)
                      · rw [hd] at hfin
                        have Hfin : Hid (_ = _) := hfin
                        clear hfin
                        go_wp2
                        go_end0
                        exact ⟨rfl, by rw [← Hfin.out]; simpa using hbf2, hFr2⟩
                      · rw [hd] at hfin
                        have Hfin : Hid (_ = _) := hfin
                        clear hfin
                        have hlt2 : W < wid := by simp at hd; omega
                        go_wp2_with (go_at_call 42; refine (pad_any fb bb base _ ze _ w3 hq hM hbb hfb hsz hf0 hf7 hbf2).mono ?_; rintro e w' ⟨rfl, hb1, hb2⟩)
                        go_end0
                        exact ⟨rfl, by rw [← Hfin.out]; have e : ((wid : Int) - (W : Int)).toNat = wid - W := by omega
                                       simpa [e] using hb1, hFr2.trans hb2⟩
end Go.Proofs.YoefswDoor
