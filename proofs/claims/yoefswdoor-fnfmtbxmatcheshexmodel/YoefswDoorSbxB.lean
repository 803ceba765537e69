/-
  fmtSbx over a byte slice that is not nil.
-/
import Derived.Test.YoefswDoorZsx
namespace Go.Proofs.YoefswDoor
open Go.RowKit

set_option maxRecDepth 100000 in
set_option maxHeartbeats 3000000 in
theorem sbxB (fb bb base wid prec N gb cap : Nat) (S : List UInt8) (dg : ByteArray) (wp pp mi sh sp ze : Bool) (w : World) (hs : S.length ≤ 1048576) (hwid : wid ≤ 65536) (hdg : dg.size = 17)
    (h0bb : 0 < bb) (hbb : bb < base) (hfb : fb < base) (hne : fb ≠ bb) (hbase : base ≤ w.heap.size) (hF : FmtAt w fb bb wp pp mi sh sp ze wid prec) (hbuf : Buf w bb base []) (hN : Hid (effN pp prec S.length = N)) (hNs : N ≤ S.length) (hgb : gb < base) (hgn : gb ≠ bb)
    (hsrc : Hid (∀ k, k < S.length → w.cell? ⟨gb, k, none⟩ = some (.int .u8 ((S.getD k 0).toNat : Int)))) :
    Calls Efsg.prog 34 #[.pointer (some ⟨fb, 0, none⟩), .string ⟨#[]⟩, .slice (some ⟨gb, 0, none⟩) S.length cap, .string dg] w fun e w' => e = .returned (.tuple #[]) ∧
      Buf w' bb base (fmtHex dg.data.toList wid wp mi sh sp ze S N) ∧ Fr bb base w w' := by
  obtain ⟨D, hD⟩ : ∃ D, D = dg.data.toList := ⟨_, rfl⟩
  have HD : Hid (D = dg.data.toList) := hD
  rw [← hD]
  clear hD
  have HF : Hid (FmtAt w fb bb wp pp mi sh sp ze wid prec) := hF
  obtain ⟨hM, hf0, hf1, hf2, hf3, hf5, hf6, hf7, hf13, hf14⟩ := hF
  have heq := fun (w : World) (a : Option Addr) (n c : Nat) => Lib.run_eql_slice_nil (P := Efsg.prog) w 25 5 a n c 0 0 Efsg.underlying25
  go_enter Efsg.func34, Efsg.ntmps34
  go_upto_region 3 with (fail)
  go_cut [31] from 19 to 31 (fun s31 wx => s31 = .bool (pp && decide (prec < S.length)) ∧ w = wx)
  case first =>
    cases pp
    all_goals
      go_wp2
      go_meet
      case rel => exact ⟨by simp, rfl⟩
  case rest =>
    obtain ⟨rfl, rfl⟩ := hcut
    go_upto_if 31 with (fail)
    go_cut [8] from 19 to 35 (fun s8 wx => s8 = .int .i64 (N : Int) ∧ w = wx)
    case first =>
      cases hp : (pp && decide (prec < S.length))
      all_goals
        go_wp2
        go_meet
        case rel => exact ⟨by rw [← hN.out]; simp [effN, hp], rfl⟩
    case rest =>
      obtain ⟨rfl, rfl⟩ := hcut
      by_cases hN0 : N = 0
      · subst hN0
        cases wp
        · go_wp2_with fail
          first | go_end0 | refine bodyPost_ret (results_none rfl _ _ _) rfl ?_
          exact ⟨rfl, by rw [fmtHex_zero]; exact hbuf, Fr.refl _ _ _⟩
        · go_wp2_with (go_at_call 42; refine (pad_any fb bb base _ ze [] w (by simp; omega) hM hbb hfb hbase hf0 hf7 hbuf).mono ?_; rintro e w' ⟨rfl, hb1, hb2⟩)
          first | go_end0 | refine bodyPost_ret (results_none rfl _ _ _) rfl ?_
          exact ⟨rfl, by rw [fmtHex_zero]; simpa using hb1, hb2⟩
      · obtain ⟨W, hW⟩ : ∃ W, W = sbxW sh sp N := ⟨_, rfl⟩
        have HW : Hid (W = sbxW sh sp N) := hW
        clear hW
        go_upto_if 39 with (fail)
        go_cut [9] from 36 to 62 (fun s9 wx => s9 = .int .i64 (W : Int) ∧ w = wx)
        case first =>
          cases sp
          all_goals
            cases sh
            all_goals
              go_wp2
              go_meet
              case rel => exact ⟨by rw [HW.out]; simp [sbxW]; try omega, rfl⟩
        case rest =>
          obtain ⟨rfl, rfl⟩ := hcut
          go_upto_region 15 with (fail)
          go_cut [94] from 74 to 94 (fun s94 wx => s94 = .bool (wp && decide (W < wid) && !mi) ∧ w = wx)
          case first =>
            cases wp
            · go_wp2
              go_meet
              case rel => exact ⟨by simp, rfl⟩
            · by_cases hd : W < wid
              · go_wp2
                go_meet
                case rel => exact ⟨by simp [hd], rfl⟩
              · go_wp2
                go_meet
                case rel => exact ⟨by simp [hd], rfl⟩
          case rest =>
            obtain ⟨rfl, rfl⟩ := hcut
            go_upto_if 94 with (fail)
            obtain ⟨pre, hpre⟩ : ∃ pre, pre = List.replicate (cond (wp && decide (W < wid) && !mi) (wid - W) 0) (padB ze) := ⟨_, rfl⟩
            have Hpre : Hid (pre = List.replicate (cond (wp && decide (W < wid) && !mi) (wid - W) 0) (padB ze)) := hpre
            clear hpre
            go_cut [94] from 95 to 102 (fun _ wx => Buf wx bb base pre ∧ Fr bb base w wx)
            case first =>
              cases hd : (wp && decide (W < wid) && !mi)
              · go_wp2
                go_meet
                case rel => exact ⟨by rw [Hpre.out, hd]; exact hbuf, Fr.refl _ _ _⟩
              · have hlt : W < wid := by simp at hd; omega
                go_wp2_with (go_at_call 42; refine (pad_any fb bb base _ ze [] w (by simp; omega) hM hbb hfb hbase hf0 hf7 hbuf).mono ?_; rintro e w' ⟨rfl, hb1, hb2⟩)
                go_meet
                case rel => exact ⟨by rw [Hpre.out, hd]; have e : ((wid : Int) - (W : Int)).toNat = wid - W := by omega
                                      simpa [e] using hb1, hb2⟩
            case rest =>
              obtain ⟨hbw, hFr⟩ := hcut
              have hF1 := HF.out.fr hFr hfb hne h0bb hbb
              clear hM hf0 hf1 hf2 hf3 hf5 hf6 hf7 hf13 hf14 hbuf
              obtain ⟨hM, hf0, hf1, hf2, hf3, hf5, hf6, hf7, hf13, hf14⟩ := hF1
              obtain ⟨v, hv, hown⟩ := hbw
              have hcb := cell_of_one hv
              have hpl : pre.length ≤ 65536 := by rw [Hpre.out]; cases (wp && decide (W < wid) && !mi) <;> simp <;> omega
              have hbw : base ≤ wc.heap.size := by have := hFr.size; omega
              go_upto_if 113 with (fail)
              go_cut [10] from 103 to 118 (fun s10 wx => Owns wx base s10 (pre ++ sbxTo D sh sp S 0) ∧ (∃ v0, wx.heap[bb]? = some (.cells #[v0] 43 (0, 0))) ∧ Fr bb base w wx)
              case first =>
                cases sh
                · go_wp2
                  go_meet
                  case rel => exact ⟨by simpa [sbxTo, leadIf, Owns] using hown, ⟨v, hv⟩, hFr⟩
                · go_wp2_with (at_builtin; refine wpList_app rfl (.tmp 114) (.tmp 117) 43 rfl Efsg.underlying43 base v pre (lead D) rfl hown _ 2 2 rfl rfl (lead_cells HD.out (by omega)) (by simp [lead]; omega) hbw ?_; intro v1 w1 hown1 hb1)
                  go_meet
                  case rel => exact ⟨hown1, ⟨v, (hb1.block bb hbb).trans hv⟩, hFr.trans (Fr.of_below hb1)⟩
              case rest =>
                obtain ⟨hown1, ⟨v0, hv0⟩, hFr1⟩ := hcut
                clear hM hf0 hf1 hf2 hf3 hf5 hf6 hf7 hf13 hf14 hown hcb hv hFr
                go_wp2_with fail
                go_loopw [10, 12] (fun v i wr => ∃ k : Nat, k ≤ N ∧ i = .int .i64 k ∧ Owns wr base v (pre ++ sbxTo D sh sp S k) ∧ (∃ v0, wr.heap[bb]? = some (.cells #[v0] 43 (0, 0))) ∧ Fr bb base w wr) (fun _ i _ => N - (intOf i).toNat)
                case atStart => exact ⟨0, Nat.zero_le _, rfl, hown1, ⟨v0, hv0⟩, hFr1⟩
                case round =>
                  clear hown1 hv0 hFr1
                  obtain ⟨k, hk, rfl, hown, ⟨v0, hv⟩, hFr⟩ := hrel
                  have hF1 := HF.out.fr hFr hfb hne h0bb hbb
                  obtain ⟨hM, hf0, hf1, hf2, hf3, hf5, hf6, hf7, hf13, hf14⟩ := hF1
                  have hbw : base ≤ wr.heap.size := by have := hFr.size; omega
                  by_cases hlt : k < N
                  · have hln := length_sbxTo_le D sh sp S k
                    obtain ⟨acc, hacc⟩ : ∃ acc, acc = pre ++ sbxTo D sh sp S k := ⟨_, rfl⟩
                    have hal : acc.length ≤ 10000000 := by rw [hacc, List.length_append]; omega
                    have Hacc : Hid (acc = pre ++ sbxTo D sh sp S k) := hacc
                    rw [← hacc] at hown
                    clear hacc hln
                    go_upto_region 24 with (fail)
                    go_cut [132] from 124 to 132 (fun s132 wx => s132 = .bool (sp && decide (0 < k)) ∧ wr = wx)
                    case first =>
                      cases sp
                      all_goals
                        go_wp2
                        go_meet
                        case rel => exact ⟨by simp, rfl⟩
                    case rest =>
                      obtain ⟨rfl, rfl⟩ := hcut
                      go_upto_if 132 with (fail)
                      go_cut [10] from 132 to 145 (fun s10 wx => Owns wx base s10 (acc ++ sepIf D sh sp k) ∧ Below base wr wx)
                      case first =>
                        cases hd : (sp && decide (0 < k))
                        · go_wp2
                          go_meet
                          case rel => exact ⟨by simpa [sepIf, hd] using hown, Below.refl _ _⟩
                        · cases sh
                          · go_wp2_with (at_builtin; refine wpList_app rfl (.tmp 133) (.tmp 134) 43 rfl Efsg.underlying43 base u10 acc [32] rfl hown _ 1 1 rfl rfl rfl (by simp; omega) hbw ?_; intro v1 w1 hown1 hb1; have hf5a := (hb1.cell (p := ⟨fb, 5, none⟩) hfb).trans hf5)
                            go_meet
                            case rel => exact ⟨by simpa [sepIf, hd, leadIf] using hown1, hb1⟩
                          · go_wp2_with (first | (at_builtin; refine wpList_app rfl (.tmp 133) (.tmp 134) 43 rfl Efsg.underlying43 base u10 acc [32] rfl hown _ 1 1 rfl rfl rfl (by simp; omega) hbw ?_; intro v1 w1 hown1 hb1; have hf5a := (hb1.cell (p := ⟨fb, 5, none⟩) hfb).trans hf5; have hbw1 := Nat.le_trans hbw hb1.size) | (at_builtin; refine wpList_app rfl (.tmp 141) (.tmp 144) 43 rfl Efsg.underlying43 base v1 (acc ++ [32]) (lead D) rfl hown1 _ 2 2 rfl rfl (lead_cells HD.out (by omega)) (by simp [lead]; omega) hbw1 ?_; intro v2 w2 hown2 hb2))
                            go_meet
                            case rel => exact ⟨by simpa [sepIf, hd, leadIf] using hown2, hb1.trans hb2⟩
                      case rest =>
                        obtain ⟨hown1, hb1⟩ := hcut
                        obtain ⟨cb, hcb⟩ : ∃ cb, cb = S.getD k 0 := ⟨_, rfl⟩
                        have hck : wc.cell? ⟨gb, k, none⟩ = some (.int .u8 (cb.toNat : Int)) := (hb1.cell (p := ⟨gb, k, none⟩) hgb).trans ((hFr.cell (p := ⟨gb, k, none⟩) hgb hgn).trans (by rw [hsrc.out k (by omega), hcb]))
                        have hkS : k < S.length := by omega
                        have Hcb : Hid (S.getD k 0 = cb) := hcb.symm
                        clear hcb
                        go_upto_region 31 with (fail)
                        have hcl := cb.toNat_lt
                        have hi1 : 0 ≤ (cb.toNat : Int) / 16 ∧ (cb.toNat : Int) / 16 < 17 := by omega
                        have hi2 : 0 ≤ (cb.toNat : Int) % 16 ∧ (cb.toNat : Int) % 16 < 17 := by omega
                        have h15 : bits BinOp.and IntKind.u8 (cb.toNat : Int) 15 = (cb.toNat : Int) % 16 := u8_and15 _ (by omega) (by omega)
                        have hsl : (sepIf D sh sp k).length ≤ 3 := by rw [length_sepIf]; cases (sp && decide (0 < k)) <;> cases sh <;> simp
                        have hbd1 : (acc ++ sepIf D sh sp k).length + (pair D cb).length ≤ 1099511627776 := by rw [List.length_append]; show _ + 2 ≤ _; omega
                        have hbw1 : base ≤ wc.heap.size := Nat.le_trans hbw hb1.size
                        go_region_law (refine step_app rfl (.tmp 155) (.tmp 164) 43 rfl Efsg.underlying43 base u10 (acc ++ sepIf D sh sp k) (pair D cb) (by simp [Act.eval]) hown1 _ 2 2 (by simp [Act.eval]) rfl (pair_cells HD.out hdg) hbd1 hbw1 ?_; intro v2 w2 hown2 hb2)
                        all_goals
                          go_wp2
                          go_roundw
                          case rel =>
                            refine ⟨k + 1, by omega, by go_num, ?_, ⟨v0, (hb2.block bb hbb).trans ((hb1.block bb hbb).trans hv)⟩, hFr.trans (Fr.of_below (hb1.trans hb2))⟩
                            rw [Hacc.out] at hown2
                            rw [sbxTo, Hcb.out]
                            simpa [List.append_assoc] using hown2
                          case measure => simp [intOf]; omega
                  · obtain ⟨ao, l, c, h10⟩ : ∃ ao l c, u10 = .slice ao l c := by
                      rcases own_form hown with ⟨h, _⟩ | ⟨g, c, h, _⟩
                      · exact ⟨_, _, _, h⟩
                      · exact ⟨_, _, _, h⟩
                    subst h10
                    have hcb := cell_of_one hv
                    have hfr := free_of_one hv
                    have hFr2 := hFr.setBuf 0 (.slice ao l c)
                    have hbf2 : Buf (wr.setCell ⟨bb, 0, none⟩ (.slice ao l c)) bb base (pre ++ sbxTo D sh sp S N) := by
                      obtain rfl : k = N := by omega
                      exact ⟨_, one_setCell hv, ownsRow_setCell_below hown hbb _⟩
                    have hF2 := HF.out.fr hFr2 hfb hne h0bb hbb
                    have hsz : base ≤ (wr.setCell ⟨bb, 0, none⟩ (.slice ao l c)).heap.size := by simpa using hbw
                    go_upto_region 33 with (fail)
                    clear hM hf0 hf1 hf2 hf3 hf5 hf6 hf7 hf13 hf14 hown hv hcb hfr hFr hbw
                    generalize wr.setCell ⟨bb, 0, none⟩ (.slice ao l c) = w3 at *
                    obtain ⟨hM, hf0, hf1, hf2, hf3, hf5, hf6, hf7, hf13, hf14⟩ := hF2
                    go_cut [191] from 172 to 191 (fun s191 wx => s191 = .bool (wp && decide (W < wid) && mi) ∧ w3 = wx)
                    case first =>
                      cases wp
                      · go_wp2
                        go_meet
                        case rel => exact ⟨by simp, rfl⟩
                      · by_cases hd : W < wid
                        · go_wp2
                          go_meet
                          case rel => exact ⟨by simp [hd], rfl⟩
                        · go_wp2
                          go_meet
                          case rel => exact ⟨by simp [hd], rfl⟩
                    case rest =>
                      obtain ⟨rfl, rfl⟩ := hcut
                      have hln := length_sbxTo_le D sh sp S N
                      have hq : ((pre ++ sbxTo D sh sp S N).length : Int) + ((wid : Int) - (W : Int)) ≤ 2147483647 := by rw [List.length_append]; omega
                      have hfin := fmtHex_eq D wid W wp mi sh sp ze S N hN0 HW.out
                      rw [← Hpre.out] at hfin
                      cases hd : (wp && decide (W < wid) && mi)
                      · rw [hd] at hfin
                        have Hfin : Hid (_ = _) := hfin
                        clear hfin
                        go_wp2
                        go_end0
                        exact ⟨rfl, by rw [← Hfin.out]; simpa using hbf2, hFr2⟩
                      · rw [hd] at hfin
                        have Hfin : Hid (_ = _) := hfin
                        clear hfin
                        have hlt2 : W < wid := by simp at hd; omega
                        go_wp2_with (go_at_call 42; refine (pad_any fb bb base _ ze _ w3 hq hM hbb hfb hsz hf0 hf7 hbf2).mono ?_; rintro e w' ⟨rfl, hb1, hb2⟩)
                        go_end0
                        exact ⟨rfl, by rw [← Hfin.out]; have e : ((wid : Int) - (W : Int)).toNat = wid - W := by omega
                                       simpa [e] using hb1, hFr2.trans hb2⟩
end Go.Proofs.YoefswDoor
