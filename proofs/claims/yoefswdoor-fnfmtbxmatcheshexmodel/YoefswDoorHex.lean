/-
  zzHexDigit and zzHexModel by contract.
-/
import Derived.Test.YoefswDoorCutWalk
import Derived.Test.YoefswDoorHexPlain
namespace Go.Proofs.YoefswDoor
open Go.RowKit

theorem tab_low (up : Bool) : ∀ n : Fin 16, n.val < 10 → ((digs up).data.toList.getD n.val 0).toNat = 48 + n.val := by cases up <;> decide
theorem tab_up : ∀ n : Fin 16, ¬ n.val < 10 → ((digs true).data.toList.getD n.val 0).toNat = 55 + n.val := by decide
theorem tab_dn : ∀ n : Fin 16, ¬ n.val < 10 → ((digs false).data.toList.getD n.val 0).toNat = 87 + n.val := by decide

/-- The digit of a nibble; the x. (Names of their own: the walk's simp leaves them standing.) -/
def nib (up : Bool) (n : Nat) : UInt8 := (digs up).data.toList.getD n 0
def xB (up : Bool) : UInt8 := (digs up).data.toList.getD 16 0

theorem ret_u8 {a b : Int} (h : a = b) : Ending.returned (.int .u8 a) = .returned (.int .u8 b) := by rw [h]

theorem hexDigit_any (x : Int) (up : Bool) (w : World) (h0 : 0 ≤ x) (h1 : x < 16) :
    Calls Efsg.prog 30 #[.int .u8 x, .bool up] w fun e w' => e = .returned (.int .u8 ((nib up x.toNat).toNat : Int)) ∧ w = w' := by
  unfold nib
  obtain ⟨n, rfl⟩ := Int.eq_ofNat_of_zero_le h0
  rw [Int.toNat_natCast]
  by_cases h : n < 10
  · have e := tab_low up ⟨n, by omega⟩ h
    simp only at e
    rw [e]
    clear e
    go_enter Efsg.func30, Efsg.ntmps30
    go_wp2
    go_ret
    exact ⟨by go_num, rfl⟩
  · cases up
    · have e := tab_dn ⟨n, by omega⟩ h
      simp only at e
      rw [e]
      clear e
      go_enter Efsg.func30, Efsg.ntmps30
      go_wp2
      go_ret
      exact ⟨ret_u8 (by omega), rfl⟩
    · have e := tab_up ⟨n, by omega⟩ h
      simp only at e
      rw [e]
      clear e
      go_enter Efsg.func30, Efsg.ntmps30
      go_wp2
      go_ret
      exact ⟨ret_u8 (by omega), rfl⟩

theorem pair_at {D : List UInt8} {up : Bool} {cb : UInt8} (hD : D = (digs up).data.toList) : [Value.int .u8 ((nib up (cb.toNat / 16)).toNat : Int), Value.int .u8 ((nib up (cb.toNat % 16)).toNat : Int)] = bv (pair D cb) := by
  subst hD
  rfl

theorem lead_at {D : List UInt8} {up : Bool} (hD : D = (digs up).data.toList) : [Value.int .u8 48, Value.int .u8 ((xB up).toNat : Int)] = bv (lead D) := by
  subst hD
  rfl

set_option maxRecDepth 100000 in
set_option maxHeartbeats 1000000 in
theorem hexModel_any (n : Nat) (s : ByteArray) (up sh sp : Bool) (w : World) (hs : s.size ≤ 1048576) (hn : n ≤ s.size) :
    Calls Efsg.prog 14 #[.string s, .int .i64 n, .bool up, .bool sh, .bool sp] w fun e w' => ∃ v, e = .returned v ∧ Owns w' w.heap.size v (hexBody (digs up).data.toList sh sp s.data.toList n) ∧ Below w.heap.size w w' := by
  obtain ⟨D, hD⟩ : ∃ D, D = (digs up).data.toList := ⟨_, rfl⟩
  have HD : Hid (D = (digs up).data.toList) := hD
  rw [← hD]
  clear hD
  obtain ⟨S, hS⟩ : ∃ S, S = s.data.toList := ⟨_, rfl⟩
  have HS : Hid (S = s.data.toList) := hS
  rw [← hS]
  clear hS
  obtain ⟨base, hbase⟩ : ∃ base, base = w.heap.size := ⟨_, rfl⟩
  obtain ⟨i0, hi, hi0, hi1, hi2⟩ := info_parts Efsg.info5
  rw [← hbase]
  have hbl : base ≤ w.heap.size := by omega
  clear hbase
  go_enter Efsg.func14, Efsg.ntmps14
  go_upto_if 19 with (at_make; refine wpList_make_own _ rfl _ _ 25 rfl base 5 i0 (.int .u8 0) 1 Efsg.underlying25 hi hi0 hi1 _ _ _ (5 * n + 2) rfl rfl (by omega) (by rw [hi2]; omega) (by unfold maxLen; omega) hbl ?_; intro w1 hown1 hgr1)
  have hb1 := grown_below hbl hgr1
  go_cut [12] from 19 to 19 (fun s12 wx => s12 = .int .u8 ((xB up).toNat : Int) ∧ w1 = wx)
  case first =>
    cases up
    all_goals
      go_wp2
      go_meet
      case rel => exact ⟨rfl, rfl⟩
  case rest =>
    obtain ⟨rfl, rfl⟩ := hcut
    go_upto_region 5 with (fail)
    go_cut [28] from 20 to 28 (fun s28 wx => s28 = .bool (sh && !sp && decide (0 < n)) ∧ w1 = wx)
    case first =>
      cases sh
      · go_wp2
        go_meet
        case rel => exact ⟨by simp, rfl⟩
      · cases sp
        all_goals
          go_wp2
          go_meet
          case rel => exact ⟨by simp, rfl⟩
    case rest =>
      obtain ⟨rfl, rfl⟩ := hcut
      have hownA : Owns w1 base (.slice (some ⟨w.heap.size, 0, none⟩) 0 (5 * n + 2)) [] := hown1
      clear hown1
      go_upto_if 28 with (fail)
      go_cut [11] from 28 to 32 (fun s11 wx => Owns wx base s11 (mdTo D sh sp n S 0) ∧ Below base w wx)
      case first =>
        cases hd : (sh && !sp && decide (0 < n))
        · go_wp2
          go_meet
          case rel => exact ⟨by simpa [mdTo, hd] using hownA, hb1⟩
        · go_wp2_with (at_builtin; refine wpList_app rfl (.tmp 29) (.tmp 31) 25 rfl Efsg.underlying25 base _ [] (lead D) rfl hownA _ 2 2 rfl rfl (lead_at HD.out) (by simp [lead]) (Nat.le_trans hbl hb1.size) ?_; intro v2 w2 hown2 hb2)
          go_meet
          case rel => exact ⟨by simpa [mdTo, hd] using hown2, hb1.trans hb2⟩
      case rest =>
        obtain ⟨hownB, hb2⟩ := hcut
        clear hownA hgr1 hb1
        go_wp2_with fail
        go_loopw [11, 13] (fun v i wr => ∃ k : Nat, k ≤ n ∧ i = .int .i64 k ∧ Owns wr base v (mdTo D sh sp n S k) ∧ Below base w wr) (fun _ i _ => n - (intOf i).toNat)
        case atStart => exact ⟨0, Nat.zero_le _, rfl, hownB, hb2⟩
        case round =>
          clear hownB hb2
          obtain ⟨k, hk, rfl, hown, hbr⟩ := hrel
          have hbw : base ≤ wr.heap.size := Nat.le_trans hbl hbr.size
          by_cases hlt : k < n
          · have hln := length_mdTo_le D sh sp n S k
            obtain ⟨acc, hacc⟩ : ∃ acc, acc = mdTo D sh sp n S k := ⟨_, rfl⟩
            have hal : acc.length ≤ 10000000 := by rw [hacc]; omega
            have Hacc : Hid (acc = mdTo D sh sp n S k) := hacc
            rw [← hacc] at hown
            clear hacc hln
            have hks : k < s.size := by omega
            obtain ⟨cb, hcb⟩ : ∃ cb, cb = s[k] := ⟨_, rfl⟩
            have Hcb : Hid (S.getD k 0 = cb) := by unfold Hid; rw [hcb, HS.out, List.getD_eq_getElem?_getD, List.getElem?_eq_getElem (by simpa using hks)]; rfl
            have hcl := cb.toNat_lt
            have hsk : s[k] = cb := hcb.symm
            clear hcb
            cases sp
            · cases sh
              all_goals
                go_wp2_with (first | (at_builtin; refine wpList_app rfl (.tmp 57) (.tmp 66) 25 rfl Efsg.underlying25 base u11 acc (pair D cb) rfl hown _ 2 2 rfl rfl (pair_at HD.out) (by simp [pair]; omega) hbw ?_; intro v9 w9 hown9 hb9) | (go_at_call 30; refine (hexDigit_any _ up _ (by omega) (by omega)).mono ?_; rintro e w' ⟨rfl, rfl⟩))
                go_roundw
                case rel =>
                  refine ⟨k + 1, by omega, by go_num, ?_, hbr.trans hb9⟩
                  rw [Hacc.out] at hown9
                  rw [mdTo, Hcb.out]
                  simpa using hown9
                case measure => simp [intOf]; omega
            · by_cases h0 : 0 < k
              · cases sh
                · go_wp2_with (first | (at_builtin; refine wpList_app rfl (.tmp 43) (.tmp 44) 25 rfl Efsg.underlying25 base u11 acc [32] rfl hown _ 1 1 rfl rfl rfl (by simp; omega) hbw ?_; intro v1 w1 hown1 hb1; have hbw1 := Nat.le_trans hbw hb1.size) | (at_builtin; refine wpList_app rfl (.tmp 57) (.tmp 66) 25 rfl Efsg.underlying25 base v1 (acc ++ [32]) (pair D cb) rfl hown1 _ 2 2 rfl rfl (pair_at HD.out) (by simp [pair]; omega) hbw1 ?_; intro v9 w9 hown9 hb9) | (go_at_call 30; refine (hexDigit_any _ up _ (by omega) (by omega)).mono ?_; rintro e w' ⟨rfl, rfl⟩))
                  go_roundw
                  case rel =>
                    refine ⟨k + 1, by omega, by go_num, ?_, hbr.trans (hb1.trans hb9)⟩
                    rw [Hacc.out] at hown9
                    rw [mdTo, Hcb.out]
                    simpa [h0] using hown9
                  case measure => simp [intOf]; omega
                · go_wp2_with (first | (at_builtin; refine wpList_app rfl (.tmp 43) (.tmp 44) 25 rfl Efsg.underlying25 base u11 acc [32] rfl hown _ 1 1 rfl rfl rfl (by simp; omega) hbw ?_; intro v1 w1 hown1 hb1; have hbw1 := Nat.le_trans hbw hb1.size) | (at_builtin; refine wpList_app rfl (.tmp 50) (.tmp 52) 25 rfl Efsg.underlying25 base v1 (acc ++ [32]) (lead D) rfl hown1 _ 2 2 rfl rfl (lead_at HD.out) (by simp [lead]; omega) hbw1 ?_; intro v2 w2 hown2 hb2; have hbw2 := Nat.le_trans hbw1 hb2.size) | (at_builtin; refine wpList_app rfl (.tmp 57) (.tmp 66) 25 rfl Efsg.underlying25 base v2 ((acc ++ [32]) ++ lead D) (pair D cb) rfl hown2 _ 2 2 rfl rfl (pair_at HD.out) (by simp [lead, pair]; omega) hbw2 ?_; intro v9 w9 hown9 hb9) | (go_at_call 30; refine (hexDigit_any _ up _ (by omega) (by omega)).mono ?_; rintro e w' ⟨rfl, rfl⟩))
                  go_roundw
                  case rel =>
                    refine ⟨k + 1, by omega, by go_num, ?_, hbr.trans ((hb1.trans hb2).trans hb9)⟩
                    rw [Hacc.out] at hown9
                    rw [mdTo, Hcb.out]
                    simpa [h0] using hown9
                  case measure => simp [intOf]; omega
              · cases sh
                · go_wp2_with (first | (at_builtin; refine wpList_app rfl (.tmp 57) (.tmp 66) 25 rfl Efsg.underlying25 base u11 acc (pair D cb) rfl hown _ 2 2 rfl rfl (pair_at HD.out) (by simp [pair]; omega) hbw ?_; intro v9 w9 hown9 hb9) | (go_at_call 30; refine (hexDigit_any _ up _ (by omega) (by omega)).mono ?_; rintro e w' ⟨rfl, rfl⟩))
                  go_roundw
                  case rel =>
                    refine ⟨k + 1, by omega, by go_num, ?_, hbr.trans hb9⟩
                    rw [Hacc.out] at hown9
                    rw [mdTo, Hcb.out]
                    simpa [h0] using hown9
                  case measure => simp [intOf]; omega
                · go_wp2_with (first | (at_builtin; refine wpList_app rfl (.tmp 50) (.tmp 52) 25 rfl Efsg.underlying25 base u11 acc (lead D) rfl hown _ 2 2 rfl rfl (lead_at HD.out) (by simp [lead]; omega) hbw ?_; intro v2 w2 hown2 hb2; have hbw2 := Nat.le_trans hbw hb2.size) | (at_builtin; refine wpList_app rfl (.tmp 57) (.tmp 66) 25 rfl Efsg.underlying25 base v2 (acc ++ lead D) (pair D cb) rfl hown2 _ 2 2 rfl rfl (pair_at HD.out) (by simp [lead, pair]; omega) hbw2 ?_; intro v9 w9 hown9 hb9) | (go_at_call 30; refine (hexDigit_any _ up _ (by omega) (by omega)).mono ?_; rintro e w' ⟨rfl, rfl⟩))
                  go_roundw
                  case rel =>
                    refine ⟨k + 1, by omega, by go_num, ?_, hbr.trans (hb2.trans hb9)⟩
                    rw [Hacc.out] at hown9
                    rw [mdTo, Hcb.out]
                    simpa [h0] using hown9
                  case measure => simp [intOf]; omega
          · go_wp2
            go_ret
            obtain rfl : k = n := by omega
            rw [mdTo_all] at hown
            exact ⟨_, rfl, hown, hbr⟩
end Go.Proofs.YoefswDoor
