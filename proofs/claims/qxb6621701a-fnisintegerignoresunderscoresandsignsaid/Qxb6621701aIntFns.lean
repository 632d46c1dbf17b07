/-
  THE WALKS OF digitValue and IsInteger.
-/
import Derived.Test.Qxb6621701aUndFns
import Derived.Test.Qxb6621701aInt
import Derived.Deep.DeepCutAuto
import Derived.Deep.CutBlock
namespace Go.Proofs.Qxb6621701a
open Go.RowKit Go.PlainAid
set_option linter.unusedVariables false

/-- digitValue. -/
theorem digit_any (c : Int) (w : World) (h0 : 0 ≤ c) (h1 : c ≤ 255) : Calls Try.prog 13 #[.int .u8 c] w fun e w' => e = .returned (.int .i64 (dv c)) ∧ w = w' := by
  by_cases ha : 48 ≤ c ∧ c ≤ 57
  · obtain ⟨a1, a2⟩ := ha
    go_enter Try.func13, Try.ntmps13
    go_wp2
    go_ret
    exact ⟨rt_int (by unfold dv; rw [if_pos (by omega)]), rfl⟩
  by_cases hb : 97 ≤ c ∧ c ≤ 102
  · obtain ⟨a1, a2⟩ := hb
    have a3 : (48 : Int) ≤ c := by omega
    have a4 : ¬ c ≤ 57 := by omega
    go_enter Try.func13, Try.ntmps13
    go_wp2
    go_ret
    exact ⟨rt_int (by unfold dv; rw [if_neg (by omega), if_pos (by omega)]), rfl⟩
  by_cases hc : 65 ≤ c ∧ c ≤ 70
  · obtain ⟨a1, a2⟩ := hc
    have a3 : (48 : Int) ≤ c := by omega
    have a4 : ¬ c ≤ 57 := by omega
    have a5 : decide ((97 : Int) ≤ c) = false := decide_eq_false (by omega)
    have a6 : ¬ (97 : Int) ≤ c := by omega
    go_enter Try.func13, Try.ntmps13
    go_wp2
    go_ret
    exact ⟨rt_int (by unfold dv; rw [if_neg (by omega), if_neg (by omega), if_pos (by omega)]), rfl⟩
  · go_enter Try.func13, Try.ntmps13
    go_wp2
    all_goals (go_ret; exact ⟨rt_int (by unfold dv; rw [if_neg (by omega), if_neg (by omega), if_neg (by omega)]), rfl⟩)

theorem not_empty {s : ByteArray} (h : 0 < s.size) : s.toList.isEmpty = false := by
  rw [← decide_eq_emptyBytes s]
  exact decide_eq_false (fun e => by rw [e] at h; simp at h)

theorem isInteger_empty (w : World) : Calls Try.prog 7 #[.string ByteArray.empty] w fun e w' => e = .returned (.bool false) ∧ w = w' := by
  go_enter Try.func7, Try.ntmps7
  go_wp2
  go_ret
  exact ⟨rfl, rfl⟩

theorem isInteger_else (s : ByteArray) (w : World) (hs : s.size ≤ 1048576) (h0 : 0 < s.size) (h1 : (bt s 0 == 43) = false) (h2 : (bt s 0 == 45) = false) (h3 : bt s 0 < 48 ∨ 57 < bt s 0) :
    Calls Try.prog 7 #[.string s] w fun e w' => e = .returned (.bool false) ∧ w = w' := by
  have hb := get_bt s
  have hne := not_empty h0
  rcases h3 with h3 | h3
  · go_enter Try.func7, Try.ntmps7
    go_wp2
    go_ret
    exact ⟨rfl, rfl⟩
  · have h4 : ¬ bt s 0 < 48 := by omega
    go_enter Try.func7, Try.ntmps7
    go_wp2
    go_ret
    exact ⟨rfl, rfl⟩

set_option maxHeartbeats 1000000 in
theorem isInteger_main (s : ByteArray) (st : Nat) (w : World) (hs : s.size ≤ 1048576) (h0 : 0 < s.size) (hst : (bt s 0 = 43 ∨ bt s 0 = 45) ∧ st = 1 ∨ (48 ≤ bt s 0 ∧ bt s 0 ≤ 57) ∧ st = 0) (R : Bool) (hR : core (strip ((bl s).drop st)) = R) :
    Calls Try.prog 7 #[.string s] w fun e w' => e = .returned (.bool R) ∧ w = w' := by
  have hb := get_bt s
  have hne := not_empty h0
  have HL : Hid ((bl s).length = s.size) := bl_length s
  have HR : Hid (core (strip ((bl s).drop st)) = R) := hR
  have hst1 : st ≤ 1 := by omega
  have HST : Hid ((bt s 0 = 43 ∨ bt s 0 = 45) ∧ st = 1 ∨ (48 ≤ bt s 0 ∧ bt s 0 ≤ 57) ∧ st = 0) := hst
  clear hR hst
  go_enter Try.func7, Try.ntmps7
  go_upto_block 0 with fail
  go_cut [3] from 13 to 26 (fun v wx => v = .int .i64 st ∧ w = wx)
  case first =>
    rcases HST.out with ⟨hc | hc, rfl⟩ | ⟨⟨hc1, hc2⟩, rfl⟩
    · have hc' : (bt s 0 == 43) = true := by simpa using hc
      clear hc
      go_wp2_with fail
      go_meet
      exact ⟨rfl, rfl⟩
    · have hc' : (bt s 0 == 43) = false := by rw [hc]; rfl
      have hc'' : (bt s 0 == 45) = true := by simpa using hc
      clear hc
      go_wp2_with fail
      go_meet
      exact ⟨rfl, rfl⟩
    · have hc' : (bt s 0 == 43) = false := by simp; omega
      have hc'' : (bt s 0 == 45) = false := by simp; omega
      have hc3 : ¬ bt s 0 < 48 := by omega
      have hc4 : ¬ 57 < bt s 0 := by omega
      go_wp2_with fail
      go_meet
      exact ⟨rfl, rfl⟩
  case rest =>
    obtain ⟨rfl, rfl⟩ := hcut
    obtain ⟨k, hk⟩ : ∃ k, k = pu (bl s) st := ⟨_, rfl⟩
    have HK : Hid (k = pu (bl s) st) := hk
    have hks : k ≤ s.size := by
      by_cases h : st < pu (bl s) st
      · have := pu_le h; rw [HL.out] at this; omega
      · omega
    clear hk
    go_wp2_with fail
    refine (past_any s st _ (by omega) (by omega)).mono ?_
    rw [← HK.out]
    rintro e w' ⟨rfl, rfl⟩
    obtain ⟨z, hz⟩ : ∃ z, z = decide (k < s.size ∧ bt s k = 48) := ⟨_, rfl⟩
    have HZ : Hid (z = decide (k < s.size ∧ bt s k = 48)) := hz
    clear hz
    go_upto_region 11 with fail
    go_cut [39] from 30 to 38 (fun v wx => v = .bool z ∧ w = wx)
    case first =>
      by_cases h1 : k < s.size
      · have h1z : (k : Int) < (s.size : Int) := by omega
        by_cases h2 : bt s k = 48
        · have h2' : (bt s k == 48) = true := by simpa using h2
          have e : z = true := by rw [HZ.out]; simp [h1, h2]
          subst e
          clear h2
          go_wp2_with fail
          go_meet
          exact ⟨rfl, rfl⟩
        · have h2' : (bt s k == 48) = false := by simpa using h2
          have e : z = false := by rw [HZ.out]; simp [h2]
          subst e
          clear h2
          go_wp2_with fail
          go_meet
          exact ⟨rfl, rfl⟩
      · have h1z : decide ((k : Int) < (s.size : Int)) = false := decide_eq_false (by omega)
        have e : z = false := by rw [HZ.out]; simp [h1]
        subst e
        go_wp2_with fail
        go_meet
        exact ⟨rfl, rfl⟩
    case rest =>
      obtain ⟨rfl, rfl⟩ := hcut
      go_upto_if 39 with fail
      go_cut [3, 5] from 40 to 65 (fun v b wx => ∃ (i : Nat) (base : Int), v = .int .i64 i ∧ b = .int .i64 base ∧ i ≤ s.size ∧ 0 ≤ base ∧ base ≤ 16 ∧ scan (bl s) i base = R ∧ w = wx)
      case first =>
        have HC : Hid (core (strip ((bl s).drop k)) = R) := by show _ = _; rw [← HR.out, strip_pu (bl s) st, ← HK.out]
        cases z with
        | false =>
          have HS : Hid (scan (bl s) k 10 = R) := by
            have hz := HZ.out
            show _ = _
            rw [← HC.out]
            by_cases h : k < s.size
            · have hn : (bl s).getD k 0 ≠ 95 := by rw [HK.out]; exact pu_not (by rw [← HK.out, HL.out]; exact h)
              have h48 : (bl s).getD k 0 ≠ 48 := by
                rw [← bt_bl]
                intro e
                simp [h, e] at hz
              exact (scan_core10 (by rw [HL.out]; exact h) hn h48).symm
            · exact (scan_none (by rw [HL.out]; omega) 10).symm
          go_wp2_with fail
          go_meet
          exact ⟨k, 10, rfl, rfl, hks, by decide, by decide, HS.out, rfl⟩
        | true =>
          have hz : k < s.size ∧ bt s k = 48 := of_decide_eq_true HZ.out.symm
          have hk1 : k < s.size := hz.1
          have H48 : Hid ((bl s).getD k 0 = 48) := by have := hz.2; rwa [bt_bl] at this
          clear hz
          obtain ⟨j, hj⟩ : ∃ j, j = pu (bl s) (k + 1) := ⟨_, rfl⟩
          have HJ : Hid (j = pu (bl s) (k + 1)) := hj
          have hjs : j ≤ s.size := by
            by_cases h : k + 1 < pu (bl s) (k + 1)
            · have := pu_le h; rw [HL.out] at this; omega
            · omega
          clear hj
          go_wp2_with fail
          rw [show ((k : Int) + 1) = ((k + 1 : Nat) : Int) from by omega]
          refine (past_any s (k + 1) _ (by omega) (by omega)).mono ?_
          rw [← HJ.out]
          rintro e w' ⟨rfl, rfl⟩
          by_cases hjl : j < s.size
          · have hjz : (j : Int) < (s.size : Int) := by omega
            have HY : Hid (bt s j = (bl s).getD j 0) := bt_bl s j
            by_cases y1 : bt s j = 120
            · have b1 : (bt s j == 120) = true := by simpa using y1
              have HS : Hid (scan (bl s) (j + 1) 16 = R) := by show _ = _; rw [← HC.out]; exact (scan_core_b (by rw [HL.out]; exact hk1) H48.out HJ.out (by rw [HL.out]; exact hjl) (by rw [← HY.out, y1]) (.inl ⟨.inl rfl, rfl⟩)).symm
              clear y1
              go_wp2_with fail
              go_meet
              exact ⟨j + 1, 16, by go_num, rfl, by omega, by decide, by decide, HS.out, rfl⟩
            have b1 : (bt s j == 120) = false := by simpa using y1
            by_cases y2 : bt s j = 88
            · have b2 : (bt s j == 88) = true := by simpa using y2
              have HS : Hid (scan (bl s) (j + 1) 16 = R) := by show _ = _; rw [← HC.out]; exact (scan_core_b (by rw [HL.out]; exact hk1) H48.out HJ.out (by rw [HL.out]; exact hjl) (by rw [← HY.out, y2]) (.inl ⟨.inr rfl, rfl⟩)).symm
              clear y1 y2
              go_wp2_with fail
              go_meet
              exact ⟨j + 1, 16, by go_num, rfl, by omega, by decide, by decide, HS.out, rfl⟩
            have b2 : (bt s j == 88) = false := by simpa using y2
            by_cases y3 : bt s j = 111
            · have b3 : (bt s j == 111) = true := by simpa using y3
              have HS : Hid (scan (bl s) (j + 1) 8 = R) := by show _ = _; rw [← HC.out]; exact (scan_core_b (by rw [HL.out]; exact hk1) H48.out HJ.out (by rw [HL.out]; exact hjl) (by rw [← HY.out, y3]) (.inr (.inl ⟨.inl rfl, rfl⟩))).symm
              clear y1 y2 y3
              go_wp2_with fail
              go_meet
              exact ⟨j + 1, 8, by go_num, rfl, by omega, by decide, by decide, HS.out, rfl⟩
            have b3 : (bt s j == 111) = false := by simpa using y3
            by_cases y4 : bt s j = 79
            · have b4 : (bt s j == 79) = true := by simpa using y4
              have HS : Hid (scan (bl s) (j + 1) 8 = R) := by show _ = _; rw [← HC.out]; exact (scan_core_b (by rw [HL.out]; exact hk1) H48.out HJ.out (by rw [HL.out]; exact hjl) (by rw [← HY.out, y4]) (.inr (.inl ⟨.inr rfl, rfl⟩))).symm
              clear y1 y2 y3 y4
              go_wp2_with fail
              go_meet
              exact ⟨j + 1, 8, by go_num, rfl, by omega, by decide, by decide, HS.out, rfl⟩
            have b4 : (bt s j == 79) = false := by simpa using y4
            by_cases y5 : bt s j = 98
            · have b5 : (bt s j == 98) = true := by simpa using y5
              have HS : Hid (scan (bl s) (j + 1) 2 = R) := by show _ = _; rw [← HC.out]; exact (scan_core_b (by rw [HL.out]; exact hk1) H48.out HJ.out (by rw [HL.out]; exact hjl) (by rw [← HY.out, y5]) (.inr (.inr ⟨.inl rfl, rfl⟩))).symm
              clear y1 y2 y3 y4 y5
              go_wp2_with fail
              go_meet
              exact ⟨j + 1, 2, by go_num, rfl, by omega, by decide, by decide, HS.out, rfl⟩
            have b5 : (bt s j == 98) = false := by simpa using y5
            by_cases y6 : bt s j = 66
            · have b6 : (bt s j == 66) = true := by simpa using y6
              have HS : Hid (scan (bl s) (j + 1) 2 = R) := by show _ = _; rw [← HC.out]; exact (scan_core_b (by rw [HL.out]; exact hk1) H48.out HJ.out (by rw [HL.out]; exact hjl) (by rw [← HY.out, y6]) (.inr (.inr ⟨.inr rfl, rfl⟩))).symm
              clear y1 y2 y3 y4 y5 y6
              go_wp2_with fail
              go_meet
              exact ⟨j + 1, 2, by go_num, rfl, by omega, by decide, by decide, HS.out, rfl⟩
            have b6 : (bt s j == 66) = false := by simpa using y6
            have HS : Hid (scan (bl s) k 8 = R) := by
              show _ = _
              rw [← HC.out]
              rw [HY.out] at y1 y2 y3 y4 y5 y6
              exact (scan_core8 (by rw [HL.out]; exact hk1) H48.out HJ.out (by rw [HL.out]; exact hjl) y1 y2 y3 y4 y5 y6).symm
            clear y1 y2 y3 y4 y5 y6
            go_wp2_with fail
            go_meet
            exact ⟨k, 8, rfl, rfl, hks, by decide, by decide, HS.out, rfl⟩
          · have hjz : (s.size : Int) ≤ (j : Int) := by omega
            have HS : Hid (scan (bl s) k 8 = R) := by show _ = _; rw [← HC.out]; exact (scan_core8_end (by rw [HL.out]; exact hk1) H48.out HJ.out (by rw [HL.out]; omega)).symm
            go_wp2_with fail
            go_meet
            exact ⟨k, 8, rfl, rfl, hks, by decide, by decide, HS.out, rfl⟩
      case rest =>
        obtain ⟨i, base, rfl, rfl, hi, hb0, hb16, hsc, rfl⟩ := hcut
        have HSC : Hid (scan (bl s) i base = R) := hsc
        clear hsc HR HST HK HZ
        go_wp2_with fail
        go_loop [3, 7] (fun v c => ∃ (p n : Nat), v = .int .i64 p ∧ c = .int .i64 n ∧ p ≤ s.size ∧ n ≤ p ∧ ((decide (0 < n) || !(strip ((bl s).drop p)).isEmpty) && (strip ((bl s).drop p)).all (dgt base)) = R) (fun v _ => s.size - (intOf v).toNat)
        case atStart => exact ⟨i, 0, rfl, rfl, hi, Nat.zero_le _, HSC.out⟩
        case round =>
          obtain ⟨p, n, rfl, rfl, hp, hn, hrel⟩ := hrel
          have HRL : Hid (((decide (0 < n) || !(strip ((bl s).drop p)).isEmpty) && (strip ((bl s).drop p)).all (dgt base)) = R) := hrel
          clear hrel HSC
          by_cases hlt : p < s.size
          · have hltz : (p : Int) < (s.size : Int) := by omega
            have HY : Hid (bt s p = (bl s).getD p 0) := bt_bl s p
            have HPL : Hid (p < (bl s).length) := by show p < (bl s).length; rw [HL.out]; exact hlt
            have y0 := bt_nonneg s p
            have y9 := bt_le s p
            by_cases hu : bt s p = 95
            · have hub : (bt s p == 95) = true := by simpa using hu
              have HN : Hid (((decide (0 < n) || !(strip ((bl s).drop (p + 1))).isEmpty) && (strip ((bl s).drop (p + 1))).all (dgt base)) = R) := by
                show _ = _; rw [← scan_und HPL.out (by rw [← HY.out]; exact hu)]; exact HRL.out
              clear hu
              go_wp2_with fail
              go_round
              case rel => exact ⟨p + 1, n, by go_num, rfl, by omega, by omega, HN.out⟩
              case measure => simp [intOf]; omega
            · have hub : (bt s p == 95) = false := by simpa using hu
              have HU : Hid ((bl s).getD p 0 ≠ 95) := by rw [← HY.out]; exact hu
              clear hu
              by_cases hd : dv (bt s p) < base
              · have HN : Hid (((decide (0 < n + 1) || !(strip ((bl s).drop (p + 1))).isEmpty) && (strip ((bl s).drop (p + 1))).all (dgt base)) = R) := by
                  have h1 := HRL.out
                  have h2 := scan_good HPL.out HU.out (base := base) (by rw [← HY.out]; exact hd)
                  show _ = _
                  rw [← h2, ← h1]
                  rw [strip_at HPL.out HU.out]
                  simp
                go_wp2_with (go_at_call 13; refine (digit_any _ _ y0 y9).mono ?_; rintro e w' ⟨rfl, rfl⟩)
                go_round
                case rel => exact ⟨p + 1, n + 1, by go_num, by go_num, by omega, by omega, HN.out⟩
                case measure => simp [intOf]; omega
              · have HN : Hid (R = false) := by
                  have h1 := HRL.out
                  have h2 := scan_bad HPL.out HU.out (base := base) (by rw [← HY.out]; exact hd)
                  show R = false
                  rw [← h1, h2, Bool.and_false]
                go_wp2_with (go_at_call 13; refine (digit_any _ _ y0 y9).mono ?_; rintro e w' ⟨rfl, rfl⟩)
                go_ret
                exact ⟨by rw [HN.out]; rfl, rfl⟩
          · have hge : (s.size : Int) ≤ (p : Int) := by omega
            have HN : Hid (decide (0 < n) = R) := by
              have h1 := HRL.out
              rw [strip_end (by rw [HL.out]; omega)] at h1
              show _ = _
              simpa using h1
            go_wp2_with fail
            go_ret
            exact ⟨rt_bool (by rw [← HN.out]), rfl⟩

/-- IsInteger. -/
theorem isInteger_any (s : ByteArray) (w : World) (hs : s.size ≤ 1048576) : Calls Try.prog 7 #[.string s] w fun e w' => e = .returned (.bool (isInt (bl s))) ∧ w = w' := by
  by_cases h0 : 0 < s.size
  · have hl : 0 < (bl s).length := by rw [bl_length]; exact h0
    by_cases h1 : bt s 0 = 43 ∨ bt s 0 = 45
    · exact isInteger_main s 1 w hs h0 (.inl ⟨h1, rfl⟩) _ (isInt_sign hl (by rw [← bt_bl]; exact h1)).symm
    · by_cases h2 : 48 ≤ bt s 0 ∧ bt s 0 ≤ 57
      · exact isInteger_main s 0 w hs h0 (.inr ⟨h2, rfl⟩) _ (isInt_digit hl (by rw [← bt_bl]; exact h2)).symm
      · rw [isInt_else hl (by rw [← bt_bl]; omega) (by rw [← bt_bl]; omega) (by rw [← bt_bl]; omega)]
        exact isInteger_else s w hs h0 (by simp; omega) (by simp; omega) (by omega)
  · have e : s = ByteArray.empty := by
      apply ByteArray.ext
      apply Array.eq_empty_of_size_eq_zero
      have : s.data.size = s.size := rfl
      omega
    subst e
    exact isInteger_empty w
end Go.Proofs.Qxb6621701a
