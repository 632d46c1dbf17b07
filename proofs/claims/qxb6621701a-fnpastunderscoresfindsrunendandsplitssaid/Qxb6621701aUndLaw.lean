/-
  THE LAW FnPastUnderscoresFindsRunEndAndSplits, WALKED.
-/
import Derived.Test.Qxb6621701aUndFns
import Derived.Deep.RegionWith
namespace Go.Proofs.Qxb6621701a
open Go.RowKit Go.PlainAid
set_option linter.unusedVariables false

theorem und_big (a b : ByteArray) (i j : Int) (w : World) (ha : a.size ≤ maxLen) (hb : b.size ≤ maxLen) (h : 65536 < a.size ∨ 65536 < b.size ∨ i < 0) :
    Calls Try.prog 5 #[.string a, .string b, .int .i64 i, .int .i64 j] w fun e w' => e = .returned (.bool true) ∧ w = w' := by
  have hz := zz10_any a b i j w ha hb
  unfold maxLen at ha hb
  by_cases h1 : 65536 < a.size
  · go_enter Try.func5, Try.ntmps5
    go_wp2_with (go_at_call 10; refine hz.mono ?_; rintro e w' ⟨r, rfl, rfl⟩; cases r)
    all_goals (go_ret; exact ⟨rfl, rfl⟩)
  by_cases h2 : 65536 < b.size
  · go_enter Try.func5, Try.ntmps5
    go_wp2_with (go_at_call 10; refine hz.mono ?_; rintro e w' ⟨r, rfl, rfl⟩; cases r)
    all_goals (go_ret; exact ⟨rfl, rfl⟩)
  have h3 : i < 0 := by omega
  go_enter Try.func5, Try.ntmps5
  go_wp2_with (go_at_call 10; refine hz.mono ?_; rintro e w' ⟨r, rfl, rfl⟩; cases r)
  all_goals (go_ret; exact ⟨rfl, rfl⟩)

set_option maxHeartbeats 1000000 in
theorem und_law (a b : ByteArray) (i : Nat) (j : Int) (w : World) (ha : a.size ≤ 65536) (hb : b.size ≤ 65536) (hi : i ≤ 9223372036854775807) (hj1 : -9223372036854775808 ≤ j) (hj2 : j ≤ 9223372036854775807) :
    Calls Try.prog 5 #[.string a, .string b, .int .i64 i, .int .i64 j] w fun e w' => e = .returned (.bool true) ∧ w = w' := by
  have hbt := get_bt a
  have HL : Hid ((bl a).length = a.size) := bl_length a
  have HLb : Hid ((bl b).length = b.size) := bl_length b
  obtain ⟨r, hr⟩ : ∃ r, r = pu (bl a) i := ⟨_, rfl⟩
  have HR : Hid (r = pu (bl a) i) := hr
  have hir : i ≤ r := by rw [hr]; exact pu_ge _ _
  have hrl : i < r → r ≤ a.size := by rw [hr, ← HL.out]; exact pu_le
  clear hr
  have hirz : (i : Int) ≤ (r : Int) := by omega
  have hrm : r ≤ 9223372036854775807 := by
    by_cases h : i < r
    · have := hrl h; omega
    · omega
  have hnot : ¬ (i : Int) < 0 := by omega
  go_enter Try.func5, Try.ntmps5
  go_wp2_with (go_at_call 10; refine (zz10_yes _ _ _ _ _ ha hb).mono ?_; rintro e w' ⟨rfl, rfl⟩)
  refine (zzpast_any a i _ (by omega) hi).mono ?_
  rw [← HR.out]
  rintro e w' ⟨rfl, rfl⟩
  have HRL : Hid (i < r → r ≤ a.size) := hrl
  clear hrl
  have hcase : (i : Int) < (r : Int) ∧ (r : Int) ≤ (a.size : Int) ∨ decide ((i : Int) < (r : Int)) = false ∧ (r : Int) ≤ (i : Int) := by
    by_cases h : i < r
    · exact .inl ⟨by omega, by have := HRL.out h; omega⟩
    · exact .inr ⟨decide_eq_false (by omega), by omega⟩
  rcases hcase with ⟨hq1, hq2⟩ | ⟨hq1, hq2⟩
  all_goals
    go_wp2_with fail
    go_loop [10] (fun v => ∃ p : Nat, i ≤ p ∧ p ≤ r ∧ v = .int .i64 p) (fun v => r - (intOf v).toNat)
    case atStart => exact ⟨i, Nat.le_refl _, hir, rfl⟩
    case round =>
      obtain ⟨p, hp1, hp2, rfl⟩ := hrel
      by_cases hpr : p < r
      · have hpz : (p : Int) < (r : Int) := by omega
        have hra : r ≤ a.size := HRL.out (by omega)
        have hpa : (p : Int) < (a.size : Int) := by omega
        have h95 : bt a p = 95 := by rw [bt_bl]; exact pu_run hp1 (by rw [← HR.out]; exact hpr)
        go_wp2_with fail
        go_round
        case rel => exact ⟨p + 1, by omega, by omega, by go_num⟩
        case measure => simp [intOf]; omega
      · have hpz : (r : Int) ≤ (p : Int) := by omega
        have hcase2 : (r : Int) < (a.size : Int) ∧ (bt a r == 95) = false ∨ decide ((r : Int) < (a.size : Int)) = false ∧ (a.size : Int) ≤ (r : Int) := by
          by_cases h : r < a.size
          · refine .inl ⟨by omega, ?_⟩
            have := pu_not (zs := bl a) (i := i) (by rw [← HR.out, HL.out]; exact h)
            rw [← HR.out, ← bt_bl] at this
            simpa using this
          · exact .inr ⟨decide_eq_false (by omega), by omega⟩
        have hcase3 : (∃ k : Nat, j = k ∧ (i : Int) ≤ (k : Int) ∧ (k : Int) ≤ (r : Int) ∧ Hid (pu (bl a) k = r)) ∨ (decide ((i : Int) ≤ j) = false ∧ j < (i : Int)) ∨ ((i : Int) ≤ j ∧ (r : Int) < j) := by
          by_cases h : (i : Int) ≤ j
          · by_cases h' : j ≤ (r : Int)
            · exact .inl ⟨j.toNat, by omega, by omega, by omega, by show _ = _; rw [HR.out]; exact pu_same (by omega) (by rw [← HR.out]; omega)⟩
            · exact .inr (.inr ⟨h, by omega⟩)
          · exact .inr (.inl ⟨decide_eq_false h, by omega⟩)
        have hab : (a ++ b).size ≤ 1048576 := by rw [ByteArray.size_append]; omega
        have hcase4 : ((r : Int) < (a.size : Int) ∧ (i : Int) ≤ (a.size : Int) ∧ Hid (pu (bl (a ++ b)) i = r)) ∨ ((a.size : Int) ≤ (r : Int) ∧ (i : Int) ≤ (a.size : Int) ∧ Hid (pu (bl (a ++ b)) i = a.size + pu (bl b) 0)) ∨ ((a.size : Int) ≤ (r : Int) ∧ (a.size : Int) < (i : Int)) := by
          by_cases h : r < a.size
          · refine .inl ⟨by omega, by omega, ?_⟩
            show pu (bl (a ++ b)) i = r
            rw [bl_append, pu_left (by rw [← HR.out, HL.out]; exact h)]
            exact HR.out.symm
          · by_cases h' : i ≤ a.size
            · refine .inr (.inl ⟨by omega, by omega, ?_⟩)
              show pu (bl (a ++ b)) i = a.size + pu (bl b) 0
              rw [bl_append, pu_right (by rw [HL.out]; exact h') (by rw [← HR.out, HL.out]; omega), HL.out]
            · exact .inr (.inr ⟨by omega, by omega⟩)
        have hpb : pu (bl b) 0 ≤ b.size := by
          by_cases h : 0 < pu (bl b) 0
          · have := pu_le h; rwa [HLb.out] at this
          · omega
        clear HRL hq1 hq2
        rcases hcase2 with ⟨g1, g2⟩ | ⟨g1, g2⟩
        all_goals rcases hcase3 with ⟨k, rfl, k1, k2, HK⟩ | ⟨k1, k2⟩ | ⟨k1, k2⟩
        all_goals rcases hcase4 with ⟨m1, m2, HW⟩ | ⟨m1, m2, HW⟩ | ⟨m1, m2⟩
        all_goals try omega
        all_goals
          go_wp2_with (first
            | (go_at_call_of 11 (a ++ b); refine (zzpast_any (a ++ b) i _ hab hi).mono ?_; rw [HW.out]; rintro e w' ⟨rfl, rfl⟩)
            | (go_at_call_of 11 (Value.string b); refine (zzpast_any b 0 _ (by omega) (by omega)).mono ?_; rintro e w' ⟨rfl, rfl⟩)
            | (go_at_call_of 11 (Value.string a); refine (zzpast_any a _ _ (by omega) (by omega)).mono ?_; rw [HK.out]; rintro e w' ⟨rfl, rfl⟩))
        all_goals (go_ret; exact ⟨rfl, rfl⟩)
end Go.Proofs.Qxb6621701a
