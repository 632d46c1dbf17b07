/-
  THE WALKS OF zzBytes.., pastUnderscores, ZZpastUnderscores.
-/
import Derived.Test.Qxb6621701aRows
import Derived.Test.Qxb6621701aUnd
import Derived.WalkKit
import Derived.WalkSpells
import Derived.WalkLawsBesides
import Derived.Deep.QuietTactic
import Derived.BigQuiet
namespace Go.Proofs.Qxb6621701a
open Go.RowKit Go.PlainAid
set_option linter.unusedVariables false

theorem rt_int {k : IntKind} {a b : Int} (h : a = b) : Ending.returned (.int k a) = .returned (.int k b) := by rw [h]
theorem rt_bool {a b : Bool} (h : a = b) : Ending.returned (.bool a) = .returned (.bool b) := by rw [h]

/-- pastUnderscores. -/
theorem past_any (s : ByteArray) (i : Nat) (w : World) (hs : s.size ≤ 1048576) (hi : i ≤ 9223372036854775807) :
    Calls Try.prog 12 #[.string s, .int .i64 i] w fun e w' => e = .returned (.int .i64 (pu (bl s) i)) ∧ w = w' := by
  have hb := get_bt s
  have HL : Hid ((bl s).length = s.size) := bl_length s
  go_enter Try.func12, Try.ntmps12
  go_wp2
  go_loop [1] (fun v => ∃ k : Nat, v = .int .i64 k ∧ k ≤ 9223372036854775807 ∧ pu (bl s) k = pu (bl s) i) (fun v => s.size - (intOf v).toNat)
  case atStart => exact ⟨i, rfl, hi, rfl⟩
  case round =>
    obtain ⟨k, rfl, hk, hp⟩ := hrel
    have HP : Hid (pu (bl s) k = pu (bl s) i) := hp
    clear hp
    by_cases hlt : k < s.size
    · have hltz : (k : Int) < (s.size : Int) := by omega
      have HC : Hid (bt s k = (bl s).getD k 0) := bt_bl s k
      by_cases hc : bt s k = 95
      · have hcb : (bt s k == 95) = true := by simpa using hc
        have HS : Hid (pu (bl s) k = pu (bl s) (k + 1)) := pu_step (by rw [HL.out]; exact hlt) (by rw [← HC.out]; exact hc)
        clear hc
        go_wp2
        go_round
        case rel => exact ⟨k + 1, by go_num, by omega, by rw [← HS.out]; exact HP.out⟩
        case measure => simp [intOf]; omega
      · have hcb : (bt s k == 95) = false := by simpa using hc
        have HS : Hid (pu (bl s) k = k) := pu_stop (by rw [HL.out]; exact hlt) (by rw [← HC.out]; exact hc)
        clear hc
        go_wp2
        go_ret
        exact ⟨rt_int (by rw [← HP.out, HS.out]), rfl⟩
    · have hge : (s.size : Int) ≤ (k : Int) := by omega
      have hd : decide ((k : Int) < (s.size : Int)) = false := decide_eq_false (by omega)
      have HS : Hid (pu (bl s) k = k) := pu_end (by rw [HL.out]; omega)
      go_wp2
      go_ret
      exact ⟨rt_int (by rw [← HP.out, HS.out]), rfl⟩

/-- ZZpastUnderscores. -/
theorem zzpast_any (s : ByteArray) (i : Nat) (w : World) (hs : s.size ≤ 1048576) (hi : i ≤ 9223372036854775807) :
    Calls Try.prog 11 #[.string s, .int .i64 i] w fun e w' => e = .returned (.int .i64 (pu (bl s) i)) ∧ w = w' := by
  go_enter Try.func11, Try.ntmps11
  go_wp2_with (go_at_call 12; refine (past_any _ _ _ hs hi).mono ?_; rintro e w' ⟨rfl, rfl⟩)
  go_ret
  exact ⟨rfl, rfl⟩

theorem zz10_yes (a b : ByteArray) (i j : Int) (w : World) (ha : a.size ≤ 65536) (hb : b.size ≤ 65536) :
    Calls Try.prog 10 #[.string a, .string b, .int .i64 i, .int .i64 j] w fun e w' => e = .returned (.bool true) ∧ w = w' := by
  go_enter Try.func10, Try.ntmps10
  go_wp2
  go_ret
  exact ⟨rfl, rfl⟩
theorem zz10_any (a b : ByteArray) (i j : Int) (w : World) (ha : a.size ≤ maxLen) (hb : b.size ≤ maxLen) :
    Calls Try.prog 10 #[.string a, .string b, .int .i64 i, .int .i64 j] w fun e w' => ∃ r, e = .returned (.bool r) ∧ w = w' := by
  unfold maxLen at ha hb
  by_cases h1 : 1048576 < a.size
  · go_enter Try.func10, Try.ntmps10
    go_wp2
    go_ret
    exact ⟨_, rfl, rfl⟩
  by_cases h2 : 1048576 < b.size
  · go_enter Try.func10, Try.ntmps10
    go_wp2
    go_ret
    exact ⟨_, rfl, rfl⟩
  by_cases h3 : 1048576 < a.size + b.size
  all_goals
    go_enter Try.func10, Try.ntmps10
    go_wp2
    go_ret
    exact ⟨_, rfl, rfl⟩
end Go.Proofs.Qxb6621701a
