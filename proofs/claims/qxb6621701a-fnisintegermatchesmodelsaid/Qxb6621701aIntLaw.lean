/-
  THE LAW FnIsIntegerMatchesModel, WALKED.
-/
import Derived.Test.Qxb6621701aModel
namespace Go.Proofs.Qxb6621701a
open Go.RowKit Go.PlainAid
set_option linter.unusedVariables false

theorem zz6_yes (s : ByteArray) (w : World) (h : s.size ≤ 1048576) :
    Calls Try.prog 6 #[.string s] w fun e w' => e = .returned (.bool true) ∧ w = w' := by
  go_enter Try.func6, Try.ntmps6
  go_wp2
  go_ret
  exact ⟨rfl, rfl⟩
theorem zz6_no (s : ByteArray) (w : World) (h : 1048576 < s.size) :
    Calls Try.prog 6 #[.string s] w fun e w' => e = .returned (.bool false) ∧ w = w' := by
  go_enter Try.func6, Try.ntmps6
  go_wp2
  go_ret
  exact ⟨rfl, rfl⟩
theorem match_law (s : ByteArray) (w : World) (hm : s.size ≤ maxLen) :
    Calls Try.prog 3 #[.string s] w fun e w' => e = .returned (.bool true) ∧ Below w.heap.size w w' := by
  unfold maxLen at hm
  by_cases h1 : 1048576 < s.size
  · go_enter Try.func3, Try.ntmps3
    go_wp2_with (go_at_call 6; refine (zz6_no _ _ h1).mono ?_; rintro e w' ⟨rfl, rfl⟩)
    go_ret
    exact ⟨rfl, Below.refl _ _⟩
  by_cases h2 : 65536 < s.size
  · go_enter Try.func3, Try.ntmps3
    go_wp2_with (go_at_call 6; refine (zz6_yes _ _ (by omega)).mono ?_; rintro e w' ⟨rfl, rfl⟩)
    go_ret
    exact ⟨rfl, Below.refl _ _⟩
  go_enter Try.func3, Try.ntmps3
  go_wp2_with (go_at_call 6; refine (zz6_yes _ _ (by omega)).mono ?_; rintro e w' ⟨rfl, rfl⟩)
  refine (isInteger_any s _ (by omega)).mono ?_
  rintro e w' ⟨rfl, rfl⟩
  go_wp2_with fail
  refine (model_any s _ (by omega)).mono ?_
  rintro e w1 ⟨rfl, hw1⟩
  have H1 : Hid (Below w.heap.size w w1) := hw1
  clear hw1
  go_wp2
  go_ret
  exact ⟨rt_bool (by simp), H1.out⟩
end Go.Proofs.Qxb6621701a
