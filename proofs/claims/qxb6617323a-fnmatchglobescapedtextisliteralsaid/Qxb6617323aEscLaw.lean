/-
  THE LAW FnMatchGlobEscapedTextIsLiteral, WALKED.
-/
import Derived.Test.Qxb6617323aEscFns
import Derived.Deep.RegionWith
namespace Go.Proofs.Qxb6617323a
open Go.RowKit Go.PlainAid
set_option linter.unusedVariables false

theorem zz13_yes (a b : ByteArray) (w : World) (ha : a.size ≤ 65536) (hb : b.size ≤ 65536) :
    Calls Try.prog 13 #[.string a, .string b] w fun e w' => e = .returned (.bool true) ∧ w = w' := by
  go_enter Try.func13, Try.ntmps13
  go_wp2
  go_ret
  exact ⟨rfl, rfl⟩
theorem zz13_any (a b : ByteArray) (w : World) (ha : a.size ≤ maxLen) (hb : b.size ≤ maxLen) :
    Calls Try.prog 13 #[.string a, .string b] w fun e w' => ∃ r, e = .returned (.bool r) ∧ w = w' := by
  unfold maxLen at ha hb
  by_cases h1 : 1048576 < a.size
  · go_enter Try.func13, Try.ntmps13
    go_wp2
    go_ret
    exact ⟨_, rfl, rfl⟩
  by_cases h2 : 1048576 < b.size
  · go_enter Try.func13, Try.ntmps13
    go_wp2
    go_ret
    exact ⟨_, rfl, rfl⟩
  by_cases h3 : 1048576 < a.size + b.size
  all_goals
    go_enter Try.func13, Try.ntmps13
    go_wp2
    go_ret
    exact ⟨_, rfl, rfl⟩

theorem esc_big (a b : ByteArray) (w : World) (ha : a.size ≤ maxLen) (hb : b.size ≤ maxLen) (h : 4096 < a.size ∨ 4096 < b.size) :
    Calls Try.prog 5 #[.string a, .string b] w fun e w' => e = .returned (.bool true) ∧ Below w.heap.size w w' := by
  have hz := zz13_any a b w ha hb
  unfold maxLen at ha hb
  by_cases h1 : 4096 < a.size
  · go_enter Try.func5, Try.ntmps5
    go_wp2_with (go_at_call 13; refine hz.mono ?_; rintro e w' ⟨r, rfl, rfl⟩; cases r)
    all_goals (go_ret; exact ⟨rfl, Below.refl _ _⟩)
  have h2 : 4096 < b.size := by omega
  go_enter Try.func5, Try.ntmps5
  go_wp2_with (go_at_call 13; refine hz.mono ?_; rintro e w' ⟨r, rfl, rfl⟩; cases r)
  all_goals (go_ret; exact ⟨rfl, Below.refl _ _⟩)

theorem one_star (E : ByteArray) (s t : List Int) (h : bl E = esc s) : bl E = List.replicate 0 42 ++ (esc s ++ tailB false) ∧ M (TE s 0 false 0) t = decide (s = t) := by
  refine ⟨by rw [h]; simp [tailB], ?_⟩
  rw [TE_zero, show tail false = [] from rfl, List.append_nil, M_lits]
theorem two_star (E : ByteArray) (s t : List Int) (h : bl E = esc s) : bl (E ++ ⟨#[42]⟩) = List.replicate 0 42 ++ (esc s ++ tailB true) ∧ M (TE s 0 true 0) t = hpF s t := by
  refine ⟨by rw [bl_append, h]; rfl, ?_⟩
  rw [TE_zero, show tail true = [none] from rfl, M_lits_star]
theorem three_star (E : ByteArray) (s t : List Int) (h : bl E = esc s) : bl ((⟨#[42]⟩ : ByteArray) ++ E) = List.replicate 1 42 ++ (esc s ++ tailB false) ∧ M (TE s 1 false 0) t = hsF s t := by
  refine ⟨by rw [bl_append, h, show tailB false = [] from rfl, List.append_nil]; rfl, ?_⟩
  rw [TE_one, show tail false = [] from rfl, List.append_nil, M_star_lits]
theorem four_star (E : ByteArray) (s t : List Int) (h : bl E = esc s) : bl ((⟨#[42]⟩ : ByteArray) ++ E ++ ⟨#[42]⟩) = List.replicate 1 42 ++ (esc s ++ tailB true) ∧ M (TE s 1 true 0) t = starF (hpF s) t := by
  refine ⟨by rw [bl_append, bl_append, h]; rfl, ?_⟩
  rw [TE_one, show tail true = [none] from rfl, M_star_lits_star]

set_option maxHeartbeats 400000 in
theorem esc_law (s t : ByteArray) (w : World) (hs : s.size ≤ 4096) (ht : t.size ≤ 4096) :
    Calls Try.prog 5 #[.string s, .string t] w fun e w' => e = .returned (.bool true) ∧ Below w.heap.size w w' := by
  go_enter Try.func5, Try.ntmps5
  go_wp2_with (go_at_call 13; refine (zz13_yes _ _ _ (by omega) (by omega)).mono ?_; rintro e w' ⟨rfl, rfl⟩)
  refine (escape_any s _ (by omega)).mono ?_
  rintro e w1 ⟨E, rfl, hE, hw1⟩
  have HE : Hid (bl E = esc (bl s)) := hE
  have W1 : Hid (Below w.heap.size w w1) := hw1
  have hEs : E.size = 2 * s.size := by rw [← bl_length, hE, esc_length, bl_length]
  have ES : Hid (E.size = 2 * s.size) := hEs
  have hEle : E.size ≤ 8192 := by omega
  clear hE hw1 hEs
  have ha1 := fun w => run_string_add_sum (P := Try.prog) w E ⟨#[42]⟩ (by show E.size + 1 ≤ _; omega)
  have ha2 := fun w => run_string_add_sum (P := Try.prog) w ⟨#[42]⟩ E (by show 1 + E.size ≤ _; omega)
  have ha3 := fun w => run_string_add_sum (P := Try.prog) w (⟨#[42]⟩ ++ E) ⟨#[42]⟩ (by rw [ByteArray.size_append]; show 1 + E.size + 1 ≤ _; omega)
  have Z1 : Hid ((E ++ ⟨#[42]⟩).size ≤ 1048576) := by show _ ≤ _; rw [ByteArray.size_append]; show E.size + 1 ≤ _; omega
  have Z2 : Hid (((⟨#[42]⟩ : ByteArray) ++ E).size ≤ 1048576) := by show _ ≤ _; rw [ByteArray.size_append]; show 1 + E.size ≤ _; omega
  have Z3 : Hid (((⟨#[42]⟩ : ByteArray) ++ E ++ ⟨#[42]⟩).size ≤ 1048576) := by show _ ≤ _; rw [ByteArray.size_append, ByteArray.size_append]; show 1 + E.size + 1 ≤ _; omega
  go_wp2_with fail
  have q1 := esc_match E t (bl s) 0 false w1 (by omega) (one_star E (bl s) (bl t) HE.out).1 (by omega) (by omega) (one_star E (bl s) (bl t) HE.out).2
  refine q1.mono ?_
  clear q1
  rintro e w2 ⟨rfl, hw2⟩
  have W2 : Hid (Below w.heap.size w w2) := W1.out.trans (hw2.mono W1.out.size)
  have hq : (decide (bl s = bl t) == (s.toList == t.toList)) = true := by rw [beq_bl]; simp
  clear hw2
  go_wp2_with fail
  clear hq
  have q2 := esc_match (E ++ ⟨#[42]⟩) t (bl s) 0 true w2 (by omega) (two_star E (bl s) (bl t) HE.out).1 Z1.out (by omega) (two_star E (bl s) (bl t) HE.out).2
  refine q2.mono ?_
  clear q2
  rintro e w3 ⟨rfl, hw3⟩
  have W3 : Hid (Below w.heap.size w w3) := W2.out.trans (hw3.mono W2.out.size)
  clear hw3
  go_wp2_with (go_at_call 15; refine (prefix_any _ _ _ (by omega) (by omega)).mono ?_; rintro e w' ⟨rfl, rfl⟩)
  have q3 := esc_match (⟨#[42]⟩ ++ E) t (bl s) 1 false w3 (by omega) (three_star E (bl s) (bl t) HE.out).1 Z2.out (by omega) (three_star E (bl s) (bl t) HE.out).2
  refine q3.mono ?_
  clear q3
  rintro e w4 ⟨rfl, hw4⟩
  have W4 : Hid (Below w.heap.size w w4) := W3.out.trans (hw4.mono W3.out.size)
  clear hw4
  go_wp2_with (go_at_call 16; refine (suffix_any _ _ _ (by omega) (by omega)).mono ?_; rintro e w' ⟨rfl, rfl⟩)
  have q4 := esc_match (⟨#[42]⟩ ++ E ++ ⟨#[42]⟩) t (bl s) 1 true w4 (by omega) (four_star E (bl s) (bl t) HE.out).1 Z3.out (by omega) (four_star E (bl s) (bl t) HE.out).2
  refine q4.mono ?_
  clear q4
  rintro e w5 ⟨rfl, hw5⟩
  have W5 : Hid (Below w.heap.size w w5) := W4.out.trans (hw5.mono W4.out.size)
  clear hw5
  go_wp2_with (go_at_call 17; refine (contains_any _ _ _ (by omega) (by omega)).mono ?_; rintro e w' ⟨rfl, rfl⟩)
  go_ret
  exact ⟨rt_bool (by simp), W5.out⟩
end Go.Proofs.Qxb6617323a
