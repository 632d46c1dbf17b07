/-
  THE LAW FnIsIntegerIgnoresUnderscoresAndSign, WALKED.
-/
import Derived.Test.Qxb6621701aModel
import Derived.Lib.Strings
namespace Go.Proofs.Qxb6621701a
open Go.RowKit Go.PlainAid
set_option linter.unusedVariables false

theorem zz9_yes (s : ByteArray) (k : Int) (w : World) (h : s.size ≤ 1048576) :
    Calls Try.prog 9 #[.string s, .int .i64 k] w fun e w' => e = .returned (.bool true) ∧ w = w' := by
  go_enter Try.func9, Try.ntmps9
  go_wp2
  go_ret
  exact ⟨rfl, rfl⟩
theorem zz9_no (s : ByteArray) (k : Int) (w : World) (h : 1048576 < s.size) (hm : s.size ≤ 9223372036854775807) :
    Calls Try.prog 9 #[.string s, .int .i64 k] w fun e w' => e = .returned (.bool false) ∧ w = w' := by
  go_enter Try.func9, Try.ntmps9
  go_wp2
  go_ret
  exact ⟨rfl, rfl⟩
theorem sign_big (s : ByteArray) (k : Int) (w : World) (hm : s.size ≤ maxLen) (h : 65536 < s.size ∨ k < 1 ∨ (s.size : Int) < k) :
    Calls Try.prog 4 #[.string s, .int .i64 k] w fun e w' => e = .returned (.bool true) ∧ Below w.heap.size w w' := by
  unfold maxLen at hm
  by_cases h1 : 1048576 < s.size
  · go_enter Try.func4, Try.ntmps4
    go_wp2_with (go_at_call 9; refine (zz9_no _ _ _ h1 (by omega)).mono ?_; rintro e w' ⟨rfl, rfl⟩)
    go_ret
    exact ⟨rfl, Below.refl _ _⟩
  by_cases h2 : 65536 < s.size
  · go_enter Try.func4, Try.ntmps4
    go_wp2_with (go_at_call 9; refine (zz9_yes _ _ _ (by omega)).mono ?_; rintro e w' ⟨rfl, rfl⟩)
    go_ret
    exact ⟨rfl, Below.refl _ _⟩
  by_cases h3 : k < 1
  · go_enter Try.func4, Try.ntmps4
    go_wp2_with (go_at_call 9; refine (zz9_yes _ _ _ (by omega)).mono ?_; rintro e w' ⟨rfl, rfl⟩)
    go_ret
    exact ⟨rfl, Below.refl _ _⟩
  have h4 : (s.size : Int) < k := by omega
  go_enter Try.func4, Try.ntmps4
  go_wp2_with (go_at_call 9; refine (zz9_yes _ _ _ (by omega)).mono ?_; rintro e w' ⟨rfl, rfl⟩)
  go_ret
  exact ⟨rfl, Below.refl _ _⟩

theorem isInteger_quiet (s : ByteArray) (w : World) (n : Nat) (hs : s.size ≤ 1048576) {v : Value} (hv : v = .bool (isInt (bl s))) : Calls Try.prog 7 #[.string s] (w.drewN n) fun e w'' => e = .returned v ∧ ∃ m, w'' = w.drewN m :=
  (isInteger_any s _ hs).mono fun e w' ⟨he, hw⟩ => ⟨by rw [he, hv], n, hw.symm⟩

theorem bl_extract (s : ByteArray) (a b : Nat) : bl (s.extract a b) = ((bl s).drop a).take (b - a) := by
  unfold bl
  rw [Lib.extract_data, List.map_take, List.map_drop]
theorem size_ext0 (s : ByteArray) (k : Nat) (h : k ≤ s.size) : (s.extract 0 k).size = k := by
  rw [← bl_length, bl_extract]; simp [bl_length]; omega
theorem size_extk (s : ByteArray) (k : Nat) (h : k ≤ s.size) : (s.extract k s.size).size = s.size - k := by
  rw [← bl_length, bl_extract]; simp [bl_length]

theorem bl_one (c : UInt8) (s : ByteArray) : bl ((⟨#[c]⟩ : ByteArray) ++ s) = (c.toNat : Int) :: bl s := by
  rw [bl_append]; rfl
theorem bl_tail (s : ByteArray) : bl (s.extract 1 s.size) = (bl s).drop 1 := by
  rw [bl_extract, List.take_of_length_le (by simp [bl_length])]
theorem bl_und (s : ByteArray) (k : Nat) (h : k ≤ s.size) : bl (s.extract 0 k ++ ⟨#[95]⟩ ++ s.extract k s.size) = (bl s).take k ++ 95 :: (bl s).drop k := by
  rw [bl_append, bl_append, bl_extract, bl_extract, List.drop_zero, Nat.sub_zero]
  rw [List.take_of_length_le (l := (bl s).drop k) (by simp [bl_length])]
  show (bl s).take k ++ [95] ++ _ = _
  simp

theorem sign_law (s : ByteArray) (k : Nat) (w : World) (hs : s.size ≤ 65536) (hk1 : 1 ≤ k) (hk2 : k ≤ s.size) :
    Calls Try.prog 4 #[.string s, .int .i64 k] w fun e w' => e = .returned (.bool true) ∧ Below w.heap.size w w' := by
  have hb := get_bt s
  have hkz : ¬ (k : Int) < 1 := by omega
  have hkz' : (1 : Int) ≤ (k : Int) := by omega
  have hk2z : (k : Int) ≤ (s.size : Int) := by omega
  obtain ⟨G, hG⟩ : ∃ G, G = isInt (bl s) := ⟨_, rfl⟩
  have HG : Hid (G = isInt (bl s)) := hG
  clear hG
  have e0 := size_ext0 s k hk2
  have e1 := size_extk s k hk2
  have hadd1 := fun w => run_string_add_sum (P := Try.prog) w (s.extract 0 k) ⟨#[95]⟩ (by rw [e0]; show k + 1 ≤ _; omega)
  have e2 : (s.extract 0 k ++ ⟨#[95]⟩).size = k + 1 := by rw [ByteArray.size_append, e0]; rfl
  have hadd2 := fun w => run_string_add_sum (P := Try.prog) w (s.extract 0 k ++ ⟨#[95]⟩) (s.extract k s.size) (by rw [e2, e1]; omega)
  have e3 : (s.extract 0 k ++ ⟨#[95]⟩ ++ s.extract k s.size).size = s.size + 1 := by rw [ByteArray.size_append, e2, e1]; omega
  have E3 : Hid ((s.extract 0 k ++ ⟨#[95]⟩ ++ s.extract k s.size).size = s.size + 1) := e3
  have HUnd : Hid (isInt (bl (s.extract 0 k ++ ⟨#[95]⟩ ++ s.extract k s.size)) = G) := by
    show _ = _
    rw [bl_und s k hk2, isInt_und (bl s) k hk1 (by rw [bl_length]; exact hk2), HG.out]
  have s1 := size_extk s 1 (by omega)
  have z1 : ∀ c : UInt8, ((⟨#[c]⟩ : ByteArray) ++ s.extract 1 s.size).size ≤ 1048576 := fun c => by rw [ByteArray.size_append, s1]; show 1 + _ ≤ _; omega
  have z2 : ∀ c : UInt8, ((⟨#[c]⟩ : ByteArray) ++ s).size ≤ 1048576 := fun c => by rw [ByteArray.size_append]; show 1 + _ ≤ _; omega
  have Z1 : Hid (∀ c : UInt8, ((⟨#[c]⟩ : ByteArray) ++ s.extract 1 s.size).size ≤ 1048576) := z1
  have Z2 : Hid (∀ c : UInt8, ((⟨#[c]⟩ : ByteArray) ++ s).size ≤ 1048576) := z2
  have hadd3 := fun w => run_string_add_sum (P := Try.prog) w ⟨#[43]⟩ (s.extract 1 s.size) (by have := z1 43; rw [ByteArray.size_append] at this; omega)
  have hadd4 := fun w => run_string_add_sum (P := Try.prog) w ⟨#[45]⟩ (s.extract 1 s.size) (by have := z1 45; rw [ByteArray.size_append] at this; omega)
  have hadd5 := fun w => run_string_add_sum (P := Try.prog) w ⟨#[43]⟩ s (by have := z2 43; rw [ByteArray.size_append] at this; omega)
  have hadd6 := fun w => run_string_add_sum (P := Try.prog) w ⟨#[45]⟩ s (by have := z2 45; rw [ByteArray.size_append] at this; omega)
  have hl0 : 0 < (bl s).length := by rw [bl_length]; omega
  have HFl : Hid (∀ c : UInt8, (c = 43 ∨ c = 45) → (bt s 0 = 43 ∨ bt s 0 = 45) → isInt (bl ((⟨#[c]⟩ : ByteArray) ++ s.extract 1 s.size)) = G) := fun c hc h => by
    rw [bl_one, bl_tail, HG.out]
    exact isInt_flip hl0 (by rw [← bt_bl]; exact h) _ (by rcases hc with rfl | rfl <;> decide)
  have HPl : Hid (∀ c : UInt8, (c = 43 ∨ c = 45) → (48 ≤ bt s 0 ∧ bt s 0 ≤ 57) → isInt (bl ((⟨#[c]⟩ : ByteArray) ++ s)) = G) := fun c hc h => by
    rw [bl_one, HG.out]
    exact isInt_plus hl0 (by rw [← bt_bl]; exact h) _ (by rcases hc with rfl | rfl <;> decide)
  clear e0 e1 e2 e3 s1 z1 z2 hl0
  go_enter Try.func4, Try.ntmps4
  go_wp2_with (go_at_call 9; refine (zz9_yes _ _ _ (by omega)).mono ?_; rintro e w' ⟨rfl, rfl⟩)
  refine (isInteger_any s _ (by omega)).mono ?_
  rw [← HG.out]
  rintro e w' ⟨rfl, rfl⟩
  go_wp2_with fail
  refine (model_any s _ (by omega)).mono ?_
  rw [← HG.out]
  rintro e w1 ⟨rfl, hw1⟩
  have H1 : Hid (Below w.heap.size w w1) := hw1
  clear hw1
  go_wp2_with fail
  go_quiet ((go_at_call 7; exact isInteger_quiet (v := .bool G) _ _ _ (by rw [E3.out]; omega) (by rw [HUnd.out])))
  by_cases c1 : bt s 0 = 43
  · have d1 : (bt s 0 == 43) = true := by simpa using c1
    have HA : Hid (isInt (bl ((⟨#[45]⟩ : ByteArray) ++ s.extract 1 s.size)) = G) := HFl.out 45 (.inr rfl) (.inl c1)
    clear c1
    go_wp2_with fail
    refine (isInteger_any _ _ (Z1.out 45)).mono ?_
    rw [HA.out]
    rintro e w' ⟨rfl, rfl⟩
    go_wp2_with fail
    go_ret
    exact ⟨rfl, below_drewN H1.out _⟩
  have d1 : (bt s 0 == 43) = false := by simpa using c1
  by_cases c2 : bt s 0 = 45
  · have d2 : (bt s 0 == 45) = true := by simpa using c2
    have HA : Hid (isInt (bl ((⟨#[43]⟩ : ByteArray) ++ s.extract 1 s.size)) = G) := HFl.out 43 (.inl rfl) (.inr c2)
    clear c1 c2
    go_wp2_with fail
    refine (isInteger_any _ _ (Z1.out 43)).mono ?_
    rw [HA.out]
    rintro e w' ⟨rfl, rfl⟩
    go_wp2_with fail
    go_ret
    exact ⟨rfl, below_drewN H1.out _⟩
  have d2 : (bt s 0 == 45) = false := by simpa using c2
  by_cases c3 : 48 ≤ bt s 0 ∧ bt s 0 ≤ 57
  · have HA : Hid (isInt (bl ((⟨#[43]⟩ : ByteArray) ++ s)) = G) := HPl.out 43 (.inl rfl) c3
    have HB : Hid (isInt (bl ((⟨#[45]⟩ : ByteArray) ++ s)) = G) := HPl.out 45 (.inr rfl) c3
    obtain ⟨c3, c4⟩ := c3
    clear c1 c2
    go_wp2_with fail
    refine (isInteger_any _ _ (Z2.out 43)).mono ?_
    rw [HA.out]
    rintro e w' ⟨rfl, rfl⟩
    go_wp2_with fail
    refine (isInteger_any _ _ (Z2.out 45)).mono ?_
    rw [HB.out]
    rintro e w' ⟨rfl, rfl⟩
    go_wp2_with fail
    go_ret
    exact ⟨rfl, below_drewN H1.out _⟩
  · clear c1 c2
    go_wp2_with fail
    all_goals (go_ret; exact ⟨rfl, below_drewN H1.out _⟩)
end Go.Proofs.Qxb6621701a
