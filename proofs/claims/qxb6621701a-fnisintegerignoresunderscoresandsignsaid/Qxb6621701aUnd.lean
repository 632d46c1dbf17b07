/-
  THE PLAIN LAW of pastUnderscores: runs of underscores in a list of bytes; no Go text in sight.
-/
import Derived.PlainAid
namespace Go.Proofs.Qxb6621701a
open Go.PlainAid

/-- A string's bytes as numbers. -/
def bl (s : ByteArray) : List Int := s.data.toList.map fun c => (c.toNat : Int)
theorem bl_length (s : ByteArray) : (bl s).length = s.size := by simp [bl]
theorem bt_bl (s : ByteArray) (k : Nat) : bt s k = (bl s).getD k 0 := by
  by_cases h : k < s.size
  · unfold bt
    rw [dif_pos h, List.getD_eq_getElem?_getD, List.getElem?_eq_getElem (by rw [bl_length]; exact h)]
    simp only [bl, List.getElem_map, Option.getD_some]
    rfl
  · rw [bt_end s (by omega), List.getD_eq_getElem?_getD, List.getElem?_eq_none (by rw [bl_length]; omega)]; rfl
theorem bl_append (a b : ByteArray) : bl (a ++ b) = bl a ++ bl b := by
  simp [bl, ByteArray.data_append]

/-- The end of the run of underscores that begins at i. -/
def pu (zs : List Int) (i : Nat) : Nat := i + ((zs.drop i).takeWhile (· == 95)).length

theorem drop_cons (zs : List Int) (i : Nat) (h : i < zs.length) : zs.drop i = zs.getD i 0 :: zs.drop (i + 1) := by
  rw [List.drop_eq_getElem_cons h, List.getD_eq_getElem?_getD, List.getElem?_eq_getElem h]; rfl
theorem pu_end {zs : List Int} {i : Nat} (h : zs.length ≤ i) : pu zs i = i := by
  unfold pu; rw [List.drop_of_length_le h]; rfl
theorem pu_stop {zs : List Int} {i : Nat} (h : i < zs.length) (hc : zs.getD i 0 ≠ 95) : pu zs i = i := by
  unfold pu; rw [drop_cons zs i h, List.takeWhile_cons_of_neg (by simpa using hc)]; rfl
theorem pu_step {zs : List Int} {i : Nat} (h : i < zs.length) (hc : zs.getD i 0 = 95) : pu zs i = pu zs (i + 1) := by
  unfold pu; rw [drop_cons zs i h, List.takeWhile_cons_of_pos (by simpa using hc)]; simp; omega
theorem pu_ge (zs : List Int) (i : Nat) : i ≤ pu zs i := by unfold pu; omega
/-- By the distance to the end. -/
theorem pu_all (zs : List Int) : ∀ d i, zs.length ≤ i + d → (i < pu zs i → pu zs i ≤ zs.length) ∧ (∀ p, i ≤ p → p < pu zs i → zs.getD p 0 = 95) ∧ (pu zs i < zs.length → zs.getD (pu zs i) 0 ≠ 95) ∧ ∀ j, i ≤ j → j ≤ pu zs i → pu zs j = pu zs i := by
  intro d
  induction d with
  | zero =>
    intro i h
    have e := pu_end (zs := zs) (i := i) (by omega)
    rw [e]
    refine ⟨fun h => absurd h (by omega), fun p h1 h2 => absurd h1 (by omega), fun h' => absurd h' (by omega), fun j h1 h2 => ?_⟩
    obtain rfl : j = i := by omega
    exact e
  | succ d ih =>
    intro i h
    by_cases hi : i < zs.length
    · by_cases hc : zs.getD i 0 = 95
      · have e := pu_step hi hc
        obtain ⟨h1, h2, h3, h4⟩ := ih (i + 1) (by omega)
        have hg := pu_ge zs (i + 1)
        rw [e]
        refine ⟨fun _ => ?_, fun p hp hq => ?_, h3, fun j hj hk => ?_⟩
        · by_cases h' : i + 1 < pu zs (i + 1)
          · exact h1 h'
          · omega
        · by_cases h' : p = i
          · subst h'; exact hc
          · exact h2 p (by omega) hq
        · by_cases h' : j = i
          · subst h'; exact e
          · exact h4 j (by omega) hk
      · have e := pu_stop hi hc
        rw [e]
        refine ⟨fun h => absurd h (by omega), fun p h1 h2 => absurd h1 (by omega), fun _ => hc, fun j h1 h2 => ?_⟩
        obtain rfl : j = i := by omega
        exact e
    · have e := pu_end (zs := zs) (i := i) (by omega)
      rw [e]
      refine ⟨fun h => absurd h (by omega), fun p h1 h2 => absurd h1 (by omega), fun h' => absurd h' (by omega), fun j h1 h2 => ?_⟩
      obtain rfl : j = i := by omega
      exact e
theorem pu_le {zs : List Int} {i : Nat} (h : i < pu zs i) : pu zs i ≤ zs.length := (pu_all zs zs.length i (by omega)).1 h
theorem pu_run {zs : List Int} {i p : Nat} (h1 : i ≤ p) (h2 : p < pu zs i) : zs.getD p 0 = 95 := (pu_all zs zs.length i (by omega)).2.1 p h1 h2
theorem pu_not {zs : List Int} {i : Nat} (h : pu zs i < zs.length) : zs.getD (pu zs i) 0 ≠ 95 := (pu_all zs zs.length i (by omega)).2.2.1 h
theorem pu_same {zs : List Int} {i j : Nat} (h1 : i ≤ j) (h2 : j ≤ pu zs i) : pu zs j = pu zs i := (pu_all zs zs.length i (by omega)).2.2.2 j h1 h2
theorem getD_append_left (a b : List Int) (i : Nat) (h : i < a.length) : (a ++ b).getD i 0 = a.getD i 0 := by
  rw [List.getD_eq_getElem?_getD, List.getD_eq_getElem?_getD, List.getElem?_append_left h]
theorem getD_append_right (a b : List Int) (i : Nat) (h : a.length ≤ i) : (a ++ b).getD i 0 = b.getD (i - a.length) 0 := by
  rw [List.getD_eq_getElem?_getD, List.getD_eq_getElem?_getD, List.getElem?_append_right h]
theorem takeWhile_all (l m : List Int) (h : ∀ x ∈ l, x = 95) : (l ++ m).takeWhile (· == 95) = l ++ m.takeWhile (· == 95) := by
  induction l with
  | nil => rfl
  | cons x l ih =>
    have hx := h x (by simp)
    rw [List.cons_append, List.takeWhile_cons_of_pos (by simpa using hx), ih (fun y hy => h y (by simp [hy]))]; rfl
/-- On a ++ b: the run ends within a. -/
theorem pu_left {a b : List Int} {i : Nat} (h : pu a i < a.length) : pu (a ++ b) i = pu a i := by
  have hg := pu_ge a i
  have h1 : pu (a ++ b) (pu a i) = pu a i := pu_stop (by simp; omega) (by rw [getD_append_left _ _ _ h]; exact pu_not h)
  have key : ∀ d i, pu a i = i + d → pu a i < a.length → pu (a ++ b) i = pu a i := by
    intro d
    induction d with
    | zero =>
      intro i e hl
      have e' : pu a i = i := by omega
      rw [e'] at hl ⊢
      refine pu_stop (by simp; omega) ?_
      rw [getD_append_left _ _ _ hl]
      have := pu_not (zs := a) (i := i) (by omega)
      rwa [e'] at this
    | succ d ih =>
      intro i e hl
      have hc : a.getD i 0 = 95 := pu_run (Nat.le_refl _) (by omega)
      have s1 := pu_step (zs := a) (i := i) (by omega) hc
      have s2 := pu_step (zs := a ++ b) (i := i) (by simp; omega) (by rw [getD_append_left _ _ _ (by omega)]; exact hc)
      rw [s1, s2]
      exact ih (i + 1) (by omega) (by omega)
  exact key (pu a i - i) i (by omega) h
/-- On a ++ b: the run reaches a's end. -/
theorem pu_right {a b : List Int} {i : Nat} (hi : i ≤ a.length) (h : a.length ≤ pu a i) : pu (a ++ b) i = a.length + pu b 0 := by
  have key : ∀ d i, i + d = a.length → a.length ≤ pu a i → pu (a ++ b) i = a.length + pu b 0 := by
    intro d
    induction d with
    | zero =>
      intro i e _
      obtain rfl : i = a.length := by omega
      unfold pu
      rw [List.drop_left, List.drop_zero, Nat.zero_add]
    | succ d ih =>
      intro i e hl
      have hc : a.getD i 0 = 95 := pu_run (Nat.le_refl _) (by omega)
      have s1 := pu_step (zs := a) (i := i) (by omega) hc
      have s2 := pu_step (zs := a ++ b) (i := i) (by simp; omega) (by rw [getD_append_left _ _ _ (by omega)]; exact hc)
      rw [s2]
      exact ih (i + 1) (by omega) (by omega)
  exact key (a.length - i) i (by omega) h
end Go.Proofs.Qxb6621701a
