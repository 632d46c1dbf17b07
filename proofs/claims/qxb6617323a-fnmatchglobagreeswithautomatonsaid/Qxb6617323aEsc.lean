/-
  THE PLAIN LAW of FnMatchGlobEscapedTextIsLiteral: what escaped texts match; no Go text in sight.
-/
import Derived.Test.Qxb6617323aGlob
namespace Go.Proofs.Qxb6617323a
open Go.PlainAid

/-- Every byte behind a backslash. -/
def esc : List Int → List Int
  | [] => []
  | c :: l => 92 :: c :: esc l
theorem esc_append (l m : List Int) : esc (l ++ m) = esc l ++ esc m := by
  induction l with
  | nil => rfl
  | cons c l ih => simp [esc, ih]
theorem esc_length (l : List Int) : (esc l).length = 2 * l.length := by
  induction l with
  | nil => rfl
  | cons c l ih => simp only [esc, List.length_cons, ih]; omega
theorem esc_at (l : List Int) (i : Nat) (h : i < l.length) : (esc l).getD (2 * i) 0 = 92 ∧ (esc l).getD (2 * i + 1) 0 = l.getD i 0 := by
  induction l generalizing i with
  | nil => simp at h
  | cons c l ih =>
    cases i with
    | zero => exact ⟨rfl, rfl⟩
    | succ i =>
      have h1 := ih i (by simpa using h)
      have e1 : 2 * (i + 1) = 2 * i + 1 + 1 := by omega
      have e2 : 2 * (i + 1) + 1 = 2 * i + 1 + 1 + 1 := by omega
      rw [e2, e1]
      simpa [esc] using h1

def lit (x : Int) : Tok := some (fun c => x == c)
/-- Is s the beginning of n? -/
def hpF (s n : List Int) : Bool := decide (s.length ≤ n.length ∧ n.take s.length = s)
def hsF (s n : List Int) : Bool := decide (s.length ≤ n.length ∧ n.drop (n.length - s.length) = s)
theorem M_lits (s n : List Int) : M (s.map lit) n = decide (s = n) := by
  induction s generalizing n with
  | nil => cases n <;> simp [M]
  | cons x s ih =>
    cases n with
    | nil => rfl
    | cons c n =>
      show ((x == c) && M (s.map lit) n) = _
      rw [ih, Bool.eq_iff_iff]
      simp
theorem M_any (n : List Int) : M [none] n = true := by
  show starF (fun n => n.isEmpty) n = true
  induction n with
  | nil => rfl
  | cons c n ih => show (_ || starF _ n) = true; rw [ih, Bool.or_true]
theorem M_lits_star (s n : List Int) : M (s.map lit ++ [none]) n = hpF s n := by
  induction s generalizing n with
  | nil =>
    show M [none] n = _
    rw [M_any]; simp [hpF]
  | cons x s ih =>
    cases n with
    | nil => rfl
    | cons c n =>
      show ((x == c) && M (s.map lit ++ [none]) n) = _
      rw [ih, Bool.eq_iff_iff]
      simp [hpF]
      constructor
      · rintro ⟨rfl, h1, h2⟩; exact ⟨h1, rfl, h2⟩
      · rintro ⟨h1, rfl, h2⟩; exact ⟨rfl, h1, h2⟩
theorem M_star_lits_star (s n : List Int) : M (none :: (s.map lit ++ [none])) n = starF (hpF s) n := by
  show starF (M (s.map lit ++ [none])) n = _
  have e : M (s.map lit ++ [none]) = hpF s := funext (M_lits_star s)
  rw [e]
theorem M_star_lits (s n : List Int) : M (none :: s.map lit) n = hsF s n := by
  show starF (M (s.map lit)) n = _
  have e : M (s.map lit) = fun n => decide (s = n) := funext (M_lits s)
  rw [e, Bool.eq_iff_iff]
  constructor
  · intro h
    have h' : starF (fun n => decide (s = n)) (n.drop 0) = true := by rw [List.drop_zero]; exact h
    obtain ⟨j, h1, h2, h3⟩ := starF_some h'
    have h4 : s = n.drop j := of_decide_eq_true h3
    have hl : s.length = n.length - j := by rw [h4, List.length_drop]
    unfold hsF
    refine decide_eq_true ⟨by omega, ?_⟩
    rw [show n.length - s.length = j from by omega]
    exact h4.symm
  · intro h
    have h1 : s.length ≤ n.length ∧ n.drop (n.length - s.length) = s := of_decide_eq_true h
    have h2 : starF (fun n => decide (s = n)) (n.drop (n.length - s.length)) = true := starF_here (decide_eq_true h1.2.symm)
    have h3 := starF_later (i := 0) (Nat.zero_le _) h2
    rwa [List.drop_zero] at h3

/-! ### the tokens of a star or none, the escaped text, a star or none -/
def tail (z : Bool) : List Tok := if z then [none] else []
def tailB (z : Bool) : List Int := if z then [42] else []
def TE (s : List Int) (a : Nat) (z : Bool) (g : Nat) : List Tok :=
  if g < a then none :: (s.map lit ++ tail z) else if g - a ≤ 2 * s.length then (s.drop ((g - a) / 2)).map lit ++ tail z else []
def GE (s : List Int) (a : Nat) (z : Bool) (g : Nat) : Prop := g < a ∨ (∃ i, i ≤ s.length ∧ g = a + 2 * i) ∨ g = a + 2 * s.length + (tailB z).length
theorem TE_zero (s : List Int) (z : Bool) : TE s 0 z 0 = s.map lit ++ tail z := by simp [TE]
theorem TE_one (s : List Int) (z : Bool) : TE s 1 z 0 = none :: (s.map lit ++ tail z) := by simp [TE]
theorem TE_at (s : List Int) (a : Nat) (z : Bool) (i : Nat) (h : i ≤ s.length) : TE s a z (a + 2 * i) = (s.drop i).map lit ++ tail z := by
  unfold TE
  rw [if_neg (by omega), if_pos (by omega), show (a + 2 * i - a) / 2 = i from by omega]
theorem TE_end (s : List Int) (a : Nat) (z : Bool) : TE s a z (a + 2 * s.length + (tailB z).length) = [] := by
  cases z
  · have := TE_at s a false s.length (Nat.le_refl _)
    simpa [tailB, tail] using this
  · unfold TE
    rw [if_neg (by omega), if_neg (by simp [tailB]; omega)]
end Go.Proofs.Qxb6617323a
