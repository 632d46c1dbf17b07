/-
  THE PLAIN LAW of the automaton: all states at once answer as the tokens match; no Go text in sight.
-/
import Derived.Test.Qxb6617323aGlob
namespace Go.Proofs.Qxb6617323a
open Go.PlainAid

def noTok : Tok := some (fun _ => false)
def tokAt (TL : List Tok) (k : Nat) : Tok := TL.getD k noTok
def starAt (TL : List Tok) (k : Nat) : Bool := (tokAt TL k).isNone
def setOf (t : Tok) (c : Int) : Bool := match t with | none => false | some S => S c
def setAt (TL : List Tok) (k : Nat) (c : Int) : Bool := setOf (tokAt TL k) c
/-- Every live state before a star reaches the state after it. -/
def skB (TL : List Tok) (B : Nat → Bool) : Nat → Bool
  | 0 => B 0
  | k + 1 => B (k + 1) || (skB TL B k && starAt TL k)
/-- One byte. -/
def baseV (TL : List Tok) (V : Nat → Bool) (c : Int) : Nat → Bool
  | 0 => decide (0 < TL.length) && V 0 && starAt TL 0
  | k + 1 => (decide (k + 1 < TL.length) && V (k + 1) && starAt TL (k + 1)) || (decide (k < TL.length) && V k && !starAt TL k && setAt TL k c)
def Acc (TL : List Tok) (V : Nat → Bool) (n : List Int) : Prop := ∃ k, k ≤ TL.length ∧ V k = true ∧ M (TL.drop k) n = true
def Closed (TL : List Tok) (V : Nat → Bool) : Prop := ∀ k, k < TL.length → V k = true → starAt TL k = true → V (k + 1) = true

theorem drop_tok (TL : List Tok) (k : Nat) (h : k < TL.length) : TL.drop k = tokAt TL k :: TL.drop (k + 1) := by
  rw [List.drop_eq_getElem_cons h]
  unfold tokAt
  rw [List.getD_eq_getElem?_getD, List.getElem?_eq_getElem h]; rfl
theorem M_star {TL : List Tok} {k : Nat} (h : k < TL.length) (hs : starAt TL k = true) : M (TL.drop k) = starF (M (TL.drop (k + 1))) := by
  rw [drop_tok TL k h]
  unfold starAt at hs
  cases e : tokAt TL k with
  | none => rfl
  | some S => rw [e] at hs; simp at hs
theorem M_one {TL : List Tok} {k : Nat} (h : k < TL.length) (hs : starAt TL k = false) : M (TL.drop k) = oneF (setAt TL k) (M (TL.drop (k + 1))) := by
  rw [drop_tok TL k h]
  unfold starAt at hs
  cases e : tokAt TL k with
  | none => rw [e] at hs; simp at hs
  | some S =>
    have : setAt TL k = S := by funext c; unfold setAt; rw [e]; rfl
    rw [this]; rfl
theorem skB_here {TL : List Tok} {B : Nat → Bool} {k : Nat} (h : B k = true) : skB TL B k = true := by
  cases k with
  | zero => exact h
  | succ k => simp [skB, h]
theorem skB_closed (TL : List Tok) (B : Nat → Bool) : Closed TL (skB TL B) := fun k hk h1 h2 => by simp [skB, h1, h2]
theorem acc_skip (TL : List Tok) (B : Nat → Bool) (n : List Int) : Acc TL (skB TL B) n ↔ Acc TL B n := by
  constructor
  · rintro ⟨k, hk, h1, h2⟩
    induction k with
    | zero => exact ⟨0, hk, h1, h2⟩
    | succ k ih =>
      simp only [skB, Bool.or_eq_true, Bool.and_eq_true] at h1
      rcases h1 with h1 | ⟨h1, h3⟩
      · exact ⟨k + 1, hk, h1, h2⟩
      · refine ih (by omega) h1 ?_
        rw [M_star (by omega) h3]
        exact starF_here h2
  · rintro ⟨k, hk, h1, h2⟩
    exact ⟨k, hk, skB_here h1, h2⟩
theorem acc_base {TL : List Tok} {V : Nat → Bool} (hV : Closed TL V) (c : Int) (n : List Int) : Acc TL V (c :: n) ↔ Acc TL (baseV TL V c) n := by
  constructor
  · rintro ⟨k, hk, h1, h2⟩
    have key : ∀ d k, k + d = TL.length → V k = true → M (TL.drop k) (c :: n) = true → Acc TL (baseV TL V c) n := by
      intro d
      induction d with
      | zero =>
        intro k e _ h
        rw [List.drop_of_length_le (by omega)] at h
        cases h
      | succ d ih =>
        intro k e h1 h2
        have hk : k < TL.length := by omega
        cases hs : starAt TL k with
        | true =>
          rw [M_star hk hs] at h2
          have h3 : (M (TL.drop (k + 1)) (c :: n) || starF (M (TL.drop (k + 1))) n) = true := h2
          rw [Bool.or_eq_true] at h3
          rcases h3 with h3 | h3
          · exact ih (k + 1) (by omega) (hV k hk h1 hs) h3
          · refine ⟨k, by omega, ?_, by rw [M_star hk hs]; exact h3⟩
            cases k with
            | zero => simp [baseV, hk, h1, hs]
            | succ k => simp [baseV, hk, h1, hs]
        | false =>
          rw [M_one hk hs] at h2
          have h3 : (setAt TL k c && M (TL.drop (k + 1)) n) = true := h2
          rw [Bool.and_eq_true] at h3
          exact ⟨k + 1, by omega, by simp [baseV, hk, h1, hs, h3.1], h3.2⟩
    exact key (TL.length - k) k (by omega) h1 h2
  · have one : ∀ k, (decide (k < TL.length) && V k && starAt TL k) = true → M (TL.drop k) n = true → Acc TL V (c :: n) := by
      intro k h1 h2
      simp only [Bool.and_eq_true, decide_eq_true_eq] at h1
      obtain ⟨⟨hk, hv⟩, hs⟩ := h1
      refine ⟨k, by omega, hv, ?_⟩
      rw [M_star hk hs] at h2 ⊢
      show (_ || starF _ n) = true
      rw [h2, Bool.or_true]
    rintro ⟨k, hk, h1, h2⟩
    cases k with
    | zero => exact one 0 h1 h2
    | succ k =>
      simp only [baseV] at h1
      rw [Bool.or_eq_true] at h1
      rcases h1 with h1 | h1
      · exact one (k + 1) h1 h2
      · simp only [Bool.and_eq_true, decide_eq_true_eq, Bool.not_eq_true'] at h1
        obtain ⟨⟨⟨hk', hv⟩, hs⟩, hset⟩ := h1
        refine ⟨k, by omega, hv, ?_⟩
        rw [M_one hk' hs]
        show (setAt TL k c && M (TL.drop (k + 1)) n) = true
        rw [hset, h2]; rfl
theorem acc_end {TL : List Tok} {V : Nat → Bool} (hV : Closed TL V) : Acc TL V [] ↔ V TL.length = true := by
  constructor
  · rintro ⟨k, hk, h1, h2⟩
    have key : ∀ d k, k + d = TL.length → V k = true → M (TL.drop k) [] = true → V TL.length = true := by
      intro d
      induction d with
      | zero => intro k e h1 _; rw [show TL.length = k from by omega]; exact h1
      | succ d ih =>
        intro k e h1 h2
        have hk : k < TL.length := by omega
        cases hs : starAt TL k with
        | true =>
          rw [M_star hk hs] at h2
          exact ih (k + 1) (by omega) (hV k hk h1 hs) h2
        | false =>
          rw [M_one hk hs] at h2
          cases h2
    exact key (TL.length - k) k (by omega) h1 h2
  · intro h
    exact ⟨TL.length, Nat.le_refl _, h, by rw [List.drop_of_length_le (Nat.le_refl _)]; rfl⟩
theorem acc_start (TL : List Tok) (n : List Int) : Acc TL (fun k => k == 0) n ↔ M TL n = true := by
  constructor
  · rintro ⟨k, hk, h1, h2⟩
    have e : k = 0 := by simpa using h1
    subst e
    exact h2
  · intro h
    exact ⟨0, Nat.zero_le _, rfl, h⟩
/-- The states behind the first j bytes. -/
def stV (TL : List Tok) (N : List Int) : Nat → Nat → Bool
  | 0 => skB TL (fun k => k == 0)
  | j + 1 => skB TL (baseV TL (stV TL N j) (N.getD j 0))
theorem stV_closed (TL : List Tok) (N : List Int) (j : Nat) : Closed TL (stV TL N j) := by
  cases j with
  | zero => exact skB_closed _ _
  | succ j => exact skB_closed _ _
theorem stV_acc (TL : List Tok) (N : List Int) (j : Nat) (hj : j ≤ N.length) : Acc TL (stV TL N j) (N.drop j) ↔ M TL N = true := by
  induction j with
  | zero =>
    rw [List.drop_zero]
    show Acc TL (skB TL _) N ↔ _
    rw [acc_skip, acc_start]
  | succ j ih =>
    rw [← ih (by omega), drop_cons N j (by omega), acc_base (stV_closed TL N j)]
    show Acc TL (skB TL _) _ ↔ _
    rw [acc_skip]
theorem stV_end (TL : List Tok) (N : List Int) : stV TL N N.length TL.length = M TL N := by
  have h := stV_acc TL N N.length (Nat.le_refl _)
  rw [List.drop_of_length_le (Nat.le_refl _), acc_end (stV_closed TL N N.length)] at h
  rw [Bool.eq_iff_iff]
  exact h
end Go.Proofs.Qxb6617323a
