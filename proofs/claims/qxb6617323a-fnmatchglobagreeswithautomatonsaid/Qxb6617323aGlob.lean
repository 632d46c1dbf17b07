/-
  THE PLAIN LAW of matchGlob: tokens, what they match, and the one backtracking star; no Go text in sight.
-/
import Derived.PlainAid
namespace Go.Proofs.Qxb6617323a
open Go.PlainAid

/-! ### A string's bytes as numbers -/
def bl (s : ByteArray) : List Int := s.data.toList.map fun c => (c.toNat : Int)
theorem bl_length (s : ByteArray) : (bl s).length = s.size := by simp [bl]
theorem bt_bl (s : ByteArray) (k : Nat) : bt s k = (bl s).getD k 0 := by
  by_cases h : k < s.size
  · unfold bt
    rw [dif_pos h, List.getD_eq_getElem?_getD, List.getElem?_eq_getElem (by rw [bl_length]; exact h)]
    simp only [bl, List.getElem_map, Option.getD_some]
    rfl
  · rw [bt_end s (by omega), List.getD_eq_getElem?_getD, List.getElem?_eq_none (by rw [bl_length]; omega)]; rfl
theorem bl_append (a b : ByteArray) : bl (a ++ b) = bl a ++ bl b := by
  simp [bl, ByteArray.data_append]
theorem drop_cons (zs : List Int) (i : Nat) (h : i < zs.length) : zs.drop i = zs.getD i 0 :: zs.drop (i + 1) := by
  rw [List.drop_eq_getElem_cons h, List.getD_eq_getElem?_getD, List.getElem?_eq_getElem h]; rfl

/-- A token: a star, or a set of bytes of which it takes one. -/
abbrev Tok := Option (Int → Bool)
/-- f at some later place. -/
def starF (f : List Int → Bool) : List Int → Bool
  | [] => f []
  | c :: n => f (c :: n) || starF f n
def oneF (S : Int → Bool) (f : List Int → Bool) : List Int → Bool
  | [] => false
  | c :: n => S c && f n
/-- Do the tokens match the whole text? -/
def M : List Tok → List Int → Bool
  | [] => fun n => n.isEmpty
  | none :: T => starF (M T)
  | some S :: T => oneF S (M T)

theorem starF_drop (f : List Int → Bool) (N : List Int) (i : Nat) (h : i < N.length) : starF f (N.drop i) = (f (N.drop i) || starF f (N.drop (i + 1))) := by
  rw [drop_cons N i h]; rfl
theorem starF_end (f : List Int → Bool) (N : List Int) (i : Nat) (h : N.length ≤ i) : starF f (N.drop i) = f (N.drop i) := by
  rw [List.drop_of_length_le h]; rfl
theorem starF_here {f : List Int → Bool} {n : List Int} (h : f n = true) : starF f n = true := by
  cases n with
  | nil => exact h
  | cons c n => simp [starF, h]
theorem starF_later {f : List Int → Bool} {N : List Int} {i j : Nat} (hij : i ≤ j) (h : starF f (N.drop j) = true) : starF f (N.drop i) = true := by
  have key : ∀ d i, i + d = j → starF f (N.drop i) = true := by
    intro d
    induction d with
    | zero => intro i e; rw [show i = j from by omega]; exact h
    | succ d ih =>
      intro i e
      have h1 := ih (i + 1) (by omega)
      by_cases hl : i < N.length
      · rw [starF_drop f N i hl, h1, Bool.or_true]
      · rw [List.drop_of_length_le (by omega)]
        rw [List.drop_of_length_le (by omega)] at h1
        exact h1
  exact key (j - i) i (by omega)
theorem starF_some {f : List Int → Bool} {N : List Int} {i : Nat} (h : starF f (N.drop i) = true) : ∃ j, i ≤ j ∧ j ≤ max i N.length ∧ f (N.drop j) = true := by
  have key : ∀ d i, N.length ≤ i + d → starF f (N.drop i) = true → ∃ j, i ≤ j ∧ j ≤ max i N.length ∧ f (N.drop j) = true := by
    intro d
    induction d with
    | zero => intro i e h; rw [starF_end f N i (by omega)] at h; exact ⟨i, Nat.le_refl _, by omega, h⟩
    | succ d ih =>
      intro i e h
      by_cases hl : i < N.length
      · rw [starF_drop f N i hl, Bool.or_eq_true] at h
        rcases h with h | h
        · exact ⟨i, Nat.le_refl _, by omega, h⟩
        · obtain ⟨j, h1, h2, h3⟩ := ih (i + 1) (by omega) h
          exact ⟨j, by omega, by omega, h3⟩
      · rw [starF_end f N i (by omega)] at h; exact ⟨i, Nat.le_refl _, by omega, h⟩
  exact key N.length i (by omega) h
theorem starF_starF (f : List Int → Bool) (n : List Int) : starF (starF f) n = starF f n := by
  induction n with
  | nil => rfl
  | cons c n ih =>
    show (starF f (c :: n) || starF (starF f) n) = _
    rw [ih]
    show ((f (c :: n) || starF f n) || starF f n) = (f (c :: n) || starF f n)
    cases f (c :: n) <;> cases starF f n <;> rfl
theorem oneF_drop (S : Int → Bool) (f : List Int → Bool) (N : List Int) (i : Nat) (h : i < N.length) : oneF S f (N.drop i) = (S (N.getD i 0) && f (N.drop (i + 1))) := by
  rw [drop_cons N i h]; rfl
theorem oneF_end (S : Int → Bool) (f : List Int → Bool) (N : List Int) (i : Nat) (h : N.length ≤ i) : oneF S f (N.drop i) = false := by
  rw [List.drop_of_length_le h]; rfl

/-- Behind one-byte tokens. -/
theorem M_behind (P : List (Int → Bool)) (T : List Tok) (N : List Int) (i : Nat) (h : M (P.map some ++ T) (N.drop i) = true) (hi : i ≤ N.length) : M T (N.drop (i + P.length)) = true ∧ i + P.length ≤ N.length := by
  induction P generalizing i with
  | nil => exact ⟨h, hi⟩
  | cons S P ih =>
    by_cases hl : i < N.length
    · have h' : oneF S (M (P.map some ++ T)) (N.drop i) = true := h
      rw [oneF_drop S _ N i hl, Bool.and_eq_true] at h'
      obtain ⟨h1, h2⟩ := ih (i + 1) h'.2 (by omega)
      have e : i + (S :: P).length = i + 1 + P.length := by rw [List.length_cons]; omega
      rw [e]
      exact ⟨h1, h2⟩
    · have h' : oneF S (M (P.map some ++ T)) (N.drop i) = true := h
      rw [oneF_end S _ N i (by omega)] at h'
      cases h'

/-- The state of the matcher: (g, n), the last star, and what it took. 'A': the answer. -/
def Inv (T : Nat → List Tok) (N : List Int) (A : Bool) (g n : Nat) (star : Int) (took : Nat) : Prop :=
  n ≤ N.length ∧ took ≤ n ∧ ((star = -1 ∧ took = 0 ∧ A = M (T g) (N.drop n)) ∨
    ∃ st : Nat, star = st ∧ A = starF (M (T st)) (N.drop took) ∧ M (T st) (N.drop took) = M (T g) (N.drop n) ∧ ∃ P : List (Int → Bool), T st = P.map some ++ T g ∧ n = took + P.length)

theorem inv_start (T : Nat → List Tok) (N : List Int) : Inv T N (M (T 0) N) 0 0 (-1) 0 :=
  ⟨Nat.zero_le _, Nat.le_refl _, .inl ⟨rfl, rfl, rfl⟩⟩
theorem inv_one {T : Nat → List Tok} {N : List Int} {A : Bool} {g n e took : Nat} {star : Int} {S : Int → Bool} (h : Inv T N A g n star took) (hn : n < N.length) (hT : T g = some S :: T e) (hS : S (N.getD n 0) = true) : Inv T N A e (n + 1) star took := by
  obtain ⟨h1, h2, h3⟩ := h
  have hM : M (T g) (N.drop n) = M (T e) (N.drop (n + 1)) := by
    rw [hT]
    show oneF S (M (T e)) (N.drop n) = _
    rw [oneF_drop S _ N n hn, hS, Bool.true_and]
  refine ⟨by omega, by omega, ?_⟩
  rcases h3 with ⟨a, b, c⟩ | ⟨st, a, b, c, P, d, k⟩
  · exact .inl ⟨a, b, c.trans hM⟩
  · exact .inr ⟨st, a, b, c.trans hM, P ++ [S], by rw [d, hT]; simp, by simp; omega⟩
theorem inv_star {T : Nat → List Tok} {N : List Int} {A : Bool} {g n g1 took : Nat} {star : Int} (h : Inv T N A g n star took) (hT : M (T g) = starF (M (T g1))) : Inv T N A g1 n g1 n := by
  obtain ⟨h1, h2, h3⟩ := h
  refine ⟨h1, Nat.le_refl _, .inr ⟨g1, rfl, ?_, rfl, [], rfl, rfl⟩⟩
  rcases h3 with ⟨a, b, c⟩ | ⟨st, a, b, c, P, d, k⟩
  · rw [c, hT]
  · rw [b, ← hT, Bool.eq_iff_iff]
    constructor
    · intro hs
      obtain ⟨j, j1, j2, j3⟩ := starF_some hs
      rw [d] at j3
      have hj : j ≤ N.length := by omega
      obtain ⟨k1, k2⟩ := M_behind P (T g) N j j3 hj
      rw [hT] at k1 ⊢
      exact starF_later (by omega) k1
    · intro hs
      rw [← c] at hs
      exact starF_here hs
theorem inv_fail_none {T : Nat → List Tok} {N : List Int} {A : Bool} {g n took : Nat} {star : Int} (h : Inv T N A g n star took) (hf : M (T g) (N.drop n) = false) (hs : star < 0) : A = false := by
  obtain ⟨h1, h2, ⟨a, b, c⟩ | ⟨st, a, b, c, P, d, k⟩⟩ := h
  · rw [c, hf]
  · omega
theorem inv_fail_end {T : Nat → List Tok} {N : List Int} {A : Bool} {g n took : Nat} {star : Int} (h : Inv T N A g n star took) (hf : M (T g) (N.drop n) = false) (hs : 0 ≤ star) (ht : took = N.length) : A = false := by
  obtain ⟨h1, h2, ⟨a, b, c⟩ | ⟨st, a, b, c, P, d, k⟩⟩ := h
  · omega
  · rw [b, starF_end _ N took (by omega), c, hf]
theorem inv_fail_next {T : Nat → List Tok} {N : List Int} {A : Bool} {g n took : Nat} {star : Int} (h : Inv T N A g n star took) (hf : M (T g) (N.drop n) = false) (hs : 0 ≤ star) (ht : took < N.length) : ∃ st : Nat, star = st ∧ Inv T N A st (took + 1) star (took + 1) := by
  obtain ⟨h1, h2, ⟨a, b, c⟩ | ⟨st, a, b, c, P, d, k⟩⟩ := h
  · omega
  · refine ⟨st, a, by omega, Nat.le_refl _, .inr ⟨st, a, ?_, rfl, [], rfl, rfl⟩⟩
    rw [b, starF_drop _ N took ht, c, hf, Bool.false_or]
theorem inv_end {T : Nat → List Tok} {N : List Int} {A : Bool} {g n took : Nat} {star : Int} (h : Inv T N A g n star took) (hT : T g = []) (hn : N.length ≤ n) : A = true := by
  have hM : M (T g) (N.drop n) = true := by rw [hT, List.drop_of_length_le hn]; rfl
  obtain ⟨h1, h2, ⟨a, b, c⟩ | ⟨st, a, b, c, P, d, k⟩⟩ := h
  · rw [c, hM]
  · rw [b]; exact starF_here (c.trans hM)
theorem inv_le {T : Nat → List Tok} {N : List Int} {A : Bool} {g n took : Nat} {star : Int} (h : Inv T N A g n star took) : n ≤ N.length ∧ took ≤ n := ⟨h.1, h.2.1⟩
theorem inv_st {T : Nat → List Tok} {N : List Int} {A : Bool} {g n took : Nat} {star : Int} (h : Inv T N A g n star took) : star = -1 ∨ ∃ st : Nat, star = st := by
  rcases h.2.2 with ⟨a, _⟩ | ⟨st, a, _⟩
  · exact .inl a
  · exact .inr ⟨st, a⟩
/-- Where the text or the token says no. -/
theorem fail_nil {T : List Tok} {N : List Int} {n : Nat} (hT : T = []) (hn : n < N.length) : M T (N.drop n) = false := by
  rw [hT, drop_cons N n hn]; rfl
theorem fail_end {T rest : List Tok} {S : Int → Bool} {N : List Int} {n : Nat} (hT : T = some S :: rest) (hn : N.length ≤ n) : M T (N.drop n) = false := by
  rw [hT]; exact oneF_end S _ N n hn
theorem fail_one {T rest : List Tok} {S : Int → Bool} {N : List Int} {n : Nat} (hT : T = some S :: rest) (hn : n < N.length) (hS : S (N.getD n 0) = false) : M T (N.drop n) = false := by
  rw [hT]
  show oneF S _ _ = false
  rw [oneF_drop S _ N n hn, hS]; rfl
theorem M_star2 (T : List Tok) : M (none :: none :: T) = M (none :: T) := funext fun n => starF_starF (M T) n
end Go.Proofs.Qxb6617323a
