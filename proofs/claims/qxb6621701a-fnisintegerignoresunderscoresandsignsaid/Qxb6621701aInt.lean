/-
  THE PLAIN LAW of the two integer laws: which texts are integers; no Go text in sight.
-/
import Derived.Test.Qxb6621701aUnd
namespace Go.Proofs.Qxb6621701a
open Go.PlainAid

/-- The value of a digit, or 16. -/
def dv (c : Int) : Int := if 48 ≤ c ∧ c ≤ 57 then c - 48 else if 97 ≤ c ∧ c ≤ 102 then c - 97 + 10 else if 65 ≤ c ∧ c ≤ 70 then c - 65 + 10 else 16
/-- Is c a digit of the base? -/
def dgt (base c : Int) : Bool := decide (dv c < base)
def strip (l : List Int) : List Int := l.filter (· != 95)
/-- What is left behind sign and underscores. -/
def core (d : List Int) : Bool :=
  match d with
  | [] => false
  | x :: r => if x = 48 then (match r with
      | [] => true
      | y :: t => if y = 120 ∨ y = 88 then !t.isEmpty && t.all (dgt 16) else if y = 111 ∨ y = 79 then !t.isEmpty && t.all (dgt 8)
          else if y = 98 ∨ y = 66 then !t.isEmpty && t.all (dgt 2) else (y :: t).all (dgt 8))
    else (x :: r).all (dgt 10)
/-- The texts that are integers. -/
def isInt (zs : List Int) : Bool :=
  match zs with
  | [] => false
  | c :: r => if c = 43 ∨ c = 45 then core (strip r) else if c < 48 ∨ 57 < c then false else core (strip (c :: r))
/-- What the reading loop answers from index i on. -/
def scan (zs : List Int) (i : Nat) (base : Int) : Bool := !(strip (zs.drop i)).isEmpty && (strip (zs.drop i)).all (dgt base)

theorem strip_nil : strip [] = [] := rfl
theorem strip_und (l : List Int) : strip (95 :: l) = strip l := rfl
theorem strip_cons {c : Int} (l : List Int) (h : c ≠ 95) : strip (c :: l) = c :: strip l := by
  unfold strip; rw [List.filter_cons_of_pos (by simpa using h)]
theorem strip_append (l m : List Int) : strip (l ++ m) = strip l ++ strip m := by unfold strip; exact List.filter_append ..
theorem strip_pu (zs : List Int) (i : Nat) : strip (zs.drop i) = strip (zs.drop (pu zs i)) := by
  have key : ∀ d i, pu zs i = i + d → strip (zs.drop i) = strip (zs.drop (pu zs i)) := by
    intro d
    induction d with
    | zero => intro i e; rw [show pu zs i = i from by omega]
    | succ d ih =>
      intro i e
      have hl : i < zs.length := by have := pu_le (zs := zs) (i := i) (by omega); omega
      have hc : zs.getD i 0 = 95 := pu_run (Nat.le_refl _) (by omega)
      have s1 := pu_step hl hc
      rw [drop_cons zs i hl, hc, strip_und, s1]
      exact ih (i + 1) (by omega)
  exact key (pu zs i - i) i (by have := pu_ge zs i; omega)
theorem strip_end {zs : List Int} {i : Nat} (h : zs.length ≤ i) : strip (zs.drop i) = [] := by rw [List.drop_of_length_le h]; rfl
theorem strip_at {zs : List Int} {i : Nat} (h : i < zs.length) (hc : zs.getD i 0 ≠ 95) : strip (zs.drop i) = zs.getD i 0 :: strip (zs.drop (i + 1)) := by
  rw [drop_cons zs i h, strip_cons _ hc]

theorem scan_core10 {zs : List Int} {k : Nat} (h : k < zs.length) (hc : zs.getD k 0 ≠ 95) (hz : zs.getD k 0 ≠ 48) : core (strip (zs.drop k)) = scan zs k 10 := by
  unfold scan
  rw [strip_at h hc]
  simp only [core, if_neg hz]
  rfl
theorem scan_none {zs : List Int} {k : Nat} (h : zs.length ≤ k) (base : Int) : core (strip (zs.drop k)) = scan zs k base := by
  unfold scan
  rw [strip_end h]; rfl
theorem dgt_zero8 : dgt 8 48 = true := by decide
theorem scan_core8_end {zs : List Int} {k j : Nat} (h : k < zs.length) (hz : zs.getD k 0 = 48) (hj : j = pu zs (k + 1)) (hl : zs.length ≤ j) : core (strip (zs.drop k)) = scan zs k 8 := by
  unfold scan
  rw [strip_at h (by rw [hz]; decide), strip_pu, ← hj, strip_end hl, hz]
  decide
theorem scan_core8 {zs : List Int} {k j : Nat} (h : k < zs.length) (hz : zs.getD k 0 = 48) (hj : j = pu zs (k + 1)) (hl : j < zs.length)
    (h1 : zs.getD j 0 ≠ 120) (h2 : zs.getD j 0 ≠ 88) (h3 : zs.getD j 0 ≠ 111) (h4 : zs.getD j 0 ≠ 79) (h5 : zs.getD j 0 ≠ 98) (h6 : zs.getD j 0 ≠ 66) : core (strip (zs.drop k)) = scan zs k 8 := by
  have hn : zs.getD j 0 ≠ 95 := by rw [hj]; exact pu_not (by rw [← hj]; exact hl)
  unfold scan
  rw [strip_at h (by rw [hz]; decide), strip_pu, ← hj, strip_at hl hn, hz]
  revert h1 h2 h3 h4 h5 h6
  generalize zs.getD j 0 = y
  intro h1 h2 h3 h4 h5 h6
  simp [core, h1, h2, h3, h4, h5, h6, dgt_zero8]
theorem scan_core_b {zs : List Int} {k j : Nat} {base y : Int} (h : k < zs.length) (hz : zs.getD k 0 = 48) (hj : j = pu zs (k + 1)) (hl : j < zs.length) (hy : zs.getD j 0 = y)
    (hb : (y = 120 ∨ y = 88) ∧ base = 16 ∨ (y = 111 ∨ y = 79) ∧ base = 8 ∨ (y = 98 ∨ y = 66) ∧ base = 2) : core (strip (zs.drop k)) = scan zs (j + 1) base := by
  have hn : zs.getD j 0 ≠ 95 := by rw [hj]; exact pu_not (by rw [← hj]; exact hl)
  unfold scan
  rw [strip_at h (by rw [hz]; decide), strip_pu, ← hj, strip_at hl hn, hz, hy]
  rcases hb with ⟨rfl | rfl, rfl⟩ | ⟨rfl | rfl, rfl⟩ | ⟨rfl | rfl, rfl⟩ <;> simp [core]
theorem isInt_sign {zs : List Int} (h : 0 < zs.length) (hc : zs.getD 0 0 = 43 ∨ zs.getD 0 0 = 45) : isInt zs = core (strip (zs.drop 1)) := by
  cases zs with
  | nil => simp at h
  | cons c r => simp at hc; simp [isInt, hc]
theorem isInt_digit {zs : List Int} (h : 0 < zs.length) (hc : 48 ≤ zs.getD 0 0 ∧ zs.getD 0 0 ≤ 57) : isInt zs = core (strip (zs.drop 0)) := by
  cases zs with
  | nil => simp at h
  | cons c r =>
    simp at hc
    rw [List.drop_zero]
    simp only [isInt]
    rw [if_neg (by omega), if_neg (by omega)]
theorem isInt_else {zs : List Int} (h : 0 < zs.length) (h1 : zs.getD 0 0 ≠ 43) (h2 : zs.getD 0 0 ≠ 45) (hc : zs.getD 0 0 < 48 ∨ 57 < zs.getD 0 0) : isInt zs = false := by
  cases zs with
  | nil => simp at h
  | cons c r =>
    simp at hc h1 h2
    simp only [isInt]
    rw [if_neg (by omega), if_pos hc]

/-! ### the reading loop: what it has read, and what is left -/
theorem scan_und {zs : List Int} {i : Nat} (h : i < zs.length) (hc : zs.getD i 0 = 95) : strip (zs.drop i) = strip (zs.drop (i + 1)) := by
  rw [drop_cons zs i h, hc, strip_und]
theorem scan_bad {zs : List Int} {i : Nat} {base : Int} (h : i < zs.length) (hc : zs.getD i 0 ≠ 95) (hd : ¬ dv (zs.getD i 0) < base) : (strip (zs.drop i)).all (dgt base) = false := by
  rw [strip_at h hc, List.all_cons]
  have : dgt base (zs.getD i 0) = false := decide_eq_false hd
  rw [this]; rfl
theorem scan_good {zs : List Int} {i : Nat} {base : Int} (h : i < zs.length) (hc : zs.getD i 0 ≠ 95) (hd : dv (zs.getD i 0) < base) : (strip (zs.drop i)).all (dgt base) = (strip (zs.drop (i + 1))).all (dgt base) := by
  rw [strip_at h hc, List.all_cons]
  have : dgt base (zs.getD i 0) = true := decide_eq_true hd
  rw [this]; rfl

/-! ### underscores and signs do not matter -/
theorem strip_insert (l m : List Int) : strip (l ++ 95 :: m) = strip (l ++ m) := by
  rw [strip_append, strip_und, ← strip_append]
theorem isInt_und (zs : List Int) (k : Nat) (h1 : 1 ≤ k) (h2 : k ≤ zs.length) : isInt (zs.take k ++ 95 :: zs.drop k) = isInt zs := by
  cases zs with
  | nil => simp at h2; omega
  | cons c r =>
    obtain ⟨k, rfl⟩ : ∃ j, k = j + 1 := ⟨k - 1, by omega⟩
    simp only [List.take_succ_cons, List.drop_succ_cons, List.cons_append, isInt]
    have e1 : strip (r.take k ++ 95 :: r.drop k) = strip r := by rw [strip_insert, List.take_append_drop]
    have e2 : strip (c :: (r.take k ++ 95 :: r.drop k)) = strip (c :: r) := by
      have := strip_insert (c :: r.take k) (r.drop k)
      simp only [List.cons_append, List.take_append_drop] at this
      exact this
    rw [e1, e2]
theorem isInt_flip {zs : List Int} (h : 0 < zs.length) (hc : zs.getD 0 0 = 43 ∨ zs.getD 0 0 = 45) (x : Int) (hx : x = 43 ∨ x = 45) : isInt (x :: zs.drop 1) = isInt zs := by
  rw [isInt_sign h hc]
  simp [isInt, hx]
theorem isInt_plus {zs : List Int} (h : 0 < zs.length) (hc : 48 ≤ zs.getD 0 0 ∧ zs.getD 0 0 ≤ 57) (x : Int) (hx : x = 43 ∨ x = 45) : isInt (x :: zs) = isInt zs := by
  rw [isInt_digit h hc]
  simp [isInt, hx]
end Go.Proofs.Qxb6621701a
