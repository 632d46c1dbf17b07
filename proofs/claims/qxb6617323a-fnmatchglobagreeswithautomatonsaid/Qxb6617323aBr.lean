/-
  THE PLAIN LAW of bracket expressions and of the tokens of a glob; no Go text in sight.
-/
import Derived.Test.Qxb6617323aAuto
namespace Go.Proofs.Qxb6617323a
open Go.PlainAid

/-! ### classes -/
def dg (c : Int) : Bool := decide (48 ≤ c) && decide (c ≤ 57)
def lo (c : Int) : Bool := decide (97 ≤ c) && decide (c ≤ 122)
def up (c : Int) : Bool := decide (65 ≤ c) && decide (c ≤ 90)
def gr (c : Int) : Bool := decide (33 ≤ c) && decide (c ≤ 126)
def cls (nm : List Int) : Option (Int → Bool) :=
  if nm = [97, 108, 110, 117, 109] then some fun c => dg c || lo c || up c
  else if nm = [97, 108, 112, 104, 97] then some fun c => lo c || up c
  else if nm = [98, 108, 97, 110, 107] then some fun c => c == 32 || c == 9
  else if nm = [99, 110, 116, 114, 108] then some fun c => decide (c < 32) || c == 127
  else if nm = [100, 105, 103, 105, 116] then some dg
  else if nm = [103, 114, 97, 112, 104] then some gr
  else if nm = [108, 111, 119, 101, 114] then some lo
  else if nm = [112, 114, 105, 110, 116] then some fun c => gr c || c == 32
  else if nm = [112, 117, 110, 99, 116] then some fun c => gr c && !dg c && !lo c && !up c
  else if nm = [115, 112, 97, 99, 101] then some fun c => c == 32 || c == 9 || c == 10 || c == 13
  else if nm = [117, 112, 112, 101, 114] then some up
  else if nm = [120, 100, 105, 103, 105, 116] then some fun c => dg c || (decide (97 ≤ c) && decide (c ≤ 102)) || (decide (65 ≤ c) && decide (c ≤ 70))
  else none
theorem cls_plain {nm : List Int} {C : Int → Bool} (h : cls nm = some C) : ∀ x ∈ nm, x ≠ 92 := by
  unfold cls at h
  intro x hx e
  subst e
  by_cases h1 : nm = [97, 108, 110, 117, 109]
  · rw [h1] at hx; simp at hx
  rw [if_neg h1] at h
  by_cases h2 : nm = [97, 108, 112, 104, 97]
  · rw [h2] at hx; simp at hx
  rw [if_neg h2] at h
  by_cases h3 : nm = [98, 108, 97, 110, 107]
  · rw [h3] at hx; simp at hx
  rw [if_neg h3] at h
  by_cases h4 : nm = [99, 110, 116, 114, 108]
  · rw [h4] at hx; simp at hx
  rw [if_neg h4] at h
  by_cases h5 : nm = [100, 105, 103, 105, 116]
  · rw [h5] at hx; simp at hx
  rw [if_neg h5] at h
  by_cases h6 : nm = [103, 114, 97, 112, 104]
  · rw [h6] at hx; simp at hx
  rw [if_neg h6] at h
  by_cases h7 : nm = [108, 111, 119, 101, 114]
  · rw [h7] at hx; simp at hx
  rw [if_neg h7] at h
  by_cases h8 : nm = [112, 114, 105, 110, 116]
  · rw [h8] at hx; simp at hx
  rw [if_neg h8] at h
  by_cases h9 : nm = [112, 117, 110, 99, 116]
  · rw [h9] at hx; simp at hx
  rw [if_neg h9] at h
  by_cases h10 : nm = [115, 112, 97, 99, 101]
  · rw [h10] at hx; simp at hx
  rw [if_neg h10] at h
  by_cases h11 : nm = [117, 112, 112, 101, 114]
  · rw [h11] at hx; simp at hx
  rw [if_neg h11] at h
  by_cases h12 : nm = [120, 100, 105, 103, 105, 116]
  · rw [h12] at hx; simp at hx
  rw [if_neg h12] at h
  cases h

/-! ### the next closing bracket -/
def nxtB (zs : List Int) (k : Nat) : Nat := k + ((zs.drop k).takeWhile (· != 93)).length
theorem nxtB_ge (zs : List Int) (k : Nat) : k ≤ nxtB zs k := by unfold nxtB; omega
theorem nxtB_end {zs : List Int} {k : Nat} (h : zs.length ≤ k) : nxtB zs k = k := by
  unfold nxtB; rw [List.drop_of_length_le h]; rfl
theorem nxtB_stop {zs : List Int} {k : Nat} (h : k < zs.length) (hc : zs.getD k 0 = 93) : nxtB zs k = k := by
  unfold nxtB; rw [drop_cons zs k h, List.takeWhile_cons_of_neg (by simpa using hc)]; rfl
theorem nxtB_step {zs : List Int} {k : Nat} (h : k < zs.length) (hc : zs.getD k 0 ≠ 93) : nxtB zs k = nxtB zs (k + 1) := by
  unfold nxtB; rw [drop_cons zs k h, List.takeWhile_cons_of_pos (by simpa using hc)]; simp; omega
theorem nxtB_le (zs : List Int) (k : Nat) (h : k ≤ zs.length) : nxtB zs k ≤ zs.length := by
  unfold nxtB
  have := List.takeWhile_sublist (p := (· != 93)) (l := zs.drop k)
  have h2 := this.length_le
  rw [List.length_drop] at h2
  omega
theorem nxtB_is {zs : List Int} {k : Nat} (h : nxtB zs k < zs.length) : zs.getD (nxtB zs k) 0 = 93 := by
  have key : ∀ d k, zs.length ≤ k + d → nxtB zs k < zs.length → zs.getD (nxtB zs k) 0 = 93 := by
    intro d
    induction d with
    | zero => intro k e h; rw [nxtB_end (by omega)] at h; omega
    | succ d ih =>
      intro k e h
      by_cases hk : k < zs.length
      · by_cases hc : zs.getD k 0 = 93
        · rw [nxtB_stop hk hc]; exact hc
        · rw [nxtB_step hk hc] at h ⊢
          exact ih (k + 1) (by omega) h
      · rw [nxtB_end (by omega)] at h; omega
  exact key zs.length k (by omega) h

/-! ### the expression -/
def addB (S : Int → Bool) (b : Int) : Int → Bool := fun c => S c || c == b
def addR (S : Int → Bool) (l h : Int) : Int → Bool := fun c => S c || (decide (l ≤ c) && decide (c ≤ h))
def addC (S C : Int → Bool) : Int → Bool := fun c => S c || C c
/-- The name between the colons that begins at g. -/
def nameAt (zs : List Int) (g : Nat) : List Int := (zs.take (nxtB zs (g + 2) - 1)).drop (g + 2)
abbrev isRng (zs : List Int) (g : Nat) (low : Int) : Prop := zs.getD g 0 = 45 ∧ 0 ≤ low ∧ g + 1 < zs.length ∧ zs.getD (g + 1) 0 ≠ 93
abbrev isCls (zs : List Int) (g : Nat) : Prop := zs.getD g 0 = 91 ∧ g + 1 < zs.length ∧ zs.getD (g + 1) 0 = 58
abbrev isName (zs : List Int) (g : Nat) : Prop := g + 2 < nxtB zs (g + 2) ∧ zs.getD (nxtB zs (g + 2) - 1) 0 = 58
/-- The bytes that the expression names, and the place behind it; none where it is not closed or bears an unknown name. -/
def brF (zs : List Int) (neg : Bool) : Nat → Nat → Bool → Int → (Int → Bool) → Option ((Int → Bool) × Nat)
  | 0, _, _, _, _ => none
  | f + 1, g, first, low, S =>
    if zs.length ≤ g then none
    else if zs.getD g 0 = 93 ∧ first = false then some (fun c => S c != neg, g + 1)
    else if zs.getD g 0 = 92 then (if zs.length ≤ g + 1 then none else brF zs neg f (g + 2) false (zs.getD (g + 1) 0) (addB S (zs.getD (g + 1) 0)))
    else if isRng zs g low then
      (if zs.getD (g + 1) 0 = 92 then (if zs.length ≤ g + 2 then none else brF zs neg f (g + 3) false (-1) (addR S low (zs.getD (g + 2) 0)))
       else brF zs neg f (g + 2) false (-1) (addR S low (zs.getD (g + 1) 0)))
    else if isCls zs g then
      (if zs.length ≤ nxtB zs (g + 2) then none
       else if isName zs g then (match cls (nameAt zs g) with | none => none | some C => brF zs neg f (nxtB zs (g + 2) + 1) false (-1) (addC S C))
       else brF zs neg f (g + 1) false 91 (addB S 91))
    else brF zs neg f (g + 1) false (zs.getD g 0) (addB S (zs.getD g 0))

section
variable {zs : List Int} {neg : Bool} {f g : Nat} {first : Bool} {low : Int} {S : Int → Bool}
theorem br_end (h : zs.length ≤ g) : brF zs neg (f + 1) g first low S = none := by
  simp only [brF]; rw [if_pos h]
theorem br_close (h : g < zs.length) (h1 : zs.getD g 0 = 93) (h2 : first = false) : brF zs neg (f + 1) g first low S = some (fun c => S c != neg, g + 1) := by
  simp only [brF]; rw [if_neg (by omega), if_pos ⟨h1, h2⟩]
theorem br_esc (h : g + 1 < zs.length) (h1 : zs.getD g 0 = 92) : brF zs neg (f + 1) g first low S = brF zs neg f (g + 2) false (zs.getD (g + 1) 0) (addB S (zs.getD (g + 1) 0)) := by
  simp only [brF]; rw [if_neg (by omega), if_neg (by rw [h1]; intro h; exact absurd h.1 (by decide)), if_pos h1, if_neg (by omega)]
theorem br_esc_end (h : g + 1 = zs.length) (h1 : zs.getD g 0 = 92) : brF zs neg (f + 1) g first low S = none := by
  simp only [brF]; rw [if_neg (by omega), if_neg (by rw [h1]; intro h; exact absurd h.1 (by decide)), if_pos h1, if_pos (by omega)]
theorem br_rng (h : isRng zs g low) (h1 : zs.getD (g + 1) 0 ≠ 92) : brF zs neg (f + 1) g first low S = brF zs neg f (g + 2) false (-1) (addR S low (zs.getD (g + 1) 0)) := by
  have h' := h
  obtain ⟨a, b, c, d⟩ := h'
  simp only [brF]; rw [if_neg (by omega), if_neg (by rw [a]; intro h; exact absurd h.1 (by decide)), if_neg (by rw [a]; decide), if_pos h, if_neg h1]
theorem br_rng_esc (h : isRng zs g low) (h1 : zs.getD (g + 1) 0 = 92) (h2 : g + 2 < zs.length) : brF zs neg (f + 1) g first low S = brF zs neg f (g + 3) false (-1) (addR S low (zs.getD (g + 2) 0)) := by
  have h' := h
  obtain ⟨a, b, c, d⟩ := h'
  simp only [brF]; rw [if_neg (by omega), if_neg (by rw [a]; intro h; exact absurd h.1 (by decide)), if_neg (by rw [a]; decide), if_pos h, if_pos h1, if_neg (by omega)]
theorem br_rng_end (h : isRng zs g low) (h1 : zs.getD (g + 1) 0 = 92) (h2 : g + 2 = zs.length) : brF zs neg (f + 1) g first low S = none := by
  have h' := h
  obtain ⟨a, b, c, d⟩ := h'
  simp only [brF]; rw [if_neg (by omega), if_neg (by rw [a]; intro h; exact absurd h.1 (by decide)), if_neg (by rw [a]; decide), if_pos h, if_pos h1, if_pos (by omega)]
theorem not_rng (h : zs.getD g 0 ≠ 45) : ¬ isRng zs g low := fun h' => h h'.1
theorem br_cls_open (h : isCls zs g) (h1 : zs.length ≤ nxtB zs (g + 2)) : brF zs neg (f + 1) g first low S = none := by
  have h' := h
  obtain ⟨a, b, c⟩ := h'
  simp only [brF]; rw [if_neg (by omega), if_neg (by rw [a]; intro h; exact absurd h.1 (by decide)), if_neg (by rw [a]; decide), if_neg (not_rng (by rw [a]; decide)), if_pos h, if_pos h1]
theorem br_cls_bad (h : isCls zs g) (h1 : nxtB zs (g + 2) < zs.length) (h2 : isName zs g) (h3 : cls (nameAt zs g) = none) : brF zs neg (f + 1) g first low S = none := by
  have h' := h
  obtain ⟨a, b, c⟩ := h'
  simp only [brF]; rw [if_neg (by omega), if_neg (by rw [a]; intro h; exact absurd h.1 (by decide)), if_neg (by rw [a]; decide), if_neg (not_rng (by rw [a]; decide)), if_pos h, if_neg (by omega), if_pos h2, h3]
theorem br_cls {C : Int → Bool} (h : isCls zs g) (h1 : nxtB zs (g + 2) < zs.length) (h2 : isName zs g) (h3 : cls (nameAt zs g) = some C) : brF zs neg (f + 1) g first low S = brF zs neg f (nxtB zs (g + 2) + 1) false (-1) (addC S C) := by
  have h' := h
  obtain ⟨a, b, c⟩ := h'
  simp only [brF]; rw [if_neg (by omega), if_neg (by rw [a]; intro h; exact absurd h.1 (by decide)), if_neg (by rw [a]; decide), if_neg (not_rng (by rw [a]; decide)), if_pos h, if_neg (by omega), if_pos h2, h3]
theorem br_cls_not (h : isCls zs g) (h1 : nxtB zs (g + 2) < zs.length) (h2 : ¬ isName zs g) : brF zs neg (f + 1) g first low S = brF zs neg f (g + 1) false 91 (addB S 91) := by
  have h' := h
  obtain ⟨a, b, c⟩ := h'
  simp only [brF]; rw [if_neg (by omega), if_neg (by rw [a]; intro h; exact absurd h.1 (by decide)), if_neg (by rw [a]; decide), if_neg (not_rng (by rw [a]; decide)), if_pos h, if_neg (by omega), if_neg h2]
theorem br_lit (h : g < zs.length) (h1 : ¬ (zs.getD g 0 = 93 ∧ first = false)) (h2 : zs.getD g 0 ≠ 92) (h3 : ¬ isRng zs g low) (h4 : ¬ isCls zs g) : brF zs neg (f + 1) g first low S = brF zs neg f (g + 1) false (zs.getD g 0) (addB S (zs.getD g 0)) := by
  simp only [brF]; rw [if_neg (by omega), if_neg h1, if_neg h2, if_neg h3, if_neg h4]
end

/-- Is the expression negated? -/
abbrev isNeg (zs : List Int) (g : Nat) : Prop := g + 1 < zs.length ∧ (zs.getD (g + 1) 0 = 33 ∨ zs.getD (g + 1) 0 = 94)
/-- The expression that opens at g. -/
def Br (zs : List Int) (g : Nat) : Option ((Int → Bool) × Nat) :=
  if isNeg zs g then brF zs true (zs.length + 2) (g + 2) true (-1) (fun _ => false) else brF zs false (zs.length + 2) (g + 1) true (-1) (fun _ => false)

/-! ### lone backslashes -/
def lbL : List Int → Bool
  | [] => false
  | [x] => decide (x = 92)
  | x :: y :: l => if x = 92 then lbL l else lbL (y :: l)
def lb (zs : List Int) (g : Nat) : Bool := lbL (zs.drop g)
theorem lb_end {zs : List Int} {g : Nat} (h : zs.length ≤ g) : lb zs g = false := by
  unfold lb; rw [List.drop_of_length_le h]; rfl
theorem lb_esc {zs : List Int} {g : Nat} (h : g + 1 < zs.length) (hc : zs.getD g 0 = 92) : lb zs g = lb zs (g + 2) := by
  unfold lb
  rw [drop_cons zs g (by omega), drop_cons zs (g + 1) h, hc]
  simp [lbL]
theorem lb_lone {zs : List Int} {g : Nat} (h : g + 1 = zs.length) (hc : zs.getD g 0 = 92) : lb zs g = true := by
  unfold lb
  rw [drop_cons zs g (by omega), List.drop_of_length_le (by omega), hc]
  simp [lbL]
theorem lb_other {zs : List Int} {g : Nat} (h : g < zs.length) (hc : zs.getD g 0 ≠ 92) : lb zs g = lb zs (g + 1) := by
  unfold lb
  rw [drop_cons zs g h]
  revert hc
  generalize zs.getD g 0 = x
  intro hc
  by_cases h1 : g + 1 < zs.length
  · rw [drop_cons zs (g + 1) h1]; simp [lbL, hc]
  · rw [List.drop_of_length_le (by omega)]; simp [lbL, hc]
theorem lb_run {zs : List Int} {g k : Nat} (h : g ≤ k) (hk : k ≤ zs.length) (hc : ∀ i, g ≤ i → i < k → zs.getD i 0 ≠ 92) : lb zs g = lb zs k := by
  have key : ∀ d g, g + d = k → (∀ i, g ≤ i → i < k → zs.getD i 0 ≠ 92) → lb zs g = lb zs k := by
    intro d
    induction d with
    | zero => intro g e _; rw [show g = k from by omega]
    | succ d ih =>
      intro g e hc
      rw [lb_other (by omega) (hc g (Nat.le_refl _) (by omega))]
      exact ih (g + 1) (by omega) (fun i h1 h2 => hc i (by omega) h2)
  exact key (k - g) g (by omega) hc
/-- An expression's end is where the reading of backslashes comes along, too. -/
theorem br_aligned (zs : List Int) (neg : Bool) (f : Nat) : ∀ g first low S R e, brF zs neg f g first low S = some (R, e) → g < e ∧ e ≤ zs.length ∧ lb zs g = lb zs e := by
  induction f with
  | zero => intro g first low S R e h; cases h
  | succ f ih =>
    intro g first low S R e h
    by_cases hl : zs.length ≤ g
    · rw [br_end hl] at h; cases h
    by_cases hc : zs.getD g 0 = 93 ∧ first = false
    · rw [br_close (by omega) hc.1 hc.2] at h
      simp only [Option.some.injEq, Prod.mk.injEq] at h
      obtain ⟨_, rfl⟩ := h
      exact ⟨by omega, by omega, lb_other (by omega) (by rw [hc.1]; decide)⟩
    by_cases h92 : zs.getD g 0 = 92
    · by_cases hl1 : g + 1 = zs.length
      · rw [br_esc_end hl1 h92] at h; cases h
      · rw [br_esc (by omega) h92] at h
        obtain ⟨a, b, c⟩ := ih _ _ _ _ _ _ h
        exact ⟨by omega, b, by rw [lb_esc (by omega) h92, c]⟩
    by_cases hr : isRng zs g low
    · obtain ⟨r1, r2, r3, r4⟩ := hr
      have e1 : lb zs g = lb zs (g + 1) := lb_other (by omega) h92
      by_cases he : zs.getD (g + 1) 0 = 92
      · by_cases hl2 : g + 2 = zs.length
        · rw [br_rng_end ⟨r1, r2, r3, r4⟩ he hl2] at h; cases h
        · rw [br_rng_esc ⟨r1, r2, r3, r4⟩ he (by omega)] at h
          obtain ⟨a, b, c⟩ := ih _ _ _ _ _ _ h
          exact ⟨by omega, b, by rw [e1, lb_esc (by omega) he, c]⟩
      · rw [br_rng ⟨r1, r2, r3, r4⟩ he] at h
        obtain ⟨a, b, c⟩ := ih _ _ _ _ _ _ h
        exact ⟨by omega, b, by rw [e1, lb_other r3 he, c]⟩
    by_cases hk : isCls zs g
    · by_cases ho : zs.length ≤ nxtB zs (g + 2)
      · rw [br_cls_open hk ho] at h; cases h
      · by_cases hn : isName zs g
        · cases hcl : cls (nameAt zs g) with
          | none => rw [br_cls_bad hk (by omega) hn hcl] at h; cases h
          | some C =>
            rw [br_cls hk (by omega) hn hcl] at h
            obtain ⟨a, b, c⟩ := ih _ _ _ _ _ _ h
            obtain ⟨k1, k2, k3⟩ := hk
            obtain ⟨n1, n2⟩ := hn
            refine ⟨by omega, b, ?_⟩
            rw [← c]
            refine lb_run (by omega) (by omega) (fun i h1 h2 => ?_)
            have hp := cls_plain hcl
            by_cases i0 : i = g
            · rw [i0]; exact h92
            by_cases i1 : i = g + 1
            · rw [i1, k3]; decide
            by_cases i2 : i = nxtB zs (g + 2)
            · rw [i2, nxtB_is (by omega)]; decide
            by_cases i3 : i = nxtB zs (g + 2) - 1
            · rw [i3, n2]; decide
            refine hp _ ?_
            unfold nameAt
            rw [List.mem_iff_getElem]
            refine ⟨i - (g + 2), by simp; omega, ?_⟩
            rw [List.getElem_drop, List.getElem_take, List.getD_eq_getElem?_getD]
            have : g + 2 + (i - (g + 2)) = i := by omega
            rw [List.getElem?_eq_getElem (by omega)]
            simp [this]
        · rw [br_cls_not hk (by omega) hn] at h
          obtain ⟨a, b, c⟩ := ih _ _ _ _ _ _ h
          exact ⟨by omega, b, by rw [lb_other (by omega) h92, c]⟩
    · rw [br_lit (by omega) hc h92 hr hk] at h
      obtain ⟨a, b, c⟩ := ih _ _ _ _ _ _ h
      exact ⟨by omega, b, by rw [lb_other (by omega) h92, c]⟩
theorem Br_aligned {zs : List Int} {g e : Nat} {R : Int → Bool} (hg : g < zs.length) (h91 : zs.getD g 0 = 91) (h : Br zs g = some (R, e)) : g < e ∧ e ≤ zs.length ∧ lb zs g = lb zs e := by
  have e1 : lb zs g = lb zs (g + 1) := lb_other hg (by rw [h91]; decide)
  unfold Br at h
  by_cases hn : isNeg zs g
  · rw [if_pos hn] at h
    obtain ⟨a, b, c⟩ := br_aligned zs _ _ _ _ _ _ _ _ h
    obtain ⟨n1, n2⟩ := hn
    exact ⟨by omega, b, by rw [e1, lb_other n1 (by omega), c]⟩
  · rw [if_neg hn] at h
    obtain ⟨a, b, c⟩ := br_aligned zs _ _ _ _ _ _ _ _ h
    exact ⟨by omega, b, by rw [e1, c]⟩
end Go.Proofs.Qxb6617323a
