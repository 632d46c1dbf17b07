/-
  THE PLAIN LAW of a glob's tokens; no Go text in sight.
-/
import Derived.Test.Qxb6617323aBr
namespace Go.Proofs.Qxb6617323a
open Go.PlainAid

/-- The tokens from place g on. -/
def tkF (zs : List Int) : Nat → Nat → List Tok
  | 0, _ => []
  | f + 1, g =>
    if zs.length ≤ g then []
    else if zs.getD g 0 = 42 then none :: tkF zs f (g + 1)
    else if zs.getD g 0 = 63 then some (fun _ => true) :: tkF zs f (g + 1)
    else if zs.getD g 0 = 92 then (if zs.length ≤ g + 1 then [noTok] else some (fun c => zs.getD (g + 1) 0 == c) :: tkF zs f (g + 2))
    else if zs.getD g 0 = 91 then (match Br zs g with | none => [noTok] | some (S, e) => some S :: tkF zs f e)
    else some (fun c => zs.getD g 0 == c) :: tkF zs f (g + 1)

section
variable {zs : List Int} {f g : Nat}
theorem tk_end (h : zs.length ≤ g) : tkF zs (f + 1) g = [] := by simp only [tkF]; rw [if_pos h]
theorem tk_star (h : g < zs.length) (h1 : zs.getD g 0 = 42) : tkF zs (f + 1) g = none :: tkF zs f (g + 1) := by
  simp only [tkF]; rw [if_neg (by omega), if_pos h1]
theorem tk_q (h : g < zs.length) (h1 : zs.getD g 0 = 63) : tkF zs (f + 1) g = some (fun _ => true) :: tkF zs f (g + 1) := by
  simp only [tkF]; rw [if_neg (by omega), if_neg (by omega), if_pos h1]
theorem tk_esc (h : g + 1 < zs.length) (h1 : zs.getD g 0 = 92) : tkF zs (f + 1) g = some (fun c => zs.getD (g + 1) 0 == c) :: tkF zs f (g + 2) := by
  simp only [tkF]; rw [if_neg (by omega), if_neg (by omega), if_neg (by omega), if_pos h1, if_neg (by omega)]
theorem tk_esc_end (h : g + 1 = zs.length) (h1 : zs.getD g 0 = 92) : tkF zs (f + 1) g = [noTok] := by
  simp only [tkF]; rw [if_neg (by omega), if_neg (by omega), if_neg (by omega), if_pos h1, if_pos (by omega)]
theorem tk_br {S : Int → Bool} {e : Nat} (h : g < zs.length) (h1 : zs.getD g 0 = 91) (h2 : Br zs g = some (S, e)) : tkF zs (f + 1) g = some S :: tkF zs f e := by
  simp only [tkF]; rw [if_neg (by omega), if_neg (by omega), if_neg (by omega), if_neg (by omega), if_pos h1, h2]
theorem tk_br_no (h : g < zs.length) (h1 : zs.getD g 0 = 91) (h2 : Br zs g = none) : tkF zs (f + 1) g = [noTok] := by
  simp only [tkF]; rw [if_neg (by omega), if_neg (by omega), if_neg (by omega), if_neg (by omega), if_pos h1, h2]
theorem tk_lit (h : g < zs.length) (h1 : zs.getD g 0 ≠ 42) (h2 : zs.getD g 0 ≠ 63) (h3 : zs.getD g 0 ≠ 92) (h4 : zs.getD g 0 ≠ 91) : tkF zs (f + 1) g = some (fun c => zs.getD g 0 == c) :: tkF zs f (g + 1) := by
  simp only [tkF]; rw [if_neg (by omega), if_neg h1, if_neg h2, if_neg h3, if_neg h4]
end
theorem tk_fuel (zs : List Int) (f : Nat) : ∀ f' g, zs.length < g + f → zs.length < g + f' → tkF zs f g = tkF zs f' g := by
  induction f with
  | zero =>
    intro f' g h1 h2
    cases f' with
    | zero => rfl
    | succ f' => rw [tk_end (by omega)]; rfl
  | succ f ih =>
    intro f' g h1 h2
    cases f' with
    | zero => rw [tk_end (by omega)]; rfl
    | succ f' =>
      by_cases hl : zs.length ≤ g
      · rw [tk_end hl, tk_end hl]
      by_cases c1 : zs.getD g 0 = 42
      · rw [tk_star (by omega) c1, tk_star (by omega) c1, ih f' (g + 1) (by omega) (by omega)]
      by_cases c2 : zs.getD g 0 = 63
      · rw [tk_q (by omega) c2, tk_q (by omega) c2, ih f' (g + 1) (by omega) (by omega)]
      by_cases c3 : zs.getD g 0 = 92
      · by_cases h : g + 1 = zs.length
        · rw [tk_esc_end h c3, tk_esc_end h c3]
        · rw [tk_esc (by omega) c3, tk_esc (by omega) c3, ih f' (g + 2) (by omega) (by omega)]
      by_cases c4 : zs.getD g 0 = 91
      · cases hb : Br zs g with
        | none => rw [tk_br_no (by omega) c4 hb, tk_br_no (by omega) c4 hb]
        | some p =>
          obtain ⟨S, e⟩ := p
          have ha := Br_aligned (by omega) c4 hb
          rw [tk_br (by omega) c4 hb, tk_br (by omega) c4 hb, ih f' e (by omega) (by omega)]
      · rw [tk_lit (by omega) c1 c2 c3 c4, tk_lit (by omega) c1 c2 c3 c4, ih f' (g + 1) (by omega) (by omega)]
/-- The tokens from place g on, whatever the fuel. -/
def TK (zs : List Int) (g : Nat) : List Tok := tkF zs (zs.length + 1) g
theorem TK_of {zs : List Int} {f g : Nat} (h : zs.length < g + f) : tkF zs f g = TK zs g := tk_fuel zs f (zs.length + 1) g h (by omega)
theorem tk_len (zs : List Int) (f : Nat) : ∀ g, (tkF zs f g).length ≤ f := by
  induction f with
  | zero => intro g; simp [tkF]
  | succ f ih =>
    intro g
    simp only [tkF]
    split
    · simp
    split
    · simpa using ih (g + 1)
    split
    · simpa using ih (g + 1)
    split
    · split
      · simp
      · simpa using ih (g + 2)
    split
    · split
      · simp
      · rename_i S e _; simpa using ih e
    · simpa using ih (g + 1)
end Go.Proofs.Qxb6617323a
