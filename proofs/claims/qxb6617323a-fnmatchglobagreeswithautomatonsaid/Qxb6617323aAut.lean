/-
  THE ROWS OF THE AUTOMATON IN MEMORY; zzSkipStars.
-/
import Derived.Test.Qxb6617323aTokens
import Derived.OneCell
import Derived.Laws.OwnMore
import Derived.Deep.OwnRows
namespace Go.Proofs.Qxb6617323a
open Go.RowKit Go.PlainAid
set_option linter.unusedVariables false

/-! ### a row of bools -/
def rowA (m : Nat) (f : Nat → Bool) : Array Value := ((List.range m).map fun k => Value.bool (f k)).toArray
theorem rowA_size (m : Nat) (f : Nat → Bool) : (rowA m f).size = m := by simp [rowA]
theorem rowA_get (m : Nat) (f : Nat → Bool) (k : Nat) (h : k < m) : (rowA m f)[k]? = some (.bool (f k)) := by simp [rowA, h]
theorem rowA_congr {m : Nat} {f g : Nat → Bool} (h : ∀ k, k < m → f k = g k) : rowA m f = rowA m g := by
  unfold rowA
  congr 1
  apply List.map_congr_left
  intro k hk
  rw [h k (by simpa using hk)]
theorem rowA_set (m : Nat) (f : Nat → Bool) (k : Nat) (u : Bool) : (rowA m f).setIfInBounds k (.bool u) = rowA m (fun j => if j = k then u else f j) := by
  apply Array.ext_getElem?
  intro i
  rw [Array.getElem?_setIfInBounds]
  by_cases h : i < m
  · rw [rowA_get m (fun j => if j = k then u else f j) i h]
    by_cases e : k = i
    · subst e; rw [if_pos rfl, if_pos (by rw [rowA_size]; exact h), if_pos rfl]
    · rw [if_neg e, rowA_get m f i h, if_neg (by omega)]
  · rw [Array.getElem?_eq_none (xs := rowA m fun j => if j = k then u else f j) (by rw [rowA_size]; omega)]
    by_cases e : k = i
    · rw [if_pos e, if_neg (by rw [rowA_size]; omega)]
    · rw [if_neg e, Array.getElem?_eq_none (by rw [rowA_size]; omega)]
theorem made_row (m : Nat) : madeCells #[.bool false] m = rowA m fun _ => false := by
  apply Array.ext_getElem?
  intro i
  by_cases h : i < m
  · rw [rowA_get _ _ _ h]
    simp [madeCells, h, Nat.mod_one]
  · rw [Array.getElem?_eq_none (by rw [size_madeCells]; omega), Array.getElem?_eq_none (by rw [rowA_size]; omega)]
def BoolRow (W : World) (b m : Nat) (f : Nat → Bool) : Prop := W.heap[b]? = some (.cells (rowA m f) 4 (0, 0))
theorem BoolRow.cell {W : World} {b m : Nat} {f : Nat → Bool} (h : BoolRow W b m f) (k : Nat) (hk : k < m) : W.cell? ⟨b, k, none⟩ = some (.bool (f k)) := by
  rw [cell_of_row _ _ k _ _ _ h, rowA_get _ _ _ hk]
theorem BoolRow.froz {W : World} {b m : Nat} {f : Nat → Bool} (h : BoolRow W b m f) (k : Nat) : W.frozen? ⟨b, k, none⟩ = false := by
  unfold BoolRow at h; simp [World.frozen?, h]

/-! ### the tokens read -/
theorem flat_get (TL : List Tok) : ∀ k j, k < TL.length → j < 257 → (TL.flatMap tokL)[k * 257 + j]? = (tokL (tokAt TL k))[j]? := by
  induction TL with
  | nil => intro k j h; cases h
  | cons t TL ih =>
    intro k j hk hj
    rw [List.flatMap_cons]
    cases k with
    | zero =>
      rw [Nat.zero_mul, Nat.zero_add, List.getElem?_append_left (by rw [tokL_length]; exact hj)]
      rfl
    | succ k =>
      rw [List.getElem?_append_right (by rw [tokL_length]; omega), tokL_length]
      have e : (k + 1) * 257 + j - 257 = k * 257 + j := by omega
      rw [e, ih k j (by simpa using hk) hj]
      rfl
theorem tokL_zero (t : Tok) : (tokL t)[0]? = some (.bool t.isNone) := by cases t <;> rfl
theorem tokL_succ (t : Tok) (c : Int) (h0 : 0 ≤ c) (h1 : c ≤ 255) : (tokL t)[1 + c.toNat]? = some (.bool (setOf t c)) := by
  have key : ∀ s S, (tokC s S)[1 + c.toNat]? = some (.bool (S c)) := by
    intro s S
    rw [Nat.add_comm]
    show (boolL S)[c.toNat]? = _
    have := arrB_at S c h0 h1
    unfold arrB at this
    simpa using this
  cases t <;> exact key _ _

/-- The automaton's memory: the tokens, the row x, the row y. -/
structure Aut (w W : World) (v : Value) (TL : List Tok) (m x y : Nat) (f g : Nat → Bool) : Prop where
  tk : Toks w W v TL
  rx : BoolRow W x m f
  ry : BoolRow W y m g
  ne : x ≠ y
  bx : w.heap.size ≤ x
  be : w.heap.size ≤ y
  ox : v.ownBlock ≠ some x
  oy : v.ownBlock ≠ some y
section
variable {w W : World} {v : Value} {TL : List Tok} {m x y : Nat} {f g g' : Nat → Bool}
theorem Aut.swap (h : Aut w W v TL m x y f g) : Aut w W v TL m y x g f := ⟨h.tk, h.ry, h.rx, h.ne.symm, h.be, h.bx, h.oy, h.ox⟩
theorem Aut.congr (h : Aut w W v TL m x y f g) (e : ∀ k, k < m → g k = g' k) : Aut w W v TL m x y f g' :=
  ⟨h.tk, h.rx, (by have := h.ry; unfold BoolRow at this ⊢; rw [← rowA_congr e]; exact this), h.ne, h.bx, h.be, h.ox, h.oy⟩
theorem Aut.setY (h : Aut w W v TL m x y f g) (k : Nat) (u : Bool) : Aut w (W.setCell ⟨y, k, none⟩ (.bool u)) v TL m x y f (fun j => if j = k then u else g j) := by
  have e := setCell_eq_setRow W y k (rowA m g) 4 (0, 0) (.bool u) h.ry
  refine ⟨⟨ownsRow_setCell_other h.tk.own h.oy _, h.tk.bel.setCell h.be _⟩, ?_, ?_, h.ne, h.bx, h.be, h.ox, h.oy⟩
  · unfold BoolRow; rw [e, setRow_other _ _ _ _ h.ne]; exact h.rx
  · unfold BoolRow; rw [e, ← rowA_set]; exact setRow_heap W y _ _ _ _ h.ry
theorem Aut.star {a : Option Addr} {cap : Nat} (h : Aut w W (.slice a TL.length cap) TL m x y f g) {q : Nat} (ha : a = some ⟨q, 0, none⟩) (k : Nat) (hk : k < TL.length) : W.cell? ⟨q, k * 257, none⟩ = some (.bool (starAt TL k)) := by
  subst ha
  rw [h.tk.own.cellAt (k * 257) (by omega)]
  have := flat_get TL k 0 hk (by omega)
  rw [Nat.add_zero] at this
  rw [this, tokL_zero]; rfl
theorem Aut.set {a : Option Addr} {cap : Nat} (h : Aut w W (.slice a TL.length cap) TL m x y f g) {q : Nat} (ha : a = some ⟨q, 0, none⟩) (k : Nat) (hk : k < TL.length) (c : Int) (h0 : 0 ≤ c) (h1 : c ≤ 255) : W.cell? ⟨q, k * 257 + (1 + c.toNat), none⟩ = some (.bool (setAt TL k c)) := by
  subst ha
  rw [h.tk.own.cellAt (k * 257 + (1 + c.toNat)) (by omega), flat_get TL k (1 + c.toNat) hk (by omega), tokL_succ _ _ h0 h1]; rfl
end

set_option maxRecDepth 100000 in
set_option maxHeartbeats 1000000 in
theorem skip_any (w W : World) (a : Option Addr) (cap n m x y q : Nat) (TL : List Tok) (f g : Nat → Bool) (hn : TL.length = n) (hm : n < m) (hm2 : m ≤ n + 1) (hlen : n ≤ 1048577) (ha : 0 < n → a = some ⟨q, 0, none⟩)
    (hA : Aut w W (.slice a TL.length cap) TL m x y f g) :
    Calls Try.prog 22 #[.slice a n cap, .slice (some ⟨y, 0, none⟩) m m] W fun e w' => e = .returned (.tuple #[]) ∧ Aut w w' (.slice a TL.length cap) TL m x y f (skB TL g) := by
  have HA : Hid (Aut w W (.slice a TL.length cap) TL m x y f g) := hA
  have HN : Hid (TL.length = n) := hn
  have HQ : Hid (0 < n → a = some ⟨q, 0, none⟩) := ha
  clear hA hn ha
  go_enter Try.func22, Try.ntmps22
  go_wp2_with fail
  go_loopg [4] (n + 1) (fun d v4 wr => ∃ k : Nat, v4 = .int .i64 k ∧ k ≤ n ∧ n < k + d ∧ Aut w wr (.slice a TL.length cap) TL m x y f (fun j => if j ≤ k then skB TL g j else g j))
  case atStart => exact ⟨0, rfl, by omega, by omega, HA.out.congr fun k hk => by
    by_cases e : k ≤ 0
    · have : k = 0 := by omega
      subst this; rw [if_pos (Nat.le_refl _)]; rfl
    · rw [if_neg e]⟩
  case round =>
    obtain ⟨k, rfl, hk, hd, hA⟩ := hrel
    obtain ⟨d, rfl⟩ : ∃ d, gk = d + 1 := ⟨gk - 1, by omega⟩
    have HB : Hid (Aut w wr (.slice a TL.length cap) TL m x y f (fun j => if j ≤ k then skB TL g j else g j)) := hA
    clear hA HA
    by_cases hkn : k < n
    · have hkz : (k : Int) < (n : Int) := by omega
      have hkm : (k : Int) < (m : Int) := by omega
      have hkm2 : (k : Int) + 1 < (m : Int) := by omega
      obtain rfl := HQ.out (by omega)
      obtain ⟨lv, hlv⟩ : ∃ lv, lv = skB TL g k := ⟨_, rfl⟩
      obtain ⟨sr, hsr⟩ : ∃ sr, sr = starAt TL k := ⟨_, rfl⟩
      have c1 : wr.cell? ⟨y, k, none⟩ = some (.bool lv) := by rw [HB.out.ry.cell k (by omega), if_pos (Nat.le_refl _), hlv]
      have c2 : wr.cell? ⟨q, k * 257, none⟩ = some (.bool sr) := by rw [HB.out.star rfl k (by rw [HN.out]; exact hkn), hsr]
      have c3 : wr.cell? ⟨y, k + 1, none⟩ = some (.bool (g (k + 1))) := by rw [HB.out.ry.cell (k + 1) (by omega), if_neg (by omega)]
      have c4 := HB.out.ry.froz (k + 1)
      have HLV : Hid (lv = skB TL g k) := hlv
      have HSR : Hid (sr = starAt TL k) := hsr
      clear hlv hsr
      cases lv with
      | false =>
        have HX : Hid (Aut w wr (.slice (some ⟨q, 0, none⟩) TL.length cap) TL m x y f (fun j => if j ≤ k + 1 then skB TL g j else g j)) := HB.out.congr fun j hj => by
          by_cases e : j = k + 1
          · subst e
            rw [if_neg (by omega), if_pos (Nat.le_refl _)]
            show _ = (g (k + 1) || (skB TL g k && starAt TL k))
            rw [← HLV.out]; simp
          · by_cases e2 : j ≤ k
            · rw [if_pos e2, if_pos (by omega)]
            · rw [if_neg e2, if_neg (by omega)]
        go_wp2_with fail
        go_roundg d
        case measure => omega
        case rel => exact ⟨k + 1, by go_num, by omega, by omega, HX.out⟩
      | true =>
        cases sr with
        | false =>
          have HX : Hid (Aut w wr (.slice (some ⟨q, 0, none⟩) TL.length cap) TL m x y f (fun j => if j ≤ k + 1 then skB TL g j else g j)) := HB.out.congr fun j hj => by
            by_cases e : j = k + 1
            · subst e
              rw [if_neg (by omega), if_pos (Nat.le_refl _)]
              show _ = (g (k + 1) || (skB TL g k && starAt TL k))
              rw [← HSR.out]; simp
            · by_cases e2 : j ≤ k
              · rw [if_pos e2, if_pos (by omega)]
              · rw [if_neg e2, if_neg (by omega)]
          go_wp2_with fail
          go_roundg d
          case measure => omega
          case rel => exact ⟨k + 1, by go_num, by omega, by omega, HX.out⟩
        | true =>
          have HX : Hid (Aut w (wr.setCell ⟨y, k + 1, none⟩ (.bool true)) (.slice (some ⟨q, 0, none⟩) TL.length cap) TL m x y f (fun j => if j ≤ k + 1 then skB TL g j else g j)) := (HB.out.setY (k + 1) true).congr fun j hj => by
            by_cases e : j = k + 1
            · subst e
              rw [if_pos rfl, if_pos (Nat.le_refl _)]
              show _ = (g (k + 1) || (skB TL g k && starAt TL k))
              rw [← HSR.out, ← HLV.out]; simp
            · rw [if_neg e]
              by_cases e2 : j ≤ k
              · rw [if_pos e2, if_pos (by omega)]
              · rw [if_neg e2, if_neg (by omega)]
          go_wp2_with fail
          go_roundg d
          case measure => omega
          case rel => exact ⟨k + 1, by go_num, by omega, by omega, HX.out⟩
    · have e1 : decide ((k : Int) < (n : Int)) = false := decide_eq_false (by omega)
      have e2 : ¬ ((k : Int) < (n : Int)) := by omega
      have HX : Hid (Aut w wr (.slice a TL.length cap) TL m x y f (skB TL g)) := HB.out.congr fun j hj => if_pos (by omega)
      clear hkn
      go_wp2_with fail
      exact ⟨rfl, _, results_none rfl _ _ _, rfl, HX.out⟩
end Go.Proofs.Qxb6617323a
