/-
  THE PLAIN LAW of the two digits laws: decimal values in wrapping arithmetic; no Go text in sight.
-/
import Derived.IntWalk
namespace Go.Proofs.Qxb6621641a
open Go.RowKit (wrap64)

theorem wrap_mod (x : Int) : wrap64 x % 18446744073709551616 = x % 18446744073709551616 := by unfold wrap64; omega
theorem wrap_congr {x y : Int} (h : x % 18446744073709551616 = y % 18446744073709551616) : wrap64 x = wrap64 y := by unfold wrap64; omega
theorem wrap_zero : wrap64 0 = 0 := by unfold wrap64; omega
theorem wrap_one : wrap64 1 = 1 := by unfold wrap64; omega
theorem wrap_idem (x : Int) : wrap64 (wrap64 x) = wrap64 x := wrap_congr (wrap_mod x)
theorem wrap_add (x y : Int) : wrap64 (wrap64 x + y) = wrap64 (x + y) := by unfold wrap64; omega
theorem wrap_add_both (x y : Int) : wrap64 (wrap64 x + wrap64 y) = wrap64 (x + y) := by unfold wrap64; omega
theorem wrap_mul (x y : Int) : wrap64 (wrap64 x * y) = wrap64 (x * y) :=
  wrap_congr (by rw [Int.mul_emod, wrap_mod, ← Int.mul_emod])
theorem wrap_mul_both (x y : Int) : wrap64 (wrap64 x * wrap64 y) = wrap64 (x * y) :=
  wrap_congr (by rw [Int.mul_emod, wrap_mod, wrap_mod, ← Int.mul_emod])
theorem wrap_step (x d : Int) : wrap64 (wrap64 (wrap64 x * 10) + d) = wrap64 (x * 10 + d) := by rw [wrap_mul, wrap_add]
theorem wrap_rstep (v d p : Int) : wrap64 (wrap64 v + wrap64 (d * wrap64 p)) = wrap64 (v + d * p) := by
  rw [Int.mul_comm d (wrap64 p), wrap_mul, wrap_add_both, Int.mul_comm p d]
theorem wrap_split (a p b : Int) : wrap64 (wrap64 (wrap64 a * wrap64 p) + wrap64 b) = wrap64 (a * p + b) := by
  rw [wrap_mul_both, wrap_add_both]

/-- An ASCII digit. -/
def dg (z : Int) : Bool := decide (48 ≤ z ∧ z ≤ 57)
/-- The first n bytes are there and are digits. -/
def dp (zs : List Int) (n : Nat) : Bool := decide (n ≤ zs.length) && (zs.take n).all dg
/-- The decimal value. -/
def dec (l : List Int) : Int := l.foldl (fun v z => v * 10 + (z - 48)) 0

theorem dec_from (l : List Int) (a : Int) : l.foldl (fun v z => v * 10 + (z - 48)) a = a * 10 ^ l.length + dec l := by
  induction l generalizing a with
  | nil => simp [dec]
  | cons z l ih =>
    have h0 : dec (z :: l) = (0 * 10 + (z - 48)) * 10 ^ l.length + dec l := by
      show l.foldl _ (0 * 10 + (z - 48)) = _
      exact ih _
    rw [h0, List.foldl_cons, ih, List.length_cons, Int.pow_succ]
    have e : (10 : Int) ^ l.length * 10 = 10 * 10 ^ l.length := Int.mul_comm _ _
    rw [e, ← Int.mul_assoc, Int.zero_mul, Int.zero_add, Int.add_mul, Int.add_assoc]
theorem dec_append (l m : List Int) : dec (l ++ m) = dec l * 10 ^ m.length + dec m := by
  show (l ++ m).foldl _ 0 = _
  rw [List.foldl_append, dec_from]
  rfl
theorem dec_nil : dec [] = 0 := rfl
theorem dec_cons (z : Int) (l : List Int) : dec (z :: l) = (z - 48) * 10 ^ l.length + dec l := by
  have := dec_append [z] l
  simpa [dec] using this
theorem take_snoc (zs : List Int) (k : Nat) (h : k < zs.length) : zs.take (k + 1) = zs.take k ++ [zs.getD k 0] := by
  rw [List.take_succ_eq_append_getElem h, List.getD_eq_getElem?_getD, List.getElem?_eq_getElem h]; rfl
theorem dec_take_succ (zs : List Int) (k : Nat) (h : k < zs.length) : dec (zs.take (k + 1)) = dec (zs.take k) * 10 + (zs.getD k 0 - 48) := by
  rw [take_snoc zs k h, dec_append]
  simp [dec]
/-- The value of the digits from k on, read from the right. -/
def decR (zs : List Int) (n k : Nat) : Int := dec ((zs.take n).drop k)
theorem decR_end (zs : List Int) (n : Nat) : decR zs n n = 0 := by
  unfold decR
  rw [List.drop_of_length_le (by simp; omega)]; rfl
theorem decR_step (zs : List Int) (n k : Nat) (hk : k < n) (hn : n ≤ zs.length) : decR zs n k = decR zs n (k + 1) + (zs.getD k 0 - 48) * 10 ^ (n - (k + 1)) := by
  unfold decR
  have hl : k < (zs.take n).length := by simp; omega
  have e : (zs.take n).drop k = zs.getD k 0 :: (zs.take n).drop (k + 1) := by
    rw [List.drop_eq_getElem_cons hl, List.getD_eq_getElem?_getD, List.getElem_take, List.getElem?_eq_getElem (by omega)]; rfl
  have e2 : ((zs.take n).drop (k + 1)).length = n - (k + 1) := by simp; omega
  rw [e, dec_cons, e2, Int.add_comm]
theorem decR_zero (zs : List Int) (n : Nat) : decR zs n 0 = dec (zs.take n) := rfl

theorem dp_len {zs : List Int} {n : Nat} (h : dp zs n = true) : n ≤ zs.length := by
  unfold dp at h; simp at h; exact h.1
theorem dp_at {zs : List Int} {n : Nat} (h : dp zs n = true) (k : Nat) (hk : k < n) : 48 ≤ zs.getD k 0 ∧ zs.getD k 0 ≤ 57 := by
  have hl := dp_len h
  unfold dp at h
  simp only [Bool.and_eq_true, List.all_eq_true] at h
  have hm : zs.getD k 0 ∈ zs.take n := by
    rw [List.getD_eq_getElem?_getD, List.getElem?_eq_getElem (by omega)]
    exact List.mem_take_iff_getElem.2 ⟨k, by omega, rfl⟩
  have := h.2 _ hm
  simpa [dg] using this
theorem dp_mk {zs : List Int} {n : Nat} (hl : n ≤ zs.length) (h : ∀ k, k < n → 48 ≤ zs.getD k 0 ∧ zs.getD k 0 ≤ 57) : dp zs n = true := by
  unfold dp
  simp only [Bool.and_eq_true, List.all_eq_true, decide_eq_true_eq]
  refine ⟨hl, fun z hz => ?_⟩
  obtain ⟨k, hk, rfl⟩ := List.mem_take_iff_getElem.1 hz
  have := h k (by omega)
  rw [List.getD_eq_getElem?_getD, List.getElem?_eq_getElem (by omega)] at this
  simpa [dg] using this
theorem dp_short {zs : List Int} {n : Nat} (h : zs.length < n) : dp zs n = false := by
  by_cases e : dp zs n = true
  · have := dp_len e; omega
  · simpa using e
theorem dp_bad {zs : List Int} {n k : Nat} (hk : k < n) (h : zs.getD k 0 < 48 ∨ 57 < zs.getD k 0) : dp zs n = false := by
  by_cases e : dp zs n = true
  · have := dp_at e k hk; omega
  · simpa using e
theorem getD_drop (zs : List Int) (n k : Nat) : (zs.drop n).getD k 0 = zs.getD (n + k) 0 := by
  simp [List.getD_eq_getElem?_getD]
theorem dp_split (zs : List Int) (n m : Nat) : dp zs (n + m) = (dp zs n && dp (zs.drop n) m) := by
  rw [Bool.eq_iff_iff]
  constructor
  · intro h
    have hl := dp_len h
    have h1 : dp zs n = true := dp_mk (by omega) (fun k hk => dp_at h k (by omega))
    have h2 : dp (zs.drop n) m = true := dp_mk (by simp; omega) (fun k hk => by rw [getD_drop]; exact dp_at h (n + k) (by omega))
    rw [h1, h2]; rfl
  · intro h
    simp only [Bool.and_eq_true] at h
    have l1 := dp_len h.1
    have l2 := dp_len h.2
    simp at l2
    refine dp_mk (by omega) (fun k hk => ?_)
    by_cases e : k < n
    · exact dp_at h.1 k e
    · have := dp_at h.2 (k - n) (by omega)
      rw [getD_drop] at this
      rwa [show n + (k - n) = k from by omega] at this
theorem dec_split (zs : List Int) (n m : Nat) (h : n + m ≤ zs.length) : dec (zs.take (n + m)) = dec (zs.take n) * 10 ^ m + dec ((zs.drop n).take m) := by
  rw [List.take_add, dec_append]
  have : ((zs.drop n).take m).length = m := by simp; omega
  rw [this]
end Go.Proofs.Qxb6621641a
