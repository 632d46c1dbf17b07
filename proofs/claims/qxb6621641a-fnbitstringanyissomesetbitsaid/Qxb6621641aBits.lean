/-
  THE PLAIN LAW of FnBitStringAnyIsSomeSetBit: bits of a row of bytes; no Go text in sight.
-/
import Derived.Laws.Entries
namespace Go.Proofs.Qxb6621641a

/-- Bit r of the byte z, counted from the most significant one. -/
def bitZ (z : Int) (r : Nat) : Bool := bits .and .u8 z (128 / 2 ^ r) != 0
/-- How many of the first r bits of z are set. -/
def part (z : Int) : Nat → Nat
  | 0 => 0
  | r + 1 => part z r + (if bitZ z r then 1 else 0)
/-- How many of the bits of the first k bytes are set. -/
def ones (zs : List Int) : Nat → Nat
  | 0 => 0
  | k + 1 => ones zs k + part (zs.getD k 0) 8
/-- How many of the first n bits are set. -/
def cnt (zs : List Int) (n : Nat) : Nat := ones zs (n / 8) + part (zs.getD (n / 8) 0) (n % 8)

theorem pc_step_nat : ∀ n : Nat, n < 256 → n ≠ 0 → part (bits .and .u8 (n : Int) ((n : Int) - 1)) 8 + 1 = part (n : Int) 8 := by decide +kernel
theorem and_lt_nat : ∀ n : Nat, n < 256 → n ≠ 0 → 0 ≤ bits .and .u8 (n : Int) ((n : Int) - 1) ∧ bits .and .u8 (n : Int) ((n : Int) - 1) < (n : Int) := by decide +kernel
theorem pc_part_nat : ∀ n : Nat, n < 256 → ∀ u, u < 8 → part ((n : Int) / 2 ^ (8 - u)) 8 = part (n : Int) u := by decide +kernel
theorem andNot_nat : ∀ n : Nat, n < 256 → ∀ u, u < 8 → (bits .andNot .u8 (n : Int) (255 / 2 ^ u) != 0) = decide (0 < part (n : Int) u) := by decide +kernel
theorem pos_nat : ∀ n : Nat, n < 256 → ((n : Int) != 0) = decide (0 < part (n : Int) 8) := by decide +kernel
theorem or_bit_nat : ∀ n : Nat, n < 256 → ∀ u, u < 8 → ∀ r, r < u → bitZ (bits .or .u8 (n : Int) (255 / 2 ^ u)) r = bitZ (n : Int) r := by decide +kernel
theorem or_bd_nat : ∀ n : Nat, n < 256 → ∀ u, u < 8 → 0 ≤ bits .or .u8 (n : Int) (255 / 2 ^ u) ∧ bits .or .u8 (n : Int) (255 / 2 ^ u) < 256 := by decide +kernel

/-- A byte. -/
def Byte (z : Int) : Prop := 0 ≤ z ∧ z < 256
theorem byte_nat {z : Int} (h : Byte z) : ∃ n : Nat, z = n ∧ n < 256 := by
  obtain ⟨h0, h1⟩ := h
  exact ⟨z.toNat, by omega, by omega⟩
theorem pc_step {z : Int} (h : Byte z) (h0 : z ≠ 0) : part (bits .and .u8 z (z - 1)) 8 + 1 = part z 8 := by
  obtain ⟨n, rfl, hn⟩ := byte_nat h
  exact pc_step_nat n hn (by omega)
theorem and_lt {z : Int} (h : Byte z) (h0 : z ≠ 0) : 0 ≤ bits .and .u8 z (z - 1) ∧ bits .and .u8 z (z - 1) < z := by
  obtain ⟨n, rfl, hn⟩ := byte_nat h
  exact and_lt_nat n hn (by omega)
theorem pc_part {z : Int} (h : Byte z) {u : Nat} (hu : u < 8) : part (z / 2 ^ (8 - u)) 8 = part z u := by
  obtain ⟨n, rfl, hn⟩ := byte_nat h
  exact pc_part_nat n hn u hu
theorem andNot_any {z : Int} (h : Byte z) {u : Nat} (hu : u < 8) : (bits .andNot .u8 z (255 / 2 ^ u) != 0) = decide (0 < part z u) := by
  obtain ⟨n, rfl, hn⟩ := byte_nat h
  exact andNot_nat n hn u hu
theorem pos_any {z : Int} (h : Byte z) : (z != 0) = decide (0 < part z 8) := by
  obtain ⟨n, rfl, hn⟩ := byte_nat h
  exact pos_nat n hn
theorem or_bit {z : Int} (h : Byte z) {u : Nat} (hu : u < 8) {r : Nat} (hr : r < u) : bitZ (bits .or .u8 z (255 / 2 ^ u)) r = bitZ z r := by
  obtain ⟨n, rfl, hn⟩ := byte_nat h
  exact or_bit_nat n hn u hu r hr
theorem or_bd {z : Int} (h : Byte z) {u : Nat} (hu : u < 8) : Byte (bits .or .u8 z (255 / 2 ^ u)) := by
  obtain ⟨n, rfl, hn⟩ := byte_nat h
  exact or_bd_nat n hn u hu
theorem part_le (z : Int) (r : Nat) : part z r ≤ r := by
  induction r with
  | zero => simp [part]
  | succ r ih => simp only [part]; split <;> omega
theorem part_congr {y z : Int} {u : Nat} (h : ∀ r, r < u → bitZ y r = bitZ z r) : part y u = part z u := by
  induction u with
  | zero => rfl
  | succ u ih => simp only [part]; rw [ih (fun r hr => h r (by omega)), h u (by omega)]
theorem ones_le (zs : List Int) (k : Nat) : ones zs k ≤ 8 * k := by
  induction k with
  | zero => simp [ones]
  | succ k ih => have := part_le (zs.getD k 0) 8; simp only [ones]; omega
theorem ones_mono (zs : List Int) {j k : Nat} (h : j ≤ k) : ones zs j ≤ ones zs k := by
  induction k with
  | zero => have : j = 0 := by omega
            subst this; exact Nat.le_refl _
  | succ k ih =>
    by_cases e : j = k + 1
    · subst e; exact Nat.le_refl _
    · have := ih (by omega); simp only [ones]; omega
theorem ones_congr {ys zs : List Int} {k : Nat} (h : ∀ j, j < k → ys.getD j 0 = zs.getD j 0) : ones ys k = ones zs k := by
  induction k with
  | zero => rfl
  | succ k ih => simp only [ones]; rw [ih (fun j hj => h j (by omega)), h k (by omega)]
theorem cnt_le (zs : List Int) (n : Nat) : cnt zs n ≤ n := by
  have h1 := ones_le zs (n / 8)
  have h2 := part_le (zs.getD (n / 8) 0) (n % 8)
  unfold cnt; omega
theorem cnt_zero (zs : List Int) : cnt zs 0 = 0 := rfl
theorem cnt_succ (zs : List Int) (n : Nat) : cnt zs (n + 1) = cnt zs n + (if bitZ (zs.getD (n / 8) 0) (n % 8) then 1 else 0) := by
  unfold cnt
  by_cases h : n % 8 = 7
  · have e1 : (n + 1) / 8 = n / 8 + 1 := by omega
    have e2 : (n + 1) % 8 = 0 := by omega
    rw [e1, e2, h]; simp only [ones, part]; omega
  · have e1 : (n + 1) / 8 = n / 8 := by omega
    have e2 : (n + 1) % 8 = n % 8 + 1 := by omega
    rw [e1, e2]; simp only [part]; omega
/-- What Any answers. -/
def anyB (zs : List Int) (n : Nat) : Bool := decide (0 < cnt zs n)
/-- What At answers below the length. -/
def atB (zs : List Int) (i : Nat) : Bool := bitZ (zs.getD (i / 8) 0) (i % 8)

theorem any_full (zs : List Int) (n k : Nat) (hk : k < n / 8) (hb : Byte (zs.getD k 0)) (h : (zs.getD k 0 != 0) = true) : anyB zs n = true := by
  rw [pos_any hb] at h
  have h1 : 0 < part (zs.getD k 0) 8 := of_decide_eq_true h
  have h2 : ones zs (k + 1) ≤ ones zs (n / 8) := ones_mono zs (by omega)
  have h3 : ones zs (k + 1) = ones zs k + part (zs.getD k 0) 8 := rfl
  unfold anyB cnt
  exact decide_eq_true (by omega)
theorem ones_none (zs : List Int) (k : Nat) (hb : ∀ j, j < k → Byte (zs.getD j 0)) (h : ∀ j, j < k → zs.getD j 0 = 0) : ones zs k = 0 := by
  induction k with
  | zero => rfl
  | succ k ih =>
    have h1 := ih (fun j hj => hb j (by omega)) (fun j hj => h j (by omega))
    have h2 := pos_any (hb k (by omega))
    rw [h k (by omega)] at h2
    simp only [ones, h1, h k (by omega)]
    have : ¬ 0 < part 0 8 := by
      intro hp; rw [decide_eq_true hp] at h2; simp at h2
    omega
theorem any_rest0 (zs : List Int) (n : Nat) (hb : ∀ j, j < n / 8 → Byte (zs.getD j 0)) (h : ∀ j, j < n / 8 → zs.getD j 0 = 0) (hu : n % 8 = 0) : anyB zs n = false := by
  unfold anyB cnt
  rw [ones_none zs _ hb h, hu]
  rfl
theorem any_rest (zs : List Int) (n : Nat) (hb : ∀ j, j < n / 8 → Byte (zs.getD j 0)) (h : ∀ j, j < n / 8 → zs.getD j 0 = 0) (hl : Byte (zs.getD (n / 8) 0)) :
    (bits .andNot .u8 (zs.getD (n / 8) 0) (255 / 2 ^ (n % 8)) != 0) = anyB zs n := by
  rw [andNot_any hl (by omega)]
  unfold anyB cnt
  rw [ones_none zs _ hb h, Nat.zero_add]
/-- The bits behind the length do not count. -/
theorem cnt_other {ys zs : List Int} {n : Nat} (h : ∀ j, j < n / 8 → ys.getD j 0 = zs.getD j 0) (hp : ∀ r, r < n % 8 → bitZ (ys.getD (n / 8) 0) r = bitZ (zs.getD (n / 8) 0) r) : cnt ys n = cnt zs n := by
  unfold cnt
  rw [ones_congr h, part_congr hp]
theorem at_other {ys zs : List Int} {n : Nat} (h : ∀ j, j < n / 8 → ys.getD j 0 = zs.getD j 0) (hp : ∀ r, r < n % 8 → bitZ (ys.getD (n / 8) 0) r = bitZ (zs.getD (n / 8) 0) r) (i : Nat) (hi : i < n) : atB ys i = atB zs i := by
  unfold atB
  by_cases e : i / 8 < n / 8
  · rw [h _ e]
  · have e1 : i / 8 = n / 8 := by omega
    rw [e1]; exact hp _ (by omega)

end Go.Proofs.Qxb6621641a
