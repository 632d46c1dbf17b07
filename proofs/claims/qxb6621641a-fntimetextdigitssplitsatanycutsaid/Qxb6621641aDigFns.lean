/-
  THE WALKS OF digits, ZZTimeTextDigits, isDigitPrefix, sameBytes, decimalValue.
-/
import Derived.Test.Qxb6621641aLeaf
import Derived.Test.Qxb6621641aDec
namespace Go.Proofs.Qxb6621641a
open Go.RowKit
set_option linter.unusedVariables false

/-- The bytes of a slice: whatever its address where it is empty. -/
structure Bytes (w : World) (a : Option Addr) (len : Nat) (zs : List Int) : Prop where
  size : zs.length = len
  byte : ∀ i, 0 ≤ zs.getD i 0 ∧ zs.getD i 0 ≤ 255
  cells : 0 < len → ∃ b off, a = some ⟨b, off, none⟩ ∧ ∀ i, i < len → w.cell? ⟨b, off + i, none⟩ = some (.int .u8 (zs.getD i 0))

theorem Bytes.keep {w w' : World} {a : Option Addr} {len : Nat} {zs : List Int} (h : Bytes w a len zs) (hb : Below w.heap.size w w') : Bytes w' a len zs :=
  ⟨h.size, h.byte, fun h0 => by
    obtain ⟨b, off, e, hc⟩ := h.cells h0
    exact ⟨b, off, e, fun i hi => by
      have := World.block_lt_of_cell? _ _ (hc i hi)
      rw [hb.cell (p := ⟨b, off + i, none⟩) this]; exact hc i hi⟩⟩

theorem Bytes.cut_end {w : World} {a a' : Option Addr} {len n : Nat} {zs : List Int} (h : Bytes w a len zs) (hn : len ≤ n) : Bytes w a' (len - n) (zs.drop n) :=
  ⟨by rw [List.length_drop, h.size], fun i => by rw [getD_drop]; exact h.byte _, fun h0 => absurd h0 (by omega)⟩
theorem Bytes.cut {w : World} {a : Option Addr} {len n : Nat} {zs : List Int} (h : Bytes w a len zs) (hn : n ≤ len) : Bytes w (a.map fun x => x.add n) (len - n) (zs.drop n) :=
  ⟨by rw [List.length_drop, h.size], fun i => by rw [getD_drop]; exact h.byte _, fun h0 => by
    obtain ⟨b, off, rfl, hc⟩ := h.cells (by omega)
    refine ⟨b, off + n, by simp [Addr.add], fun i hi => ?_⟩
    have := hc (n + i) (by omega)
    rw [getD_drop, Nat.add_assoc]; exact this⟩

theorem rt_int {k : IntKind} {a b : Int} (h : a = b) : Ending.returned (.int k a) = .returned (.int k b) := by rw [h]
theorem rt_bool {a b : Bool} (h : a = b) : Ending.returned (.bool a) = .returned (.bool b) := by rw [h]

theorem clone_nil' (cap : Nat) (w : World) : Calls Try.prog 7 #[.slice none 0 cap] w fun e w' => e = .returned (.slice none 0 0) ∧ w = w' := by
  have hnil := fun w => Lib.run_eql_slice_nil (P := Try.prog) w 22 5 none 0 cap 0 0 Try.underlying22
  go_enter Try.func7, Try.ntmps7
  go_wp2
  go_ret
  exact ⟨rfl, rfl⟩
/-- cloneBytes, whatever the slice. -/
theorem clone_bytes (a : Option Addr) (len cap : Nat) (zs : List Int) (w : World) (hl : len ≤ 65536) (h : Bytes w a len zs) :
    Calls Try.prog 7 #[.slice a len cap] w fun e w' => ∃ a', e = .returned (.slice a' len len) ∧ Bytes w' a' len zs ∧ Below w.heap.size w w' := by
  by_cases h0 : len = 0
  · subst h0
    have hz : zs = [] := List.eq_nil_of_length_eq_zero h.size
    subst hz
    cases a with
    | none => exact (clone_nil' cap w).mono fun e w' ⟨he, hw⟩ => ⟨none, he, ⟨rfl, h.byte, fun h => absurd h (by omega)⟩, by rw [← hw]; exact Below.refl _ _⟩
    | some x => exact (clone_empty x cap w).mono fun e w' ⟨he, hw⟩ => ⟨_, he, ⟨rfl, h.byte, fun h => absurd h (by omega)⟩, by rw [hw]; exact (Below.refl _ _).alloc (Nat.le_refl _) _⟩
  · obtain ⟨b, off, rfl, hc⟩ := h.cells (by omega)
    exact (clone_any b off len cap zs w hl h.size hc).mono fun e w' ⟨he, hw⟩ => ⟨_, he, ⟨h.size, h.byte, fun _ => ⟨w.heap.size, 0, rfl, fun i hi => by
      rw [hw, World.cell?_alloc_at _ _ _ _ rfl, Nat.zero_add]; exact cellsOf_get zs i (by have := h.size; omega)⟩⟩, by rw [hw]; exact (Below.refl _ _).alloc (Nat.le_refl _) _⟩

/-- isDigitPrefix. -/
theorem prefix_any (a : Option Addr) (len cap n : Nat) (zs : List Int) (w : World) (hl : len ≤ 65536) (hn : n ≤ 9223372036854775807) (h : Bytes w a len zs) :
    Calls Try.prog 13 #[.slice a len cap, .int .i64 n] w fun e w' => e = .returned (.bool (dp zs n)) ∧ w = w' := by
  by_cases hlt : len < n
  · have hz : (len : Int) < (n : Int) := by omega
    have HD : Hid (dp zs n = false) := dp_short (by rw [h.size]; exact hlt)
    clear h
    go_enter Try.func13, Try.ntmps13
    go_wp2
    go_ret
    exact ⟨by rw [HD.out]; rfl, rfl⟩
  have hz : ¬ (len : Int) < (n : Int) := by omega
  have HB : Hid (Bytes w a len zs) := h
  have hlen := h.size
  clear h
  go_enter Try.func13, Try.ntmps13
  go_wp2
  go_loop [5] (fun i => ∃ k : Nat, k ≤ n ∧ i = .int .i64 k ∧ ∀ j, j < k → 48 ≤ zs.getD j 0 ∧ zs.getD j 0 ≤ 57) (fun i => n - (intOf i).toNat)
  case atStart => exact ⟨0, Nat.zero_le _, rfl, fun j hj => absurd hj (by omega)⟩
  case round =>
    obtain ⟨k, hk, rfl, hall⟩ := hrel
    have HA : Hid (∀ j, j < k → 48 ≤ zs.getD j 0 ∧ zs.getD j 0 ≤ 57) := hall
    clear hall
    by_cases hkn : k < n
    · obtain ⟨b, off, rfl, hc⟩ := HB.out.cells (by omega)
      have hck := hc k (by omega)
      have hby := HB.out.byte k
      have hkz : k < zs.length := by omega
      have hkl : (k : Int) < (len : Int) := by omega
      obtain ⟨y, hy⟩ : ∃ y, y = zs.getD k 0 := ⟨_, rfl⟩
      rw [← hy] at hck hby
      have HY : Hid (y = zs.getD k 0) := hy
      clear hy hc
      by_cases h1 : y < 48
      · go_wp2
        go_ret
        exact ⟨rt_bool (dp_bad hkn (.inl (by rw [← HY.out]; exact h1))).symm, rfl⟩
      by_cases h2 : 57 < y
      · go_wp2
        go_ret
        exact ⟨rt_bool (dp_bad hkn (.inr (by rw [← HY.out]; exact h2))).symm, rfl⟩
      go_wp2
      go_round
      case rel => exact ⟨k + 1, by omega, by go_num, fun j hj => by
        by_cases e : j = k
        · subst e; rw [← HY.out]; omega
        · exact HA.out j (by omega)⟩
      case measure => simp [intOf]; omega
    · have hge : (n : Int) ≤ (k : Int) := by omega
      go_wp2
      go_ret
      exact ⟨rt_bool (dp_mk (by omega) (fun j hj => HA.out j (by omega))).symm, rfl⟩

/-- sameBytes over the same bytes. -/
theorem same_any (a1 a2 : Option Addr) (len cap1 cap2 : Nat) (zs : List Int) (w : World) (hl : len ≤ 65536) (h1 : Bytes w a1 len zs) (h2 : Bytes w a2 len zs) :
    Calls Try.prog 14 #[.slice a1 len cap1, .slice a2 len cap2] w fun e w' => e = .returned (.bool true) ∧ Below w.heap.size w w' := by
  have H1 : Hid (Bytes w a1 len zs) := h1
  have H2 : Hid (Bytes w a2 len zs) := h2
  have hlen := h1.size
  clear h1 h2
  go_enter Try.func14, Try.ntmps14
  go_wp2
  go_loopw [5] (fun i wr => ∃ k : Nat, k ≤ len ∧ i = .int .i64 k ∧ Below w.heap.size w wr) (fun i _ => len - (intOf i).toNat)
  case atStart => exact ⟨0, Nat.zero_le _, rfl, Below.refl _ _⟩
  case round =>
    obtain ⟨k, hk, rfl, hb⟩ := hrel
    have HB : Hid (Below w.heap.size w wr) := hb
    clear hb
    by_cases hkn : k < len
    · obtain ⟨b1, o1, rfl, hc1⟩ := (H1.out.keep HB.out).cells (by omega)
      obtain ⟨b2, o2, rfl, hc2⟩ := (H2.out.keep HB.out).cells (by omega)
      have c1 := hc1 k hkn
      have c2 := hc2 k hkn
      have hkl : (k : Int) < (len : Int) := by omega
      obtain ⟨y, hy⟩ : ∃ y, y = zs.getD k 0 := ⟨_, rfl⟩
      rw [← hy] at c1 c2
      clear hy hc1 hc2
      go_wp2
      go_quiet (fail)
      go_wp2
      go_roundw
      case rel => exact ⟨k + 1, by omega, by go_num, below_drewN HB.out nq⟩
      case measure => simp [intOf]; omega
    · have hge : (len : Int) ≤ (k : Int) := by omega
      go_wp2
      go_ret
      exact ⟨rfl, HB.out⟩

/-- decimalValue. -/
theorem value_any (a : Option Addr) (len cap n : Nat) (zs : List Int) (w : World) (hl : len ≤ 65536) (hd : dp zs n = true) (h : Bytes w a len zs) :
    Calls Try.prog 15 #[.slice a len cap, .int .i64 n] w fun e w' => e = .returned (.int .i64 (wrap64 (dec (zs.take n)))) ∧ w = w' := by
  have hn : n ≤ len := by have := dp_len hd; have := h.size; omega
  have HB : Hid (Bytes w a len zs) := h
  have HD : Hid (dp zs n = true) := hd
  have hlen := h.size
  clear h hd
  go_enter Try.func15, Try.ntmps15
  go_wp2
  go_loop [5, 6, 7] (fun v p i => ∃ k : Nat, k ≤ n ∧ i = .int .i64 ((k : Int) - 1) ∧ v = .int .i64 (wrap64 (decR zs n k)) ∧ p = .int .i64 (wrap64 (10 ^ (n - k)))) (fun _ _ i => (intOf i + 1).toNat)
  case atStart => exact ⟨n, Nat.le_refl _, rfl, by rw [decR_end, wrap_zero], by rw [Nat.sub_self, Int.pow_zero, wrap_one]⟩
  case round =>
    obtain ⟨k, hk, rfl, rfl, rfl⟩ := hrel
    by_cases hk0 : k = 0
    · subst hk0
      go_wp2
      go_ret
      exact ⟨rfl, rfl⟩
    · obtain ⟨j, rfl⟩ : ∃ j, k = j + 1 := ⟨k - 1, by omega⟩
      obtain ⟨b, off, rfl, hc⟩ := HB.out.cells (by omega)
      have hck := hc j (by omega)
      have hby := dp_at HD.out j (by omega)
      have hkl : (j : Int) < (len : Int) := by omega
      have HS : Hid (decR zs n j = decR zs n (j + 1) + (zs.getD j 0 - 48) * 10 ^ (n - (j + 1))) := decR_step zs n j (by omega) (by omega)
      obtain ⟨y, hy⟩ : ∃ y, y = zs.getD j 0 := ⟨_, rfl⟩
      rw [← hy] at hck hby HS
      clear hy hc
      obtain ⟨V, hV⟩ : ∃ V, V = decR zs n (j + 1) := ⟨_, rfl⟩
      obtain ⟨p, hp⟩ : ∃ p : Int, p = 10 ^ (n - (j + 1)) := ⟨_, rfl⟩
      rw [← hV, ← hp] at HS ⊢
      have HP : Hid (p = 10 ^ (n - (j + 1))) := hp
      clear hV hp
      go_wp2
      go_round
      case rel =>
        refine ⟨j, by omega, by go_num, ?_, ?_⟩
        · rw [HS.out, ← wrap_rstep]
        · have e : (10 : Int) ^ (n - j) = p * 10 := by rw [HP.out, ← Int.pow_succ, show (n - (j + 1)).succ = n - j from by omega]
          rw [e, wrap_mul]
      case measure => simp [intOf]

/-- digits: too short a text, or a byte that is no digit. -/
theorem digits_no (bp : Nat) (a : Option Addr) (len cap n : Nat) (zs : List Int) (w : World) (hl : len ≤ 65536) (hlc : len ≤ cap) (hn : n ≤ 9223372036854775807) (hd : dp zs n = false) (h : Bytes w a len zs)
    (hp : w.cell? ⟨bp, 0, none⟩ = some (.slice a len cap)) :
    Calls Try.prog 17 #[.pointer (some ⟨bp, 0, none⟩), .int .i64 n] w fun e w' => e = .returned (.tuple #[.int .i64 0, .bool false]) ∧ w = w' := by
  have HB : Hid (Bytes w a len zs) := h
  have HD : Hid (dp zs n = false) := hd
  have hlen := h.size
  clear h hd
  by_cases hlt : len < n
  · have hz : (len : Int) < (n : Int) := by omega
    go_enter Try.func17, Try.ntmps17
    go_wp2
    go_ret2
    exact ⟨rfl, rfl⟩
  have hz : ¬ (len : Int) < (n : Int) := by omega
  have hnc : (n : Int) ≤ (cap : Int) := by omega
  go_enter Try.func17, Try.ntmps17
  go_wp2
  go_loop [6, 21] (fun v i => ∃ (k : Nat) (x : Int), k ≤ n ∧ i = .int .i64 k ∧ v = .int .i64 x ∧ ∀ j, j < k → 48 ≤ zs.getD j 0 ∧ zs.getD j 0 ≤ 57) (fun _ i => n - (intOf i).toNat)
  case atStart => exact ⟨0, 0, Nat.zero_le _, rfl, rfl, fun j hj => absurd hj (by omega)⟩
  case round =>
    obtain ⟨k, x, hk, rfl, rfl, hall⟩ := hrel
    have HA : Hid (∀ j, j < k → 48 ≤ zs.getD j 0 ∧ zs.getD j 0 ≤ 57) := hall
    clear hall
    by_cases hkn : k < n
    · obtain ⟨b, off, rfl, hc⟩ := HB.out.cells (by omega)
      have hck := hc k (by omega)
      have hby := HB.out.byte k
      have hkl : (k : Int) < (n : Int) := by omega
      obtain ⟨y, hy⟩ : ∃ y, y = zs.getD k 0 := ⟨_, rfl⟩
      rw [← hy] at hck hby
      have HY : Hid (y = zs.getD k 0) := hy
      clear hy hc
      by_cases h1 : y < 48
      · go_wp2
        go_ret2
        exact ⟨rfl, rfl⟩
      by_cases h2 : 57 < y
      · go_wp2
        go_ret2
        exact ⟨rfl, rfl⟩
      go_wp2
      go_round
      case rel => exact ⟨k + 1, _, by omega, by go_num, rfl, fun j hj => by
        by_cases e : j = k
        · subst e; rw [← HY.out]; omega
        · exact HA.out j (by omega)⟩
      case measure => simp [intOf]; omega
    · have := HD.out
      rw [dp_mk (by omega) (fun j hj => HA.out j (by omega))] at this
      cases this

/-- digits: n digits. -/
theorem digits_yes (bp : Nat) (a : Option Addr) (len cap n : Nat) (zs : List Int) (w : World) (hl : len ≤ 65536) (hlc : len ≤ cap) (hd : dp zs n = true) (h : Bytes w a len zs)
    (hp : w.cell? ⟨bp, 0, none⟩ = some (.slice a len cap)) (hf : w.frozen? ⟨bp, 0, none⟩ = false) :
    Calls Try.prog 17 #[.pointer (some ⟨bp, 0, none⟩), .int .i64 n] w fun e w' => e = .returned (.tuple #[.int .i64 (wrap64 (dec (zs.take n))), .bool true]) ∧ ∃ a', w' = w.setCell ⟨bp, 0, none⟩ (.slice a' (len - n) (cap - n)) ∧ (len ≤ n ∨ a' = a.map fun x => x.add n) := by
  have hnl : n ≤ len := by have := dp_len hd; have := h.size; omega
  have HB : Hid (Bytes w a len zs) := h
  have HD : Hid (dp zs n = true) := hd
  have hlen := h.size
  clear h hd
  have hz : ¬ (len : Int) < (n : Int) := by omega
  have hnc : (n : Int) ≤ (cap : Int) := by omega
  go_enter Try.func17, Try.ntmps17
  go_wp2
  go_loop [6, 21] (fun v i => ∃ (k : Nat), k ≤ n ∧ i = .int .i64 k ∧ v = .int .i64 (wrap64 (dec (zs.take k)))) (fun _ i => n - (intOf i).toNat)
  case atStart => exact ⟨0, Nat.zero_le _, rfl, by rw [List.take_zero, dec_nil, wrap_zero]⟩
  case round =>
    obtain ⟨k, hk, rfl, rfl⟩ := hrel
    by_cases hkn : k < n
    · obtain ⟨b, off, rfl, hc⟩ := HB.out.cells (by omega)
      have hck := hc k (by omega)
      have hby := dp_at HD.out k hkn
      have hkl : (k : Int) < (n : Int) := by omega
      have HS : Hid (dec (zs.take (k + 1)) = dec (zs.take k) * 10 + (zs.getD k 0 - 48)) := dec_take_succ zs k (by omega)
      obtain ⟨y, hy⟩ : ∃ y, y = zs.getD k 0 := ⟨_, rfl⟩
      rw [← hy] at hck hby HS
      clear hy hc
      obtain ⟨V, hV⟩ : ∃ V, V = dec (zs.take k) := ⟨_, rfl⟩
      rw [← hV] at HS ⊢
      clear hV
      go_wp2
      go_round
      case rel => exact ⟨k + 1, by omega, by go_num, by rw [HS.out, ← wrap_step]⟩
      case measure => simp [intOf]; omega
    · have hge : (n : Int) ≤ (k : Int) := by omega
      have e : n = k := by omega
      subst e
      go_wp2
      · go_ret2
        exact ⟨rfl, a, rfl, .inl (by omega)⟩
      · go_ret2
        exact ⟨rfl, _, rfl, .inr rfl⟩

/-- ZZTimeTextDigits: no. -/
theorem zzd_no (a : Option Addr) (len cap n : Nat) (zs : List Int) (w : World) (hl : len ≤ 65536) (hlc : len ≤ cap) (hn : n ≤ 9223372036854775807) (hd : dp zs n = false) (h : Bytes w a len zs) :
    Calls Try.prog 12 #[.slice a len cap, .int .i64 n] w fun e w' => e = .returned (.tuple #[.slice a len cap, .int .i64 0, .bool false]) ∧ Below w.heap.size w w' := by
  have HB : Hid (Bytes (w.alloc (.cells #[.slice a len cap] 36)) a len zs) := h.keep ((Below.refl _ _).alloc (Nat.le_refl _) _)
  have HD : Hid (dp zs n = false) := hd
  clear h hd
  go_enter Try.func12, Try.ntmps12
  go_wp2_with fail
  refine (digits_no w.heap.size a len cap n zs _ hl hlc hn HD.out HB.out (by simp)).mono ?_
  rintro e w' ⟨rfl, rfl⟩
  go_wp2
  go_ret3
  exact ⟨rfl, (Below.refl _ _).alloc (Nat.le_refl _) _⟩

/-- ZZTimeTextDigits: yes. -/
theorem zzd_yes (a : Option Addr) (len cap n : Nat) (zs : List Int) (w : World) (hl : len ≤ 65536) (hlc : len ≤ cap) (hd : dp zs n = true) (h : Bytes w a len zs) :
    Calls Try.prog 12 #[.slice a len cap, .int .i64 n] w fun e w' => ∃ a', e = .returned (.tuple #[.slice a' (len - n) (cap - n), .int .i64 (wrap64 (dec (zs.take n))), .bool true]) ∧ Bytes w' a' (len - n) (zs.drop n) ∧ Below w.heap.size w w' := by
  have HB : Hid (Bytes (w.alloc (.cells #[.slice a len cap] 36)) a len zs) := h.keep ((Below.refl _ _).alloc (Nat.le_refl _) _)
  have HW : Hid (Bytes w a len zs) := h
  have HD : Hid (dp zs n = true) := hd
  clear h hd
  go_enter Try.func12, Try.ntmps12
  go_wp2_with fail
  refine (digits_yes w.heap.size a len cap n zs _ hl hlc HD.out HB.out (by simp) (by simp)).mono ?_
  rintro e w' ⟨rfl, a', rfl, h'⟩
  have H' : Hid (Bytes w a' (len - n) (zs.drop n)) := by
    rcases h' with h' | rfl
    · exact HW.out.cut_end h'
    · exact HW.out.cut (by have := dp_len HD.out; have := HW.out.size; omega)
  clear h'
  go_wp2
  go_ret3
  exact ⟨a', rfl, H'.out.keep ((Below.refl _ _).alloc (Nat.le_refl _) _), (Below.refl _ _).alloc (Nat.le_refl _) _⟩
end Go.Proofs.Qxb6621641a
