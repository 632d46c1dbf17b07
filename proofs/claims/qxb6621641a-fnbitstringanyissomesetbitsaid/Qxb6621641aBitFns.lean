/-
  THE WALKS OF popcount, BitString.At, BitString.Any.
-/
import Derived.Test.Qxb6621641aLeaf
import Derived.Test.Qxb6621641aBits
namespace Go.Proofs.Qxb6621641a
open Go.RowKit
set_option linter.unusedVariables false

theorem ret_int {k : IntKind} {a b : Int} (h : a = b) : Ending.returned (.int k a) = .returned (.int k b) := by rw [h]
theorem ret_bool {a b : Bool} (h : a = b) : Ending.returned (.bool a) = .returned (.bool b) := by rw [h]
theorem part_zero8 : part 0 8 = 0 := by decide +kernel

/-- popcount. -/
theorem popcount_any (z : Int) (hz : Byte z) (w : World) : Calls Try.prog 8 #[.int .u8 z] w fun e w' => e = .returned (.int .i64 (part z 8)) ∧ w = w' := by
  have hp8 := part_le z 8
  go_enter Try.func8, Try.ntmps8
  go_wp2
  go_loop [0, 3] (fun x c => ∃ (y : Int) (k : Nat), Byte y ∧ x = .int .u8 y ∧ c = .int .i64 k ∧ k + part y 8 = part z 8) (fun x _ => (intOf x).toNat)
  case atStart => exact ⟨z, 0, hz, rfl, rfl, by omega⟩
  case round =>
    obtain ⟨y, k, hy, rfl, rfl, hs⟩ := hrel
    have HY : Hid (Byte y) := hy
    obtain ⟨hy0, hy1⟩ := hy
    have HS : Hid (k + part y 8 = part z 8) := hs
    have hk : k ≤ 8 := by omega
    clear hs
    by_cases h0 : y = 0
    · subst h0
      go_wp2
      go_ret
      exact ⟨ret_int (by have := HS.out; rw [part_zero8] at this; omega), rfl⟩
    · have h0' : (y != 0) = true := by simpa using h0
      have hlt := and_lt HY.out h0
      go_wp2
      go_round
      case rel => exact ⟨_, k + 1, ⟨hlt.1, by omega⟩, rfl, by go_num, by have h1 := HS.out; have h2 := pc_step HY.out h0; omega⟩
      case measure => simp only [intOf]; omega

/-- A BitString over a row of bytes. -/
def Row (w : World) (b off len : Nat) (zs : List Int) : Prop := zs.length = len ∧ (∀ i, Byte (zs.getD i 0)) ∧ ∀ i, i < len → w.cell? ⟨b, off + i, none⟩ = some (.int .u8 (zs.getD i 0))
theorem Row.alloc {w : World} {b off len : Nat} {zs : List Int} (h : Row w b off len zs) (o : Obj) : Row (w.alloc o) b off len zs :=
  ⟨h.1, h.2.1, fun i hi => by have hb := World.block_lt_of_cell? _ _ (h.2.2 i hi); rw [World.cell?_alloc_past _ _ _ hb]; exact h.2.2 i hi⟩

theorem at_out (a : Option Addr) (len cap : Nat) (n i : Int) (w : World) (h : i < 0 ∨ n ≤ i) :
    Calls Try.prog 9 #[.agg #[.slice a len cap, .int .i64 n], .int .i64 i] w fun e w' => e = .returned (.bool false) ∧ w' = w.alloc (.cells #[.slice a len cap, .int .i64 n] 26) := by
  rcases h with h | h
  · go_enter Try.func9, Try.ntmps9
    go_wp2
    go_ret
    exact ⟨rfl, rfl⟩
  · by_cases h' : i < 0
    all_goals
      go_enter Try.func9, Try.ntmps9
      go_wp2
      go_ret
      exact ⟨rfl, rfl⟩

theorem at_in (b off len cap : Nat) (zs : List Int) (n i : Nat) (w : World) (hr : Row w b off len zs) (hl : len ≤ 65536) (hn : n ≤ 8 * len) (hi : i < n) :
    Calls Try.prog 9 #[.agg #[.slice (some ⟨b, off, none⟩) len cap, .int .i64 n], .int .i64 i] w fun e w' => e = .returned (.bool (atB zs i)) ∧ ∃ nq, w' = (w.alloc (.cells #[.slice (some ⟨b, off, none⟩) len cap, .int .i64 n] 26)).drewN nq := by
  have hz := hr.1
  have hb := World.block_lt_of_cell? _ _ (hr.2.2 (i / 8) (by omega))
  have hc := hr.2.2 (i / 8) (by omega)
  have hidx : (i : Int) / 8 < (len : Int) := by omega
  clear hr
  go_enter Try.func9, Try.ntmps9
  go_wp2
  go_quiet (fail)
  go_wp2
  go_ret
  exact ⟨ret_bool (by simp [atB, bitZ]), nq, rfl⟩

/-- BitString.Any over an empty row: whatever the slice's address. -/
theorem any_none (a : Option Addr) (len cap : Nat) (w : World) : Calls Try.prog 10 #[.agg #[.slice a len cap, .int .i64 0]] w fun e w' => e = .returned (.bool false) ∧ ∃ nq, w' = (w.alloc (.cells #[.slice a len cap, .int .i64 0] 26)).drewN nq := by
  go_enter Try.func10, Try.ntmps10
  go_wp2
  refine wp_loop_rounds 1 ?_
  rw [rounds_succ]
  go_wp2
  go_quiet (fail)
  go_wp2
  go_ret
  exact ⟨rfl, nq, rfl⟩

set_option maxHeartbeats 400000 in
theorem any_in (b off len cap : Nat) (zs : List Int) (n : Nat) (w : World) (hr : Row w b off len zs) (hlc : len ≤ cap) (hl : len ≤ 65536) (hn : n ≤ 8 * len) :
    Calls Try.prog 10 #[.agg #[.slice (some ⟨b, off, none⟩) len cap, .int .i64 n]] w fun e w' => e = .returned (.bool (anyB zs n)) ∧ ∃ nq, w' = (w.alloc (.cells #[.slice (some ⟨b, off, none⟩) len cap, .int .i64 n] 26)).drewN nq := by
  obtain ⟨hz, hby, hc⟩ := hr
  go_enter Try.func10, Try.ntmps10
  go_wp2
  go_loop [15] (fun i => ∃ k : Nat, k ≤ n / 8 ∧ i = .int .i64 k ∧ ∀ j, j < k → zs.getD j 0 = 0) (fun i => n / 8 - (intOf i).toNat)
  case atStart => exact ⟨0, Nat.zero_le _, rfl, fun j hj => absurd hj (by omega)⟩
  case round =>
    obtain ⟨k, hk, rfl, hall⟩ := hrel
    have HA : Hid (∀ j, j < k → zs.getD j 0 = 0) := hall
    clear hall
    have HB : Hid (∀ i, Byte (zs.getD i 0)) := hby
    clear hby
    by_cases hlt : k < n / 8
    · have hck := hc k (by omega)
      have hb := World.block_lt_of_cell? _ _ hck
      have hltz : (k : Int) < (n : Int) / 8 := by omega
      have hkz : k < zs.length := by omega
      clear hc
      by_cases h0 : zs.getD k 0 = 0
      · rw [h0] at hck
        go_wp2
        go_round
        case rel => exact ⟨k + 1, by omega, by go_num, fun j hj => by
          by_cases e : j = k
          · subst e; exact h0
          · exact HA.out j (by omega)⟩
        case measure => simp [intOf]; omega
      · obtain ⟨y, hy⟩ : ∃ y, y = zs.getD k 0 := ⟨_, rfl⟩
        rw [← hy] at hck h0
        have h0' : (y != 0) = true := by simpa using h0
        have HY : Hid (y = zs.getD k 0) := hy
        clear hy
        go_wp2
        go_ret
        exact ⟨ret_bool (any_full zs n k hlt (HB.out k) (by rw [← HY.out]; exact h0')).symm, 0, rfl⟩
    · have e : k = n / 8 := by omega
      have hge : (n : Int) / 8 ≤ (k : Int) := by omega
      by_cases hu : n % 8 = 0
      · have hd : decide ((0 : Int) < (n : Int) % 8) = false := decide_eq_false (by omega)
        have HU : Hid (n % 8 = 0) := hu
        have HE : Hid (k = n / 8) := e
        clear hu e hc
        go_wp2
        go_quiet (fail)
        go_wp2
        go_ret
        exact ⟨ret_bool (any_rest0 zs n (fun j _ => HB.out j) (fun j hj => HA.out j (by have := HE.out; omega)) HU.out).symm, nq, rfl⟩
      · have hd : (0 : Int) < (n : Int) % 8 := by omega
        have hck := hc (n / 8) (by omega)
        have hb := World.block_lt_of_cell? _ _ hck
        have hidx : (n : Int) / 8 < (len : Int) := by omega
        have hkz : n / 8 < zs.length := by omega
        have HE : Hid (k = n / 8) := e
        clear hu e hc
        go_wp2
        go_quiet (fail)
        go_wp2
        go_ret
        exact ⟨ret_bool (by rw [← any_rest zs n (fun j _ => HB.out j) (fun j hj => HA.out j (by have := HE.out; omega)) (HB.out _)]; simp), nq, rfl⟩
end Go.Proofs.Qxb6621641a
