/-
  THE WALKS OF THE SMALL FUNCTIONS of zzlaws_internal_cert_b1: zzBytes.., cloneBytes.
-/
import Derived.Test.Qxb6621641aRows
import Derived.WalkKit
import Derived.WalkSpells
import Derived.WalkLawsBesides
import Derived.Deep.OwnRows
import Derived.Deep.QuietTactic
import Derived.BigQuiet
namespace Go.Proofs.Qxb6621641a
open Go.RowKit
set_option linter.unusedVariables false

theorem Try.info5 : (Try.prog.info? 5).map (fun i => (i.zero, i.size, i.bytes)) = some (some (.int .u8 0), 1, 1) := by kernel_rfl

/-- The lengths' bound: met. -/
theorem zz6_yes (a : Option Addr) (len cap : Nat) (n : Int) (w : World) (h : len ≤ 1048576) :
    Calls Try.prog 6 #[.slice a len cap, .int .i64 n] w fun e w' => e = .returned (.bool true) ∧ w = w' := by
  go_enter Try.func6, Try.ntmps6
  go_wp2
  go_ret
  exact ⟨rfl, rfl⟩
theorem zz6_no (a : Option Addr) (len cap : Nat) (n : Int) (w : World) (h : 1048576 < len) :
    Calls Try.prog 6 #[.slice a len cap, .int .i64 n] w fun e w' => e = .returned (.bool false) ∧ w = w' := by
  go_enter Try.func6, Try.ntmps6
  go_wp2
  go_ret
  exact ⟨rfl, rfl⟩

/-- The numbers as cells. -/
def cellsOf (zs : List Int) : Array Value := (zs.map (Value.int .u8)).toArray
theorem size_cellsOf (zs : List Int) : (cellsOf zs).size = zs.length := by simp [cellsOf]
theorem cellsOf_get (zs : List Int) (i : Nat) (h : i < zs.length) : (cellsOf zs)[i]? = some (.int .u8 (zs.getD i 0)) := by
  simp [cellsOf, h]

theorem made_size (z : Value) (n : Nat) : (madeCells #[z] n).size = n := by simp [madeCells]
theorem made_get (z : Value) (n i : Nat) (h : i < n) : (madeCells #[z] n)[i]? = some z := by
  simp [madeCells, h, Nat.mod_one]

/-- The first k cells hold the numbers, the rest something. -/
def Filled (len k : Nat) (zs : List Int) (C : Array Value) : Prop := C.size = len ∧ ∀ i, i < k → C[i]? = some (.int .u8 (zs.getD i 0))
theorem filled_start (len : Nat) (zs : List Int) : Filled len 0 zs (madeCells #[.int .u8 0] len) := ⟨made_size _ _, fun i h => absurd h (by omega)⟩
theorem filled_at {len k : Nat} {zs : List Int} {C : Array Value} (h : Filled len k zs C) (hk : k < len) : ∃ u, C[k]? = some u := by
  have := h.1
  exact ⟨C[k]'(by omega), Array.getElem?_eq_getElem (by omega)⟩
theorem filled_step {len k : Nat} {zs : List Int} {C : Array Value} (h : Filled len k zs C) (hk : k < len) (hz : zs.length = len) : Filled len (k + 1) zs (C.setIfInBounds k (.int .u8 (zs.getD k 0))) := by
  obtain ⟨h1, h2⟩ := h
  refine ⟨by simp [h1], fun i hi => ?_⟩
  rw [Array.getElem?_setIfInBounds]
  by_cases e : k = i
  · subst e; rw [if_pos rfl, if_pos (by omega)]
  · rw [if_neg e]; exact h2 i (by omega)
theorem filled_end {len : Nat} {zs : List Int} {C : Array Value} (h : Filled len len zs C) (hz : zs.length = len) : C = cellsOf zs := by
  obtain ⟨h1, h2⟩ := h
  apply Array.ext_getElem?
  intro i
  by_cases hi : i < len
  · rw [h2 i hi, cellsOf_get zs i (by omega)]
  · rw [Array.getElem?_eq_none (by omega), Array.getElem?_eq_none (by rw [size_cellsOf]; omega)]

/-- cloneBytes of a slice that is not nil: the same bytes in a new block. -/
theorem clone_any (b off len cap : Nat) (zs : List Int) (w : World) (hl : len ≤ 65536) (hz : zs.length = len)
    (hcell : ∀ i, i < len → w.cell? ⟨b, off + i, none⟩ = some (.int .u8 (zs.getD i 0))) :
    Calls Try.prog 7 #[.slice (some ⟨b, off, none⟩) len cap] w fun e w' => e = .returned (.slice (some ⟨w.heap.size, 0, none⟩) len len) ∧ w' = w.alloc (.cells (cellsOf zs) 5) := by
  have hmk := run_make_row' (P := Try.prog) 22 5 (.int .u8 0) 1 Try.underlying22 Try.info5 rfl .i64 .i64 len (by omega) (by omega)
  have hnil := fun w => Lib.run_eql_slice_nil (P := Try.prog) w 22 5 (some ⟨b, off, none⟩) len cap 0 0 Try.underlying22
  go_enter Try.func7, Try.ntmps7
  go_wp2
  clear hmk hnil
  go_loopw [4] (fun i wr => ∃ (k : Nat) (C : Array Value), k ≤ len ∧ i = .int .i64 k ∧ wr = w.alloc (.cells C 5) ∧ Filled len k zs C) (fun i _ => len - (intOf i).toNat)
  case atStart => exact ⟨0, _, Nat.zero_le _, rfl, rfl, filled_start len zs⟩
  case round =>
    obtain ⟨k, C, hk, rfl, rfl, hC⟩ := hrel
    by_cases hlt : k < len
    · have hg := hcell k hlt
      have hb : b < w.heap.size := World.block_lt_of_cell? _ _ hg
      have hnx := filled_step hC hlt hz
      obtain ⟨u, hu⟩ := filled_at hC hlt
      have HC : Hid (Filled len k zs C) := hC
      clear hC hcell
      have HN : Hid (Filled len (k + 1) zs (C.setIfInBounds k (.int .u8 (zs.getD k 0)))) := hnx
      clear hnx
      go_wp2
      go_roundw
      case rel => exact ⟨k + 1, _, by omega, by go_num, rfl, by simpa [hz, hlt] using HN.out⟩
      case measure => simp [intOf]; omega
    · have e : k = len := by omega
      subst e
      have HC : Hid (Filled k k zs C) := hC
      clear hC hcell
      go_wp2
      go_ret
      exact ⟨rfl, by rw [filled_end HC.out hz]⟩

/-- cloneBytes of nil. -/
theorem clone_nil (w : World) : Calls Try.prog 7 #[.slice none 0 0] w fun e w' => e = .returned (.slice none 0 0) ∧ w = w' := by
  have hnil := fun w => Lib.run_eql_slice_nil (P := Try.prog) w 22 5 none 0 0 0 0 Try.underlying22
  go_enter Try.func7, Try.ntmps7
  go_wp2
  go_ret
  exact ⟨rfl, rfl⟩
/-- cloneBytes of an empty slice that is not nil. -/
theorem clone_empty (x : Addr) (cap : Nat) (w : World) : Calls Try.prog 7 #[.slice (some x) 0 cap] w fun e w' => e = .returned (.slice (some ⟨w.heap.size, 0, none⟩) 0 0) ∧ w' = w.alloc (.cells (cellsOf []) 5) := by
  have hmk : ∀ w, (Instr.makeSlice 22 (.int .i64 0) (.int .i64 0)).run Try.prog w = .ok (.slice (some ⟨w.heap.size, 0, none⟩) 0 0) (w.alloc (.cells (cellsOf []) 5)) := by
    have e : madeCells #[.int .u8 0] 0 = cellsOf [] := by simp [madeCells, cellsOf]
    intro w
    rw [← e]
    exact run_make_row' (P := Try.prog) 22 5 (.int .u8 0) 1 Try.underlying22 Try.info5 rfl .i64 .i64 0 (by omega) (by omega) w
  have hnil := fun w => Lib.run_eql_slice_nil (P := Try.prog) w 22 5 (some x) 0 cap 0 0 Try.underlying22
  go_enter Try.func7, Try.ntmps7
  go_wp2
  clear hmk hnil
  refine wp_loop_rounds 1 ?_
  rw [rounds_succ]
  go_wp2
  go_ret
  exact ⟨rfl, rfl⟩
end Go.Proofs.Qxb6621641a
