/-
  THE LAW FnBitStringAnyIsSomeSetBit, WALKED: an empty slice.
-/
import Derived.Test.Qxb6621641aBitLaw
namespace Go.Proofs.Qxb6621641a
open Go.RowKit
set_option linter.unusedVariables false

set_option maxHeartbeats 400000 in
theorem law_nil (w : World) :
    Calls Try.prog 3 #[.slice none 0 0, .int .i64 0] w fun e w' => e = .returned (.bool true) ∧ Below w.heap.size w w' := by
  go_enter Try.func3, Try.ntmps3
  go_wp2_with (first | (go_at_call 6; refine (zz6_yes _ _ _ _ _ (by omega)).mono ?_; rintro e w' ⟨rfl, rfl⟩) | (go_at_call 7; refine (clone_nil _).mono ?_; rintro e w' ⟨rfl, rfl⟩))
  refine wp_loop_rounds 1 ?_
  rw [rounds_succ]
  go_wp2_with fail
  refine wp_loop_rounds 1 ?_
  rw [rounds_succ]
  go_wp2_with fail
  refine (any_none' _ _ _ _).mono ?_
  rintro e w1 ⟨rfl, h1⟩
  have H1 : Hid (Below w.heap.size w w1) := ((Below.refl _ _).alloc (Nat.le_refl _) _).trans (h1.mono (by simp))
  have hs1 := H1.out.size
  clear h1
  go_wp2_with (go_at_call 7; refine (clone_nil _).mono ?_; rintro e w' ⟨rfl, rfl⟩)
  refine wp_loop_rounds 1 ?_
  rw [rounds_succ]
  go_wp2_with fail
  refine (any_none' _ _ _ _).mono ?_
  rintro e w2 ⟨rfl, h2⟩
  have H2 : Hid (Below w.heap.size w w2) := (H1.out.alloc hs1 _).trans (h2.mono (by simp; omega))
  have hs2 := H2.out.size
  have hc0 : w2.cell? ⟨w1.heap.size, 0, none⟩ = some (.slice none 0 0) := by rw [h2.cell (p := ⟨w1.heap.size, 0, none⟩) (by simp)]; rw [World.cell?_alloc_at _ _ _ _ rfl]; rfl
  have hc1 : w2.cell? ⟨w1.heap.size, 1, none⟩ = some (.int .i64 0) := by rw [h2.cell (p := ⟨w1.heap.size, 1, none⟩) (by simp)]; rw [World.cell?_alloc_at _ _ _ _ rfl]; rfl
  clear h2
  go_wp2_with fail
  refine wp_loop_rounds 1 ?_
  rw [rounds_succ]
  go_wp2_with fail
  refine (at_out' _ _ _ _ _ _ (.inr (Int.le_refl _))).mono ?_
  rintro e w3 ⟨rfl, h3⟩
  have H3 : Hid (Below w.heap.size w w3) := H2.out.trans (h3.mono hs2)
  have hs3 := H3.out.size
  clear h3 hc0 hc1
  go_wp2_with fail
  refine (any_none' _ _ _ _).mono ?_
  rintro e w4 ⟨rfl, h4⟩
  have H4 : Hid (Below w.heap.size w w4) := (H3.out.alloc hs3 _).trans (h4.mono (by simp; omega))
  clear h4
  go_wp2
  go_ret
  exact ⟨rfl, H4.out⟩
set_option maxHeartbeats 400000 in
theorem law_some (x : Addr) (cap : Nat) (w : World) :
    Calls Try.prog 3 #[.slice (some x) 0 cap, .int .i64 0] w fun e w' => e = .returned (.bool true) ∧ Below w.heap.size w w' := by
  go_enter Try.func3, Try.ntmps3
  go_wp2_with (first | (go_at_call 6; refine (zz6_yes _ _ _ _ _ (by omega)).mono ?_; rintro e w' ⟨rfl, rfl⟩) | (go_at_call 7; refine (clone_empty _ _ _).mono ?_; rintro e w' ⟨rfl, rfl⟩))
  refine wp_loop_rounds 1 ?_
  rw [rounds_succ]
  go_wp2_with fail
  refine wp_loop_rounds 1 ?_
  rw [rounds_succ]
  go_wp2_with fail
  refine (any_none' _ _ _ _).mono ?_
  rintro e w1 ⟨rfl, h1⟩
  have H1 : Hid (Below w.heap.size w w1) := ((((Below.refl _ _).alloc (Nat.le_refl _) _).alloc (by simp) _).alloc (by simp; omega) _).trans (h1.mono (by simp; omega))
  have hs1 := H1.out.size
  clear h1
  go_wp2_with (go_at_call 7; refine (clone_empty _ _ _).mono ?_; rintro e w' ⟨rfl, rfl⟩)
  refine wp_loop_rounds 1 ?_
  rw [rounds_succ]
  go_wp2_with fail
  refine (any_none' _ _ _ _).mono ?_
  rintro e w2 ⟨rfl, h2⟩
  have H2 : Hid (Below w.heap.size w w2) := ((H1.out.alloc hs1 _).alloc (by simp; omega) _).trans (h2.mono (by simp; omega))
  have hs2 := H2.out.size
  have hc0 : w2.cell? ⟨w1.heap.size + 1, 0, none⟩ = some (.slice (some ⟨w1.heap.size, 0, none⟩) 0 0) := by rw [h2.cell (p := ⟨w1.heap.size + 1, 0, none⟩) (by simp)]; rw [World.cell?_alloc_at _ _ _ _ (by simp)]; rfl
  have hc1 : w2.cell? ⟨w1.heap.size + 1, 1, none⟩ = some (.int .i64 0) := by rw [h2.cell (p := ⟨w1.heap.size + 1, 1, none⟩) (by simp)]; rw [World.cell?_alloc_at _ _ _ _ (by simp)]; rfl
  clear h2
  go_wp2_with fail
  refine wp_loop_rounds 1 ?_
  rw [rounds_succ]
  go_wp2_with fail
  refine (at_out' _ _ _ _ _ _ (.inr (Int.le_refl _))).mono ?_
  rintro e w3 ⟨rfl, h3⟩
  have H3 : Hid (Below w.heap.size w w3) := H2.out.trans (h3.mono hs2)
  have hs3 := H3.out.size
  clear h3 hc0 hc1
  go_wp2_with fail
  refine (any_none' _ _ _ _).mono ?_
  rintro e w4 ⟨rfl, h4⟩
  have H4 : Hid (Below w.heap.size w w4) := (H3.out.alloc hs3 _).trans (h4.mono (by simp; omega))
  clear h4
  go_wp2
  go_ret
  exact ⟨rfl, H4.out⟩
end Go.Proofs.Qxb6621641a
