/-
  THE LAW FnTimeTextDigitsReadsDecimal, WALKED.
-/
import Derived.Test.Qxb6621641aDigFns
namespace Go.Proofs.Qxb6621641a
open Go.RowKit
set_option linter.unusedVariables false

theorem zz11_yes (a : Option Addr) (len cap : Nat) (n : Int) (w : World) (h : len ≤ 1048576) :
    Calls Try.prog 11 #[.slice a len cap, .int .i64 n] w fun e w' => e = .returned (.bool true) ∧ w = w' := by
  go_enter Try.func11, Try.ntmps11
  go_wp2
  go_ret
  exact ⟨rfl, rfl⟩
theorem zz11_no (a : Option Addr) (len cap : Nat) (n : Int) (w : World) (h : 1048576 < len) :
    Calls Try.prog 11 #[.slice a len cap, .int .i64 n] w fun e w' => e = .returned (.bool false) ∧ w = w' := by
  go_enter Try.func11, Try.ntmps11
  go_wp2
  go_ret
  exact ⟨rfl, rfl⟩

theorem read_big (a : Option Addr) (len cap : Nat) (n : Int) (w : World) (h : 65536 < len ∨ n < 0) :
    Calls Try.prog 4 #[.slice a len cap, .int .i64 n] w fun e w' => e = .returned (.bool true) ∧ Below w.heap.size w w' := by
  by_cases h1 : 1048576 < len
  · go_enter Try.func4, Try.ntmps4
    go_wp2_with (go_at_call 11; refine (zz11_no _ _ _ _ _ h1).mono ?_; rintro e w' ⟨rfl, rfl⟩)
    go_ret
    exact ⟨rfl, Below.refl _ _⟩
  by_cases h2 : 65536 < len
  · go_enter Try.func4, Try.ntmps4
    go_wp2_with (go_at_call 11; refine (zz11_yes _ _ _ _ _ (by omega)).mono ?_; rintro e w' ⟨rfl, rfl⟩)
    go_ret
    exact ⟨rfl, Below.refl _ _⟩
  have h3 : n < 0 := by omega
  go_enter Try.func4, Try.ntmps4
  go_wp2_with (go_at_call 11; refine (zz11_yes _ _ _ _ _ (by omega)).mono ?_; rintro e w' ⟨rfl, rfl⟩)
  go_ret
  exact ⟨rfl, Below.refl _ _⟩

set_option maxHeartbeats 400000 in
theorem read_no (a : Option Addr) (len cap n : Nat) (zs : List Int) (w : World) (hl : len ≤ 65536) (hn : n ≤ 9223372036854775807) (hd : dp zs n = false) (h : Bytes w a len zs) :
    Calls Try.prog 4 #[.slice a len cap, .int .i64 n] w fun e w' => e = .returned (.bool true) ∧ Below w.heap.size w w' := by
  have HB : Hid (Bytes w a len zs) := h
  have HD : Hid (dp zs n = false) := hd
  have hnn : ¬ (n : Int) < 0 := by omega
  clear h hd
  go_enter Try.func4, Try.ntmps4
  go_wp2_with (go_at_call 11; refine (zz11_yes _ _ _ _ _ (by omega)).mono ?_; rintro e w' ⟨rfl, rfl⟩)
  refine (clone_bytes a len cap zs _ hl HB.out).mono ?_
  rintro e w1 ⟨a1, rfl, hb1, hw1⟩
  have B1 : Hid (Bytes w1 a1 len zs) := hb1
  have W1 : Hid (Below w.heap.size w w1) := hw1
  clear hb1 hw1
  go_wp2_with fail
  refine (clone_bytes a1 len len zs _ hl B1.out).mono ?_
  rintro e w2 ⟨a2, rfl, hb2, hw2⟩
  have C1 : Hid (Bytes w2 a1 len zs) := B1.out.keep hw2
  have C2 : Hid (Bytes w2 a2 len zs) := hb2
  have W2 : Hid (Below w.heap.size w w2) := W1.out.trans (hw2.mono W1.out.size)
  clear hb2 hw2
  go_wp2_with fail
  refine (zzd_no a1 len len n zs _ hl (Nat.le_refl _) hn HD.out C1.out).mono ?_
  rintro e w3 ⟨rfl, hw3⟩
  have D1 : Hid (Bytes w3 a1 len zs) := C1.out.keep hw3
  have D2 : Hid (Bytes w3 a2 len zs) := C2.out.keep hw3
  have W3 : Hid (Below w.heap.size w w3) := W2.out.trans (hw3.mono W2.out.size)
  clear hw3
  go_wp2_with fail
  refine (prefix_any a2 len len n zs _ hl hn D2.out).mono ?_
  rw [HD.out]
  rintro e w' ⟨rfl, rfl⟩
  go_wp2_with fail
  refine (same_any a1 a2 len len len zs _ hl D1.out D2.out).mono ?_
  rintro e w4 ⟨rfl, hw4⟩
  have W4 : Hid (Below w.heap.size w w4) := W3.out.trans (hw4.mono W3.out.size)
  clear hw4
  go_wp2
  go_ret
  exact ⟨rfl, W4.out⟩

set_option maxHeartbeats 400000 in
theorem read_yes (a : Option Addr) (len cap n : Nat) (zs : List Int) (w : World) (hl : len ≤ 65536) (hd : dp zs n = true) (h : Bytes w a len zs) :
    Calls Try.prog 4 #[.slice a len cap, .int .i64 n] w fun e w' => e = .returned (.bool true) ∧ Below w.heap.size w w' := by
  have HB : Hid (Bytes w a len zs) := h
  have HD : Hid (dp zs n = true) := hd
  have hnl : n ≤ len := by have := dp_len hd; have := h.size; omega
  have hnn : ¬ (n : Int) < 0 := by omega
  have hnz : (n : Int) ≤ (len : Int) := by omega
  clear h hd
  go_enter Try.func4, Try.ntmps4
  go_wp2_with (go_at_call 11; refine (zz11_yes _ _ _ _ _ (by omega)).mono ?_; rintro e w' ⟨rfl, rfl⟩)
  refine (clone_bytes a len cap zs _ hl HB.out).mono ?_
  rintro e w1 ⟨a1, rfl, hb1, hw1⟩
  have B1 : Hid (Bytes w1 a1 len zs) := hb1
  have W1 : Hid (Below w.heap.size w w1) := hw1
  clear hb1 hw1
  go_wp2_with fail
  refine (clone_bytes a1 len len zs _ hl B1.out).mono ?_
  rintro e w2 ⟨a2, rfl, hb2, hw2⟩
  have C1 : Hid (Bytes w2 a1 len zs) := B1.out.keep hw2
  have C2 : Hid (Bytes w2 a2 len zs) := hb2
  have W2 : Hid (Below w.heap.size w w2) := W1.out.trans (hw2.mono W1.out.size)
  clear hb2 hw2
  go_wp2_with fail
  refine (zzd_yes a1 len len n zs _ hl (Nat.le_refl _) HD.out C1.out).mono ?_
  rintro e w3 ⟨a3, rfl, hb3, hw3⟩
  have D1 : Hid (Bytes w3 a3 (len - n) (zs.drop n)) := hb3
  have D2 : Hid (Bytes w3 a2 len zs) := C2.out.keep hw3
  have W3 : Hid (Below w.heap.size w w3) := W2.out.trans (hw3.mono W2.out.size)
  clear hw3 hb3
  go_wp2_with fail
  refine (prefix_any a2 len len n zs _ hl (by omega) D2.out).mono ?_
  rw [HD.out]
  rintro e w' ⟨rfl, rfl⟩
  go_wp2_with fail
  refine (value_any a2 len len n zs _ hl HD.out D2.out).mono ?_
  rintro e w' ⟨rfl, rfl⟩
  by_cases hc : len = n
  · have E2 : Hid (Bytes w3 a2 0 (zs.drop n)) := by have := D2.out.cut_end (a' := a2) (n := n) (by omega); rwa [show len - n = 0 from by omega] at this
    have E1 : Hid (Bytes w3 a3 0 (zs.drop n)) := by have := D1.out; rwa [show len - n = 0 from by omega] at this
    go_wp2_with fail
    refine (same_any a3 a2 0 0 0 _ _ (by omega) E1.out E2.out).mono ?_
    rintro e w4 ⟨rfl, hw4⟩
    have W4 : Hid (Below w.heap.size w w4) := W3.out.trans (hw4.mono W3.out.size)
    clear hw4
    go_wp2
    go_ret
    exact ⟨rfl, W4.out⟩
  · have E2 : Hid (Bytes w3 (a2.map fun x => x.add n) (len - n) (zs.drop n)) := D2.out.cut hnl
    go_wp2_with fail
    refine (same_any a3 _ (len - n) _ _ _ _ (by omega) D1.out E2.out).mono ?_
    rintro e w4 ⟨rfl, hw4⟩
    have W4 : Hid (Below w.heap.size w w4) := W3.out.trans (hw4.mono W3.out.size)
    clear hw4
    go_wp2
    go_ret
    exact ⟨rfl, W4.out⟩
end Go.Proofs.Qxb6621641a
