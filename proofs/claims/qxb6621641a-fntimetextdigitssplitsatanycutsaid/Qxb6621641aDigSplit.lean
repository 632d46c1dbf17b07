/-
  THE LAW FnTimeTextDigitsSplitsAtAnyCut, WALKED.
-/
import Derived.Test.Qxb6621641aDigFns
namespace Go.Proofs.Qxb6621641a
open Go.RowKit
set_option linter.unusedVariables false

theorem zz16_yes (a : Option Addr) (len cap : Nat) (n m : Int) (w : World) (h : len ≤ 1048576) :
    Calls Try.prog 16 #[.slice a len cap, .int .i64 n, .int .i64 m] w fun e w' => e = .returned (.bool true) ∧ w = w' := by
  go_enter Try.func16, Try.ntmps16
  go_wp2
  go_ret
  exact ⟨rfl, rfl⟩
theorem zz16_no (a : Option Addr) (len cap : Nat) (n m : Int) (w : World) (h : 1048576 < len) :
    Calls Try.prog 16 #[.slice a len cap, .int .i64 n, .int .i64 m] w fun e w' => e = .returned (.bool false) ∧ w = w' := by
  go_enter Try.func16, Try.ntmps16
  go_wp2
  go_ret
  exact ⟨rfl, rfl⟩

theorem split_big (a : Option Addr) (len cap : Nat) (n m : Int) (w : World) (h : 65536 < len ∨ n < 0 ∨ m < 0 ∨ 536870912 < n ∨ 536870912 < m) :
    Calls Try.prog 5 #[.slice a len cap, .int .i64 n, .int .i64 m] w fun e w' => e = .returned (.bool true) ∧ Below w.heap.size w w' := by
  by_cases h1 : 1048576 < len
  · go_enter Try.func5, Try.ntmps5
    go_wp2_with (go_at_call 16; refine (zz16_no _ _ _ _ _ _ h1).mono ?_; rintro e w' ⟨rfl, rfl⟩)
    go_ret
    exact ⟨rfl, Below.refl _ _⟩
  by_cases h2 : 65536 < len
  · go_enter Try.func5, Try.ntmps5
    go_wp2_with (go_at_call 16; refine (zz16_yes _ _ _ _ _ _ (by omega)).mono ?_; rintro e w' ⟨rfl, rfl⟩)
    go_ret
    exact ⟨rfl, Below.refl _ _⟩
  by_cases h3 : n < 0
  · go_enter Try.func5, Try.ntmps5
    go_wp2_with (go_at_call 16; refine (zz16_yes _ _ _ _ _ _ (by omega)).mono ?_; rintro e w' ⟨rfl, rfl⟩)
    go_ret
    exact ⟨rfl, Below.refl _ _⟩
  by_cases h4 : m < 0
  · go_enter Try.func5, Try.ntmps5
    go_wp2_with (go_at_call 16; refine (zz16_yes _ _ _ _ _ _ (by omega)).mono ?_; rintro e w' ⟨rfl, rfl⟩)
    go_ret
    exact ⟨rfl, Below.refl _ _⟩
  by_cases h5 : 536870912 < n
  · go_enter Try.func5, Try.ntmps5
    go_wp2_with (go_at_call 16; refine (zz16_yes _ _ _ _ _ _ (by omega)).mono ?_; rintro e w' ⟨rfl, rfl⟩)
    go_ret
    exact ⟨rfl, Below.refl _ _⟩
  have h6 : 536870912 < m := by omega
  go_enter Try.func5, Try.ntmps5
  go_wp2_with (go_at_call 16; refine (zz16_yes _ _ _ _ _ _ (by omega)).mono ?_; rintro e w' ⟨rfl, rfl⟩)
  go_ret
  exact ⟨rfl, Below.refl _ _⟩

set_option maxHeartbeats 400000 in
theorem split_b (a : Option Addr) (len cap n m : Nat) (zs : List Int) (w : World) (hl : len ≤ 65536) (hn : n ≤ 536870912) (hm : m ≤ 536870912) (h1 : dp zs n = true) (h2 : dp (zs.drop n) m = false) (h : Bytes w a len zs) :
    Calls Try.prog 5 #[.slice a len cap, .int .i64 n, .int .i64 m] w fun e w' => e = .returned (.bool true) ∧ Below w.heap.size w w' := by
  have HB : Hid (Bytes w a len zs) := h
  have hlen := h.size
  have H1 : Hid (dp zs n = true) := h1
  have H2 : Hid (dp (zs.drop n) m = false) := h2
  have H3 : Hid (dp zs (n + m) = false) := by show dp zs (n + m) = false; rw [dp_split, h1, h2]; rfl
  clear h1 h2
  have hnn : ¬ (n : Int) < 0 := by omega
  have hmm : ¬ (m : Int) < 0 := by omega
  have hn2 : ¬ (536870912 : Int) < (n : Int) := by omega
  have hm2 : ¬ (536870912 : Int) < (m : Int) := by omega
  have enm : (n : Int) + (m : Int) = ((n + m : Nat) : Int) := by omega
  have ENM : Hid ((n : Int) + (m : Int) = ((n + m : Nat) : Int)) := enm
  clear h enm
  go_enter Try.func5, Try.ntmps5
  go_wp2_with (go_at_call 16; refine (zz16_yes _ _ _ _ _ _ (by omega)).mono ?_; rintro e w' ⟨rfl, rfl⟩)
  refine (clone_bytes a len cap zs _ hl HB.out).mono ?_
  rintro e w1 ⟨a1, rfl, hb1, hw1⟩
  have B1 : Hid (Bytes w1 a1 len zs) := hb1
  have W1 : Hid (Below w.heap.size w w1) := hw1
  clear hb1 hw1
  go_wp2_with fail
  refine (clone_bytes a1 len len zs _ hl B1.out).mono ?_
  rintro e w2 ⟨a2, rfl, hb2, hw2⟩
  have C1 : Hid (Bytes w2 a1 len zs) := B1.out.keep hw2
  have C2 : Hid (Bytes w2 a2 len zs) := hb2
  have W2 : Hid (Below w.heap.size w w2) := W1.out.trans (hw2.mono W1.out.size)
  clear hb2 hw2 B1 W1
  go_wp2_with fail
  refine (zzd_yes a1 len len n zs _ hl (Nat.le_refl _) H1.out C1.out).mono ?_
  rintro e w3 ⟨a3, rfl, hb3, hw3⟩
  have D1 : Hid (Bytes w3 a1 len zs) := C1.out.keep hw3
  have D2 : Hid (Bytes w3 a2 len zs) := C2.out.keep hw3
  have D3 : Hid (Bytes w3 a3 (len - n) (zs.drop n)) := hb3
  have W3 : Hid (Below w.heap.size w w3) := W2.out.trans (hw3.mono W2.out.size)
  clear hb3 hw3 C1 C2 W2
  go_wp2_with fail
  refine (zzd_no a3 (len - n) (len - n) m (zs.drop n) _ (by omega) (by omega) (by omega) H2.out D3.out).mono ?_
  rintro e w4 ⟨rfl, hw4⟩
  have E1 : Hid (Bytes w4 a1 len zs) := D1.out.keep hw4
  have E2 : Hid (Bytes w4 a2 len zs) := D2.out.keep hw4
  have W4 : Hid (Below w.heap.size w w4) := W3.out.trans (hw4.mono W3.out.size)
  clear hw4 D1 D2 W3
  go_wp2_with fail
  rw [ENM.out]
  refine (zzd_no a1 len len (n + m) zs _ hl (Nat.le_refl _) (by omega) H3.out E1.out).mono ?_
  rintro e w5 ⟨rfl, hw5⟩
  have F1 : Hid (Bytes w5 a1 len zs) := E1.out.keep hw5
  have F2 : Hid (Bytes w5 a2 len zs) := E2.out.keep hw5
  have W5 : Hid (Below w.heap.size w w5) := W4.out.trans (hw5.mono W4.out.size)
  clear hw5 E1 E2 W4
  go_wp2_with fail
  rw [ENM.out]
  refine (prefix_any a2 len len (n + m) zs _ hl (by omega) F2.out).mono ?_
  rw [H3.out]
  rintro e w' ⟨rfl, rfl⟩
  go_wp2_with fail
  refine (same_any a1 a2 len len len zs _ hl F1.out F2.out).mono ?_
  rintro e w6 ⟨rfl, hw6⟩
  have W6 : Hid (Below w.heap.size w w6) := W5.out.trans (hw6.mono W5.out.size)
  clear hw6
  go_wp2
  go_ret
  exact ⟨rfl, W6.out⟩

set_option maxHeartbeats 400000 in
theorem split_c (a : Option Addr) (len cap n m : Nat) (zs : List Int) (w : World) (hl : len ≤ 65536) (hn : n ≤ 536870912) (hm : m ≤ 536870912) (h1 : dp zs n = false) (h2 : dp zs m = true) (h : Bytes w a len zs) :
    Calls Try.prog 5 #[.slice a len cap, .int .i64 n, .int .i64 m] w fun e w' => e = .returned (.bool true) ∧ Below w.heap.size w w' := by
  have HB : Hid (Bytes w a len zs) := h
  have hlen := h.size
  have H1 : Hid (dp zs n = false) := h1
  have H2 : Hid (dp zs m = true) := h2
  have H3 : Hid (dp zs (n + m) = false) := by show dp zs (n + m) = false; rw [dp_split, h1]; rfl
  clear h1 h2
  have hnn : ¬ (n : Int) < 0 := by omega
  have hmm : ¬ (m : Int) < 0 := by omega
  have hn2 : ¬ (536870912 : Int) < (n : Int) := by omega
  have hm2 : ¬ (536870912 : Int) < (m : Int) := by omega
  have enm : (n : Int) + (m : Int) = ((n + m : Nat) : Int) := by omega
  have ENM : Hid ((n : Int) + (m : Int) = ((n + m : Nat) : Int)) := enm
  clear h enm
  go_enter Try.func5, Try.ntmps5
  go_wp2_with (go_at_call 16; refine (zz16_yes _ _ _ _ _ _ (by omega)).mono ?_; rintro e w' ⟨rfl, rfl⟩)
  refine (clone_bytes a len cap zs _ hl HB.out).mono ?_
  rintro e w1 ⟨a1, rfl, hb1, hw1⟩
  have B1 : Hid (Bytes w1 a1 len zs) := hb1
  have W1 : Hid (Below w.heap.size w w1) := hw1
  clear hb1 hw1
  go_wp2_with fail
  refine (clone_bytes a1 len len zs _ hl B1.out).mono ?_
  rintro e w2 ⟨a2, rfl, hb2, hw2⟩
  have C1 : Hid (Bytes w2 a1 len zs) := B1.out.keep hw2
  have C2 : Hid (Bytes w2 a2 len zs) := hb2
  have W2 : Hid (Below w.heap.size w w2) := W1.out.trans (hw2.mono W1.out.size)
  clear hb2 hw2 B1 W1
  go_wp2_with fail
  refine (zzd_no a1 len len n zs _ hl (Nat.le_refl _) (by omega) H1.out C1.out).mono ?_
  rintro e w3 ⟨rfl, hw3⟩
  have D1 : Hid (Bytes w3 a1 len zs) := C1.out.keep hw3
  have D2 : Hid (Bytes w3 a2 len zs) := C2.out.keep hw3
  have W3 : Hid (Below w.heap.size w w3) := W2.out.trans (hw3.mono W2.out.size)
  clear hw3 C1 C2 W2
  go_wp2_with fail
  refine (zzd_yes a1 len len m zs _ (by omega) (by omega) H2.out D1.out).mono ?_
  rintro e w4 ⟨a4, rfl, hb4, hw4⟩
  have E1 : Hid (Bytes w4 a1 len zs) := D1.out.keep hw4
  have E2 : Hid (Bytes w4 a2 len zs) := D2.out.keep hw4
  have E4 : Hid (Bytes w4 a4 (len - m) ((zs).drop m)) := hb4
  have W4 : Hid (Below w.heap.size w w4) := W3.out.trans (hw4.mono W3.out.size)
  clear hb4 hw4 D1 D2 W3
  go_wp2_with fail
  rw [ENM.out]
  refine (zzd_no a1 len len (n + m) zs _ hl (Nat.le_refl _) (by omega) H3.out E1.out).mono ?_
  rintro e w5 ⟨rfl, hw5⟩
  have F1 : Hid (Bytes w5 a1 len zs) := E1.out.keep hw5
  have F2 : Hid (Bytes w5 a2 len zs) := E2.out.keep hw5
  have W5 : Hid (Below w.heap.size w w5) := W4.out.trans (hw5.mono W4.out.size)
  clear hw5 E1 E2 W4
  go_wp2_with fail
  rw [ENM.out]
  refine (prefix_any a2 len len (n + m) zs _ hl (by omega) F2.out).mono ?_
  rw [H3.out]
  rintro e w' ⟨rfl, rfl⟩
  go_wp2_with fail
  refine (same_any a1 a2 len len len zs _ hl F1.out F2.out).mono ?_
  rintro e w6 ⟨rfl, hw6⟩
  have W6 : Hid (Below w.heap.size w w6) := W5.out.trans (hw6.mono W5.out.size)
  clear hw6
  go_wp2
  go_ret
  exact ⟨rfl, W6.out⟩

set_option maxHeartbeats 400000 in
theorem split_d (a : Option Addr) (len cap n m : Nat) (zs : List Int) (w : World) (hl : len ≤ 65536) (hn : n ≤ 536870912) (hm : m ≤ 536870912) (h1 : dp zs n = false) (h2 : dp zs m = false) (h : Bytes w a len zs) :
    Calls Try.prog 5 #[.slice a len cap, .int .i64 n, .int .i64 m] w fun e w' => e = .returned (.bool true) ∧ Below w.heap.size w w' := by
  have HB : Hid (Bytes w a len zs) := h
  have hlen := h.size
  have H1 : Hid (dp zs n = false) := h1
  have H2 : Hid (dp zs m = false) := h2
  have H3 : Hid (dp zs (n + m) = false) := by show dp zs (n + m) = false; rw [dp_split, h1]; rfl
  clear h1 h2
  have hnn : ¬ (n : Int) < 0 := by omega
  have hmm : ¬ (m : Int) < 0 := by omega
  have hn2 : ¬ (536870912 : Int) < (n : Int) := by omega
  have hm2 : ¬ (536870912 : Int) < (m : Int) := by omega
  have enm : (n : Int) + (m : Int) = ((n + m : Nat) : Int) := by omega
  have ENM : Hid ((n : Int) + (m : Int) = ((n + m : Nat) : Int)) := enm
  clear h enm
  go_enter Try.func5, Try.ntmps5
  go_wp2_with (go_at_call 16; refine (zz16_yes _ _ _ _ _ _ (by omega)).mono ?_; rintro e w' ⟨rfl, rfl⟩)
  refine (clone_bytes a len cap zs _ hl HB.out).mono ?_
  rintro e w1 ⟨a1, rfl, hb1, hw1⟩
  have B1 : Hid (Bytes w1 a1 len zs) := hb1
  have W1 : Hid (Below w.heap.size w w1) := hw1
  clear hb1 hw1
  go_wp2_with fail
  refine (clone_bytes a1 len len zs _ hl B1.out).mono ?_
  rintro e w2 ⟨a2, rfl, hb2, hw2⟩
  have C1 : Hid (Bytes w2 a1 len zs) := B1.out.keep hw2
  have C2 : Hid (Bytes w2 a2 len zs) := hb2
  have W2 : Hid (Below w.heap.size w w2) := W1.out.trans (hw2.mono W1.out.size)
  clear hb2 hw2 B1 W1
  go_wp2_with fail
  refine (zzd_no a1 len len n zs _ hl (Nat.le_refl _) (by omega) H1.out C1.out).mono ?_
  rintro e w3 ⟨rfl, hw3⟩
  have D1 : Hid (Bytes w3 a1 len zs) := C1.out.keep hw3
  have D2 : Hid (Bytes w3 a2 len zs) := C2.out.keep hw3
  have W3 : Hid (Below w.heap.size w w3) := W2.out.trans (hw3.mono W2.out.size)
  clear hw3 C1 C2 W2
  go_wp2_with fail
  refine (zzd_no a1 len len m zs _ (by omega) (by omega) (by omega) H2.out D1.out).mono ?_
  rintro e w4 ⟨rfl, hw4⟩
  have E1 : Hid (Bytes w4 a1 len zs) := D1.out.keep hw4
  have E2 : Hid (Bytes w4 a2 len zs) := D2.out.keep hw4
  have W4 : Hid (Below w.heap.size w w4) := W3.out.trans (hw4.mono W3.out.size)
  clear hw4 D1 D2 W3
  go_wp2_with fail
  rw [ENM.out]
  refine (zzd_no a1 len len (n + m) zs _ hl (Nat.le_refl _) (by omega) H3.out E1.out).mono ?_
  rintro e w5 ⟨rfl, hw5⟩
  have F1 : Hid (Bytes w5 a1 len zs) := E1.out.keep hw5
  have F2 : Hid (Bytes w5 a2 len zs) := E2.out.keep hw5
  have W5 : Hid (Below w.heap.size w w5) := W4.out.trans (hw5.mono W4.out.size)
  clear hw5 E1 E2 W4
  go_wp2_with fail
  rw [ENM.out]
  refine (prefix_any a2 len len (n + m) zs _ hl (by omega) F2.out).mono ?_
  rw [H3.out]
  rintro e w' ⟨rfl, rfl⟩
  go_wp2_with fail
  refine (same_any a1 a2 len len len zs _ hl F1.out F2.out).mono ?_
  rintro e w6 ⟨rfl, hw6⟩
  have W6 : Hid (Below w.heap.size w w6) := W5.out.trans (hw6.mono W5.out.size)
  clear hw6
  go_wp2
  go_ret
  exact ⟨rfl, W6.out⟩

set_option maxHeartbeats 400000 in
theorem split_a (a : Option Addr) (len cap n m : Nat) (zs : List Int) (w : World) (hl : len ≤ 65536) (hn : n ≤ 536870912) (hm : m ≤ 536870912) (h1 : dp zs n = true) (h2 : dp (zs.drop n) m = true) (h : Bytes w a len zs) :
    Calls Try.prog 5 #[.slice a len cap, .int .i64 n, .int .i64 m] w fun e w' => e = .returned (.bool true) ∧ Below w.heap.size w w' := by
  have HB : Hid (Bytes w a len zs) := h
  have hlen := h.size
  have H1 : Hid (dp zs n = true) := h1
  have H2 : Hid (dp (zs.drop n) m = true) := h2
  have H3 : Hid (dp zs (n + m) = true) := by show dp zs (n + m) = true; rw [dp_split, h1, h2]; rfl
  have hnm : n + m ≤ len := by have := dp_len H3.out; omega
  clear h1 h2
  have hnn : ¬ (n : Int) < 0 := by omega
  have hmm : ¬ (m : Int) < 0 := by omega
  have hn2 : ¬ (536870912 : Int) < (n : Int) := by omega
  have hm2 : ¬ (536870912 : Int) < (m : Int) := by omega
  have enm : (n : Int) + (m : Int) = ((n + m : Nat) : Int) := by omega
  have ENM : Hid ((n : Int) + (m : Int) = ((n + m : Nat) : Int)) := enm
  clear h enm
  go_enter Try.func5, Try.ntmps5
  go_wp2_with (go_at_call 16; refine (zz16_yes _ _ _ _ _ _ (by omega)).mono ?_; rintro e w' ⟨rfl, rfl⟩)
  refine (clone_bytes a len cap zs _ hl HB.out).mono ?_
  rintro e w1 ⟨a1, rfl, hb1, hw1⟩
  have B1 : Hid (Bytes w1 a1 len zs) := hb1
  have W1 : Hid (Below w.heap.size w w1) := hw1
  clear hb1 hw1
  go_wp2_with fail
  refine (clone_bytes a1 len len zs _ hl B1.out).mono ?_
  rintro e w2 ⟨a2, rfl, hb2, hw2⟩
  have C1 : Hid (Bytes w2 a1 len zs) := B1.out.keep hw2
  have C2 : Hid (Bytes w2 a2 len zs) := hb2
  have W2 : Hid (Below w.heap.size w w2) := W1.out.trans (hw2.mono W1.out.size)
  clear hb2 hw2 B1 W1
  go_wp2_with fail
  refine (zzd_yes a1 len len n zs _ hl (Nat.le_refl _) H1.out C1.out).mono ?_
  rintro e w3 ⟨a3, rfl, hb3, hw3⟩
  have D1 : Hid (Bytes w3 a1 len zs) := C1.out.keep hw3
  have D2 : Hid (Bytes w3 a2 len zs) := C2.out.keep hw3
  have D3 : Hid (Bytes w3 a3 (len - n) (zs.drop n)) := hb3
  have W3 : Hid (Below w.heap.size w w3) := W2.out.trans (hw3.mono W2.out.size)
  clear hb3 hw3 C1 C2 W2
  go_wp2_with fail
  refine (zzd_yes a3 (len - n) (len - n) m (zs.drop n) _ (by omega) (by omega) H2.out D3.out).mono ?_
  rintro e w4 ⟨a4, rfl, hb4, hw4⟩
  have E1 : Hid (Bytes w4 a1 len zs) := D1.out.keep hw4
  have E2 : Hid (Bytes w4 a2 len zs) := D2.out.keep hw4
  have E4 : Hid (Bytes w4 a4 ((len - n) - m) (((zs.drop n)).drop m)) := hb4
  have W4 : Hid (Below w.heap.size w w4) := W3.out.trans (hw4.mono W3.out.size)
  clear hb4 hw4 D1 D2 W3
  go_wp2_with fail
  rw [ENM.out]
  refine (zzd_yes a1 len len (n + m) zs _ hl (Nat.le_refl _) H3.out E1.out).mono ?_
  rintro e w5 ⟨a5, rfl, hb5, hw5⟩
  have F2 : Hid (Bytes w5 a2 len zs) := E2.out.keep hw5
  have F4 : Hid (Bytes w5 a4 (len - n - m) ((zs.drop n).drop m)) := E4.out.keep hw5
  have F5 : Hid (Bytes w5 a5 (len - (n + m)) (zs.drop (n + m))) := hb5
  have W5 : Hid (Below w.heap.size w w5) := W4.out.trans (hw5.mono W4.out.size)
  clear hw5 E1 E2 W4
  go_wp2_with fail
  rw [ENM.out]
  refine (prefix_any a2 len len (n + m) zs _ hl (by omega) F2.out).mono ?_
  rw [H3.out]
  rintro e w' ⟨rfl, rfl⟩
  go_wp2_with fail
  have HV : Hid (wrap64 (wrap64 (wrap64 (dec (zs.take n)) * wrap64 (10 ^ m)) + wrap64 (dec ((zs.drop n).take m))) = wrap64 (dec (zs.take (n + m)))) := by
    show _ = _
    rw [wrap_split, dec_split zs n m (by omega)]
  go_loop [17, 18] (fun p i => ∃ k : Nat, k ≤ m ∧ i = .int .i64 k ∧ p = .int .i64 (wrap64 (10 ^ k))) (fun _ i => m - (intOf i).toNat)
  case atStart => exact ⟨0, Nat.zero_le _, rfl, by rw [Int.pow_zero, wrap_one]⟩
  case round =>
    obtain ⟨k, hk, rfl, rfl⟩ := hrel
    by_cases hkm : k < m
    · have hkz : (k : Int) < (m : Int) := by omega
      have HP : Hid ((10 : Int) ^ (k + 1) = 10 ^ k * 10) := Int.pow_succ _ _
      obtain ⟨p, hp⟩ : ∃ p : Int, p = 10 ^ k := ⟨_, rfl⟩
      rw [← hp] at HP ⊢
      clear hp
      go_wp2
      go_round
      case rel => exact ⟨k + 1, by omega, by go_num, by rw [HP.out, wrap_mul]⟩
      case measure => simp [intOf]; omega
    · have hge : (m : Int) ≤ (k : Int) := by omega
      have e : m = k := by omega
      subst e
      have F4' : Hid (Bytes w5 a4 (len - n - m) (zs.drop (n + m))) := by have := F4.out; rwa [List.drop_drop] at this
      have F5' : Hid (Bytes w5 a5 (len - n - m) (zs.drop (n + m))) := by have := F5.out; rwa [Nat.sub_sub]
      have hval := HV.out
      clear HV
      go_wp2_with fail
      clear hval
      rw [show len - (n + m) = len - n - m from (Nat.sub_sub _ _ _).symm]
      refine (same_any a4 a5 (len - n - m) _ _ _ _ (by omega) F4'.out F5'.out).mono ?_
      rintro e w6 ⟨rfl, hw6⟩
      have G5 : Hid (Bytes w6 a5 (len - n - m) (zs.drop (n + m))) := F5'.out.keep hw6
      have G2 : Hid (Bytes w6 a2 len zs) := F2.out.keep hw6
      have W6 : Hid (Below w.heap.size w w6) := W5.out.trans (hw6.mono W5.out.size)
      clear hw6 F4 F5 F4' F5' W5 F2
      have hnmz : (n : Int) + (m : Int) ≤ (len : Int) := by omega
      by_cases hc : len = n + m
      · have G5' : Hid (Bytes w6 a5 0 (zs.drop (n + m))) := by have := G5.out; rwa [show len - n - m = 0 from by omega] at this
        have G2' : Hid (Bytes w6 a2 0 (zs.drop (n + m))) := by have := G2.out.cut_end (a' := a2) (n := n + m) (by omega); rwa [show len - (n + m) = 0 from by omega] at this
        go_wp2_with fail
        refine (same_any a5 a2 0 0 0 _ _ (by omega) G5'.out G2'.out).mono ?_
        rintro e w7 ⟨rfl, hw7⟩
        have W7 : Hid (Below w.heap.size w w7) := W6.out.trans (hw7.mono W6.out.size)
        clear hw7
        go_wp2
        go_ret
        exact ⟨rfl, W7.out⟩
      · have G5' : Hid (Bytes w6 a5 (len - (n + m)) (zs.drop (n + m))) := by have := G5.out; rwa [Nat.sub_sub] at this
        have G2' : Hid (Bytes w6 (a2.map fun x => x.add (n + m)) (len - (n + m)) (zs.drop (n + m))) := G2.out.cut hnm
        go_wp2_with fail
        rw [Nat.sub_sub]
        refine (same_any a5 _ (len - (n + m)) _ _ _ _ (by omega) G5'.out G2'.out).mono ?_
        rintro e w7 ⟨rfl, hw7⟩
        have W7 : Hid (Below w.heap.size w w7) := W6.out.trans (hw7.mono W6.out.size)
        clear hw7
        go_wp2
        go_ret
        exact ⟨rfl, W7.out⟩

end Go.Proofs.Qxb6621641a
