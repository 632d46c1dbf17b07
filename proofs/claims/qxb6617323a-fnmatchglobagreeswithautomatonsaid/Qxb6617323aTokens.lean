/-
  THE WALK OF zzTokens.
-/
import Derived.Test.Qxb6617323aSet
import Derived.Test.Qxb6617323aTok
import Derived.Great.BuildSlice
import Derived.Laws.AppendOwn
namespace Go.Proofs.Qxb6617323a
open Go.RowKit Go.PlainAid
set_option linter.unusedVariables false

/-! ### the cells of a token -/
def tokC (s : Bool) (S : Int → Bool) : List Value := .bool s :: boolL S
def tokA (s : Bool) (S : Int → Bool) : Array Value := (tokC s S).toArray
def tokL : Tok → List Value
  | none => tokC true fun _ => false
  | some S => tokC false S
theorem tokC_length (s : Bool) (S : Int → Bool) : (tokC s S).length = 257 := by simp [tokC, boolL_length]
theorem tokA_size (s : Bool) (S : Int → Bool) : (tokA s S).size = 257 := by simp [tokA, tokC_length]
theorem tokL_length (t : Tok) : (tokL t).length = 257 := by cases t <;> exact tokC_length _ _
theorem tokA_zero (s : Bool) (S : Int → Bool) : (tokA s S)[0]? = some (.bool s) := by simp [tokA, tokC]
theorem tokA_succ (s : Bool) (S : Int → Bool) (k : Nat) (h : k < 256) : (tokA s S)[k + 1]? = some (.bool (S k)) := by
  simp [tokA, tokC, boolL, h]
theorem tokA_out (s : Bool) (S : Int → Bool) (k : Nat) (h : 257 ≤ k) : (tokA s S)[k]? = none := Array.getElem?_eq_none (by rw [tokA_size]; exact h)
theorem tokC_congr (s : Bool) {S S' : Int → Bool} (h : ∀ k : Nat, k < 256 → S k = S' k) : tokC s S = tokC s S' := by
  have e := arrB_congr h
  unfold arrB at e
  unfold tokC
  rw [show boolL S = boolL S' by simpa using e]
theorem tokA_set0 (s v : Bool) (S : Int → Bool) : (tokA s S).setIfInBounds 0 (.bool v) = tokA v S := by
  simp [tokA, tokC]
theorem tokA_set (s : Bool) (S : Int → Bool) (y : Int) (h0 : 0 ≤ y) (h1 : y ≤ 255) : (tokA s S).setIfInBounds (1 + y.toNat) (.bool true) = tokA s (addB S y) := by
  rw [Nat.add_comm]
  have h := arrB_add S y h0 h1
  unfold arrB at h
  simp at h
  simp [tokA, tokC, h]
theorem tokC_one (s : Bool) (S : Int → Bool) : ∀ u ∈ tokC s S, u.oneCell' = true := by
  intro u hu
  simp only [tokC, List.mem_cons] at hu
  rcases hu with rfl | hu
  · rfl
  · obtain ⟨k, _, rfl⟩ := List.mem_map.1 hu
    rfl
theorem Try.info38 : (Try.prog.info? 38).map (fun i => (i.zero, i.size)) = some (some (.agg (tokA false fun _ => false)), 257) := by kernel_rfl
theorem Try.info38' : ∃ i, Try.prog.info? 38 = some i ∧ i.zero = some (.agg (tokA false fun _ => false)) ∧ i.size = 257 ∧ i.bytes = 257 := by
  have h1 := Try.info38
  have h2 : (Try.prog.info? 38).map (·.bytes) = some 257 := by kernel_rfl
  cases hq : Try.prog.info? 38 with
  | none => rw [hq] at h1; cases h1
  | some i =>
    rw [hq] at h1 h2
    simp only [Option.map_some, Option.some.injEq, Prod.mk.injEq] at h1 h2
    exact ⟨i, rfl, h1.1, h1.2, h2⟩
theorem Try.size38 : (Try.prog.info? 38).map (·.size) = some 257 := (zero_of_info Try.info38).2

/-- The token at block b. -/
def TokAt (W : World) (b : Nat) (s : Bool) (S : Int → Bool) : Prop := W.heap[b]? = some (.cells (tokA s S) 38 (0, 0))
theorem TokAt.cell0 {W : World} {b : Nat} {s : Bool} {S : Int → Bool} (h : TokAt W b s S) : W.cell? ⟨b, 0, none⟩ = some (.bool s) := by
  rw [cell_of_row _ _ 0 _ _ _ h, tokA_zero]
theorem TokAt.cell {W : World} {b : Nat} {s : Bool} {S : Int → Bool} (h : TokAt W b s S) (k : Nat) (hk : k < 256) : W.cell? ⟨b, 1 + k, none⟩ = some (.bool (S k)) := by
  rw [Nat.add_comm, cell_of_row _ _ (k + 1) _ _ _ h, tokA_succ _ _ _ hk]
theorem TokAt.froz {W : World} {b : Nat} {s : Bool} {S : Int → Bool} (h : TokAt W b s S) (k : Nat) : W.frozen? ⟨b, k, none⟩ = false := by
  unfold TokAt at h
  simp [World.frozen?, h]
/-- The world with one more token. -/
def W1 (w : World) (s : Bool) (S : Int → Bool) : World := w.alloc (.cells (tokA s S) 38)
theorem W1_at (w : World) (s : Bool) (S : Int → Bool) : TokAt (W1 w s S) w.heap.size s S := heap_alloc_last w _
theorem W1_set0 (w : World) (s v : Bool) (S : Int → Bool) : (W1 w s S).setCell ⟨w.heap.size, 0, none⟩ (.bool v) = W1 w v S := by
  rw [setCell_eq_setRow _ _ _ _ _ _ _ (W1_at w s S), tokA_set0]
  exact World.setRow_alloc_new w _ _ _
theorem W1_set (w : World) (s : Bool) (S : Int → Bool) (y : Int) (h0 : 0 ≤ y) (h1 : y ≤ 255) : (W1 w s S).setCell ⟨w.heap.size, 1 + y.toNat, none⟩ (.bool true) = W1 w s (addB S y) := by
  rw [setCell_eq_setRow _ _ _ _ _ _ _ (W1_at w s S), tokA_set s S y h0 h1]
  exact World.setRow_alloc_new w _ _ _
theorem W1_congr (w : World) (s : Bool) {S S' : Int → Bool} (h : ∀ k : Nat, k < 256 → S k = S' k) : W1 w s S = W1 w s S' := by
  unfold W1 tokA; rw [tokC_congr s h]
theorem fillTok (s : Bool) (S : Int → Bool) (F : Nat → Value) (n : Nat) (hn : n = 257) : Instr.fill (fun i => some (i * n, n)) ((Array.range (1 * n)).map F) [(0, .agg (tokA s S))] = some (tokA s S) := by
  subst hn
  have h := Great.fill_whole (s := 257) (by omega) [.agg (tokA s S)] ((Array.range (1 * 257)).map F) (by intro v hv; simp at hv; subst hv; exact tokA_size s S) (by simp)
  simpa [Value.cells] using h

/-- The tokens that stand so far. -/
structure Toks (w W : World) (v : Value) (L : List Tok) : Prop where
  own : W.ownsRow w.heap.size 38 257 v L.length (L.flatMap tokL)
  bel : Below w.heap.size w W
theorem Toks.big {w W : World} {v : Value} {L : List Tok} (h : Toks w W v L) : w.heap.size ≤ W.heap.size := h.bel.size
theorem ownsRow_below {W W' : World} {base n size B : Nat} {e : TypeId} {v : Value} {xs : List Value} (h : W.ownsRow base e size v n xs) (hb : Below B W W') (hB : ∀ k, v.ownBlock = some k → k < B) : W'.ownsRow base e size v n xs := by
  refine ⟨h.1, ?_⟩
  rcases h.2 with h2 | ⟨g, cap, cur, rfl, h3, h4, h5⟩
  · exact .inl h2
  · exact .inr ⟨g, cap, cur, rfl, h3, by rw [hb.block g (hB g rfl)]; exact h4, h5⟩
theorem Toks.keep {w W W' : World} {v : Value} {L : List Tok} (h : Toks w W v L) {B : Nat} (hb : Below B W W') (hB : W.heap.size ≤ B) : Toks w W' v L :=
  ⟨ownsRow_below h.own hb (fun k hk => Nat.lt_of_lt_of_le (h.own.lt k hk).2 hB), h.bel.trans (hb.mono (Nat.le_trans h.big hB))⟩
theorem Toks.alloc {w W : World} {v : Value} {L : List Tok} (h : Toks w W v L) (o : Obj) : Toks w (W.alloc o) v L := h.keep ((Below.refl W.heap.size W).alloc (Nat.le_refl _) o) (Nat.le_refl _)
theorem Toks.more {w W w1 : World} {v v1 : Value} {L : List Tok} {tok : Tok} {s : Bool} {S : Int → Bool} (h : Toks w W v L) (hown : w1.ownsRow w.heap.size 38 257 v1 (L.length + 1) (L.flatMap tokL ++ tokC s S)) (hg : W.grownBy w1 v.ownBlock) (ht : tokC s S = tokL tok) : Toks w w1 v1 (L ++ [tok]) := by
  refine ⟨?_, h.bel.grown hg h.big (fun k hk => (h.own.lt k hk).1)⟩
  rw [List.length_append, List.flatMap_append, List.flatMap_singleton, ← ht]
  exact hown
theorem below_setRow' {B : Nat} {a w : World} (h : Below B a w) {b : Nat} (hb : B ≤ b) (C : Array Value) : Below B a (w.setRow b C) :=
  ⟨h.os, h.tape, h.output, by show _ ≤ (w.setRow b C).heap.size; simp only [World.setRow, Array.size_modify]; exact h.size, fun k hk => by rw [setRow_other w b k C (by omega)]; exact h.block k hk⟩
theorem storeNew (w : World) (S : Int → Bool) : (storeCells ⟨w.heap.size, 0, none⟩ (arrB S).toList).run Try.prog (w.alloc (.cells (arrB fun _ => false) 25)) = .ok () (w.alloc (.cells (arrB S) 25)) :=
  run_storeCells_new w 25 (arrB fun _ => false) (arrB S) (by rw [arrB_size]; exact Try.size25) (by rw [arrB_size, arrB_size]) (arrB_one S)
theorem storeMid (W : World) (b : Nat) (s : Bool) (S S' : Int → Bool) (h : TokAt W b s S) : (storeCells ⟨b, 1, none⟩ (arrB S').toList).run Try.prog W = .ok () (W.setRow b (tokA s S')) := by
  have h1 := run_storeCells_at (P := Try.prog) b 1 38 (arrB S').toList 0 (tokA s S) W h (by simp [arrB_size, tokA_size]) (fun v hv => by
    have h1 := arrB_one S'
    rw [Array.all_eq_true'] at h1
    exact h1 v (by simpa using hv))
  have e1 : (tokA s S).toList.take (1 + 0) = [.bool s] := rfl
  have e2 : (tokA s S).toList.drop (1 + 0 + (arrB S').toList.length) = [] := List.drop_eq_nil_of_le (by rw [Array.length_toList, Array.length_toList, tokA_size, arrB_size]; omega)
  rw [h1, e1, e2, List.append_nil]
  rfl
theorem TokAt.set {W : World} {b : Nat} {s : Bool} {S : Int → Bool} (h : TokAt W b s S) (S' : Int → Bool) : TokAt (W.setRow b (tokA s S')) b s S' := setRow_heap W b _ _ _ _ h
theorem TokAt.keep {W W' : World} {b B : Nat} {s : Bool} {S : Int → Bool} (h : TokAt W b s S) (hb : Below B W W') (hB : b < B) : TokAt W' b s S := by
  unfold TokAt; rw [hb.block b hB]; exact h
theorem TokAt.lt {W : World} {b : Nat} {s : Bool} {S : Int → Bool} (h : TokAt W b s S) : b < W.heap.size := (Array.getElem?_eq_some_iff.1 h).1
theorem tok_lit (y : Int) : tokC false (addB (fun _ => false) y) = tokL (some fun c => y == c) := tokC_congr false fun k _ => by
  show (false || (k : Int) == y) = (y == (k : Int))
  rw [Bool.false_or]; exact BEq.comm
theorem newsTok (W : World) (s : Bool) (S : Int → Bool) : ∀ j u, (tokC s S)[j]? = some u → (W.alloc (.cells (tokA s S) 38)).cell? ((⟨W.heap.size, 0, none⟩ : Addr).add j) = some u := by
  intro j u hu
  rw [Addr.add_mid, cell_of_row _ _ _ _ _ _ (heap_alloc_last W _), Nat.zero_add]
  simpa [tokA] using hu

set_option maxRecDepth 100000 in
set_option maxHeartbeats 40000000 in
theorem tokens_any (glob : ByteArray) (w : World) (hg : glob.size ≤ 1048576) :
    Calls Try.prog 21 #[.string glob] w fun e w' => ∃ v, e = .returned v ∧ Toks w w' v (TK (bl glob) 0) := by
  have hz38 := (zero_of_info Try.info38).1
  have hz25 := (zero_of_info Try.info25).1
  obtain ⟨i0, hi0, hz0, hs0, hb0⟩ := Try.info38'
  have HI0 : Hid (Try.prog.info? 38 = some i0) := hi0
  have HZ0 : Hid (i0.zero = some (.agg (tokA false fun _ => false))) := hz0
  have HS0 : Hid (i0.size = 257) := hs0
  have HB0 : Hid (i0.bytes = 257) := hb0
  clear hi0 hz0 hs0 hb0
  have hb := get_bt glob
  have HL : Hid ((bl glob).length = glob.size) := bl_length glob
  go_enter Try.func21, Try.ntmps21
  go_wp2_with fail
  go_loopg [3, 4] (glob.size + 1) (fun f v3 v4 wr => ∃ (g : Nat) (L : List Tok), v4 = .int .i64 g ∧ g ≤ glob.size ∧ glob.size < g + f ∧ L.length ≤ g ∧ L ++ tkF (bl glob) f g = TK (bl glob) 0 ∧ Toks w wr v3 L)
  case atStart => exact ⟨0, [], rfl, by omega, by omega, by simp, (by rw [List.nil_append]; exact TK_of (by rw [HL.out]; omega)), ⟨World.ownsRow_nil _ _ _ _, Below.refl _ _⟩⟩
  case round =>
    obtain ⟨g, L, rfl, hgl, hf, hLg, hL, hT⟩ := hrel
    obtain ⟨f, rfl⟩ : ∃ f, gk = f + 1 := ⟨gk - 1, by omega⟩
    have HT : Hid (Toks w wr u3 L) := hT
    have HLL : Hid (L ++ tkF (bl glob) (f + 1) g = TK (bl glob) 0) := hL
    clear hL hT
    by_cases hil : g = glob.size
    ·
      have e1 : decide ((g : Int) < (glob.size : Int)) = false := decide_eq_false (by omega)
      have e2 : ¬ ((g : Int) < (glob.size : Int)) := by omega
      have HE : Hid (L = TK (bl glob) 0) := by show L = _; rw [← HLL.out, tk_end (by rw [HL.out]; omega), List.append_nil]
      clear hil
      go_wp2_with fail
      go_ret
      exact ⟨_, rfl, by rw [← HE.out]; exact HT.out⟩
    · have e1 : (g : Int) < (glob.size : Int) := by omega
      have hilt : g < glob.size := by omega
      have HIL : Hid (g < (bl glob).length) := by show _ < _; rw [HL.out]; exact hilt
      clear hil
      have HY : Hid (bt glob g = (bl glob).getD g 0) := bt_bl glob g
      by_cases a42 : bt glob g = 42
      ·
        have b1 : (bt glob g == 42) = true := by rw [a42]; rfl
        have HL2 : Hid ((L ++ [none]) ++ tkF (bl glob) f (g + 1) = TK (bl glob) 0) := by
          show _ = _; rw [← HLL.out, tk_star HIL.out (by rw [← HY.out]; exact a42), List.append_assoc]; rfl
        have c0 := tokA_set0 false true (fun _ => false)
        have HTA : Hid (TokAt (wr.alloc (.cells (tokA true fun _ => false) 38)) wr.heap.size true (fun _ => false)) := W1_at wr true _
        have HTW : Hid (Toks w (wr.alloc (.cells (tokA true fun _ => false) 38)) u3 L) := HT.out.alloc _
        clear a42
        go_wp2_with fail

        refine wp_load_row 38 _ rfl wr.heap.size rfl 38 (tokA true (fun _ => false)) (0, 0) _ HTA.out Try.underlying38 rfl (by rw [tokA_size]; exact Try.size38) ?_
        go_wp2_with fail
        refine wp_buildSlice 33 38 1 _ rfl (tokA true (fun _ => false)) i0 _ Try.underlying33 HI0.out HZ0.out (by rw [HS0.out]; decide) (by rw [HS0.out]; decide) (by rw [Array.toList_map]; exact fillTok true (fun _ => false) _ _ HS0.out) ?_
        go_wp2_with (at_builtin; refine wpList_append_own _ rfl (.tmp 80) (.tmp 82) 33 rfl w.heap.size 38 i0 _ 257 257 Try.underlying33 HI0.out HZ0.out HS0.out HB0.out (tokA_size _ _) (by decide) u3 L.length (L.flatMap tokL) rfl (HTW.out.alloc _).own ⟨(wr.alloc (.cells (tokA true fun _ => false) 38)).heap.size, 0, none⟩ 1 1 (tokC true (fun _ => false)) rfl (tokC_length _ _) (newsTok _ _ _) (tokC_one _ _) (by simp only [maxLen]; omega) (by omega) (HTW.out.alloc _).big ?_; intro v1 w1 hown1 hgrow1 hnil1)

        go_roundg f
        case measure => omega
        case rel => exact ⟨g + 1, L ++ [none], by go_num, by omega, by omega, (by rw [List.length_append, List.length_singleton]; omega), HL2.out, (HTW.out.alloc _).more hown1 hgrow1 rfl⟩
      · by_cases a63 : bt glob g = 63
        ·
          have b1 : (bt glob g == 42) = false := by rw [a63]; rfl
          have b2 : (bt glob g == 63) = true := by rw [a63]; rfl
          have HL2 : Hid ((L ++ [some fun _ => true]) ++ tkF (bl glob) f (g + 1) = TK (bl glob) 0) := by
            show _ = _; rw [← HLL.out, tk_q HIL.out (by rw [← HY.out]; exact a63), List.append_assoc]; rfl
          clear a63 a42
          go_wp2_with fail
          go_loopg [7] 257 (fun n v7 wx => ∃ k : Nat, v7 = .int .i64 k ∧ k ≤ 256 ∧ 256 < k + n ∧ W1 wr false (fun c => decide (c < (k : Int))) = wx)
          case atStart => exact ⟨0, rfl, by omega, by omega, W1_congr wr false (fun k _ => decide_eq_false (by omega))⟩
          case round =>
            obtain ⟨k, rfl, hk, hn, rfl⟩ := hrel
            obtain ⟨n, rfl⟩ : ∃ n, gk = n + 1 := ⟨gk - 1, by omega⟩
            obtain ⟨T, hT⟩ : ∃ T : Int → Bool, T = fun c => decide (c < (k : Int)) := ⟨_, rfl⟩
            rw [← hT]
            have HT' : Hid (T = fun c => decide (c < (k : Int))) := hT
            clear hT
            by_cases hk2 : k < 256
            · have hkz : (k : Int) < 256 := by omega
              have c1 := (W1_at wr false T).cell k hk2
              have c2 := (W1_at wr false T).froz (1 + k)
              have c3 := W1_set wr false T k (by omega) (by omega)
              have HW : Hid (W1 wr false (fun c => decide (c < ((k + 1 : Nat) : Int))) = W1 wr false (addB T k)) := W1_congr wr false fun j _ => by
                rw [HT'.out]
                show decide ((j : Int) < ((k + 1 : Nat) : Int)) = (decide ((j : Int) < (k : Int)) || (j : Int) == k)
                rw [Bool.eq_iff_iff, Bool.or_eq_true, decide_eq_true_eq, decide_eq_true_eq, beq_iff_eq]; omega
              simp only [Int.toNat_natCast] at c3
              go_wp2_with fail
              go_roundg n
              case measure => omega
              case rel => exact ⟨k + 1, by go_num, by omega, by omega, HW.out⟩
            · have e1' : decide ((k : Int) < 256) = false := decide_eq_false (by omega)
              have e2' : ¬ ((k : Int) < 256) := by omega
              have HW : Hid (W1 wr false T = wr.alloc (.cells (tokA false fun _ => true) 38)) := W1_congr wr false fun j hj => by
                rw [HT'.out]; exact decide_eq_true (by omega)
              rw [HW.out]
              have HTA : Hid (TokAt (wr.alloc (.cells (tokA false fun _ => true) 38)) wr.heap.size false (fun _ => true)) := W1_at wr false _
              have HTW : Hid (Toks w (wr.alloc (.cells (tokA false fun _ => true) 38)) u3 L) := HT.out.alloc _
              clear hk2
              go_wp2_with fail
              refine wp_load_row 38 _ rfl wr.heap.size rfl 38 (tokA false (fun _ => true)) (0, 0) _ HTA.out Try.underlying38 rfl (by rw [tokA_size]; exact Try.size38) ?_
              go_wp2_with fail
              refine wp_buildSlice 33 38 1 _ rfl (tokA false (fun _ => true)) i0 _ Try.underlying33 HI0.out HZ0.out (by rw [HS0.out]; decide) (by rw [HS0.out]; decide) (by rw [Array.toList_map]; exact fillTok false (fun _ => true) _ _ HS0.out) ?_
              go_wp2_with (at_builtin; refine wpList_append_own _ rfl (.tmp 80) (.tmp 82) 33 rfl w.heap.size 38 i0 _ 257 257 Try.underlying33 HI0.out HZ0.out HS0.out HB0.out (tokA_size _ _) (by decide) u3 L.length (L.flatMap tokL) rfl (HTW.out.alloc _).own ⟨(wr.alloc (.cells (tokA false fun _ => true) 38)).heap.size, 0, none⟩ 1 1 (tokC false (fun _ => true)) rfl (tokC_length _ _) (newsTok _ _ _) (tokC_one _ _) (by simp only [maxLen]; omega) (by omega) (HTW.out.alloc _).big ?_; intro v1 w1 hown1 hgrow1 hnil1)

              go_roundg f
              case measure => omega
              case rel => exact ⟨g + 1, L ++ [some fun _ => true], by go_num, by omega, by omega, (by rw [List.length_append, List.length_singleton]; omega), HL2.out, (HTW.out.alloc _).more hown1 hgrow1 rfl⟩
        · by_cases a92 : bt glob g = 92
          ·
            have b1 : (bt glob g == 42) = false := by rw [a92]; rfl
            have b2 : (bt glob g == 63) = false := by rw [a92]; rfl
            have b3 : (bt glob g == 92) = true := by rw [a92]; rfl
            by_cases hq1 : g + 1 = glob.size
            · have e2 : ((g : Int) + 1 == (glob.size : Int)) = true := beq_iff_eq.2 (by omega)
              have HL2 : Hid (L ++ [noTok] = TK (bl glob) 0) := by
                show _ = _; rw [← HLL.out, tk_esc_end (by rw [HL.out]; omega) (by rw [← HY.out]; exact a92)]
              have HTA : Hid (TokAt (wr.alloc (.cells (tokA false fun _ => false) 38)) wr.heap.size false (fun _ => false)) := W1_at wr false _
              have HTW : Hid (Toks w (wr.alloc (.cells (tokA false fun _ => false) 38)) u3 L) := HT.out.alloc _
              clear a92 a63 a42 hq1
              go_wp2_with fail
              refine wp_load_row 38 _ rfl wr.heap.size rfl 38 (tokA false (fun _ => false)) (0, 0) _ HTA.out Try.underlying38 rfl (by rw [tokA_size]; exact Try.size38) ?_
              go_wp2_with fail
              refine wp_buildSlice 33 38 1 _ rfl (tokA false (fun _ => false)) i0 _ Try.underlying33 HI0.out HZ0.out (by rw [HS0.out]; decide) (by rw [HS0.out]; decide) (by rw [Array.toList_map]; exact fillTok false (fun _ => false) _ _ HS0.out) ?_
              go_wp2_with (at_builtin; refine wpList_append_own _ rfl (.tmp 49) (.tmp 51) 33 rfl w.heap.size 38 i0 _ 257 257 Try.underlying33 HI0.out HZ0.out HS0.out HB0.out (tokA_size _ _) (by decide) u3 L.length (L.flatMap tokL) rfl (HTW.out.alloc _).own ⟨(wr.alloc (.cells (tokA false fun _ => false) 38)).heap.size, 0, none⟩ 1 1 (tokC false (fun _ => false)) rfl (tokC_length _ _) (newsTok _ _ _) (tokC_one _ _) (by simp only [maxLen]; omega) (by omega) (HTW.out.alloc _).big ?_; intro v1 w1 hown1 hgrow1 hnil1)

              go_ret
              exact ⟨v1, rfl, by rw [← HL2.out]; exact (HTW.out.alloc _).more hown1 hgrow1 rfl⟩

            · have e2 : ((g : Int) + 1 == (glob.size : Int)) = false := beq_eq_false_iff_ne.2 (by omega)
              have hq2 : (g : Int) + 1 < (glob.size : Int) := by omega
              have hnn := bt_nonneg glob (g + 1)
              have hnn2 := bt_le glob (g + 1)
              have HL2 : Hid ((L ++ [some fun c => bt glob (g + 1) == c]) ++ tkF (bl glob) f (g + 2) = TK (bl glob) 0) := by
                show _ = _; rw [← HLL.out, tk_esc (by rw [HL.out]; omega) (by rw [← HY.out]; exact a92), List.append_assoc, bt_bl]; rfl
              have c0 := tokA_set false (fun _ => false) (bt glob (g + 1)) hnn hnn2
              have HTA : Hid (TokAt (wr.alloc (.cells (tokA false (addB (fun _ => false) (bt glob (g + 1)))) 38)) wr.heap.size false (addB (fun _ => false) (bt glob (g + 1)))) := W1_at wr false _
              have HTW : Hid (Toks w (wr.alloc (.cells (tokA false (addB (fun _ => false) (bt glob (g + 1)))) 38)) u3 L) := HT.out.alloc _
              have c1 : (tokA false fun _ => false)[1 + (bt glob (g + 1)).toNat]? = some (.bool false) := by rw [Nat.add_comm]; exact tokA_succ _ _ _ (by omega)
              clear a92 a63 a42 hq1
              go_wp2_with fail
              refine wp_load_row 38 _ rfl wr.heap.size rfl 38 (tokA false (addB (fun _ => false) (bt glob (g + 1)))) (0, 0) _ HTA.out Try.underlying38 rfl (by rw [tokA_size]; exact Try.size38) ?_
              go_wp2_with fail
              refine wp_buildSlice 33 38 1 _ rfl (tokA false (addB (fun _ => false) (bt glob (g + 1)))) i0 _ Try.underlying33 HI0.out HZ0.out (by rw [HS0.out]; decide) (by rw [HS0.out]; decide) (by rw [Array.toList_map]; exact fillTok false (addB (fun _ => false) (bt glob (g + 1))) _ _ HS0.out) ?_
              go_wp2_with (at_builtin; refine wpList_append_own _ rfl (.tmp 80) (.tmp 82) 33 rfl w.heap.size 38 i0 _ 257 257 Try.underlying33 HI0.out HZ0.out HS0.out HB0.out (tokA_size _ _) (by decide) u3 L.length (L.flatMap tokL) rfl (HTW.out.alloc _).own ⟨(wr.alloc (.cells (tokA false (addB (fun _ => false) (bt glob (g + 1)))) 38)).heap.size, 0, none⟩ 1 1 (tokC false (addB (fun _ => false) (bt glob (g + 1)))) rfl (tokC_length _ _) (newsTok _ _ _) (tokC_one _ _) (by simp only [maxLen]; omega) (by omega) (HTW.out.alloc _).big ?_; intro v1 w1 hown1 hgrow1 hnil1)

              go_roundg f
              case measure => omega
              case rel => exact ⟨g + 2, L ++ [some fun c => bt glob (g + 1) == c], by go_num, by omega, by omega, (by rw [List.length_append, List.length_singleton]; omega), HL2.out, (HTW.out.alloc _).more hown1 hgrow1 (tok_lit _)⟩
          · by_cases a91 : bt glob g = 91
            ·
              have b1 : (bt glob g == 42) = false := by rw [a91]; rfl
              have b2 : (bt glob g == 63) = false := by rw [a91]; rfl
              have b3 : (bt glob g == 92) = false := by rw [a91]; rfl
              have b4 : (bt glob g == 91) = true := by rw [a91]; rfl
              have HA91 : Hid ((bl glob).getD g 0 = 91) := by rw [← HY.out]; exact a91
              have HT0 : Hid (Toks w (wr.alloc (.cells (tokA false fun _ => false) 38)) u3 L) := HT.out.alloc _
              have HA0 : Hid (TokAt (wr.alloc (.cells (tokA false fun _ => false) 38)) wr.heap.size false (fun _ => false)) := W1_at wr false _
              clear a92 a63 a42 a91
              cases hbr : Br (bl glob) g with
              | none =>
                have HL2 : Hid (L ++ [noTok] = TK (bl glob) 0) := by
                  show _ = _; rw [← HLL.out, tk_br_no HIL.out HA91.out hbr]
                have HC : Hid (∀ w, Calls Try.prog 8 #[.string glob, .int .i64 (g : Nat)] w fun e w' => e = .returned (.tuple #[.agg (arrB fun _ => false), .int .i64 0, .bool false]) ∧ Below w.heap.size w w') := fun w => set_any glob g _ w hg hilt (.inl ⟨hbr, rfl⟩)
                clear hbr
                go_wp2_with fail
                refine (HC.out _).mono ?_
                rintro e w2 ⟨rfl, hbel⟩
                have HA1 : Hid (TokAt w2 wr.heap.size false (fun _ => false)) := HA0.out.keep hbel HA0.out.lt
                have HT1 : Hid (Toks w w2 u3 L) := HT0.out.keep hbel (Nat.le_refl _)
                have q := storeNew w2 (fun _ => false)
                have HTA : Hid (TokAt (w2.alloc (.cells (arrB fun _ => false) 25)) wr.heap.size false (fun _ => false)) := HA1.out.keep ((Below.refl w2.heap.size w2).alloc (Nat.le_refl _) _) HA1.out.lt
                have HTW : Hid (Toks w (w2.alloc (.cells (arrB fun _ => false) 25)) u3 L) := HT1.out.alloc _
                clear hbel
                go_wp2_with fail
                refine wp_load_row 38 _ rfl wr.heap.size rfl 38 (tokA false (fun _ => false)) (0, 0) _ HTA.out Try.underlying38 rfl (by rw [tokA_size]; exact Try.size38) ?_
                go_wp2_with fail
                refine wp_buildSlice 33 38 1 _ rfl (tokA false (fun _ => false)) i0 _ Try.underlying33 HI0.out HZ0.out (by rw [HS0.out]; decide) (by rw [HS0.out]; decide) (by rw [Array.toList_map]; exact fillTok false (fun _ => false) _ _ HS0.out) ?_
                go_wp2_with (at_builtin; refine wpList_append_own _ rfl (.tmp 73) (.tmp 75) 33 rfl w.heap.size 38 i0 _ 257 257 Try.underlying33 HI0.out HZ0.out HS0.out HB0.out (tokA_size _ _) (by decide) u3 L.length (L.flatMap tokL) rfl (HTW.out.alloc _).own ⟨(w2.alloc (.cells (arrB fun _ => false) 25)).heap.size, 0, none⟩ 1 1 (tokC false (fun _ => false)) rfl (tokC_length _ _) (newsTok _ _ _) (tokC_one _ _) (by simp only [maxLen]; omega) (by omega) (HTW.out.alloc _).big ?_; intro v1 w1 hown1 hgrow1 hnil1)

                go_ret
                exact ⟨v1, rfl, by rw [← HL2.out]; exact (HTW.out.alloc _).more hown1 hgrow1 rfl⟩

              | some r =>
                obtain ⟨S, e⟩ := r
                have hal := Br_aligned HIL.out HA91.out hbr
                have HL2 : Hid ((L ++ [some S]) ++ tkF (bl glob) f e = TK (bl glob) 0) := by
                  show _ = _; rw [← HLL.out, tk_br HIL.out HA91.out hbr, List.append_assoc]; rfl
                have HC : Hid (∀ w, Calls Try.prog 8 #[.string glob, .int .i64 (g : Nat)] w fun r w' => r = .returned (.tuple #[.agg (arrB S), .int .i64 (e : Nat), .bool true]) ∧ Below w.heap.size w w') := fun w => set_any glob g _ w hg hilt (.inr ⟨S, e, hbr, rfl⟩)
                have he1 : g < e := hal.1
                have he2 : e ≤ glob.size := by have := hal.2.1; rwa [HL.out] at this
                clear hbr hal
                go_wp2_with fail
                refine (HC.out _).mono ?_
                rintro e' w2 ⟨rfl, hbel⟩
                have HA1 : Hid (TokAt w2 wr.heap.size false (fun _ => false)) := HA0.out.keep hbel HA0.out.lt
                have HT1 : Hid (Toks w w2 u3 L) := HT0.out.keep hbel (Nat.le_refl _)
                have q := storeNew w2 S
                have HA2 : Hid (TokAt (w2.alloc (.cells (arrB S) 25)) wr.heap.size false (fun _ => false)) := HA1.out.keep ((Below.refl w2.heap.size w2).alloc (Nat.le_refl _) _) HA1.out.lt
                have HT2 : Hid (Toks w (w2.alloc (.cells (arrB S) 25)) u3 L) := HT1.out.alloc _
                have q2 := storeMid _ _ _ _ S HA2.out
                have HBL : Hid (Below (wr.alloc (.cells (tokA false fun _ => false) 38)).heap.size (wr.alloc (.cells (tokA false fun _ => false) 38)) w2) := hbel
                clear hbel
                go_wp2_with fail
                refine wp_load_row 25 _ rfl w2.heap.size rfl 25 (arrB S) (0, 0) _ (heap_alloc_last w2 _) Try.underlying25 rfl (by rw [arrB_size]; exact Try.size25) ?_
                go_wp2_with fail
                obtain ⟨W3, hW3⟩ : ∃ W3, W3 = (w2.alloc (.cells (arrB S) 25)).setRow wr.heap.size (tokA false S) := ⟨_, rfl⟩
                rw [← hW3]
                have HTA : Hid (TokAt W3 wr.heap.size false S) := by rw [hW3]; exact HA2.out.set S
                have HTW : Hid (Toks w W3 u3 L) := by
                  rw [hW3]
                  exact ⟨ownsRow_below HT.out.own (B := wr.heap.size) (below_setRow' (((((Below.refl _ wr).alloc (Nat.le_refl _) _).trans (HBL.out.mono (by show _ ≤ (wr.heap.push _).size; rw [Array.size_push]; omega))).alloc (by have := HA1.out.lt; omega) _)) (Nat.le_refl _) _) (fun k hk => (HT.out.own.lt k hk).2), below_setRow' HT2.out.bel HT.out.big _⟩
                clear hW3 q q2
                refine wp_load_row 38 _ rfl wr.heap.size rfl 38 (tokA false S) (0, 0) _ HTA.out Try.underlying38 rfl (by rw [tokA_size]; exact Try.size38) ?_
                go_wp2_with fail
                refine wp_buildSlice 33 38 1 _ rfl (tokA false S) i0 _ Try.underlying33 HI0.out HZ0.out (by rw [HS0.out]; decide) (by rw [HS0.out]; decide) (by rw [Array.toList_map]; exact fillTok false S _ _ HS0.out) ?_
                go_wp2_with (at_builtin; refine wpList_append_own _ rfl (.tmp 80) (.tmp 82) 33 rfl w.heap.size 38 i0 _ 257 257 Try.underlying33 HI0.out HZ0.out HS0.out HB0.out (tokA_size _ _) (by decide) u3 L.length (L.flatMap tokL) rfl (HTW.out.alloc _).own ⟨(W3).heap.size, 0, none⟩ 1 1 (tokC false S) rfl (tokC_length _ _) (newsTok _ _ _) (tokC_one _ _) (by simp only [maxLen]; omega) (by omega) (HTW.out.alloc _).big ?_; intro v1 w1 hown1 hgrow1 hnil1)

                go_roundg f
                case measure => omega
                case rel => exact ⟨e, L ++ [some S], by go_num, by omega, by omega, (by rw [List.length_append, List.length_singleton]; omega), HL2.out, (HTW.out.alloc _).more hown1 hgrow1 rfl⟩
            ·
              have b4 : (bt glob g == 91) = false := by simpa using a91
              have b1 : (bt glob g == 42) = false := by simpa using a42
              have b2 : (bt glob g == 63) = false := by simpa using a63
              have b3 : (bt glob g == 92) = false := by simpa using a92
              have hnn := bt_nonneg glob g
              have hnn2 := bt_le glob g
              have HL2 : Hid ((L ++ [some fun c => bt glob g == c]) ++ tkF (bl glob) f (g + 1) = TK (bl glob) 0) := by
                show _ = _; rw [← HLL.out, tk_lit HIL.out (by rw [← HY.out]; exact a42) (by rw [← HY.out]; exact a63) (by rw [← HY.out]; exact a92) (by rw [← HY.out]; exact a91), List.append_assoc, HY.out]; rfl
              have c0 := tokA_set false (fun _ => false) (bt glob g) hnn hnn2
              have HTA : Hid (TokAt (wr.alloc (.cells (tokA false (addB (fun _ => false) (bt glob g))) 38)) wr.heap.size false (addB (fun _ => false) (bt glob g))) := W1_at wr false _
              have HTW : Hid (Toks w (wr.alloc (.cells (tokA false (addB (fun _ => false) (bt glob g))) 38)) u3 L) := HT.out.alloc _
              have c1 : (tokA false fun _ => false)[1 + (bt glob g).toNat]? = some (.bool false) := by rw [Nat.add_comm]; exact tokA_succ _ _ _ (by omega)
              clear a92 a63 a42 a91
              go_wp2_with fail

              refine wp_load_row 38 _ rfl wr.heap.size rfl 38 (tokA false (addB (fun _ => false) (bt glob g))) (0, 0) _ HTA.out Try.underlying38 rfl (by rw [tokA_size]; exact Try.size38) ?_
              go_wp2_with fail
              refine wp_buildSlice 33 38 1 _ rfl (tokA false (addB (fun _ => false) (bt glob g))) i0 _ Try.underlying33 HI0.out HZ0.out (by rw [HS0.out]; decide) (by rw [HS0.out]; decide) (by rw [Array.toList_map]; exact fillTok false (addB (fun _ => false) (bt glob g)) _ _ HS0.out) ?_
              go_wp2_with (at_builtin; refine wpList_append_own _ rfl (.tmp 80) (.tmp 82) 33 rfl w.heap.size 38 i0 _ 257 257 Try.underlying33 HI0.out HZ0.out HS0.out HB0.out (tokA_size _ _) (by decide) u3 L.length (L.flatMap tokL) rfl (HTW.out.alloc _).own ⟨(wr.alloc (.cells (tokA false (addB (fun _ => false) (bt glob g))) 38)).heap.size, 0, none⟩ 1 1 (tokC false (addB (fun _ => false) (bt glob g))) rfl (tokC_length _ _) (newsTok _ _ _) (tokC_one _ _) (by simp only [maxLen]; omega) (by omega) (HTW.out.alloc _).big ?_; intro v1 w1 hown1 hgrow1 hnil1)

              go_roundg f
              case measure => omega
              case rel => exact ⟨g + 1, L ++ [some fun c => bt glob g == c], by go_num, by omega, by omega, (by rw [List.length_append, List.length_singleton]; omega), HL2.out, (HTW.out.alloc _).more hown1 hgrow1 (tok_lit _)⟩
end Go.Proofs.Qxb6617323a
