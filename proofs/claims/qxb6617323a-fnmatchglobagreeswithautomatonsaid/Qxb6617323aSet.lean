/-
  THE WALK OF zzBracketSet.
-/
import Derived.Test.Qxb6617323aCls3
import Derived.Deep.MidRow
import Derived.Deep.WholeRow
namespace Go.Proofs.Qxb6617323a
open Go.RowKit Go.PlainAid
set_option linter.unusedVariables false

/-! ### 256 bools -/
def boolL (S : Int → Bool) : List Value := (List.range 256).map fun (k : Nat) => Value.bool (S k)
def arrB (S : Int → Bool) : Array Value := (boolL S).toArray
theorem boolL_length (S : Int → Bool) : (boolL S).length = 256 := by simp [boolL]
theorem arrB_size (S : Int → Bool) : (arrB S).size = 256 := by simp [arrB, boolL_length]
theorem arrB_get (S : Int → Bool) (k : Nat) (h : k < 256) : (arrB S)[k]? = some (.bool (S k)) := by
  simp [arrB, boolL, h]
theorem arrB_at (S : Int → Bool) (y : Int) (h0 : 0 ≤ y) (h1 : y ≤ 255) : (arrB S)[y.toNat]? = some (.bool (S y)) := by
  rw [arrB_get S y.toNat (by omega), Int.toNat_of_nonneg h0]
theorem arrB_congr {S S' : Int → Bool} (h : ∀ k : Nat, k < 256 → S k = S' k) : arrB S = arrB S' := by
  unfold arrB boolL
  congr 1
  apply List.map_congr_left
  intro k hk
  rw [h k (by simpa using hk)]
theorem arrB_set (S : Int → Bool) (k : Nat) (v : Bool) : (arrB S).setIfInBounds k (.bool v) = arrB (fun c => if c = k then v else S c) := by
  apply Array.ext_getElem?
  intro i
  rw [Array.getElem?_setIfInBounds]
  by_cases h : i < 256
  · rw [arrB_get (fun c => if c = k then v else S c) i h]
    by_cases e : k = i
    · subst e; rw [if_pos rfl, if_pos (by rw [arrB_size]; exact h), if_pos rfl]
    · rw [if_neg e, arrB_get S i h, if_neg (by omega)]
  · rw [Array.getElem?_eq_none (xs := arrB fun c => if c = k then v else S c) (by rw [arrB_size]; omega)]
    by_cases e : k = i
    · rw [if_pos e, if_neg (by rw [arrB_size]; omega)]
    · rw [if_neg e, Array.getElem?_eq_none (by rw [arrB_size]; omega)]
theorem arrB_add (S : Int → Bool) (y : Int) (h0 : 0 ≤ y) (h1 : y ≤ 255) : (arrB S).setIfInBounds y.toNat (.bool true) = arrB (addB S y) := by
  rw [arrB_set]
  apply arrB_congr
  intro k hk
  unfold addB
  rw [Int.toNat_of_nonneg h0]
  by_cases e : (k : Int) = y
  · rw [if_pos e]; simp [e]
  · rw [if_neg e]; simp [e]
theorem arrB_one (S : Int → Bool) : (arrB S).all (·.oneCell') = true := by
  unfold arrB
  apply all_oneCell_toArray
  intro v hv
  obtain ⟨k, _, rfl⟩ := List.mem_map.1 hv
  rfl
theorem Try.info25 : (Try.prog.info? 25).map (fun i => (i.zero, i.size)) = some (some (.agg (arrB fun _ => false)), 256) := by kernel_rfl
theorem Try.size25 : (Try.prog.info? 25).map (·.size) = some 256 := (zero_of_info Try.info25).2

theorem heap_two (w : World) (C : Array Value) (o : Obj) : ((w.alloc (.cells C 25)).alloc o).heap[w.heap.size]? = some (.cells C 25 (0, 0)) := heap_alloc2_old w _ _
theorem setRow_two (w : World) (C C' : Array Value) (o : Obj) : ((w.alloc (.cells C 25)).alloc o).setRow w.heap.size C' = (w.alloc (.cells C' 25)).alloc o := by
  simp only [World.setRow, World.alloc]
  congr 1
  apply Array.ext_getElem?
  intro i
  rw [Array.getElem?_modify]
  by_cases h : w.heap.size = i
  · subst h
    simp [Array.getElem?_push]
  · have h' : ¬ i = w.heap.size := fun e => h e.symm
    simp [h, h', Array.getElem?_push]

/-- The world with the two arrays. -/
def W2 (w : World) (S : Int → Bool) : World := (w.alloc (.cells (arrB S) 25)).alloc (.cells (arrB fun _ => false) 25)
theorem W2_4 (w : World) (S : Int → Bool) : (W2 w S).heap[w.heap.size]? = some (.cells (arrB S) 25 (0, 0)) := heap_two w _ _
theorem W2_7 (w : World) (S : Int → Bool) : (W2 w S).heap[w.heap.size + 1]? = some (.cells (arrB fun _ => false) 25 (0, 0)) := by
  have h := heap_alloc_last (w.alloc (.cells (arrB S) 25)) (.cells (arrB fun _ => false) 25)
  have e : (w.alloc (.cells (arrB S) 25)).heap.size = w.heap.size + 1 := Array.size_push _
  rw [e] at h
  exact h
theorem W2_set (w : World) (S S' : Int → Bool) : (W2 w S).setRow w.heap.size (arrB S') = W2 w S' := setRow_two w _ _ _
theorem W2_below (w : World) (S : Int → Bool) : Below w.heap.size w (W2 w S) := by
  unfold W2
  exact ((Below.refl _ w).alloc (Nat.le_refl _) _).alloc (by show _ ≤ (w.heap.push _).size; rw [Array.size_push]; omega) _
theorem frozW2 (w : World) (S : Int → Bool) (k : Nat) : (W2 w S).frozen? ⟨w.heap.size, k, none⟩ = false := by
  simp [World.frozen?, W2_4 w S]
theorem load4 (w : World) (S : Int → Bool) : (loadVar 25 ⟨w.heap.size, 0, none⟩).run Try.prog (W2 w S) = .ok (.agg (arrB S)) (W2 w S) :=
  run_loadVar_row _ _ 25 25 (arrB S) (0, 0) _ (W2_4 w S) Try.underlying25 rfl (by rw [arrB_size]; exact Try.size25)
theorem load7 (w : World) (S : Int → Bool) : (loadVar 25 ⟨w.heap.size + 1, 0, none⟩).run Try.prog (W2 w S) = .ok (.agg (arrB fun _ => false)) (W2 w S) :=
  run_loadVar_row _ _ 25 25 (arrB fun _ => false) (0, 0) _ (W2_7 w S) Try.underlying25 rfl (by rw [arrB_size]; exact Try.size25)
theorem store4 (w : World) (S S' : Int → Bool) : (storeCells ⟨w.heap.size, 0, none⟩ (arrB S').toList).run Try.prog (W2 w S) = .ok () (W2 w S') := by
  have h := run_storeCells_from (P := Try.prog) w.heap.size 25 (arrB S').toList 0 (arrB S) (W2 w S) (W2_4 w S) (by simp [arrB_size]) (fun v hv => by
    have h1 := arrB_one S'
    rw [Array.all_eq_true'] at h1
    exact h1 v (by simpa using hv))
  rw [h]
  simp only [List.take_zero, List.nil_append, Array.toArray_toList]
  rw [W2_set]
theorem W2_congr (w : World) {S S' : Int → Bool} (h : ∀ k : Nat, k < 256 → S k = S' k) : W2 w S = W2 w S' := by
  unfold W2; rw [arrB_congr h]
theorem setW2' (w : World) (S : Int → Bool) (k : Nat) (v : Bool) : (W2 w S).setCell ⟨w.heap.size, k, none⟩ (.bool v) = W2 w (fun c => if c = k then v else S c) := by
  rw [setCell_eq_setRow _ _ _ _ _ _ _ (W2_4 w S), arrB_set, W2_set]
theorem results8 (tmps : Array Value) (w : World) (S : Int → Bool) (hp : tmps.getD 4 undef = .pointer (some ⟨w.heap.size, 0, none⟩)) :
    (results Try.f8 tmps).run Try.prog (W2 w S) = .ok (.tuple #[.agg (arrB S), tmps.getD 5 undef, tmps.getD 6 undef]) (W2 w S) := by
  have hp' : tmps[4]?.getD undef = .pointer (some ⟨w.heap.size, 0, none⟩) := by simpa using hp
  simp [results, hp', asAddr, load4]
theorem rt8 {A B : Array Value} {x y : Int} {p q : Bool} (h1 : A = B) (h2 : x = y) (h3 : p = q) : Ending.returned (.tuple #[.agg A, .int .i64 x, .bool p]) = .returned (.tuple #[.agg B, .int .i64 y, .bool q]) := by rw [h1, h2, h3]

theorem Try.size4' : (Try.prog.info? 4).map (·.size) = some 1 := by kernel_rfl
theorem cellW2 (w : World) (S : Int → Bool) (k : Nat) (hk : k < 256) : (W2 w S).cell? ⟨w.heap.size, k, none⟩ = some (.bool (S k)) := by
  rw [cell_of_row _ _ k _ _ _ (W2_4 w S), arrB_get S k hk]
theorem setW2 (w : World) (S : Int → Bool) (y : Int) (h0 : 0 ≤ y) (h1 : y ≤ 255) : (W2 w S).setCell ⟨w.heap.size, y.toNat, none⟩ (.bool true) = W2 w (addB S y) := by
  rw [setCell_eq_setRow _ _ _ _ _ _ _ (W2_4 w S), arrB_add S y h0 h1, W2_set]

set_option maxRecDepth 100000 in
set_option maxHeartbeats 4000000 in
theorem set_core (glob : ByteArray) (st g : Nat) (neg : Bool) (R : Option ((Int → Bool) × Nat)) (V : Value) (w : World) (hg : glob.size ≤ 1048576) (hst : st < glob.size)
    (hneg : (neg = true ∧ st + 1 < glob.size ∧ (bt glob (st + 1) = 33 ∨ bt glob (st + 1) = 94) ∧ g = st + 2) ∨ (neg = false ∧ (st + 1 < glob.size → bt glob (st + 1) ≠ 33 ∧ bt glob (st + 1) ≠ 94) ∧ g = st + 1))
    (hR : brF (bl glob) neg ((bl glob).length + 2) g true (-1) (fun _ => false) = R)
    (hV : (R = none ∧ V = .tuple #[.agg (arrB fun _ => false), .int .i64 0, .bool false]) ∨ ∃ S e, R = some (S, e) ∧ V = .tuple #[.agg (arrB S), .int .i64 (e : Nat), .bool true]) :
    Calls Try.prog 8 #[.string glob, .int .i64 st] w fun e w' => e = .returned V ∧ Below w.heap.size w w' := by
  have hz25 := (zero_of_info Try.info25).1
  have hb := get_bt glob
  have HL : Hid ((bl glob).length = glob.size) := bl_length glob
  have HN : Hid ((neg = true ∧ st + 1 < glob.size ∧ (bt glob (st + 1) = 33 ∨ bt glob (st + 1) = 94) ∧ g = st + 2) ∨ (neg = false ∧ (st + 1 < glob.size → bt glob (st + 1) ≠ 33 ∧ bt glob (st + 1) ≠ 94) ∧ g = st + 1)) := hneg
  have HR : Hid (brF (bl glob) neg ((bl glob).length + 2) g true (-1) (fun _ => false) = R) := hR
  have HV : Hid ((R = none ∧ V = .tuple #[.agg (arrB fun _ => false), .int .i64 0, .bool false]) ∨ ∃ S e, R = some (S, e) ∧ V = .tuple #[.agg (arrB S), .int .i64 (e : Nat), .bool true]) := hV
  have hgs : g ≤ glob.size ∧ st < g := by rcases hneg with ⟨_, a, _, b⟩ | ⟨_, _, b⟩ <;> omega
  obtain ⟨hgs, hsg⟩ := hgs
  clear hneg hR hV
  go_enter Try.func8, Try.ntmps8
  go_upto_region 3 with fail
  clear hz25
  go_cut [9] from 26 to 41 (fun v wx => v = .bool neg ∧ W2 w (fun _ => false) = wx)
  case first =>
    by_cases hl : st + 1 < glob.size
    · have hlz : (st : Int) + 1 < (glob.size : Int) := by omega
      rcases HN.out with ⟨rfl, _, hc, _⟩ | ⟨rfl, hc, _⟩
      · by_cases hc1 : bt glob (st + 1) = 33
        · have b1 : (bt glob (st + 1) == 33) = true := by rw [hc1]; rfl
          clear hc hc1
          go_wp2_with fail
          go_meet
          exact ⟨rfl, rfl⟩
        · have b1 : (bt glob (st + 1) == 33) = false := by simpa using hc1
          have b2 : (bt glob (st + 1) == 94) = true := by
            rcases hc with h | h
            · exact absurd h hc1
            · rw [h]; rfl
          clear hc hc1
          go_wp2_with fail
          go_meet
          exact ⟨rfl, rfl⟩
      · have b1 : (bt glob (st + 1) == 33) = false := by have := (hc hl).1; simpa using this
        have b2 : (bt glob (st + 1) == 94) = false := by have := (hc hl).2; simpa using this
        clear hc
        go_wp2_with fail
        go_meet
        exact ⟨rfl, rfl⟩
    · have hlz : decide ((st : Int) + 1 < (glob.size : Int)) = false := decide_eq_false (by omega)
      have hn : neg = false := by
        rcases HN.out with ⟨_, a, _⟩ | ⟨a, _⟩
        · omega
        · exact a
      subst hn
      go_wp2_with fail
      go_meet
      exact ⟨rfl, rfl⟩
  case rest =>
    obtain ⟨rfl, rfl⟩ := hcut
    go_upto_if 42 with fail
    go_cut [8] from 43 to 44 (fun v wx => v = .int .i64 g ∧ W2 w (fun _ => false) = wx)
    case first =>
      rcases HN.out with ⟨rfl, _, _, rfl⟩ | ⟨rfl, _, rfl⟩
      · go_wp2_with fail
        go_meet
        exact ⟨by go_num, rfl⟩
      · go_wp2_with fail
        go_meet
        exact ⟨by go_num, rfl⟩
    case rest =>
      obtain ⟨rfl, rfl⟩ := hcut
      clear HN
      go_wp2_with fail
      go_loopg [8, 11] ((bl glob).length + 2) (fun f v8 v11 wr => ∃ (i : Nat) (S : Int → Bool) (low : Int), v8 = .int .i64 i ∧ v11 = .int .i64 low ∧
          g ≤ i ∧ i ≤ glob.size ∧ glob.size < i + f ∧ -1 ≤ low ∧ low ≤ 255 ∧ brF (bl glob) neg f i (decide (i = g)) low S = R ∧ W2 w S = wr)
      case atStart => exact ⟨g, fun _ => false, -1, rfl, rfl, Nat.le_refl _, hgs, (by rw [HL.out]; omega), by omega, by omega, by rw [decide_eq_true rfl]; exact HR.out, rfl⟩
      case round =>
        obtain ⟨i, S, low, rfl, rfl, hgi, hi, hf, hl1, hl2, hbr, rfl⟩ := hrel
        obtain ⟨f, rfl⟩ : ∃ f, gk = f + 1 := ⟨gk - 1, by omega⟩
        have HBR : Hid (brF (bl glob) neg (f + 1) i (decide (i = g)) low S = R) := hbr
        clear hbr HR
        by_cases hil : i = glob.size
        ·
          have e1 : decide ((i : Int) < (glob.size : Int)) = false := decide_eq_false (by omega)
          have e2 : ¬ ((i : Int) < (glob.size : Int)) := by omega
          have HRn : Hid (R = none) := by show R = none; rw [← HBR.out]; exact br_end (by rw [HL.out]; omega)

          have HVn : Hid (V = .tuple #[.agg (arrB fun _ => false), .int .i64 0, .bool false]) := by
            rcases HV.out with ⟨_, h⟩ | ⟨S', e, h, _⟩
            · exact h
            · rw [HRn.out] at h; cases h
          clear hil HV

          have q := store4 w S (fun _ => false)
          go_wp2_with fail
          refine wp_load_row 25 _ rfl (w.heap.size + 1) rfl 25 (arrB fun _ => false) (0, 0) _ (W2_7 w S) Try.underlying25 rfl (by rw [arrB_size]; exact Try.size25) ?_
          go_wp2_with fail
          (try simp only [Exit.inBlock, Exit.then])
          refine bodyPost_ret (results8 _ w (fun _ => false) rfl) rfl ?_
          exact ⟨by rw [HVn.out]; rfl, W2_below w _⟩
        · have e1 : (i : Int) < (glob.size : Int) := by omega
          have hilt : i < glob.size := by omega
          have HIL : Hid (i < (bl glob).length) := by show _ < _; rw [HL.out]; exact hilt
          clear hil
          have HY : Hid (bt glob i = (bl glob).getD i 0) := bt_bl glob i
          obtain ⟨z1, hz1⟩ : ∃ z, z = decide ((bl glob).getD i 0 = 93 ∧ decide (i = g) = false) := ⟨_, rfl⟩
          have HZ1 : Hid (z1 = decide ((bl glob).getD i 0 = 93 ∧ decide (i = g) = false)) := hz1
          clear hz1
          go_upto_region 10 with fail
          go_cut [59] from 53 to 58 (fun v wx => v = .bool z1 ∧ W2 w S = wx)
          case first =>
            by_cases a1 : bt glob i = 93
            · have b1 : (bt glob i == 93) = true := by rw [a1]; rfl
              have e : z1 = ((i : Int) != (g : Int)) := by
                rw [HZ1.out, ← HY.out, a1, Bool.eq_iff_iff, decide_eq_true_eq, bne_iff_ne]
                constructor
                · rintro ⟨_, h⟩ h'; exact of_decide_eq_false h (by omega)
                · intro h; exact ⟨rfl, decide_eq_false (by omega)⟩
              have HE : Hid (z1 = ((i : Int) != (g : Int))) := e
              clear a1 e
              go_wp2_with fail
              go_meet
              exact ⟨by rw [HE.out], rfl⟩
            · have b1 : (bt glob i == 93) = false := by simpa using a1
              have e : z1 = false := by rw [HZ1.out, ← HY.out]; simp [a1]
              subst e
              clear a1
              go_wp2_with fail
              go_meet
              exact ⟨rfl, rfl⟩
          case rest =>
            obtain ⟨rfl, rfl⟩ := hcut
            cases z1 with
            | true =>
              have hz : (bl glob).getD i 0 = 93 ∧ decide (i = g) = false := of_decide_eq_true HZ1.out.symm
              have HRs : Hid (R = some (fun c => S c != neg, i + 1)) := by show R = _; rw [← HBR.out]; exact br_close HIL.out hz.1 hz.2
              have HVs : Hid (V = .tuple #[.agg (arrB fun c => S c != neg), .int .i64 ((i : Int) + 1), .bool true]) := by
                rcases HV.out with ⟨h, _⟩ | ⟨S', e, h, hv⟩
                · rw [HRs.out] at h; cases h
                · rw [HRs.out] at h
                  simp only [Option.some.injEq, Prod.mk.injEq] at h
                  obtain ⟨rfl, rfl⟩ := h
                  exact hv
              clear hz HV
              cases neg with
              | false =>
                have HA : Hid (arrB S = arrB fun c => S c != false) := arrB_congr fun k _ => by simp
                have q := store4 w S S
                go_wp2_with fail
                refine wp_load_row 25 _ rfl w.heap.size rfl 25 (arrB S) (0, 0) _ (W2_4 w S) Try.underlying25 rfl (by rw [arrB_size]; exact Try.size25) ?_
                go_wp2_with fail
                (try simp only [Exit.inBlock, Exit.then])
                refine bodyPost_ret (results8 _ w S rfl) rfl ?_
                exact ⟨by rw [HVs.out]; exact rt8 HA.out rfl rfl, W2_below w _⟩
              | true =>
                go_wp2_with fail
                go_loopg [13] 257 (fun n v13 wr => ∃ k : Nat, v13 = .int .i64 k ∧ k ≤ 256 ∧ 256 < k + n ∧ W2 w (fun c => if c < (k : Int) then !S c else S c) = wr)
                case atStart => exact ⟨0, rfl, by omega, by omega, W2_congr w (fun k _ => if_neg (by omega))⟩
                case round =>
                  obtain ⟨k, rfl, hk, hn, rfl⟩ := hrel
                  obtain ⟨n, rfl⟩ : ∃ n, gk = n + 1 := ⟨gk - 1, by omega⟩
                  obtain ⟨T, hT⟩ : ∃ T : Int → Bool, T = fun c => if c < (k : Int) then !S c else S c := ⟨_, rfl⟩
                  rw [← hT]
                  have HT : Hid (T = fun c => if c < (k : Int) then !S c else S c) := hT
                  clear hT
                  by_cases hk2 : k < 256
                  · have hkz : (k : Int) < 256 := by omega
                    have c1 := cellW2 w T k hk2
                    have c2 := frozW2 w T k
                    have c3 := setW2' w T k (!T k)
                    have HW : Hid (W2 w (fun c => if c < ((k + 1 : Nat) : Int) then !S c else S c) = W2 w (fun c => if c = (k : Int) then !T k else T c)) := W2_congr w fun j _ => by
                      rw [HT.out]
                      show (if (j : Int) < ((k + 1 : Nat) : Int) then !S j else S j) = if (j : Int) = k then !(if (k : Int) < k then !S k else S k) else (if (j : Int) < k then !S j else S j)
                      rw [if_neg (Int.lt_irrefl (k : Int))]
                      by_cases e : (j : Int) = k
                      · rw [if_pos e, if_pos (by omega), e]
                      · rw [if_neg e]
                        by_cases e2 : (j : Int) < k
                        · rw [if_pos e2, if_pos (by omega)]
                        · rw [if_neg e2, if_neg (by omega)]
                    go_wp2_with fail
                    go_roundg n
                    case measure => omega
                    case rel => exact ⟨k + 1, by go_num, by omega, by omega, HW.out⟩
                  · have e1 : decide ((k : Int) < 256) = false := decide_eq_false (by omega)
                    have e2 : ¬ ((k : Int) < 256) := by omega
                    have HA : Hid (arrB T = arrB fun c => S c != true) := arrB_congr fun j hj => by
                      rw [HT.out]
                      show (if (j : Int) < k then !S j else S j) = _
                      rw [if_pos (by omega)]; cases S j <;> rfl
                    have q := store4 w T T
                    clear hk2
                    go_wp2_with fail
                    refine wp_load_row 25 _ rfl w.heap.size rfl 25 (arrB T) (0, 0) _ (W2_4 w T) Try.underlying25 rfl (by rw [arrB_size]; exact Try.size25) ?_
                    go_wp2_with fail
                    (try simp only [Exit.inBlock, Exit.then])
                    refine bodyPost_ret (results8 _ w T rfl) rfl ?_
                    exact ⟨by rw [HVs.out]; exact rt8 HA.out rfl rfl, W2_below w _⟩
            | false =>
              have hz : ¬ ((bl glob).getD i 0 = 93 ∧ decide (i = g) = false) := of_decide_eq_false HZ1.out.symm
              have HZ : Hid (¬ ((bl glob).getD i 0 = 93 ∧ decide (i = g) = false)) := hz
              clear hz HZ1
              by_cases a92 : bt glob i = 92
              ·
                have b1 : (bt glob i == 92) = true := by rw [a92]; rfl
                by_cases hq1 : i + 1 = glob.size
                · have e2 : ((i : Int) + 1 == (glob.size : Int)) = true := beq_iff_eq.2 (by omega)
                  have HRn : Hid (R = none) := by show R = none; rw [← HBR.out]; exact br_esc_end (by rw [HL.out]; exact hq1) (by rw [← HY.out]; exact a92)
                  have HVn : Hid (V = .tuple #[.agg (arrB fun _ => false), .int .i64 0, .bool false]) := by
                    rcases HV.out with ⟨_, h⟩ | ⟨S', e, h, _⟩
                    · exact h
                    · rw [HRn.out] at h; cases h
                  clear hq1 HV a92
                  have q := store4 w S (fun _ => false)
                  go_wp2_with fail
                  refine wp_load_row 25 _ rfl (w.heap.size + 1) rfl 25 (arrB fun _ => false) (0, 0) _ (W2_7 w S) Try.underlying25 rfl (by rw [arrB_size]; exact Try.size25) ?_
                  go_wp2_with fail
                  (try simp only [Exit.inBlock, Exit.then])
                  refine bodyPost_ret (results8 _ w (fun _ => false) rfl) rfl ?_
                  exact ⟨by rw [HVn.out]; rfl, W2_below w _⟩
                · have e2 : ((i : Int) + 1 == (glob.size : Int)) = false := beq_eq_false_iff_ne.2 (by omega)
                  have hq2 : (i : Int) + 1 < (glob.size : Int) := by omega
                  have hnn := bt_nonneg glob (i + 1)
                  have hnn2 := bt_le glob (i + 1)
                  have HN2 : Hid (brF (bl glob) neg f (i + 2) (decide (i + 2 = g)) (bt glob (i + 1)) (addB S (bt glob (i + 1))) = R) := by
                    show _ = R; rw [decide_eq_false (by omega), ← HBR.out, bt_bl glob (i + 1)]; exact (br_esc (by rw [HL.out]; omega) (by rw [← HY.out]; exact a92)).symm
                  clear a92
                  have c1 := cellW2 w S (bt glob (i + 1)).toNat (by omega)
                  have c2 := frozW2 w S (bt glob (i + 1)).toNat
                  have c3 := setW2 w S (bt glob (i + 1)) hnn hnn2
                  go_wp2_with fail
                  go_roundg f
                  case measure => omega
                  case rel => exact ⟨i + 2, addB S (bt glob (i + 1)), bt glob (i + 1), by go_num, rfl, by omega, by omega, by omega, by omega, hnn2, HN2.out, rfl⟩
              · have b2 : (bt glob i == 92) = false := by simpa using a92
                have H92 : Hid ((bl glob).getD i 0 ≠ 92) := by rw [← HY.out]; exact a92
                clear a92
                obtain ⟨z2, hz2⟩ : ∃ z, z = decide (isRng (bl glob) i low) := ⟨_, rfl⟩
                have HZ2 : Hid (z2 = decide (isRng (bl glob) i low)) := hz2
                clear hz2
                go_upto_region 23 with fail
                go_cut [113] from 94 to 112 (fun v wx => v = .bool z2 ∧ W2 w S = wx)
                case first =>
                  by_cases a1 : bt glob i = 45
                  · have b1 : (bt glob i == 45) = true := by rw [a1]; rfl
                    by_cases hlow : 0 ≤ low
                    · have hlo : (low ≥ 0) := hlow
                      by_cases a2 : i + 1 < glob.size
                      · have a2z : (i : Int) + 1 < (glob.size : Int) := by omega
                        have e : z2 = (bt glob (i + 1) != 93) := by
                          rw [HZ2.out, Bool.eq_iff_iff, decide_eq_true_eq, bt_bl glob (i + 1)]
                          have h45 : (bl glob).getD i 0 = 45 := by rw [← HY.out]; exact a1
                          constructor
                          · intro h; simpa using h.2.2.2
                          · intro h; exact ⟨h45, hlow, by rw [HL.out]; exact a2, by simpa using h⟩
                        have HE : Hid (z2 = (bt glob (i + 1) != 93)) := e
                        clear a1 e
                        go_wp2_with fail
                        go_meet
                        exact ⟨by rw [HE.out], rfl⟩
                      · have a2z : decide ((i : Int) + 1 < (glob.size : Int)) = false := decide_eq_false (by omega)
                        have e : z2 = false := by rw [HZ2.out]; exact decide_eq_false (fun h => by have := h.2.2.1; rw [HL.out] at this; omega)
                        subst e
                        clear a1
                        go_wp2_with fail
                        go_meet
                        exact ⟨rfl, rfl⟩
                    · have hlo : decide (0 ≤ low) = false := decide_eq_false hlow
                      have e : z2 = false := by rw [HZ2.out]; exact decide_eq_false (fun h => by have := h.2.1; omega)
                      subst e
                      clear a1 hlow
                      go_wp2_with fail
                      go_meet
                      exact ⟨rfl, rfl⟩
                  · have b1 : (bt glob i == 45) = false := by simpa using a1
                    have e : z2 = false := by rw [HZ2.out]; exact decide_eq_false (fun h => by have := h.1; rw [← HY.out] at this; exact a1 this)
                    subst e
                    clear a1
                    go_wp2_with fail
                    go_meet
                    exact ⟨rfl, rfl⟩
                case rest =>
                  obtain ⟨rfl, rfl⟩ := hcut
                  cases z2 with
                  | true =>
                    have hrg : isRng (bl glob) i low := of_decide_eq_true HZ2.out.symm
                    have HRG : Hid (isRng (bl glob) i low) := hrg
                    have hi1 : i + 1 < glob.size := by have := hrg.2.2.1; rwa [HL.out] at this
                    have hi1z : (i : Int) + 1 < (glob.size : Int) := by omega
                    have hlow : 0 ≤ low := hrg.2.1
                    clear hrg HZ2
                    by_cases a92 : bt glob (i + 1) = 92
                    · have b3 : (bt glob (i + 1) == 92) = true := by rw [a92]; rfl
                      by_cases hl2' : i + 2 = glob.size
                      · have e2 : ((i : Int) + 2 == (glob.size : Int)) = true := beq_iff_eq.2 (by omega)
                        have HRn : Hid (R = none) := by show R = none; rw [← HBR.out]; exact br_rng_end HRG.out (by rw [← bt_bl]; exact a92) (by rw [HL.out]; exact hl2')
                        have HVn : Hid (V = .tuple #[.agg (arrB fun _ => false), .int .i64 0, .bool false]) := by
                          rcases HV.out with ⟨_, h⟩ | ⟨S', e, h, _⟩
                          · exact h
                          · rw [HRn.out] at h; cases h
                        clear hl2' HV a92
                        have q := store4 w S (fun _ => false)
                        go_wp2_with fail
                        refine wp_load_row 25 _ rfl (w.heap.size + 1) rfl 25 (arrB fun _ => false) (0, 0) _ (W2_7 w S) Try.underlying25 rfl (by rw [arrB_size]; exact Try.size25) ?_
                        go_wp2_with fail
                        (try simp only [Exit.inBlock, Exit.then])
                        refine bodyPost_ret (results8 _ w (fun _ => false) rfl) rfl ?_
                        exact ⟨by rw [HVn.out]; rfl, W2_below w _⟩
                      · have e2 : ((i : Int) + 2 == (glob.size : Int)) = false := beq_eq_false_iff_ne.2 (by omega)
                        have hl3 : (i : Int) + 2 < (glob.size : Int) := by omega
                        have HN2 : Hid (brF (bl glob) neg f (i + 3) (decide (i + 3 = g)) (-1) (addR S low (bt glob (i + 2))) = R) := by
                          show _ = R; rw [decide_eq_false (by omega), ← HBR.out, bt_bl glob (i + 2)]; exact (br_rng_esc HRG.out (by rw [← bt_bl]; exact a92) (by rw [HL.out]; omega)).symm
                        have hnn := bt_nonneg glob (i + 2)
                        have hnn2 := bt_le glob (i + 2)
                        clear a92
                        go_wp2_with fail
                        go_loopg [16] 258 (fun n v16 wr => ∃ k : Int, v16 = .int .i64 k ∧ low ≤ k ∧ (k ≤ bt glob (i + 2) + 1 ∨ k = low) ∧ bt glob (i + 2) + 1 < k + n ∧ W2 w (fun c => S c || (decide (low ≤ c) && decide (c < k))) = wr)
                        case atStart => exact ⟨low, rfl, by omega, .inr rfl, by omega, W2_congr w (fun k _ => by
                          by_cases e : low ≤ (k : Int)
                          · rw [decide_eq_false (by omega : ¬ (k : Int) < low)]; simp
                          · rw [decide_eq_false e]; simp)⟩
                        case round =>
                          obtain ⟨k, rfl, hk1, hk2, hn, rfl⟩ := hrel
                          have HK2 : Hid (k ≤ bt glob (i + 2) + 1 ∨ k = low) := hk2
                          clear hk2
                          obtain ⟨T, hT⟩ : ∃ T : Int → Bool, T = fun c => S c || (decide (low ≤ c) && decide (c < k)) := ⟨_, rfl⟩
                          rw [← hT]
                          have HT : Hid (T = fun c => S c || (decide (low ≤ c) && decide (c < k))) := hT
                          clear hT
                          by_cases hkh : k ≤ bt glob (i + 2)
                          · obtain ⟨n, rfl⟩ : ∃ n, gk = n + 1 := ⟨gk - 1, by omega⟩
                            have hk0 : 0 ≤ k := by omega
                            have hk3 : k ≤ 255 := by omega
                            have hk4 : k < 256 := by omega
                            have c1 := cellW2 w T k.toNat (by omega)
                            have c2 := frozW2 w T k.toNat
                            have c3 := setW2 w T k hk0 hk3
                            have HW : Hid (W2 w (fun c => S c || (decide (low ≤ c) && decide (c < k + 1))) = W2 w (addB T k)) := W2_congr w fun j _ => by
                              rw [HT.out]
                              show (S j || (decide (low ≤ (j : Int)) && decide ((j : Int) < k + 1))) = ((S j || (decide (low ≤ (j : Int)) && decide ((j : Int) < k))) || (j : Int) == k)
                              by_cases e : (j : Int) = k
                              · rw [decide_eq_true (by omega : low ≤ (j : Int)), decide_eq_true (by omega : (j : Int) < k + 1), e]; simp
                              · rw [beq_eq_false_iff_ne.2 e, Bool.or_false]
                                by_cases e2 : (j : Int) < k
                                · rw [decide_eq_true e2, decide_eq_true (by omega : (j : Int) < k + 1)]
                                · rw [decide_eq_false e2, decide_eq_false (by omega : ¬ (j : Int) < k + 1)]
                            go_wp2_with fail
                            go_roundg n
                            case measure => omega
                            case rel => exact ⟨k + 1, by go_num, by omega, .inl (by omega), by omega, HW.out⟩
                          · have e1 : decide (k ≤ bt glob (i + 2)) = false := decide_eq_false hkh
                            have HW : Hid (W2 w (addR S low (bt glob (i + 2))) = W2 w T) := W2_congr w fun j _ => by
                              rw [HT.out]
                              show (S j || (decide (low ≤ (j : Int)) && decide ((j : Int) ≤ bt glob (i + 2)))) = (S j || (decide (low ≤ (j : Int)) && decide ((j : Int) < k)))
                              rcases HK2.out with h | h
                              · congr 2; rw [Bool.eq_iff_iff, decide_eq_true_eq, decide_eq_true_eq]; omega
                              · by_cases e : low ≤ (j : Int)
                                · rw [decide_eq_false (by omega : ¬ (j : Int) ≤ bt glob (i + 2)), decide_eq_false (by omega : ¬ (j : Int) < k)]
                                · rw [decide_eq_false e]; simp
                            go_wp2_with fail
                            go_roundg f
                            case measure => omega
                            case rel => exact ⟨i + 3, addR S low (bt glob (i + 2)), -1, by go_num, rfl, by omega, by omega, by omega, by omega, by omega, HN2.out, HW.out⟩
                    · have b3 : (bt glob (i + 1) == 92) = false := by simpa using a92
                      have HN2 : Hid (brF (bl glob) neg f (i + 2) (decide (i + 2 = g)) (-1) (addR S low (bt glob (i + 1))) = R) := by
                        show _ = R; rw [decide_eq_false (by omega), ← HBR.out, bt_bl glob (i + 1)]; exact (br_rng HRG.out (by rw [← bt_bl]; exact a92)).symm
                      have hnn := bt_nonneg glob (i + 1)
                      have hnn2 := bt_le glob (i + 1)
                      clear a92
                      go_wp2_with fail
                      go_loopg [16] 258 (fun n v16 wr => ∃ k : Int, v16 = .int .i64 k ∧ low ≤ k ∧ (k ≤ bt glob (i + 1) + 1 ∨ k = low) ∧ bt glob (i + 1) + 1 < k + n ∧ W2 w (fun c => S c || (decide (low ≤ c) && decide (c < k))) = wr)
                      case atStart => exact ⟨low, rfl, by omega, .inr rfl, by omega, W2_congr w (fun k _ => by
                        by_cases e : low ≤ (k : Int)
                        · rw [decide_eq_false (by omega : ¬ (k : Int) < low)]; simp
                        · rw [decide_eq_false e]; simp)⟩
                      case round =>
                        obtain ⟨k, rfl, hk1, hk2, hn, rfl⟩ := hrel
                        have HK2 : Hid (k ≤ bt glob (i + 1) + 1 ∨ k = low) := hk2
                        clear hk2
                        obtain ⟨T, hT⟩ : ∃ T : Int → Bool, T = fun c => S c || (decide (low ≤ c) && decide (c < k)) := ⟨_, rfl⟩
                        rw [← hT]
                        have HT : Hid (T = fun c => S c || (decide (low ≤ c) && decide (c < k))) := hT
                        clear hT
                        by_cases hkh : k ≤ bt glob (i + 1)
                        · obtain ⟨n, rfl⟩ : ∃ n, gk = n + 1 := ⟨gk - 1, by omega⟩
                          have hk0 : 0 ≤ k := by omega
                          have hk3 : k ≤ 255 := by omega
                          have hk4 : k < 256 := by omega
                          have c1 := cellW2 w T k.toNat (by omega)
                          have c2 := frozW2 w T k.toNat
                          have c3 := setW2 w T k hk0 hk3
                          have HW : Hid (W2 w (fun c => S c || (decide (low ≤ c) && decide (c < k + 1))) = W2 w (addB T k)) := W2_congr w fun j _ => by
                            rw [HT.out]
                            show (S j || (decide (low ≤ (j : Int)) && decide ((j : Int) < k + 1))) = ((S j || (decide (low ≤ (j : Int)) && decide ((j : Int) < k))) || (j : Int) == k)
                            by_cases e : (j : Int) = k
                            · rw [decide_eq_true (by omega : low ≤ (j : Int)), decide_eq_true (by omega : (j : Int) < k + 1), e]; simp
                            · rw [beq_eq_false_iff_ne.2 e, Bool.or_false]
                              by_cases e2 : (j : Int) < k
                              · rw [decide_eq_true e2, decide_eq_true (by omega : (j : Int) < k + 1)]
                              · rw [decide_eq_false e2, decide_eq_false (by omega : ¬ (j : Int) < k + 1)]
                          go_wp2_with fail
                          go_roundg n
                          case measure => omega
                          case rel => exact ⟨k + 1, by go_num, by omega, .inl (by omega), by omega, HW.out⟩
                        · have e1 : decide (k ≤ bt glob (i + 1)) = false := decide_eq_false hkh
                          have HW : Hid (W2 w (addR S low (bt glob (i + 1))) = W2 w T) := W2_congr w fun j _ => by
                            rw [HT.out]
                            show (S j || (decide (low ≤ (j : Int)) && decide ((j : Int) ≤ bt glob (i + 1)))) = (S j || (decide (low ≤ (j : Int)) && decide ((j : Int) < k)))
                            rcases HK2.out with h | h
                            · congr 2; rw [Bool.eq_iff_iff, decide_eq_true_eq, decide_eq_true_eq]; omega
                            · by_cases e : low ≤ (j : Int)
                              · rw [decide_eq_false (by omega : ¬ (j : Int) ≤ bt glob (i + 1)), decide_eq_false (by omega : ¬ (j : Int) < k)]
                              · rw [decide_eq_false e]; simp
                          go_wp2_with fail
                          go_roundg f
                          case measure => omega
                          case rel => exact ⟨i + 2, addR S low (bt glob (i + 1)), -1, by go_num, rfl, by omega, by omega, by omega, by omega, by omega, HN2.out, HW.out⟩
                  | false =>
                    have hnr : ¬ isRng (bl glob) i low := of_decide_eq_false HZ2.out.symm
                    have HNR : Hid (¬ isRng (bl glob) i low) := hnr
                    clear hnr HZ2
                    obtain ⟨z3, hz3⟩ : ∃ z, z = decide (isCls (bl glob) i) := ⟨_, rfl⟩
                    have HZ3 : Hid (z3 = decide (isCls (bl glob) i)) := hz3
                    clear hz3
                    go_upto_region 37 with fail
                    go_cut [163] from 148 to 162 (fun v wx => v = .bool z3 ∧ W2 w S = wx)
                    case first =>
                      by_cases a1 : bt glob i = 91
                      · have b1 : (bt glob i == 91) = true := by rw [a1]; rfl
                        by_cases a2 : i + 1 < glob.size
                        · have a2z : (i : Int) + 1 < (glob.size : Int) := by omega
                          have e : z3 = (bt glob (i + 1) == 58) := by
                            rw [HZ3.out, Bool.eq_iff_iff, decide_eq_true_eq, bt_bl glob (i + 1)]
                            have h91 : (bl glob).getD i 0 = 91 := by rw [← HY.out]; exact a1
                            constructor
                            · intro h; simpa using h.2.2
                            · intro h; exact ⟨h91, by rw [HL.out]; exact a2, by simpa using h⟩
                          have HE : Hid (z3 = (bt glob (i + 1) == 58)) := e
                          clear a1 e
                          go_wp2_with fail
                          go_meet
                          exact ⟨by rw [HE.out], rfl⟩
                        · have a2z : decide ((i : Int) + 1 < (glob.size : Int)) = false := decide_eq_false (by omega)
                          have e : z3 = false := by rw [HZ3.out]; exact decide_eq_false (fun h => by have := h.2.1; rw [HL.out] at this; omega)
                          subst e
                          clear a1
                          go_wp2_with fail
                          go_meet
                          exact ⟨rfl, rfl⟩
                      · have b1 : (bt glob i == 91) = false := by simpa using a1
                        have e : z3 = false := by rw [HZ3.out]; exact decide_eq_false (fun h => by have := h.1; rw [← HY.out] at this; exact a1 this)
                        subst e
                        clear a1
                        go_wp2_with fail
                        go_meet
                        exact ⟨rfl, rfl⟩
                    case rest =>
                      obtain ⟨rfl, rfl⟩ := hcut
                      cases z3 with
                      | true =>
                        have hcl : isCls (bl glob) i := of_decide_eq_true HZ3.out.symm
                        have HCL : Hid (isCls (bl glob) i) := hcl
                        have hi1 : i + 1 < glob.size := by have := hcl.2.1; rwa [HL.out] at this
                        have hb91 : bt glob i = 91 := by rw [HY.out]; exact hcl.1
                        have HB91 : Hid (bt glob i = 91) := hb91
                        obtain ⟨K, hK⟩ : ∃ K, K = nxtB (bl glob) (i + 2) := ⟨_, rfl⟩
                        have HK : Hid (K = nxtB (bl glob) (i + 2)) := hK
                        have hK1 : i + 2 ≤ K := by rw [hK]; exact nxtB_ge _ _
                        have hK2 : K ≤ glob.size := by rw [hK, ← HL.out]; exact nxtB_le _ _ (by rw [HL.out]; omega)
                        clear hcl HZ3 hK hb91
                        go_wp2_with fail
                        go_loopg [17] (glob.size + 1) (fun n v17 wr => ∃ k : Nat, v17 = .int .i64 k ∧ i + 2 ≤ k ∧ k ≤ glob.size ∧ glob.size < k + n ∧ nxtB (bl glob) k = K ∧ W2 w S = wr)
                        case atStart => exact ⟨i + 2, by go_num, by omega, by omega, by omega, HK.out.symm, rfl⟩
                        case round =>
                          obtain ⟨k, rfl, hk1, hk2, hn, hnx, rfl⟩ := hrel
                          obtain ⟨n, rfl⟩ : ∃ n, gk = n + 1 := ⟨gk - 1, by omega⟩
                          have HRL : Hid (nxtB (bl glob) k = K) := hnx
                          clear hnx
                          by_cases hkl : k < glob.size ∧ bt glob k ≠ 93
                          · obtain ⟨h1, h2⟩ := hkl
                            have h1z : (k : Int) < (glob.size : Int) := by omega
                            have h2b : (bt glob k != 93) = true := by simpa using h2
                            have HNx : Hid (nxtB (bl glob) (k + 1) = K) := (nxtB_step (by rw [HL.out]; exact h1) (by rw [← bt_bl]; exact h2)).symm.trans HRL.out
                            clear h2
                            go_wp2_with fail
                            go_roundg n
                            case measure => omega
                            case rel => exact ⟨k + 1, by go_num, by omega, by omega, by omega, HNx.out, rfl⟩
                          · have hkK : K = k := by
                              rw [← HRL.out]
                              by_cases h1 : k < glob.size
                              · have h2 : bt glob k = 93 := by
                                  by_cases e : bt glob k = 93
                                  · exact e
                                  · exact absurd ⟨h1, e⟩ hkl
                                exact nxtB_stop (by rw [HL.out]; exact h1) (by rw [← bt_bl]; exact h2)
                              · exact nxtB_end (by rw [HL.out]; omega)
                            subst hkK
                            clear HRL
                            by_cases hKs : K = glob.size
                            · have h1z : decide ((K : Int) < (glob.size : Int)) = false := decide_eq_false (by omega)
                              have h3b : ((K : Int) == (glob.size : Int)) = true := beq_iff_eq.2 (by omega)
                              have HRn : Hid (R = none) := by show R = none; rw [← HBR.out]; exact br_cls_open HCL.out (by rw [← HK.out, HL.out]; omega)
                              have HVn : Hid (V = .tuple #[.agg (arrB fun _ => false), .int .i64 0, .bool false]) := by
                                rcases HV.out with ⟨_, h⟩ | ⟨S', e, h, _⟩
                                · exact h
                                · rw [HRn.out] at h; cases h
                              clear hKs HV hkl
                              have q := store4 w S (fun _ => false)
                              go_wp2_with fail
                              refine wp_load_row 25 _ rfl (w.heap.size + 1) rfl 25 (arrB fun _ => false) (0, 0) _ (W2_7 w S) Try.underlying25 rfl (by rw [arrB_size]; exact Try.size25) ?_
                              go_wp2_with fail
                              (try simp only [Exit.inBlock, Exit.then])
                              refine bodyPost_ret (results8 _ w (fun _ => false) rfl) rfl ?_
                              exact ⟨by rw [HVn.out]; rfl, W2_below w _⟩
                            · have h1z : (K : Int) < (glob.size : Int) := by omega
                              have hKlt : K < glob.size := by omega
                              have h2b : (bt glob K != 93) = false := by
                                have : bt glob K = 93 := by
                                  by_cases e : bt glob K = 93
                                  · exact e
                                  · exact absurd ⟨hKlt, e⟩ hkl
                                rw [this]; rfl
                              have h3b : ((K : Int) == (glob.size : Int)) = false := beq_eq_false_iff_ne.2 (by omega)
                              have hK1z : (1 : Int) ≤ (K : Int) := by omega
                              clear hkl hKs
                              obtain ⟨z4, hz4⟩ : ∃ z, z = decide (i + 2 < K ∧ bt glob (K - 1) = 58) := ⟨_, rfl⟩
                              have HZ4 : Hid (z4 = decide (i + 2 < K ∧ bt glob (K - 1) = 58)) := hz4
                              clear hz4
                              go_upto_region 43 with fail
                              go_cut [193] from 183 to 192 (fun v wx => v = .bool z4 ∧ W2 w S = wx)
                              case first =>
                                by_cases a1 : i + 2 < K
                                · have a1z : (i : Int) + 2 < (K : Int) := by omega
                                  have e : z4 = (bt glob (K - 1) == 58) := by
                                    rw [HZ4.out, Bool.eq_iff_iff, decide_eq_true_eq, beq_iff_eq]
                                    exact ⟨fun h => h.2, fun h => ⟨a1, h⟩⟩
                                  have HE : Hid (z4 = (bt glob (K - 1) == 58)) := e
                                  clear a1 e
                                  go_wp2_with fail
                                  go_meet
                                  exact ⟨by rw [HE.out], rfl⟩
                                · have a1z : decide ((i : Int) + 2 < (K : Int)) = false := decide_eq_false (by omega)
                                  have e : z4 = false := by rw [HZ4.out]; exact decide_eq_false (fun h => a1 h.1)
                                  subst e
                                  clear a1
                                  go_wp2_with fail
                                  go_meet
                                  exact ⟨rfl, rfl⟩
                              case rest =>
                                obtain ⟨rfl, rfl⟩ := hcut
                                cases z4 with
                                | true =>
                                  have hnm : i + 2 < K ∧ bt glob (K - 1) = 58 := of_decide_eq_true HZ4.out.symm
                                  have hiK : i + 2 < K := hnm.1
                                  have HNM : Hid (bl (glob.extract (i + 2) (K - 1)) = nameAt (bl glob) i) := by
                                    show _ = _
                                    rw [bl_ext, nameAt, ← HK.out, List.drop_take]
                                  have HIN : Hid (isName (bl glob) i) := by show isName _ _; rw [isName, ← HK.out, ← bt_bl]; exact hnm
                                  clear hnm HZ4
                                  cases hcls : cls (nameAt (bl glob) i) with
                                  | none =>
                                    have HRn : Hid (R = none) := by show R = none; rw [← HBR.out]; exact br_cls_bad HCL.out (by rw [← HK.out, HL.out]; exact hKlt) HIN.out hcls
                                    have HZC : Hid (∀ w, Calls Try.prog 19 #[.string (glob.extract (i + 2) (K - 1)), .int .i64 0] w fun e w' => e = .returned (.tuple #[.bool false, .bool false]) ∧ w = w') := fun w => zzClass_any _ 0 false false w (by omega) (by omega) (by rw [HNM.out, hcls]) (by rw [HNM.out, hcls]; rfl)
                                    have HVn : Hid (V = .tuple #[.agg (arrB fun _ => false), .int .i64 0, .bool false]) := by
                                      rcases HV.out with ⟨_, h⟩ | ⟨S', e, h, _⟩
                                      · exact h
                                      · rw [HRn.out] at h; cases h
                                    clear hcls HV
                                    have q := store4 w S (fun _ => false)
                                    go_wp2_with fail
                                    refine (HZC.out _).mono ?_
                                    rintro e w' ⟨rfl, rfl⟩
                                    go_wp2_with fail
                                    refine wp_load_row 25 _ rfl (w.heap.size + 1) rfl 25 (arrB fun _ => false) (0, 0) _ (W2_7 w S) Try.underlying25 rfl (by rw [arrB_size]; exact Try.size25) ?_
                                    go_wp2_with fail
                                    (try simp only [Exit.inBlock, Exit.then])
                                    refine bodyPost_ret (results8 _ w (fun _ => false) rfl) rfl ?_
                                    exact ⟨by rw [HVn.out]; rfl, W2_below w _⟩
                                  | some C =>
                                    have HCLS : Hid (cls (nameAt (bl glob) i) = some C) := hcls
                                    have HN2 : Hid (brF (bl glob) neg f (K + 1) (decide (K + 1 = g)) (-1) (addC S C) = R) := by
                                      show _ = R; rw [decide_eq_false (by omega), ← HBR.out, HK.out]; exact (br_cls HCL.out (by rw [← HK.out, HL.out]; exact hKlt) HIN.out hcls).symm
                                    obtain ⟨m0, hm0⟩ : ∃ mb, mb = C 0 := ⟨_, rfl⟩
                                    have HZ0 : Hid (∀ w, Calls Try.prog 19 #[.string (glob.extract (i + 2) (K - 1)), .int .i64 0] w fun e w' => e = .returned (.tuple #[.bool m0, .bool true]) ∧ w = w') := fun w => zzClass_any _ 0 m0 true w (by omega) (by omega) (by rw [HNM.out, hcls, hm0]) (by rw [HNM.out, hcls]; rfl)
                                    clear hcls hm0
                                    go_wp2_with fail
                                    refine (HZ0.out _).mono ?_
                                    rintro e w' ⟨rfl, rfl⟩
                                    go_wp2_with fail
                                    go_loopg [21, 22, 23] 257 (fun n v21 v22 v23 wr => ∃ k : Nat, v21 = .int .i64 k ∧ k ≤ 256 ∧ 256 < k + n ∧ W2 w (fun x => S x || (decide (x < (k : Int)) && C x)) = wr)
                                    case atStart => exact ⟨0, rfl, by omega, by omega, W2_congr w (fun k _ => by rw [decide_eq_false (by omega : ¬ (k : Int) < ((0 : Nat) : Int))]; simp)⟩
                                    case round =>
                                      obtain ⟨k, rfl, hk, hn, rfl⟩ := hrel
                                      obtain ⟨n, rfl⟩ : ∃ n, gk = n + 1 := ⟨gk - 1, by omega⟩
                                      obtain ⟨T, hT⟩ : ∃ T : Int → Bool, T = fun x => S x || (decide (x < (k : Int)) && C x) := ⟨_, rfl⟩
                                      rw [← hT]
                                      have HT : Hid (T = fun x => S x || (decide (x < (k : Int)) && C x)) := hT
                                      clear hT
                                      by_cases hk2 : k < 256
                                      · have hkz : (k : Int) < 256 := by omega
                                        obtain ⟨mb, hmb⟩ : ∃ mb, mb = C k := ⟨_, rfl⟩
                                        have HZC : Hid (∀ w, Calls Try.prog 19 #[.string (glob.extract (i + 2) (K - 1)), .int .i64 (k : Nat)] w fun e w' => e = .returned (.tuple #[.bool mb, .bool true]) ∧ w = w') := fun w => zzClass_any _ k mb true w (by omega) (by omega) (by rw [HNM.out, HCLS.out, hmb]) (by rw [HNM.out, HCLS.out]; rfl)
                                        have HMB : Hid (mb = C k) := hmb
                                        clear hmb
                                        cases mb with
                                        | false =>
                                          have HW : Hid (W2 w (fun x => S x || (decide (x < ((k + 1 : Nat) : Int)) && C x)) = W2 w T) := W2_congr w fun j _ => by
                                            rw [HT.out]
                                            show (S j || (decide ((j : Int) < ((k + 1 : Nat) : Int)) && C j)) = (S j || (decide ((j : Int) < (k : Int)) && C j))
                                            by_cases e : (j : Int) = k
                                            · rw [e, ← HMB.out]; simp
                                            · congr 2; rw [Bool.eq_iff_iff, decide_eq_true_eq, decide_eq_true_eq]; omega
                                          go_wp2_with fail
                                          refine (HZC.out _).mono ?_
                                          rintro e w' ⟨rfl, rfl⟩
                                          go_wp2_with fail
                                          go_roundg n
                                          case measure => omega
                                          case rel => exact ⟨k + 1, by go_num, by omega, by omega, HW.out⟩
                                        | true =>
                                          have c1 := cellW2 w T k hk2
                                          have c2 := frozW2 w T k
                                          have c3 := setW2' w T k true
                                          have HW : Hid (W2 w (fun x => S x || (decide (x < ((k + 1 : Nat) : Int)) && C x)) = W2 w (fun c => if c = (k : Int) then true else T c)) := W2_congr w fun j _ => by
                                            rw [HT.out]
                                            show (S j || (decide ((j : Int) < ((k + 1 : Nat) : Int)) && C j)) = if (j : Int) = k then true else (S j || (decide ((j : Int) < (k : Int)) && C j))
                                            by_cases e : (j : Int) = k
                                            · rw [if_pos e, e, ← HMB.out, decide_eq_true (by omega : (k : Int) < ((k + 1 : Nat) : Int))]; simp
                                            · rw [if_neg e]; congr 2; rw [Bool.eq_iff_iff, decide_eq_true_eq, decide_eq_true_eq]; omega
                                          go_wp2_with fail
                                          refine (HZC.out _).mono ?_
                                          rintro e w' ⟨rfl, rfl⟩
                                          go_wp2_with fail
                                          go_roundg n
                                          case measure => omega
                                          case rel => exact ⟨k + 1, by go_num, by omega, by omega, HW.out.trans (W2_congr w fun j _ => by by_cases e : (j : Int) = k <;> simp [e])⟩
                                      · have e1 : decide ((k : Int) < 256) = false := decide_eq_false (by omega)
                                        have e2 : ¬ ((k : Int) < 256) := by omega
                                        have HW : Hid (W2 w (addC S C) = W2 w T) := W2_congr w fun j hj => by
                                          rw [HT.out]
                                          show (S j || C j) = (S j || (decide ((j : Int) < (k : Int)) && C j))
                                          rw [decide_eq_true (by omega : (j : Int) < (k : Int)), Bool.true_and]
                                        clear hk2
                                        go_wp2_with fail
                                        go_roundg f
                                        case measure => omega
                                        case rel => exact ⟨K + 1, addC S C, -1, by go_num, rfl, by omega, by omega, by omega, by omega, by omega, HN2.out, HW.out⟩
                                | false =>
                                  have hnm : ¬ (i + 2 < K ∧ bt glob (K - 1) = 58) := of_decide_eq_false HZ4.out.symm
                                  have HN2 : Hid (brF (bl glob) neg f (i + 1) (decide (i + 1 = g)) 91 (addB S 91) = R) := by
                                    show _ = R; rw [decide_eq_false (by omega), ← HBR.out]; exact (br_cls_not HCL.out (by rw [← HK.out, HL.out]; omega) (by rw [isName, ← HK.out, ← bt_bl]; exact hnm)).symm
                                  have c1 := cellW2 w S 91 (by omega)
                                  have c2 := frozW2 w S 91
                                  have c3 := setW2 w S 91 (by omega) (by omega)
                                  have c4 := HB91.out
                                  clear hnm HZ4
                                  go_wp2_with fail
                                  go_roundg f
                                  case measure => omega
                                  case rel => exact ⟨i + 1, addB S 91, 91, by go_num, rfl, by omega, by omega, by omega, by omega, by omega, HN2.out, (setW2 w S 91 (by omega) (by omega)).symm⟩
                      | false =>
                        have hnc : ¬ isCls (bl glob) i := of_decide_eq_false HZ3.out.symm
                        have hnn := bt_nonneg glob i
                        have hnn2 := bt_le glob i
                        have HN2 : Hid (brF (bl glob) neg f (i + 1) (decide (i + 1 = g)) (bt glob i) (addB S (bt glob i)) = R) := by
                          show _ = R; rw [decide_eq_false (by omega), ← HBR.out, HY.out]; exact (br_lit HIL.out HZ.out H92.out HNR.out hnc).symm
                        clear hnc HZ3
                        have c1 := cellW2 w S (bt glob i).toNat (by omega)
                        have c2 := frozW2 w S (bt glob i).toNat
                        have c3 := setW2 w S (bt glob i) hnn hnn2
                        go_wp2_with fail
                        go_roundg f
                        case measure => omega
                        case rel => exact ⟨i + 1, addB S (bt glob i), bt glob i, by go_num, rfl, by omega, by omega, by omega, by omega, hnn2, HN2.out, rfl⟩

/-- zzBracketSet. -/
theorem set_any (glob : ByteArray) (g : Nat) (V : Value) (w : World) (hg : glob.size ≤ 1048576) (hst : g < glob.size)
    (hV : (Br (bl glob) g = none ∧ V = .tuple #[.agg (arrB fun _ => false), .int .i64 0, .bool false]) ∨ ∃ S e, Br (bl glob) g = some (S, e) ∧ V = .tuple #[.agg (arrB S), .int .i64 (e : Nat), .bool true]) :
    Calls Try.prog 8 #[.string glob, .int .i64 g] w fun e w' => e = .returned V ∧ Below w.heap.size w w' := by
  have hl := bl_length glob
  by_cases hn : isNeg (bl glob) g
  · have e : Br (bl glob) g = brF (bl glob) true ((bl glob).length + 2) (g + 2) true (-1) (fun _ => false) := by unfold Br; rw [if_pos hn]
    obtain ⟨n1, n2⟩ := hn
    exact set_core glob g (g + 2) true (Br (bl glob) g) V w hg hst (.inl ⟨rfl, by omega, by rw [bt_bl]; exact n2, rfl⟩) e.symm hV
  · have e : Br (bl glob) g = brF (bl glob) false ((bl glob).length + 2) (g + 1) true (-1) (fun _ => false) := by unfold Br; rw [if_neg hn]
    refine set_core glob g (g + 1) false (Br (bl glob) g) V w hg hst (.inr ⟨rfl, fun h => ?_, rfl⟩) e.symm hV
    rw [bt_bl]
    exact ⟨fun h' => hn ⟨by omega, .inl h'⟩, fun h' => hn ⟨by omega, .inr h'⟩⟩
end Go.Proofs.Qxb6617323a
