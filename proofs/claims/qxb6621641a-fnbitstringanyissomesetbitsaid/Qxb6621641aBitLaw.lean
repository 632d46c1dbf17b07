/-
  THE LAW FnBitStringAnyIsSomeSetBit, WALKED: not empty.
-/
import Derived.Test.Qxb6621641aBitFns
import Derived.Deep.RegionHeld3
import Derived.Deep.RegionWith
import Derived.Deep.DeepCutAuto
namespace Go.Proofs.Qxb6621641a
open Go.RowKit
set_option linter.unusedVariables false

/-- What stands behind the first three blocks. -/
structure St (W wr : World) (len n : Nat) (zs : List Int) : Prop where
  below : Below W.heap.size W wr
  size : W.heap.size + 3 ≤ wr.heap.size
  first : Row wr W.heap.size 0 len zs
  orig : Row wr (W.heap.size + 1) 0 len zs
  bs : wr.cell? ⟨W.heap.size + 1 + 1, 0, none⟩ = some (.slice (some ⟨W.heap.size, 0, none⟩) len len)
  bn : wr.cell? ⟨W.heap.size + 1 + 1, 1, none⟩ = some (.int .i64 n)

theorem Row.keep {w w' : World} {b off len : Nat} {zs : List Int} (h : Row w b off len zs) (hb : Below w.heap.size w w') : Row w' b off len zs :=
  ⟨h.1, h.2.1, fun i hi => by have := World.block_lt_of_cell? _ _ (h.2.2 i hi); rw [hb.cell (p := ⟨b, off + i, none⟩) this]; exact h.2.2 i hi⟩
theorem St.keep {W w w' : World} {len n : Nat} {zs : List Int} (h : St W w len n zs) (hb : Below w.heap.size w w') : St W w' len n zs :=
  ⟨h.below.trans (hb.mono (by have := h.size; omega)), by have := h.size; have := hb.size; omega, h.first.keep hb, h.orig.keep hb,
    by rw [hb.cell (p := ⟨W.heap.size + 1 + 1, 0, none⟩) (by have := h.size; show W.heap.size + 1 + 1 < _; omega)]; exact h.bs,
    by rw [hb.cell (p := ⟨W.heap.size + 1 + 1, 1, none⟩) (by have := h.size; show W.heap.size + 1 + 1 < _; omega)]; exact h.bn⟩

theorem big_any (a : Option Addr) (len cap : Nat) (n : Int) (w : World) (h : 65536 < len ∨ n < 0 ∨ 8 * (len : Int) < n) :
    Calls Try.prog 3 #[.slice a len cap, .int .i64 n] w fun e w' => e = .returned (.bool true) ∧ Below w.heap.size w w' := by
  by_cases h1 : 1048576 < len
  · go_enter Try.func3, Try.ntmps3
    go_wp2_with (go_at_call 6; refine (zz6_no _ _ _ _ _ h1).mono ?_; rintro e w' ⟨rfl, rfl⟩)
    go_ret
    exact ⟨rfl, Below.refl _ _⟩
  by_cases h2 : 65536 < len
  · go_enter Try.func3, Try.ntmps3
    go_wp2_with (go_at_call 6; refine (zz6_yes _ _ _ _ _ (by omega)).mono ?_; rintro e w' ⟨rfl, rfl⟩)
    go_ret
    exact ⟨rfl, Below.refl _ _⟩
  by_cases h3 : n < 0
  · go_enter Try.func3, Try.ntmps3
    go_wp2_with (go_at_call 6; refine (zz6_yes _ _ _ _ _ (by omega)).mono ?_; rintro e w' ⟨rfl, rfl⟩)
    go_ret
    exact ⟨rfl, Below.refl _ _⟩
  · have h4 : 8 * (len : Int) < n := by omega
    go_enter Try.func3, Try.ntmps3
    go_wp2_with (go_at_call 6; refine (zz6_yes _ _ _ _ _ (by omega)).mono ?_; rintro e w' ⟨rfl, rfl⟩)
    go_ret
    exact ⟨rfl, Below.refl _ _⟩

theorem row_new (w : World) (zs : List Int) (len : Nat) (hz : zs.length = len) (hb : ∀ i, Byte (zs.getD i 0)) : Row (w.alloc (.cells (cellsOf zs) 5)) w.heap.size 0 len zs :=
  ⟨hz, hb, fun i hi => by rw [World.cell?_alloc_at _ _ _ _ rfl, Nat.zero_add]; exact cellsOf_get zs i (by omega)⟩

theorem byte_div {z : Int} (h : Byte z) (k : Nat) : Byte (z / 2 ^ k) := by
  obtain ⟨h0, h1⟩ := h
  have hp : (0 : Int) < 2 ^ k := Int.pow_pos (by decide)
  refine ⟨Int.ediv_nonneg h0 (Int.le_of_lt hp), ?_⟩
  have : z / 2 ^ k ≤ z := Int.ediv_le_self _ h0
  omega

/-- The contracts once more, the world behind the call as a letter. -/
theorem at_in' (b off len cap : Nat) (zs : List Int) (n i : Nat) (w : World) (hr : Row w b off len zs) (hl : len ≤ 65536) (hn : n ≤ 8 * len) (hi : i < n) :
    Calls Try.prog 9 #[.agg #[.slice (some ⟨b, off, none⟩) len cap, .int .i64 n], .int .i64 i] w fun e w' => e = .returned (.bool (atB zs i)) ∧ Below w.heap.size w w' :=
  (at_in b off len cap zs n i w hr hl hn hi).mono fun e w' ⟨he, nq, hw⟩ => ⟨he, by rw [hw]; exact below_drewN ((Below.refl _ _).alloc (Nat.le_refl _) _) nq⟩
theorem at_out' (a : Option Addr) (len cap : Nat) (n i : Int) (w : World) (h : i < 0 ∨ n ≤ i) :
    Calls Try.prog 9 #[.agg #[.slice a len cap, .int .i64 n], .int .i64 i] w fun e w' => e = .returned (.bool false) ∧ Below w.heap.size w w' :=
  (at_out a len cap n i w h).mono fun e w' ⟨he, hw⟩ => ⟨he, by rw [hw]; exact (Below.refl _ _).alloc (Nat.le_refl _) _⟩
theorem any_in' (b off len cap : Nat) (zs : List Int) (n : Nat) (w : World) (hr : Row w b off len zs) (hlc : len ≤ cap) (hl : len ≤ 65536) (hn : n ≤ 8 * len) :
    Calls Try.prog 10 #[.agg #[.slice (some ⟨b, off, none⟩) len cap, .int .i64 n]] w fun e w' => e = .returned (.bool (anyB zs n)) ∧ Below w.heap.size w w' :=
  (any_in b off len cap zs n w hr hlc hl hn).mono fun e w' ⟨he, nq, hw⟩ => ⟨he, by rw [hw]; exact below_drewN ((Below.refl _ _).alloc (Nat.le_refl _) _) nq⟩
theorem any_none' (a : Option Addr) (len cap : Nat) (w : World) : Calls Try.prog 10 #[.agg #[.slice a len cap, .int .i64 0]] w fun e w' => e = .returned (.bool false) ∧ Below w.heap.size w w' :=
  (any_none a len cap w).mono fun e w' ⟨he, nq, hw⟩ => ⟨he, by rw [hw]; exact below_drewN ((Below.refl _ _).alloc (Nat.le_refl _) _) nq⟩

/-- The bytes ys bear the same first n bits as zs. -/
structure Like (len n : Nat) (zs ys : List Int) : Prop where
  len : ys.length = len
  byte : ∀ i, Byte (ys.getD i 0)
  full : ∀ j, j < n / 8 → ys.getD j 0 = zs.getD j 0
  rest : ∀ r, r < n % 8 → bitZ (ys.getD (n / 8) 0) r = bitZ (zs.getD (n / 8) 0) r
theorem getD_set (ys : List Int) (k i : Nat) (v : Int) : (ys.set k v).getD i 0 = if k = i ∧ k < ys.length then v else ys.getD i 0 := by
  rw [List.getD_eq_getElem?_getD, List.getElem?_set, List.getD_eq_getElem?_getD]
  by_cases e : k = i
  · subst e
    by_cases h : k < ys.length
    · simp [h]
    · simp [h]
  · simp [e]
theorem cells_set (ys : List Int) (k : Nat) (v : Int) : (cellsOf ys).setIfInBounds k (.int .u8 v) = cellsOf (ys.set k v) := by
  simp [cellsOf, List.map_set]
theorem like_refl {len n : Nat} {zs : List Int} (h : zs.length = len) (hb : ∀ i, Byte (zs.getD i 0)) : Like len n zs zs := ⟨h, hb, fun _ _ => rfl, fun _ _ => rfl⟩
theorem like_or {len n : Nat} {zs : List Int} (h : zs.length = len) (hb : ∀ i, Byte (zs.getD i 0)) : Like len n zs (zs.set (n / 8) (bits .or .u8 (zs.getD (n / 8) 0) (255 / 2 ^ (n % 8)))) := by
  have hu : n % 8 < 8 := by omega
  refine ⟨by simp [h], fun i => ?_, fun j hj => ?_, fun r hr => ?_⟩
  · rw [getD_set]; split
    · exact or_bd (hb _) hu
    · exact hb i
  · rw [getD_set, if_neg (by omega)]
  · rw [getD_set]; split
    · exact or_bit (hb _) hu hr
    · rfl
theorem like_ff {len n : Nat} {zs ys : List Int} (h : Like len n zs ys) {k : Nat} (hk : (n + 7) / 8 ≤ k) : Like len n zs (ys.set k 255) := by
  refine ⟨by simp [h.len], fun i => ?_, fun j hj => ?_, fun r hr => ?_⟩
  · rw [getD_set]; split
    · exact ⟨by decide, by decide⟩
    · exact h.byte i
  · rw [getD_set, if_neg (by omega)]; exact h.full j hj
  · rw [getD_set, if_neg (by omega)]; exact h.rest r hr

/-- What stands behind the five blocks. -/
structure Sq (w wa wr : World) (len n : Nat) (zs ys : List Int) : Prop where
  st : St w wr len n zs
  row : Row wr wa.heap.size 0 len ys
  qs : wr.cell? ⟨wa.heap.size + 1, 0, none⟩ = some (.slice (some ⟨wa.heap.size, 0, none⟩) len len)
  qn : wr.cell? ⟨wa.heap.size + 1, 1, none⟩ = some (.int .i64 n)
theorem Sq.keep {W wa w w' : World} {len n : Nat} {zs ys : List Int} (h : Sq W wa w len n zs ys) (hb : Below w.heap.size w w') : Sq W wa w' len n zs ys :=
  ⟨h.st.keep hb, h.row.keep hb,
    by rw [hb.cell (p := ⟨wa.heap.size + 1, 0, none⟩) (World.block_lt_of_cell? _ _ h.qs)]; exact h.qs,
    by rw [hb.cell (p := ⟨wa.heap.size + 1, 1, none⟩) (World.block_lt_of_cell? _ _ h.qn)]; exact h.qn⟩
theorem sq_start {w wa : World} {len n : Nat} {zs ys : List Int} (h : St w wa len n zs) (hl : Like len n zs ys) :
    Sq w wa ((wa.alloc (.cells (cellsOf ys) 5)).alloc (.cells #[.slice (some ⟨wa.heap.size, 0, none⟩) len len, .int .i64 n] 26)) len n zs ys :=
  ⟨h.keep (((Below.refl _ _).alloc (Nat.le_refl _) _).alloc (by simp) _), (row_new wa ys len hl.len hl.byte).alloc _,
    by rw [World.cell?_alloc_at _ _ _ _ (by simp)]; rfl, by rw [World.cell?_alloc_at _ _ _ _ (by simp)]; rfl⟩

theorem sq_S {w wa wr : World} {len n : Nat} {zs ys : List Int} (h : Sq w wa wr len n zs ys) :
    wr.cell? ⟨w.heap.size + 1 + 1, 0, none⟩ = some (.slice (some ⟨w.heap.size, 0, none⟩) len len) ∧ wr.cell? ⟨w.heap.size + 1 + 1, 1, none⟩ = some (.int .i64 n) ∧
    wr.cell? ⟨wa.heap.size + 1, 0, none⟩ = some (.slice (some ⟨wa.heap.size, 0, none⟩) len len) ∧ wr.cell? ⟨wa.heap.size + 1, 1, none⟩ = some (.int .i64 n) ∧ Hid (Sq w wa wr len n zs ys) :=
  ⟨h.st.bs, h.st.bn, h.qs, h.qn, h⟩
theorem sq_of {w wa wr : World} {len n : Nat} {zs ys : List Int} {a b c d : Prop} (h : a ∧ b ∧ c ∧ d ∧ Hid (Sq w wa wr len n zs ys)) : Sq w wa wr len n zs ys := h.2.2.2.2

/-- The three blocks. -/
def W3 (w : World) (len n : Nat) (zs : List Int) : World :=
  ((w.alloc (.cells (cellsOf zs) 5)).alloc (.cells (cellsOf zs) 5)).alloc (.cells #[.slice (some ⟨w.heap.size, 0, none⟩) len len, .int .i64 n] 26)
theorem st_start (w : World) (len n : Nat) (zs : List Int) (hz : zs.length = len) (hb : ∀ i, Byte (zs.getD i 0)) : St w (W3 w len n zs) len n zs := by
  unfold W3
  refine ⟨(((Below.refl _ _).alloc (Nat.le_refl _) _).alloc (by simp) _).alloc (by simp; omega) _, by simp, ?_, ?_, ?_, ?_⟩
  · exact ((row_new w zs len hz hb).alloc _).alloc _
  · have h := row_new (w.alloc (.cells (cellsOf zs) 5)) zs len hz hb
    simp at h
    exact h.alloc _
  · rw [World.cell?_alloc_at _ _ _ _ (by simp)]; rfl
  · rw [World.cell?_alloc_at _ _ _ _ (by simp)]; rfl

set_option maxHeartbeats 1000000 in
theorem law_in (b off len cap n : Nat) (zs : List Int) (w : World) (hr : Row w b off len zs) (h0 : 0 < len) (hl : len ≤ 65536) (hn : n ≤ 8 * len) :
    Calls Try.prog 3 #[.slice (some ⟨b, off, none⟩) len cap, .int .i64 n] w fun e w' => e = .returned (.bool true) ∧ Below w.heap.size w w' := by
  have hnn : ¬ (n : Int) < 0 := by omega
  have hn8 : (n : Int) ≤ 8 * (len : Int) := by omega
  have hr1 := row_new w zs len hr.1 hr.2.1
  have hs := st_start w len n zs hr.1 hr.2.1
  have hz := hr.1
  have HR : Hid (Row w b off len zs) := hr
  have HR1 : Hid (Row (w.alloc (.cells (cellsOf zs) 5)) w.heap.size 0 len zs) := hr1
  have HS : Hid (St w (W3 w len n zs) len n zs) := hs
  clear hs hr hr1
  go_enter Try.func3, Try.ntmps3
  go_wp2_with (go_at_call 6; refine (zz6_yes _ _ _ _ _ (by omega)).mono ?_; rintro e w' ⟨rfl, rfl⟩)
  refine (clone_any b off len cap zs _ hl HR.out.1 HR.out.2.2).mono ?_
  rintro e w' ⟨rfl, rfl⟩
  go_wp2_with fail
  refine (clone_any w.heap.size 0 len len zs _ hl HR1.out.1 HR1.out.2.2).mono ?_
  rintro e w' ⟨rfl, rfl⟩
  go_wp2
  -- the first loop: the set bits of the full bytes
  go_loopw [9, 10] (fun v i wr => ∃ k : Nat, k ≤ n / 8 ∧ i = .int .i64 k ∧ v = .int .i64 (ones zs k) ∧ St w wr len n zs) (fun _ i _ => n / 8 - (intOf i).toNat)
  case atStart => exact ⟨0, Nat.zero_le _, rfl, rfl, HS.out⟩
  case round =>
    obtain ⟨k, hk, rfl, rfl, hs⟩ := hrel
    clear HS HR1
    have hon := ones_le zs k
    have HS : Hid (St w wr len n zs) := hs
    clear hs
    by_cases hlt : k < n / 8
    · have hck := HS.out.orig.2.2 k (by omega)
      rw [Nat.zero_add] at hck
      have hltz : (k : Int) < (n : Int) / 8 := by omega
      have hlz : (k : Int) < (len : Int) := by omega
      have hkz : k < zs.length := by omega
      have hp := part_le (zs.getD k 0) 8
      have HB : Hid (Byte (zs.getD k 0)) := HR.out.2.1 k
      have HO : Hid (ones zs (k + 1) = ones zs k + part (zs.getD k 0) 8) := rfl
      obtain ⟨y, hy⟩ : ∃ y, y = zs.getD k 0 := ⟨_, rfl⟩
      rw [← hy] at hck HB HO hp
      clear hy
      go_wp2_with (go_at_call 8; refine (popcount_any _ HB.out _).mono ?_; rintro e w' ⟨rfl, rfl⟩)
      go_roundw
      case rel => exact ⟨k + 1, by omega, by go_num, by rw [HO.out]; go_num, HS.out⟩
      case measure => simp [intOf]; omega
    · have hge : (n : Int) / 8 ≤ (k : Int) := by omega
      have HE : Hid (k = n / 8) := by show k = n / 8; omega
      go_upto_if 59 with fail
      go_cut [9] from 58 to 70 (fun v wx => v = .int .i64 (cnt zs n) ∧ St w wx len n zs)
      case first =>
        by_cases hu : 0 < n % 8
        · have huz : (0 : Int) < (n : Int) % 8 := by omega
          have hlz : (n : Int) / 8 < (len : Int) := by omega
          have hck := HS.out.orig.2.2 (n / 8) (by omega)
          rw [Nat.zero_add] at hck
          have hkz : n / 8 < zs.length := by omega
          have HP : Hid (part (zs.getD (n / 8) 0 / 2 ^ (8 - n % 8)) 8 = part (zs.getD (n / 8) 0) (n % 8)) := pc_part (HR.out.2.1 _) (by omega)
          have HB : Hid (Byte (zs.getD (n / 8) 0)) := HR.out.2.1 _
          obtain ⟨y, hy⟩ : ∃ y, y = zs.getD (n / 8) 0 := ⟨_, rfl⟩
          have HC : Hid (cnt zs n = ones zs k + part (zs.getD (n / 8) 0) (n % 8)) := by rw [HE.out]; rfl
          rw [← hy] at hck HP HB HC
          clear hy
          have hp := part_le (y / 2 ^ (8 - n % 8)) 8
          go_wp2_with fail
          refine (popcount_any _ (byte_div HB.out _) _).mono ?_
          rintro e w' ⟨rfl, rfl⟩
          go_wp2_with fail
          go_meet
          exact ⟨by rw [HC.out, ← HP.out]; go_num, HS.out⟩
        · have huz : ¬ (0 : Int) < (n : Int) % 8 := by omega
          have HC : Hid (cnt zs n = ones zs k) := by
            have e : n % 8 = 0 := by omega
            unfold cnt; rw [e, HE.out]; rfl
          go_wp2_with fail
          go_meet
          exact ⟨by rw [HC.out], HS.out⟩
      case rest =>
        clear HS HE hon
        obtain ⟨rfl, hs⟩ := hcut
        have HS : Hid (St w wc len n zs) := hs
        clear hs
        go_wp2_with fail
        -- the second loop: At, bit by bit
        go_loopw [11, 12] (fun v i wr => ∃ j : Nat, j ≤ n ∧ i = .int .i64 j ∧ v = .int .i64 (cnt zs j) ∧ St w wr len n zs) (fun _ i _ => n - (intOf i).toNat)
        case atStart => exact ⟨0, Nat.zero_le _, rfl, rfl, HS.out⟩
        case round =>
          obtain ⟨j, hj, rfl, rfl, hs⟩ := hrel
          clear HS
          have hcj := cnt_le zs j
          have HS : Hid (St w wr len n zs) := hs
          have c0 := hs.bs
          have c1 := hs.bn
          clear hs
          by_cases hlt : j < n
          · have HC : Hid (cnt zs (j + 1) = cnt zs j + (if atB zs j then 1 else 0)) := cnt_succ zs j
            by_cases hb : atB zs j = true
            all_goals
              go_wp2_with fail
              refine (at_in w.heap.size 0 len len zs n j _ HS.out.first hl hn hlt).mono ?_
              rintro e w' ⟨rfl, nq, rfl⟩
              go_wp2
              go_roundw
              case rel => exact ⟨j + 1, by omega, by go_num, by rw [HC.out]; simp [hb], HS.out.keep (below_drewN ((Below.refl _ _).alloc (Nat.le_refl _) _) nq)⟩
              case measure => simp [intOf]; omega
          · have e : n = j := by omega
            subst e
            clear hj hlt
            go_wp2_with fail
            refine (any_in' w.heap.size 0 len len zs n _ HS.out.first (Nat.le_refl _) hl hn).mono ?_
            rintro e wa ⟨rfl, hwa⟩
            have HSa : Hid (St w wa len n zs) := HS.out.keep hwa
            have hA : (!anyB zs n == decide (0 < cnt zs n)) = false := by simp [anyB]
            clear HS c0 c1 hwa
            go_wp2_with fail
            clear hA
            refine (clone_any (w.heap.size + 1) 0 len len zs _ hl HSa.out.orig.1 HSa.out.orig.2.2).mono ?_
            rintro e w' ⟨rfl, rfl⟩
            go_upto_if 93 with fail
            go_cut [] from 92 to 104 (fun wx => ∃ ys, wx = wa.alloc (.cells (cellsOf ys) 5) ∧ Like len n zs ys)
            case first =>
              by_cases hu : 0 < n % 8
              · have huz : (0 : Int) < (n : Int) % 8 := by omega
                have hlz : (n : Int) / 8 < (len : Int) := by omega
                have hck := cellsOf_get zs (n / 8) (by omega)
                have HL : Hid (Like len n zs (zs.set (n / 8) (bits .or .u8 (zs.getD (n / 8) 0) (255 / 2 ^ (n % 8))))) := like_or HSa.out.orig.1 HSa.out.orig.2.1
                obtain ⟨y, hy⟩ : ∃ y, y = zs.getD (n / 8) 0 := ⟨_, rfl⟩
                rw [← hy] at hck HL
                clear hy
                go_wp2_with fail
                go_meet
                exact ⟨_, by rw [cells_set], HL.out⟩
              · have huz : ¬ (0 : Int) < (n : Int) % 8 := by omega
                go_wp2_with fail
                go_meet
                exact ⟨zs, rfl, like_refl HSa.out.orig.1 HSa.out.orig.2.1⟩
            case rest =>
              obtain ⟨ys, rfl, hlk⟩ := hcut
              have HL : Hid (Like len n zs ys) := hlk
              clear hlk
              go_wp2_with fail
              -- the third loop: ones behind the length
              go_loopw [15] (fun i wr => ∃ (k : Nat) (ys : List Int), (n + 7) / 8 ≤ k ∧ k ≤ len ∧ i = .int .i64 k ∧ wr = wa.alloc (.cells (cellsOf ys) 5) ∧ Like len n zs ys) (fun i _ => len - (intOf i).toNat)
              case atStart => exact ⟨(n + 7) / 8, ys, Nat.le_refl _, by omega, by go_num, rfl, HL.out⟩
              case round =>
                clear HL
                obtain ⟨k, ys, hk0, hk1, rfl, rfl, hlk⟩ := hrel
                have hy := hlk.len
                have HL : Hid (Like len n zs ys) := hlk
                clear hlk
                by_cases hlt : k < len
                · have hck := cellsOf_get ys k (by omega)
                  go_wp2_with fail
                  go_roundw
                  case rel => exact ⟨k + 1, _, by omega, by omega, by go_num, by rw [cells_set], like_ff HL.out hk0⟩
                  case measure => simp [intOf]; omega
                · have hge : (len : Int) ≤ (k : Int) := by omega
                  go_wp2_with fail
                  have hsq := sq_start HSa.out HL.out
                  refine (any_in' wa.heap.size 0 len len ys n _ hsq.row (Nat.le_refl _) hl hn).mono ?_
                  rintro e wq ⟨rfl, hwq⟩
                  have HQ : Hid (Sq w wa wq len n zs ys) := hsq.keep hwq
                  have hA : (!anyB ys n == anyB zs n) = false := by simp [anyB, cnt_other HL.out.full HL.out.rest]
                  have HT : Hid (∀ i, i < n → atB ys i = atB zs i) := at_other HL.out.full HL.out.rest
                  clear hsq hwq HL HSa
                  go_wp2_with fail
                  clear hA
                  -- the fourth loop: At of both, bit by bit
                  go_loopw [17] (fun i wr => ∃ j : Nat, j ≤ n ∧ i = .int .i64 j ∧ Sq w wa wr len n zs ys) (fun i _ => n - (intOf i).toNat)
                  case atStart => exact ⟨0, Nat.zero_le _, rfl, HQ.out⟩
                  case round =>
                    clear HQ
                    obtain ⟨j, hj, rfl, hq⟩ := hrel
                    have HQ : Hid (Sq w wa wr len n zs ys) := hq
                    have c0 := hq.st.bs
                    have c1 := hq.st.bn
                    have d0 := hq.qs
                    have d1 := hq.qn
                    clear hq
                    by_cases hlt : j < n
                    · have hat : atB ys j = atB zs j := HT.out j hlt
                      obtain ⟨x, hx⟩ : ∃ x, x = atB zs j := ⟨_, rfl⟩
                      have HX : Hid (atB zs j = x) := hx.symm
                      have HY : Hid (atB ys j = x) := by rw [hx]; exact hat
                      clear hat hx
                      go_wp2_with fail
                      go_region_held3 (fun w' => w'.cell? ⟨w.heap.size + 1 + 1, 0, none⟩ = some (.slice (some ⟨w.heap.size, 0, none⟩) len len) ∧ w'.cell? ⟨w.heap.size + 1 + 1, 1, none⟩ = some (.int .i64 n) ∧
    w'.cell? ⟨wa.heap.size + 1, 0, none⟩ = some (.slice (some ⟨wa.heap.size, 0, none⟩) len len) ∧ w'.cell? ⟨wa.heap.size + 1, 1, none⟩ = some (.int .i64 n) ∧ Hid (Sq w wa w' len n zs ys))
                        (first | exact sq_S (Hid.out (by assumption)) | exact sq_S (HQ.out.keep ((Below.refl _ _).drew)))
                        (first
                          | (go_at_call_of 9 (wa.heap.size); refine (at_in' wa.heap.size 0 len len ys n j _ ?_ hl hn hlt).mono ?_; exact (sq_of (by assumption)).row; rw [HY.out]; rintro e w' ⟨rfl, hb⟩; have hk : Hid (Sq w wa w' len n zs ys) := Sq.keep (sq_of (by assumption)) hb; clear hb)
                          | (go_at_call_of 9 (w.heap.size); refine (at_in' w.heap.size 0 len len zs n j _ ?_ hl hn hlt).mono ?_; exact (sq_of (by assumption)).st.first; rw [HX.out]; rintro e w' ⟨rfl, hb⟩; have hk : Hid (Sq w wa w' len n zs ys) := Sq.keep (sq_of (by assumption)) hb; clear hb))
                      go_wp2
                      go_roundw
                      case rel => exact ⟨j + 1, by omega, by go_num, Hid.out (by assumption)⟩
                      case measure => simp [intOf]; omega
                    · have e : n = j := by omega
                      subst e
                      go_wp2_with fail
                      refine (at_out' _ _ _ _ _ _ (.inr (Int.le_refl _))).mono ?_
                      rintro e we ⟨rfl, hwe⟩
                      have HE : Hid (Below w.heap.size w we) := (HQ.out.keep hwe).st.below
                      have hse : w.heap.size ≤ we.heap.size := HE.out.size
                      clear hwe HQ c0 c1 d0 d1
                      go_wp2_with fail
                      refine (any_none' _ _ _ _).mono ?_
                      rintro e wf ⟨rfl, hwf⟩
                      have HF : Hid (Below w.heap.size w wf) := (HE.out.alloc hse _).trans (hwf.mono (by simp; omega))
                      clear hwf
                      go_wp2
                      go_ret
                      exact ⟨rfl, HF.out⟩
end Go.Proofs.Qxb6621641a
