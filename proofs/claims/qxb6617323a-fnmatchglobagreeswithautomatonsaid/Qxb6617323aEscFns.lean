/-
  THE WALKS OF ZZmatchGlob, zzEscapeAll, zzHasPrefix, zzHasSuffix, zzContains.
-/
import Derived.Test.Qxb6617323aMatch
import Derived.Test.Qxb6617323aEsc
import Derived.Lib.Strings
namespace Go.Proofs.Qxb6617323a
open Go.RowKit Go.PlainAid
set_option linter.unusedVariables false

theorem Try.info5 : (Try.prog.info? 5).map (fun i => (i.zero, i.size, i.bytes)) = some (some (.int .u8 0), 1, 1) := by kernel_rfl

/-- ZZmatchGlob. -/
theorem zzmatch_any (glob name : ByteArray) (T : Nat → List Tok) (Good : Nat → Prop) (w : World) (hg : glob.size ≤ 1048576) (hn : name.size ≤ 1048576)
    (h0 : Good 0) (hle : ∀ g, Good g → g ≤ glob.size) (hend : T glob.size = []) (hstep : ∀ g, Good g → g < glob.size → Step glob T Good g) :
    Calls Try.prog 11 #[.string glob, .string name] w fun e w' => e = .returned (.bool (M (T 0) (bl name))) ∧ Below w.heap.size w w' := by
  have hm := match_any glob name T Good w hg hn h0 hle hend hstep
  have HM : Hid (Calls Try.prog 20 #[.string glob, .string name] w fun e w' => e = .returned (.bool (M (T 0) (bl name))) ∧ Below w.heap.size w w') := hm
  clear hm h0 hle hend hstep
  obtain ⟨A, hA⟩ : ∃ A, A = M (T 0) (bl name) := ⟨_, rfl⟩
  rw [← hA] at HM ⊢
  clear hA
  go_enter Try.func11, Try.ntmps11
  go_wp2_with fail
  refine HM.out.mono ?_
  rintro e w1 ⟨rfl, hw1⟩
  have H1 : Hid (Below w.heap.size w w1) := hw1
  clear hw1
  go_wp2
  go_ret
  exact ⟨rfl, H1.out⟩

theorem getD_append_left (a b : List Int) (i : Nat) (h : i < a.length) : (a ++ b).getD i 0 = a.getD i 0 := by
  rw [List.getD_eq_getElem?_getD, List.getD_eq_getElem?_getD, List.getElem?_append_left h]
theorem getD_append_right (a b : List Int) (i : Nat) (h : a.length ≤ i) : (a ++ b).getD i 0 = b.getD (i - a.length) 0 := by
  rw [List.getD_eq_getElem?_getD, List.getD_eq_getElem?_getD, List.getElem?_append_right h]

theorem step_esc {glob : ByteArray} {s : List Int} {a : Nat} {z : Bool} (ha : a ≤ 1) (hb : bl glob = List.replicate a 42 ++ (esc s ++ tailB z)) (g : Nat) (hg : GE s a z g) (hl : g < glob.size) : Step glob (TE s a z) (GE s a z) g := by
  have hsz : glob.size = a + (2 * s.length + (tailB z).length) := by
    rw [← bl_length, hb]; simp [esc_length]
  rcases hg with h | ⟨i, hi, rfl⟩ | h
  · obtain rfl : a = 1 := by omega
    obtain rfl : g = 0 := by omega
    refine .inl ⟨?_, ?_, .inr (.inl ⟨0, Nat.zero_le _, rfl⟩)⟩
    · rw [bt_bl, hb]; rfl
    · have h1 := TE_at s 1 z 0 (Nat.zero_le _)
      rw [TE_one]
      rw [show 1 + 2 * 0 = 0 + 1 from rfl] at h1
      rw [h1, List.drop_zero]
  · by_cases h : i < s.length
    · have e1 : bt glob (a + 2 * i) = 92 := by
        rw [bt_bl, hb, getD_append_right _ _ _ (by simp), List.length_replicate, show a + 2 * i - a = 2 * i from by omega, getD_append_left _ _ _ (by rw [esc_length]; omega)]
        exact (esc_at s i h).1
      have e2 : bt glob (a + 2 * i + 1) = s.getD i 0 := by
        rw [bt_bl, hb, getD_append_right _ _ _ (by simp; omega), List.length_replicate, show a + 2 * i + 1 - a = 2 * i + 1 from by omega, getD_append_left _ _ _ (by rw [esc_length]; omega)]
        exact (esc_at s i h).2
      refine .inr (.inr (.inl ⟨e1, by omega, ?_, .inr (.inl ⟨i + 1, by omega, by omega⟩)⟩))
      rw [TE_at s a z i hi, e2, show a + 2 * i + 2 = a + 2 * (i + 1) from by omega, TE_at s a z (i + 1) (by omega), drop_cons s i h]
      rfl
    · obtain rfl : i = s.length := by omega
      cases z with
      | false => simp [tailB] at hsz; omega
      | true =>
        refine .inl ⟨?_, ?_, .inr (.inr (by simp [tailB]))⟩
        · rw [bt_bl, hb, getD_append_right _ _ _ (by simp), List.length_replicate, show a + 2 * s.length - a = 2 * s.length from by omega, getD_append_right _ _ _ (by rw [esc_length]; omega), esc_length, Nat.sub_self]
          rfl
        · rw [TE_at s a true s.length (Nat.le_refl _)]
          have := TE_end s a true
          rw [show a + 2 * s.length + (tailB true).length = a + 2 * s.length + 1 from rfl] at this
          rw [this]; simp [tail]
  · omega

/-- matchGlob over an escaped text, with stars or none around it. -/
theorem esc_match (glob name : ByteArray) (s : List Int) (a : Nat) (z : Bool) (w : World) (ha : a ≤ 1) (hb : bl glob = List.replicate a 42 ++ (esc s ++ tailB z)) (hg : glob.size ≤ 1048576) (hn : name.size ≤ 1048576) {A : Bool} (hA : M (TE s a z 0) (bl name) = A) :
    Calls Try.prog 11 #[.string glob, .string name] w fun e w' => e = .returned (.bool A) ∧ Below w.heap.size w w' := by
  have hsz : glob.size = a + 2 * s.length + (tailB z).length := by
    rw [← bl_length, hb]; simp [esc_length]; omega
  rw [← hA]
  refine zzmatch_any glob name (TE s a z) (GE s a z) w hg hn ?_ ?_ (by rw [hsz]; exact TE_end s a z) (fun g h1 h2 => step_esc ha hb g h1 h2)
  · by_cases h : 0 < a
    · exact .inl h
    · exact .inr (.inl ⟨0, Nat.zero_le _, by omega⟩)
  · intro g h
    rcases h with h | ⟨i, hi, rfl⟩ | h <;> omega

/-! ### equality of strings -/
theorem bl_inj {a b : ByteArray} (h : bl a = bl b) : a = b := by
  apply ByteArray.ext
  apply Array.toList_inj.1
  have h' : a.data.toList.map (fun c => (c.toNat : Int)) = b.data.toList.map (fun c => (c.toNat : Int)) := h
  exact List.map_inj_right (fun x y hxy => UInt8.toNat_inj.1 (by omega)) |>.1 h'
theorem beq_bl (a b : ByteArray) : (a.toList == b.toList) = decide (bl a = bl b) := by
  rw [Lib.toList_data, Lib.toList_data, Bool.eq_iff_iff, beq_iff_eq, decide_eq_true_eq]
  constructor
  · intro h; unfold bl; rw [h]
  · intro h; rw [bl_inj h]
theorem bl_extract (s : ByteArray) (a b : Nat) : bl (s.extract a b) = ((bl s).drop a).take (b - a) := by
  unfold bl
  rw [Lib.extract_data, List.map_take, List.map_drop]

/-- zzHasPrefix. -/
theorem prefix_any (t s : ByteArray) (w : World) (ht : t.size ≤ 1048576) (hs : s.size ≤ 1048576) :
    Calls Try.prog 15 #[.string t, .string s] w fun e w' => e = .returned (.bool (hpF (bl s) (bl t))) ∧ w = w' := by
  by_cases h : s.size ≤ t.size
  · have hz : (s.size : Int) ≤ (t.size : Int) := by omega
    have HE : Hid (hpF (bl s) (bl t) = ((t.extract 0 s.size).toList == s.toList)) := by
      show _ = _
      rw [beq_bl, bl_extract, List.drop_zero, Nat.sub_zero]
      unfold hpF
      rw [bl_length, bl_length]
      simp [h]
    go_enter Try.func15, Try.ntmps15
    go_wp2
    go_ret
    exact ⟨by rw [HE.out]; rfl, rfl⟩
  · have hz : decide ((s.size : Int) ≤ (t.size : Int)) = false := decide_eq_false (by omega)
    have HE : Hid (hpF (bl s) (bl t) = false) := by
      show _ = _
      unfold hpF
      rw [bl_length, bl_length]
      simp [h]
    go_enter Try.func15, Try.ntmps15
    go_wp2
    go_ret
    exact ⟨by rw [HE.out]; rfl, rfl⟩
/-- zzHasSuffix. -/
theorem suffix_any (t s : ByteArray) (w : World) (ht : t.size ≤ 1048576) (hs : s.size ≤ 1048576) :
    Calls Try.prog 16 #[.string t, .string s] w fun e w' => e = .returned (.bool (hsF (bl s) (bl t))) ∧ w = w' := by
  by_cases h : s.size ≤ t.size
  · have hz : (s.size : Int) ≤ (t.size : Int) := by omega
    have HE : Hid (hsF (bl s) (bl t) = ((t.extract (t.size - s.size) t.size).toList == s.toList)) := by
      show _ = _
      rw [beq_bl, bl_extract, List.take_of_length_le (by simp [bl_length])]
      unfold hsF
      rw [bl_length, bl_length]
      simp [h]
    go_enter Try.func16, Try.ntmps16
    go_wp2
    go_ret
    exact ⟨by rw [HE.out]; rfl, rfl⟩
  · have hz : decide ((s.size : Int) ≤ (t.size : Int)) = false := decide_eq_false (by omega)
    have HE : Hid (hsF (bl s) (bl t) = false) := by
      show _ = _
      unfold hsF
      rw [bl_length, bl_length]
      simp [h]
    go_enter Try.func16, Try.ntmps16
    go_wp2
    go_ret
    exact ⟨by rw [HE.out]; rfl, rfl⟩
/-- zzContains. -/
theorem contains_any (t s : ByteArray) (w : World) (ht : t.size ≤ 1048576) (hs : s.size ≤ 1048576) :
    Calls Try.prog 17 #[.string t, .string s] w fun e w' => e = .returned (.bool (starF (hpF (bl s)) (bl t))) ∧ w = w' := by
  obtain ⟨R, hR⟩ : ∃ R, R = starF (hpF (bl s)) (bl t) := ⟨_, rfl⟩
  rw [← hR]
  have HR : Hid (R = starF (hpF (bl s)) (bl t)) := hR
  clear hR
  go_enter Try.func17, Try.ntmps17
  go_wp2
  go_loop [5] (fun v => ∃ i : Nat, v = .int .i64 i ∧ i ≤ t.size + 1 ∧ (s.size = 0 → i = 0) ∧ R = starF (hpF (bl s)) ((bl t).drop i)) (fun v => t.size + 2 - (intOf v).toNat)
  case atStart => exact ⟨0, rfl, Nat.zero_le _, fun _ => rfl, HR.out⟩
  case round =>
    obtain ⟨i, rfl, hi, h00, hrel⟩ := hrel
    have H00 : Hid (s.size = 0 → i = 0) := h00
    clear h00
    have HI : Hid (R = starF (hpF (bl s)) ((bl t).drop i)) := hrel
    clear hrel HR
    by_cases h : i + s.size ≤ t.size
    · have hz : (i : Int) + (s.size : Int) ≤ (t.size : Int) := by omega
      have HH : Hid (hpF (bl s) ((bl t).drop i) = ((t.extract i (i + s.size)).toList == s.toList)) := by
        show _ = _
        rw [beq_bl, bl_extract, show i + s.size - i = s.size from by omega]
        unfold hpF
        rw [List.length_drop, bl_length, bl_length]
        have : s.size ≤ t.size - i := by omega
        simp [this]
      by_cases hm : ((t.extract i (i + s.size)).toList == s.toList) = true
      · have HA : Hid (R = true) := by show R = true; rw [HI.out]; exact starF_here (by rw [HH.out]; exact hm)
        go_wp2
        go_ret
        exact ⟨by rw [HA.out]; rfl, rfl⟩
      · have hm' : ((t.extract i (i + s.size)).toList == s.toList) = false := by simpa using hm
        have HA : Hid (R = starF (hpF (bl s)) ((bl t).drop (i + 1))) := by
          show R = _
          rw [HI.out]
          by_cases hl : i < t.size
          · rw [starF_drop _ _ i (by rw [bl_length]; exact hl), HH.out, hm', Bool.false_or]
          · have hd1 : (bl t).drop i = [] := List.drop_of_length_le (by rw [bl_length]; omega)
            have hd2 : (bl t).drop (i + 1) = [] := List.drop_of_length_le (by rw [bl_length]; omega)
            rw [hd1, hd2]
        have HS0 : Hid (s.size = 0 → i + 1 = 0) := fun h0 => by
          have h1 := HH.out
          rw [hm'] at h1
          have e : bl s = [] := List.eq_nil_of_length_eq_zero (by rw [bl_length]; exact h0)
          rw [e] at h1
          simp [hpF] at h1
        clear hm
        go_wp2
        go_round
        case rel => exact ⟨i + 1, by go_num, by omega, HS0.out, HA.out⟩
        case measure => simp [intOf]; omega
    · have hz : (t.size : Int) < (i : Int) + (s.size : Int) := by omega
      have HA : Hid (R = false) := by
        show R = false
        rw [HI.out]
        by_cases e : starF (hpF (bl s)) ((bl t).drop i) = true
        · obtain ⟨j, h1, h2, h3⟩ := starF_some e
          have h4 : (bl s).length ≤ ((bl t).drop j).length ∧ _ := of_decide_eq_true h3
          have h5 := h4.1
          rw [List.length_drop, bl_length, bl_length] at h5
          by_cases h0 : s.size = 0
          · have := H00.out h0; omega
          · omega
        · simpa using e
      go_wp2
      go_ret
      exact ⟨by rw [HA.out]; rfl, rfl⟩

theorem bl_strOfNums (xs : List Int) (h : ∀ x ∈ xs, 0 ≤ x ∧ x ≤ 255) : bl (strOfNums xs) = xs := by
  unfold bl
  rw [strOfNums_data, List.map_map]
  have e : ∀ x ∈ xs, ((fun c : UInt8 => (c.toNat : Int)) ∘ fun n : Int => UInt8.ofNat n.toNat) x = x := fun x hx => by
    have := h x hx
    simp only [Function.comp]
    rw [UInt8.toNat_ofNat']
    omega
  conv => rhs; rw [← List.map_id xs]
  exact List.map_congr_left e
theorem bl_byte (s : ByteArray) : ∀ x ∈ bl s, 0 ≤ x ∧ x ≤ 255 := fun x hx => by
  obtain ⟨c, _, rfl⟩ := List.mem_map.1 hx
  have := c.toNat_lt
  omega
theorem esc_byte (l : List Int) (h : ∀ x ∈ l, 0 ≤ x ∧ x ≤ 255) : ∀ x ∈ esc l, 0 ≤ x ∧ x ≤ 255 := by
  induction l with
  | nil => intro x hx; simp [esc] at hx
  | cons c l ih =>
    intro x hx
    simp only [esc, List.mem_cons] at hx
    rcases hx with rfl | rfl | hx
    · omega
    · exact h _ (by simp)
    · exact ih (fun y hy => h y (by simp [hy])) x hx
theorem take_snoc (zs : List Int) (k : Nat) (h : k < zs.length) : zs.take (k + 1) = zs.take k ++ [zs.getD k 0] := by
  rw [List.take_succ_eq_append_getElem h, List.getD_eq_getElem?_getD, List.getElem?_eq_getElem h]; rfl

set_option maxHeartbeats 400000 in
/-- zzEscapeAll. -/
theorem escape_any (s : ByteArray) (w : World) (hs : s.size ≤ 1048576) :
    Calls Try.prog 14 #[.string s] w fun e w' => ∃ E : ByteArray, e = .returned (.string E) ∧ bl E = esc (bl s) ∧ Below w.heap.size w w' := by
  obtain ⟨i0, hi, hz0, hz1, hz2⟩ := info_parts Try.info5
  have hb := get_bt s
  have HL : Hid ((bl s).length = s.size) := bl_length s
  have e2 : (2 : Int) * (s.size : Int) = ((2 * s.size : Nat) : Int) := by omega
  have E2 : Hid ((2 : Int) * (s.size : Int) = ((2 * s.size : Nat) : Int)) := e2
  clear e2
  go_enter Try.func14, Try.ntmps14
  go_wp2_with (at_make; refine wpList_make_own _ rfl _ _ 39 rfl w.heap.size 5 i0 (.int .u8 0) 1 Try.underlying39 hi hz0 hz1 .i64 .i64 _ (2 * s.size) rfl rfl E2.out (by rw [hz2]; omega) (by unfold maxLen; omega) (Nat.le_refl _) ?_; intro w0 hown0 hgrow0)
  have HO : Hid (w0.ownsRow w.heap.size 5 1 (.slice (some ⟨w.heap.size, 0, none⟩) 0 (2 * s.size)) 0 []) := hown0
  have HG : Hid (Below w.heap.size w w0) := (Below.refl _ _).grown hgrow0 (Nat.le_refl _) (fun k h => by cases h)
  clear hown0 hgrow0
  go_loopw [3, 4] (fun v i wr => ∃ p : Nat, p ≤ s.size ∧ i = .int .i64 p ∧ v = .slice (some ⟨w.heap.size, 0, none⟩) (2 * p) (2 * s.size) ∧
      wr.ownsRow w.heap.size 5 1 (.slice (some ⟨w.heap.size, 0, none⟩) (2 * p) (2 * s.size)) (2 * p) ((esc ((bl s).take p)).map (Value.int .u8)) ∧ Below w.heap.size w wr) (fun _ i _ => s.size - (intOf i).toNat)
  case atStart => exact ⟨0, Nat.zero_le _, rfl, rfl, HO.out, HG.out⟩
  case round =>
    clear HO HG
    obtain ⟨p, hp2, rfl, rfl, hown, hbel⟩ := hrel
    have HO : Hid (wr.ownsRow w.heap.size 5 1 (.slice (some ⟨w.heap.size, 0, none⟩) (2 * p) (2 * s.size)) (2 * p) ((esc ((bl s).take p)).map (Value.int .u8))) := hown
    have HG : Hid (Below w.heap.size w wr) := hbel
    have hsz : w.heap.size ≤ wr.heap.size := hbel.size
    clear hown hbel
    by_cases hlt : p < s.size
    · have hltz : (p : Int) < (s.size : Int) := by omega
      have HY : Hid (bt s p = (bl s).getD p 0) := bt_bl s p
      have HE : Hid (esc ((bl s).take (p + 1)) = esc ((bl s).take p) ++ [92, bt s p]) := by
        show _ = _
        rw [take_snoc _ _ (by rw [HL.out]; exact hlt), esc_append, HY.out]; rfl
      go_wp2_with (at_builtin; refine wpList_append_fits _ rfl (.tmp 15) (.tmp 19) 39 rfl w.heap.size 5 i0 1 Try.underlying39 hi hz1 w.heap.size (2 * p) (2 * s.size) ((esc ((bl s).take p)).map (Value.int .u8)) rfl (HO.out.alloc _) ⟨wr.heap.size, 0, none⟩ 2 2 [.int .u8 92, .int .u8 (bt s p)] rfl rfl (cell_two_new _ _ _ _) (by intro u hu; simp at hu; rcases hu with rfl | rfl <;> rfl) (by omega) ?_; intro w1 hown1 hgrow1)
      go_roundw
      case rel =>
        refine ⟨p + 1, by omega, by go_num, by rw [show 2 * (p + 1) = 2 * p + 2 from by omega], ?_, ?_⟩
        · rw [HE.out, show 2 * (p + 1) = 2 * p + 2 from by omega]; simpa using hown1
        · exact ((HG.out.alloc hsz _).grown hgrow1 (by simp; omega) (fun k h => by cases h; exact Nat.le_refl _))
      case measure => simp [intOf]; omega
    · have hge : (s.size : Int) ≤ (p : Int) := by omega
      have e : s.size = p := by omega
      have HE : Hid ((bl s).take p = bl s) := List.take_of_length_le (by rw [HL.out]; omega)
      have hcv := fun dst => run_convert_bytes_arg (P := Try.prog) wr 39 5 Try.underlying39 Try.underlying5 w.heap.size 0 (2 * p) (2 * s.size) (esc ((bl s).take p)) (by rw [esc_length, HE.out, HL.out, e]) (fun i hi' => by
        rw [Nat.zero_add, HO.out.cellAt i (by omega)]
        have : i < (esc ((bl s).take p)).length := by rw [esc_length, HE.out, HL.out, e]; exact hi'
        simp [this]) dst
      have hcv9 := hcv 9 Try.underlying9
      have HX : Hid (bl (strOfNums (esc ((bl s).take p))) = esc (bl s)) := by show _ = _; rw [HE.out]; exact bl_strOfNums _ (esc_byte _ (bl_byte s))
      clear hcv HO e
      go_wp2_with fail
      go_ret
      exact ⟨_, rfl, HX.out, HG.out⟩
end Go.Proofs.Qxb6617323a
