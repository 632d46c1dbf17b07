/-
  THE WALKS OF isDigitOfBase, allOfBase and modelIsInteger.
-/
import Derived.Test.Qxb6621701aIntFns
namespace Go.Proofs.Qxb6621701a
open Go.RowKit Go.PlainAid
set_option linter.unusedVariables false

theorem Try.info5 : (Try.prog.info? 5).map (fun i => (i.zero, i.size, i.bytes)) = some (some (.int .u8 0), 1, 1) := by kernel_rfl

theorem dgt2 (c : Int) : dgt 2 c = (c == 48 || c == 49) := by
  unfold dgt dv
  rw [Bool.eq_iff_iff]
  by_cases h1 : 48 ≤ c ∧ c ≤ 57
  · rw [if_pos h1]; simp; omega
  · rw [if_neg h1]
    by_cases h2 : 97 ≤ c ∧ c ≤ 102
    · rw [if_pos h2]; simp; omega
    · rw [if_neg h2]
      by_cases h3 : 65 ≤ c ∧ c ≤ 70
      · rw [if_pos h3]; simp; omega
      · rw [if_neg h3]; simp; omega
theorem dgt_iff {base c : Int} (h : base = 8 ∨ base = 10 ∨ base = 16) : dv c < base ↔ (48 ≤ c ∧ c ≤ 57 ∧ c < 48 + base) ∨ (base = 16 ∧ (97 ≤ c ∧ c ≤ 102 ∨ 65 ≤ c ∧ c ≤ 70)) := by
  unfold dv
  by_cases h1 : 48 ≤ c ∧ c ≤ 57
  · rw [if_pos h1]; omega
  · rw [if_neg h1]
    by_cases h2 : 97 ≤ c ∧ c ≤ 102
    · rw [if_pos h2]; omega
    · rw [if_neg h2]
      by_cases h3 : 65 ≤ c ∧ c ≤ 70
      · rw [if_pos h3]; omega
      · rw [if_neg h3]; omega

theorem base2 (c : Int) (w : World) : Calls Try.prog 15 #[.int .u8 c, .int .i64 2] w fun e w' => e = .returned (.bool (dgt 2 c)) ∧ w = w' := by
  by_cases h1 : (c == 48) = true
  · have HD : Hid (dgt 2 c = true) := by show _ = _; rw [dgt2, h1]; rfl
    go_enter Try.func15, Try.ntmps15
    go_wp2
    go_ret
    exact ⟨by rw [HD.out]; rfl, rfl⟩
  · have h1' : (c == 48) = false := by simpa using h1
    have HD : Hid (dgt 2 c = (c == 49)) := by show _ = _; rw [dgt2, h1']; rfl
    clear h1
    go_enter Try.func15, Try.ntmps15
    go_wp2
    go_ret
    exact ⟨by rw [HD.out]; rfl, rfl⟩
theorem base8 (c : Int) (w : World) : Calls Try.prog 15 #[.int .u8 c, .int .i64 8] w fun e w' => e = .returned (.bool (dgt 8 c)) ∧ w = w' := by
  by_cases h1 : 48 ≤ c
  · have HD : Hid (dgt 8 c = decide (c ≤ 55)) := by
      show _ = _; unfold dgt; exact decide_eq_decide.2 ((dgt_iff (.inl rfl)).trans (by omega))
    go_enter Try.func15, Try.ntmps15
    go_wp2
    go_ret
    exact ⟨by rw [HD.out]; rfl, rfl⟩
  · have HD : Hid (dgt 8 c = false) := by
      show _ = _; unfold dgt; exact decide_eq_false (fun h => by have := (dgt_iff (.inl rfl)).1 h; omega)
    have h1' : decide (48 ≤ c) = false := decide_eq_false h1
    go_enter Try.func15, Try.ntmps15
    go_wp2
    go_ret
    exact ⟨by rw [HD.out]; rfl, rfl⟩
theorem base10 (c : Int) (w : World) : Calls Try.prog 15 #[.int .u8 c, .int .i64 10] w fun e w' => e = .returned (.bool (dgt 10 c)) ∧ w = w' := by
  by_cases h1 : 48 ≤ c
  · have HD : Hid (dgt 10 c = decide (c ≤ 57)) := by
      show _ = _; unfold dgt; exact decide_eq_decide.2 ((dgt_iff (.inr (.inl rfl))).trans (by omega))
    go_enter Try.func15, Try.ntmps15
    go_wp2
    go_ret
    exact ⟨by rw [HD.out]; rfl, rfl⟩
  · have HD : Hid (dgt 10 c = false) := by
      show _ = _; unfold dgt; exact decide_eq_false (fun h => by have := (dgt_iff (.inr (.inl rfl))).1 h; omega)
    have h1' : decide (48 ≤ c) = false := decide_eq_false h1
    go_enter Try.func15, Try.ntmps15
    go_wp2
    go_ret
    exact ⟨by rw [HD.out]; rfl, rfl⟩
theorem base16 (c : Int) (w : World) : Calls Try.prog 15 #[.int .u8 c, .int .i64 16] w fun e w' => e = .returned (.bool (dgt 16 c)) ∧ w = w' := by
  have hi := dgt_iff (base := 16) (c := c) (.inr (.inr rfl))
  have HT : Hid ((48 ≤ c ∧ c ≤ 57) ∨ (97 ≤ c ∧ c ≤ 102) ∨ (65 ≤ c ∧ c ≤ 70) → dgt 16 c = true) := fun h => decide_eq_true (hi.2 (by omega))
  have HF : Hid (¬ ((48 ≤ c ∧ c ≤ 57) ∨ (97 ≤ c ∧ c ≤ 102) ∨ (65 ≤ c ∧ c ≤ 70)) → dgt 16 c = false) := fun h => decide_eq_false (fun h' => h (by have := hi.1 h'; omega))
  clear hi
  by_cases h : (48 ≤ c ∧ c ≤ 57) ∨ (97 ≤ c ∧ c ≤ 102) ∨ (65 ≤ c ∧ c ≤ 70)
  · have HD : Hid (dgt 16 c = true) := HT.out h
    clear HT HF
    rcases h with ⟨h1, h2⟩ | ⟨h1, h2⟩ | ⟨h1, h2⟩
    all_goals
      go_enter Try.func15, Try.ntmps15
      go_wp2
    all_goals go_ret
    all_goals exact ⟨by rw [HD.out]; first | rfl | (simp; omega), rfl⟩
  · have HD : Hid (dgt 16 c = false) := HF.out h
    have h1 : ¬ (48 ≤ c ∧ c ≤ 57) := fun h' => h (.inl h')
    have h2 : ¬ (97 ≤ c ∧ c ≤ 102) := fun h' => h (.inr (.inl h'))
    have h3 : ¬ (65 ≤ c ∧ c ≤ 70) := fun h' => h (.inr (.inr h'))
    clear HT HF h
    go_enter Try.func15, Try.ntmps15
    go_wp2
    all_goals (go_ret; exact ⟨rt_bool (by have h := HD.out; first | exact h.symm | (rw [h]; simp; omega)), rfl⟩)

/-- isDigitOfBase. -/
theorem base_any (c base : Int) (w : World) (h : base = 2 ∨ base = 8 ∨ base = 10 ∨ base = 16) : Calls Try.prog 15 #[.int .u8 c, .int .i64 base] w fun e w' => e = .returned (.bool (dgt base c)) ∧ w = w' := by
  rcases h with rfl | rfl | rfl | rfl
  · exact base2 c w
  · exact base8 c w
  · exact base10 c w
  · exact base16 c w

theorem all_step {ds : List Int} {p : Nat} {base : Int} (h : p < ds.length) : (ds.drop p).all (dgt base) = (dgt base (ds.getD p 0) && (ds.drop (p + 1)).all (dgt base)) := by
  rw [drop_cons ds p h, List.all_cons]

/-- allOfBase. -/
theorem allOf_any (b len cap from_ : Nat) (base : Int) (ds : List Int) (w : World) (hl : len ≤ 1048576) (hf : from_ ≤ len) (hd : ds.length = len) (hbase : base = 2 ∨ base = 8 ∨ base = 10 ∨ base = 16)
    (hc : ∀ i, i < len → w.cell? ⟨b, i, none⟩ = some (.int .u8 (ds.getD i 0))) :
    Calls Try.prog 14 #[.slice (some ⟨b, 0, none⟩) len cap, .int .i64 from_, .int .i64 base] w fun e w' => e = .returned (.bool ((ds.drop from_).all (dgt base))) ∧ w = w' := by
  obtain ⟨R, hR⟩ : ∃ R, R = (ds.drop from_).all (dgt base) := ⟨_, rfl⟩
  rw [← hR]
  have HR : Hid (R = (ds.drop from_).all (dgt base)) := hR
  have HB : Hid (base = 2 ∨ base = 8 ∨ base = 10 ∨ base = 16) := hbase
  clear hR hbase
  go_enter Try.func14, Try.ntmps14
  go_wp2
  go_loop [7] (fun v => ∃ p : Nat, v = .int .i64 p ∧ p ≤ len ∧ (ds.drop p).all (dgt base) = R) (fun v => len - (intOf v).toNat)
  case atStart => exact ⟨from_, rfl, hf, HR.out.symm⟩
  case round =>
    obtain ⟨p, rfl, hp, hrel⟩ := hrel
    have HRL : Hid ((ds.drop p).all (dgt base) = R) := hrel
    clear hrel HR
    by_cases hlt : p < len
    · have hltz : (p : Int) < (len : Int) := by omega
      have hck := hc p hlt
      have HS : Hid ((ds.drop p).all (dgt base) = (dgt base (ds.getD p 0) && (ds.drop (p + 1)).all (dgt base))) := all_step (by omega)
      obtain ⟨y, hy⟩ : ∃ y, y = ds.getD p 0 := ⟨_, rfl⟩
      rw [← hy] at hck HS
      clear hy hc
      by_cases hg : dgt base y = true
      · go_wp2_with (go_at_call 15; refine (base_any _ _ _ HB.out).mono ?_; rintro e w' ⟨rfl, rfl⟩)
        go_round
        case rel => exact ⟨p + 1, by go_num, by omega, by have h1 := HRL.out; rw [HS.out, hg] at h1; simpa using h1⟩
        case measure => simp [intOf]; omega
      · have hg' : dgt base y = false := by simpa using hg
        have HN : Hid (R = false) := by show R = false; rw [← HRL.out, HS.out, hg']; rfl
        clear hg
        go_wp2_with (go_at_call 15; refine (base_any _ _ _ HB.out).mono ?_; rintro e w' ⟨rfl, rfl⟩)
        go_ret
        exact ⟨by rw [HN.out]; rfl, rfl⟩
    · have hge : (len : Int) ≤ (p : Int) := by omega
      have HN : Hid (R = true) := by show R = true; rw [← HRL.out, List.drop_of_length_le (by omega)]; rfl
      go_wp2
      go_ret
      exact ⟨by rw [HN.out]; rfl, rfl⟩

theorem model_empty (w : World) : Calls Try.prog 8 #[.string ByteArray.empty] w fun e w' => e = .returned (.bool false) ∧ w = w' := by
  go_enter Try.func8, Try.ntmps8
  go_wp2
  go_ret
  exact ⟨rfl, rfl⟩
theorem model_else (s : ByteArray) (w : World) (hs : s.size ≤ 1048576) (h0 : 0 < s.size) (h1 : (bt s 0 == 43) = false) (h2 : (bt s 0 == 45) = false) (h3 : bt s 0 < 48 ∨ 57 < bt s 0) :
    Calls Try.prog 8 #[.string s] w fun e w' => e = .returned (.bool false) ∧ w = w' := by
  have hb := get_bt s
  rcases h3 with h3 | h3
  · go_enter Try.func8, Try.ntmps8
    go_wp2
    go_ret
    exact ⟨rfl, rfl⟩
  · have h4 : ¬ bt s 0 < 48 := by omega
    go_enter Try.func8, Try.ntmps8
    go_wp2
    go_ret
    exact ⟨rfl, rfl⟩

/-- What the first loop has gathered. -/
def got (zs : List Int) (st p : Nat) : List Int := strip ((zs.take p).drop st)
theorem got_start (zs : List Int) (st : Nat) : got zs st st = [] := by
  unfold got; rw [List.drop_of_length_le (by simp; omega)]; rfl
theorem got_end (zs : List Int) (st : Nat) : got zs st zs.length = strip (zs.drop st) := by
  unfold got; rw [List.take_length]
theorem got_snoc (zs : List Int) (st p : Nat) (h1 : st ≤ p) (h2 : p < zs.length) : got zs st (p + 1) = got zs st p ++ strip [zs.getD p 0] := by
  unfold got
  rw [← strip_append]
  congr 1
  have e : zs.take (p + 1) = zs.take p ++ [zs.getD p 0] := by
    rw [List.take_succ_eq_append_getElem h2, List.getD_eq_getElem?_getD, List.getElem?_eq_getElem h2]; rfl
  rw [e, List.drop_append_of_le_length (by simp; omega)]
theorem got_len (zs : List Int) (st p : Nat) : (got zs st p).length ≤ p := by
  unfold got strip
  have h1 := List.length_filter_le (· != 95) ((zs.take p).drop st)
  have h2 : ((zs.take p).drop st).length ≤ p := by simp; omega
  omega

theorem core_none {d : List Int} (h : d.length = 0) : core d = false := by
  cases d with
  | nil => rfl
  | cons x r => simp at h
theorem core_dec {d : List Int} (h : 0 < d.length) (hx : d.getD 0 0 ≠ 48) : core d = (d.drop 0).all (dgt 10) := by
  cases d with
  | nil => simp at h
  | cons x r =>
    have hx' : x ≠ 48 := hx
    rw [List.drop_zero]; simp only [core]; rw [if_neg hx']
theorem core_one {d : List Int} (h : d.length = 1) (hx : d.getD 0 0 = 48) : core d = (d.drop 1).all (dgt 8) := by
  match d, h with
  | [x], _ =>
    have hx' : x = 48 := hx
    subst hx'; rfl
theorem core_two {d : List Int} (h : 2 ≤ d.length) (hx : d.getD 0 0 = 48) :
    core d = if d.getD 1 0 = 120 ∨ d.getD 1 0 = 88 then decide (2 < d.length) && (d.drop 2).all (dgt 16) else if d.getD 1 0 = 111 ∨ d.getD 1 0 = 79 then decide (2 < d.length) && (d.drop 2).all (dgt 8)
      else if d.getD 1 0 = 98 ∨ d.getD 1 0 = 66 then decide (2 < d.length) && (d.drop 2).all (dgt 2) else (d.drop 1).all (dgt 8) := by
  match d, h with
  | x :: y :: t, _ =>
    have hx' : x = 48 := hx
    subst hx'
    have e : (!t.isEmpty) = decide (2 < (48 :: y :: t).length) := by cases t <;> simp
    simp only [core, e, List.getD_cons_zero, List.getD_cons_succ, List.drop_succ_cons, List.drop_zero]
    rfl

set_option maxHeartbeats 1000000 in
theorem model_main (s : ByteArray) (st : Nat) (w : World) (hs : s.size ≤ 1048576) (h0 : 0 < s.size) (hst : (bt s 0 = 43 ∨ bt s 0 = 45) ∧ st = 1 ∨ (48 ≤ bt s 0 ∧ bt s 0 ≤ 57) ∧ st = 0) (R : Bool) (hR : core (strip ((bl s).drop st)) = R) :
    Calls Try.prog 8 #[.string s] w fun e w' => e = .returned (.bool R) ∧ Below w.heap.size w w' := by
  obtain ⟨i0, hi, hz0, hz1, hz2⟩ := info_parts Try.info5
  have hb := get_bt s
  have HL : Hid ((bl s).length = s.size) := bl_length s
  have HR : Hid (core (strip ((bl s).drop st)) = R) := hR
  have hst1 : st ≤ 1 := by omega
  have HST : Hid ((bt s 0 = 43 ∨ bt s 0 = 45) ∧ st = 1 ∨ (48 ≤ bt s 0 ∧ bt s 0 ≤ 57) ∧ st = 0) := hst
  clear hR hst
  have hs0 : ((s.size : Int) == 0) = false := beq_eq_false_iff_ne.2 (by omega)
  obtain ⟨sg, hsg⟩ : ∃ sg, sg = decide (bt s 0 = 43 ∨ bt s 0 = 45) := ⟨_, rfl⟩
  have HSG : Hid (sg = decide (bt s 0 = 43 ∨ bt s 0 = 45)) := hsg
  clear hsg
  go_enter Try.func8, Try.ntmps8
  go_upto_region 6 with fail
  go_cut [19] from 14 to 18 (fun v wx => v = .bool sg ∧ w = wx)
  case first =>
    by_cases h1 : bt s 0 = 43
    · have h1' : (bt s 0 == 43) = true := by simpa using h1
      have e : sg = true := by rw [HSG.out]; simp [h1]
      subst e
      clear h1
      go_wp2_with fail
      go_meet
      exact ⟨rfl, rfl⟩
    · have h1' : (bt s 0 == 43) = false := by simpa using h1
      have e : sg = (bt s 0 == 45) := by rw [HSG.out]; simp [h1]; rfl
      have HE : Hid (sg = (bt s 0 == 45)) := e
      clear h1 e
      go_wp2_with fail
      go_meet
      exact ⟨by rw [HE.out], rfl⟩
  case rest =>
    obtain ⟨rfl, rfl⟩ := hcut
    go_upto_if 19 with fail
    go_cut [4] from 20 to 25 (fun v wx => v = .int .i64 st ∧ w = wx)
    case first =>
      rcases HST.out with ⟨hc, rfl⟩ | ⟨⟨hc1, hc2⟩, rfl⟩
      · have e : sg = true := by rw [HSG.out]; simpa using hc
        subst e
        clear hc
        go_wp2_with fail
        go_meet
        exact ⟨rfl, rfl⟩
      · have e : sg = false := by rw [HSG.out]; simp; omega
        subst e
        have hc3 : ¬ bt s 0 < 48 := by omega
        have hc4 : ¬ 57 < bt s 0 := by omega
        go_wp2_with fail
        go_meet
        exact ⟨rfl, rfl⟩
    case rest =>
      obtain ⟨rfl, rfl⟩ := hcut
      clear HST HSG
      go_wp2_with (at_make; refine wpList_make_own _ rfl _ _ 27 rfl w.heap.size 5 i0 (.int .u8 0) 1 Try.underlying27 hi hz0 hz1 .i64 .i64 _ s.size rfl rfl rfl (by rw [hz2]; omega) (by unfold maxLen; omega) (Nat.le_refl _) ?_; intro w0 hown0 hgrow0)
      have HO : Hid (w0.ownsRow w.heap.size 5 1 (.slice (some ⟨w.heap.size, 0, none⟩) 0 s.size) 0 []) := hown0
      have HG : Hid (Below w.heap.size w w0) := (Below.refl _ _).grown hgrow0 (Nat.le_refl _) (fun k h => by cases h)
      clear hown0 hgrow0
      go_loopw [6, 7] (fun v i wr => ∃ p : Nat, st ≤ p ∧ p ≤ s.size ∧ i = .int .i64 p ∧ v = .slice (some ⟨w.heap.size, 0, none⟩) (got (bl s) st p).length s.size ∧
          wr.ownsRow w.heap.size 5 1 (.slice (some ⟨w.heap.size, 0, none⟩) (got (bl s) st p).length s.size) (got (bl s) st p).length ((got (bl s) st p).map (Value.int .u8)) ∧ Below w.heap.size w wr) (fun _ i _ => s.size - (intOf i).toNat)
      case atStart => exact ⟨st, Nat.le_refl _, by omega, rfl, by rw [got_start]; rfl, by rw [got_start]; exact HO.out, HG.out⟩
      case round =>
        obtain ⟨p, hp1, hp2, rfl, rfl, hown, hbel⟩ := hrel
        have HO : Hid (wr.ownsRow w.heap.size 5 1 (.slice (some ⟨w.heap.size, 0, none⟩) (got (bl s) st p).length s.size) (got (bl s) st p).length ((got (bl s) st p).map (Value.int .u8))) := hown
        have HG : Hid (Below w.heap.size w wr) := hbel
        have hsz : w.heap.size ≤ wr.heap.size := hbel.size
        have hgl := got_len (bl s) st p
        clear hown hbel
        by_cases hlt : p < s.size
        · have hltz : (p : Int) < (s.size : Int) := by omega
          have HY : Hid (bt s p = (bl s).getD p 0) := bt_bl s p
          have HN : Hid (got (bl s) st (p + 1) = got (bl s) st p ++ strip [(bl s).getD p 0]) := got_snoc (bl s) st p hp1 (by rw [HL.out]; exact hlt)
          by_cases hu : bt s p = 95
          · have hub : (bt s p != 95) = false := by simpa using hu
            have HE : Hid (got (bl s) st (p + 1) = got (bl s) st p) := by show _ = _; rw [HN.out, ← HY.out, hu, strip_und, strip_nil, List.append_nil]
            clear hu
            go_wp2_with fail
            go_roundw
            case rel => exact ⟨p + 1, by omega, by omega, by go_num, by rw [HE.out], by rw [HE.out]; exact HO.out, HG.out⟩
            case measure => simp [intOf]; omega
          · have hub : (bt s p != 95) = true := by simpa using hu
            have HE : Hid (got (bl s) st (p + 1) = got (bl s) st p ++ [bt s p]) := by show _ = _; rw [HN.out, ← HY.out, strip_cons _ hu, strip_nil]
            clear hu
            go_wp2_with (at_builtin; refine wpList_append_fits _ rfl (.tmp 38) (.tmp 42) 27 rfl w.heap.size 5 i0 1 Try.underlying27 hi hz1 w.heap.size (got (bl s) st p).length s.size ((got (bl s) st p).map (Value.int .u8)) rfl (HO.out.alloc _) ⟨wr.heap.size, 0, none⟩ 1 1 [.int .u8 (bt s p)] rfl rfl (cell_one_new _ _ _) (by intro u hu; simp at hu; subst hu; rfl) (by omega) ?_; intro w1 hown1 hgrow1)
            go_roundw
            case rel =>
              refine ⟨p + 1, by omega, by omega, by go_num, by rw [HE.out]; simp, ?_, ?_⟩
              · rw [HE.out]; simpa using hown1
              · exact ((HG.out.alloc hsz _).grown hgrow1 (by simp; omega) (fun k h => by cases h; exact Nat.le_refl _))
            case measure => simp [intOf]; omega
        · have hge : (s.size : Int) ≤ (p : Int) := by omega
          have HE : Hid (got (bl s) st p = strip ((bl s).drop st)) := by
            show _ = _
            rw [show p = (bl s).length from by rw [HL.out]; omega, got_end]
          obtain ⟨d, hd⟩ : ∃ d, d = got (bl s) st p := ⟨_, rfl⟩
          have HD : Hid (core d = R) := by show _ = _; rw [hd, HE.out]; exact HR.out
          rw [← hd] at hgl HO ⊢
          clear hd HE HR
          have hcell : ∀ i, i < d.length → wr.cell? ⟨w.heap.size, i, none⟩ = some (.int .u8 (d.getD i 0)) := fun i hi => by
            rw [HO.out.cellAt i (by omega)]
            simp [hi]
          clear HO
          by_cases hd0 : d.length = 0
          · have hd0' : ((d.length : Int) == 0) = true := by simpa using hd0
            have HC : Hid (R = false) := by show R = false; rw [← HD.out]; exact core_none hd0
            clear hd0
            go_wp2_with fail
            go_ret
            exact ⟨by rw [HC.out]; rfl, HG.out⟩
          have hd1 : ((d.length : Int) == 0) = false := beq_eq_false_iff_ne.2 (by omega)
          have hdz : (0 : Int) < (d.length : Int) := by omega
          have c0 := hcell 0 (by omega)
          have HCE : Hid (∀ i, i < d.length → wr.cell? ⟨w.heap.size, i, none⟩ = some (.int .u8 (d.getD i 0))) := hcell
          clear hcell
          have HDL : Hid (¬ d.length = 0) := hd0
          clear hd0
          obtain ⟨x, hx⟩ : ∃ x, x = d.getD 0 0 := ⟨_, rfl⟩
          rw [← hx] at c0
          have HX : Hid (x = d.getD 0 0) := hx
          clear hx
          by_cases hx48 : x = 48
          · have hxb : (x != 48) = false := by simpa using hx48
            have HX0 : Hid (d.getD 0 0 = 48) := by show _ = _; rw [← HX.out]; exact hx48
            clear hx48
            by_cases hd2 : 2 ≤ d.length
            · have hd2z : (2 : Int) ≤ (d.length : Int) := by omega
              have hd1z : (1 : Int) < (d.length : Int) := by omega
              have c1 := HCE.out 1 (by omega)
              have HC2 := core_two hd2 HX0.out
              obtain ⟨y, hy⟩ : ∃ y, y = d.getD 1 0 := ⟨_, rfl⟩
              rw [← hy] at c1 HC2
              clear hy
              have leaf : ∀ base : Int, (base = 2 ∨ base = 8 ∨ base = 16) → R = (decide (2 < d.length) && (d.drop 2).all (dgt base)) →
                  (2 < d.length ∧ Hid (R = (d.drop 2).all (dgt base))) ∨ (decide ((2 : Int) < (d.length : Int)) = false ∧ Hid (R = false)) := fun base _ h => by
                by_cases h2 : 2 < d.length
                · exact .inl ⟨h2, by show _ = _; rw [h]; simp [h2]⟩
                · exact .inr ⟨decide_eq_false (by omega), by show _ = _; rw [h]; simp [h2]⟩
              by_cases y0 : y = 120
              · have b0 : (y == 120) = true := by simpa using y0
                have hleaf := leaf 16 (by omega) (by rw [← HD.out, HC2, y0]; rfl)
                clear leaf HC2 y0
                rcases hleaf with ⟨h2, HC⟩ | ⟨h2, HC⟩
                · have h2z : (2 : Int) < (d.length : Int) := by omega
                  go_wp2_with fail
                  refine (allOf_any w.heap.size d.length s.size 2 16 d _ (by omega) (by omega) rfl (by omega) HCE.out).mono ?_
                  rw [← HC.out]
                  rintro e w' ⟨rfl, rfl⟩
                  go_wp2_with fail
                  go_ret
                  exact ⟨rfl, HG.out⟩
                · go_wp2_with fail
                  go_ret
                  exact ⟨by rw [HC.out]; rfl, HG.out⟩
              have b0 : (y == 120) = false := by simpa using y0
              by_cases y1 : y = 88
              · have b1 : (y == 88) = true := by simpa using y1
                have hleaf := leaf 16 (by omega) (by rw [← HD.out, HC2, y1]; rfl)
                clear leaf HC2 y0 y1
                rcases hleaf with ⟨h2, HC⟩ | ⟨h2, HC⟩
                · have h2z : (2 : Int) < (d.length : Int) := by omega
                  go_wp2_with fail
                  refine (allOf_any w.heap.size d.length s.size 2 16 d _ (by omega) (by omega) rfl (by omega) HCE.out).mono ?_
                  rw [← HC.out]
                  rintro e w' ⟨rfl, rfl⟩
                  go_wp2_with fail
                  go_ret
                  exact ⟨rfl, HG.out⟩
                · go_wp2_with fail
                  go_ret
                  exact ⟨by rw [HC.out]; rfl, HG.out⟩
              have b1 : (y == 88) = false := by simpa using y1
              by_cases y2 : y = 111
              · have b2 : (y == 111) = true := by simpa using y2
                have hleaf := leaf 8 (by omega) (by rw [← HD.out, HC2, y2]; rfl)
                clear leaf HC2 y0 y1 y2
                rcases hleaf with ⟨h2, HC⟩ | ⟨h2, HC⟩
                · have h2z : (2 : Int) < (d.length : Int) := by omega
                  go_wp2_with fail
                  refine (allOf_any w.heap.size d.length s.size 2 8 d _ (by omega) (by omega) rfl (by omega) HCE.out).mono ?_
                  rw [← HC.out]
                  rintro e w' ⟨rfl, rfl⟩
                  go_wp2_with fail
                  go_ret
                  exact ⟨rfl, HG.out⟩
                · go_wp2_with fail
                  go_ret
                  exact ⟨by rw [HC.out]; rfl, HG.out⟩
              have b2 : (y == 111) = false := by simpa using y2
              by_cases y3 : y = 79
              · have b3 : (y == 79) = true := by simpa using y3
                have hleaf := leaf 8 (by omega) (by rw [← HD.out, HC2, y3]; rfl)
                clear leaf HC2 y0 y1 y2 y3
                rcases hleaf with ⟨h2, HC⟩ | ⟨h2, HC⟩
                · have h2z : (2 : Int) < (d.length : Int) := by omega
                  go_wp2_with fail
                  refine (allOf_any w.heap.size d.length s.size 2 8 d _ (by omega) (by omega) rfl (by omega) HCE.out).mono ?_
                  rw [← HC.out]
                  rintro e w' ⟨rfl, rfl⟩
                  go_wp2_with fail
                  go_ret
                  exact ⟨rfl, HG.out⟩
                · go_wp2_with fail
                  go_ret
                  exact ⟨by rw [HC.out]; rfl, HG.out⟩
              have b3 : (y == 79) = false := by simpa using y3
              by_cases y4 : y = 98
              · have b4 : (y == 98) = true := by simpa using y4
                have hleaf := leaf 2 (by omega) (by rw [← HD.out, HC2, y4]; rfl)
                clear leaf HC2 y0 y1 y2 y3 y4
                rcases hleaf with ⟨h2, HC⟩ | ⟨h2, HC⟩
                · have h2z : (2 : Int) < (d.length : Int) := by omega
                  go_wp2_with fail
                  refine (allOf_any w.heap.size d.length s.size 2 2 d _ (by omega) (by omega) rfl (by omega) HCE.out).mono ?_
                  rw [← HC.out]
                  rintro e w' ⟨rfl, rfl⟩
                  go_wp2_with fail
                  go_ret
                  exact ⟨rfl, HG.out⟩
                · go_wp2_with fail
                  go_ret
                  exact ⟨by rw [HC.out]; rfl, HG.out⟩
              have b4 : (y == 98) = false := by simpa using y4
              by_cases y5 : y = 66
              · have b5 : (y == 66) = true := by simpa using y5
                have hleaf := leaf 2 (by omega) (by rw [← HD.out, HC2, y5]; rfl)
                clear leaf HC2 y0 y1 y2 y3 y4 y5
                rcases hleaf with ⟨h2, HC⟩ | ⟨h2, HC⟩
                · have h2z : (2 : Int) < (d.length : Int) := by omega
                  go_wp2_with fail
                  refine (allOf_any w.heap.size d.length s.size 2 2 d _ (by omega) (by omega) rfl (by omega) HCE.out).mono ?_
                  rw [← HC.out]
                  rintro e w' ⟨rfl, rfl⟩
                  go_wp2_with fail
                  go_ret
                  exact ⟨rfl, HG.out⟩
                · go_wp2_with fail
                  go_ret
                  exact ⟨by rw [HC.out]; rfl, HG.out⟩
              have b5 : (y == 66) = false := by simpa using y5
              have HC : Hid (R = (d.drop 1).all (dgt 8)) := by
                show _ = _
                rw [← HD.out, HC2, if_neg (by omega), if_neg (by omega), if_neg (by omega)]
              clear leaf HC2 y0 y1 y2 y3 y4 y5
              go_wp2_with fail
              refine (allOf_any w.heap.size d.length s.size 1 8 d _ (by omega) (by omega) rfl (by omega) HCE.out).mono ?_
              rw [← HC.out]
              rintro e w' ⟨rfl, rfl⟩
              go_wp2_with fail
              go_ret
              exact ⟨rfl, HG.out⟩
            · have hd2z : ¬ (2 : Int) ≤ (d.length : Int) := by omega
              have HC : Hid (R = (d.drop 1).all (dgt 8)) := by show _ = _; rw [← HD.out]; exact core_one (by have := HDL.out; omega) HX0.out
              go_wp2_with fail
              refine (allOf_any w.heap.size d.length s.size 1 8 d _ (by omega) (by omega) rfl (by omega) HCE.out).mono ?_
              rw [← HC.out]
              rintro e w' ⟨rfl, rfl⟩
              go_wp2_with fail
              go_ret
              exact ⟨rfl, HG.out⟩
          · have hxb : (x != 48) = true := by simpa using hx48
            have HC : Hid (R = (d.drop 0).all (dgt 10)) := by show _ = _; rw [← HD.out]; exact core_dec (by omega) (by rw [← HX.out]; exact hx48)
            clear hx48
            go_wp2_with fail
            refine (allOf_any w.heap.size d.length s.size 0 10 d _ (by omega) (by omega) rfl (by omega) HCE.out).mono ?_
            rw [← HC.out]
            rintro e w' ⟨rfl, rfl⟩
            go_wp2_with fail
            go_ret
            exact ⟨rfl, HG.out⟩

/-- modelIsInteger. -/
theorem model_any (s : ByteArray) (w : World) (hs : s.size ≤ 1048576) : Calls Try.prog 8 #[.string s] w fun e w' => e = .returned (.bool (isInt (bl s))) ∧ Below w.heap.size w w' := by
  by_cases h0 : 0 < s.size
  · have hl : 0 < (bl s).length := by rw [bl_length]; exact h0
    by_cases h1 : bt s 0 = 43 ∨ bt s 0 = 45
    · exact model_main s 1 w hs h0 (.inl ⟨h1, rfl⟩) _ (isInt_sign hl (by rw [← bt_bl]; exact h1)).symm
    · by_cases h2 : 48 ≤ bt s 0 ∧ bt s 0 ≤ 57
      · exact model_main s 0 w hs h0 (.inr ⟨h2, rfl⟩) _ (isInt_digit hl (by rw [← bt_bl]; exact h2)).symm
      · rw [isInt_else hl (by rw [← bt_bl]; omega) (by rw [← bt_bl]; omega) (by rw [← bt_bl]; omega)]
        exact (model_else s w hs h0 (by simp; omega) (by simp; omega) (by omega)).mono fun e w' ⟨he, hw⟩ => ⟨he, by rw [← hw]; exact Below.refl _ _⟩
  · have e : s = ByteArray.empty := by
      apply ByteArray.ext
      apply Array.eq_empty_of_size_eq_zero
      have : s.data.size = s.size := rfl
      omega
    subst e
    exact (model_empty w).mono fun e w' ⟨he, hw⟩ => ⟨he, by rw [← hw]; exact Below.refl _ _⟩
end Go.Proofs.Qxb6621701a
