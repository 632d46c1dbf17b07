/-
  THE WALK OF bracket.
-/
import Derived.Test.Qxb6617323aCls2
namespace Go.Proofs.Qxb6617323a
open Go.RowKit Go.PlainAid
set_option linter.unusedVariables false

theorem rt3 {a b : Bool} {x y : Int} {p q : Bool} (h1 : a = b) (h2 : x = y) (h3 : p = q) : Ending.returned (.tuple #[.bool a, .int .i64 x, .bool p]) = .returned (.tuple #[.bool b, .int .i64 y, .bool q]) := by rw [h1, h2, h3]

set_option maxRecDepth 100000 in
set_option maxHeartbeats 2000000 in
theorem bracket_core (glob : ByteArray) (st g : Nat) (c : Int) (neg : Bool) (R : Option ((Int → Bool) × Nat)) (V : Value) (w : World) (hg : glob.size ≤ 1048576) (hst : st < glob.size) (h0 : 0 ≤ c) (h1 : c ≤ 255)
    (hneg : (neg = true ∧ st + 1 < glob.size ∧ (bt glob (st + 1) = 33 ∨ bt glob (st + 1) = 94) ∧ g = st + 2) ∨ (neg = false ∧ (st + 1 < glob.size → bt glob (st + 1) ≠ 33 ∧ bt glob (st + 1) ≠ 94) ∧ g = st + 1))
    (hR : brF (bl glob) neg ((bl glob).length + 2) g true (-1) (fun _ => false) = R)
    (hV : (R = none ∧ V = .tuple #[.bool false, .int .i64 0, .bool false]) ∨ ∃ S e, R = some (S, e) ∧ V = .tuple #[.bool (S c), .int .i64 (e : Nat), .bool true]) :
    Calls Try.prog 18 #[.string glob, .int .i64 st, .int .u8 c] w fun e w' => e = .returned V ∧ w = w' := by
  have hb := get_bt glob
  have HL : Hid ((bl glob).length = glob.size) := bl_length glob
  have HN : Hid ((neg = true ∧ st + 1 < glob.size ∧ (bt glob (st + 1) = 33 ∨ bt glob (st + 1) = 94) ∧ g = st + 2) ∨ (neg = false ∧ (st + 1 < glob.size → bt glob (st + 1) ≠ 33 ∧ bt glob (st + 1) ≠ 94) ∧ g = st + 1)) := hneg
  have HR : Hid (brF (bl glob) neg ((bl glob).length + 2) g true (-1) (fun _ => false) = R) := hR
  have HV : Hid ((R = none ∧ V = .tuple #[.bool false, .int .i64 0, .bool false]) ∨ ∃ S e, R = some (S, e) ∧ V = .tuple #[.bool (S c), .int .i64 (e : Nat), .bool true]) := hV
  have hgs : g ≤ glob.size ∧ st < g := by rcases hneg with ⟨_, a, _, b⟩ | ⟨_, _, b⟩ <;> omega
  obtain ⟨hgs, hsg⟩ := hgs
  clear hneg hR hV
  go_enter Try.func18, Try.ntmps18
  go_upto_region 2 with fail
  go_cut [10] from 23 to 38 (fun v wx => v = .bool neg ∧ w = wx)
  case first =>
    by_cases hl : st + 1 < glob.size
    · have hlz : (st : Int) + 1 < (glob.size : Int) := by omega
      rcases HN.out with ⟨rfl, _, hc, _⟩ | ⟨rfl, hc, _⟩
      · by_cases hc1 : bt glob (st + 1) = 33
        · have b1 : (bt glob (st + 1) == 33) = true := by rw [hc1]; rfl
          clear hc hc1
          go_wp2_with fail
          go_meet
          exact ⟨rfl, rfl⟩
        · have b1 : (bt glob (st + 1) == 33) = false := by simpa using hc1
          have b2 : (bt glob (st + 1) == 94) = true := by
            rcases hc with h | h
            · exact absurd h hc1
            · rw [h]; rfl
          clear hc hc1
          go_wp2_with fail
          go_meet
          exact ⟨rfl, rfl⟩
      · have b1 : (bt glob (st + 1) == 33) = false := by have := (hc hl).1; simpa using this
        have b2 : (bt glob (st + 1) == 94) = false := by have := (hc hl).2; simpa using this
        clear hc
        go_wp2_with fail
        go_meet
        exact ⟨rfl, rfl⟩
    · have hlz : decide ((st : Int) + 1 < (glob.size : Int)) = false := decide_eq_false (by omega)
      have hn : neg = false := by
        rcases HN.out with ⟨_, a, _⟩ | ⟨a, _⟩
        · omega
        · exact a
      subst hn
      go_wp2_with fail
      go_meet
      exact ⟨rfl, rfl⟩
  case rest =>
    obtain ⟨rfl, rfl⟩ := hcut
    go_upto_if 39 with fail
    go_cut [9] from 40 to 41 (fun v wx => v = .int .i64 g ∧ w = wx)
    case first =>
      rcases HN.out with ⟨rfl, _, _, rfl⟩ | ⟨rfl, _, rfl⟩
      · go_wp2_with fail
        go_meet
        exact ⟨by go_num, rfl⟩
      · go_wp2_with fail
        go_meet
        exact ⟨by go_num, rfl⟩
    case rest =>
      obtain ⟨rfl, rfl⟩ := hcut
      clear HN
      go_wp2_with fail
      go_loopg [6, 9, 11, 12, 13] ((bl glob).length + 2) (fun f v6 v9 v11 v12 v13 wr => ∃ (i : Nat) (S : Int → Bool) (low lw : Int) (hl first : Bool), v6 = .bool (S c) ∧ v9 = .int .i64 i ∧ v11 = .int .u8 lw ∧ v12 = .bool hl ∧ v13 = .bool first ∧
          i ≤ glob.size ∧ glob.size < i + f ∧ (hl = true → low = lw ∧ 0 ≤ low) ∧ (hl = false → low = -1) ∧ brF (bl glob) neg f i first low S = R ∧ w = wr)
      case atStart => exact ⟨g, fun _ => false, -1, 0, false, true, rfl, rfl, rfl, rfl, rfl, hgs, (by rw [HL.out]; omega), (fun h => by cases h), (fun _ => rfl), HR.out, rfl⟩
      case round =>
        obtain ⟨i, S, low, lw, hl, first, rfl, rfl, rfl, rfl, rfl, hi, hf, hlt, hlf, hbr, rfl⟩ := hrel
        have HLT : Hid (hl = true → low = lw ∧ 0 ≤ low) := hlt
        have HLF : Hid (hl = false → low = -1) := hlf
        obtain ⟨f, rfl⟩ : ∃ f, gk = f + 1 := ⟨gk - 1, by omega⟩
        have HBR : Hid (brF (bl glob) neg (f + 1) i first low S = R) := hbr
        clear hlt hlf hbr HR
        by_cases hil : i = glob.size
        · have e1 : ((i : Int) == (glob.size : Int)) = true := beq_iff_eq.2 (by omega)
          have HRn : Hid (R = none) := by show R = none; rw [← HBR.out]; exact br_end (by rw [HL.out]; omega)
          have HVn : Hid (V = .tuple #[.bool false, .int .i64 0, .bool false]) := by
            rcases HV.out with ⟨_, h⟩ | ⟨S', e, h, _⟩
            · exact h
            · rw [HRn.out] at h; cases h
          clear hil HV
          go_wp2_with fail
          go_ret3
          exact ⟨by rw [HVn.out]; rfl, rfl⟩
        · have e1 : ((i : Int) == (glob.size : Int)) = false := beq_eq_false_iff_ne.2 (by omega)
          have hilt : i < glob.size := by omega
          have hiltz : (i : Int) < (glob.size : Int) := by omega
          have HIL : Hid (i < (bl glob).length) := by show _ < _; rw [HL.out]; exact hilt
          clear hil
          have HY : Hid (bt glob i = (bl glob).getD i 0) := bt_bl glob i
          obtain ⟨z1, hz1⟩ : ∃ z, z = decide ((bl glob).getD i 0 = 93 ∧ first = false) := ⟨_, rfl⟩
          have HZ1 : Hid (z1 = decide ((bl glob).getD i 0 = 93 ∧ first = false)) := hz1
          clear hz1
          obtain ⟨iv, hiv⟩ : ∃ iv, iv = S c := ⟨_, rfl⟩
          rw [← hiv]
          have HIV : Hid (S c = iv) := hiv.symm
          clear hiv
          go_upto_region 14 with fail
          go_cut [58] from 59 to 64 (fun v wx => v = .bool z1 ∧ w = wx)
          case first =>
            by_cases a1 : bt glob i = 93
            · have b1 : (bt glob i == 93) = true := by rw [a1]; rfl
              have e : z1 = !first := by rw [HZ1.out, ← HY.out, a1]; cases first <;> rfl
              have HE : Hid (z1 = !first) := e
              clear a1 e
              go_wp2_with fail
              go_meet
              exact ⟨by rw [HE.out], rfl⟩
            · have b1 : (bt glob i == 93) = false := by simpa using a1
              have e : z1 = false := by rw [HZ1.out, ← HY.out]; simp [a1]
              subst e
              clear a1
              go_wp2_with fail
              go_meet
              exact ⟨rfl, rfl⟩
          case rest =>
            obtain ⟨rfl, rfl⟩ := hcut
            cases z1 with
            | true =>
              have hz : (bl glob).getD i 0 = 93 ∧ first = false := of_decide_eq_true HZ1.out.symm
              have HRs : Hid (R = some (fun c => S c != neg, i + 1)) := by show R = _; rw [← HBR.out]; exact br_close HIL.out hz.1 hz.2
              have HVs : Hid (V = .tuple #[.bool (iv != neg), .int .i64 ((i : Int) + 1), .bool true]) := by
                rcases HV.out with ⟨h, _⟩ | ⟨S', e, h, hv⟩
                · rw [HRs.out] at h; cases h
                · rw [HRs.out] at h
                  simp only [Option.some.injEq, Prod.mk.injEq] at h
                  obtain ⟨rfl, rfl⟩ := h
                  show V = _
                  rw [hv]
                  show Value.tuple #[.bool (S c != neg), _, _] = _
                  rw [HIV.out]; rfl
              clear hz HV
              go_wp2_with fail
              go_ret3
              exact ⟨by rw [HVs.out]; exact rt3 rfl rfl rfl, rfl⟩
            | false =>
              have hz : ¬ ((bl glob).getD i 0 = 93 ∧ first = false) := of_decide_eq_false HZ1.out.symm
              have HZ : Hid (¬ ((bl glob).getD i 0 = 93 ∧ first = false)) := hz
              clear hz HZ1
              by_cases a92 : bt glob i = 92
              · have b1 : (bt glob i == 92) = true := by rw [a92]; rfl
                by_cases hl1 : i + 1 = glob.size
                · have e2 : ((i : Int) + 1 == (glob.size : Int)) = true := beq_iff_eq.2 (by omega)
                  have HRn : Hid (R = none) := by show R = none; rw [← HBR.out]; exact br_esc_end (by rw [HL.out]; exact hl1) (by rw [← HY.out]; exact a92)
                  have HVn : Hid (V = .tuple #[.bool false, .int .i64 0, .bool false]) := by
                    rcases HV.out with ⟨_, h⟩ | ⟨S', e, h, _⟩
                    · exact h
                    · rw [HRn.out] at h; cases h
                  clear hl1 HV a92
                  go_wp2_with fail
                  go_ret3
                  exact ⟨by rw [HVn.out]; rfl, rfl⟩
                · have e2 : ((i : Int) + 1 == (glob.size : Int)) = false := beq_eq_false_iff_ne.2 (by omega)
                  have hl2 : (i : Int) + 1 < (glob.size : Int) := by omega
                  have HN2 : Hid (brF (bl glob) neg f (i + 2) false (bt glob (i + 1)) (addB S (bt glob (i + 1))) = R) := by
                    show _ = R; rw [← HBR.out, bt_bl glob (i + 1)]; exact (br_esc (by rw [HL.out]; omega) (by rw [← HY.out]; exact a92)).symm
                  have hnn := bt_nonneg glob (i + 1)
                  clear a92
                  cases iv
                  all_goals
                    go_wp2_with fail
                    go_roundg f
                    case measure => omega
                    case rel => exact ⟨i + 2, addB S (bt glob (i + 1)), bt glob (i + 1), bt glob (i + 1), true, false, by simp [addB, HIV.out], by go_num, rfl, rfl, rfl, by omega, by omega, (fun _ => ⟨rfl, hnn⟩), (fun h => by cases h), HN2.out, rfl⟩
              · have b2 : (bt glob i == 92) = false := by simpa using a92
                have H92 : Hid ((bl glob).getD i 0 ≠ 92) := by rw [← HY.out]; exact a92
                clear a92
                obtain ⟨z2, hz2⟩ : ∃ z, z = decide (isRng (bl glob) i low) := ⟨_, rfl⟩
                have HZ2 : Hid (z2 = decide (isRng (bl glob) i low)) := hz2
                clear hz2
                go_upto_region 22 with fail
                go_cut [90] from 91 to 109 (fun v wx => v = .bool z2 ∧ w = wx)
                case first =>
                  by_cases a1 : bt glob i = 45
                  · have b1 : (bt glob i == 45) = true := by rw [a1]; rfl
                    cases hl with
                    | false =>
                      have hlow := HLF.out rfl
                      have e : z2 = false := by rw [HZ2.out]; exact decide_eq_false (fun h => by have := h.2.1; omega)
                      subst e
                      clear a1 hlow
                      go_wp2_with fail
                      go_meet
                      exact ⟨rfl, rfl⟩
                    | true =>
                      have hlow := (HLT.out rfl).2
                      by_cases a2 : i + 1 < glob.size
                      · have a2z : (i : Int) + 1 < (glob.size : Int) := by omega
                        have e : z2 = (bt glob (i + 1) != 93) := by
                          rw [HZ2.out, Bool.eq_iff_iff, decide_eq_true_eq, bt_bl glob (i + 1)]
                          have h45 : (bl glob).getD i 0 = 45 := by rw [← HY.out]; exact a1
                          constructor
                          · intro h; simpa using h.2.2.2
                          · intro h; exact ⟨h45, hlow, by rw [HL.out]; exact a2, by simpa using h⟩
                        have HE : Hid (z2 = (bt glob (i + 1) != 93)) := e
                        clear a1 e hlow
                        go_wp2_with fail
                        go_meet
                        exact ⟨by rw [HE.out], rfl⟩
                      · have a2z : decide ((i : Int) + 1 < (glob.size : Int)) = false := decide_eq_false (by omega)
                        have e : z2 = false := by rw [HZ2.out]; exact decide_eq_false (fun h => by have := h.2.2.1; rw [HL.out] at this; omega)
                        subst e
                        clear a1 hlow
                        go_wp2_with fail
                        go_meet
                        exact ⟨rfl, rfl⟩
                  · have b1 : (bt glob i == 45) = false := by simpa using a1
                    have e : z2 = false := by rw [HZ2.out]; exact decide_eq_false (fun h => by have := h.1; rw [← HY.out] at this; exact a1 this)
                    subst e
                    clear a1
                    go_wp2_with fail
                    go_meet
                    exact ⟨rfl, rfl⟩
                case rest =>
                  obtain ⟨rfl, rfl⟩ := hcut
                  cases z2 with
                  | true =>
                    have hrg : isRng (bl glob) i low := of_decide_eq_true HZ2.out.symm
                    have HRG : Hid (isRng (bl glob) i low) := hrg
                    have hi1 : i + 1 < glob.size := by have := hrg.2.2.1; rwa [HL.out] at this
                    have hi1z : (i : Int) + 1 < (glob.size : Int) := by omega
                    have hlow : low = lw := by
                      cases hl with
                      | true => exact (HLT.out rfl).1
                      | false => have h1 := HLF.out rfl; have h2 := hrg.2.1; omega
                    subst hlow
                    clear hrg HZ2
                    by_cases a92 : bt glob (i + 1) = 92
                    · have b3 : (bt glob (i + 1) == 92) = true := by rw [a92]; rfl
                      by_cases hl2 : i + 2 = glob.size
                      · have e2 : ((i : Int) + 1 + 1 == (glob.size : Int)) = true := beq_iff_eq.2 (by omega)
                        have HRn : Hid (R = none) := by show R = none; rw [← HBR.out]; exact br_rng_end HRG.out (by rw [← bt_bl]; exact a92) (by rw [HL.out]; exact hl2)
                        have HVn : Hid (V = .tuple #[.bool false, .int .i64 0, .bool false]) := by
                          rcases HV.out with ⟨_, h⟩ | ⟨S', e, h, _⟩
                          · exact h
                          · rw [HRn.out] at h; cases h
                        clear hl2 HV a92
                        go_wp2_with fail
                        go_ret3
                        exact ⟨by rw [HVn.out]; rfl, rfl⟩
                      · have e2 : ((i : Int) + 1 + 1 == (glob.size : Int)) = false := beq_eq_false_iff_ne.2 (by omega)
                        have hl3 : (i : Int) + 1 + 1 < (glob.size : Int) := by omega
                        have HN2 : Hid (brF (bl glob) neg f (i + 3) false (-1) (addR S low (bt glob (i + 2))) = R) := by
                          show _ = R; rw [← HBR.out, bt_bl glob (i + 2)]; exact (br_rng_esc HRG.out (by rw [← bt_bl]; exact a92) (by rw [HL.out]; omega)).symm
                        clear a92
                        by_cases hlc : low ≤ c
                        · cases iv
                          all_goals
                            go_wp2_with fail
                            go_roundg f
                            case measure => omega
                            case rel => exact ⟨i + 3, addR S low (bt glob (i + 2)), -1, low, false, false, by simp [addR, HIV.out, hlc], by go_num, rfl, rfl, rfl, by omega, by omega, (fun h => by cases h), (fun _ => rfl), HN2.out, rfl⟩
                        · have hlcd : decide (low ≤ c) = false := decide_eq_false hlc
                          cases iv
                          all_goals
                            go_wp2_with fail
                            go_roundg f
                            case measure => omega
                            case rel => exact ⟨i + 3, addR S low (bt glob (i + 2)), -1, low, false, false, by simp [addR, HIV.out, hlcd], by go_num, rfl, rfl, rfl, by omega, by omega, (fun h => by cases h), (fun _ => rfl), HN2.out, rfl⟩
                    · have b3 : (bt glob (i + 1) == 92) = false := by simpa using a92
                      have HN2 : Hid (brF (bl glob) neg f (i + 2) false (-1) (addR S low (bt glob (i + 1))) = R) := by
                        show _ = R; rw [← HBR.out, bt_bl glob (i + 1)]; exact (br_rng HRG.out (by rw [← bt_bl]; exact a92)).symm
                      clear a92
                      by_cases hlc : low ≤ c
                      · cases iv
                        all_goals
                          go_wp2_with fail
                          go_roundg f
                          case measure => omega
                          case rel => exact ⟨i + 2, addR S low (bt glob (i + 1)), -1, low, false, false, by simp [addR, HIV.out, hlc], by go_num, rfl, rfl, rfl, by omega, by omega, (fun h => by cases h), (fun _ => rfl), HN2.out, rfl⟩
                      · have hlcd : decide (low ≤ c) = false := decide_eq_false hlc
                        cases iv
                        all_goals
                          go_wp2_with fail
                          go_roundg f
                          case measure => omega
                          case rel => exact ⟨i + 2, addR S low (bt glob (i + 1)), -1, low, false, false, by simp [addR, HIV.out, hlcd], by go_num, rfl, rfl, rfl, by omega, by omega, (fun h => by cases h), (fun _ => rfl), HN2.out, rfl⟩
                  | false =>
                    have hnr : ¬ isRng (bl glob) i low := of_decide_eq_false HZ2.out.symm
                    have HNR : Hid (¬ isRng (bl glob) i low) := hnr
                    clear hnr HZ2
                    obtain ⟨z3, hz3⟩ : ∃ z, z = decide (isCls (bl glob) i) := ⟨_, rfl⟩
                    have HZ3 : Hid (z3 = decide (isCls (bl glob) i)) := hz3
                    clear hz3
                    go_upto_region 32 with fail
                    go_cut [137] from 138 to 153 (fun v wx => v = .bool z3 ∧ w = wx)
                    case first =>
                      by_cases a1 : bt glob i = 91
                      · have b1 : (bt glob i == 91) = true := by rw [a1]; rfl
                        by_cases a2 : i + 1 < glob.size
                        · have a2z : (i : Int) + 1 < (glob.size : Int) := by omega
                          have e : z3 = (bt glob (i + 1) == 58) := by
                            rw [HZ3.out, Bool.eq_iff_iff, decide_eq_true_eq, bt_bl glob (i + 1)]
                            have h91 : (bl glob).getD i 0 = 91 := by rw [← HY.out]; exact a1
                            constructor
                            · intro h; simpa using h.2.2
                            · intro h; exact ⟨h91, by rw [HL.out]; exact a2, by simpa using h⟩
                          have HE : Hid (z3 = (bt glob (i + 1) == 58)) := e
                          clear a1 e
                          go_wp2_with fail
                          go_meet
                          exact ⟨by rw [HE.out], rfl⟩
                        · have a2z : decide ((i : Int) + 1 < (glob.size : Int)) = false := decide_eq_false (by omega)
                          have e : z3 = false := by rw [HZ3.out]; exact decide_eq_false (fun h => by have := h.2.1; rw [HL.out] at this; omega)
                          subst e
                          clear a1
                          go_wp2_with fail
                          go_meet
                          exact ⟨rfl, rfl⟩
                      · have b1 : (bt glob i == 91) = false := by simpa using a1
                        have e : z3 = false := by rw [HZ3.out]; exact decide_eq_false (fun h => by have := h.1; rw [← HY.out] at this; exact a1 this)
                        subst e
                        clear a1
                        go_wp2_with fail
                        go_meet
                        exact ⟨rfl, rfl⟩
                    case rest =>
                      obtain ⟨rfl, rfl⟩ := hcut
                      cases z3 with
                      | true =>
                        have hcl : isCls (bl glob) i := of_decide_eq_true HZ3.out.symm
                        have HCL : Hid (isCls (bl glob) i) := hcl
                        have hi1 : i + 1 < glob.size := by have := hcl.2.1; rwa [HL.out] at this
                        obtain ⟨K, hK⟩ : ∃ K, K = nxtB (bl glob) (i + 2) := ⟨_, rfl⟩
                        have HK : Hid (K = nxtB (bl glob) (i + 2)) := hK
                        have hK1 : i + 2 ≤ K := by rw [hK]; exact nxtB_ge _ _
                        have hK2 : K ≤ glob.size := by rw [hK, ← HL.out]; exact nxtB_le _ _ (by rw [HL.out]; omega)
                        have E2 : Hid ((i : Int) + 2 = ((i + 2 : Nat) : Int)) := by show _ = _; omega
                        clear hcl HZ3 hK
                        by_cases hKs : K = glob.size
                        · have HRn : Hid (R = none) := by show R = none; rw [← HBR.out]; exact br_cls_open HCL.out (by rw [← HK.out, HL.out]; omega)
                          have HVn : Hid (V = .tuple #[.bool false, .int .i64 0, .bool false]) := by
                            rcases HV.out with ⟨_, h⟩ | ⟨S', e, h, _⟩
                            · exact h
                            · rw [HRn.out] at h; cases h
                          have HCN : Hid (∀ w, Calls Try.prog 23 #[.string glob, .int .i64 ((i + 2 : Nat) : Int)] w fun e w' => e = .returned (.tuple #[.string ⟨#[]⟩, .int .i64 0, .bool false]) ∧ w = w') := fun w => className_any glob (i + 2) K _ w hg (by omega) HK.out (.inl ⟨hKs, rfl⟩)
                          clear hKs HV
                          go_wp2_with fail
                          rw [E2.out]
                          refine (HCN.out _).mono ?_
                          rintro e w' ⟨rfl, rfl⟩
                          go_wp2_with fail
                          go_ret3
                          exact ⟨by rw [HVn.out]; rfl, rfl⟩
                        · by_cases hnm : i + 2 < K ∧ bt glob (K - 1) = 58
                          · have hKlt : K < glob.size := by omega
                            have HNM : Hid (bl (glob.extract (i + 2) (K - 1)) = nameAt (bl glob) i) := by
                              show _ = _
                              rw [bl_ext, nameAt, ← HK.out, List.drop_take]
                            have HIN : Hid (isName (bl glob) i) := by show isName _ _; rw [isName, ← HK.out, ← bt_bl]; exact hnm
                            have HCN : Hid (∀ w, Calls Try.prog 23 #[.string glob, .int .i64 ((i + 2 : Nat) : Int)] w fun e w' => e = .returned (.tuple #[.string (glob.extract (i + 2) (K - 1)), .int .i64 K, .bool true]) ∧ w = w') := fun w => className_any glob (i + 2) K _ w hg (by omega) HK.out (.inr (.inr ⟨hKlt, hnm, rfl⟩))
                            clear hnm hKs
                            cases hcls : cls (nameAt (bl glob) i) with
                            | none =>
                              have HRn : Hid (R = none) := by show R = none; rw [← HBR.out]; exact br_cls_bad HCL.out (by rw [← HK.out, HL.out]; exact hKlt) HIN.out hcls
                              have HVn : Hid (V = .tuple #[.bool false, .int .i64 0, .bool false]) := by
                                rcases HV.out with ⟨_, h⟩ | ⟨S', e, h, _⟩
                                · exact h
                                · rw [HRn.out] at h; cases h
                              have HIC : Hid (∀ w, Calls Try.prog 24 #[.string (glob.extract (i + 2) (K - 1)), .int .u8 c] w fun e w' => e = .returned (.tuple #[.bool false, .bool false]) ∧ w = w') := fun w => inClass_any _ c false false w h0 h1 (by rw [HNM.out, hcls]) (by rw [HNM.out, hcls]; rfl)
                              clear hcls HV
                              go_wp2_with fail
                              rw [E2.out]
                              refine (HCN.out _).mono ?_
                              rintro e w' ⟨rfl, rfl⟩
                              go_wp2_with fail
                              refine (HIC.out _).mono ?_
                              rintro e w' ⟨rfl, rfl⟩
                              go_wp2_with fail
                              go_ret3
                              exact ⟨by rw [HVn.out]; rfl, rfl⟩
                            | some C =>
                              have HN2 : Hid (brF (bl glob) neg f (K + 1) false (-1) (addC S C) = R) := by
                                show _ = R; rw [← HBR.out, HK.out]; exact (br_cls HCL.out (by rw [← HK.out, HL.out]; exact hKlt) HIN.out hcls).symm
                              have HIC : Hid (∀ w, Calls Try.prog 24 #[.string (glob.extract (i + 2) (K - 1)), .int .u8 c] w fun e w' => e = .returned (.tuple #[.bool (C c), .bool true]) ∧ w = w') := fun w => inClass_any _ c (C c) true w h0 h1 (by rw [HNM.out, hcls]) (by rw [HNM.out, hcls]; rfl)
                              clear hcls
                              obtain ⟨mb, hmb⟩ : ∃ mb, mb = C c := ⟨_, rfl⟩
                              rw [← hmb] at HIC
                              have HMB : Hid (C c = mb) := hmb.symm
                              clear hmb
                              cases iv
                              all_goals
                                go_wp2_with fail
                                rw [E2.out]
                                refine (HCN.out _).mono ?_
                                rintro e w' ⟨rfl, rfl⟩
                                go_wp2_with fail
                                refine (HIC.out _).mono ?_
                                rintro e w' ⟨rfl, rfl⟩
                                go_wp2_with fail
                                go_roundg f
                                case measure => omega
                                case rel => exact ⟨K + 1, addC S C, -1, lw, false, false, by simp [addC, HIV.out, HMB.out], by go_num, rfl, rfl, rfl, by omega, by omega, (fun h => by cases h), (fun _ => rfl), HN2.out, rfl⟩
                          · have HN2 : Hid (brF (bl glob) neg f (i + 1) false 91 (addB S 91) = R) := by
                              show _ = R; rw [← HBR.out]; exact (br_cls_not HCL.out (by rw [← HK.out, HL.out]; omega) (by rw [isName, ← HK.out, ← bt_bl]; exact hnm)).symm
                            have HCN : Hid (∀ w, Calls Try.prog 23 #[.string glob, .int .i64 ((i + 2 : Nat) : Int)] w fun e w' => e = .returned (.tuple #[.string ⟨#[]⟩, .int .i64 (-1), .bool true]) ∧ w = w') := fun w => className_any glob (i + 2) K _ w hg (by omega) HK.out (.inr (.inl ⟨by omega, hnm, rfl⟩))
                            clear hnm
                            cases iv
                            all_goals
                              go_wp2_with fail
                              rw [E2.out]
                              refine (HCN.out _).mono ?_
                              rintro e w' ⟨rfl, rfl⟩
                              go_wp2_with fail
                              go_roundg f
                              case measure => omega
                              case rel => exact ⟨i + 1, addB S 91, 91, 91, true, false, by simp [addB, HIV.out], by go_num, rfl, rfl, rfl, by omega, by omega, (fun _ => ⟨rfl, by decide⟩), (fun h => by cases h), HN2.out, rfl⟩
                      | false =>
                        have hnc : ¬ isCls (bl glob) i := of_decide_eq_false HZ3.out.symm
                        have hnn := bt_nonneg glob i
                        have HN2 : Hid (brF (bl glob) neg f (i + 1) false (bt glob i) (addB S (bt glob i)) = R) := by
                          show _ = R; rw [← HBR.out, HY.out]; exact (br_lit HIL.out HZ.out H92.out HNR.out hnc).symm
                        clear hnc HZ3
                        cases iv
                        all_goals
                          go_wp2_with fail
                          go_roundg f
                          case measure => omega
                          case rel => exact ⟨i + 1, addB S (bt glob i), bt glob i, bt glob i, true, false, by simp [addB, HIV.out], by go_num, rfl, rfl, rfl, by omega, by omega, (fun _ => ⟨rfl, hnn⟩), (fun h => by cases h), HN2.out, rfl⟩

/-- bracket. -/
theorem bracket_any (glob : ByteArray) (g : Nat) (c : Int) (V : Value) (w : World) (hg : glob.size ≤ 1048576) (hst : g < glob.size) (h0 : 0 ≤ c) (h1 : c ≤ 255)
    (hV : (Br (bl glob) g = none ∧ V = .tuple #[.bool false, .int .i64 0, .bool false]) ∨ ∃ S e, Br (bl glob) g = some (S, e) ∧ V = .tuple #[.bool (S c), .int .i64 (e : Nat), .bool true]) :
    Calls Try.prog 18 #[.string glob, .int .i64 g, .int .u8 c] w fun e w' => e = .returned V ∧ w = w' := by
  have hl := bl_length glob
  by_cases hn : isNeg (bl glob) g
  · have e : Br (bl glob) g = brF (bl glob) true ((bl glob).length + 2) (g + 2) true (-1) (fun _ => false) := by unfold Br; rw [if_pos hn]
    obtain ⟨n1, n2⟩ := hn
    exact bracket_core glob g (g + 2) c true (Br (bl glob) g) V w hg hst h0 h1 (.inl ⟨rfl, by omega, by rw [bt_bl]; exact n2, rfl⟩) e.symm hV
  · have e : Br (bl glob) g = brF (bl glob) false ((bl glob).length + 2) (g + 1) true (-1) (fun _ => false) := by unfold Br; rw [if_neg hn]
    refine bracket_core glob g (g + 1) c false (Br (bl glob) g) V w hg hst h0 h1 (.inr ⟨rfl, fun h => ?_, rfl⟩) e.symm hV
    rw [bt_bl]
    exact ⟨fun h' => hn ⟨by omega, .inl h'⟩, fun h' => hn ⟨by omega, .inr h'⟩⟩
end Go.Proofs.Qxb6617323a
