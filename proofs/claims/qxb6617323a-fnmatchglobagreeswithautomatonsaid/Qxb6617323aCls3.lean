/-
  THE WALK OF zzClass.
-/
import Derived.Test.Qxb6617323aCls2
namespace Go.Proofs.Qxb6617323a
open Go.RowKit Go.PlainAid
set_option linter.unusedVariables false
set_option linter.unusedSimpArgs false

theorem iv_cntrl (c : Int) : (c ≤ 31 ∧ (decide (c < 32) || c == 127) = true) ∨ (32 ≤ c ∧ (decide (c < 32) || c == 127) = (c == 127)) := by
  by_cases k0 : c ≤ 31
  · exact .inl ⟨k0, by simp; omega⟩
  · exact .inr ⟨by omega, by simp [show ¬ c < 32 from by omega]⟩
theorem iv_graph (c : Int) : ((33 ≤ c ∧ c ≤ 126) ∧ gr c = true) ∨ ((c < 33) ∧ gr c = false) ∨ ((126 < c) ∧ gr c = false) := by
  by_cases k0 : 33 ≤ c ∧ c ≤ 126
  · exact .inl ⟨k0, by rw [Bool.eq_iff_iff]; simp [gr, dg, lo, up] <;> omega⟩
  by_cases k1 : c < 33
  · exact .inr (.inl ⟨k1, by rw [Bool.eq_iff_iff]; simp [gr, dg, lo, up] <;> omega⟩)
  · exact .inr (.inr ⟨by omega, by rw [Bool.eq_iff_iff]; simp [gr, dg, lo, up] <;> omega⟩)
theorem iv_print (c : Int) : ((32 ≤ c ∧ c ≤ 126) ∧ (gr c || c == 32) = true) ∨ ((c < 32) ∧ (gr c || c == 32) = false) ∨ ((126 < c) ∧ (gr c || c == 32) = false) := by
  by_cases k0 : 32 ≤ c ∧ c ≤ 126
  · exact .inl ⟨k0, by rw [Bool.eq_iff_iff]; simp [gr, dg, lo, up] <;> omega⟩
  by_cases k1 : c < 32
  · exact .inr (.inl ⟨k1, by rw [Bool.eq_iff_iff]; simp [gr, dg, lo, up] <;> omega⟩)
  · exact .inr (.inr ⟨by omega, by rw [Bool.eq_iff_iff]; simp [gr, dg, lo, up] <;> omega⟩)
theorem iv_punct (c : Int) : ((c < 33) ∧ (gr c && !dg c && !lo c && !up c) = false) ∨ ((33 ≤ c ∧ c ≤ 47) ∧ (gr c && !dg c && !lo c && !up c) = true) ∨ ((47 < c ∧ c < 58) ∧ (gr c && !dg c && !lo c && !up c) = false) ∨ ((58 ≤ c ∧ c ≤ 64) ∧ (gr c && !dg c && !lo c && !up c) = true) ∨ ((64 < c ∧ c < 91) ∧ (gr c && !dg c && !lo c && !up c) = false) ∨ ((91 ≤ c ∧ c ≤ 96) ∧ (gr c && !dg c && !lo c && !up c) = true) ∨ ((96 < c ∧ c < 123) ∧ (gr c && !dg c && !lo c && !up c) = false) ∨ ((123 ≤ c ∧ c ≤ 126) ∧ (gr c && !dg c && !lo c && !up c) = true) ∨ ((126 < c) ∧ (gr c && !dg c && !lo c && !up c) = false) := by
  by_cases k0 : c < 33
  · exact .inl ⟨k0, by rw [Bool.eq_iff_iff]; simp [gr, dg, lo, up] <;> omega⟩
  by_cases k1 : 33 ≤ c ∧ c ≤ 47
  · exact .inr (.inl ⟨k1, by rw [Bool.eq_iff_iff]; simp [gr, dg, lo, up] <;> omega⟩)
  by_cases k2 : 47 < c ∧ c < 58
  · exact .inr (.inr (.inl ⟨k2, by rw [Bool.eq_iff_iff]; simp [gr, dg, lo, up] <;> omega⟩))
  by_cases k3 : 58 ≤ c ∧ c ≤ 64
  · exact .inr (.inr (.inr (.inl ⟨k3, by rw [Bool.eq_iff_iff]; simp [gr, dg, lo, up] <;> omega⟩)))
  by_cases k4 : 64 < c ∧ c < 91
  · exact .inr (.inr (.inr (.inr (.inl ⟨k4, by rw [Bool.eq_iff_iff]; simp [gr, dg, lo, up] <;> omega⟩))))
  by_cases k5 : 91 ≤ c ∧ c ≤ 96
  · exact .inr (.inr (.inr (.inr (.inr (.inl ⟨k5, by rw [Bool.eq_iff_iff]; simp [gr, dg, lo, up] <;> omega⟩)))))
  by_cases k6 : 96 < c ∧ c < 123
  · exact .inr (.inr (.inr (.inr (.inr (.inr (.inl ⟨k6, by rw [Bool.eq_iff_iff]; simp [gr, dg, lo, up] <;> omega⟩))))))
  by_cases k7 : 123 ≤ c ∧ c ≤ 126
  · exact .inr (.inr (.inr (.inr (.inr (.inr (.inr (.inl ⟨k7, by rw [Bool.eq_iff_iff]; simp [gr, dg, lo, up] <;> omega⟩)))))))
  · exact .inr (.inr (.inr (.inr (.inr (.inr (.inr (.inr ⟨by omega, by rw [Bool.eq_iff_iff]; simp [gr, dg, lo, up] <;> omega⟩)))))))
theorem iv_xdigit (c : Int) : ((97 ≤ c ∧ c ≤ 102) ∧ (dg c || (decide (97 ≤ c) && decide (c ≤ 102)) || (decide (65 ≤ c) && decide (c ≤ 70))) = true) ∨ ((102 < c) ∧ (dg c || (decide (97 ≤ c) && decide (c ≤ 102)) || (decide (65 ≤ c) && decide (c ≤ 70))) = dg c) ∨ ((70 < c ∧ c < 97) ∧ (dg c || (decide (97 ≤ c) && decide (c ≤ 102)) || (decide (65 ≤ c) && decide (c ≤ 70))) = dg c) ∨ ((65 ≤ c ∧ c ≤ 70) ∧ (dg c || (decide (97 ≤ c) && decide (c ≤ 102)) || (decide (65 ≤ c) && decide (c ≤ 70))) = true) ∨ ((c < 65) ∧ (dg c || (decide (97 ≤ c) && decide (c ≤ 102)) || (decide (65 ≤ c) && decide (c ≤ 70))) = dg c) := by
  by_cases k0 : 97 ≤ c ∧ c ≤ 102
  · exact .inl ⟨k0, by rw [Bool.eq_iff_iff]; simp [gr, dg, lo, up] <;> omega⟩
  by_cases k1 : 102 < c
  · exact .inr (.inl ⟨k1, by rw [Bool.eq_iff_iff]; simp [gr, dg, lo, up] <;> omega⟩)
  by_cases k2 : 70 < c ∧ c < 97
  · exact .inr (.inr (.inl ⟨k2, by rw [Bool.eq_iff_iff]; simp [gr, dg, lo, up] <;> omega⟩))
  by_cases k3 : 65 ≤ c ∧ c ≤ 70
  · exact .inr (.inr (.inr (.inl ⟨k3, by rw [Bool.eq_iff_iff]; simp [gr, dg, lo, up] <;> omega⟩)))
  · exact .inr (.inr (.inr (.inr ⟨by omega, by rw [Bool.eq_iff_iff]; simp [gr, dg, lo, up] <;> omega⟩)))

set_option maxRecDepth 100000 in
set_option maxHeartbeats 2000000 in
theorem zzClass_any (name : ByteArray) (c : Int) (m kn : Bool) (w : World) (h0 : 0 ≤ c) (h1 : c ≤ 255) (hm : m = (match cls (bl name) with | none => false | some C => C c)) (hk : kn = (cls (bl name)).isSome) :
    Calls Try.prog 19 #[.string name, .int .i64 c] w fun e w' => e = .returned (.tuple #[.bool m, .bool kn]) ∧ w = w' := by
  have HM : Hid (m = (match cls (bl name) with | none => false | some C => C c)) := hm
  have HK : Hid (kn = (cls (bl name)).isSome) := hk
  clear hm hk
  go_enter Try.func19, Try.ntmps19
  go_upto_region 1 with fail
  go_cut [6] from 9 to 14 (fun v wx => v = .bool (dg c) ∧ w = wx)
  case first =>
    by_cases a1 : 48 ≤ c
    · go_wp2_with fail
      go_meet
      exact ⟨by simp [dg, a1], rfl⟩
    · have a1' : decide (48 ≤ c) = false := decide_eq_false a1
      go_wp2_with fail
      go_meet
      exact ⟨by simp [dg, a1'], rfl⟩
  case rest =>
    obtain ⟨rfl, rfl⟩ := hcut
    go_upto_region 2 with fail
    go_cut [7] from 15 to 20 (fun u wx => u = .bool (up c) ∧ w = wx)
    case first =>
      by_cases a2 : 65 ≤ c
      · go_wp2_with fail
        go_meet
        exact ⟨by simp [up, a2], rfl⟩
      · have a2' : decide (65 ≤ c) = false := decide_eq_false a2
        go_wp2_with fail
        go_meet
        exact ⟨by simp [up, a2'], rfl⟩
    case rest =>
      obtain ⟨rfl, rfl⟩ := hcut
      go_upto_region 3 with fail
      go_cut [8] from 21 to 26 (fun v wx => v = .bool (lo c) ∧ w = wx)
      case first =>
        by_cases a1 : 97 ≤ c
        · go_wp2_with fail
          go_meet
          exact ⟨by simp [lo, a1], rfl⟩
        · have a1' : decide (97 ≤ c) = false := decide_eq_false a1
          go_wp2_with fail
          go_meet
          exact ⟨by simp [lo, a1'], rfl⟩
      case rest =>
        obtain ⟨rfl, rfl⟩ := hcut
        obtain ⟨d, hd⟩ : ∃ d, d = dg c := ⟨_, rfl⟩
        obtain ⟨l, hl⟩ : ∃ l, l = lo c := ⟨_, rfl⟩
        obtain ⟨u, hu⟩ : ∃ u, u = up c := ⟨_, rfl⟩
        rw [← hd, ← hl, ← hu]
        have HD : Hid (d = dg c) := hd
        have HLo : Hid (l = lo c) := hl
        have HU : Hid (u = up c) := hu
        clear hd hl hu
        by_cases n0 : (name.toList == [97, 108, 110, 117, 109]) = true
        · have HC : Hid (cls (bl name) = _) := cls_alnum (bl_name n0)
          have HK' : Hid (kn = true) := by show kn = true; rw [HK.out, HC.out]; rfl
          have HM' : Hid (m = (d || l || u)) := by show m = _; rw [HM.out, HC.out, HD.out, HLo.out, HU.out]
          clear HM HK HC HD HLo HU
          go_wp2_with fail
          all_goals (go_ret2; refine ⟨rt2 ?_ HK'.out.symm, rfl⟩; first | exact HM'.out.symm | (rw [HM'.out]; clear HM' HK'; go_light; first | (simp_all; done) | (simp_all; omega)))
        have m0 : (name.toList == [97, 108, 110, 117, 109]) = false := by simpa using n0
        clear n0
        by_cases n1 : (name.toList == [97, 108, 112, 104, 97]) = true
        · have HC : Hid (cls (bl name) = _) := cls_alpha (bl_name n1)
          have HK' : Hid (kn = true) := by show kn = true; rw [HK.out, HC.out]; rfl
          have HM' : Hid (m = (l || u)) := by show m = _; rw [HM.out, HC.out, HLo.out, HU.out]
          clear HM HK HC HD HLo HU
          go_wp2_with fail
          all_goals (go_ret2; refine ⟨rt2 ?_ HK'.out.symm, rfl⟩; first | exact HM'.out.symm | (rw [HM'.out]; clear HM' HK'; go_light; first | (simp_all; done) | (simp_all; omega)))
        have m1 : (name.toList == [97, 108, 112, 104, 97]) = false := by simpa using n1
        clear n1
        by_cases n2 : (name.toList == [98, 108, 97, 110, 107]) = true
        · have HC : Hid (cls (bl name) = _) := cls_blank (bl_name n2)
          have HK' : Hid (kn = true) := by show kn = true; rw [HK.out, HC.out]; rfl
          have HM' : Hid (m = (c == 32 || c == 9)) := by show m = _; rw [HM.out, HC.out]
          clear HM HK HC HD HLo HU
          go_wp2_with fail
          all_goals (go_ret2; refine ⟨rt2 ?_ HK'.out.symm, rfl⟩; first | exact HM'.out.symm | (rw [HM'.out]; clear HM' HK'; go_light; first | (simp_all; done) | (simp_all; omega)))
        have m2 : (name.toList == [98, 108, 97, 110, 107]) = false := by simpa using n2
        clear n2
        by_cases n3 : (name.toList == [99, 110, 116, 114, 108]) = true
        · have HC : Hid (cls (bl name) = _) := cls_cntrl (bl_name n3)
          have HK' : Hid (kn = true) := by show kn = true; rw [HK.out, HC.out]; rfl
          have HM0 : Hid (m = (decide (c < 32) || c == 127)) := by show m = _; rw [HM.out, HC.out]
          have hx := iv_cntrl c
          rw [← HM0.out] at hx
          clear HM0 HM HK HC HD HLo HU
          rcases hx with ⟨a0, x0⟩ | ⟨a1, x1⟩
          · have HM' : Hid (m = _) := x0
            clear x0
            all_goals go_wp2_with fail
            all_goals (go_ret2; exact ⟨rt2 HM'.out.symm HK'.out.symm, rfl⟩)
          · have HM' : Hid (m = _) := x1
            clear x1
            all_goals go_wp2_with fail
            all_goals (go_ret2; refine ⟨rt2 ?_ HK'.out.symm, rfl⟩; first | exact HM'.out.symm | (rw [HM'.out]; simp; omega))
        have m3 : (name.toList == [99, 110, 116, 114, 108]) = false := by simpa using n3
        clear n3
        by_cases n4 : (name.toList == [100, 105, 103, 105, 116]) = true
        · have HC : Hid (cls (bl name) = _) := cls_digit (bl_name n4)
          have HK' : Hid (kn = true) := by show kn = true; rw [HK.out, HC.out]; rfl
          have HM' : Hid (m = d) := by show m = _; rw [HM.out, HC.out, HD.out]
          clear HM HK HC HD HLo HU
          go_wp2_with fail
          all_goals (go_ret2; refine ⟨rt2 ?_ HK'.out.symm, rfl⟩; first | exact HM'.out.symm | (rw [HM'.out]; clear HM' HK'; go_light; first | (simp_all; done) | (simp_all; omega)))
        have m4 : (name.toList == [100, 105, 103, 105, 116]) = false := by simpa using n4
        clear n4
        by_cases n5 : (name.toList == [103, 114, 97, 112, 104]) = true
        · have HC : Hid (cls (bl name) = _) := cls_graph (bl_name n5)
          have HK' : Hid (kn = true) := by show kn = true; rw [HK.out, HC.out]; rfl
          have HM0 : Hid (m = gr c) := by show m = _; rw [HM.out, HC.out]
          have hx := iv_graph c
          rw [← HM0.out] at hx
          clear HM0 HM HK HC HD HLo HU
          rcases hx with ⟨⟨a0, b0⟩, x0⟩ | ⟨a1, x1⟩ | ⟨a2, x2⟩
          · have HM' : Hid (m = _) := x0
            clear x0
            all_goals go_wp2_with fail
            all_goals (go_ret2; refine ⟨rt2 ?_ HK'.out.symm, rfl⟩; first | exact HM'.out.symm | (rw [HM'.out]; simp; omega))
          · have HM' : Hid (m = _) := x1
            clear x1
            all_goals go_wp2_with fail
            all_goals (go_ret2; refine ⟨rt2 ?_ HK'.out.symm, rfl⟩; first | exact HM'.out.symm | (rw [HM'.out]; simp; omega))
          · have HM' : Hid (m = _) := x2
            clear x2
            all_goals go_wp2_with fail
            all_goals (go_ret2; refine ⟨rt2 ?_ HK'.out.symm, rfl⟩; first | exact HM'.out.symm | (rw [HM'.out]; simp; omega))
        have m5 : (name.toList == [103, 114, 97, 112, 104]) = false := by simpa using n5
        clear n5
        by_cases n6 : (name.toList == [108, 111, 119, 101, 114]) = true
        · have HC : Hid (cls (bl name) = _) := cls_lower (bl_name n6)
          have HK' : Hid (kn = true) := by show kn = true; rw [HK.out, HC.out]; rfl
          have HM' : Hid (m = l) := by show m = _; rw [HM.out, HC.out, HLo.out]
          clear HM HK HC HD HLo HU
          go_wp2_with fail
          all_goals (go_ret2; refine ⟨rt2 ?_ HK'.out.symm, rfl⟩; first | exact HM'.out.symm | (rw [HM'.out]; clear HM' HK'; go_light; first | (simp_all; done) | (simp_all; omega)))
        have m6 : (name.toList == [108, 111, 119, 101, 114]) = false := by simpa using n6
        clear n6
        by_cases n7 : (name.toList == [112, 114, 105, 110, 116]) = true
        · have HC : Hid (cls (bl name) = _) := cls_print (bl_name n7)
          have HK' : Hid (kn = true) := by show kn = true; rw [HK.out, HC.out]; rfl
          have HM0 : Hid (m = (gr c || c == 32)) := by show m = _; rw [HM.out, HC.out]
          have hx := iv_print c
          rw [← HM0.out] at hx
          clear HM0 HM HK HC HD HLo HU
          rcases hx with ⟨⟨a0, b0⟩, x0⟩ | ⟨a1, x1⟩ | ⟨a2, x2⟩
          · have HM' : Hid (m = _) := x0
            clear x0
            all_goals go_wp2_with fail
            all_goals (go_ret2; refine ⟨rt2 ?_ HK'.out.symm, rfl⟩; first | exact HM'.out.symm | (rw [HM'.out]; simp; omega))
          · have HM' : Hid (m = _) := x1
            clear x1
            all_goals go_wp2_with fail
            all_goals (go_ret2; refine ⟨rt2 ?_ HK'.out.symm, rfl⟩; first | exact HM'.out.symm | (rw [HM'.out]; simp; omega))
          · have HM' : Hid (m = _) := x2
            clear x2
            all_goals go_wp2_with fail
            all_goals (go_ret2; refine ⟨rt2 ?_ HK'.out.symm, rfl⟩; first | exact HM'.out.symm | (rw [HM'.out]; simp; omega))
        have m7 : (name.toList == [112, 114, 105, 110, 116]) = false := by simpa using n7
        clear n7
        by_cases n8 : (name.toList == [112, 117, 110, 99, 116]) = true
        · have HC : Hid (cls (bl name) = _) := cls_punct (bl_name n8)
          have HK' : Hid (kn = true) := by show kn = true; rw [HK.out, HC.out]; rfl
          have HM0 : Hid (m = (gr c && !dg c && !lo c && !up c)) := by show m = _; rw [HM.out, HC.out]
          have hx := iv_punct c
          rw [← HM0.out] at hx
          clear HM0 HM HK HC HD HLo HU
          rcases hx with ⟨a0, x0⟩ | ⟨⟨a1, b1⟩, x1⟩ | ⟨⟨a2, b2⟩, x2⟩ | ⟨⟨a3, b3⟩, x3⟩ | ⟨⟨a4, b4⟩, x4⟩ | ⟨⟨a5, b5⟩, x5⟩ | ⟨⟨a6, b6⟩, x6⟩ | ⟨⟨a7, b7⟩, x7⟩ | ⟨a8, x8⟩
          · have HM' : Hid (m = _) := x0
            clear x0
            all_goals go_wp2_with fail
            all_goals (go_ret2; refine ⟨rt2 ?_ HK'.out.symm, rfl⟩; first | exact HM'.out.symm | (rw [HM'.out]; simp; omega))
          · have HM' : Hid (m = _) := x1
            clear x1
            all_goals go_wp2_with fail
            all_goals (go_ret2; refine ⟨rt2 ?_ HK'.out.symm, rfl⟩; first | exact HM'.out.symm | (rw [HM'.out]; simp; omega))
          · have HM' : Hid (m = _) := x2
            clear x2
            all_goals go_wp2_with fail
            all_goals (go_ret2; refine ⟨rt2 ?_ HK'.out.symm, rfl⟩; first | exact HM'.out.symm | (rw [HM'.out]; simp; omega))
          · have HM' : Hid (m = _) := x3
            clear x3
            all_goals go_wp2_with fail
            all_goals (go_ret2; refine ⟨rt2 ?_ HK'.out.symm, rfl⟩; first | exact HM'.out.symm | (rw [HM'.out]; simp; omega))
          · have HM' : Hid (m = _) := x4
            clear x4
            all_goals go_wp2_with fail
            all_goals (go_ret2; refine ⟨rt2 ?_ HK'.out.symm, rfl⟩; first | exact HM'.out.symm | (rw [HM'.out]; simp; omega))
          · have HM' : Hid (m = _) := x5
            clear x5
            all_goals go_wp2_with fail
            all_goals (go_ret2; refine ⟨rt2 ?_ HK'.out.symm, rfl⟩; first | exact HM'.out.symm | (rw [HM'.out]; simp; omega))
          · have HM' : Hid (m = _) := x6
            clear x6
            all_goals go_wp2_with fail
            all_goals (go_ret2; refine ⟨rt2 ?_ HK'.out.symm, rfl⟩; first | exact HM'.out.symm | (rw [HM'.out]; simp; omega))
          · have HM' : Hid (m = _) := x7
            clear x7
            all_goals go_wp2_with fail
            all_goals (go_ret2; refine ⟨rt2 ?_ HK'.out.symm, rfl⟩; first | exact HM'.out.symm | (rw [HM'.out]; simp; omega))
          · have HM' : Hid (m = _) := x8
            clear x8
            all_goals go_wp2_with fail
            all_goals (go_ret2; refine ⟨rt2 ?_ HK'.out.symm, rfl⟩; first | exact HM'.out.symm | (rw [HM'.out]; simp; omega))
        have m8 : (name.toList == [112, 117, 110, 99, 116]) = false := by simpa using n8
        clear n8
        by_cases n9 : (name.toList == [115, 112, 97, 99, 101]) = true
        · have HC : Hid (cls (bl name) = _) := cls_space (bl_name n9)
          have HK' : Hid (kn = true) := by show kn = true; rw [HK.out, HC.out]; rfl
          have HM' : Hid (m = (c == 32 || c == 9 || c == 10 || c == 13)) := by show m = _; rw [HM.out, HC.out]
          clear HM HK HC HD HLo HU
          go_wp2_with fail
          all_goals (go_ret2; refine ⟨rt2 ?_ HK'.out.symm, rfl⟩; first | exact HM'.out.symm | (rw [HM'.out]; clear HM' HK'; go_light; first | (simp_all; done) | (simp_all; omega)))
        have m9 : (name.toList == [115, 112, 97, 99, 101]) = false := by simpa using n9
        clear n9
        by_cases n10 : (name.toList == [117, 112, 112, 101, 114]) = true
        · have HC : Hid (cls (bl name) = _) := cls_upper (bl_name n10)
          have HK' : Hid (kn = true) := by show kn = true; rw [HK.out, HC.out]; rfl
          have HM' : Hid (m = u) := by show m = _; rw [HM.out, HC.out, HU.out]
          clear HM HK HC HD HLo HU
          go_wp2_with fail
          all_goals (go_ret2; refine ⟨rt2 ?_ HK'.out.symm, rfl⟩; first | exact HM'.out.symm | (rw [HM'.out]; clear HM' HK'; go_light; first | (simp_all; done) | (simp_all; omega)))
        have m10 : (name.toList == [117, 112, 112, 101, 114]) = false := by simpa using n10
        clear n10
        by_cases n11 : (name.toList == [120, 100, 105, 103, 105, 116]) = true
        · have HC : Hid (cls (bl name) = _) := cls_xdigit (bl_name n11)
          have HK' : Hid (kn = true) := by show kn = true; rw [HK.out, HC.out]; rfl
          have HM0 : Hid (m = (dg c || (decide (97 ≤ c) && decide (c ≤ 102)) || (decide (65 ≤ c) && decide (c ≤ 70)))) := by show m = _; rw [HM.out, HC.out]
          have hx := iv_xdigit c
          rw [← HM0.out] at hx
          rw [← HD.out] at hx
          clear HM0 HM HK HC HD HLo HU
          rcases hx with ⟨⟨a0, b0⟩, x0⟩ | ⟨a1, x1⟩ | ⟨⟨a2, b2⟩, x2⟩ | ⟨⟨a3, b3⟩, x3⟩ | ⟨a4, x4⟩
          · have HM' : Hid (m = _) := x0
            clear x0
            cases d
            all_goals go_wp2_with fail
            all_goals (go_ret2; refine ⟨rt2 ?_ HK'.out.symm, rfl⟩; first | exact HM'.out.symm | (rw [HM'.out]; simp; omega))
          · have HM' : Hid (m = _) := x1
            clear x1
            cases d
            all_goals go_wp2_with fail
            all_goals (go_ret2; refine ⟨rt2 ?_ HK'.out.symm, rfl⟩; first | exact HM'.out.symm | (rw [HM'.out]; simp; omega))
          · have HM' : Hid (m = _) := x2
            clear x2
            cases d
            all_goals go_wp2_with fail
            all_goals (go_ret2; refine ⟨rt2 ?_ HK'.out.symm, rfl⟩; first | exact HM'.out.symm | (rw [HM'.out]; simp; omega))
          · have HM' : Hid (m = _) := x3
            clear x3
            cases d
            all_goals go_wp2_with fail
            all_goals (go_ret2; refine ⟨rt2 ?_ HK'.out.symm, rfl⟩; first | exact HM'.out.symm | (rw [HM'.out]; simp; omega))
          · have HM' : Hid (m = _) := x4
            clear x4
            cases d
            all_goals go_wp2_with fail
            all_goals (go_ret2; refine ⟨rt2 ?_ HK'.out.symm, rfl⟩; first | exact HM'.out.symm | (rw [HM'.out]; simp; omega))
        have m11 : (name.toList == [120, 100, 105, 103, 105, 116]) = false := by simpa using n11
        clear n11
        have HC : Hid (cls (bl name) = none) := cls_none (bl_not m0) (bl_not m1) (bl_not m2) (bl_not m3) (bl_not m4) (bl_not m5) (bl_not m6) (bl_not m7) (bl_not m8) (bl_not m9) (bl_not m10) (bl_not m11)
        have HM' : Hid (m = false) := by show m = false; rw [HM.out, HC.out]
        have HK' : Hid (kn = false) := by show kn = false; rw [HK.out, HC.out]; rfl
        clear HM HK HC HD HLo HU
        go_wp2_with fail
        go_ret2
        exact ⟨rt2 HM'.out.symm HK'.out.symm, rfl⟩
end Go.Proofs.Qxb6617323a
