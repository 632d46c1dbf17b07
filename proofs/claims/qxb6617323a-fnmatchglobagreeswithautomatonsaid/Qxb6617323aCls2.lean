/-
  THE WALK OF inClass.
-/
import Derived.Test.Qxb6617323aCls
namespace Go.Proofs.Qxb6617323a
open Go.RowKit Go.PlainAid
set_option linter.unusedVariables false

theorem rt2 {a b c d : Bool} (h1 : a = b) (h2 : c = d) : Ending.returned (.tuple #[.bool a, .bool c]) = .returned (.tuple #[.bool b, .bool d]) := by rw [h1, h2]
theorem toList_bl (s : ByteArray) : bl s = s.toList.map fun c => (c.toNat : Int) := by unfold bl; rw [Lib.toList_data]
theorem bl_name {s : ByteArray} {L : List UInt8} (h : (s.toList == L) = true) : bl s = L.map fun c => (c.toNat : Int) := by rw [toList_bl, beq_iff_eq.1 h]
theorem bl_not {s : ByteArray} {L : List UInt8} (h : (s.toList == L) = false) : bl s ≠ L.map fun c => (c.toNat : Int) := fun e => by
  rw [toList_bl] at e
  have h1 : s.toList = L := List.map_inj_right (fun x y hxy => UInt8.toNat_inj.1 (by omega)) |>.1 e
  rw [h1] at h
  simp at h
theorem cls_alnum {nm : List Int} (h : nm = [97, 108, 110, 117, 109]) : cls nm = some (fun c => dg c || lo c || up c) := by subst h; rfl
theorem cls_alpha {nm : List Int} (h : nm = [97, 108, 112, 104, 97]) : cls nm = some (fun c => lo c || up c) := by subst h; rfl
theorem cls_blank {nm : List Int} (h : nm = [98, 108, 97, 110, 107]) : cls nm = some (fun c => c == 32 || c == 9) := by subst h; rfl
theorem cls_cntrl {nm : List Int} (h : nm = [99, 110, 116, 114, 108]) : cls nm = some (fun c => decide (c < 32) || c == 127) := by subst h; rfl
theorem cls_digit {nm : List Int} (h : nm = [100, 105, 103, 105, 116]) : cls nm = some (dg) := by subst h; rfl
theorem cls_graph {nm : List Int} (h : nm = [103, 114, 97, 112, 104]) : cls nm = some (gr) := by subst h; rfl
theorem cls_lower {nm : List Int} (h : nm = [108, 111, 119, 101, 114]) : cls nm = some (lo) := by subst h; rfl
theorem cls_print {nm : List Int} (h : nm = [112, 114, 105, 110, 116]) : cls nm = some (fun c => gr c || c == 32) := by subst h; rfl
theorem cls_punct {nm : List Int} (h : nm = [112, 117, 110, 99, 116]) : cls nm = some (fun c => gr c && !dg c && !lo c && !up c) := by subst h; rfl
theorem cls_space {nm : List Int} (h : nm = [115, 112, 97, 99, 101]) : cls nm = some (fun c => c == 32 || c == 9 || c == 10 || c == 13) := by subst h; rfl
theorem cls_upper {nm : List Int} (h : nm = [117, 112, 112, 101, 114]) : cls nm = some (up) := by subst h; rfl
theorem cls_xdigit {nm : List Int} (h : nm = [120, 100, 105, 103, 105, 116]) : cls nm = some (fun c => dg c || (decide (97 ≤ c) && decide (c ≤ 102)) || (decide (65 ≤ c) && decide (c ≤ 70))) := by subst h; rfl
theorem cls_none {nm : List Int} (h0 : nm ≠ [97, 108, 110, 117, 109]) (h1 : nm ≠ [97, 108, 112, 104, 97]) (h2 : nm ≠ [98, 108, 97, 110, 107]) (h3 : nm ≠ [99, 110, 116, 114, 108]) (h4 : nm ≠ [100, 105, 103, 105, 116]) (h5 : nm ≠ [103, 114, 97, 112, 104]) (h6 : nm ≠ [108, 111, 119, 101, 114]) (h7 : nm ≠ [112, 114, 105, 110, 116]) (h8 : nm ≠ [112, 117, 110, 99, 116]) (h9 : nm ≠ [115, 112, 97, 99, 101]) (h10 : nm ≠ [117, 112, 112, 101, 114]) (h11 : nm ≠ [120, 100, 105, 103, 105, 116]) : cls nm = none := by
  unfold cls
  rw [if_neg h0, if_neg h1, if_neg h2, if_neg h3, if_neg h4, if_neg h5, if_neg h6, if_neg h7, if_neg h8, if_neg h9, if_neg h10, if_neg h11]
set_option maxHeartbeats 1000000 in
theorem inClass_any (name : ByteArray) (c : Int) (m kn : Bool) (w : World) (h0 : 0 ≤ c) (h1 : c ≤ 255) (hm : m = (match cls (bl name) with | none => false | some C => C c)) (hk : kn = (cls (bl name)).isSome) :
    Calls Try.prog 24 #[.string name, .int .u8 c] w fun e w' => e = .returned (.tuple #[.bool m, .bool kn]) ∧ w = w' := by
  have HM : Hid (m = (match cls (bl name) with | none => false | some C => C c)) := hm
  have HK : Hid (kn = (cls (bl name)).isSome) := hk
  clear hm hk
  go_enter Try.func24, Try.ntmps24
  go_upto_region 1 with fail
  go_cut [6] from 10 to 15 (fun v wx => v = .bool (dg c) ∧ w = wx)
  case first =>
    by_cases a1 : 48 ≤ c
    · go_wp2_with fail
      go_meet
      exact ⟨by simp [dg, a1], rfl⟩
    · have a1' : decide (48 ≤ c) = false := decide_eq_false a1
      go_wp2_with fail
      go_meet
      exact ⟨by simp [dg, a1'], rfl⟩
  case rest =>
    obtain ⟨rfl, rfl⟩ := hcut
    go_upto_region 2 with fail
    go_cut [7, 8] from 16 to 27 (fun v u wx => v = .bool (lo c) ∧ u = .bool (up c) ∧ w = wx)
    case first =>
      by_cases a1 : 97 ≤ c
      · have a2 : 65 ≤ c := by omega
        go_wp2_with fail
        go_meet
        exact ⟨by simp [lo, a1], by simp [up, a2], rfl⟩
      · have a1' : decide (97 ≤ c) = false := decide_eq_false a1
        by_cases a2 : 65 ≤ c
        · go_wp2_with fail
          go_meet
          exact ⟨by simp [lo, a1'], by simp [up, a2], rfl⟩
        · have a2' : decide (65 ≤ c) = false := decide_eq_false a2
          go_wp2_with fail
          go_meet
          exact ⟨by simp [lo, a1'], by simp [up, a2'], rfl⟩
    case rest =>
      obtain ⟨rfl, rfl, rfl⟩ := hcut
      go_upto_region 3 with fail
      go_cut [9] from 28 to 33 (fun v wx => v = .bool (gr c) ∧ w = wx)
      case first =>
        by_cases a1 : 33 ≤ c
        · go_wp2_with fail
          go_meet
          exact ⟨by simp [gr, a1], rfl⟩
        · have a1' : decide (33 ≤ c) = false := decide_eq_false a1
          go_wp2_with fail
          go_meet
          exact ⟨by simp [gr, a1'], rfl⟩
      case rest =>
        obtain ⟨rfl, rfl⟩ := hcut
        obtain ⟨d, hd⟩ : ∃ d, d = dg c := ⟨_, rfl⟩
        obtain ⟨l, hl⟩ : ∃ l, l = lo c := ⟨_, rfl⟩
        obtain ⟨u, hu⟩ : ∃ u, u = up c := ⟨_, rfl⟩
        obtain ⟨g, hg⟩ : ∃ g, g = gr c := ⟨_, rfl⟩
        rw [← hd, ← hl, ← hu, ← hg]
        have HD : Hid (d = dg c) := hd
        have HLo : Hid (l = lo c) := hl
        have HU : Hid (u = up c) := hu
        have HG : Hid (g = gr c) := hg
        clear hd hl hu hg
        by_cases n0 : (name.toList == [97, 108, 110, 117, 109]) = true
        · have HC : Hid (cls (bl name) = _) := cls_alnum (bl_name n0)
          have HM' : Hid (m = (d || l || u)) := by show m = _; rw [HM.out, HC.out, HD.out, HLo.out, HU.out]
          have HK' : Hid (kn = true) := by show kn = true; rw [HK.out, HC.out]; rfl
          clear HM HK HC HD HLo HU HG
          go_wp2_with fail
          all_goals (go_ret2; refine ⟨rt2 ?_ HK'.out.symm, rfl⟩; first | exact HM'.out.symm | (rw [HM'.out]; clear HM' HK'; go_light; first | (simp_all; done) | (simp_all; omega)))
        have m0 : (name.toList == [97, 108, 110, 117, 109]) = false := by simpa using n0
        clear n0
        by_cases n1 : (name.toList == [97, 108, 112, 104, 97]) = true
        · have HC : Hid (cls (bl name) = _) := cls_alpha (bl_name n1)
          have HM' : Hid (m = (l || u)) := by show m = _; rw [HM.out, HC.out, HLo.out, HU.out]
          have HK' : Hid (kn = true) := by show kn = true; rw [HK.out, HC.out]; rfl
          clear HM HK HC HD HLo HU HG
          go_wp2_with fail
          all_goals (go_ret2; refine ⟨rt2 ?_ HK'.out.symm, rfl⟩; first | exact HM'.out.symm | (rw [HM'.out]; clear HM' HK'; go_light; first | (simp_all; done) | (simp_all; omega)))
        have m1 : (name.toList == [97, 108, 112, 104, 97]) = false := by simpa using n1
        clear n1
        by_cases n2 : (name.toList == [98, 108, 97, 110, 107]) = true
        · have HC : Hid (cls (bl name) = _) := cls_blank (bl_name n2)
          have HM' : Hid (m = (c == 32 || c == 9)) := by show m = _; rw [HM.out, HC.out]
          have HK' : Hid (kn = true) := by show kn = true; rw [HK.out, HC.out]; rfl
          clear HM HK HC HD HLo HU HG
          go_wp2_with fail
          all_goals (go_ret2; refine ⟨rt2 ?_ HK'.out.symm, rfl⟩; first | exact HM'.out.symm | (rw [HM'.out]; clear HM' HK'; go_light; first | (simp_all; done) | (simp_all; omega)))
        have m2 : (name.toList == [98, 108, 97, 110, 107]) = false := by simpa using n2
        clear n2
        by_cases n3 : (name.toList == [99, 110, 116, 114, 108]) = true
        · have HC : Hid (cls (bl name) = _) := cls_cntrl (bl_name n3)
          have HM' : Hid (m = (decide (c < 32) || c == 127)) := by show m = _; rw [HM.out, HC.out]
          have HK' : Hid (kn = true) := by show kn = true; rw [HK.out, HC.out]; rfl
          clear HM HK HC HD HLo HU HG
          go_wp2_with fail
          all_goals (go_ret2; refine ⟨rt2 ?_ HK'.out.symm, rfl⟩; first | exact HM'.out.symm | (rw [HM'.out]; clear HM' HK'; go_light; first | (simp_all; done) | (simp_all; omega)))
        have m3 : (name.toList == [99, 110, 116, 114, 108]) = false := by simpa using n3
        clear n3
        by_cases n4 : (name.toList == [100, 105, 103, 105, 116]) = true
        · have HC : Hid (cls (bl name) = _) := cls_digit (bl_name n4)
          have HM' : Hid (m = d) := by show m = _; rw [HM.out, HC.out, HD.out]
          have HK' : Hid (kn = true) := by show kn = true; rw [HK.out, HC.out]; rfl
          clear HM HK HC HD HLo HU HG
          go_wp2_with fail
          all_goals (go_ret2; refine ⟨rt2 ?_ HK'.out.symm, rfl⟩; first | exact HM'.out.symm | (rw [HM'.out]; clear HM' HK'; go_light; first | (simp_all; done) | (simp_all; omega)))
        have m4 : (name.toList == [100, 105, 103, 105, 116]) = false := by simpa using n4
        clear n4
        by_cases n5 : (name.toList == [103, 114, 97, 112, 104]) = true
        · have HC : Hid (cls (bl name) = _) := cls_graph (bl_name n5)
          have HM' : Hid (m = g) := by show m = _; rw [HM.out, HC.out, HG.out]
          have HK' : Hid (kn = true) := by show kn = true; rw [HK.out, HC.out]; rfl
          clear HM HK HC HD HLo HU HG
          go_wp2_with fail
          all_goals (go_ret2; refine ⟨rt2 ?_ HK'.out.symm, rfl⟩; first | exact HM'.out.symm | (rw [HM'.out]; clear HM' HK'; go_light; first | (simp_all; done) | (simp_all; omega)))
        have m5 : (name.toList == [103, 114, 97, 112, 104]) = false := by simpa using n5
        clear n5
        by_cases n6 : (name.toList == [108, 111, 119, 101, 114]) = true
        · have HC : Hid (cls (bl name) = _) := cls_lower (bl_name n6)
          have HM' : Hid (m = l) := by show m = _; rw [HM.out, HC.out, HLo.out]
          have HK' : Hid (kn = true) := by show kn = true; rw [HK.out, HC.out]; rfl
          clear HM HK HC HD HLo HU HG
          go_wp2_with fail
          all_goals (go_ret2; refine ⟨rt2 ?_ HK'.out.symm, rfl⟩; first | exact HM'.out.symm | (rw [HM'.out]; clear HM' HK'; go_light; first | (simp_all; done) | (simp_all; omega)))
        have m6 : (name.toList == [108, 111, 119, 101, 114]) = false := by simpa using n6
        clear n6
        by_cases n7 : (name.toList == [112, 114, 105, 110, 116]) = true
        · have HC : Hid (cls (bl name) = _) := cls_print (bl_name n7)
          have HM' : Hid (m = (g || c == 32)) := by show m = _; rw [HM.out, HC.out, HG.out]
          have HK' : Hid (kn = true) := by show kn = true; rw [HK.out, HC.out]; rfl
          clear HM HK HC HD HLo HU HG
          go_wp2_with fail
          all_goals (go_ret2; refine ⟨rt2 ?_ HK'.out.symm, rfl⟩; first | exact HM'.out.symm | (rw [HM'.out]; clear HM' HK'; go_light; first | (simp_all; done) | (simp_all; omega)))
        have m7 : (name.toList == [112, 114, 105, 110, 116]) = false := by simpa using n7
        clear n7
        by_cases n8 : (name.toList == [112, 117, 110, 99, 116]) = true
        · have HC : Hid (cls (bl name) = _) := cls_punct (bl_name n8)
          have HM' : Hid (m = (g && !d && !l && !u)) := by show m = _; rw [HM.out, HC.out, HG.out, HD.out, HLo.out, HU.out]
          have HK' : Hid (kn = true) := by show kn = true; rw [HK.out, HC.out]; rfl
          clear HM HK HC HD HLo HU HG
          go_wp2_with fail
          all_goals (go_ret2; refine ⟨rt2 ?_ HK'.out.symm, rfl⟩; first | exact HM'.out.symm | (rw [HM'.out]; clear HM' HK'; go_light; first | (simp_all; done) | (simp_all; omega)))
        have m8 : (name.toList == [112, 117, 110, 99, 116]) = false := by simpa using n8
        clear n8
        by_cases n9 : (name.toList == [115, 112, 97, 99, 101]) = true
        · have HC : Hid (cls (bl name) = _) := cls_space (bl_name n9)
          have HM' : Hid (m = (c == 32 || c == 9 || c == 10 || c == 13)) := by show m = _; rw [HM.out, HC.out]
          have HK' : Hid (kn = true) := by show kn = true; rw [HK.out, HC.out]; rfl
          clear HM HK HC HD HLo HU HG
          go_wp2_with fail
          all_goals (go_ret2; refine ⟨rt2 ?_ HK'.out.symm, rfl⟩; first | exact HM'.out.symm | (rw [HM'.out]; clear HM' HK'; go_light; first | (simp_all; done) | (simp_all; omega)))
        have m9 : (name.toList == [115, 112, 97, 99, 101]) = false := by simpa using n9
        clear n9
        by_cases n10 : (name.toList == [117, 112, 112, 101, 114]) = true
        · have HC : Hid (cls (bl name) = _) := cls_upper (bl_name n10)
          have HM' : Hid (m = u) := by show m = _; rw [HM.out, HC.out, HU.out]
          have HK' : Hid (kn = true) := by show kn = true; rw [HK.out, HC.out]; rfl
          clear HM HK HC HD HLo HU HG
          go_wp2_with fail
          all_goals (go_ret2; refine ⟨rt2 ?_ HK'.out.symm, rfl⟩; first | exact HM'.out.symm | (rw [HM'.out]; clear HM' HK'; go_light; first | (simp_all; done) | (simp_all; omega)))
        have m10 : (name.toList == [117, 112, 112, 101, 114]) = false := by simpa using n10
        clear n10
        by_cases n11 : (name.toList == [120, 100, 105, 103, 105, 116]) = true
        · have HC : Hid (cls (bl name) = _) := cls_xdigit (bl_name n11)
          have HM' : Hid (m = (d || (decide (97 ≤ c) && decide (c ≤ 102)) || (decide (65 ≤ c) && decide (c ≤ 70)))) := by show m = _; rw [HM.out, HC.out, HD.out]
          have HK' : Hid (kn = true) := by show kn = true; rw [HK.out, HC.out]; rfl
          clear HM HK HC HD HLo HU HG
          have hx : (97 ≤ c ∧ c ≤ 102 ∧ m = true) ∨ (102 < c ∧ m = d) ∨ (70 < c ∧ c < 97 ∧ m = d) ∨ (65 ≤ c ∧ c ≤ 70 ∧ m = true) ∨ (c < 65 ∧ m = d) := by
            have e := HM'.out
            by_cases x1 : 97 ≤ c <;> by_cases x2 : c ≤ 102 <;> by_cases x3 : 65 ≤ c <;> by_cases x4 : c ≤ 70 <;> simp [x1, x2, x3, x4] at e <;> simp [e] <;> omega
          clear HM'
          rcases hx with ⟨x1, x2, x3⟩ | ⟨x1, x3⟩ | ⟨x1, x2, x3⟩ | ⟨x1, x2, x3⟩ | ⟨x1, x3⟩
          all_goals (have HM' : Hid (_ = _) := x3; clear x3; cases d)
          all_goals go_wp2_with fail
          all_goals (go_ret2; refine ⟨rt2 ?_ HK'.out.symm, rfl⟩; first | exact HM'.out.symm | (rw [HM'.out]; simp; omega))
        have m11 : (name.toList == [120, 100, 105, 103, 105, 116]) = false := by simpa using n11
        clear n11
        have HC : Hid (cls (bl name) = none) := cls_none (bl_not m0) (bl_not m1) (bl_not m2) (bl_not m3) (bl_not m4) (bl_not m5) (bl_not m6) (bl_not m7) (bl_not m8) (bl_not m9) (bl_not m10) (bl_not m11)
        have HM' : Hid (m = false) := by show m = false; rw [HM.out, HC.out]
        have HK' : Hid (kn = false) := by show kn = false; rw [HK.out, HC.out]; rfl
        clear HM HK HC HD HLo HU HG
        go_wp2_with fail
        go_ret2
        exact ⟨rt2 HM'.out.symm HK'.out.symm, rfl⟩
end Go.Proofs.Qxb6617323a
