/-
  THE WALKS OF className, inClass.
-/
import Derived.Test.Qxb6617323aMatch
import Derived.Test.Qxb6617323aTok
import Derived.Lib.Strings
namespace Go.Proofs.Qxb6617323a
open Go.RowKit Go.PlainAid
set_option linter.unusedVariables false

theorem bl_ext (s : ByteArray) (a b : Nat) : bl (s.extract a b) = ((bl s).drop a).take (b - a) := by
  unfold bl
  rw [Lib.extract_data, List.map_take, List.map_drop]

/-- className: the loop; three endings. -/
theorem className_any (glob : ByteArray) (fr K : Nat) (R : Value) (w : World) (hg : glob.size ≤ 1048576) (hf : fr ≤ glob.size) (hK : K = nxtB (bl glob) fr)
    (hR : (K = glob.size ∧ R = .tuple #[.string ⟨#[]⟩, .int .i64 0, .bool false]) ∨
      (K < glob.size ∧ ¬ (fr < K ∧ bt glob (K - 1) = 58) ∧ R = .tuple #[.string ⟨#[]⟩, .int .i64 (-1), .bool true]) ∨
      (K < glob.size ∧ (fr < K ∧ bt glob (K - 1) = 58) ∧ R = .tuple #[.string (glob.extract fr (K - 1)), .int .i64 K, .bool true])) :
    Calls Try.prog 23 #[.string glob, .int .i64 fr] w fun e w' => e = .returned R ∧ w = w' := by
  have hb := get_bt glob
  have HL : Hid ((bl glob).length = glob.size) := bl_length glob
  have HK : Hid (K = nxtB (bl glob) fr) := hK
  have hKf : fr ≤ K := by rw [hK]; exact nxtB_ge _ _
  have hKl : K ≤ glob.size := by rw [hK, ← HL.out]; exact nxtB_le _ _ (by rw [HL.out]; exact hf)
  have HR : Hid ((K = glob.size ∧ R = .tuple #[.string ⟨#[]⟩, .int .i64 0, .bool false]) ∨
      (K < glob.size ∧ ¬ (fr < K ∧ bt glob (K - 1) = 58) ∧ R = .tuple #[.string ⟨#[]⟩, .int .i64 (-1), .bool true]) ∨
      (K < glob.size ∧ (fr < K ∧ bt glob (K - 1) = 58) ∧ R = .tuple #[.string (glob.extract fr (K - 1)), .int .i64 K, .bool true])) := hR
  clear hK hR
  go_enter Try.func23, Try.ntmps23
  go_wp2
  go_loop [7] (fun v => ∃ k : Nat, v = .int .i64 k ∧ fr ≤ k ∧ k ≤ glob.size ∧ nxtB (bl glob) k = K) (fun v => glob.size - (intOf v).toNat)
  case atStart => exact ⟨fr, rfl, Nat.le_refl _, hf, HK.out.symm⟩
  case round =>
    obtain ⟨k, rfl, hk1, hk2, hrel⟩ := hrel
    have HRL : Hid (nxtB (bl glob) k = K) := hrel
    clear hrel
    by_cases hkl : k < glob.size ∧ bt glob k ≠ 93
    · obtain ⟨h1, h2⟩ := hkl
      have h1z : (k : Int) < (glob.size : Int) := by omega
      have h2b : (bt glob k != 93) = true := by simpa using h2
      have HN : Hid (nxtB (bl glob) (k + 1) = K) := (nxtB_step (by rw [HL.out]; exact h1) (by rw [← bt_bl]; exact h2)).symm.trans HRL.out
      clear h2
      go_wp2
      go_round
      case rel => exact ⟨k + 1, by go_num, by omega, by omega, HN.out⟩
      case measure => simp [intOf]; omega
    · have hkK : K = k := by
        rw [← HRL.out]
        by_cases h1 : k < glob.size
        · have h2 : bt glob k = 93 := by
            by_cases e : bt glob k = 93
            · exact e
            · exact absurd ⟨h1, e⟩ hkl
          exact nxtB_stop (by rw [HL.out]; exact h1) (by rw [← bt_bl]; exact h2)
        · exact nxtB_end (by rw [HL.out]; omega)
      subst hkK
      clear HK HRL
      rcases HR.out with ⟨h1, rfl⟩ | ⟨h1, h2, rfl⟩ | ⟨h1, ⟨h2, h3⟩, rfl⟩
      · have h1z : decide ((K : Int) < (glob.size : Int)) = false := decide_eq_false (by omega)
        have h3b : ((K : Int) == (glob.size : Int)) = true := beq_iff_eq.2 (by omega)
        clear hkl h1 HR
        go_wp2
        go_ret3
        exact ⟨rfl, rfl⟩
      · have h1z : (K : Int) < (glob.size : Int) := by omega
        have h2b : (bt glob K != 93) = false := by
          have : bt glob K = 93 := by
            by_cases e : bt glob K = 93
            · exact e
            · exact absurd ⟨h1, e⟩ hkl
          rw [this]; rfl
        have h3b : ((K : Int) == (glob.size : Int)) = false := beq_eq_false_iff_ne.2 (by omega)
        by_cases h4 : fr = K
        · have h4b : ((K : Int) == (fr : Int)) = true := beq_iff_eq.2 (by omega)
          clear hkl h4 h2 HR
          go_wp2
          go_ret3
          exact ⟨rfl, rfl⟩
        · have h4b : ((K : Int) == (fr : Int)) = false := beq_eq_false_iff_ne.2 (by omega)
          have h5z : (1 : Int) ≤ (K : Int) := by omega
          have h7b : (bt glob (K - 1) != 58) = true := by
            have : bt glob (K - 1) ≠ 58 := fun e => h2 ⟨by omega, e⟩
            simpa using this
          clear hkl h4 h2 HR
          go_wp2
          go_ret3
          exact ⟨rfl, rfl⟩
      · have h1z : (K : Int) < (glob.size : Int) := by omega
        have h2b : (bt glob K != 93) = false := by
          have : bt glob K = 93 := by
            by_cases e : bt glob K = 93
            · exact e
            · exact absurd ⟨h1, e⟩ hkl
          rw [this]; rfl
        have h3b : ((K : Int) == (glob.size : Int)) = false := beq_eq_false_iff_ne.2 (by omega)
        have h4b : ((K : Int) == (fr : Int)) = false := beq_eq_false_iff_ne.2 (by omega)
        have h5z : (1 : Int) ≤ (K : Int) := by omega
        have h6z : (fr : Int) ≤ (K : Int) - 1 := by omega
        have h7b : (bt glob (K - 1) != 58) = false := by rw [h3]; rfl
        clear hkl h3 HR
        go_wp2
        go_ret3
        exact ⟨rfl, rfl⟩
end Go.Proofs.Qxb6617323a
