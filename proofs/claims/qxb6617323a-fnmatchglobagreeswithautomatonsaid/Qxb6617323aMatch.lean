/-
  THE WALK OF matchGlob, over whatever tokens.
-/
import Derived.Test.Qxb6617323aRows
import Derived.Test.Qxb6617323aGlob
import Derived.WalkKit
import Derived.WalkSpells
import Derived.WalkLawsBesides
import Derived.Deep.QuietTactic
import Derived.BigQuiet
import Derived.Deep.CutBlock
import Derived.Deep.DeepCutAuto
import Derived.Deep.LoopGhost
import Derived.Deep.Light
namespace Go.Proofs.Qxb6617323a
open Go.RowKit Go.PlainAid
set_option linter.unusedVariables false

theorem rt_int {k : IntKind} {a b : Int} (h : a = b) : Ending.returned (.int k a) = .returned (.int k b) := by rw [h]
theorem rt_bool {a b : Bool} (h : a = b) : Ending.returned (.bool a) = .returned (.bool b) := by rw [h]

/-- What the glob bears at place g: one token, and the place behind it. -/
def Step (glob : ByteArray) (T : Nat → List Tok) (Good : Nat → Prop) (g : Nat) : Prop :=
  (bt glob g = 42 ∧ T g = none :: T (g + 1) ∧ Good (g + 1)) ∨
  (bt glob g = 63 ∧ T g = some (fun _ => true) :: T (g + 1) ∧ Good (g + 1)) ∨
  (bt glob g = 92 ∧ g + 1 < glob.size ∧ T g = some (fun c => bt glob (g + 1) == c) :: T (g + 2) ∧ Good (g + 2)) ∨
  (bt glob g = 91 ∧ ∃ S rest, T g = some S :: rest ∧ ∀ c, 0 ≤ c → c ≤ 255 → ∃ (e : Int) (ok : Bool),
      (∀ w, Calls Try.prog 18 #[.string glob, .int .i64 g, .int .u8 c] w fun e' w' => e' = .returned (.tuple #[.bool (S c), .int .i64 e, .bool ok]) ∧ Below w.heap.size w w') ∧
      (S c = true → ∃ en : Nat, e = en ∧ rest = T en ∧ Good en ∧ g < en)) ∨
  (bt glob g ≠ 42 ∧ bt glob g ≠ 63 ∧ bt glob g ≠ 92 ∧ bt glob g ≠ 91 ∧ T g = some (fun c => bt glob g == c) :: T (g + 1) ∧ Good (g + 1))

def meas (G N g t : Nat) : Nat := (N - t) * (G + 1) + (G - g)
theorem meas_g {G N g g' t t' : Nat} (h1 : g < g') (h2 : g' ≤ G) (h3 : t ≤ t') : meas G N g' t' < meas G N g t := by
  unfold meas
  have : (N - t') * (G + 1) ≤ (N - t) * (G + 1) := Nat.mul_le_mul_right _ (by omega)
  omega
theorem meas_t {G N g g' t : Nat} (h1 : t < N) : meas G N g' (t + 1) < meas G N g t := by
  unfold meas
  have e : N - t = (N - (t + 1)) + 1 := by omega
  rw [e, Nat.add_mul]
  omega

set_option maxRecDepth 100000 in
set_option maxHeartbeats 1000000 in
theorem match_any (glob name : ByteArray) (T : Nat → List Tok) (Good : Nat → Prop) (w : World) (hg : glob.size ≤ 1048576) (hn : name.size ≤ 1048576)
    (h0 : Good 0) (hle : ∀ g, Good g → g ≤ glob.size) (hend : T glob.size = []) (hstep : ∀ g, Good g → g < glob.size → Step glob T Good g) :
    Calls Try.prog 20 #[.string glob, .string name] w fun e w' => e = .returned (.bool (M (T 0) (bl name))) ∧ Below w.heap.size w w' := by
  obtain ⟨A, hA⟩ : ∃ A, A = M (T 0) (bl name) := ⟨_, rfl⟩
  have HI0 : Hid (Inv T (bl name) A 0 0 (-1) 0) := by rw [hA]; exact inv_start T (bl name)
  rw [← hA]
  clear hA
  have hbg := get_bt glob
  have hbn := get_bt name
  have HLN : Hid ((bl name).length = name.size) := bl_length name
  have HG0 : Hid (Good 0) := h0
  have HLE : Hid (∀ g, Good g → g ≤ glob.size) := hle
  have HEND : Hid (T glob.size = []) := hend
  have HST : Hid (∀ g, Good g → g < glob.size → Step glob T Good g) := hstep
  clear h0 hle hend hstep
  go_enter Try.func20, Try.ntmps20
  go_wp2
  go_loopg [5, 6, 7, 8] (meas glob.size name.size 0 0) (fun m g n s t wr => ∃ (gi ni ti : Nat) (si : Int), m = meas glob.size name.size gi ti ∧ g = .int .i64 gi ∧ n = .int .i64 ni ∧ s = .int .i64 si ∧ t = .int .i64 ti ∧
      Good gi ∧ (∀ st : Nat, si = st → Good st) ∧ Inv T (bl name) A gi ni si ti ∧ Below w.heap.size w wr)
  case atStart => exact ⟨0, 0, 0, -1, rfl, rfl, rfl, rfl, rfl, HG0.out, fun st h => absurd h (by omega), HI0.out, Below.refl _ _⟩
  case round =>
    obtain ⟨gi, ni, ti, si, rfl, rfl, rfl, rfl, rfl, hgood, hstg, hinv, hbel⟩ := hrel
    have HGD : Hid (Good gi) := hgood
    have HSG : Hid (∀ st : Nat, si = st → Good st) := hstg
    have HI : Hid (Inv T (bl name) A gi ni si ti) := hinv
    have HB : Hid (Below w.heap.size w wr) := hbel
    have hgG := HLE.out gi hgood
    have hsi : -1 ≤ si := by rcases inv_st hinv with h | ⟨st, h⟩ <;> omega
    have hsG : si ≤ (glob.size : Int) := by
      rcases inv_st hinv with h | ⟨st, h⟩
      · omega
      · have := HLE.out st (hstg st h); omega
    have hnN : ni ≤ name.size := by have := (inv_le hinv).1; rwa [HLN.out] at this
    have htn : ti ≤ ni := (inv_le hinv).2
    clear hgood hstg hinv hbel HI0 HG0
    by_cases hcont : gi < glob.size ∨ ni < name.size
    · go_upto_region 3 with fail
      go_cut [21] from 12 to 20 (fun v wx => v = .bool true ∧ wr = wx)
      case first =>
        by_cases h1 : gi < glob.size
        · have h1z : (gi : Int) < (glob.size : Int) := by omega
          go_wp2_with fail
          go_meet
          exact ⟨rfl, rfl⟩
        · have h1z : decide ((gi : Int) < (glob.size : Int)) = false := decide_eq_false (by omega)
          have h2z : (ni : Int) < (name.size : Int) := by omega
          go_wp2_with fail
          go_meet
          exact ⟨rfl, rfl⟩
      case rest =>
        obtain ⟨rfl, rfl⟩ := hcut
        go_upto_if 25 with fail
        go_cut [5, 6, 7, 8, 9, 10, 11] from 22 to 111 (fun v5 v6 v7 v8 _ _ _ wx => v5 = .int .i64 gi ∧ v6 = .int .i64 ni ∧ v7 = .int .i64 si ∧ v8 = .int .i64 ti ∧ M (T gi) ((bl name).drop ni) = false ∧ Below w.heap.size w wx)
        case first =>
          by_cases hlt : gi < glob.size
          · have hltz : (gi : Int) < (glob.size : Int) := by omega
            rcases HST.out gi HGD.out hlt with ⟨y, hT, hg1⟩ | ⟨y, hT, hg1⟩ | ⟨y, hl1, hT, hg1⟩ | ⟨y, S, rest, hT, hbr⟩ | ⟨y1, y2, y3, y4, hT, hg1⟩
            · -- '*'
              have b1 : (bt glob gi == 42) = true := by rw [y]; rfl
              have HY : Hid (bt glob gi = 42) := y
              have HT : Hid (T gi = none :: T (gi + 1)) := hT
              have HG1 : Hid (Good (gi + 1)) := hg1
              clear y hT hg1
              go_wp2_with fail
              go_loop [5] (fun v => ∃ k : Nat, v = .int .i64 k ∧ k ≤ glob.size ∧ Good k ∧ (k = gi ∨ gi < k ∧ M (T gi) = starF (M (T k)))) (fun v => glob.size - (intOf v).toNat)
              case atStart => exact ⟨gi, rfl, hgG, HGD.out, .inl rfl⟩
              case round =>
                obtain ⟨k, rfl, hk, hgk, hrl⟩ := hrel
                have HGK : Hid (Good k) := hgk
                have HRL : Hid (k = gi ∨ gi < k ∧ M (T gi) = starF (M (T k))) := hrl
                clear hgk hrl
                by_cases hkl : k < glob.size ∧ bt glob k = 42
                · obtain ⟨hk1, hk2⟩ := hkl
                  have hk1z : (k : Int) < (glob.size : Int) := by omega
                  have hk2b : (bt glob k == 42) = true := by rw [hk2]; rfl
                  have hst : T k = none :: T (k + 1) ∧ Good (k + 1) := by
                    rcases HST.out k HGK.out hk1 with ⟨_, a, b⟩ | ⟨a, _⟩ | ⟨a, _⟩ | ⟨a, _⟩ | ⟨a, _⟩
                    · exact ⟨a, b⟩
                    · omega
                    · omega
                    · omega
                    · omega
                  have HN : Hid (Good (k + 1) ∧ (k + 1 = gi ∨ gi < k + 1 ∧ M (T gi) = starF (M (T (k + 1))))) := by
                    refine ⟨hst.2, .inr ?_⟩
                    rcases HRL.out with rfl | ⟨h1, h2⟩
                    · exact ⟨by omega, by rw [hst.1]; rfl⟩
                    · refine ⟨by omega, ?_⟩
                      rw [h2, hst.1]
                      exact M_star2 (T (k + 1))
                  clear hst hk2
                  go_wp2_with fail
                  go_round
                  case rel => exact ⟨k + 1, by go_num, by omega, HN.out.1, HN.out.2⟩
                  case measure => simp [intOf]; omega
                · have hrl : gi < k ∧ M (T gi) = starF (M (T k)) := by
                    rcases HRL.out with rfl | h
                    · exact absurd ⟨hlt, HY.out⟩ hkl
                    · exact h
                  have hgik := hrl.1
                  have HN : Hid (Inv T (bl name) A k ni k ni) := inv_star HI.out hrl.2
                  clear hrl
                  by_cases hk1 : k < glob.size
                  · have hk1z : (k : Int) < (glob.size : Int) := by omega
                    have hk2b : (bt glob k == 42) = false := by
                      have : bt glob k ≠ 42 := fun e => hkl ⟨hk1, e⟩
                      simpa using this
                    clear hkl
                    go_wp2_with fail
                    go_roundg (meas glob.size name.size k ni)
                    case measure => exact meas_g (by omega) (by omega) htn
                    case rel => exact ⟨k, ni, ni, k, rfl, rfl, rfl, rfl, rfl, HGK.out, fun st h => by (have e : st = k := by omega); rw [e]; exact HGK.out, HN.out, HB.out⟩
                  · have hk1z : decide ((k : Int) < (glob.size : Int)) = false := decide_eq_false (by omega)
                    clear hkl
                    go_wp2_with fail
                    go_roundg (meas glob.size name.size k ni)
                    case measure => exact meas_g (by omega) (by omega) htn
                    case rel => exact ⟨k, ni, ni, k, rfl, rfl, rfl, rfl, rfl, HGK.out, fun st h => by (have e : st = k := by omega); rw [e]; exact HGK.out, HN.out, HB.out⟩
            · -- '?'
              have b1 : (bt glob gi == 42) = false := by rw [y]; rfl
              have b2 : (bt glob gi == 63) = true := by rw [y]; rfl
              have HT : Hid (T gi = some (fun _ => true) :: T (gi + 1)) := hT
              have HG1 : Hid (Good (gi + 1)) := hg1
              clear y hT hg1
              by_cases hnl : ni < name.size
              · have hnz : (ni : Int) < (name.size : Int) := by omega
                have HN : Hid (Inv T (bl name) A (gi + 1) (ni + 1) si ti) := inv_one HI.out (by rw [HLN.out]; exact hnl) HT.out rfl
                go_wp2_with fail
                go_roundg (meas glob.size name.size (gi + 1) ti)
                case measure => exact meas_g (by omega) (by omega) (Nat.le_refl _)
                case rel => exact ⟨gi + 1, ni + 1, ti, si, rfl, by go_num, by go_num, rfl, rfl, HG1.out, HSG.out, HN.out, HB.out⟩
              · have hnz : (name.size : Int) ≤ (ni : Int) := by omega
                have HF : Hid (M (T gi) ((bl name).drop ni) = false) := fail_end HT.out (by rw [HLN.out]; omega)
                go_wp2_with fail
                go_meet
                exact ⟨rfl, rfl, rfl, rfl, HF.out, HB.out⟩
            · -- an escaped byte
              have b1 : (bt glob gi == 42) = false := by rw [y]; rfl
              have b2 : (bt glob gi == 63) = false := by rw [y]; rfl
              have b3 : (bt glob gi == 91) = false := by rw [y]; rfl
              have b4 : (bt glob gi == 92) = true := by rw [y]; rfl
              have HT : Hid (T gi = some (fun c => bt glob (gi + 1) == c) :: T (gi + 2)) := hT
              have HG1 : Hid (Good (gi + 2)) := hg1
              have hl1z : (gi : Int) + 1 < (glob.size : Int) := by omega
              have hle2 := HLE.out (gi + 2) hg1
              clear y hT hg1
              by_cases hnl : ni < name.size
              · have hnz : (ni : Int) < (name.size : Int) := by omega
                have HY : Hid (bt name ni = (bl name).getD ni 0) := bt_bl name ni
                by_cases hm : (bt glob (gi + 1) == bt name ni) = true
                · have HN : Hid (Inv T (bl name) A (gi + 2) (ni + 1) si ti) := inv_one HI.out (by rw [HLN.out]; exact hnl) HT.out (by rw [← HY.out]; exact hm)
                  go_wp2_with fail
                  go_quiet (fail)
                  go_wp2_with fail
                  go_roundg (meas glob.size name.size (gi + 2) ti)
                  case measure => exact meas_g (by omega) (by omega) (Nat.le_refl _)
                  case rel => exact ⟨gi + 2, ni + 1, ti, si, rfl, by go_num, by go_num, rfl, rfl, HG1.out, HSG.out, HN.out, below_drewN HB.out nq⟩
                · have hm' : (bt glob (gi + 1) == bt name ni) = false := by simpa using hm
                  have HF : Hid (M (T gi) ((bl name).drop ni) = false) := fail_one HT.out (by rw [HLN.out]; exact hnl) (by rw [← HY.out]; exact hm')
                  clear hm
                  go_wp2_with fail
                  go_quiet (fail)
                  go_wp2_with fail
                  go_meet
                  exact ⟨rfl, rfl, rfl, rfl, HF.out, below_drewN HB.out nq⟩
              · have hnz : decide ((ni : Int) < (name.size : Int)) = false := decide_eq_false (by omega)
                have HF : Hid (M (T gi) ((bl name).drop ni) = false) := fail_end HT.out (by rw [HLN.out]; omega)
                go_wp2_with fail
                go_quiet (fail)
                go_wp2_with fail
                go_meet
                exact ⟨rfl, rfl, rfl, rfl, HF.out, below_drewN HB.out nq⟩
            · -- a bracket
              have b1 : (bt glob gi == 42) = false := by rw [y]; rfl
              have b2 : (bt glob gi == 63) = false := by rw [y]; rfl
              have b3 : (bt glob gi == 91) = true := by rw [y]; rfl
              have HT : Hid (T gi = some S :: rest) := hT
              clear y hT
              by_cases hnl : ni < name.size
              · have hnz : (ni : Int) < (name.size : Int) := by omega
                have HY : Hid (bt name ni = (bl name).getD ni 0) := bt_bl name ni
                obtain ⟨e, ok, hcall, hnext⟩ := hbr (bt name ni) (bt_nonneg name ni) (bt_le name ni)
                have HC : Hid (∀ w, Calls Try.prog 18 #[.string glob, .int .i64 gi, .int .u8 (bt name ni)] w fun e' w' => e' = .returned (.tuple #[.bool (S (bt name ni)), .int .i64 e, .bool ok]) ∧ Below w.heap.size w w') := hcall
                clear hcall hbr
                by_cases hm : S (bt name ni) = true
                · obtain ⟨en, rfl, rfl, hgen, hlt2⟩ := hnext hm
                  have hle2 := HLE.out en hgen
                  have HG1 : Hid (Good en) := hgen
                  have HN : Hid (Inv T (bl name) A en (ni + 1) si ti) := inv_one HI.out (by rw [HLN.out]; exact hnl) HT.out (by rw [← HY.out]; exact hm)
                  clear hnext hgen
                  go_wp2_with fail
                  refine (HC.out _).mono ?_
                  rintro e' w1 ⟨rfl, hw1⟩
                  have HB1 : Hid (Below w.heap.size w w1) := HB.out.trans (hw1.mono HB.out.size)
                  clear hw1
                  go_wp2_with fail
                  go_roundg (meas glob.size name.size en ti)
                  case measure => exact meas_g (by omega) (by omega) (Nat.le_refl _)
                  case rel => exact ⟨en, ni + 1, ti, si, rfl, by go_num, by go_num, rfl, rfl, HG1.out, HSG.out, HN.out, HB1.out⟩
                · have hm' : S (bt name ni) = false := by simpa using hm
                  have HF : Hid (M (T gi) ((bl name).drop ni) = false) := fail_one HT.out (by rw [HLN.out]; exact hnl) (by rw [← HY.out]; exact hm')
                  clear hm hnext
                  go_wp2_with fail
                  refine (HC.out _).mono ?_
                  rintro e' w1 ⟨rfl, hw1⟩
                  have HB1 : Hid (Below w.heap.size w w1) := HB.out.trans (hw1.mono HB.out.size)
                  clear hw1
                  go_wp2_with fail
                  go_meet
                  exact ⟨rfl, rfl, rfl, rfl, HF.out, HB1.out⟩
              · have hnz : (name.size : Int) ≤ (ni : Int) := by omega
                have HF : Hid (M (T gi) ((bl name).drop ni) = false) := fail_end HT.out (by rw [HLN.out]; omega)
                clear hbr
                go_wp2_with fail
                go_meet
                exact ⟨rfl, rfl, rfl, rfl, HF.out, HB.out⟩
            · -- a byte that stands for itself
              have b1 : (bt glob gi == 42) = false := by simpa using y1
              have b2 : (bt glob gi == 63) = false := by simpa using y2
              have b3 : (bt glob gi == 91) = false := by simpa using y4
              have b4 : (bt glob gi == 92) = false := by simpa using y3
              have HT : Hid (T gi = some (fun c => bt glob gi == c) :: T (gi + 1)) := hT
              have HG1 : Hid (Good (gi + 1)) := hg1
              clear y1 y2 y3 y4 hT hg1
              by_cases hnl : ni < name.size
              · have hnz : (ni : Int) < (name.size : Int) := by omega
                have HY : Hid (bt name ni = (bl name).getD ni 0) := bt_bl name ni
                by_cases hm : (bt glob gi == bt name ni) = true
                · have HN : Hid (Inv T (bl name) A (gi + 1) (ni + 1) si ti) := inv_one HI.out (by rw [HLN.out]; exact hnl) HT.out (by rw [← HY.out]; exact hm)
                  go_wp2_with fail
                  go_quiet (fail)
                  go_wp2_with fail
                  go_roundg (meas glob.size name.size (gi + 1) ti)
                  case measure => exact meas_g (by omega) (by omega) (Nat.le_refl _)
                  case rel => exact ⟨gi + 1, ni + 1, ti, si, rfl, by go_num, by go_num, rfl, rfl, HG1.out, HSG.out, HN.out, below_drewN HB.out nq⟩
                · have hm' : (bt glob gi == bt name ni) = false := by simpa using hm
                  have HF : Hid (M (T gi) ((bl name).drop ni) = false) := fail_one HT.out (by rw [HLN.out]; exact hnl) (by rw [← HY.out]; exact hm')
                  clear hm
                  go_wp2_with fail
                  go_quiet (fail)
                  go_wp2_with fail
                  go_meet
                  exact ⟨rfl, rfl, rfl, rfl, HF.out, below_drewN HB.out nq⟩
              · have hnz : decide ((ni : Int) < (name.size : Int)) = false := decide_eq_false (by omega)
                have HF : Hid (M (T gi) ((bl name).drop ni) = false) := fail_end HT.out (by rw [HLN.out]; omega)
                go_wp2_with fail
                go_quiet (fail)
                go_wp2_with fail
                go_meet
                exact ⟨rfl, rfl, rfl, rfl, HF.out, below_drewN HB.out nq⟩
          · have hltz : (glob.size : Int) ≤ (gi : Int) := by omega
            have HF : Hid (M (T gi) ((bl name).drop ni) = false) := fail_nil (by rw [show gi = glob.size from by omega]; exact HEND.out) (by rw [HLN.out]; omega)
            go_wp2_with fail
            go_meet
            exact ⟨rfl, rfl, rfl, rfl, HF.out, HB.out⟩
        case rest =>
          obtain ⟨rfl, rfl, rfl, rfl, hf, hb⟩ := hcut
          have HF : Hid (M (T gi) ((bl name).drop ni) = false) := hf
          clear HB
          have HB : Hid (Below w.heap.size w wc) := hb
          clear hf hb
          by_cases hs : si < 0
          · have HA : Hid (A = false) := inv_fail_none HI.out HF.out hs
            go_wp2_with fail
            go_ret
            exact ⟨by rw [HA.out]; rfl, HB.out⟩
          · have hsd : decide (si < 0) = false := decide_eq_false hs
            by_cases ht : ti = name.size
            · have htb : ((ti : Int) == (name.size : Int)) = true := beq_iff_eq.2 (by omega)
              have HA : Hid (A = false) := inv_fail_end HI.out HF.out (by omega) (by rw [HLN.out]; exact ht)
              clear ht
              go_wp2_with fail
              go_ret
              exact ⟨by rw [HA.out]; rfl, HB.out⟩
            · have htb : ((ti : Int) == (name.size : Int)) = false := beq_eq_false_iff_ne.2 (by omega)
              obtain ⟨st, rfl, hnx⟩ := inv_fail_next HI.out HF.out (by omega) (by rw [HLN.out]; omega)
              have HN : Hid (Inv T (bl name) A st (ti + 1) st (ti + 1)) := hnx
              clear hnx
              go_wp2_with fail
              go_roundg (meas glob.size name.size st (ti + 1))
              case measure => exact meas_t (by omega)
              case rel => exact ⟨st, ti + 1, ti + 1, st, rfl, rfl, by go_num, rfl, by go_num, HSG.out st rfl, HSG.out, HN.out, HB.out⟩
    · have h1 : (glob.size : Int) ≤ (gi : Int) := by omega
      have h2 : (name.size : Int) ≤ (ni : Int) := by omega
      have HA : Hid (A = true) := inv_end HI.out (by rw [show gi = glob.size from by omega]; exact HEND.out) (by rw [HLN.out]; omega)
      go_wp2_with fail
      go_ret
      exact ⟨by rw [HA.out]; rfl, HB.out⟩
end Go.Proofs.Qxb6617323a
