/-
  THE LAW FnMatchGlobAgreesWithAutomaton, WALKED.
-/
import Derived.Test.Qxb6617323aAcc
import Derived.Test.Qxb6617323aBracket
import Derived.Test.Qxb6617323aEscFns
import Derived.Deep.RegionWith
namespace Go.Proofs.Qxb6617323a
open Go.RowKit Go.PlainAid
set_option linter.unusedVariables false

theorem zz9_yes (a b : ByteArray) (w : World) (ha : a.size ≤ 65536) (hb : b.size ≤ 65536) :
    Calls Try.prog 9 #[.string a, .string b] w fun e w' => e = .returned (.bool true) ∧ w = w' := by
  go_enter Try.func9, Try.ntmps9
  go_wp2
  go_ret
  exact ⟨rfl, rfl⟩
theorem zz9_any (a b : ByteArray) (w : World) (ha : a.size ≤ maxLen) (hb : b.size ≤ maxLen) :
    Calls Try.prog 9 #[.string a, .string b] w fun e w' => ∃ r, e = .returned (.bool r) ∧ w = w' := by
  unfold maxLen at ha hb
  by_cases h1 : 1048576 < a.size
  · go_enter Try.func9, Try.ntmps9
    go_wp2
    go_ret
    exact ⟨_, rfl, rfl⟩
  by_cases h2 : 1048576 < b.size
  · go_enter Try.func9, Try.ntmps9
    go_wp2
    go_ret
    exact ⟨_, rfl, rfl⟩
  by_cases h3 : 1048576 < a.size + b.size
  all_goals
    go_enter Try.func9, Try.ntmps9
    go_wp2
    go_ret
    exact ⟨_, rfl, rfl⟩

theorem auto_big (a b : ByteArray) (w : World) (ha : a.size ≤ maxLen) (hb : b.size ≤ maxLen) (h : 4096 < a.size ∨ 4096 < b.size) :
    Calls Try.prog 4 #[.string a, .string b] w fun e w' => e = .returned (.bool true) ∧ Below w.heap.size w w' := by
  have hz := zz9_any a b w ha hb
  unfold maxLen at ha hb
  by_cases h1 : 4096 < a.size
  · go_enter Try.func4, Try.ntmps4
    go_wp2_with (go_at_call 9; refine hz.mono ?_; rintro e w' ⟨r, rfl, rfl⟩; cases r)
    all_goals (go_ret; exact ⟨rfl, Below.refl _ _⟩)
  have h2 : 4096 < b.size := by omega
  go_enter Try.func4, Try.ntmps4
  go_wp2_with (go_at_call 9; refine hz.mono ?_; rintro e w' ⟨r, rfl, rfl⟩; cases r)
  all_goals (go_ret; exact ⟨rfl, Below.refl _ _⟩)

/-! ### the tokens that matchGlob meets -/
def GoodG (glob : ByteArray) (g : Nat) : Prop := g ≤ glob.size ∧ lb (bl glob) g = false
theorem tk_step (glob : ByteArray) (g : Nat) (hg : glob.size ≤ 1048576) (h : GoodG glob g) (hlt : g < glob.size) : Step glob (TK (bl glob)) (GoodG glob) g := by
  have hl := bl_length glob
  have hb := bt_bl glob g
  obtain ⟨h1, h2⟩ := h
  have hlt' : g < (bl glob).length := by omega
  have eT : ∀ g', g < g' → tkF (bl glob) (bl glob).length g' = TK (bl glob) g' := fun g' h => TK_of (by omega)
  have next : bt glob g ≠ 92 → GoodG glob (g + 1) := fun h => ⟨by omega, by rw [← lb_other hlt' (by rw [← hb]; exact h)]; exact h2⟩
  by_cases a42 : bt glob g = 42
  · exact .inl ⟨a42, by rw [← eT (g + 1) (by omega)]; exact tk_star hlt' (by rw [← hb]; exact a42), next (by omega)⟩
  by_cases a63 : bt glob g = 63
  · exact .inr (.inl ⟨a63, by rw [← eT (g + 1) (by omega)]; exact tk_q hlt' (by rw [← hb]; exact a63), next (by omega)⟩)
  by_cases a92 : bt glob g = 92
  · have hg1 : g + 1 < glob.size := by
      by_cases e : g + 1 = (bl glob).length
      · have := lb_lone e (by rw [← hb]; exact a92)
        rw [h2] at this; cases this
      · omega
    refine .inr (.inr (.inl ⟨a92, hg1, ?_, by omega, ?_⟩))
    · rw [← eT (g + 2) (by omega), bt_bl glob (g + 1)]; exact tk_esc (by omega) (by rw [← hb]; exact a92)
    · rw [← lb_esc (by omega) (by rw [← hb]; exact a92)]; exact h2
  by_cases a91 : bt glob g = 91
  · refine .inr (.inr (.inr (.inl ⟨a91, ?_⟩)))
    have a91' : (bl glob).getD g 0 = 91 := by rw [← hb]; exact a91
    cases hbr : Br (bl glob) g with
    | none =>
      refine ⟨fun _ => false, [], tk_br_no hlt' a91' hbr, fun c c0 c1 => ⟨0, false, fun w => (bracket_any glob g c _ w hg hlt c0 c1 (.inl ⟨hbr, rfl⟩)).mono fun e w' ⟨h, h'⟩ => ⟨h, by rw [← h']; exact Below.refl _ _⟩, fun h => by cases h⟩⟩
    | some r =>
      obtain ⟨S, e⟩ := r
      obtain ⟨b1, b2, b3⟩ := Br_aligned hlt' a91' hbr
      refine ⟨S, TK (bl glob) e, by rw [← eT e b1]; exact tk_br hlt' a91' hbr, fun c c0 c1 => ⟨e, true, fun w => (bracket_any glob g c _ w hg hlt c0 c1 (.inr ⟨S, e, hbr, rfl⟩)).mono fun e w' ⟨h, h'⟩ => ⟨h, by rw [← h']; exact Below.refl _ _⟩, fun _ => ⟨e, rfl, rfl, ⟨by omega, by rw [← b3]; exact h2⟩, b1⟩⟩⟩
  · refine .inr (.inr (.inr (.inr ⟨a42, a63, a92, a91, ?_, next a92⟩)))
    rw [← eT (g + 1) (by omega), hb]
    exact tk_lit hlt' (by rw [← hb]; exact a42) (by rw [← hb]; exact a63) (by rw [← hb]; exact a92) (by rw [← hb]; exact a91)

set_option maxHeartbeats 400000 in
theorem auto_law (glob name : ByteArray) (w : World) (hs : glob.size ≤ 4096) (ht : name.size ≤ 4096) :
    Calls Try.prog 4 #[.string glob, .string name] w fun e w' => e = .returned (.bool true) ∧ Below w.heap.size w w' := by
  obtain ⟨R, hR⟩ : ∃ R, R = M (TK (bl glob) 0) (bl name) := ⟨_, rfl⟩
  have HC : Hid (∀ w, Calls Try.prog 12 #[.string glob, .string name] w fun e w' => e = .returned (.bool R) ∧ Below w.heap.size w w') := by
    intro w; rw [hR]; exact accepts_any glob name w (by omega) (by omega)
  cases hlb : lb (bl glob) 0 with
  | true =>
    have HB : Hid (Calls Try.prog 10 #[.string glob] w fun e w' => e = .returned (.bool true) ∧ w = w') := by
      have := lone_any glob w (by omega)
      rw [hlb] at this; exact this
    clear hlb hR HC
    go_enter Try.func4, Try.ntmps4
    go_wp2_with (go_at_call 9; refine (zz9_yes _ _ _ (by omega) (by omega)).mono ?_; rintro e w' ⟨rfl, rfl⟩)
    refine HB.out.mono ?_
    rintro e w' ⟨rfl, rfl⟩
    go_wp2_with fail
    go_ret
    exact ⟨rfl, Below.refl _ _⟩
  | false =>
    have HB : Hid (Calls Try.prog 10 #[.string glob] w fun e w' => e = .returned (.bool false) ∧ w = w') := by
      have := lone_any glob w (by omega)
      rw [hlb] at this; exact this
    have HM : Hid (Calls Try.prog 11 #[.string glob, .string name] w fun e w' => e = .returned (.bool R) ∧ Below w.heap.size w w') := by
      rw [hR]
      refine zzmatch_any glob name (TK (bl glob)) (GoodG glob) w (by omega) (by omega) ⟨by omega, hlb⟩ (fun g h => h.1) ?_ (fun g h hl => tk_step glob g (by omega) h hl)
      exact tk_end (by rw [bl_length]; omega)
    clear hlb hR
    go_enter Try.func4, Try.ntmps4
    go_wp2_with (go_at_call 9; refine (zz9_yes _ _ _ (by omega) (by omega)).mono ?_; rintro e w' ⟨rfl, rfl⟩)
    refine HB.out.mono ?_
    rintro e w' ⟨rfl, rfl⟩
    go_wp2_with fail
    refine HM.out.mono ?_
    rintro e w1 ⟨rfl, hw1⟩
    have W1 : Hid (Below w.heap.size w w1) := hw1
    clear hw1
    go_wp2_with fail
    refine (HC.out _).mono ?_
    rintro e w2 ⟨rfl, hw2⟩
    have W2' : Hid (Below w.heap.size w w2) := W1.out.trans (hw2.mono W1.out.size)
    clear hw2
    have hRR : (R == R) = true := by cases R <;> rfl
    go_wp2_with fail
    go_ret
    exact ⟨rt_bool (by simp), W2'.out⟩
end Go.Proofs.Qxb6617323a
