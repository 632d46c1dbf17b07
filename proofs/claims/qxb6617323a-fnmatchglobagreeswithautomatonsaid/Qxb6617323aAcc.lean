/-
  THE WALKS OF zzGlobAccepts AND zzLoneBackslash.
-/
import Derived.Test.Qxb6617323aAut
namespace Go.Proofs.Qxb6617323a
open Go.RowKit Go.PlainAid
set_option linter.unusedVariables false

theorem aut_two {w w1 : World} {a : Option Addr} {cap m : Nat} {TL : List Tok} (hT : Toks w w1 (.slice a TL.length cap) TL) (hob : ∀ k, (Value.slice a TL.length cap).ownBlock = some k → k < w1.heap.size) :
    Aut w ((w1.alloc (.cells (rowA m fun _ => false) 4)).alloc (.cells (rowA m fun _ => false) 4)) (.slice a TL.length cap) TL m w1.heap.size (w1.heap.size + 1) (fun _ => false) (fun _ => false) := by
  refine ⟨(hT.alloc _).alloc _, heap_alloc2_old w1 _ _, ?_, by omega, hT.big, by have := hT.big; omega, fun h => by have := hob _ h; omega, fun h => by have := hob _ h; omega⟩
  have h := heap_alloc_last (w1.alloc (.cells (rowA m fun _ => false) 4)) (.cells (rowA m fun _ => false) 4)
  have e : (w1.alloc (.cells (rowA m fun _ => false) 4)).heap.size = w1.heap.size + 1 := Array.size_push _
  rw [e] at h
  exact h
/-! ### one byte, the first k tokens -/
def pv (TL : List Tok) (V : Nat → Bool) (c : Int) (k : Nat) : Nat → Bool
  | 0 => decide (0 < k) && V 0 && starAt TL 0
  | i + 1 => (decide (i + 1 < k) && V (i + 1) && starAt TL (i + 1)) || (decide (i < k) && V i && !starAt TL i && setAt TL i c)
section
variable {TL : List Tok} {V : Nat → Bool} {c : Int} {k : Nat}
theorem pv_none (i : Nat) : pv TL V c 0 i = false := by cases i <;> simp [pv]
theorem pv_all (i : Nat) : pv TL V c TL.length i = baseV TL V c i := by cases i <;> rfl
theorem dec_succ {i k : Nat} (h : i ≠ k) : decide (i < k + 1) = decide (i < k) := by
  rw [Bool.eq_iff_iff, decide_eq_true_eq, decide_eq_true_eq]; omega
theorem pv_dead (h : V k = false) (i : Nat) : pv TL V c k i = pv TL V c (k + 1) i := by
  have key : ∀ i, (decide (i < k) && V i) = (decide (i < k + 1) && V i) := by
    intro i
    by_cases e : i = k
    · rw [e, h, Bool.and_false, Bool.and_false]
    · rw [dec_succ e]
  cases i with
  | zero => simp only [pv]; rw [key]
  | succ i => simp only [pv]; rw [key, key]
theorem pv_star (h : V k = true) (hs : starAt TL k = true) (i : Nat) : (if i = k then true else pv TL V c k i) = pv TL V c (k + 1) i := by
  have key : ∀ i, (decide (i < k) && V i && !starAt TL i) = (decide (i < k + 1) && V i && !starAt TL i) := by
    intro i
    by_cases e : i = k
    · rw [e, hs]; simp
    · rw [dec_succ e]
  by_cases e : i = k
  · rw [if_pos e]
    subst e
    cases i with
    | zero => simp [pv, h, hs]
    | succ i => simp [pv, h, hs]
  · rw [if_neg e]
    cases i with
    | zero => simp only [pv]; rw [dec_succ e]
    | succ i => simp only [pv]; rw [key, dec_succ e]
theorem pv_set (h : V k = true) (hs : starAt TL k = false) (i : Nat) : (if i = k + 1 then (pv TL V c k i || setAt TL k c) else pv TL V c k i) = pv TL V c (k + 1) i := by
  have key : ∀ i, (decide (i < k) && V i && starAt TL i) = (decide (i < k + 1) && V i && starAt TL i) := by
    intro i
    by_cases e : i = k
    · rw [e, hs]; simp
    · rw [dec_succ e]
  by_cases e : i = k + 1
  · rw [if_pos e]
    subst e
    simp [pv, h, hs]
    intro h'; omega
  · rw [if_neg e]
    cases i with
    | zero => simp only [pv]; rw [key]
    | succ i => simp only [pv]; rw [key, dec_succ (by omega : i ≠ k)]
end
theorem Toks.form {w W : World} {v : Value} {L : List Tok} (h : Toks w W v L) : ∃ a cap q, v = .slice a L.length cap ∧ (0 < L.length → a = some ⟨q, 0, none⟩) ∧ (∀ k, v.ownBlock = some k → k < W.heap.size) := by
  have hl := fun k hk => (h.own.lt k hk).2
  rcases h.own.2 with ⟨rfl, e⟩ | ⟨g, cap, cur, rfl, _⟩
  · exact ⟨none, 0, 0, by rw [e], fun h' => by omega, hl⟩
  · exact ⟨_, cap, g, rfl, fun _ => rfl, hl⟩
theorem Try.info4 : (Try.prog.info? 4).map (fun i => (i.zero, i.size, i.bytes)) = some (some (.bool false), 1, 1) := by kernel_rfl

set_option maxHeartbeats 1000000 in
theorem lone_any (glob : ByteArray) (w : World) (hg : glob.size ≤ 1048576) :
    Calls Try.prog 10 #[.string glob] w fun e w' => e = .returned (.bool (lb (bl glob) 0)) ∧ w = w' := by
  have hb := get_bt glob
  have HL : Hid ((bl glob).length = glob.size) := bl_length glob
  obtain ⟨R, hR⟩ : ∃ R, R = lb (bl glob) 0 := ⟨_, rfl⟩
  rw [← hR]
  have HR : Hid (R = lb (bl glob) 0) := hR
  clear hR
  go_enter Try.func10, Try.ntmps10
  go_wp2_with fail
  go_loopg [3] (glob.size + 1) (fun f v3 wr => ∃ k : Nat, v3 = .int .i64 k ∧ k ≤ glob.size ∧ glob.size < k + f ∧ lb (bl glob) k = R ∧ w = wr)
  case atStart => exact ⟨0, rfl, by omega, by omega, HR.out.symm, rfl⟩
  case round =>
    obtain ⟨k, rfl, hk, hf, hlb, rfl⟩ := hrel
    obtain ⟨f, rfl⟩ : ∃ f, gk = f + 1 := ⟨gk - 1, by omega⟩
    have HB : Hid (lb (bl glob) k = R) := hlb
    clear hlb HR
    by_cases hkl : k < glob.size
    · have h1z : (k : Int) < (glob.size : Int) := by omega
      have HY : Hid (bt glob k = (bl glob).getD k 0) := bt_bl glob k
      by_cases a : bt glob k = 92
      · have b1 : (bt glob k == 92) = true := by rw [a]; rfl
        by_cases h2 : k + 1 = glob.size
        · have e2 : ((k : Int) + 1 == (glob.size : Int)) = true := beq_iff_eq.2 (by omega)
          have hR : R = true := by rw [← HB.out]; exact lb_lone (by rw [HL.out]; exact h2) (by rw [← HY.out]; exact a)
          subst hR
          clear a h2
          go_wp2_with fail
          go_ret
          exact ⟨rfl, rfl⟩
        · have e2 : ((k : Int) + 1 == (glob.size : Int)) = false := beq_eq_false_iff_ne.2 (by omega)
          have HB2 : Hid (lb (bl glob) (k + 2) = R) := (lb_esc (by rw [HL.out]; omega) (by rw [← HY.out]; exact a)).symm.trans HB.out
          clear a
          go_wp2_with fail
          go_roundg f
          case measure => omega
          case rel => exact ⟨k + 2, by go_num, by omega, by omega, HB2.out, rfl⟩
      · have b1 : (bt glob k == 92) = false := by simpa using a
        have HB2 : Hid (lb (bl glob) (k + 1) = R) := (lb_other (by rw [HL.out]; exact hkl) (by rw [← HY.out]; exact a)).symm.trans HB.out
        clear a
        go_wp2_with fail
        go_roundg f
        case measure => omega
        case rel => exact ⟨k + 1, by go_num, by omega, by omega, HB2.out, rfl⟩
    · have e1 : decide ((k : Int) < (glob.size : Int)) = false := decide_eq_false (by omega)
      have e2 : ¬ ((k : Int) < (glob.size : Int)) := by omega
      have hR : R = false := by rw [← HB.out]; exact lb_end (by rw [HL.out]; omega)
      subst hR
      clear hkl
      go_wp2_with fail
      go_ret
      exact ⟨rfl, rfl⟩

set_option maxRecDepth 100000 in
set_option maxHeartbeats 4000000 in
theorem accepts_any (glob name : ByteArray) (w : World) (hg : glob.size ≤ 1048576) (hn : name.size ≤ 1048576) :
    Calls Try.prog 12 #[.string glob, .string name] w fun e w' => e = .returned (.bool (M (TK (bl glob) 0) (bl name))) ∧ Below w.heap.size w w' := by
  have hb := get_bt name
  have HL : Hid ((bl name).length = name.size) := bl_length name
  have htl : (TK (bl glob) 0).length ≤ glob.size + 1 := by have := tk_len (bl glob) ((bl glob).length + 1) 0; rw [bl_length] at this; unfold TK; rw [bl_length]; exact this
  obtain ⟨TL, hTL⟩ : ∃ TL, TL = TK (bl glob) 0 := ⟨_, rfl⟩
  have HTK : Hid (∀ w, Calls Try.prog 21 #[.string glob] w fun e w' => ∃ v, e = .returned v ∧ Toks w w' v TL) := by intro w; rw [hTL]; exact tokens_any glob w hg
  rw [← hTL] at htl ⊢
  clear hTL
  obtain ⟨R, hR⟩ : ∃ R, R = M TL (bl name) := ⟨_, rfl⟩
  rw [← hR]
  have HR : Hid (R = M TL (bl name)) := hR
  clear hR
  go_enter Try.func12, Try.ntmps12
  go_wp2_with fail
  refine (HTK.out _).mono ?_
  rintro e w1 ⟨v, rfl, hT⟩
  obtain ⟨a, cap, q, rfl, ha, hob⟩ := hT.form
  obtain ⟨n, hn'⟩ : ∃ n, n = TL.length := ⟨_, rfl⟩
  obtain ⟨m, hm⟩ : ∃ m, m = n + 1 := ⟨_, rfl⟩
  have hmk : ∀ w, (Instr.makeSlice 35 (.int .i64 ((n : Int) + 1)) (.int .i64 ((n : Int) + 1))).run Try.prog w = .ok (.slice (some ⟨w.heap.size, 0, none⟩) m m) (w.alloc (.cells (rowA m fun _ => false) 4)) := by
    intro w
    have := run_make_row' (P := Try.prog) 35 4 (.bool false) 1 Try.underlying35 Try.info4 rfl .i64 .i64 m (by omega) (by omega) w
    rw [made_row, hm] at this
    rw [hm]
    exact this
  have HT : Hid (Toks w w1 (.slice a TL.length cap) TL) := hT
  have HN : Hid (TL.length = n) := hn'.symm
  have HQ : Hid (0 < n → a = some ⟨q, 0, none⟩) := by rw [hn']; exact ha
  have HOB : Hid (∀ k, (Value.slice a TL.length cap).ownBlock = some k → k < w1.heap.size) := hob
  have hm1 : n < m := by omega
  have hm2 : m ≤ n + 1 := by omega
  have hnl : n ≤ 1048577 := by omega
  rw [HN.out]
  clear hm hn' ha hob hT htl
  go_upto_region 5 with fail
  clear hmk
  obtain ⟨W, hW⟩ : ∃ W, W = (w1.alloc (.cells (rowA m fun _ => false) 4)).alloc (.cells (rowA m fun _ => false) 4) := ⟨_, rfl⟩
  obtain ⟨x0, hx0⟩ : ∃ x0, x0 = w1.heap.size := ⟨_, rfl⟩
  obtain ⟨y0, hy0⟩ : ∃ y0, y0 = w1.heap.size + 1 := ⟨_, rfl⟩
  have HA : Hid (Aut w W (.slice a TL.length cap) TL m x0 y0 (fun _ => false) (fun _ => false)) := by rw [hW, hx0, hy0]; exact aut_two HT.out HOB.out
  rw [← hW, ← hy0, ← hx0]
  clear hW hx0 hy0 HT HOB
  have hm0 : (0 : Int) < (m : Int) := by omega
  have c1 := HA.out.rx.cell 0 (by omega)
  have c2 := HA.out.rx.froz 0
  go_wp2_with fail
  have HA1 := HA.out.swap.setY 0 true
  refine (skip_any w _ a cap n m y0 x0 q TL _ _ HN.out hm1 hm2 (by omega) HQ.out HA1).mono ?_
  rintro e w2 ⟨rfl, hA2⟩
  have HA2 : Hid (Aut w w2 (.slice a TL.length cap) TL m x0 y0 (stV TL (bl name) 0) (fun _ => false)) := by
    have e : (fun j => if j = 0 then true else false) = fun k : Nat => k == 0 := by funext k; cases k <;> rfl
    rw [e] at hA2
    exact hA2.swap
  clear hA2 HA1 c1 c2 HA
  go_wp2_with fail
  go_loopg [7, 8, 9, 10, 11, 12] (name.size + 1) (fun d v7 v8 v9 v10 v11 v12 wr => ∃ (j x y : Nat) (g : Nat → Bool), v7 = .slice (some ⟨x, 0, none⟩) m m ∧ v8 = .slice (some ⟨y, 0, none⟩) m m ∧ v9 = .int .i64 j ∧ j ≤ name.size ∧ name.size < j + d ∧ Aut w wr (.slice a TL.length cap) TL m x y (stV TL (bl name) j) g)
  case atStart => exact ⟨0, x0, y0, _, rfl, rfl, rfl, by omega, by omega, HA2.out⟩
  case round =>
    obtain ⟨j, x, y, g, rfl, rfl, rfl, hj, hd, hA⟩ := hrel
    obtain ⟨d, rfl⟩ : ∃ d, gk = d + 1 := ⟨gk - 1, by omega⟩
    have HA : Hid (Aut w wr (.slice a TL.length cap) TL m x y (stV TL (bl name) j) g) := hA
    clear hA HA2
    by_cases hjl : j < name.size
    · have hjz : (j : Int) < (name.size : Int) := by omega
      obtain ⟨V, hV⟩ : ∃ V, V = stV TL (bl name) j := ⟨_, rfl⟩
      rw [← hV] at HA
      have HV : Hid (V = stV TL (bl name) j) := hV
      clear hV
      go_wp2_with fail
      go_loopg [10] (m + 1) (fun d2 v10 wx => ∃ k : Nat, v10 = .int .i64 k ∧ k ≤ m ∧ m < k + d2 ∧ Aut w wx (.slice a TL.length cap) TL m x y V (fun i => if i < k then false else g i))
      case atStart => exact ⟨0, rfl, by omega, by omega, HA.out.congr fun i _ => (if_neg (by omega)).symm⟩
      case round =>
        obtain ⟨k, rfl, hk, hd2, hA⟩ := hrel
        obtain ⟨d2, rfl⟩ : ∃ d2, gk = d2 + 1 := ⟨gk - 1, by omega⟩
        by_cases hkm : k < m
        · have hkz : (k : Int) < (m : Int) := by omega
          have hkn : (k : Int) ≤ (n : Int) := by omega
          have c1 := hA.ry.cell k hkm
          have c2 := hA.ry.froz k
          have HX : Hid (Aut w (wr.setCell ⟨y, k, none⟩ (.bool false)) (.slice a TL.length cap) TL m x y V (fun i => if i < k + 1 then false else g i)) := (hA.setY k false).congr fun i _ => by
            by_cases e : i = k
            · rw [if_pos e, if_pos (by omega)]
            · rw [if_neg e]
              by_cases e2 : i < k
              · rw [if_pos e2, if_pos (by omega)]
              · rw [if_neg e2, if_neg (by omega)]
          clear hA
          go_wp2_with fail
          go_roundg d2
          case measure => omega
          case rel => exact ⟨k + 1, by go_num, by omega, by omega, HX.out⟩
        · have e1 : decide ((k : Int) ≤ (n : Int)) = false := decide_eq_false (by omega)
          have e2 : ¬ ((k : Int) ≤ (n : Int)) := by omega
          have hc0 := bt_nonneg name j
          have hc1 := bt_le name j
          have HX : Hid (Aut w wr (.slice a TL.length cap) TL m x y V (pv TL V (bt name j) 0)) := hA.congr fun i hi => by rw [if_pos (by omega), pv_none]
          clear hA hkm HA
          go_wp2_with fail
          go_loopg [12] (n + 1) (fun d3 v12 wx => ∃ k : Nat, v12 = .int .i64 k ∧ k ≤ n ∧ n < k + d3 ∧ Aut w wx (.slice a TL.length cap) TL m x y V (pv TL V (bt name j) k))
          case atStart => exact ⟨0, rfl, by omega, by omega, HX.out⟩
          case round =>
            clear e1 e2 HX
            obtain ⟨i, rfl, hi, hd3, hA⟩ := hrel
            obtain ⟨d3, rfl⟩ : ∃ d3, gk = d3 + 1 := ⟨gk - 1, by omega⟩
            have HA : Hid (Aut w wr (.slice a TL.length cap) TL m x y V (pv TL V (bt name j) i)) := hA
            clear hA
            by_cases hin : i < n
            · have hiz : (i : Int) < (n : Int) := by omega
              have him : (i : Int) < (m : Int) := by omega
              have him2 : (i : Int) + 1 < (m : Int) := by omega
              obtain rfl := HQ.out (by omega)
              obtain ⟨lv, hlv⟩ : ∃ lv, lv = V i := ⟨_, rfl⟩
              obtain ⟨sr, hsr⟩ : ∃ sr, sr = starAt TL i := ⟨_, rfl⟩
              obtain ⟨se, hse⟩ : ∃ se, se = setAt TL i (bt name j) := ⟨_, rfl⟩
              have c1 : wr.cell? ⟨x, i, none⟩ = some (.bool lv) := by rw [HA.out.rx.cell i (by omega), hlv]
              have c2 : wr.cell? ⟨q, i * 257, none⟩ = some (.bool sr) := by rw [HA.out.star rfl i (by rw [HN.out]; exact hin), hsr]
              have c3 : wr.cell? ⟨q, i * 257 + (1 + (bt name j).toNat), none⟩ = some (.bool se) := by rw [HA.out.set rfl i (by rw [HN.out]; exact hin) _ hc0 hc1, hse]
              have c3' : wr.cell? ⟨q, i * 257 + 1 + (bt name j).toNat, none⟩ = some (.bool se) := by rw [Nat.add_assoc]; exact c3
              have c4 := HA.out.ry.cell i (by omega)
              have c5 := HA.out.ry.froz i
              have c6 := HA.out.ry.cell (i + 1) (by omega)
              have c7 := HA.out.ry.froz (i + 1)
              have HLV : Hid (V i = lv) := hlv.symm
              have HSR : Hid (starAt TL i = sr) := hsr.symm
              have HSE : Hid (setAt TL i (bt name j) = se) := hse.symm
              clear hlv hsr hse
              cases lv with
              | false =>
                have HX : Hid (Aut w wr (.slice (some ⟨q, 0, none⟩) TL.length cap) TL m x y V (pv TL V (bt name j) (i + 1))) := HA.out.congr fun k _ => pv_dead HLV.out k
                go_wp2_with fail
                go_roundg d3
                case measure => omega
                case rel => exact ⟨i + 1, by go_num, by omega, by omega, HX.out⟩
              | true =>
                cases sr with
                | true =>
                  have HX : Hid (Aut w (wr.setCell ⟨y, i, none⟩ (.bool true)) (.slice (some ⟨q, 0, none⟩) TL.length cap) TL m x y V (pv TL V (bt name j) (i + 1))) := (HA.out.setY i true).congr fun k _ => pv_star HLV.out HSR.out k
                  go_wp2_with fail
                  go_roundg d3
                  case measure => omega
                  case rel => exact ⟨i + 1, by go_num, by omega, by omega, HX.out⟩
                | false =>
                  cases se with
                  | true =>
                    have HX : Hid (Aut w (wr.setCell ⟨y, i + 1, none⟩ (.bool true)) (.slice (some ⟨q, 0, none⟩) TL.length cap) TL m x y V (pv TL V (bt name j) (i + 1))) := (HA.out.setY (i + 1) true).congr fun k _ => by
                      rw [← pv_set HLV.out HSR.out k, HSE.out, Bool.or_true]
                    go_wp2_with fail
                    go_roundg d3
                    case measure => omega
                    case rel => exact ⟨i + 1, by go_num, by omega, by omega, HX.out⟩
                  | false =>
                    have HX : Hid (Aut w wr (.slice (some ⟨q, 0, none⟩) TL.length cap) TL m x y V (pv TL V (bt name j) (i + 1))) := HA.out.congr fun k _ => by
                      rw [← pv_set HLV.out HSR.out k, HSE.out, Bool.or_false, ite_self]
                    go_wp2_with fail
                    go_roundg d3
                    case measure => omega
                    case rel => exact ⟨i + 1, by go_num, by omega, by omega, HX.out⟩
            · have e1 : decide ((i : Int) < (n : Int)) = false := decide_eq_false (by omega)
              have e2 : ¬ ((i : Int) < (n : Int)) := by omega
              have hin' : i = n := by omega
              have HX : Hid (Aut w wr (.slice a TL.length cap) TL m x y V (baseV TL V (bt name j))) := HA.out.congr fun k _ => by rw [hin', ← HN.out]; exact pv_all k
              clear hin hin'
              go_wp2_with fail
              refine (skip_any w wr a cap n m x y q TL _ _ HN.out hm1 hm2 hnl HQ.out HX.out).mono ?_
              rintro e w2 ⟨rfl, hA2⟩
              have HX2 : Hid (Aut w w2 (.slice a TL.length cap) TL m y x (stV TL (bl name) (j + 1)) V) := by
                have e : stV TL (bl name) (j + 1) = skB TL (baseV TL V (bt name j)) := by rw [HV.out, bt_bl]; rfl
                rw [e]
                exact hA2.swap
              clear hA2
              go_wp2_with fail
              go_roundg d
              case measure => omega
              case rel => exact ⟨j + 1, y, x, V, rfl, rfl, by go_num, by omega, by omega, HX2.out⟩
    · have e1 : decide ((j : Int) < (name.size : Int)) = false := decide_eq_false (by omega)
      have e2 : ¬ ((j : Int) < (name.size : Int)) := by omega
      have hjs : j = name.size := by omega
      have hnm : (n : Int) < (m : Int) := by omega
      have hR : stV TL (bl name) j n = R := by rw [HR.out, hjs, ← HL.out, ← HN.out]; exact stV_end TL (bl name)
      have c1 : wr.cell? ⟨x, n, none⟩ = some (.bool R) := by rw [HA.out.rx.cell n hm1, hR]
      clear hR hjl hjs
      go_wp2_with fail
      go_ret
      exact ⟨rfl, HA.out.tk.bel⟩
end Go.Proofs.Qxb6617323a
