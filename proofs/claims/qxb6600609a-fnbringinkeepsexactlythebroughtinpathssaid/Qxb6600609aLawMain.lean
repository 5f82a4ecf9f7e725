/-
  'FnBringInKeepsExactlyTheBroughtInPaths' (function 3): both loops.
-/
import Derived.Test.Qxb6600609aLaw
namespace Go.Proofs.Qxb6600609a
open Go.RowKit
open Plain
set_option linter.unusedVariables false

theorem below_drew {B : Nat} {a w : World} (h : Below B a w) (q : Nat) : Below B a (w.drewN q) := h.trans ⟨rfl, rfl, rfl, Nat.le_refl _, fun _ _ => rfl⟩

set_option maxRecDepth 100000 in
set_option maxHeartbeats 4000000 in
theorem law_main (r : Bool) (a0 : Option Addr) (n0 c0 : Nat) (ls : List ByteArray) (a1 : Option Addr) (n1 c1 : Nat) (pss : List (List ByteArray)) (a2 : Option Addr) (n2 c2 : Nat) (qss : List (List ByteArray)) (w : World)
    (hn0 : n0 = ls.length) (hs0 : Strs w a0 ls) (hm0 : n0 ≤ 4096) (hz0 : ∀ s ∈ ls, s.size ≤ maxLen) (hn1 : n1 = pss.length) (hs1 : Pths w a1 pss) (hm1 : n1 ≤ 4096) (hz1 : Lens pss) (hn2 : n2 = qss.length) (hs2 : Pths w a2 qss) (hm2 : n2 ≤ 4096) (hz2 : Lens qss)
    (nl0 : a0 = none → c0 = 0) (nl1 : a1 = none → c1 = 0) (nl2 : a2 = none → c2 = 0) :
    Calls Try.prog 3 #[.bool r, .slice a0 n0 c0, .slice a1 n1 c1, .slice a2 n2 c2] w fun e w' => e = .returned (.bool true) ∧ Below w.heap.size w w' := by
  have M0 : n0 ≤ maxLen := by unfold maxLen; omega
  have M1 : n1 ≤ maxLen := by unfold maxLen; omega
  have M2 : n2 ≤ maxLen := by unfold maxLen; omega
  have kb := bytes_any r a0 n0 c0 a1 n1 c1 a2 n2 c2 w M0 M1 M2 (hn0 ▸ hs0.rd hz0) (hn1 ▸ hs1.rd hz1) (hn2 ▸ hs2.rd hz2)
  have k6 := names_any a0 n0 c0 ls w hn0 hs0 M0 hz0
  have k71 := paths_any a1 n1 c1 pss w hn1 hs1 M1 hz1
  have k72 := paths_any a2 n2 c2 qss w hn2 hs2 M2 hz2
  have k8 := clS_any a0 c0 ls w (by omega) hs0 nl0
  rw [← hn0] at k8
  have K91 : Hid ((∀ j, j < n1 → (pss.getD j []).length ≤ 1048576) → ∀ w1, Below w.heap.size w w1 → Calls Try.prog 9 #[.slice a1 n1 c1] w1 fun e w' => ∃ a' cap', e = .returned (.slice a' n1 cap') ∧ Pths w' a' pss ∧ Below w1.heap.size w1 w') := by
    intro h w1 hb
    rw [hn1] at h ⊢
    exact clP_any a1 c1 pss w1 (by omega) h (hs1.below hb) nl1
  have K92 : Hid ((∀ j, j < n2 → (qss.getD j []).length ≤ 1048576) → ∀ w1, Below w.heap.size w w1 → Calls Try.prog 9 #[.slice a2 n2 c2] w1 fun e w' => ∃ a' cap', e = .returned (.slice a' n2 cap') ∧ Pths w' a' qss ∧ Below w1.heap.size w1 w') := by
    intro h w1 hb
    rw [hn2] at h ⊢
    exact clP_any a2 c2 qss w1 (by omega) h (hs2.below hb) nl2
  have HN0 : Hid (n0 = ls.length) := hn0
  have HN1 : Hid (n1 = pss.length) := hn1
  have HN2 : Hid (n2 = qss.length) := hn2
  have g1 : ¬ (4096 : Int) < (n0 : Int) := by omega
  have g2 : ¬ (4096 : Int) < (n1 : Int) := by omega
  have g3 : ¬ (4096 : Int) < (n2 : Int) := by omega
  clear hn0 hs0 hz0 hn1 hs1 hz1 hn2 hs2 hz2 nl0 nl1 nl2 M0 M1 M2
  go_enter Try.func3, Try.ntmps3
  go_wp2_with (first
    | (go_at_call 5; refine kb.mono ?_; rintro e w' ⟨⟨rb, rfl⟩, rfl⟩; clear kb; cases rb)
    | (go_at_call 6; refine k6.mono ?_; rintro e w' ⟨⟨y0, rfl, hy0, hy0', _⟩, rfl⟩; clear k6)
    | (go_at_call 7; refine k71.mono ?_; rintro e w' ⟨⟨y1, rfl, hy1, hy1', hY1⟩, rfl⟩; clear k71; have HY1 : Hid (y1 ≤ 1048576 → ∀ j, j < n1 → (pss.getD j []).length ≤ 1048576) := hY1; clear hY1)
    | (go_at_call 7; refine k72.mono ?_; rintro e w' ⟨⟨y2, rfl, hy2, hy2', hY2⟩, rfl⟩; clear k72; have HY2 : Hid (y2 ≤ 1048576 → ∀ j, j < n2 → (qss.getD j []).length ≤ 1048576) := hY2; clear hY2; by_cases g : (1048576 : Int) < y0 + y1 + y2)
    | (go_at_call 8; refine k8.mono ?_; rintro e w1 ⟨a0', c0', rfl, s0, b1, _, _⟩; clear k8; have S0 : Hid (Strs w1 a0' ls) := s0; have B1 : Hid (Below w.heap.size w w1) := b1; clear s0 b1; have I1 : Hid (∀ j, j < n1 → (pss.getD j []).length ≤ 1048576) := HY1.out (by omega); have I2 : Hid (∀ j, j < n2 → (qss.getD j []).length ≤ 1048576) := HY2.out (by omega); clear HY1 HY2)
    | (go_at_call 9; refine (K91.out I1.out w1 B1.out).mono ?_; rintro e w2 ⟨a1', c1', rfl, s1, b2⟩; clear K91; have S1 : Hid (Pths w2 a1' pss) := s1; have B2 : Hid (Below w1.heap.size w1 w2) := b2; clear s1 b2)
    | (go_at_call 9; refine (K92.out I2.out w2 (B1.out.trans (B2.out.mono B1.out.size))).mono ?_; rintro e w3 ⟨a2', c2', rfl, s2, b3⟩; clear K92; have S2 : Hid (Pths w3 a2' qss) := s2; have B3 : Hid (Below w2.heap.size w2 w3) := b3; clear s2 b3)
    | (go_at_call 10; refine (build_any r a0' n0 c0' ls w3 HN0.out ((S0.out.below B2.out).below B3.out) (by omega)).mono ?_; rintro e w4 ⟨rfl, hm4, b4⟩; have HM : Hid (Mid r ls pss w3 w4 0) := (by obtain ⟨F, h1, h2⟩ := hm4; exact ⟨F, h1, h2, b4⟩); clear hm4 b4))
  · go_ret
    exact ⟨rfl, Below.refl _ _⟩
  · go_ret
    exact ⟨rfl, Below.refl _ _⟩
  · have P0 : Hid (Strs w3 a0' ls) := (S0.out.below B2.out).below B3.out
    have P1 : Hid (Pths w3 a1' pss) := S1.out.below B3.out
    have P2 : Hid (Pths w3 a2' qss) := S2.out
    have B : Hid (Below w.heap.size w w3) := B1.out.trans ((B2.out.trans (B3.out.mono B2.out.size)).mono B1.out.size)
    clear S0 S1 S2 B1 B2 B3
    go_loopw [10] (fun v10 wr => ∃ i : Nat, i ≤ n1 ∧ v10 = .int .i64 (i : Int) ∧ Mid r ls pss w3 wr i) (fun v10 _ => n1 - (intOf v10).toNat)
    case atStart => exact ⟨0, Nat.zero_le _, rfl, HM.out⟩
    case round =>
      clear HM
      obtain ⟨i, hi, rfl, hM⟩ := hrel
      have HM : Hid (Mid r ls pss w3 wr i) := hM
      clear hM
      by_cases hlt : i < n1
      · obtain ⟨B0, o, aj, cj, ha, hc, key⟩ := HM.out.call P1.out (by rw [← HN1.out]; exact hlt) (fun j hj => I1.out j (by rw [HN1.out]; exact hj))
        obtain ⟨l, hl⟩ : ∃ l, l = (pss.getD i []).length := ⟨_, rfl⟩
        have hlb : l ≤ 1048576 := by rw [hl]; exact I1.out i hlt
        rw [← hl] at hc key
        subst ha
        clear hl HM
        go_wp2_with (go_at_call 11; go_must (refine key.mono ?_; rintro e w5 ⟨rfl, hm5⟩; have HM5 : Hid (Mid r ls pss w3 w5 (i + 1)) := hm5; clear hm5 key))
        go_roundw
        case rel => exact ⟨i + 1, by omega, by go_num, HM5.out⟩
        case measure => simp [intOf]; omega
      · obtain rfl : i = n1 := by omega
        obtain ⟨wB, rfl⟩ : ∃ x, x = wr := ⟨_, rfl⟩
        go_wp2
        go_loopw [11, 12] (fun v11 v12 wr => ∃ j k : Nat, j ≤ n2 ∧ v11 = .int .i64 (j : Int) ∧ wr = wB.drewN k) (fun v11 _ _ => n2 - (intOf v11).toNat)
        case atStart => exact ⟨0, 0, Nat.zero_le _, rfl, rfl⟩
        case round =>
          obtain ⟨j, k, hj, rfl, rfl⟩ := hrel
          by_cases hlt2 : j < n2
          · obtain ⟨B0, o, aj, cj, ha, hc, hlb, b, k12, k13⟩ := HM.out.ask (i := j) (c0 := c0') (c1 := c1') HN0.out P0.out (by omega) HN1.out P1.out (by omega) P2.out (by rw [← HN2.out]; exact hlt2) (fun j hj => I1.out j (by rw [HN1.out]; exact hj)) (fun j hj => I2.out j (by rw [HN2.out]; exact hj)) k
            obtain ⟨l, hl⟩ : ∃ l, l = (qss.getD j []).length := ⟨_, rfl⟩
            rw [← hl] at hc hlb k12 k13
            subst ha
            clear hl
            by_cases h0 : l = 0
            · clear k12 k13
              subst h0
              go_wp2
              go_roundw
              case rel => exact ⟨j + 1, k, by omega, by go_num, rfl⟩
              case measure => simp [intOf]; omega
            · have e0 : ((l : Int) == 0) = false := by simp; omega
              have q12 := k12 h0
              have q13 := k13 h0
              clear k12 k13 h0
              cases b with
              | true =>
                go_wp2_with (first
                  | (go_at_call 12; go_must (refine q12.mono ?_; rintro e w6 ⟨rfl, rfl⟩; clear q12))
                  | (go_at_call 13; go_must (refine q13.mono ?_; rintro e w7 ⟨rfl, k', rfl⟩; clear q13)))
                go_roundw
                case rel => exact ⟨j + 1, k + k', by omega, by go_num, by simp⟩
                case measure => simp [intOf]; omega
              | false =>
                go_wp2_with (first
                  | (go_at_call 12; go_must (refine q12.mono ?_; rintro e w6 ⟨rfl, rfl⟩; clear q12))
                  | (go_at_call 13; go_must (refine q13.mono ?_; rintro e w7 ⟨rfl, k', rfl⟩; clear q13)))
                go_roundw
                case rel => exact ⟨j + 1, k + k', by omega, by go_num, by simp⟩
                case measure => simp [intOf]; omega
          · go_wp2
            go_ret
            obtain ⟨F, _, _, hb⟩ := HM.out
            exact ⟨rfl, below_drew (B.out.trans (hb.mono B.out.size)) k⟩
end Go.Proofs.Qxb6600609a
