/-
  'FnProfileKeepFinalClosedForm' (function 7): the ways that end early, and no call at all.
-/
import Derived.Test.Qxb6600554aLaw7
import Derived.Test.Qxb6600554aOpen
namespace Go.Proofs.Qxb6600554a
open Go.RowKit

set_option maxRecDepth 100000 in
set_option maxHeartbeats 1600000 in
theorem law7_off (a0 : Option Addr) (c0 : Nat) (ss : List ByteArray) (a1 : Option Addr) (l1 c1 : Nat) (a2 : Option Addr) (l2 c2 : Nat) (w : World) (hm0 : ss.length ≤ maxLen) (hm1 : l1 ≤ maxLen) (hm2 : l2 ≤ maxLen)
    (hr : RowAt Value.string ByteArray.empty w a0 ss) (hs : ∀ s ∈ ss, s.size ≤ maxLen) (h : ¬ (ss.length ≤ 4096 ∧ l1 = ss.length ∧ l2 = ss.length)) :
    Calls Try.prog 7 #[.slice a0 ss.length c0, .slice a1 l1 c1, .slice a2 l2 c2] w fun e w' => e = .returned (.bool true) ∧ Below w.heap.size w w' := by
  have kb := bytes20_any a0 c0 ss a1 l1 c1 a2 l2 c2 w hm0 hm1 hm2 hr hs
  have kf := fun h0 h1 h2 => fit_any a0 c0 ss a1 l1 c1 a2 l2 c2 w h0 h1 h2 hr
  unfold maxLen at hm0 hm1 hm2
  obtain ⟨n, hn⟩ : ∃ n, n = ss.length := ⟨_, rfl⟩
  rw [← hn] at kb kf h hm0 ⊢
  clear hn hr hs
  have hc : 4096 < n ∨ (n ≤ 4096 ∧ 4096 < l1) ∨ (n ≤ 4096 ∧ l1 ≤ 4096 ∧ 4096 < l2) ∨ (n ≤ 4096 ∧ l1 ≤ 4096 ∧ l2 ≤ 4096 ∧ l1 ≠ n) ∨ (n ≤ 4096 ∧ l1 = n ∧ l2 ≤ 4096 ∧ l2 ≠ n) := by omega
  clear h
  rcases hc with h | ⟨h1, h2⟩ | ⟨h1, h2, h3⟩ | ⟨h1, h2, h3, h4⟩ | ⟨h1, rfl, h3, h4⟩
  · clear kf
    have g1 : (4096 : Int) < (n : Int) := by omega
    go_enter Try.func7, Try.ntmps7
    go_wp2_with (go_at_call 20; refine kb.mono ?_; rintro e w' ⟨⟨r, rfl⟩, rfl⟩; clear kb; cases r)
    all_goals (go_ret; exact ⟨rfl, Below.refl _ _⟩)
  · clear kf
    have g1 : ¬ (4096 : Int) < (n : Int) := by omega
    have g2 : (4096 : Int) < (l1 : Int) := by omega
    go_enter Try.func7, Try.ntmps7
    go_wp2_with (go_at_call 20; refine kb.mono ?_; rintro e w' ⟨⟨r, rfl⟩, rfl⟩; clear kb; cases r)
    all_goals (go_ret; exact ⟨rfl, Below.refl _ _⟩)
  · clear kf
    have g1 : ¬ (4096 : Int) < (n : Int) := by omega
    have g2 : ¬ (4096 : Int) < (l1 : Int) := by omega
    have g3 : (4096 : Int) < (l2 : Int) := by omega
    go_enter Try.func7, Try.ntmps7
    go_wp2_with (go_at_call 20; refine kb.mono ?_; rintro e w' ⟨⟨r, rfl⟩, rfl⟩; clear kb; cases r)
    all_goals (go_ret; exact ⟨rfl, Below.refl _ _⟩)
  · have kf' := kf h1 h2 h3
    clear kf
    have g1 : ¬ (4096 : Int) < (n : Int) := by omega
    have g2 : ¬ (4096 : Int) < (l1 : Int) := by omega
    have g3 : ¬ (4096 : Int) < (l2 : Int) := by omega
    have g4 : ((l1 : Int) != (n : Int)) = true := by simp; omega
    go_enter Try.func7, Try.ntmps7
    go_wp2_with (first | (go_at_call 20; refine kb.mono ?_; rintro e w' ⟨⟨r, rfl⟩, rfl⟩; clear kb; cases r) | (go_at_call 21; refine kf'.mono ?_; rintro e w' ⟨⟨r, rfl⟩, rfl⟩; clear kf'; cases r))
    all_goals (go_ret; exact ⟨rfl, Below.refl _ _⟩)
  · have kf' := kf h1 h1 h3
    clear kf
    have g1 : ¬ (4096 : Int) < (l1 : Int) := by omega
    have g3 : ¬ (4096 : Int) < (l2 : Int) := by omega
    have g4 : ((l1 : Int) != (l1 : Int)) = false := by simp
    have g5 : ((l2 : Int) != (l1 : Int)) = true := by simp; omega
    go_enter Try.func7, Try.ntmps7
    go_wp2_with (first | (go_at_call 20; refine kb.mono ?_; rintro e w' ⟨⟨r, rfl⟩, rfl⟩; clear kb; cases r) | (go_at_call 21; refine kf'.mono ?_; rintro e w' ⟨⟨r, rfl⟩, rfl⟩; clear kf'; cases r))
    all_goals (go_ret; exact ⟨rfl, Below.refl _ _⟩)

set_option maxRecDepth 100000 in
set_option maxHeartbeats 1600000 in
theorem law7_zero (a0 : Option Addr) (c0 : Nat) (a1 : Option Addr) (c1 : Nat) (a2 : Option Addr) (c2 : Nat) (w : World) (n0 : a0 = none → c0 = 0) (n1 : a1 = none → c1 = 0) (n2 : a2 = none → c2 = 0) :
    Calls Try.prog 7 #[.slice a0 0 c0, .slice a1 0 c1, .slice a2 0 c2] w fun e w' => e = .returned (.bool true) ∧ Below w.heap.size w w' := by
  have kb := bytes20_any a0 c0 [] a1 0 c1 a2 0 c2 w (by simp) (by simp) (by simp) (.inl rfl) (fun s hs => absurd hs List.not_mem_nil)
  have kf := fit_any a0 c0 [] a1 0 c1 a2 0 c2 w (by simp) (by simp) (by simp) (.inl rfl)
  have k0 := clS_any a0 c0 [] w (by simp) (.inl rfl) n0
  have k1 := fun w1 => clB_any a1 c1 [] w1 (by simp) (.inl rfl) n1
  have k2 := fun w1 => clI_any a2 c2 [] w1 (by simp) (.inl rfl) n2
  simp only [List.length_nil] at kb kf k0 k1 k2
  clear n0 n1 n2
  obtain ⟨i9, hi9, hz90, hz91, hz92⟩ := info_parts Try.info9
  obtain ⟨i39, hi39, hz390, hz391, hz392⟩ := info_parts Try.info39
  go_enter Try.func7, Try.ntmps7
  go_wp2_with (first
    | (go_at_call 20; refine kb.mono ?_; rintro e w' ⟨⟨r, rfl⟩, rfl⟩; clear kb; cases r)
    | (go_at_call 21; refine kf.mono ?_; rintro e w' ⟨⟨r, rfl⟩, rfl⟩; clear kf; cases r))
  · go_ret
    exact ⟨rfl, Below.refl _ _⟩
  · go_ret
    exact ⟨rfl, Below.refl _ _⟩
  · refine wp_loop_rounds 1 ?_
    rw [rounds_succ]
    go_wp2_with (first
      | (go_at_call 22; refine k0.mono ?_; rintro e w1 ⟨a0', c0', rfl, _, b1, _⟩; clear k0)
      | (go_at_call 23; refine (k1 _).mono ?_; rintro e w2 ⟨a1', c1', rfl, _, b2, _⟩; have b2' := b1.trans (b2.mono b1.size))
      | (go_at_call 24; refine (k2 _).mono ?_; rintro e w3 ⟨a2', c2', rfl, _, b3, _⟩; have b3' := b2'.trans (b3.mono b2'.size))
      | (go_at_call 25; refine (zznew_any _).mono ?_; rintro e w4 ⟨rfl, hw4⟩; have s4 : w4.heap.size = w3.heap.size + 3 := (by rw [hw4]; simp); have b4 : Below w3.heap.size w3 w4 := (by rw [hw4]; exact (((Below.refl _ _).alloc (Nat.le_refl _) _).alloc (by simp) _).alloc (by simp; omega) _); clear hw4)
      | (at_make; refine wpList_make_full _ rfl _ _ 41 rfl w3.heap.size 39 i39 (.pointer none) 1 Try.underlying41 hi39 hz390 hz391 _ _ _ _ 0 rfl rfl (by omega) (by omega) (by rw [hz392]; omega) (by unfold maxLen; omega) (by omega) ?_; intro w5 own5 g5)
      | (at_make; refine wpList_make_own _ rfl _ _ 32 rfl w3.heap.size 9 i9 (.string ByteArray.empty) 1 Try.underlying32 hi9 hz90 hz91 _ _ _ 0 rfl rfl (by omega) (by rw [hz92]; omega) (by unfold maxLen; omega) (by have := g5.size; omega) ?_; intro w6 own6 g6))
    have hf : Below w'.heap.size w' w6 := ((b3'.trans (b4.mono b3'.size)).grown g5 (by have := b3'.size; have := b4.size; omega) (by simp)).grown g6 (by have := b3'.size; have := b4.size; have := g5.size; omega) (by simp)
    clear k1 k2 own5 own6 g5 g6 hz90 hz91 hz92 hz390 hz391 hz392 hi9 hi39
    refine wp_loop_rounds 1 ?_
    rw [rounds_succ]
    go_wp2
    go_ret
    exact ⟨rfl, hf⟩
end Go.Proofs.Qxb6600554a
