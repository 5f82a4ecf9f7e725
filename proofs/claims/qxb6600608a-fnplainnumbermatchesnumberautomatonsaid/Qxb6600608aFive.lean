/-
  'FnPlainNumberMatchesNumberAutomaton' (function 5), by cases.
-/
import Derived.Test.Qxb6600608aSame
namespace Go.Proofs.Qxb6600608a
open Go.RowKit
open Plain
set_option linter.unusedVariables false

/-- The law's end: true, and nothing old written. -/
def Good (w : World) (e : Ending) (w' : World) : Prop := e = .returned (.bool true) ∧ Below w.heap.size w w'

/-- The bytes lie there, and their block is one of the heap. -/
def Held (w : World) (a : Option Addr) (n : Nat) (b : Nat → Int) : Prop := Byt w a n b ∧ ∀ x, a = some x → x.block < w.heap.size

theorem below_drewN {B : Nat} {a w : World} (h : Below B a w) (q : Nat) : Below B a (w.drewN q) := ⟨h.os, h.tape, h.output, h.size, h.block⟩
theorem sum_le (a : Option Addr) (n c : Nat) (i depth : Int) (bad : Bool) (w : World) (h : n ≤ 1048576) : Calls Try.prog 19 #[.slice a n c, .int .i64 i, .int .i64 depth, .bool bad] w fun e w' => e = .returned (.bool true) ∧ w = w' := by
  have h1 : (n : Int) ≤ 1048576 := by omega
  go_enter Try.func19, Try.ntmps19
  go_wp2
  go_ret
  exact ⟨rfl, rfl⟩
theorem sum_gt (a : Option Addr) (n c : Nat) (i depth : Int) (bad : Bool) (w : World) (h : ¬ n ≤ 1048576) (hm : n ≤ maxLen) : Calls Try.prog 19 #[.slice a n c, .int .i64 i, .int .i64 depth, .bool bad] w fun e w' => e = .returned (.bool false) ∧ w = w' := by
  unfold maxLen at hm
  have h1 : ¬ (n : Int) ≤ 1048576 := by omega
  have h2 : (1048576 : Int) < n := by omega
  go_enter Try.func19, Try.ntmps19
  go_wp2
  go_ret
  exact ⟨rfl, rfl⟩
theorem cell_of {w : World} {B n : Nat} {b : Nat → Int} (h : Byt w (some ⟨B, 0, none⟩) n b) {j : Nat} (hj : j < n) : w.cell? ⟨B, 0 + j, none⟩ = some (.int .u8 (b j)) := by
  obtain ⟨B', o', e, hc⟩ := h.2 j hj
  cases e
  exact hc
theorem view_of {w : World} {B n : Nat} {b : Nat → Int} (h : Byt w (some ⟨B, 0, none⟩) n b) {p E : Nat} (hE : p + E ≤ n) : ∀ j, j < E → ∃ z : Int, w.cell? ⟨B, p + j, none⟩ = some (.int .u8 z) := by
  intro j hj
  have := cell_of h (j := p + j) (by omega)
  simp only [Nat.zero_add] at this
  exact ⟨_, this⟩

set_option maxRecDepth 100000 in
set_option maxHeartbeats 3200000 in
/-- No number: the end of the text. -/
theorem five_A0 (a0 : Option Addr) (n c0 B : Nat) (a : Option Addr) (i p E : Nat) (b : Nat → Int) (depth : Int) (bad : Bool) (w : World) (hl : n ≤ 1048576) (hi : i ≤ n)
    (k20 : Calls Try.prog 20 #[.slice a0 n c0] w fun e w' => e = .returned (.slice a n n) ∧ Held w' a n b ∧ Below w.heap.size w w')
    (k21 : ∀ w', Held w' a n b → Calls Try.prog 21 #[.slice a n n, .int .i64 i] w' fun e w'' => e = .returned (.int .i64 p) ∧ w'' = w')
    (k22 : ∀ w', Held w' a n b → Calls Try.prog 22 #[.slice a n n, .int .i64 p] w' fun e w'' => e = .returned (.tuple #[.int .i64 (p + E), .bool false]) ∧ w'' = w')
    (k23 : ∀ w', Held w' a n b → Calls Try.prog 23 #[.slice a n n, .int .i64 i, .int .i64 depth, .bool bad] w' (ZZPost (.slice none 0 0) (p) depth bad w'))
    (hp : n ≤ p) :
    Calls Try.prog 5 #[.slice a0 n c0, .int .i64 i, .int .i64 depth, .bool bad] w (Good w) := by
  have hi' : ¬ (n : Int) < (i : Int) := by omega
  have hi2 : ¬ (i : Int) < 0 := by omega
  have hnil := fun w => Lib.run_eql_slice_nil (P := Try.prog) w 33 5 none 0 0 0 0 Try.underlying33
  have hp1 : ¬ (p : Int) < (n : Int) := by omega
  go_enter Try.func5, Try.ntmps5
  go_wp2_with (first | (go_at_call 19; go_must (refine (sum_le _ _ _ _ _ _ _ hl).mono ?_; rintro e w1 ⟨rfl, rfl⟩)) | (go_at_call 20; go_must (refine k20.mono ?_; rintro e w1 ⟨rfl, hb1, hl1⟩; have k21' := k21 w1 hb1; have k22' := k22 w1 hb1; have k23' := k23 w1 hb1; clear k20 k21 k22 k23)) | (go_at_call 21; go_must (refine k21'.mono ?_; rintro e w2 ⟨rfl, rfl⟩; clear k21')) | (go_at_call 22; go_must (refine k22'.mono ?_; rintro e w2 ⟨rfl, rfl⟩; clear k22')) | (go_at_call 23; go_must (refine k23'.mono ?_; rintro e w2 ⟨z0, z1, z2, z3, z4, z5, zf, rfl, hl2⟩; have HB : Hid (Below w.heap.size w w2) := hl1.trans (hl2.mono hl1.size); have hb2 := hb1.1.below hl2; clear k23')))
  go_ret
  exact ⟨rfl, HB.out⟩

set_option maxRecDepth 100000 in
set_option maxHeartbeats 3200000 in
/-- No number: no quote. -/
theorem five_A1 (a0 : Option Addr) (n c0 B : Nat) (a : Option Addr) (i p E : Nat) (b : Nat → Int) (depth : Int) (bad : Bool) (w : World) (hl : n ≤ 1048576) (hi : i ≤ n)
    (k20 : Calls Try.prog 20 #[.slice a0 n c0] w fun e w' => e = .returned (.slice (some ⟨B, 0, none⟩) n n) ∧ Held w' (some ⟨B, 0, none⟩) n b ∧ Below w.heap.size w w')
    (k21 : ∀ w', Held w' (some ⟨B, 0, none⟩) n b → Calls Try.prog 21 #[.slice (some ⟨B, 0, none⟩) n n, .int .i64 i] w' fun e w'' => e = .returned (.int .i64 p) ∧ w'' = w')
    (k22 : ∀ w', Held w' (some ⟨B, 0, none⟩) n b → Calls Try.prog 22 #[.slice (some ⟨B, 0, none⟩) n n, .int .i64 p] w' fun e w'' => e = .returned (.tuple #[.int .i64 (p + E), .bool false]) ∧ w'' = w')
    (k23 : ∀ w', Held w' (some ⟨B, 0, none⟩) n b → Calls Try.prog 23 #[.slice (some ⟨B, 0, none⟩) n n, .int .i64 i, .int .i64 depth, .bool bad] w' (ZZPost (.slice none 0 0) (p) depth bad w'))
    (hp : p < n) (hx : b p ≠ 34) :
    Calls Try.prog 5 #[.slice a0 n c0, .int .i64 i, .int .i64 depth, .bool bad] w (Good w) := by
  have hi' : ¬ (n : Int) < (i : Int) := by omega
  have hi2 : ¬ (i : Int) < 0 := by omega
  have hnil := fun w => Lib.run_eql_slice_nil (P := Try.prog) w 33 5 none 0 0 0 0 Try.underlying33
  have hp1 : (p : Int) < (n : Int) := by omega
  have hx1 : (b p == 34) = false := by simpa using hx
  go_enter Try.func5, Try.ntmps5
  go_wp2_with (first | (go_at_call 19; go_must (refine (sum_le _ _ _ _ _ _ _ hl).mono ?_; rintro e w1 ⟨rfl, rfl⟩)) | (go_at_call 20; go_must (refine k20.mono ?_; rintro e w1 ⟨rfl, hb1, hl1⟩; have k21' := k21 w1 hb1; have k22' := k22 w1 hb1; have k23' := k23 w1 hb1; have g1 := (cell_of hb1.1 (j := p) (by omega)); simp only [Nat.zero_add] at g1; clear k20 k21 k22 k23)) | (go_at_call 21; go_must (refine k21'.mono ?_; rintro e w2 ⟨rfl, rfl⟩; clear k21')) | (go_at_call 22; go_must (refine k22'.mono ?_; rintro e w2 ⟨rfl, rfl⟩; clear k22')) | (go_at_call 23; go_must (refine k23'.mono ?_; rintro e w2 ⟨z0, z1, z2, z3, z4, z5, zf, rfl, hl2⟩; have HB : Hid (Below w.heap.size w w2) := hl1.trans (hl2.mono hl1.size); have hb2 := hb1.1.below hl2; clear k23')))
  go_ret
  exact ⟨rfl, HB.out⟩

set_option maxRecDepth 100000 in
set_option maxHeartbeats 3200000 in
/-- No number behind the quote. -/
theorem five_A2 (a0 : Option Addr) (n c0 B : Nat) (a : Option Addr) (i p E : Nat) (b : Nat → Int) (depth : Int) (bad : Bool) (w : World) (hl : n ≤ 1048576) (hi : i ≤ n)
    (k20 : Calls Try.prog 20 #[.slice a0 n c0] w fun e w' => e = .returned (.slice (some ⟨B, 0, none⟩) n n) ∧ Held w' (some ⟨B, 0, none⟩) n b ∧ Below w.heap.size w w')
    (k21 : ∀ w', Held w' (some ⟨B, 0, none⟩) n b → Calls Try.prog 21 #[.slice (some ⟨B, 0, none⟩) n n, .int .i64 i] w' fun e w'' => e = .returned (.int .i64 p) ∧ w'' = w')
    (k22 : ∀ w', Held w' (some ⟨B, 0, none⟩) n b → Calls Try.prog 22 #[.slice (some ⟨B, 0, none⟩) n n, .int .i64 ((p : Int) + 1)] w' fun e w'' => e = .returned (.tuple #[.int .i64 (((p : Int) + 1) + E), .bool false]) ∧ w'' = w')
    (k23 : ∀ w', Held w' (some ⟨B, 0, none⟩) n b → Calls Try.prog 23 #[.slice (some ⟨B, 0, none⟩) n n, .int .i64 i, .int .i64 depth, .bool bad] w' (ZZPost (.slice none 0 0) (p) depth bad w'))
    (hp : p < n) (hx : b p = 34) :
    Calls Try.prog 5 #[.slice a0 n c0, .int .i64 i, .int .i64 depth, .bool bad] w (Good w) := by
  have hi' : ¬ (n : Int) < (i : Int) := by omega
  have hi2 : ¬ (i : Int) < 0 := by omega
  have hnil := fun w => Lib.run_eql_slice_nil (P := Try.prog) w 33 5 none 0 0 0 0 Try.underlying33
  have hp1 : (p : Int) < (n : Int) := by omega
  go_enter Try.func5, Try.ntmps5
  go_wp2_with (first | (go_at_call 19; go_must (refine (sum_le _ _ _ _ _ _ _ hl).mono ?_; rintro e w1 ⟨rfl, rfl⟩)) | (go_at_call 20; go_must (refine k20.mono ?_; rintro e w1 ⟨rfl, hb1, hl1⟩; have k21' := k21 w1 hb1; have k22' := k22 w1 hb1; have k23' := k23 w1 hb1; have g1 := (cell_of hb1.1 (j := p) (by omega)); simp only [Nat.zero_add] at g1; rw [hx] at g1; clear k20 k21 k22 k23)) | (go_at_call 21; go_must (refine k21'.mono ?_; rintro e w2 ⟨rfl, rfl⟩; clear k21')) | (go_at_call 22; go_must (refine k22'.mono ?_; rintro e w2 ⟨rfl, rfl⟩; clear k22')) | (go_at_call 23; go_must (refine k23'.mono ?_; rintro e w2 ⟨z0, z1, z2, z3, z4, z5, zf, rfl, hl2⟩; have HB : Hid (Below w.heap.size w w2) := hl1.trans (hl2.mono hl1.size); have hb2 := hb1.1.below hl2; clear k23')))
  go_ret
  exact ⟨rfl, HB.out⟩

set_option maxRecDepth 100000 in
set_option maxHeartbeats 3200000 in
/-- A number, a quote ahead, and the end of the text. -/
theorem five_C (a0 : Option Addr) (n c0 B : Nat) (a : Option Addr) (i p E : Nat) (b : Nat → Int) (depth : Int) (bad : Bool) (w : World) (hl : n ≤ 1048576) (hi : i ≤ n)
    (k20 : Calls Try.prog 20 #[.slice a0 n c0] w fun e w' => e = .returned (.slice (some ⟨B, 0, none⟩) n n) ∧ Held w' (some ⟨B, 0, none⟩) n b ∧ Below w.heap.size w w')
    (k21 : ∀ w', Held w' (some ⟨B, 0, none⟩) n b → Calls Try.prog 21 #[.slice (some ⟨B, 0, none⟩) n n, .int .i64 i] w' fun e w'' => e = .returned (.int .i64 p) ∧ w'' = w')
    (k22 : ∀ w', Held w' (some ⟨B, 0, none⟩) n b → Calls Try.prog 22 #[.slice (some ⟨B, 0, none⟩) n n, .int .i64 ((p : Int) + 1)] w' fun e w'' => e = .returned (.tuple #[.int .i64 (((p : Int) + 1) + E), .bool true]) ∧ w'' = w')
    (k23 : ∀ w', Held w' (some ⟨B, 0, none⟩) n b → Calls Try.prog 23 #[.slice (some ⟨B, 0, none⟩) n n, .int .i64 i, .int .i64 depth, .bool bad] w' (ZZPost (.slice none 0 0) (p) depth bad w'))
    (hp : p < n) (hx : b p = 34) (hE : p + 1 + E = n) :
    Calls Try.prog 5 #[.slice a0 n c0, .int .i64 i, .int .i64 depth, .bool bad] w (Good w) := by
  have hi' : ¬ (n : Int) < (i : Int) := by omega
  have hi2 : ¬ (i : Int) < 0 := by omega
  have hnil := fun w => Lib.run_eql_slice_nil (P := Try.prog) w 33 5 none 0 0 0 0 Try.underlying33
  have hp1 : (p : Int) < (n : Int) := by omega
  have hE1 : (p : Int) + 1 + E = n := by omega
  go_enter Try.func5, Try.ntmps5
  go_wp2_with (first | (go_at_call 19; go_must (refine (sum_le _ _ _ _ _ _ _ hl).mono ?_; rintro e w1 ⟨rfl, rfl⟩)) | (go_at_call 20; go_must (refine k20.mono ?_; rintro e w1 ⟨rfl, hb1, hl1⟩; have k21' := k21 w1 hb1; have k22' := k22 w1 hb1; have k23' := k23 w1 hb1; have g1 := (cell_of hb1.1 (j := p) (by omega)); simp only [Nat.zero_add] at g1; rw [hx] at g1; clear k20 k21 k22 k23)) | (go_at_call 21; go_must (refine k21'.mono ?_; rintro e w2 ⟨rfl, rfl⟩; clear k21')) | (go_at_call 22; go_must (refine k22'.mono ?_; rintro e w2 ⟨rfl, rfl⟩; clear k22')) | (go_at_call 23; go_must (refine k23'.mono ?_; rintro e w2 ⟨z0, z1, z2, z3, z4, z5, zf, rfl, hl2⟩; have HB : Hid (Below w.heap.size w w2) := hl1.trans (hl2.mono hl1.size); have hb2 := hb1.1.below hl2; clear k23')))
  go_ret
  exact ⟨rfl, HB.out⟩

set_option maxRecDepth 100000 in
set_option maxHeartbeats 3200000 in
/-- A number, a quote ahead, and no quote behind. -/
theorem five_D (a0 : Option Addr) (n c0 B : Nat) (a : Option Addr) (i p E : Nat) (b : Nat → Int) (depth : Int) (bad : Bool) (w : World) (hl : n ≤ 1048576) (hi : i ≤ n)
    (k20 : Calls Try.prog 20 #[.slice a0 n c0] w fun e w' => e = .returned (.slice (some ⟨B, 0, none⟩) n n) ∧ Held w' (some ⟨B, 0, none⟩) n b ∧ Below w.heap.size w w')
    (k21 : ∀ w', Held w' (some ⟨B, 0, none⟩) n b → Calls Try.prog 21 #[.slice (some ⟨B, 0, none⟩) n n, .int .i64 i] w' fun e w'' => e = .returned (.int .i64 p) ∧ w'' = w')
    (k22 : ∀ w', Held w' (some ⟨B, 0, none⟩) n b → Calls Try.prog 22 #[.slice (some ⟨B, 0, none⟩) n n, .int .i64 ((p : Int) + 1)] w' fun e w'' => e = .returned (.tuple #[.int .i64 (((p : Int) + 1) + E), .bool true]) ∧ w'' = w')
    (k23 : ∀ w', Held w' (some ⟨B, 0, none⟩) n b → Calls Try.prog 23 #[.slice (some ⟨B, 0, none⟩) n n, .int .i64 i, .int .i64 depth, .bool bad] w' (ZZPost (.slice none 0 0) (p) depth bad w'))
    (hp : p < n) (hx : b p = 34) (hE : p + 1 + E < n) (hy : b (p + 1 + E) ≠ 34) :
    Calls Try.prog 5 #[.slice a0 n c0, .int .i64 i, .int .i64 depth, .bool bad] w (Good w) := by
  have hi' : ¬ (n : Int) < (i : Int) := by omega
  have hi2 : ¬ (i : Int) < 0 := by omega
  have hnil := fun w => Lib.run_eql_slice_nil (P := Try.prog) w 33 5 none 0 0 0 0 Try.underlying33
  have hp1 : (p : Int) < (n : Int) := by omega
  have hE1 : (p : Int) + 1 + E < n := by omega
  have hE2 : ((p : Int) + 1 + E == n) = false := by simp; omega
  obtain ⟨y, hyv⟩ : ∃ y, y = b (p + 1 + E) := ⟨_, rfl⟩
  rw [← hyv] at hy
  have hy1 : (y != 34) = true := by simpa using hy
  go_enter Try.func5, Try.ntmps5
  go_wp2_with (first | (go_at_call 19; go_must (refine (sum_le _ _ _ _ _ _ _ hl).mono ?_; rintro e w1 ⟨rfl, rfl⟩)) | (go_at_call 20; go_must (refine k20.mono ?_; rintro e w1 ⟨rfl, hb1, hl1⟩; have k21' := k21 w1 hb1; have k22' := k22 w1 hb1; have k23' := k23 w1 hb1; have g1 := (cell_of hb1.1 (j := p) (by omega)); simp only [Nat.zero_add] at g1; rw [hx] at g1; have g2 := (cell_of hb1.1 (j := p + 1 + E) (by omega)); simp only [Nat.zero_add] at g2; rw [← hyv] at g2; clear k20 k21 k22 k23)) | (go_at_call 21; go_must (refine k21'.mono ?_; rintro e w2 ⟨rfl, rfl⟩; clear k21')) | (go_at_call 22; go_must (refine k22'.mono ?_; rintro e w2 ⟨rfl, rfl⟩; clear k22')) | (go_at_call 23; go_must (refine k23'.mono ?_; rintro e w2 ⟨z0, z1, z2, z3, z4, z5, zf, rfl, hl2⟩; have HB : Hid (Below w.heap.size w w2) := hl1.trans (hl2.mono hl1.size); have hb2 := hb1.1.below hl2; clear k23')))
  go_ret
  exact ⟨rfl, HB.out⟩

set_option maxRecDepth 100000 in
set_option maxHeartbeats 3200000 in
/-- A bare number. -/
theorem five_B (a0 : Option Addr) (n c0 B : Nat) (a : Option Addr) (i p E : Nat) (b : Nat → Int) (depth : Int) (bad : Bool) (w : World) (hl : n ≤ 1048576) (hi : i ≤ n)
    (k20 : Calls Try.prog 20 #[.slice a0 n c0] w fun e w' => e = .returned (.slice (some ⟨B, 0, none⟩) n n) ∧ Held w' (some ⟨B, 0, none⟩) n b ∧ Below w.heap.size w w')
    (k21 : ∀ w', Held w' (some ⟨B, 0, none⟩) n b → Calls Try.prog 21 #[.slice (some ⟨B, 0, none⟩) n n, .int .i64 i] w' fun e w'' => e = .returned (.int .i64 p) ∧ w'' = w')
    (k22 : ∀ w', Held w' (some ⟨B, 0, none⟩) n b → Calls Try.prog 22 #[.slice (some ⟨B, 0, none⟩) n n, .int .i64 p] w' fun e w'' => e = .returned (.tuple #[.int .i64 (p + E), .bool true]) ∧ w'' = w')
    (k23 : ∀ w', Held w' (some ⟨B, 0, none⟩) n b → Calls Try.prog 23 #[.slice (some ⟨B, 0, none⟩) n n, .int .i64 i, .int .i64 depth, .bool bad] w' (ZZPost (.slice (some ⟨B, p, none⟩) E (n - p)) (p + E) depth bad w'))
    (hp : p < n) (hx : b p ≠ 34) (hE : p + E ≤ n) :
    Calls Try.prog 5 #[.slice a0 n c0, .int .i64 i, .int .i64 depth, .bool bad] w (Good w) := by
  have hi' : ¬ (n : Int) < (i : Int) := by omega
  have hi2 : ¬ (i : Int) < 0 := by omega
  have hnil := fun w => run_neq_slice_nil_any (P := Try.prog) w 33 5 (some ⟨B, p, none⟩) E (n - (p)) 0 0 Try.underlying33
  have hp1 : (p : Int) < (n : Int) := by omega
  have hx1 : (b p == 34) = false := by simpa using hx
  have h1 : ¬ n = p := by omega
  have h2 : (p : Int) + E ≤ n := by omega
  go_enter Try.func5, Try.ntmps5
  go_wp2_with (first | (go_at_call 19; go_must (refine (sum_le _ _ _ _ _ _ _ hl).mono ?_; rintro e w1 ⟨rfl, rfl⟩)) | (go_at_call 20; go_must (refine k20.mono ?_; rintro e w1 ⟨rfl, hb1, hl1⟩; have k21' := k21 w1 hb1; have k22' := k22 w1 hb1; have k23' := k23 w1 hb1; have g1 := (cell_of hb1.1 (j := p) (by omega)); simp only [Nat.zero_add] at g1; clear k20 k21 k22 k23)) | (go_at_call 21; go_must (refine k21'.mono ?_; rintro e w2 ⟨rfl, rfl⟩; clear k21')) | (go_at_call 22; go_must (refine k22'.mono ?_; rintro e w2 ⟨rfl, rfl⟩; clear k22')) | (go_at_call 23; go_must (refine k23'.mono ?_; rintro e w2 ⟨z0, z1, z2, z3, z4, z5, zf, rfl, hl2⟩; have HB : Hid (Below w.heap.size w w2) := hl1.trans (hl2.mono hl1.size); have hb2 := hb1.1.below hl2; clear k23')) | (go_at_call 24; go_must (refine (same_self B (p) E _ _ _ (view_of hb2 (by omega)) (by omega)).mono ?_; rintro e w3 ⟨rfl, q, rfl⟩)))
  go_ret
  exact ⟨rfl, below_drewN HB.out _⟩

set_option maxRecDepth 100000 in
set_option maxHeartbeats 3200000 in
/-- A number in quotes. -/
theorem five_E (a0 : Option Addr) (n c0 B : Nat) (a : Option Addr) (i p E : Nat) (b : Nat → Int) (depth : Int) (bad : Bool) (w : World) (hl : n ≤ 1048576) (hi : i ≤ n)
    (k20 : Calls Try.prog 20 #[.slice a0 n c0] w fun e w' => e = .returned (.slice (some ⟨B, 0, none⟩) n n) ∧ Held w' (some ⟨B, 0, none⟩) n b ∧ Below w.heap.size w w')
    (k21 : ∀ w', Held w' (some ⟨B, 0, none⟩) n b → Calls Try.prog 21 #[.slice (some ⟨B, 0, none⟩) n n, .int .i64 i] w' fun e w'' => e = .returned (.int .i64 p) ∧ w'' = w')
    (k22 : ∀ w', Held w' (some ⟨B, 0, none⟩) n b → Calls Try.prog 22 #[.slice (some ⟨B, 0, none⟩) n n, .int .i64 ((p : Int) + 1)] w' fun e w'' => e = .returned (.tuple #[.int .i64 (((p : Int) + 1) + E), .bool true]) ∧ w'' = w')
    (k23 : ∀ w', Held w' (some ⟨B, 0, none⟩) n b → Calls Try.prog 23 #[.slice (some ⟨B, 0, none⟩) n n, .int .i64 i, .int .i64 depth, .bool bad] w' (ZZPost (.slice (some ⟨B, p + 1, none⟩) E (n - (p + 1))) (p + 1 + E + 1) depth bad w'))
    (hp : p < n) (hx : b p = 34) (hE : p + 1 + E < n) (hy : b (p + 1 + E) = 34) :
    Calls Try.prog 5 #[.slice a0 n c0, .int .i64 i, .int .i64 depth, .bool bad] w (Good w) := by
  have hi' : ¬ (n : Int) < (i : Int) := by omega
  have hi2 : ¬ (i : Int) < 0 := by omega
  have hnil := fun w => run_neq_slice_nil_any (P := Try.prog) w 33 5 (some ⟨B, p + 1, none⟩) E (n - (p + 1)) 0 0 Try.underlying33
  have hp1 : (p : Int) < (n : Int) := by omega
  have hE1 : (p : Int) + 1 + E < n := by omega
  have hE2 : ((p : Int) + 1 + E == n) = false := by simp; omega
  have h1 : ¬ n = p + 1 := by omega
  have h2 : (p : Int) + 1 + E ≤ n := by omega
  go_enter Try.func5, Try.ntmps5
  go_wp2_with (first | (go_at_call 19; go_must (refine (sum_le _ _ _ _ _ _ _ hl).mono ?_; rintro e w1 ⟨rfl, rfl⟩)) | (go_at_call 20; go_must (refine k20.mono ?_; rintro e w1 ⟨rfl, hb1, hl1⟩; have k21' := k21 w1 hb1; have k22' := k22 w1 hb1; have k23' := k23 w1 hb1; have g1 := (cell_of hb1.1 (j := p) (by omega)); simp only [Nat.zero_add] at g1; rw [hx] at g1; have g2 := (cell_of hb1.1 (j := p + 1 + E) (by omega)); simp only [Nat.zero_add] at g2; rw [hy] at g2; clear k20 k21 k22 k23)) | (go_at_call 21; go_must (refine k21'.mono ?_; rintro e w2 ⟨rfl, rfl⟩; clear k21')) | (go_at_call 22; go_must (refine k22'.mono ?_; rintro e w2 ⟨rfl, rfl⟩; clear k22')) | (go_at_call 23; go_must (refine k23'.mono ?_; rintro e w2 ⟨z0, z1, z2, z3, z4, z5, zf, rfl, hl2⟩; have HB : Hid (Below w.heap.size w w2) := hl1.trans (hl2.mono hl1.size); have hb2 := hb1.1.below hl2; clear k23')) | (go_at_call 24; go_must (refine (same_self B (p + 1) E _ _ _ (view_of hb2 (by omega)) (by omega)).mono ?_; rintro e w3 ⟨rfl, q, rfl⟩)))
  go_ret
  exact ⟨rfl, below_drewN HB.out _⟩

theorem clU_empty0 (x : Addr) (cap : Nat) (w : World) :
    Calls Try.prog 20 #[.slice (some x) 0 cap] w fun e w' => e = .returned (.slice (some ⟨w.heap.size, 0, none⟩) 0 0) ∧ w.heap.size < w'.heap.size ∧ Below w.heap.size w w' := by
  have hnil := fun w => Lib.run_eql_slice_nil (P := Try.prog) w 33 5 (some x) 0 cap 0 0 Try.underlying33
  obtain ⟨i0, hi, hz0, hz1, hz2⟩ := info_parts Try.info5
  go_enter Try.func20, Try.ntmps20
  go_wp2_with (at_make; refine wpList_make_full _ rfl _ _ 33 rfl w.heap.size 5 i0 ((Value.int .u8) 0) 1 Try.underlying33 hi hz0 hz1 _ _ _ _ 0 rfl rfl (by omega) (by omega) (by rw [hz2]; omega) (by unfold maxLen; omega) (by omega) ?_; intro w1 hown hgrow)
  have hl1 : Below w.heap.size w w1 := (Below.refl _ _).grown hgrow (by omega) (by simp)
  have hlt : w.heap.size < w1.heap.size := by
    rcases hown.2 with ⟨h, _⟩ | ⟨g, cap, cur, hv, hb, hg, _⟩
    · cases h
    · cases hv; exact (Array.getElem?_eq_some_iff.1 hg).1
  clear hown hgrow hz0 hz1 hz2 hi hnil
  refine wp_loop_rounds 1 ?_
  rw [rounds_succ]
  go_wp2
  go_ret
  exact ⟨rfl, hlt, hl1⟩
end Go.Proofs.Qxb6600608a
