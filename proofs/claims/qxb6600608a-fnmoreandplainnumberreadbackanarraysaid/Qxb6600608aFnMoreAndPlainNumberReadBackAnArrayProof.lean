/-
  'Rows.FnMoreAndPlainNumberReadBackAnArraySaid' proved. The frame: written by the kit's proof-skeleton.mjs.
-/
import Derived.Test.Qxb6600608aRows
import Derived.WalkKit
import Derived.ProofKit
import Derived.ShutString
import Derived.ChangeOld
import Derived.Below
import Derived.Test.Qxb6600608aEight
namespace Go.Proofs.Qxb6600608a.fnMoreAndPlainNumberReadBackAnArray
open Go.ChangeShapes Go.WideShapes Go.ChangeAt Go.RowKit
open Go.ChangeMaps (open_string shut_string)
open Plain
set_option linter.unusedVariables false

theorem own : ownKnob Try.prog.godebug = none := by kernel_rfl
theorem laidOut : laidOutB Try.prog = true := by kernel_rfl

/-- What the walk is told of a slice of integers that came in. -/
def IsRow (k : IntKind) (w : World) (a : Option Addr) (len cap : Nat) (zs : List Int) : Prop :=
  (a = none ∧ len = 0 ∧ cap = 0 ∧ zs = []) ∨
  ∃ x, a = some x ∧ len ≤ cap ∧ cap ≤ maxLen ∧ zs.length = cap ∧ (∀ i, i < zs.length → w.cell? (x.add i) = some (.int k (zs.getD i 0))) ∧ ∀ n ∈ zs, (Lit.int k n).wf = true

theorem u8_bd {n : Int} (h : (Lit.int .u8 n).wf = true) : 0 ≤ n ∧ n ≤ 255 := by
  simp [Lit.wf, IntKind.min, IntKind.max, IntKind.signed, IntKind.bits] at h
  omega
theorem i64_bd {n : Int} (h : (Lit.int .i64 n).wf = true) : n < 9223372036854775808 ∧ -9223372036854775808 ≤ n := by
  simp [Lit.wf, IntKind.min, IntKind.max, IntKind.signed, IntKind.bits] at h
  omega
theorem add_plain (b off i : Nat) : (Addr.mk b off none).add i = ⟨b, off + i, none⟩ := by
  simp [Addr.add]

theorem row_of {k : IntKind} {w : World} {a : Option Addr} {len cap : Nat} {zs : List Int} (h : IsRow k w a len cap zs) :
    ∃ ys : List Int, ys.length = len ∧ len ≤ maxLen ∧ RowAt (Value.int k) 0 w a ys ∧ (a = none → cap = 0) ∧ ∀ n ∈ ys, (Lit.int k n).wf = true := by
  rcases h with ⟨rfl, rfl, rfl, rfl⟩ | ⟨x, rfl, hl, hm, hz, hc, hw⟩
  · exact ⟨[], rfl, by unfold maxLen; omega, .inl rfl, fun _ => rfl, fun n hn => by cases hn⟩
  · refine ⟨zs.take len, by rw [List.length_take]; omega, by omega, ?_, (fun h => by cases h), fun n hn => hw n (List.mem_of_mem_take hn)⟩
    by_cases h0 : len = 0
    · exact .inl (by rw [h0]; rfl)
    · obtain ⟨b, off, spot⟩ := x
      have hspot : spot = none := by simpa [Addr.add] using World.cell?_spot (hc 0 (by omega))
      subst hspot
      refine .inr ⟨b, off, rfl, fun i hi => ?_⟩
      rw [List.length_take] at hi
      have := hc i (by omega)
      rw [add_plain] at this
      rw [this]
      congr 2
      simp [List.getD, show i < len by omega]

theorem num_of {w : World} {a : Option Addr} {ys : List Int} (h : RowAt (Value.int .i64) 0 w a ys) (hw : ∀ n ∈ ys, (Lit.int .i64 n).wf = true) : Num64 w a ys.length := by
  intro j hj
  rcases h with rfl | ⟨b, off, rfl, hc⟩
  · exact absurd hj (by simp)
  · have hb := i64_bd (hw (ys.getD j 0) (by simp [List.getD, hj]))
    exact ⟨b, off, _, rfl, hc j hj, hb.1, hb.2⟩
theorem byt_of {w : World} {a : Option Addr} {ys : List Int} (h : RowAt (Value.int .u8) 0 w a ys) (hw : ∀ n ∈ ys, (Lit.int .u8 n).wf = true) : Byt w a ys.length (fun i => ys.getD i 0) := by
  refine ⟨fun i => ?_, fun j hj => ?_⟩
  · by_cases hi : i < ys.length
    · exact u8_bd (hw (ys.getD i 0) (by simp [List.getD, hi]))
    · simp [List.getD, hi]
  · rcases h with rfl | ⟨b, off, rfl, hc⟩
    · exact absurd hj (by simp)
    · exact ⟨b, off, rfl, hc j hj⟩

section
variable (a0 : Option Addr) (n c0 : Nat) (a1 : Option Addr) (m c1 : Nat) (w : World)
theorem sum_t (h : n + m ≤ 1048576) : Calls Try.prog 28 #[.slice a0 n c0, .slice a1 m c1] w fun e w' => e = .returned (.bool true) ∧ w = w' := by
  have h1 : ¬ (1048576 : Int) < n := by omega
  have h2 : ¬ (1048576 : Int) < m := by omega
  have h3 : ¬ (1048576 : Int) < (n : Int) + m := by omega
  go_enter Try.func28, Try.ntmps28
  go_wp2
  go_ret
  exact ⟨rfl, rfl⟩
theorem sum_f1 (h : 1048576 < n) (hm : n ≤ maxLen) : Calls Try.prog 28 #[.slice a0 n c0, .slice a1 m c1] w fun e w' => e = .returned (.bool false) ∧ w = w' := by
  unfold maxLen at hm
  have h1 : (1048576 : Int) < n := by omega
  go_enter Try.func28, Try.ntmps28
  go_wp2
  go_ret
  exact ⟨rfl, rfl⟩
theorem sum_f2 (h : ¬ 1048576 < n) (h' : 1048576 < m) (hm : m ≤ maxLen) : Calls Try.prog 28 #[.slice a0 n c0, .slice a1 m c1] w fun e w' => e = .returned (.bool false) ∧ w = w' := by
  unfold maxLen at hm
  have h1 : ¬ (1048576 : Int) < n := by omega
  have h2 : (1048576 : Int) < m := by omega
  go_enter Try.func28, Try.ntmps28
  go_wp2
  go_ret
  exact ⟨rfl, rfl⟩
theorem sum_f3 (h : ¬ 1048576 < n) (h' : ¬ 1048576 < m) (h'' : 1048576 < n + m) : Calls Try.prog 28 #[.slice a0 n c0, .slice a1 m c1] w fun e w' => e = .returned (.bool false) ∧ w = w' := by
  have h1 : ¬ (1048576 : Int) < n := by omega
  have h2 : ¬ (1048576 : Int) < m := by omega
  have h3 : (1048576 : Int) < (n : Int) + m := by omega
  go_enter Try.func28, Try.ntmps28
  go_wp2
  go_ret
  exact ⟨rfl, rfl⟩

set_option maxRecDepth 100000 in
theorem walk_long (key : Calls Try.prog 28 #[.slice a0 n c0, .slice a1 m c1] w fun e w' => e = .returned (.bool false) ∧ w = w') : Calls Try.prog 8 #[.slice a0 n c0, .slice a1 m c1] w (Good8 w) := by
  go_enter Try.func8, Try.ntmps8
  go_wp2_with (go_at_call 28; go_must (refine key.mono ?_; rintro e w1 ⟨rfl, rfl⟩))
  go_ret
  exact ⟨rfl, Below.refl _ _⟩
set_option maxRecDepth 100000 in
theorem walk_b1 (h : n + m ≤ 1048576) (h1 : 65536 < n) : Calls Try.prog 8 #[.slice a0 n c0, .slice a1 m c1] w (Good8 w) := by
  have key := sum_t a0 n c0 a1 m c1 w h
  have h1' : (65536 : Int) < n := by omega
  go_enter Try.func8, Try.ntmps8
  go_wp2_with (go_at_call 28; go_must (refine key.mono ?_; rintro e w1 ⟨rfl, rfl⟩))
  go_ret
  exact ⟨rfl, Below.refl _ _⟩
set_option maxRecDepth 100000 in
theorem walk_b2 (h : n + m ≤ 1048576) (h1 : ¬ 65536 < n) (h2 : 65536 < m) : Calls Try.prog 8 #[.slice a0 n c0, .slice a1 m c1] w (Good8 w) := by
  have key := sum_t a0 n c0 a1 m c1 w h
  have h1' : ¬ (65536 : Int) < n := by omega
  have h2' : (65536 : Int) < m := by omega
  go_enter Try.func8, Try.ntmps8
  go_wp2_with (go_at_call 28; go_must (refine key.mono ?_; rintro e w1 ⟨rfl, rfl⟩))
  go_ret
  exact ⟨rfl, Below.refl _ _⟩
end

/-! ### STEP 1: THE WALK -/
theorem walk (a0 : Option Addr) (len0 cap0 : Nat) (z0 : List Int) (a1 : Option Addr) (len1 cap1 : Nat) (z1 : List Int) (w : World) (w0 : IsRow .i64 w a0 len0 cap0 z0) (w1 : IsRow .u8 w a1 len1 cap1 z1) :
    Calls Try.prog 8 #[.slice a0 len0 cap0, .slice a1 len1 cap1] w fun e w' => e = .returned (.bool true) ∧ Below w.heap.size w w' := by
  show Calls Try.prog 8 #[.slice a0 len0 cap0, .slice a1 len1 cap1] w (Good8 w)
  obtain ⟨ys, hl0, hm0, hr0, hn0, hw0⟩ := row_of w0
  obtain ⟨zs, hl1, hm1, hr1, hn1, hw1⟩ := row_of w1
  by_cases hs : len0 + len1 ≤ 1048576
  · by_cases h1 : 65536 < len0
    · exact walk_b1 a0 len0 cap0 a1 len1 cap1 w hs h1
    · by_cases h2 : 65536 < len1
      · exact walk_b2 a0 len0 cap0 a1 len1 cap1 w hs h1 h2
      · refine eight a0 len0 cap0 a1 len1 cap1 (fun i => zs.getD i 0) w (by omega) (by omega) (by omega) (sum_t a0 len0 cap0 a1 len1 cap1 w hs) ?_ ?_
        · have k := clN_any a0 cap0 ys w (by omega) hr0 hn0
          rw [hl0] at k
          refine k.mono fun e w' ⟨a', cap', he, hr, hb, _⟩ => ⟨⟨a', cap', he, ?_⟩, hb⟩
          have := num_of hr hw0
          rwa [hl0] at this
        · intro w1 hb1
          have k := clU_any a1 cap1 zs w1 (by omega) (hr1.below hb1) hn1
          rw [hl1] at k
          refine k.mono fun e w' ⟨a', cap', he, hr, hb, _⟩ => ⟨⟨a', cap', he, ?_⟩, hb⟩
          have := byt_of hr hw1
          rwa [hl1] at this
  · refine walk_long a0 len0 cap0 a1 len1 cap1 w ?_
    by_cases h1 : 1048576 < len0
    · exact sum_f1 a0 len0 cap0 a1 len1 cap1 w h1 hm0
    · by_cases h2 : 1048576 < len1
      · exact sum_f2 a0 len0 cap0 a1 len1 cap1 w h1 h2 hm1
      · exact sum_f3 a0 len0 cap0 a1 len1 cap1 w h1 h2 (by omega)

/-! ### THE ROW's STEP: WRITTEN OUT: LEAVE IT -/
set_option maxRecDepth 100000 in
theorem lifted (os : Os) (started : os.Started) (H : Type) (enc : TypeId × Value → H) :
    ReturnsInHanded {} Try.checked os 8 .any (Rows.fnMoreAndPlainNumberReadBackAnArraySpec.pre6 enc Try.prog Try.f8 Rows.fnMoreAndPlainNumberReadBackAnArrayRow.domain false) (Rows.fnMoreAndPlainNumberReadBackAnArraySpec.post enc Try.prog Try.f8 false true false false) := by
  refine returnsInHanded_of_change (C := Try.checked) own started (by kernel_rfl) Try.func8
    (ChangeSpec.witness6 (enc := enc) (C := Try.checked) false ⟨#[], #[.slice none 0 0, .slice none 0 0], []⟩ 8 (by kernel_rfl) (by kernel_rfl) (by kernel_rfl) (by kernel_rfl)) ?_
  intro W base args ds gs before hval0 hW hcnd _
  have hval : ∀ (j : Nat) t v, Try.f8.params[j]? = some t → args[j]? = some v → Value.okWide Try.prog W .any base t v := hval0
  have hW' := hW
  obtain ⟨p, q, hA0, hV, rfl, hfz, hnd⟩ := hW
  have hA : DataW.TrodAll enc Try.prog W 0 (fun _ => true) true Try.f8.params.toList args.toList ds p := hA0
  rw [Try.params8] at hA hval
  obtain ⟨v0, vs0, d0, ds0, p0, q0, hargs, rfl, rfl, h0, r0⟩ := trodAll_cons hA
  obtain ⟨v1, vs1, d1, ds1, p1, q1, rfl, rfl, rfl, h1, r1⟩ := trodAll_cons r0
  obtain ⟨rfl, rfl, rfl⟩ := trodAll_nil r1
  obtain rfl : args = #[v0, v1] := by cases args; simp_all
  obtain ⟨rfl, rfl⟩ := trodVars_none hV
  obtain ⟨a0, len0, cap0, rfl⟩ := okWide_slice Try.underlying44 (hval 0 44 v0 rfl rfl)
  have k0 := h0
  have lt0 : ∀ x ∈ p0, x.block < W.heap.size := by obtain ⟨m, hm⟩ := k0; exact DataW.trod_lt m _ _ _ hm
  obtain ⟨z0, w0⟩ : ∃ zs, IsRow .i64 W a0 len0 cap0 zs := by
    obtain ⟨fuel, hf⟩ := h0
    rcases open_ints Try.underlying44 Try.underlying2 (by kernel_rfl) hf with ⟨hcs, _⟩ | ⟨x, l, c, zs, hcs, _, hl, hm, hz, _, hcell, hwz⟩
    · simp [Value.cells] at hcs
      obtain ⟨rfl, rfl, rfl⟩ := hcs
      exact ⟨[], .inl ⟨rfl, rfl, rfl, rfl⟩⟩
    · simp [Value.cells] at hcs
      obtain ⟨rfl, rfl, rfl⟩ := hcs
      exact ⟨zs, .inr ⟨_, rfl, hl, hm, by simpa using hz, hcell, hwz⟩⟩
  obtain ⟨a1, len1, cap1, rfl⟩ := okWide_slice Try.underlying33 (hval 1 33 v1 rfl rfl)
  have k1 := h1
  have lt1 : ∀ x ∈ p1, x.block < W.heap.size := by obtain ⟨m, hm⟩ := k1; exact DataW.trod_lt m _ _ _ hm
  obtain ⟨z1, w1⟩ : ∃ zs, IsRow .u8 W a1 len1 cap1 zs := by
    obtain ⟨fuel, hf⟩ := h1
    rcases open_ints Try.underlying33 Try.underlying5 (by kernel_rfl) hf with ⟨hcs, _⟩ | ⟨x, l, c, zs, hcs, _, hl, hm, hz, _, hcell, hwz⟩
    · simp [Value.cells] at hcs
      obtain ⟨rfl, rfl, rfl⟩ := hcs
      exact ⟨[], .inl ⟨rfl, rfl, rfl, rfl⟩⟩
    · simp [Value.cells] at hcs
      obtain ⟨rfl, rfl, rfl⟩ := hcs
      exact ⟨zs, .inr ⟨_, rfl, hl, hm, by simpa using hz, hcell, hwz⟩⟩
  clear hA0 hval0
  refine (walk a0 len0 cap0 z0 a1 len1 cap1 z1 W w0 w1).mono fun e W' ⟨he, bel⟩ => ?_
  subst he
  exact ⟨_, rfl, _, _, _, [], _, [], hW', trodAll_mk1 (shut_bool Try.underlying4 _), (trodAll_mk2 (Below.trod laidOut (by kernel_rfl) (of_decide_eq_true (by kernel_rfl)) k0 bel lt0) (Below.trod laidOut (by kernel_rfl) (of_decide_eq_true (by kernel_rfl)) k1 bel lt1)), rfl, bel.frame _, fun h => by cases h⟩

theorem over : Rows.fnMoreAndPlainNumberReadBackAnArrayRow.holds Try.pinned (OpenSpec.ofChange Rows.fnMoreAndPlainNumberReadBackAnArraySpec) :=
  OpenClaim.holds_of_wide 8 Try.f8 rfl rfl rfl rfl rfl rfl rfl ⟨rfl, rfl, rfl, rfl, rfl⟩ rfl rfl rfl rfl rfl (by kernel_rfl) Try.func8 (by kernel_rfl)
    (of_decide_eq_true (by kernel_rfl)) (by unfold Func.isWrapper; first | (rw [if_pos (by decide +kernel)]; kernel_rfl) | (rw [if_neg (by decide +kernel)]; exact ⟨rfl, rfl⟩))
    (fun os started H enc _ => lifted os started H enc)

/-- ████ THE STATEMENT ████ -/
theorem proved : Rows.FnMoreAndPlainNumberReadBackAnArraySaid := over
#print axioms proved
end Go.Proofs.Qxb6600608a.fnMoreAndPlainNumberReadBackAnArray

