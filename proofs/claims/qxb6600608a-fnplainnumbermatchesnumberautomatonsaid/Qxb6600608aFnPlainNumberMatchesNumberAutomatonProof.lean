/-
  'Rows.FnPlainNumberMatchesNumberAutomatonSaid' proved. The frame: written by the kit's proof-skeleton.mjs.
-/
import Derived.Test.Qxb6600608aRows
import Derived.WalkKit
import Derived.ProofKit
import Derived.ShutString
import Derived.ChangeOld
import Derived.Below
import Derived.Test.Qxb6600608aFive
namespace Go.Proofs.Qxb6600608a.fnPlainNumberMatchesNumberAutomaton
open Go.ChangeShapes Go.WideShapes Go.ChangeAt Go.RowKit
open Go.ChangeMaps (open_string shut_string)
open Plain
set_option linter.unusedVariables false

theorem own : ownKnob Try.prog.godebug = none := by kernel_rfl
theorem laidOut : laidOutB Try.prog = true := by kernel_rfl

/-- What the walk is told of a slice of integers that came in. -/
def IsRow (k : IntKind) (w : World) (a : Option Addr) (len cap : Nat) (zs : List Int) : Prop :=
  (a = none ∧ len = 0 ∧ cap = 0 ∧ zs = []) ∨
  ∃ x, a = some x ∧ len ≤ cap ∧ cap ≤ maxLen ∧ zs.length = cap ∧ (∀ i, i < zs.length → w.cell? (x.add i) = some (.int k (zs.getD i 0))) ∧ ∀ n ∈ zs, (Lit.int k n).wf = true

theorem u8_bd {n : Int} (h : (Lit.int .u8 n).wf = true) : 0 ≤ n ∧ n ≤ 255 := by
  simp [Lit.wf, IntKind.min, IntKind.max, IntKind.signed, IntKind.bits] at h
  omega
theorem add_plain (b off i : Nat) : (Addr.mk b off none).add i = ⟨b, off + i, none⟩ := by
  simp [Addr.add]

theorem getD_bd {zs : List Int} (h : ∀ n ∈ zs, (Lit.int .u8 n).wf = true) (i : Nat) : 0 ≤ zs.getD i 0 ∧ zs.getD i 0 ≤ 255 := by
  by_cases hi : i < zs.length
  · have := h (zs.getD i 0) (by simp [List.getD, hi])
    exact u8_bd this
  · simp [List.getD, hi]

/-- The clone. -/
theorem clone5 {a0 : Option Addr} {n c0 : Nat} {zs : List Int} {w : World} (h : IsRow .u8 w a0 n c0 zs) (hn : n ≤ 1048576) :
    ∃ a, (a = none ∧ n = 0 ∨ a = some ⟨w.heap.size, 0, none⟩) ∧ Calls Try.prog 20 #[.slice a0 n c0] w fun e w' => e = .returned (.slice a n n) ∧ Held w' a n (fun i => zs.getD i 0) ∧ Below w.heap.size w w' := by
  rcases h with ⟨rfl, rfl, rfl, rfl⟩ | ⟨x, rfl, hl, hm, hz, hc, hw⟩
  · refine ⟨none, .inl ⟨rfl, rfl⟩, (clU_nil w).mono fun e w' ⟨he, hw⟩ => ⟨he, ⟨⟨fun i => by simp, fun j hj => absurd hj (by omega)⟩, fun x e => by cases e⟩, hw ▸ Below.refl _ _⟩⟩
  · refine ⟨some ⟨w.heap.size, 0, none⟩, .inr rfl, ?_⟩
    by_cases h0 : n = 0
    · subst h0
      refine (clU_empty0 x c0 w).mono fun e w' ⟨he, hlt, hb⟩ => ⟨he, ⟨⟨getD_bd hw, fun j hj => absurd hj (by omega)⟩, fun x e => ?_⟩, hb⟩
      cases e; exact hlt
    · obtain ⟨b, off, spot⟩ := x
      have hspot : spot = none := by simpa [Addr.add] using World.cell?_spot (hc 0 (by omega))
      subst hspot
      have hlen : (zs.take n).length = n := by rw [List.length_take]; omega
      have hget : ∀ i, i < n → (zs.take n).getD i 0 = zs.getD i 0 := fun i hi => by simp [List.getD, hi]
      have hc' : ∀ i, i < n → w.cell? ⟨b, off + i, none⟩ = some (.int .u8 (zs.getD i 0)) := fun i hi => by
        have := hc i (by omega)
        rw [add_plain] at this
        exact this
      have k := clU_some b off c0 (zs.take n) w (by omega) (World.block_lt_of_cell? _ _ (hc' 0 (by omega))) (fun i hi => by rw [hget i (by omega)]; exact hc' i (by omega))
      rw [hlen] at k
      refine k.mono fun e w' ⟨he, hown, hb⟩ => ?_
      have hcell : ∀ j, j < n → w'.cell? ⟨w.heap.size, 0 + j, none⟩ = some (.int .u8 (zs.getD j 0)) := fun j hj => by
        rw [Nat.zero_add, hown.cellAt j (by omega)]
        simp [List.getD, hj, show j < zs.length by omega]
      exact ⟨he, ⟨⟨getD_bd hw, fun j hj => ⟨_, _, rfl, hcell j hj⟩⟩, fun x e => by cases e; exact World.block_lt_of_cell? _ _ (hcell 0 (by omega))⟩, hb⟩

theorem auto22 (a : Option Addr) (n s : Nat) (b : Nat → Int) (E : Nat) (ok : Bool) (w : World) (hb : Held w a n b) (hs : s ≤ n) (hn : n ≤ 1048576)
    (hE : E = (autoAt (fun j => b (s + j)) (n - s) 0 0).1) (hok : ok = (autoAt (fun j => b (s + j)) (n - s) 0 0).2) :
    Calls Try.prog 22 #[.slice a n n, .int .i64 s] w fun e w' => e = .returned (.tuple #[.int .i64 ((s : Int) + E), .bool ok]) ∧ w' = w := by
  subst hE; subst hok
  refine (auto_any a n n b s w hb.1 hs hn).mono fun e w' ⟨he, hw⟩ => ⟨?_, hw⟩
  rw [he]
  exact ret_two (by omega) rfl

theorem scan_none (c : Nat → Int) : (scan c 0).2 = false := by
  have e : scan c 0 = intg c 0 0 := by unfold scan; rw [if_neg (by omega)]
  rw [e, intg, run_zero, if_pos rfl]

theorem inner (a0 : Option Addr) (n c0 i : Nat) (b : Nat → Int) (depth : Int) (bad : Bool) (a : Option Addr) (w : World) (hn : n ≤ 1048576) (hi : i ≤ n) (hbd : ∀ i, 0 ≤ b i ∧ b i ≤ 255)
    (ha : a = none ∧ n = 0 ∨ a = some ⟨w.heap.size, 0, none⟩)
    (k20 : Calls Try.prog 20 #[.slice a0 n c0] w fun e w' => e = .returned (.slice a n n) ∧ Held w' a n b ∧ Below w.heap.size w w') :
    Calls Try.prog 5 #[.slice a0 n c0, .int .i64 i, .int .i64 depth, .bool bad] w (Good w) := by
  have k21 : ∀ w', Held w' a n b → Calls Try.prog 21 #[.slice a n n, .int .i64 i] w' fun e w'' => e = .returned (.int .i64 (pP b n i)) ∧ w'' = w' := fun w' h => skip_any a n n b i w' h.1 hi hn
  obtain ⟨hP, hS⟩ := pS_le (b := b) hi
  rcases ha with ⟨rfl, rfl⟩ | rfl
  · have hp0 : pP b 0 i = 0 := by omega
    have hi0 : i = 0 := by omega
    subst hi0
    rw [hp0] at k21
    refine five_A0 a0 0 c0 0 none 0 0 (autoAt (fun j => b (0 + j)) (0 - 0) 0 0).1 b depth bad w hn hi k20 k21 (fun w' h => ?_) (fun w' h => zz_nil b depth bad w' hbd) (Nat.le_refl _)
    exact auto22 none 0 0 b _ false w' h (Nat.le_refl _) hn rfl (by rw [(auto_scan _ _).1, scan_none])
  · have k23 : ∀ w', Held w' (some ⟨w.heap.size, 0, none⟩) n b → Calls Try.prog 23 #[.slice (some ⟨w.heap.size, 0, none⟩) n n, .int .i64 i, .int .i64 depth, .bool bad] w' (ZZPost (pV b n i w.heap.size 0 n) (pC b n i) depth bad w') :=
      fun w' h => zz_some w.heap.size 0 n n b i depth bad w' h.1 hi (by omega) (Nat.le_refl _) (by unfold maxLen; omega) (h.2 _ rfl)
    have hag := auto_scan (fun j => b (pS b n i + j)) (n - pS b n i)
    have k22 := fun w' (h : Held w' (some ⟨w.heap.size, 0, none⟩) n b) => auto22 _ n (pS b n i) b _ _ w' h hS hn rfl rfl
    cases hok : (scan (fun j => b (pS b n i + j)) (n - pS b n i)).2 with
    | false =>
      have e : pOk b n i = false := by simp [pOk, hok]
      have e1 : pV b n i w.heap.size 0 n = .slice none 0 0 := by simp [pV, e]
      have e2 : pC b n i = pP b n i := by simp [pC, e]
      rw [e1, e2] at k23
      rw [hag.1, hok] at k22
      cases hq : pQ b n i with
      | false =>
        have es : pS b n i = pP b n i := by simp [pS, hq]
        rw [es] at k22
        by_cases hp : pP b n i < n
        · have hx : b (pP b n i) ≠ 34 := by unfold pQ at hq; have := of_decide_eq_false hq; omega
          exact five_A1 a0 n c0 w.heap.size none i _ _ b depth bad w hn hi k20 k21 k22 k23 hp hx
        · exact five_A0 a0 n c0 0 _ i _ _ b depth bad w hn hi k20 k21 k22 k23 (by omega)
      | true =>
        have es : pS b n i = pP b n i + 1 := by simp [pS, hq]
        rw [es] at k22
        have hx := of_decide_eq_true (show decide (pP b n i < n ∧ b (pP b n i) = 34) = true from hq)
        exact five_A2 a0 n c0 w.heap.size none i _ _ b depth bad w hn hi k20 k21 k22 k23 hx.1 hx.2
    | true =>
      have hE := hag.2 (hag.1.trans hok)
      have hle : pE b n i ≤ n - pS b n i := scan_le _ _ hok
      rw [hag.1, hok, hE] at k22
      cases hq : pQ b n i with
      | false =>
        have es : pS b n i = pP b n i := by simp [pS, hq]
        have e : pOk b n i = true := by simp [pOk, hok, hq]
        have e1 : pV b n i w.heap.size 0 n = .slice (some ⟨w.heap.size, pP b n i, none⟩) (pE b n i) (n - pP b n i) := by simp [pV, e, es]
        have e2 : pC b n i = pP b n i + pE b n i := by simp [pC, e, hq, es]
        have hp : pP b n i < n := by
          by_cases h : pP b n i < n
          · exact h
          · have : n - pS b n i = 0 := by omega
            rw [this, scan_none] at hok; cases hok
        have hx : b (pP b n i) ≠ 34 := by unfold pQ at hq; have := of_decide_eq_false hq; omega
        rw [e1, e2] at k23
        have k22' : ∀ w', Held w' (some ⟨w.heap.size, 0, none⟩) n b → Calls Try.prog 22 #[.slice (some ⟨w.heap.size, 0, none⟩) n n, .int .i64 (pP b n i)] w' fun e w'' => e = .returned (.tuple #[.int .i64 ((pP b n i : Int) + pE b n i), .bool true]) ∧ w'' = w' := by
          rw [← es]; exact k22
        exact five_B a0 n c0 w.heap.size none i _ _ b depth bad w hn hi k20 k21 k22' k23 hp hx (by omega)
      | true =>
        have es : pS b n i = pP b n i + 1 := by simp [pS, hq]
        have hx := of_decide_eq_true (show decide (pP b n i < n ∧ b (pP b n i) = 34) = true from hq)
        have k22' : ∀ w', Held w' (some ⟨w.heap.size, 0, none⟩) n b → Calls Try.prog 22 #[.slice (some ⟨w.heap.size, 0, none⟩) n n, .int .i64 ((pP b n i : Int) + 1)] w' fun e w'' => e = .returned (.tuple #[.int .i64 ((pP b n i : Int) + 1 + pE b n i), .bool true]) ∧ w'' = w' := by
          have : (pS b n i : Int) = (pP b n i : Int) + 1 := by omega
          rw [← this]; exact k22
        by_cases h1 : pP b n i + 1 + pE b n i = n
        · have e : pOk b n i = false := by simp [pOk, hq, es]; omega
          have e1 : pV b n i w.heap.size 0 n = .slice none 0 0 := by simp [pV, e]
          have e2 : pC b n i = pP b n i := by simp [pC, e]
          rw [e1, e2] at k23
          exact five_C a0 n c0 w.heap.size none i _ _ b depth bad w hn hi k20 k21 k22' k23 hx.1 hx.2 h1
        · by_cases h2 : b (pP b n i + 1 + pE b n i) = 34
          · have hlt : pS b n i + pE b n i < n := by omega
            have h2' : b (pS b n i + pE b n i) = 34 := by rw [es]; exact h2
            have e : pOk b n i = true := by simp [pOk, hok, hq, hlt, h2']
            have e1 : pV b n i w.heap.size 0 n = .slice (some ⟨w.heap.size, pP b n i + 1, none⟩) (pE b n i) (n - (pP b n i + 1)) := by simp [pV, e, es]
            have e2 : pC b n i = pP b n i + 1 + pE b n i + 1 := by simp [pC, e, hq, es]
            rw [e1, e2] at k23
            exact five_E a0 n c0 w.heap.size none i _ _ b depth bad w hn hi k20 k21 k22' k23 hx.1 hx.2 (by omega) h2
          · have e : pOk b n i = false := by simp [pOk, hq, es, h2]
            have e1 : pV b n i w.heap.size 0 n = .slice none 0 0 := by simp [pV, e]
            have e2 : pC b n i = pP b n i := by simp [pC, e]
            rw [e1, e2] at k23
            exact five_D a0 n c0 w.heap.size none i _ _ b depth bad w hn hi k20 k21 k22' k23 hx.1 hx.2 (by omega) h2

set_option maxRecDepth 100000 in
theorem walk_long (a0 : Option Addr) (n c0 : Nat) (i depth : Int) (bad : Bool) (w : World) (h : ¬ n ≤ 1048576) (hm : n ≤ maxLen) : Calls Try.prog 5 #[.slice a0 n c0, .int .i64 i, .int .i64 depth, .bool bad] w (Good w) := by
  have key := sum_gt a0 n c0 i depth bad w h hm
  go_enter Try.func5, Try.ntmps5
  go_wp2_with (go_at_call 19; go_must (refine key.mono ?_; rintro e w1 ⟨rfl, rfl⟩))
  go_ret
  exact ⟨rfl, Below.refl _ _⟩
set_option maxRecDepth 100000 in
theorem walk_low (a0 : Option Addr) (n c0 : Nat) (i depth : Int) (bad : Bool) (w : World) (h : n ≤ 1048576) (hi : i < 0) : Calls Try.prog 5 #[.slice a0 n c0, .int .i64 i, .int .i64 depth, .bool bad] w (Good w) := by
  have key := sum_le a0 n c0 i depth bad w h
  go_enter Try.func5, Try.ntmps5
  go_wp2_with (go_at_call 19; go_must (refine key.mono ?_; rintro e w1 ⟨rfl, rfl⟩))
  go_ret
  exact ⟨rfl, Below.refl _ _⟩
set_option maxRecDepth 100000 in
theorem walk_high (a0 : Option Addr) (n c0 : Nat) (i depth : Int) (bad : Bool) (w : World) (h : n ≤ 1048576) (hi : ¬ i < 0) (hi2 : (n : Int) < i) : Calls Try.prog 5 #[.slice a0 n c0, .int .i64 i, .int .i64 depth, .bool bad] w (Good w) := by
  have key := sum_le a0 n c0 i depth bad w h
  go_enter Try.func5, Try.ntmps5
  go_wp2_with (go_at_call 19; go_must (refine key.mono ?_; rintro e w1 ⟨rfl, rfl⟩))
  go_ret
  exact ⟨rfl, Below.refl _ _⟩

/-! ### STEP 1: THE WALK -/
theorem walk (a0 : Option Addr) (len0 cap0 : Nat) (z0 : List Int) (a1 : Int) (a2 : Int) (a3 : Bool) (w : World) (w0 : IsRow .u8 w a0 len0 cap0 z0) (w1 : (Lit.int .i64 a1).wf = true) (w2 : (Lit.int .i64 a2).wf = true) :
    Calls Try.prog 5 #[.slice a0 len0 cap0, .int .i64 a1, .int .i64 a2, .bool a3] w fun e w' => e = .returned (.bool true) ∧ Below w.heap.size w w' := by
  show Calls Try.prog 5 #[.slice a0 len0 cap0, .int .i64 a1, .int .i64 a2, .bool a3] w (Good w)
  have hm : len0 ≤ maxLen := by
    rcases w0 with ⟨_, rfl, _⟩ | ⟨x, _, h1, h2, _⟩
    · unfold maxLen; omega
    · omega
  by_cases h : len0 ≤ 1048576
  · by_cases h1 : a1 < 0
    · exact walk_low a0 len0 cap0 a1 a2 a3 w h h1
    · by_cases h2 : (len0 : Int) < a1
      · exact walk_high a0 len0 cap0 a1 a2 a3 w h h1 h2
      · obtain ⟨i, rfl⟩ : ∃ i : Nat, a1 = i := ⟨a1.toNat, by omega⟩
        obtain ⟨a, ha, k20⟩ := clone5 w0 h
        have hbd : ∀ i, 0 ≤ z0.getD i 0 ∧ z0.getD i 0 ≤ 255 := by
          rcases w0 with ⟨_, _, _, rfl⟩ | ⟨x, _, _, _, _, _, hw⟩
          · intro i; simp
          · exact getD_bd hw
        exact inner a0 len0 cap0 i _ a2 a3 a w h (by omega) hbd ha k20
  · exact walk_long a0 len0 cap0 a1 a2 a3 w h hm

/-! ### THE ROW's STEP: WRITTEN OUT: LEAVE IT -/
set_option maxRecDepth 100000 in
theorem lifted (os : Os) (started : os.Started) (H : Type) (enc : TypeId × Value → H) :
    ReturnsInHanded {} Try.checked os 5 .any (Rows.fnPlainNumberMatchesNumberAutomatonSpec.pre6 enc Try.prog Try.f5 Rows.fnPlainNumberMatchesNumberAutomatonRow.domain false) (Rows.fnPlainNumberMatchesNumberAutomatonSpec.post enc Try.prog Try.f5 false true false false) := by
  refine returnsInHanded_of_change (C := Try.checked) own started (by kernel_rfl) Try.func5
    (ChangeSpec.witness6 (enc := enc) (C := Try.checked) false ⟨#[], #[.slice none 0 0, .int .i64 0, .int .i64 0, .bool false], []⟩ 8 (by kernel_rfl) (by kernel_rfl) (by kernel_rfl) (by kernel_rfl)) ?_
  intro W base args ds gs before hval0 hW hcnd _
  have hval : ∀ (j : Nat) t v, Try.f5.params[j]? = some t → args[j]? = some v → Value.okWide Try.prog W .any base t v := hval0
  have hW' := hW
  obtain ⟨p, q, hA0, hV, rfl, hfz, hnd⟩ := hW
  have hA : DataW.TrodAll enc Try.prog W 0 (fun _ => true) true Try.f5.params.toList args.toList ds p := hA0
  rw [Try.params5] at hA hval
  obtain ⟨v0, vs0, d0, ds0, p0, q0, hargs, rfl, rfl, h0, r0⟩ := trodAll_cons hA
  obtain ⟨v1, vs1, d1, ds1, p1, q1, rfl, rfl, rfl, h1, r1⟩ := trodAll_cons r0
  obtain ⟨v2, vs2, d2, ds2, p2, q2, rfl, rfl, rfl, h2, r2⟩ := trodAll_cons r1
  obtain ⟨v3, vs3, d3, ds3, p3, q3, rfl, rfl, rfl, h3, r3⟩ := trodAll_cons r2
  obtain ⟨rfl, rfl, rfl⟩ := trodAll_nil r3
  obtain rfl : args = #[v0, v1, v2, v3] := by cases args; simp_all
  obtain ⟨rfl, rfl⟩ := trodVars_none hV
  obtain ⟨a0, len0, cap0, rfl⟩ := okWide_slice Try.underlying33 (hval 0 33 v0 rfl rfl)
  have k0 := h0
  have lt0 : ∀ x ∈ p0, x.block < W.heap.size := by obtain ⟨m, hm⟩ := k0; exact DataW.trod_lt m _ _ _ hm
  obtain ⟨z0, w0⟩ : ∃ zs, IsRow .u8 W a0 len0 cap0 zs := by
    obtain ⟨fuel, hf⟩ := h0
    rcases open_ints Try.underlying33 Try.underlying5 (by kernel_rfl) hf with ⟨hcs, _⟩ | ⟨x, l, c, zs, hcs, _, hl, hm, hz, _, hcell, hwz⟩
    · simp [Value.cells] at hcs
      obtain ⟨rfl, rfl, rfl⟩ := hcs
      exact ⟨[], .inl ⟨rfl, rfl, rfl, rfl⟩⟩
    · simp [Value.cells] at hcs
      obtain ⟨rfl, rfl, rfl⟩ := hcs
      exact ⟨zs, .inr ⟨_, rfl, hl, hm, by simpa using hz, hcell, hwz⟩⟩
  obtain ⟨a1, rfl, rfl, rfl, w1⟩ := open_int Try.underlying3 (hval 1 3 v1 rfl rfl) h1
  obtain ⟨a2, rfl, rfl, rfl, w2⟩ := open_int Try.underlying3 (hval 2 3 v2 rfl rfl) h2
  obtain ⟨a3, rfl, rfl, rfl⟩ := open_bool Try.underlying4 (hval 3 4 v3 rfl rfl) h3
  clear hA0 hval0
  refine (walk a0 len0 cap0 z0 a1 a2 a3 W w0 w1 w2).mono fun e W' ⟨he, bel⟩ => ?_
  subst he
  exact ⟨_, rfl, _, _, _, [], _, [], hW', trodAll_mk1 (shut_bool Try.underlying4 _), (trodAll_mk4 (Below.trod laidOut (by kernel_rfl) (of_decide_eq_true (by kernel_rfl)) k0 bel lt0) (shut_int Try.underlying3 w1) (shut_int Try.underlying3 w2) (shut_bool Try.underlying4 _)), rfl, bel.frame _, fun h => by cases h⟩

theorem over : Rows.fnPlainNumberMatchesNumberAutomatonRow.holds Try.pinned (OpenSpec.ofChange Rows.fnPlainNumberMatchesNumberAutomatonSpec) :=
  OpenClaim.holds_of_wide 5 Try.f5 rfl rfl rfl rfl rfl rfl rfl ⟨rfl, rfl, rfl, rfl, rfl⟩ rfl rfl rfl rfl rfl (by kernel_rfl) Try.func5 (by kernel_rfl)
    (of_decide_eq_true (by kernel_rfl)) (by unfold Func.isWrapper; first | (rw [if_pos (by decide +kernel)]; kernel_rfl) | (rw [if_neg (by decide +kernel)]; exact ⟨rfl, rfl⟩))
    (fun os started H enc _ => lifted os started H enc)

/-- ████ THE STATEMENT ████ -/
theorem proved : Rows.FnPlainNumberMatchesNumberAutomatonSaid := over
#print axioms proved
end Go.Proofs.Qxb6600608a.fnPlainNumberMatchesNumberAutomaton

