/-
  'Rows.FnDigitsOrderAgreesWithBytewiseOrderSaid' proved. The frame: written by the kit's proof-skeleton.mjs.
-/
import Derived.Test.Qxb6606160aRows
import Derived.WalkKit
import Derived.ProofKit
import Derived.ShutString
import Derived.ChangeOld
import Derived.Below
import Derived.Test.Qxb6606160aTwo
import Derived.Test.Qxb6606160aCompare
namespace Go.Proofs.Qxb6606160a.fnDigitsOrderAgreesWithBytewiseOrder
open Go.ChangeShapes Go.WideShapes Go.ChangeAt Go.RowKit
open Go.ChangeMaps (open_string shut_string)
open Plain
set_option linter.unusedVariables false

theorem own : ownKnob Try.prog.godebug = none := by kernel_rfl
theorem laidOut : laidOutB Try.prog = true := by kernel_rfl

/-! ### STEP 1: THE WALK -/
theorem row8_below {w w1 : World} {a : Option Addr} {zs : List Int} (h : Row8 w a zs) (hb : Below w.heap.size w w1) : Row8 w1 a zs := by
  refine ⟨h.1, ?_⟩
  rcases h.2 with h' | ⟨b, off, ha, hc⟩
  · exact .inl h'
  · exact .inr ⟨b, off, ha, fun i hi => (hb.cell (p := ⟨b, off + i, none⟩) (World.block_lt_of_cell? _ _ (hc i hi))).trans (hc i hi)⟩

theorem digF_ge (zs : List Int) : digF zs = -1 ∨ (0 ≤ digF zs ∧ digF zs = pval zs ∧ dall zs = true) := by
  unfold digF
  by_cases h : zs.length = 0 ∨ 9 < zs.length ∨ dall zs = false
  · rw [if_pos h]; exact .inl rfl
  · rw [if_neg h]
    have ha : dall zs = true := by
      cases e : dall zs
      · exact absurd (.inr (.inr e)) h
      · rfl
    exact .inr ⟨(dval_bd zs ha).1, dval_eq_pval zs, ha⟩

theorem walk_no (a : Option Addr) (n ca : Nat) (b : Option Addr) (m cb : Nat) (hn : n ≤ maxLen) (hm : m ≤ maxLen) (h : ¬ (n ≤ 524288 ∧ m ≤ 524288 ∧ n = m)) (w : World) :
    Calls Try.prog 5 #[.slice a n ca, .slice b m cb] w fun e w' => e = .returned (.bool true) ∧ Below w.heap.size w w' := by
  unfold maxLen at hn hm
  have h' : 524288 < n ∨ (n ≤ 524288 ∧ 524288 < m) ∨ (n ≤ 524288 ∧ m ≤ 524288 ∧ n ≠ m) := by omega
  clear h
  rcases h' with h | ⟨h1, h2⟩ | ⟨h1, h2, h3⟩
  · go_enter Try.func5, Try.ntmps5
    go_wp2
    all_goals (go_ret; exact ⟨rfl, Below.refl _ _⟩)
  · go_enter Try.func5, Try.ntmps5
    go_wp2
    all_goals (go_ret; exact ⟨rfl, Below.refl _ _⟩)
  · have h3' : ((n : Int) != (m : Int)) = true := by simp; omega
    go_enter Try.func5, Try.ntmps5
    go_wp2
    all_goals (go_ret; exact ⟨rfl, Below.refl _ _⟩)

set_option maxHeartbeats 400000 in
theorem walk_yes (a : Option Addr) (ca : Nat) (b : Option Addr) (cb : Nat) (xs ys : List Int) (w : World) (hl : xs.length ≤ 524288) (hs : xs.length = ys.length)
    (hx : Row8 w a xs) (hy : Row8 w b ys) (hna : a = none → ca = 0) (hnb : b = none → cb = 0) :
    Calls Try.prog 5 #[.slice a xs.length ca, .slice b xs.length cb] w fun e w' => e = .returned (.bool true) ∧ Below w.heap.size w w' := by
  have keya := clone_any a ca xs w (by omega) hx hna
  have keyb := fun w1 (h : Below w.heap.size w w1) => clone_any b cb ys w1 (by omega) (row8_below hy h) hnb
  have kdx := fun a' cap' w' (h : Row8 w' a' xs) => zzdigits_any a' cap' xs w' h (by unfold maxLen; omega)
  have kdy := fun a' cap' w' (h : Row8 w' a' ys) => zzdigits_any a' cap' ys w' h (by unfold maxLen; omega)
  have kc := fun a' ca' b' cb' w' (h : Row8 w' a' xs) (h' : Row8 w' b' ys) => bytes_any a' ca' b' cb' xs ys w' hs (by omega) h h'
  have ki := fun x y w' => ints_any x y w'
  have hcmp : 0 ≤ digF xs → 0 ≤ digF ys → cmpB xs ys = cmpI (digF xs) (digF ys) := by
    intro h1 h2
    rcases digF_ge xs with e | ⟨_, e1, a1⟩
    · omega
    · rcases digF_ge ys with e | ⟨_, e2, a2⟩
      · omega
      · rw [e1, e2]; exact cmp_same xs ys hs a1 a2
  rw [← hs] at keyb kdy
  obtain ⟨n, hnv⟩ : ∃ n, n = xs.length := ⟨_, rfl⟩
  rw [← hnv] at keya keyb kdx kdy kc hl ⊢
  obtain ⟨dx, hdx⟩ : ∃ d, d = digF xs := ⟨_, rfl⟩
  obtain ⟨dy, hdy⟩ : ∃ d, d = digF ys := ⟨_, rfl⟩
  obtain ⟨cb2, hcb⟩ : ∃ d, d = cmpB xs ys := ⟨_, rfl⟩
  rw [← hdx] at kdx hcmp
  rw [← hdy] at kdy hcmp
  rw [← hcb] at kc hcmp
  have HC : Hid (0 ≤ dx → 0 ≤ dy → cb2 = cmpI dx dy) := hcmp
  clear hcmp hdx hdy hcb hnv hs hna hnb hx hy
  have hne : ((n : Int) != (n : Int)) = false := by simp
  by_cases c1 : dx < 0
  · go_enter Try.func5, Try.ntmps5
    go_wp2_with (first | (go_at_call 7; refine keya.mono ?_; rintro e w1 ⟨a', ca', rfl, hx', hb1⟩; have keyb' := keyb w1 hb1; clear keya keyb) | (go_at_call 7; refine keyb'.mono ?_; rintro e w2 ⟨b', cb', rfl, hy', hb2⟩; have hx2 := row8_below hx' hb2; have hb3 := hb1.trans (hb2.mono hb1.size); clear keyb') | (go_at_call 8; refine (kdx _ _ _ hx2).mono ?_; rintro e w' ⟨rfl, rfl⟩; clear kdx) | (go_at_call 8; refine (kdy _ _ _ hy').mono ?_; rintro e w' ⟨rfl, rfl⟩; clear kdy) | go_in)
    go_ret
    exact ⟨rfl, hb3⟩
  · by_cases c2 : dy < 0
    · go_enter Try.func5, Try.ntmps5
      go_wp2_with (first | (go_at_call 7; refine keya.mono ?_; rintro e w1 ⟨a', ca', rfl, hx', hb1⟩; have keyb' := keyb w1 hb1; clear keya keyb) | (go_at_call 7; refine keyb'.mono ?_; rintro e w2 ⟨b', cb', rfl, hy', hb2⟩; have hx2 := row8_below hx' hb2; have hb3 := hb1.trans (hb2.mono hb1.size); clear keyb') | (go_at_call 8; refine (kdx _ _ _ hx2).mono ?_; rintro e w' ⟨rfl, rfl⟩; clear kdx) | (go_at_call 8; refine (kdy _ _ _ hy').mono ?_; rintro e w' ⟨rfl, rfl⟩; clear kdy) | go_in)
      go_ret
      exact ⟨rfl, hb3⟩
    · have HE : Hid (cb2 = cmpI dx dy) := HC.out (by omega) (by omega)
      clear HC
      obtain ⟨ci, hci⟩ : ∃ c, c = cmpI dx dy := ⟨_, rfl⟩
      have ki' := fun w' => ki dx dy w'
      rw [← hci] at HE ki'
      clear ki hci
      have hbe : (cb2 == ci) = true := by rw [HE.out]; simp
      clear HE
      go_enter Try.func5, Try.ntmps5
      go_wp2_with (first | (go_at_call 7; refine keya.mono ?_; rintro e w1 ⟨a', ca', rfl, hx', hb1⟩; have keyb' := keyb w1 hb1; clear keya keyb) | (go_at_call 7; refine keyb'.mono ?_; rintro e w2 ⟨b', cb', rfl, hy', hb2⟩; have hx2 := row8_below hx' hb2; have hb3 := hb1.trans (hb2.mono hb1.size); clear keyb') | (go_at_call 8; refine (kdx _ _ _ hx2).mono ?_; rintro e w' ⟨rfl, rfl⟩; clear kdx) | (go_at_call 8; refine (kdy _ _ _ hy').mono ?_; rintro e w' ⟨rfl, rfl⟩; clear kdy) | (go_at_call 12; refine (kc _ _ _ _ _ hx2 hy').mono ?_; rintro e w' ⟨rfl, q, rfl⟩) | (go_at_call 13; refine (ki' _).mono ?_; rintro e w' ⟨rfl, rfl⟩) | go_in)
      go_ret
      exact ⟨rfl, below_drewN hb3 q⟩

theorem walk (a0 : Option Addr) (len0 cap0 : Nat) (z0 : List Int) (a1 : Option Addr) (len1 cap1 : Nat) (z1 : List Int) (w : World) (w0 : IsRow .u8 w a0 len0 cap0 z0) (w1 : IsRow .u8 w a1 len1 cap1 z1) :
    Calls Try.prog 5 #[.slice a0 len0 cap0, .slice a1 len1 cap1] w fun e w' => e = .returned (.bool true) ∧ Below w.heap.size w w' := by
  obtain ⟨xs, rfl, hm, hr, hn⟩ := isRow_row8 w0
  obtain ⟨ys, rfl, hm', hr', hn'⟩ := isRow_row8 w1
  by_cases h : xs.length ≤ 524288 ∧ ys.length ≤ 524288 ∧ xs.length = ys.length
  · have := walk_yes a0 cap0 a1 cap1 xs ys w h.1 h.2.2 hr hr' hn hn'
    rwa [show (Value.slice a1 xs.length cap1) = .slice a1 ys.length cap1 by rw [h.2.2]] at this
  · exact walk_no a0 xs.length cap0 a1 ys.length cap1 hm hm' h w

/-! ### THE ROW's STEP: WRITTEN OUT: LEAVE IT -/
set_option maxRecDepth 100000 in
theorem lifted (os : Os) (started : os.Started) (H : Type) (enc : TypeId × Value → H) :
    ReturnsInHanded {} Try.checked os 5 .any (Rows.fnDigitsOrderAgreesWithBytewiseOrderSpec.pre6 enc Try.prog Try.f5 Rows.fnDigitsOrderAgreesWithBytewiseOrderRow.domain false) (Rows.fnDigitsOrderAgreesWithBytewiseOrderSpec.post enc Try.prog Try.f5 false true false false) := by
  refine returnsInHanded_of_change (C := Try.checked) own started (by kernel_rfl) Try.func5
    (ChangeSpec.witness6 (enc := enc) (C := Try.checked) false ⟨#[], #[.slice none 0 0, .slice none 0 0], []⟩ 8 (by kernel_rfl) (by kernel_rfl) (by kernel_rfl) (by kernel_rfl)) ?_
  intro W base args ds gs before hval0 hW hcnd _
  have hval : ∀ (j : Nat) t v, Try.f5.params[j]? = some t → args[j]? = some v → Value.okWide Try.prog W .any base t v := hval0
  have hW' := hW
  obtain ⟨p, q, hA0, hV, rfl, hfz, hnd⟩ := hW
  have hA : DataW.TrodAll enc Try.prog W 0 (fun _ => true) true Try.f5.params.toList args.toList ds p := hA0
  rw [Try.params5] at hA hval
  obtain ⟨v0, vs0, d0, ds0, p0, q0, hargs, rfl, rfl, h0, r0⟩ := trodAll_cons hA
  obtain ⟨v1, vs1, d1, ds1, p1, q1, rfl, rfl, rfl, h1, r1⟩ := trodAll_cons r0
  obtain ⟨rfl, rfl, rfl⟩ := trodAll_nil r1
  obtain rfl : args = #[v0, v1] := by cases args; simp_all
  obtain ⟨rfl, rfl⟩ := trodVars_none hV
  obtain ⟨a0, len0, cap0, rfl⟩ := okWide_slice Try.underlying22 (hval 0 22 v0 rfl rfl)
  have k0 := h0
  have lt0 : ∀ x ∈ p0, x.block < W.heap.size := by obtain ⟨m, hm⟩ := k0; exact DataW.trod_lt m _ _ _ hm
  obtain ⟨z0, w0⟩ : ∃ zs, IsRow .u8 W a0 len0 cap0 zs := by
    obtain ⟨fuel, hf⟩ := h0
    rcases open_ints Try.underlying22 Try.underlying5 (by kernel_rfl) hf with ⟨hcs, _⟩ | ⟨x, l, c, zs, hcs, _, hl, hm, hz, _, hcell, hwz⟩
    · simp [Value.cells] at hcs
      obtain ⟨rfl, rfl, rfl⟩ := hcs
      exact ⟨[], .inl ⟨rfl, rfl, rfl, rfl⟩⟩
    · simp [Value.cells] at hcs
      obtain ⟨rfl, rfl, rfl⟩ := hcs
      exact ⟨zs, .inr ⟨_, rfl, hl, hm, by simpa using hz, hcell, hwz⟩⟩
  obtain ⟨a1, len1, cap1, rfl⟩ := okWide_slice Try.underlying22 (hval 1 22 v1 rfl rfl)
  have k1 := h1
  have lt1 : ∀ x ∈ p1, x.block < W.heap.size := by obtain ⟨m, hm⟩ := k1; exact DataW.trod_lt m _ _ _ hm
  obtain ⟨z1, w1⟩ : ∃ zs, IsRow .u8 W a1 len1 cap1 zs := by
    obtain ⟨fuel, hf⟩ := h1
    rcases open_ints Try.underlying22 Try.underlying5 (by kernel_rfl) hf with ⟨hcs, _⟩ | ⟨x, l, c, zs, hcs, _, hl, hm, hz, _, hcell, hwz⟩
    · simp [Value.cells] at hcs
      obtain ⟨rfl, rfl, rfl⟩ := hcs
      exact ⟨[], .inl ⟨rfl, rfl, rfl, rfl⟩⟩
    · simp [Value.cells] at hcs
      obtain ⟨rfl, rfl, rfl⟩ := hcs
      exact ⟨zs, .inr ⟨_, rfl, hl, hm, by simpa using hz, hcell, hwz⟩⟩
  clear hA0 hval0
  refine (walk a0 len0 cap0 z0 a1 len1 cap1 z1 W w0 w1).mono fun e W' ⟨he, bel⟩ => ?_
  subst he
  exact ⟨_, rfl, _, _, _, [], _, [], hW', trodAll_mk1 (shut_bool Try.underlying4 _), (trodAll_mk2 (Below.trod laidOut (by kernel_rfl) (of_decide_eq_true (by kernel_rfl)) k0 bel lt0) (Below.trod laidOut (by kernel_rfl) (of_decide_eq_true (by kernel_rfl)) k1 bel lt1)), rfl, bel.frame _, fun h => by cases h⟩

theorem over : Rows.fnDigitsOrderAgreesWithBytewiseOrderRow.holds Try.pinned (OpenSpec.ofChange Rows.fnDigitsOrderAgreesWithBytewiseOrderSpec) :=
  OpenClaim.holds_of_wide 5 Try.f5 rfl rfl rfl rfl rfl rfl rfl ⟨rfl, rfl, rfl, rfl, rfl⟩ rfl rfl rfl rfl rfl (by kernel_rfl) Try.func5 (by kernel_rfl)
    (of_decide_eq_true (by kernel_rfl)) (by unfold Func.isWrapper; first | (rw [if_pos (by decide +kernel)]; kernel_rfl) | (rw [if_neg (by decide +kernel)]; exact ⟨rfl, rfl⟩))
    (fun os started H enc _ => lifted os started H enc)

/-- ████ THE STATEMENT ████ -/
theorem proved : Rows.FnDigitsOrderAgreesWithBytewiseOrderSaid := over
#print axioms proved
end Go.Proofs.Qxb6606160a.fnDigitsOrderAgreesWithBytewiseOrder

