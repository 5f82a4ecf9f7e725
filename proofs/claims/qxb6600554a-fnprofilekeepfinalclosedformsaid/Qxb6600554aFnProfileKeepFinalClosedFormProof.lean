/-
  'Rows.FnProfileKeepFinalClosedFormSaid' proved. The frame: after the kit's proof-skeleton.mjs.
-/
import Derived.Test.Qxb6600554aLaw7Rest
import Derived.WalkKit
import Derived.ProofKit
import Derived.ShutString
import Derived.ChangeOld
import Derived.Below
namespace Go.Proofs.Qxb6600554a.fnProfileKeepFinalClosedForm
open Go.ChangeShapes Go.WideShapes Go.ChangeAt Go.RowKit
set_option linter.unusedVariables false

theorem own : ownKnob Try.prog.godebug = none := by kernel_rfl
theorem laidOut : laidOutB Try.prog = true := by kernel_rfl

theorem walk (a0 : Option Addr) (c0 : Nat) (ss : List ByteArray) (a1 : Option Addr) (c1 : Nat) (bs : List Bool) (a2 : Option Addr) (c2 : Nat) (xs : List Int) (w : World)
    (m0 : ss.length ≤ maxLen) (m1 : bs.length ≤ maxLen) (m2 : xs.length ≤ maxLen) (r0 : RowAt Value.string ByteArray.empty w a0 ss) (r1 : RowAt Value.bool false w a1 bs) (r2 : RowAt (Value.int .i64) 0 w a2 xs)
    (hs : ∀ s ∈ ss, s.size ≤ maxLen) (n0 : a0 = none → c0 = 0) (n1 : a1 = none → c1 = 0) (n2 : a2 = none → c2 = 0) :
    Calls Try.prog 7 #[.slice a0 ss.length c0, .slice a1 bs.length c1, .slice a2 xs.length c2] w fun e w' => e = .returned (.bool true) ∧ Below w.heap.size w w' := by
  by_cases h : ss.length ≤ 4096 ∧ bs.length = ss.length ∧ xs.length = ss.length
  · obtain ⟨h1, h2, h3⟩ := h
    by_cases h0 : ss.length = 0
    · rw [h2, h3, h0]
      exact law7_zero a0 c0 a1 c1 a2 c2 w n0 n1 n2
    · rcases r0 with e | ⟨b0, o0, rfl, hc0⟩
      · rw [e] at h0; simp at h0
      · rcases r1 with e | ⟨b1, o1, rfl, hc1⟩
        · rw [e] at h2; simp at h2; omega
        · rcases r2 with e | ⟨b2, o2, rfl, hc2⟩
          · rw [e] at h3; simp at h3; omega
          · exact law7_main b0 o0 c0 ss b1 o1 c1 bs b2 o2 c2 xs w hc0 hc1 hc2 hs h1 h2 h3 (by omega)
  · exact law7_off a0 c0 ss a1 bs.length c1 a2 xs.length c2 w m0 m1 m2 r0 hs h

set_option maxRecDepth 100000 in
theorem lifted (os : Os) (started : os.Started) (H : Type) (enc : TypeId × Value → H) :
    ReturnsInHanded {} Try.checked os 7 .any (Rows.fnProfileKeepFinalClosedFormSpec.pre6 enc Try.prog Try.f7 Rows.fnProfileKeepFinalClosedFormRow.domain false) (Rows.fnProfileKeepFinalClosedFormSpec.post enc Try.prog Try.f7 false true false false) := by
  refine returnsInHanded_of_change (C := Try.checked) own started (by kernel_rfl) Try.func7
    (ChangeSpec.witness6 (enc := enc) (C := Try.checked) false ⟨#[], #[.slice none 0 0, .slice none 0 0, .slice none 0 0], []⟩ 8 (by kernel_rfl) (by kernel_rfl) (by kernel_rfl) (by kernel_rfl)) ?_
  intro W base args ds gs before hval0 hW hcnd _
  have hval : ∀ (j : Nat) t v, Try.f7.params[j]? = some t → args[j]? = some v → Value.okWide Try.prog W .any base t v := hval0
  have hW' := hW
  obtain ⟨p, q, hA0, hV, rfl, hfz, hnd⟩ := hW
  have hA : DataW.TrodAll enc Try.prog W 0 (fun _ => true) true Try.f7.params.toList args.toList ds p := hA0
  rw [Try.params7] at hA hval
  obtain ⟨v0, vs0, d0, ds0, p0, q0, hargs, rfl, rfl, h0, r0⟩ := trodAll_cons hA
  obtain ⟨v1, vs1, d1, ds1, p1, q1, rfl, rfl, rfl, h1, r1⟩ := trodAll_cons r0
  obtain ⟨v2, vs2, d2, ds2, p2, q2, rfl, rfl, rfl, h2, r2⟩ := trodAll_cons r1
  obtain ⟨rfl, rfl, rfl⟩ := trodAll_nil r2
  obtain rfl : args = #[v0, v1, v2] := by cases args; simp_all
  obtain ⟨rfl, rfl⟩ := trodVars_none hV
  obtain ⟨a0, len0, cap0, rfl⟩ := okWide_slice Try.underlying32 (hval 0 32 v0 rfl rfl)
  obtain ⟨a1, len1, cap1, rfl⟩ := okWide_slice Try.underlying33 (hval 1 33 v1 rfl rfl)
  obtain ⟨a2, len2, cap2, rfl⟩ := okWide_slice Try.underlying34 (hval 2 34 v2 rfl rfl)
  have k0 := h0
  have k1 := h1
  have k2 := h2
  have lt0 : ∀ x ∈ p0, x.block < W.heap.size := by obtain ⟨m, hm⟩ := k0; exact DataW.trod_lt m _ _ _ hm
  have lt1 : ∀ x ∈ p1, x.block < W.heap.size := by obtain ⟨m, hm⟩ := k1; exact DataW.trod_lt m _ _ _ hm
  have lt2 : ∀ x ∈ p2, x.block < W.heap.size := by obtain ⟨m, hm⟩ := k2; exact DataW.trod_lt m _ _ _ hm
  obtain ⟨z0, rfl, m0, w0, s0, n0⟩ := open_strs h0
  obtain ⟨z1, rfl, m1, w1, n1⟩ := open_bls h1
  obtain ⟨z2, rfl, m2, w2, n2⟩ := open_nums h2
  clear hA0 hval0
  refine (walk a0 cap0 z0 a1 cap1 z1 a2 cap2 z2 W m0 m1 m2 w0 w1 w2 s0 n0 n1 n2).mono fun e W' ⟨he, bel⟩ => ?_
  subst he
  exact ⟨_, rfl, _, _, _, [], _, [], hW', trodAll_mk1 (shut_bool Try.underlying4 _), (trodAll_mk3 (Below.trod laidOut (by kernel_rfl) (of_decide_eq_true (by kernel_rfl)) k0 bel lt0) (Below.trod laidOut (by kernel_rfl) (of_decide_eq_true (by kernel_rfl)) k1 bel lt1) (Below.trod laidOut (by kernel_rfl) (of_decide_eq_true (by kernel_rfl)) k2 bel lt2)), rfl, bel.frame _, fun h => by cases h⟩

theorem over : Rows.fnProfileKeepFinalClosedFormRow.holds Try.pinned (OpenSpec.ofChange Rows.fnProfileKeepFinalClosedFormSpec) :=
  OpenClaim.holds_of_wide 7 Try.f7 rfl rfl rfl rfl rfl rfl rfl ⟨rfl, rfl, rfl, rfl, rfl⟩ rfl rfl rfl rfl rfl (by kernel_rfl) Try.func7 (by kernel_rfl)
    (of_decide_eq_true (by kernel_rfl)) (by unfold Func.isWrapper; first | (rw [if_pos (by decide +kernel)]; kernel_rfl) | (rw [if_neg (by decide +kernel)]; exact ⟨rfl, rfl⟩))
    (fun os started H enc _ => lifted os started H enc)

/-- THE STATEMENT -/
theorem proved : Rows.FnProfileKeepFinalClosedFormSaid := over
end Go.Proofs.Qxb6600554a.fnProfileKeepFinalClosedForm
