/-
  'Rows.FnBringInKeepsExactlyTheBroughtInPathsSaid' proved. The frame: after the kit's proof-skeleton.mjs.
-/
import Derived.Test.Qxb6600609aLawMain
import Derived.Test.Qxb6600609aOpen
import Derived.WalkKit
import Derived.ProofKit
import Derived.ShutString
import Derived.ChangeOld
import Derived.Below
namespace Go.Proofs.Qxb6600609a.fnBringInKeepsExactlyTheBroughtInPaths
open Go.ChangeShapes Go.WideShapes Go.ChangeAt Go.RowKit
set_option linter.unusedVariables false

theorem own : ownKnob Try.prog.godebug = none := by kernel_rfl
theorem laidOut : laidOutB Try.prog = true := by kernel_rfl

theorem walk (r : Bool) (a0 : Option Addr) (c0 : Nat) (ls : List ByteArray) (a1 : Option Addr) (c1 : Nat) (pss : List (List ByteArray)) (a2 : Option Addr) (c2 : Nat) (qss : List (List ByteArray)) (w : World)
    (m0 : ls.length ≤ maxLen) (m1 : pss.length ≤ maxLen) (m2 : qss.length ≤ maxLen) (r0 : Strs w a0 ls) (r1 : Pths w a1 pss) (r2 : Pths w a2 qss)
    (z0 : ∀ s ∈ ls, s.size ≤ maxLen) (z1 : Lens pss) (z2 : Lens qss) (n0 : a0 = none → c0 = 0) (n1 : a1 = none → c1 = 0) (n2 : a2 = none → c2 = 0) :
    Calls Try.prog 3 #[.bool r, .slice a0 ls.length c0, .slice a1 pss.length c1, .slice a2 qss.length c2] w fun e w' => e = .returned (.bool true) ∧ Below w.heap.size w w' := by
  by_cases h : ls.length ≤ 4096 ∧ pss.length ≤ 4096 ∧ qss.length ≤ 4096
  · exact law_main r a0 _ c0 ls a1 _ c1 pss a2 _ c2 qss w rfl r0 h.1 z0 rfl r1 h.2.1 z1 rfl r2 h.2.2 z2 n0 n1 n2
  · exact law_off r a0 _ c0 ls a1 _ c1 pss a2 _ c2 qss w rfl r0 m0 z0 rfl r1 m1 z1 rfl r2 m2 z2 (by omega)

set_option maxRecDepth 100000 in
theorem lifted (os : Os) (started : os.Started) (H : Type) (enc : TypeId × Value → H) :
    ReturnsInHanded {} Try.checked os 3 .any (Rows.fnBringInKeepsExactlyTheBroughtInPathsSpec.pre6 enc Try.prog Try.f3 Rows.fnBringInKeepsExactlyTheBroughtInPathsRow.domain false) (Rows.fnBringInKeepsExactlyTheBroughtInPathsSpec.post enc Try.prog Try.f3 false true false false) := by
  refine returnsInHanded_of_change (C := Try.checked) own started (by kernel_rfl) Try.func3
    (ChangeSpec.witness6 (enc := enc) (C := Try.checked) false ⟨#[], #[.bool false, .slice none 0 0, .slice none 0 0, .slice none 0 0], []⟩ 8 (by kernel_rfl) (by kernel_rfl) (by kernel_rfl) (by kernel_rfl)) ?_
  intro W base args ds gs before hval0 hW hcnd _
  have hval : ∀ (j : Nat) t v, Try.f3.params[j]? = some t → args[j]? = some v → Value.okWide Try.prog W .any base t v := hval0
  have hW' := hW
  obtain ⟨p, q, hA0, hV, rfl, hfz, hnd⟩ := hW
  have hA : DataW.TrodAll enc Try.prog W 0 (fun _ => true) true Try.f3.params.toList args.toList ds p := hA0
  rw [Try.params3] at hA hval
  obtain ⟨v0, vs0, d0, ds0, p0, q0, hargs, rfl, rfl, h0, r0⟩ := trodAll_cons hA
  obtain ⟨v1, vs1, d1, ds1, p1, q1, rfl, rfl, rfl, h1, r1⟩ := trodAll_cons r0
  obtain ⟨v2, vs2, d2, ds2, p2, q2, rfl, rfl, rfl, h2, r2⟩ := trodAll_cons r1
  obtain ⟨v3, vs3, d3, ds3, p3, q3, rfl, rfl, rfl, h3, r3⟩ := trodAll_cons r2
  obtain ⟨rfl, rfl, rfl⟩ := trodAll_nil r3
  obtain rfl : args = #[v0, v1, v2, v3] := by cases args; simp_all
  obtain ⟨rfl, rfl⟩ := trodVars_none hV
  obtain ⟨b0, rfl⟩ := okWide_bool Try.underlying4 (hval 0 4 v0 rfl rfl)
  obtain ⟨a1, len1, cap1, rfl⟩ := okWide_slice Try.underlying22 (hval 1 22 v1 rfl rfl)
  obtain ⟨a2, len2, cap2, rfl⟩ := okWide_slice Try.underlying23 (hval 2 23 v2 rfl rfl)
  obtain ⟨a3, len3, cap3, rfl⟩ := okWide_slice Try.underlying23 (hval 3 23 v3 rfl rfl)
  have k0 := h0
  have k1 := h1
  have k2 := h2
  have k3 := h3
  have lt0 : ∀ x ∈ p0, x.block < W.heap.size := by obtain ⟨m, hm⟩ := k0; exact DataW.trod_lt m _ _ _ hm
  have lt1 : ∀ x ∈ p1, x.block < W.heap.size := by obtain ⟨m, hm⟩ := k1; exact DataW.trod_lt m _ _ _ hm
  have lt2 : ∀ x ∈ p2, x.block < W.heap.size := by obtain ⟨m, hm⟩ := k2; exact DataW.trod_lt m _ _ _ hm
  have lt3 : ∀ x ∈ p3, x.block < W.heap.size := by obtain ⟨m, hm⟩ := k3; exact DataW.trod_lt m _ _ _ hm
  obtain ⟨z1, rfl, m1, w1, s1, n1⟩ := open_strs h1
  obtain ⟨z2, rfl, m2, w2, s2, n2⟩ := open_pths h2
  obtain ⟨z3, rfl, m3, w3, s3, n3⟩ := open_pths h3
  clear hA0 hval0
  refine (walk b0 a1 cap1 z1 a2 cap2 z2 a3 cap3 z3 W m1 m2 m3 w1 w2 w3 s1 s2 s3 n1 n2 n3).mono fun e W' ⟨he, bel⟩ => ?_
  subst he
  exact ⟨_, rfl, _, _, _, [], _, [], hW', trodAll_mk1 (shut_bool Try.underlying4 _), (trodAll_mk4 (Below.trod laidOut (by kernel_rfl) (of_decide_eq_true (by kernel_rfl)) k0 bel lt0) (Below.trod laidOut (by kernel_rfl) (of_decide_eq_true (by kernel_rfl)) k1 bel lt1) (Below.trod laidOut (by kernel_rfl) (of_decide_eq_true (by kernel_rfl)) k2 bel lt2) (Below.trod laidOut (by kernel_rfl) (of_decide_eq_true (by kernel_rfl)) k3 bel lt3)), rfl, bel.frame _, fun h => by cases h⟩

theorem over : Rows.fnBringInKeepsExactlyTheBroughtInPathsRow.holds Try.pinned (OpenSpec.ofChange Rows.fnBringInKeepsExactlyTheBroughtInPathsSpec) :=
  OpenClaim.holds_of_wide 3 Try.f3 rfl rfl rfl rfl rfl rfl rfl ⟨rfl, rfl, rfl, rfl, rfl⟩ rfl rfl rfl rfl rfl (by kernel_rfl) Try.func3 (by kernel_rfl)
    (of_decide_eq_true (by kernel_rfl)) (by unfold Func.isWrapper; first | (rw [if_pos (by decide +kernel)]; kernel_rfl) | (rw [if_neg (by decide +kernel)]; exact ⟨rfl, rfl⟩))
    (fun os started H enc _ => lifted os started H enc)

/-- THE STATEMENT -/
theorem proved : Rows.FnBringInKeepsExactlyTheBroughtInPathsSaid := over
end Go.Proofs.Qxb6600609a.fnBringInKeepsExactlyTheBroughtInPaths
