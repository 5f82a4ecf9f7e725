/-
  'plainNumber' where no byte is left to scan; 'plainNumber' whole.
-/
import Derived.Test.Qxb6600608aPlainN
namespace Go.Proofs.Qxb6600608a
open Go.RowKit
open Plain
set_option linter.unusedVariables false

set_option maxHeartbeats 1600000 in
theorem plain_nil (J N : Nat) (b : Nat → Int) (depth : Int) (bad : Bool) (w : World) (hbd : ∀ i, 0 ≤ b i ∧ b i ≤ 255) (hJN : J ≠ N) (hcur : Cur w J (.slice none 0 0) (0 : Nat) depth bad) (hp : Parts w N) :
    Calls Try.prog 38 #[.pointer (some ⟨J, 0, none⟩), .pointer (some ⟨N, 0, none⟩)] w (PlainPost (.slice none 0 0) none 0 0 J N 0 depth bad w) := by
  have kn := next_any none 0 0 b J 0 depth bad w ⟨hbd, fun j hj => absurd hj (by omega)⟩ (Nat.le_refl _) (by omega) (fun B' o' s' e => by cases e) hcur
  have ks := fun w1 (hu : Upd (fun k => k = J) w w1) => scan_zero none 0 N b w1 hbd (hp.same (hu.block N hp.lt (Ne.symm hJN)))
  unfold NextPost at kn
  rw [run_zero, if_neg (by omega)] at kn
  have HJ : Hid (J ≠ N) := hJN
  have hsc : (scan b 0).2 = false := by
    have e : scan b 0 = intg b 0 0 := by unfold scan; rw [if_neg (by omega)]
    rw [e, intg, run_zero, if_pos rfl]
  have HSC : Hid ((scan b 0).2 = false) := hsc
  clear hcur hp hJN hbd hsc
  go_enter Try.func38, Try.ntmps38
  go_wp2_with (first | (go_at_call 40; go_must (refine kn.mono ?_; rintro e w1 ⟨rfl, hc1, hu1⟩; have ks1 := ks w1 hu1; have d0 := hc1.c0; have d1 := hc1.c1; clear kn ks)) | (go_at_call 41; go_must (refine ks1.mono ?_; rintro e w2 ⟨rfl, E, F, hown, h5, h6, hE, hF⟩; have hF' : (F != 0) = true := scan_bad hF HSC.out; obtain ⟨hc2, hu2⟩ := cur_behind hc1 HJ.out hu1 hown; have HK : Hid (Parts w2 N) := hown.1; have HU : Hid (Upd _ w w2) := hu2; have HC : Hid (Cur w2 J _ _ _ _) := hc2; clear ks1 d0 d1 hc1 hF)))
  go_ret
  exact ⟨rfl, HC.out, HK.out, HU.out⟩

set_option maxHeartbeats 3200000 in
theorem plain_zero (B o n cp : Nat) (b : Nat → Int) (J N i p : Nat) (q : Bool) (depth : Int) (bad : Bool) (w : World) (hb : Byt w (some ⟨B, o, none⟩) n b) (hi : i ≤ n) (hn : n ≤ 4194304) (hcp : n ≤ cp) (hcm : cp ≤ maxLen)
    (hJ : B ≠ J) (hJN : J ≠ N) (hcur : Cur w J (.slice (some ⟨B, o, none⟩) n cp) i depth bad) (hp : Parts w N)
    (ep : p = run isSp b n i) (eq : q = decide (p < n ∧ b p = 34)) (es : n = if q = true then p + 1 else p) :
    Calls Try.prog 38 #[.pointer (some ⟨J, 0, none⟩), .pointer (some ⟨N, 0, none⟩)] w (PlainPost (.slice none 0 0) (some ⟨B, o, none⟩) n cp J N p depth bad w) := by
  have kn := next_any (some ⟨B, o, none⟩) n cp b J i depth bad w hb hi hn (fun B' o' s' e => by cases e; exact hJ) hcur
  have ks := fun (a : Option Addr) (c : Nat) w1 (hu : Upd (fun k => k = J) w w1) => scan_zero a c N b w1 hb.1 (hp.same (hu.block N hp.lt (Ne.symm hJN)))
  unfold NextPost at kn
  rw [← ep] at kn
  obtain ⟨y, hy⟩ : ∃ y, y = if p < n then b p else 0 := ⟨_, rfl⟩
  rw [← hy] at kn
  have hyq : (y == 34) = q := by
    rw [hy, eq, Bool.eq_iff_iff]
    by_cases h : p < n <;> simp [h]
  unfold maxLen at hcm
  have hsc : (scan b 0).2 = false := by
    have e : scan b 0 = intg b 0 0 := by unfold scan; rw [if_neg (by omega)]
    rw [e, intg, run_zero, if_pos rfl]
  have HSC : Hid ((scan b 0).2 = false) := hsc
  have HJ : Hid (J ≠ N) := hJN
  clear hy eq ep hb hcur hp hJN hsc
  cases q
  · have hp : n = p := by simpa using es
    clear es
    subst hp
    have h3 : (n : Int) ≤ (cp : Int) := by omega
    by_cases hc : cp = n
    · subst hc
      go_enter Try.func38, Try.ntmps38
      go_wp2_with (first | (go_at_call 40; go_must (refine kn.mono ?_; rintro e w1 ⟨rfl, hc1, hu1⟩; have ks1 := fun a c => ks a c w1 hu1; have d0 := hc1.c0; have d1 := hc1.c1; clear kn ks)) | (go_at_call 41; go_must (refine (ks1 _ _).mono ?_; rintro e w2 ⟨rfl, E, F, hown, h5, h6, hE, hF⟩; have hF' : (F != 0) = true := scan_bad hF HSC.out; obtain ⟨hc2, hu2⟩ := cur_behind hc1 HJ.out hu1 hown; have HK : Hid (Parts w2 N) := hown.1; have HU : Hid (Upd _ w w2) := hu2; have HC : Hid (Cur w2 J _ _ _ _) := hc2; clear ks1 d0 d1 hc1 hF)))
      go_ret
      exact ⟨rfl, HC.out, HK.out, HU.out⟩
    · have h4 : (n : Int) < (cp : Int) := by omega
      go_enter Try.func38, Try.ntmps38
      go_wp2_with (first | (go_at_call 40; go_must (refine kn.mono ?_; rintro e w1 ⟨rfl, hc1, hu1⟩; have ks1 := fun a c => ks a c w1 hu1; have d0 := hc1.c0; have d1 := hc1.c1; clear kn ks)) | (go_at_call 41; go_must (refine (ks1 _ _).mono ?_; rintro e w2 ⟨rfl, E, F, hown, h5, h6, hE, hF⟩; have hF' : (F != 0) = true := scan_bad hF HSC.out; obtain ⟨hc2, hu2⟩ := cur_behind hc1 HJ.out hu1 hown; have HK : Hid (Parts w2 N) := hown.1; have HU : Hid (Upd _ w w2) := hu2; have HC : Hid (Cur w2 J _ _ _ _) := hc2; clear ks1 d0 d1 hc1 hF)))
      go_ret
      exact ⟨rfl, HC.out, HK.out, HU.out⟩
  · have hp : n = p + 1 := by simpa using es
    clear es
    subst hp
    have h3 : (p : Int) + 1 ≤ (cp : Int) := by omega
    by_cases hc : cp = p + 1
    · subst hc
      go_enter Try.func38, Try.ntmps38
      go_wp2_with (first | (go_at_call 40; go_must (refine kn.mono ?_; rintro e w1 ⟨rfl, hc1, hu1⟩; have ks1 := fun a c => ks a c w1 hu1; have d0 := hc1.c0; have d1 := hc1.c1; clear kn ks)) | (go_at_call 41; go_must (refine (ks1 _ _).mono ?_; rintro e w2 ⟨rfl, E, F, hown, h5, h6, hE, hF⟩; have hF' : (F != 0) = true := scan_bad hF HSC.out; obtain ⟨hc2, hu2⟩ := cur_behind hc1 HJ.out hu1 hown; have HK : Hid (Parts w2 N) := hown.1; have HU : Hid (Upd _ w w2) := hu2; have HC : Hid (Cur w2 J _ _ _ _) := hc2; clear ks1 d0 d1 hc1 hF)))
      go_ret
      exact ⟨rfl, HC.out, HK.out, HU.out⟩
    · go_enter Try.func38, Try.ntmps38
      go_wp2_with (first | (go_at_call 40; go_must (refine kn.mono ?_; rintro e w1 ⟨rfl, hc1, hu1⟩; have ks1 := fun a c => ks a c w1 hu1; have d0 := hc1.c0; have d1 := hc1.c1; clear kn ks)) | (go_at_call 41; go_must (refine (ks1 _ _).mono ?_; rintro e w2 ⟨rfl, E, F, hown, h5, h6, hE, hF⟩; have hF' : (F != 0) = true := scan_bad hF HSC.out; obtain ⟨hc2, hu2⟩ := cur_behind hc1 HJ.out hu1 hown; have HK : Hid (Parts w2 N) := hown.1; have HU : Hid (Upd _ w w2) := hu2; have HC : Hid (Cur w2 J _ _ _ _) := hc2; clear ks1 d0 d1 hc1 hF)))
      go_ret
      exact ⟨rfl, HC.out, HK.out, HU.out⟩
end Go.Proofs.Qxb6600608a
