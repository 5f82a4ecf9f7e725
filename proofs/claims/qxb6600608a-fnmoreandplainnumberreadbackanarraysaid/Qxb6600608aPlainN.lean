/-
  '(*jsonCursor).plainNumber' (function 38).
-/
import Derived.Test.Qxb6600608aNext
namespace Go.Proofs.Qxb6600608a
open Go.RowKit
open Plain
set_option linter.unusedVariables false

theorem run_zero (p : Int → Bool) (c : Nat → Int) : run p c 0 0 = 0 := rfl

set_option maxRecDepth 100000 in
set_option maxHeartbeats 1600000 in
/-- 'scanNumber' of no bytes at all. -/
theorem scan_zero (a : Option Addr) (cp N : Nat) (c : Nat → Int) (w : World) (hb : ∀ i, 0 ≤ c i ∧ c i ≤ 255) (hp : Parts w N) :
    Calls Try.prog 41 #[.slice a 0 cp, .int .i64 0, .pointer (some ⟨N, 0, none⟩)] w (ScanPost c 0 N w) := by
  have hO : Own w N w := ⟨hp, Upd.refl _ _⟩
  have kd := digs_any a 0 cp c 0 (w.setCell ⟨N, 0, none⟩ (.int .i64 0)) ⟨hb, fun j hj => absurd hj (by omega)⟩ (Nat.le_refl _) (by omega)
  rw [run_zero] at kd
  have HE : Hid ((scan c 0).2 = false) := by
    have e : scan c 0 = intg c 0 0 := by unfold scan; rw [if_neg (by omega)]
    rw [e, intg, run_zero, if_pos rfl]; exact rfl
  have HO : Hid (Own w N _) := (hO.setI (j := 0) (by omega) 0).setI (j := 1) (by omega) 0
  obtain ⟨z0, hz0⟩ := hp.ints 0 (by omega)
  obtain ⟨z1, hz1⟩ := hp.ints 1 (by omega)
  obtain ⟨z5, hz5⟩ := hp.ints 5 (by omega)
  obtain ⟨z6, hz6⟩ := hp.flt
  have g0 := hp.free 0
  have g1 := hp.free 1
  have g5 := hp.free 5
  have g6 := hp.free 6
  clear hb hp hO
  go_enter Try.func41, Try.ntmps41
  go_wp2_with (go_at_call 43; go_must (refine kd.mono ?_; rintro e w' ⟨rfl, rfl⟩))
  go_quiet (fail)
  go_wp2
  go_end0
  exact scan_end1 (E := 0) (HO.out.drewN _) (Nat.le_refl _) HE.out (by decide)

/-- What 'plainNumber' answers. -/
def PlainPost (r : Value) (a : Option Addr) (n cp J N ci : Nat) (depth : Int) (bad : Bool) (w : World) (e : Ending) (w' : World) : Prop :=
  e = .returned r ∧ Cur w' J (.slice a n cp) ci depth bad ∧ Parts w' N ∧ Upd (fun k => k = J ∨ k = N) w w'

theorem Parts.same {w w' : World} {N : Nat} (h : Parts w N) (e : w'.heap[N]? = w.heap[N]?) : Parts w' N :=
  ⟨fun j hj => by rw [World.cell?_of_block (w := w) (a := ⟨N, j, none⟩) e]; exact h.ints j hj,
   by rw [World.cell?_of_block (w := w) (a := ⟨N, 6, none⟩) e]; exact h.flt,
   fun j => by rw [World.frozen?_of_block (w := w) (a := ⟨N, j, none⟩) e]; exact h.free j⟩
theorem Parts.lt {w : World} {N : Nat} (h : Parts w N) : N < w.heap.size := by
  obtain ⟨z, hz⟩ := h.flt
  exact World.block_lt_of_cell? _ _ hz

/-- Behind 'scanNumber' the cursor stands as it stood. -/
theorem cur_behind {w w1 w2 : World} {J N : Nat} {dv : Value} {i depth : Int} {bad : Bool} (h : Cur w1 J dv i depth bad) (hN : J ≠ N) (hu : Upd (fun k => k = J) w w1) (ho : Own w1 N w2) :
    Cur w2 J dv i depth bad ∧ Upd (fun k => k = J ∨ k = N) w w2 :=
  ⟨h.same (ho.2.block J h.lt hN), (hu.mono (fun _ e => .inl e)).trans (ho.2.mono (fun _ e => .inr e))⟩

theorem scan_bad {c : Nat → Int} {m E : Nat} {F : Int} (h : ((scan c m).2 = true ∧ F = 0 ∧ E = (scan c m).1) ∨ ((scan c m).2 = false ∧ (F != 0) = true)) (hs : (scan c m).2 = false) : (F != 0) = true := by
  rcases h with ⟨h, _⟩ | ⟨_, h⟩
  · rw [hs] at h; cases h
  · exact h
theorem scan_good {c : Nat → Int} {m E E0 : Nat} {F : Int} (h : ((scan c m).2 = true ∧ F = 0 ∧ E = (scan c m).1) ∨ ((scan c m).2 = false ∧ (F != 0) = true)) (hs : (scan c m).2 = true) (hE : E0 = (scan c m).1) : F = 0 ∧ E = E0 := by
  rcases h with ⟨_, a, b⟩ | ⟨h, _⟩
  · exact ⟨a, b.trans hE.symm⟩
  · rw [hs] at h; cases h

set_option maxHeartbeats 1600000 in
/-- The scanner finds a fault. -/
theorem plain_faultU (B o n cp : Nat) (b : Nat → Int) (J N i p s E0 : Nat) (depth : Int) (bad : Bool) (w : World) (hb : Byt w (some ⟨B, o, none⟩) n b) (hi : i ≤ n) (hn : n ≤ 4194304) (hcp : n ≤ cp) (hcm : cp ≤ maxLen)
    (hJ : B ≠ J) (hBN : B ≠ N) (hJN : J ≠ N) (hcur : Cur w J (.slice (some ⟨B, o, none⟩) n cp) i depth bad) (hp : Parts w N)
    (ep : p = run isSp b n i) (eq : false = decide (p < n ∧ b p = 34)) (es : s = p) (hsn : s < n) (hsc : (scan (fun j => b (s + j)) (n - s)).2 = false) :
    Calls Try.prog 38 #[.pointer (some ⟨J, 0, none⟩), .pointer (some ⟨N, 0, none⟩)] w (PlainPost (.slice none 0 0) (some ⟨B, o, none⟩) n cp J N (p) depth bad w) := by
  have kn := next_any (some ⟨B, o, none⟩) n cp b J i depth bad w hb hi hn (fun B' o' s' e => by cases e; exact hJ) hcur
  have ks := fun w1 (hu : Upd (fun k => k = J) w w1) => scan_pos B (o + s) (n - s) (cp - s) N (fun j => b (s + j)) w1 (by omega) (by omega) hBN (fun j => hb.1 (s + j))
    (fun j hj => by
      obtain ⟨B', o', e, h⟩ := (hb.upd hu (fun B' o' s' e f => by cases e; exact hJ f)).2 (s + j) (by omega)
      cases e; rw [Nat.add_assoc]; exact h) (hp.same (hu.block N hp.lt (Ne.symm hJN)))
  have kc := fun w1 (hu : Upd (fun k => k = J) w w1) w2 (ho : Own w1 N w2) (j : Nat) (hj : s + j < n) => show w2.cell? ⟨B, o + s + j, none⟩ = some (.int .u8 (b (s + j))) by
    obtain ⟨B', o', e, h⟩ := ((hb.upd hu (fun B' o' s' e f => by cases e; exact hJ f)).upd ho.2 (fun B' o' s' e f => by cases e; exact hBN f)).2 (s + j) hj
    cases e; rw [Nat.add_assoc]; exact h
  unfold NextPost at kn
  rw [← ep] at kn
  obtain ⟨y, hy⟩ : ∃ y, y = if p < n then b p else 0 := ⟨_, rfl⟩
  rw [← hy] at kn
  have hyq : (y == 34) = false := by
    rw [hy, eq, Bool.eq_iff_iff]
    by_cases h : p < n <;> simp [h]
  have hpn : p ≤ n := by rw [ep]; exact run_le hi
  unfold maxLen at hcm
  have HPT : Hid (Parts w N) := hp
  have HJ : Hid (J ≠ N) := hJN
  clear hy eq ep hb hcur hp hJN
  subst es
  have HSC : Hid ((scan _ _).2 = _) := hsc
  clear hsc
  have h1 : ¬ cp = s := by omega
  have h2 : (s : Int) ≤ (n : Int) := by omega
  have h3 : (n : Int) ≤ (cp : Int) := by omega
  go_enter Try.func38, Try.ntmps38
  go_wp2_with (first | (go_at_call 40; go_must (refine kn.mono ?_; rintro e w1 ⟨rfl, hc1, hu1⟩; have ks1 := ks w1 hu1; have d0 := hc1.c0; have d1 := hc1.c1; clear kn ks)) | (go_at_call 41; go_must (refine ks1.mono ?_; rintro e w2 ⟨rfl, E, F, hown, h5, h6, hE, hF⟩; have hF' : (F != 0) = true := scan_bad hF HSC.out; obtain ⟨hc2, hu2⟩ := cur_behind hc1 HJ.out hu1 hown; have d3 := hc2.c1; have d4 := hc2.free 1; have HK : Hid (Parts w2 N) := hown.1; have HU : Hid (Upd _ w w2) := hu2; have HC : Hid (Cur w2 J _ _ _ _) := hc2; clear ks1 d0 d1 hc1 hF)))
  go_ret
  exact ⟨rfl, HC.out, HK.out, HU.out⟩

set_option maxHeartbeats 1600000 in
/-- The scanner finds a fault. -/
theorem plain_faultQ (B o n cp : Nat) (b : Nat → Int) (J N i p s E0 : Nat) (depth : Int) (bad : Bool) (w : World) (hb : Byt w (some ⟨B, o, none⟩) n b) (hi : i ≤ n) (hn : n ≤ 4194304) (hcp : n ≤ cp) (hcm : cp ≤ maxLen)
    (hJ : B ≠ J) (hBN : B ≠ N) (hJN : J ≠ N) (hcur : Cur w J (.slice (some ⟨B, o, none⟩) n cp) i depth bad) (hp : Parts w N)
    (ep : p = run isSp b n i) (eq : true = decide (p < n ∧ b p = 34)) (es : s = p + 1) (hsn : s < n) (hsc : (scan (fun j => b (s + j)) (n - s)).2 = false) :
    Calls Try.prog 38 #[.pointer (some ⟨J, 0, none⟩), .pointer (some ⟨N, 0, none⟩)] w (PlainPost (.slice none 0 0) (some ⟨B, o, none⟩) n cp J N (p) depth bad w) := by
  have kn := next_any (some ⟨B, o, none⟩) n cp b J i depth bad w hb hi hn (fun B' o' s' e => by cases e; exact hJ) hcur
  have ks := fun w1 (hu : Upd (fun k => k = J) w w1) => scan_pos B (o + s) (n - s) (cp - s) N (fun j => b (s + j)) w1 (by omega) (by omega) hBN (fun j => hb.1 (s + j))
    (fun j hj => by
      obtain ⟨B', o', e, h⟩ := (hb.upd hu (fun B' o' s' e f => by cases e; exact hJ f)).2 (s + j) (by omega)
      cases e; rw [Nat.add_assoc]; exact h) (hp.same (hu.block N hp.lt (Ne.symm hJN)))
  have kc := fun w1 (hu : Upd (fun k => k = J) w w1) w2 (ho : Own w1 N w2) (j : Nat) (hj : s + j < n) => show w2.cell? ⟨B, o + s + j, none⟩ = some (.int .u8 (b (s + j))) by
    obtain ⟨B', o', e, h⟩ := ((hb.upd hu (fun B' o' s' e f => by cases e; exact hJ f)).upd ho.2 (fun B' o' s' e f => by cases e; exact hBN f)).2 (s + j) hj
    cases e; rw [Nat.add_assoc]; exact h
  unfold NextPost at kn
  rw [← ep] at kn
  obtain ⟨y, hy⟩ : ∃ y, y = if p < n then b p else 0 := ⟨_, rfl⟩
  rw [← hy] at kn
  have hyq : (y == 34) = true := by
    rw [hy, eq, Bool.eq_iff_iff]
    by_cases h : p < n <;> simp [h]
  have hpn : p ≤ n := by rw [ep]; exact run_le hi
  unfold maxLen at hcm
  have HPT : Hid (Parts w N) := hp
  have HJ : Hid (J ≠ N) := hJN
  clear hy eq ep hb hcur hp hJN
  subst es
  have HSC : Hid ((scan _ _).2 = _) := hsc
  clear hsc
  have h1 : ¬ cp = p + 1 := by omega
  have h2 : (p : Int) + 1 ≤ (n : Int) := by omega
  have h3 : (n : Int) ≤ (cp : Int) := by omega
  go_enter Try.func38, Try.ntmps38
  go_wp2_with (first | (go_at_call 40; go_must (refine kn.mono ?_; rintro e w1 ⟨rfl, hc1, hu1⟩; have ks1 := ks w1 hu1; have d0 := hc1.c0; have d1 := hc1.c1; clear kn ks)) | (go_at_call 41; go_must (refine ks1.mono ?_; rintro e w2 ⟨rfl, E, F, hown, h5, h6, hE, hF⟩; have hF' : (F != 0) = true := scan_bad hF HSC.out; obtain ⟨hc2, hu2⟩ := cur_behind hc1 HJ.out hu1 hown; have d3 := hc2.c1; have d4 := hc2.free 1; have HK : Hid (Parts w2 N) := hown.1; have HU : Hid (Upd _ w w2) := hu2; have HC : Hid (Cur w2 J _ _ _ _) := hc2; clear ks1 d0 d1 hc1 hF)))
  go_ret
  exact ⟨rfl, HC.out, HK.out, HU.out⟩

set_option maxHeartbeats 1600000 in
/-- A bare number. -/
theorem plain_okU (B o n cp : Nat) (b : Nat → Int) (J N i p s E0 : Nat) (depth : Int) (bad : Bool) (w : World) (hb : Byt w (some ⟨B, o, none⟩) n b) (hi : i ≤ n) (hn : n ≤ 4194304) (hcp : n ≤ cp) (hcm : cp ≤ maxLen)
    (hJ : B ≠ J) (hBN : B ≠ N) (hJN : J ≠ N) (hcur : Cur w J (.slice (some ⟨B, o, none⟩) n cp) i depth bad) (hp : Parts w N)
    (ep : p = run isSp b n i) (eq : false = decide (p < n ∧ b p = 34)) (es : s = p) (hsn : s < n) (hsc : (scan (fun j => b (s + j)) (n - s)).2 = true) (hE0 : E0 = (scan (fun j => b (s + j)) (n - s)).1) :
    Calls Try.prog 38 #[.pointer (some ⟨J, 0, none⟩), .pointer (some ⟨N, 0, none⟩)] w (PlainPost (.slice (some ⟨B, o + s, none⟩) E0 (cp - s)) (some ⟨B, o, none⟩) n cp J N (s + E0) depth bad w) := by
  have kn := next_any (some ⟨B, o, none⟩) n cp b J i depth bad w hb hi hn (fun B' o' s' e => by cases e; exact hJ) hcur
  have ks := fun w1 (hu : Upd (fun k => k = J) w w1) => scan_pos B (o + s) (n - s) (cp - s) N (fun j => b (s + j)) w1 (by omega) (by omega) hBN (fun j => hb.1 (s + j))
    (fun j hj => by
      obtain ⟨B', o', e, h⟩ := (hb.upd hu (fun B' o' s' e f => by cases e; exact hJ f)).2 (s + j) (by omega)
      cases e; rw [Nat.add_assoc]; exact h) (hp.same (hu.block N hp.lt (Ne.symm hJN)))
  have kc := fun w1 (hu : Upd (fun k => k = J) w w1) w2 (ho : Own w1 N w2) (j : Nat) (hj : s + j < n) => show w2.cell? ⟨B, o + s + j, none⟩ = some (.int .u8 (b (s + j))) by
    obtain ⟨B', o', e, h⟩ := ((hb.upd hu (fun B' o' s' e f => by cases e; exact hJ f)).upd ho.2 (fun B' o' s' e f => by cases e; exact hBN f)).2 (s + j) hj
    cases e; rw [Nat.add_assoc]; exact h
  unfold NextPost at kn
  rw [← ep] at kn
  obtain ⟨y, hy⟩ : ∃ y, y = if p < n then b p else 0 := ⟨_, rfl⟩
  rw [← hy] at kn
  have hyq : (y == 34) = false := by
    rw [hy, eq, Bool.eq_iff_iff]
    by_cases h : p < n <;> simp [h]
  have hpn : p ≤ n := by rw [ep]; exact run_le hi
  unfold maxLen at hcm
  have HPT : Hid (Parts w N) := hp
  have HJ : Hid (J ≠ N) := hJN
  clear hy eq ep hb hcur hp hJN
  subst es
  have HSC : Hid ((scan _ _).2 = _) := hsc
  clear hsc
  have HE0 : Hid (E0 = (scan _ _).1) := hE0
  clear hE0
  have h1 : ¬ cp = s := by omega
  have h2 : (s : Int) ≤ (n : Int) := by omega
  have h3 : (n : Int) ≤ (cp : Int) := by omega
  go_enter Try.func38, Try.ntmps38
  go_wp2_with (first | (go_at_call 40; go_must (refine kn.mono ?_; rintro e w1 ⟨rfl, hc1, hu1⟩; have ks1 := ks w1 hu1; have d0 := hc1.c0; have d1 := hc1.c1; clear kn ks)) | (go_at_call 41; go_must (refine ks1.mono ?_; rintro e w2 ⟨rfl, E, F, hown, h5, h6, hE, hF⟩; obtain ⟨hF', hE'⟩ := scan_good hF HSC.out HE0.out; subst hF'; subst hE'; obtain ⟨hc2, hu2⟩ := cur_behind hc1 HJ.out hu1 hown; have d3 := hc2.c1; have d4 := hc2.free 1; have HK : Hid (Parts w2 N) := hown.1; have HU : Hid (Upd _ w w2) := hu2; have HC : Hid (Cur w2 J _ _ _ _) := hc2; clear ks1 d0 d1 hc1 hF)))
  go_ret
  exact ⟨rfl, HC.out.setI _, HK.out.same (Below.heap_setCell _ _ _ _ (fun e => HJ.out e.symm)), HU.out.set (.inl rfl) _⟩

set_option maxHeartbeats 1600000 in
/-- Quoted, and the text ends behind the number. -/
theorem plain_endQ (B o n cp : Nat) (b : Nat → Int) (J N i p s E0 : Nat) (depth : Int) (bad : Bool) (w : World) (hb : Byt w (some ⟨B, o, none⟩) n b) (hi : i ≤ n) (hn : n ≤ 4194304) (hcp : n ≤ cp) (hcm : cp ≤ maxLen)
    (hJ : B ≠ J) (hBN : B ≠ N) (hJN : J ≠ N) (hcur : Cur w J (.slice (some ⟨B, o, none⟩) n cp) i depth bad) (hp : Parts w N)
    (ep : p = run isSp b n i) (eq : true = decide (p < n ∧ b p = 34)) (es : s = p + 1) (hsn : s < n) (hsc : (scan (fun j => b (s + j)) (n - s)).2 = true) (hE0 : E0 = (scan (fun j => b (s + j)) (n - s)).1) (hend : E0 = n - s) :
    Calls Try.prog 38 #[.pointer (some ⟨J, 0, none⟩), .pointer (some ⟨N, 0, none⟩)] w (PlainPost (.slice none 0 0) (some ⟨B, o, none⟩) n cp J N (p) depth bad w) := by
  have kn := next_any (some ⟨B, o, none⟩) n cp b J i depth bad w hb hi hn (fun B' o' s' e => by cases e; exact hJ) hcur
  have ks := fun w1 (hu : Upd (fun k => k = J) w w1) => scan_pos B (o + s) (n - s) (cp - s) N (fun j => b (s + j)) w1 (by omega) (by omega) hBN (fun j => hb.1 (s + j))
    (fun j hj => by
      obtain ⟨B', o', e, h⟩ := (hb.upd hu (fun B' o' s' e f => by cases e; exact hJ f)).2 (s + j) (by omega)
      cases e; rw [Nat.add_assoc]; exact h) (hp.same (hu.block N hp.lt (Ne.symm hJN)))
  have kc := fun w1 (hu : Upd (fun k => k = J) w w1) w2 (ho : Own w1 N w2) (j : Nat) (hj : s + j < n) => show w2.cell? ⟨B, o + s + j, none⟩ = some (.int .u8 (b (s + j))) by
    obtain ⟨B', o', e, h⟩ := ((hb.upd hu (fun B' o' s' e f => by cases e; exact hJ f)).upd ho.2 (fun B' o' s' e f => by cases e; exact hBN f)).2 (s + j) hj
    cases e; rw [Nat.add_assoc]; exact h
  unfold NextPost at kn
  rw [← ep] at kn
  obtain ⟨y, hy⟩ : ∃ y, y = if p < n then b p else 0 := ⟨_, rfl⟩
  rw [← hy] at kn
  have hyq : (y == 34) = true := by
    rw [hy, eq, Bool.eq_iff_iff]
    by_cases h : p < n <;> simp [h]
  have hpn : p ≤ n := by rw [ep]; exact run_le hi
  unfold maxLen at hcm
  have HPT : Hid (Parts w N) := hp
  have HJ : Hid (J ≠ N) := hJN
  clear hy eq ep hb hcur hp hJN
  subst es
  have HSC : Hid ((scan _ _).2 = _) := hsc
  clear hsc
  have HE0 : Hid (E0 = (scan _ _).1) := hE0
  clear hE0
  have h1 : ¬ cp = p + 1 := by omega
  have h2 : (p : Int) + 1 ≤ (n : Int) := by omega
  have h3 : (n : Int) ≤ (cp : Int) := by omega
  have hend' : ((E0 : Int) == ((n - (p + 1) : Nat) : Int)) = true := by simp; omega
  clear hend
  go_enter Try.func38, Try.ntmps38
  go_wp2_with (first | (go_at_call 40; go_must (refine kn.mono ?_; rintro e w1 ⟨rfl, hc1, hu1⟩; have ks1 := ks w1 hu1; have d0 := hc1.c0; have d1 := hc1.c1; clear kn ks)) | (go_at_call 41; go_must (refine ks1.mono ?_; rintro e w2 ⟨rfl, E, F, hown, h5, h6, hE, hF⟩; obtain ⟨hF', hE'⟩ := scan_good hF HSC.out HE0.out; subst hF'; subst hE'; obtain ⟨hc2, hu2⟩ := cur_behind hc1 HJ.out hu1 hown; have d3 := hc2.c1; have d4 := hc2.free 1; have HK : Hid (Parts w2 N) := hown.1; have HU : Hid (Upd _ w w2) := hu2; have HC : Hid (Cur w2 J _ _ _ _) := hc2; clear ks1 d0 d1 hc1 hF)))
  go_ret
  exact ⟨rfl, HC.out, HK.out, HU.out⟩

set_option maxHeartbeats 1600000 in
/-- Quoted, and another byte than the quote stands behind the number. -/
theorem plain_elseQ (B o n cp : Nat) (b : Nat → Int) (J N i p s E0 : Nat) (depth : Int) (bad : Bool) (w : World) (hb : Byt w (some ⟨B, o, none⟩) n b) (hi : i ≤ n) (hn : n ≤ 4194304) (hcp : n ≤ cp) (hcm : cp ≤ maxLen)
    (hJ : B ≠ J) (hBN : B ≠ N) (hJN : J ≠ N) (hcur : Cur w J (.slice (some ⟨B, o, none⟩) n cp) i depth bad) (hp : Parts w N)
    (ep : p = run isSp b n i) (eq : true = decide (p < n ∧ b p = 34)) (es : s = p + 1) (hsn : s < n) (hsc : (scan (fun j => b (s + j)) (n - s)).2 = true) (hE0 : E0 = (scan (fun j => b (s + j)) (n - s)).1) (hend : s + E0 < n) (h34 : b (s + E0) ≠ 34) :
    Calls Try.prog 38 #[.pointer (some ⟨J, 0, none⟩), .pointer (some ⟨N, 0, none⟩)] w (PlainPost (.slice none 0 0) (some ⟨B, o, none⟩) n cp J N (p) depth bad w) := by
  have kn := next_any (some ⟨B, o, none⟩) n cp b J i depth bad w hb hi hn (fun B' o' s' e => by cases e; exact hJ) hcur
  have ks := fun w1 (hu : Upd (fun k => k = J) w w1) => scan_pos B (o + s) (n - s) (cp - s) N (fun j => b (s + j)) w1 (by omega) (by omega) hBN (fun j => hb.1 (s + j))
    (fun j hj => by
      obtain ⟨B', o', e, h⟩ := (hb.upd hu (fun B' o' s' e f => by cases e; exact hJ f)).2 (s + j) (by omega)
      cases e; rw [Nat.add_assoc]; exact h) (hp.same (hu.block N hp.lt (Ne.symm hJN)))
  have kc := fun w1 (hu : Upd (fun k => k = J) w w1) w2 (ho : Own w1 N w2) (j : Nat) (hj : s + j < n) => show w2.cell? ⟨B, o + s + j, none⟩ = some (.int .u8 (b (s + j))) by
    obtain ⟨B', o', e, h⟩ := ((hb.upd hu (fun B' o' s' e f => by cases e; exact hJ f)).upd ho.2 (fun B' o' s' e f => by cases e; exact hBN f)).2 (s + j) hj
    cases e; rw [Nat.add_assoc]; exact h
  unfold NextPost at kn
  rw [← ep] at kn
  obtain ⟨y, hy⟩ : ∃ y, y = if p < n then b p else 0 := ⟨_, rfl⟩
  rw [← hy] at kn
  have hyq : (y == 34) = true := by
    rw [hy, eq, Bool.eq_iff_iff]
    by_cases h : p < n <;> simp [h]
  have hpn : p ≤ n := by rw [ep]; exact run_le hi
  unfold maxLen at hcm
  have HPT : Hid (Parts w N) := hp
  have HJ : Hid (J ≠ N) := hJN
  clear hy eq ep hb hcur hp hJN
  subst es
  have HSC : Hid ((scan _ _).2 = _) := hsc
  clear hsc
  have HE0 : Hid (E0 = (scan _ _).1) := hE0
  clear hE0
  have h1 : ¬ cp = p + 1 := by omega
  have h2 : (p : Int) + 1 ≤ (n : Int) := by omega
  have h3 : (n : Int) ≤ (cp : Int) := by omega
  have hend' : ((E0 : Int) == ((n - (p + 1) : Nat) : Int)) = false := by simp; omega
  have hlt' : (E0 : Int) < ((n - (p + 1) : Nat) : Int) := by omega
  go_enter Try.func38, Try.ntmps38
  go_wp2_with (first | (go_at_call 40; go_must (refine kn.mono ?_; rintro e w1 ⟨rfl, hc1, hu1⟩; have ks1 := ks w1 hu1; have d0 := hc1.c0; have d1 := hc1.c1; clear kn ks)) | (go_at_call 41; go_must (refine ks1.mono ?_; rintro e w2 ⟨rfl, E, F, hown, h5, h6, hE, hF⟩; obtain ⟨hF', hE'⟩ := scan_good hF HSC.out HE0.out; subst hF'; subst hE'; have hx := kc w1 hu1 w2 hown E hend; have h34' : (b (p + 1 + E) != 34) = true := (by simpa using h34); obtain ⟨x, hxv⟩ : ∃ x, x = b (p + 1 + E) := ⟨_, rfl⟩; rw [← hxv] at hx h34'; clear hxv kc; obtain ⟨hc2, hu2⟩ := cur_behind hc1 HJ.out hu1 hown; have d3 := hc2.c1; have d4 := hc2.free 1; have HK : Hid (Parts w2 N) := hown.1; have HU : Hid (Upd _ w w2) := hu2; have HC : Hid (Cur w2 J _ _ _ _) := hc2; clear ks1 d0 d1 hc1 hF)))
  go_ret
  exact ⟨rfl, HC.out, HK.out, HU.out⟩

set_option maxHeartbeats 1600000 in
/-- A quoted number. -/
theorem plain_okQ (B o n cp : Nat) (b : Nat → Int) (J N i p s E0 : Nat) (depth : Int) (bad : Bool) (w : World) (hb : Byt w (some ⟨B, o, none⟩) n b) (hi : i ≤ n) (hn : n ≤ 4194304) (hcp : n ≤ cp) (hcm : cp ≤ maxLen)
    (hJ : B ≠ J) (hBN : B ≠ N) (hJN : J ≠ N) (hcur : Cur w J (.slice (some ⟨B, o, none⟩) n cp) i depth bad) (hp : Parts w N)
    (ep : p = run isSp b n i) (eq : true = decide (p < n ∧ b p = 34)) (es : s = p + 1) (hsn : s < n) (hsc : (scan (fun j => b (s + j)) (n - s)).2 = true) (hE0 : E0 = (scan (fun j => b (s + j)) (n - s)).1) (hend : s + E0 < n) (h34 : b (s + E0) = 34) :
    Calls Try.prog 38 #[.pointer (some ⟨J, 0, none⟩), .pointer (some ⟨N, 0, none⟩)] w (PlainPost (.slice (some ⟨B, o + s, none⟩) E0 (cp - s)) (some ⟨B, o, none⟩) n cp J N (s + E0 + 1) depth bad w) := by
  have kn := next_any (some ⟨B, o, none⟩) n cp b J i depth bad w hb hi hn (fun B' o' s' e => by cases e; exact hJ) hcur
  have ks := fun w1 (hu : Upd (fun k => k = J) w w1) => scan_pos B (o + s) (n - s) (cp - s) N (fun j => b (s + j)) w1 (by omega) (by omega) hBN (fun j => hb.1 (s + j))
    (fun j hj => by
      obtain ⟨B', o', e, h⟩ := (hb.upd hu (fun B' o' s' e f => by cases e; exact hJ f)).2 (s + j) (by omega)
      cases e; rw [Nat.add_assoc]; exact h) (hp.same (hu.block N hp.lt (Ne.symm hJN)))
  have kc := fun w1 (hu : Upd (fun k => k = J) w w1) w2 (ho : Own w1 N w2) (j : Nat) (hj : s + j < n) => show w2.cell? ⟨B, o + s + j, none⟩ = some (.int .u8 (b (s + j))) by
    obtain ⟨B', o', e, h⟩ := ((hb.upd hu (fun B' o' s' e f => by cases e; exact hJ f)).upd ho.2 (fun B' o' s' e f => by cases e; exact hBN f)).2 (s + j) hj
    cases e; rw [Nat.add_assoc]; exact h
  unfold NextPost at kn
  rw [← ep] at kn
  obtain ⟨y, hy⟩ : ∃ y, y = if p < n then b p else 0 := ⟨_, rfl⟩
  rw [← hy] at kn
  have hyq : (y == 34) = true := by
    rw [hy, eq, Bool.eq_iff_iff]
    by_cases h : p < n <;> simp [h]
  have hpn : p ≤ n := by rw [ep]; exact run_le hi
  unfold maxLen at hcm
  have HPT : Hid (Parts w N) := hp
  have HJ : Hid (J ≠ N) := hJN
  clear hy eq ep hb hcur hp hJN
  subst es
  have HSC : Hid ((scan _ _).2 = _) := hsc
  clear hsc
  have HE0 : Hid (E0 = (scan _ _).1) := hE0
  clear hE0
  have h1 : ¬ cp = p + 1 := by omega
  have h2 : (p : Int) + 1 ≤ (n : Int) := by omega
  have h3 : (n : Int) ≤ (cp : Int) := by omega
  have hend' : ((E0 : Int) == ((n - (p + 1) : Nat) : Int)) = false := by simp; omega
  have hlt' : (E0 : Int) < ((n - (p + 1) : Nat) : Int) := by omega
  go_enter Try.func38, Try.ntmps38
  go_wp2_with (first | (go_at_call 40; go_must (refine kn.mono ?_; rintro e w1 ⟨rfl, hc1, hu1⟩; have ks1 := ks w1 hu1; have d0 := hc1.c0; have d1 := hc1.c1; clear kn ks)) | (go_at_call 41; go_must (refine ks1.mono ?_; rintro e w2 ⟨rfl, E, F, hown, h5, h6, hE, hF⟩; obtain ⟨hF', hE'⟩ := scan_good hF HSC.out HE0.out; subst hF'; subst hE'; have hx := kc w1 hu1 w2 hown E hend; rw [h34] at hx; clear kc; obtain ⟨hc2, hu2⟩ := cur_behind hc1 HJ.out hu1 hown; have d3 := hc2.c1; have d4 := hc2.free 1; have HK : Hid (Parts w2 N) := hown.1; have HU : Hid (Upd _ w w2) := hu2; have HC : Hid (Cur w2 J _ _ _ _) := hc2; clear ks1 d0 d1 hc1 hF)))
  go_ret
  exact ⟨rfl, (HC.out.setI _).setI _, (HK.out.same (Below.heap_setCell _ _ _ _ (fun e => HJ.out e.symm))).same (Below.heap_setCell _ _ _ _ (fun e => HJ.out e.symm)), (HU.out.set (.inl rfl) _).set (.inl rfl) _⟩
end Go.Proofs.Qxb6600608a
