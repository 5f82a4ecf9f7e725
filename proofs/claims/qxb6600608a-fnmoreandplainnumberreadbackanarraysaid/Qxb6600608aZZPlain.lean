/-
  'plainNumber' whole (38), 'ZZPlainNumber' (23), 'sameBytes' (24).
-/
import Derived.Test.Qxb6600608aPlainZ
namespace Go.Proofs.Qxb6600608a
open Go.RowKit
open Plain
set_option linter.unusedVariables false

section
variable (b : Nat → Int) (n i : Nat)
def pP : Nat := run isSp b n i
def pQ : Bool := decide (pP b n i < n ∧ b (pP b n i) = 34)
def pS : Nat := if pQ b n i = true then pP b n i + 1 else pP b n i
def pE : Nat := (scan (fun j => b (pS b n i + j)) (n - pS b n i)).1
def pOk : Bool := (scan (fun j => b (pS b n i + j)) (n - pS b n i)).2 && (!pQ b n i || (decide (pS b n i + pE b n i < n) && decide (b (pS b n i + pE b n i) = 34)))
def pC : Nat := if pOk b n i = true then pS b n i + pE b n i + (if pQ b n i = true then 1 else 0) else pP b n i
end
/-- The text that 'plainNumber' hands back. -/
def pV (b : Nat → Int) (n i B o cp : Nat) : Value := if pOk b n i = true then .slice (some ⟨B, o + pS b n i, none⟩) (pE b n i) (cp - pS b n i) else .slice none 0 0

theorem scan_le (c : Nat → Int) (m : Nat) : (scan c m).2 = true → (scan c m).1 ≤ m := by
  intro h
  have hr : ∀ k, k ≤ m → run isDg c m k ≤ m := fun k hk => run_le hk
  have hexp : ∀ k, k ≤ m → (expo c m k).1 ≤ m := by
    intro k hk
    unfold expo
    by_cases h : k < m ∧ (c k = 101 ∨ c k = 69)
    · rw [if_pos h]
      by_cases h2 : k + 1 < m ∧ (c (k + 1) = 43 ∨ c (k + 1) = 45)
      · simp only [if_pos h2]; exact hr _ (by omega)
      · simp only [if_neg h2]; exact hr _ (by omega)
    · rw [if_neg h]; exact hk
  have hfr : ∀ k, k ≤ m → (frac c m k).1 ≤ m := by
    intro k hk
    unfold frac
    by_cases h : k < m ∧ c k = 46
    · rw [if_pos h]
      split
      · omega
      · exact hexp _ (hr _ (by omega))
    · rw [if_neg h]; exact hexp _ hk
  have hin : ∀ k, k ≤ m → (intg c m k).1 ≤ m := by
    intro k hk
    unfold intg
    split
    · exact hk
    · split
      · exact hr _ hk
      · exact hfr _ (hr _ hk)
  unfold scan
  by_cases h0 : 0 < m ∧ c 0 = 45
  · rw [if_pos h0]; exact hin _ (by omega)
  · rw [if_neg h0]; exact hin _ (by omega)

theorem pS_le {b : Nat → Int} {n i : Nat} (hi : i ≤ n) : pP b n i ≤ n ∧ pS b n i ≤ n := by
  have h1 : pP b n i ≤ n := run_le hi
  refine ⟨h1, ?_⟩
  unfold pS
  by_cases h : pQ b n i = true
  · rw [if_pos h]
    unfold pQ at h
    have := (of_decide_eq_true h).1
    omega
  · rw [if_neg h]; exact h1

theorem plain_any (B o n cp : Nat) (b : Nat → Int) (J N i : Nat) (depth : Int) (bad : Bool) (w : World) (hb : Byt w (some ⟨B, o, none⟩) n b) (hi : i ≤ n) (hn : n ≤ 4194304) (hcp : n ≤ cp) (hcm : cp ≤ maxLen)
    (hJ : B ≠ J) (hBN : B ≠ N) (hJN : J ≠ N) (hcur : Cur w J (.slice (some ⟨B, o, none⟩) n cp) i depth bad) (hp : Parts w N) :
    Calls Try.prog 38 #[.pointer (some ⟨J, 0, none⟩), .pointer (some ⟨N, 0, none⟩)] w (PlainPost (pV b n i B o cp) (some ⟨B, o, none⟩) n cp J N (pC b n i) depth bad w) := by
  obtain ⟨hP, hS⟩ := pS_le (b := b) hi
  by_cases hsn : pS b n i < n
  · cases hok : (scan (fun j => b (pS b n i + j)) (n - pS b n i)).2 with
    | false =>
      have e : pOk b n i = false := by simp [pOk, hok]
      have e1 : pV b n i B o cp = .slice none 0 0 := by simp [pV, e]
      have e2 : pC b n i = pP b n i := by simp [pC, e]
      rw [e1, e2]
      cases hq : pQ b n i with
      | false => exact plain_faultU B o n cp b J N i _ _ 0 depth bad w hb hi hn hcp hcm hJ hBN hJN hcur hp rfl hq.symm (by simp [pS, hq, pP]) hsn hok
      | true => exact plain_faultQ B o n cp b J N i _ _ 0 depth bad w hb hi hn hcp hcm hJ hBN hJN hcur hp rfl hq.symm (by simp [pS, hq, pP]) hsn hok
    | true =>
      have hle := scan_le _ _ hok
      cases hq : pQ b n i with
      | false =>
        have e : pOk b n i = true := by simp [pOk, hok, hq]
        have e1 : pV b n i B o cp = .slice (some ⟨B, o + pS b n i, none⟩) (pE b n i) (cp - pS b n i) := by simp [pV, e]
        have e2 : pC b n i = pS b n i + pE b n i := by simp [pC, e, hq]
        rw [e1, e2]
        exact plain_okU B o n cp b J N i _ _ _ depth bad w hb hi hn hcp hcm hJ hBN hJN hcur hp rfl hq.symm (by simp [pS, hq, pP]) hsn hok rfl
      | true =>
        by_cases h1 : pS b n i + pE b n i < n
        · by_cases h2 : b (pS b n i + pE b n i) = 34
          · have e : pOk b n i = true := by simp [pOk, hok, h1, h2]
            have e1 : pV b n i B o cp = .slice (some ⟨B, o + pS b n i, none⟩) (pE b n i) (cp - pS b n i) := by simp [pV, e]
            have e2 : pC b n i = pS b n i + pE b n i + 1 := by simp [pC, e, hq]
            rw [e1, e2]
            exact plain_okQ B o n cp b J N i _ _ _ depth bad w hb hi hn hcp hcm hJ hBN hJN hcur hp rfl hq.symm (by simp [pS, hq, pP]) hsn hok rfl h1 h2
          · have e : pOk b n i = false := by simp [pOk, hq, h2]
            have e1 : pV b n i B o cp = .slice none 0 0 := by simp [pV, e]
            have e2 : pC b n i = pP b n i := by simp [pC, e]
            rw [e1, e2]
            exact plain_elseQ B o n cp b J N i _ _ _ depth bad w hb hi hn hcp hcm hJ hBN hJN hcur hp rfl hq.symm (by simp [pS, hq, pP]) hsn hok rfl h1 h2
        · have e : pOk b n i = false := by simp [pOk, hq, h1]
          have e1 : pV b n i B o cp = .slice none 0 0 := by simp [pV, e]
          have e2 : pC b n i = pP b n i := by simp [pC, e]
          rw [e1, e2]
          exact plain_endQ B o n cp b J N i _ _ _ depth bad w hb hi hn hcp hcm hJ hBN hJN hcur hp rfl hq.symm (by simp [pS, hq, pP]) hsn hok rfl (by unfold pE at h1; omega)
  · have hS' : pS b n i = n := by omega
    have h0 : (scan (fun j => b (n + j)) 0).2 = false := by
      have e : scan (fun j => b (n + j)) 0 = intg (fun j => b (n + j)) 0 0 := by unfold scan; rw [if_neg (by omega)]
      rw [e, intg, run_zero, if_pos rfl]
    have e : pOk b n i = false := by simp [pOk, hS', h0]
    have e1 : pV b n i B o cp = .slice none 0 0 := by simp [pV, e]
    have e2 : pC b n i = pP b n i := by simp [pC, e]
    rw [e1, e2]
    exact plain_zero B o n cp b J N i _ _ depth bad w hb hi hn hcp hcm hJ hJN hcur hp rfl rfl hS'.symm

/-- What 'ZZPlainNumber' hands back. -/
def ZZPost (r : Value) (ci : Nat) (depth : Int) (bad : Bool) (w : World) (e : Ending) (w' : World) : Prop :=
  ∃ z0 z1 z2 z3 z4 z5 zf : Int, e = .returned (.tuple #[r, .int .i64 ci, .int .i64 depth, .bool bad, .int .i64 z0, .int .i64 z1, .int .i64 z2, .int .i64 z3, .int .i64 z4, .int .i64 z5, .int .u8 zf]) ∧ Below w.heap.size w w'

theorem cur_made (w : World) (dv : Value) (i depth : Int) (bad : Bool) (o : Obj) : Cur ((w.alloc (.cells #[dv, .int .i64 i, .int .i64 depth, .bool bad] 74)).alloc o) w.heap.size dv i depth bad := by
  have h : ∀ j, ((w.alloc (.cells #[dv, .int .i64 i, .int .i64 depth, .bool bad] 74)).alloc o).cell? ⟨w.heap.size, j, none⟩ = #[dv, .int .i64 i, .int .i64 depth, .bool bad][j]? := fun j => by
    rw [World.cell?_alloc_past _ _ _ (by simp), World.cell?_alloc_at _ _ _ _ rfl]
  refine ⟨?_, ?_, ?_, ?_, fun j => ?_⟩
  · rw [h]; rfl
  · rw [h]; rfl
  · rw [h]; rfl
  · rw [h]; rfl
  · rw [World.frozen?_alloc_past _ _ _ (by simp), World.frozen?_alloc_at _ _ _ _ rfl]

theorem parts_made (w : World) : Parts (w.alloc (.cells #[.int .i64 0, .int .i64 0, .int .i64 0, .int .i64 0, .int .i64 0, .int .i64 0, .int .u8 0] 77)) w.heap.size := by
  refine ⟨fun j hj => ⟨0, ?_⟩, ⟨0, ?_⟩, fun j => World.frozen?_alloc_at _ _ _ _ rfl⟩
  · rw [World.cell?_alloc_at _ _ _ _ rfl]
    have : j = 0 ∨ j = 1 ∨ j = 2 ∨ j = 3 ∨ j = 4 ∨ j = 5 := by omega
    rcases this with rfl | rfl | rfl | rfl | rfl | rfl <;> rfl
  · rw [World.cell?_alloc_at _ _ _ _ rfl]; rfl

set_option maxRecDepth 100000 in
set_option maxHeartbeats 3200000 in
/-- 'ZZPlainNumber' by what 'plainNumber' answers on a cursor over dv. -/
theorem zz_of (a : Option Addr) (n cp i : Nat) (r : Value) (ci : Nat) (depth : Int) (bad : Bool) (w : World)
    (key : ∀ w1, Cur w1 w.heap.size (.slice a n cp) i depth bad → Parts w1 (w.heap.size + 1) → Below w.heap.size w w1 → Calls Try.prog 38 #[.pointer (some ⟨w.heap.size, 0, none⟩), .pointer (some ⟨w.heap.size + 1, 0, none⟩)] w1 (PlainPost r a n cp w.heap.size (w.heap.size + 1) ci depth bad w1)) :
    Calls Try.prog 23 #[.slice a n cp, .int .i64 i, .int .i64 depth, .bool bad] w (ZZPost r ci depth bad w) := by
  have k1 := key ((w.alloc (.cells #[.slice a n cp, .int .i64 i, .int .i64 depth, .bool bad] 74)).alloc (.cells #[.int .i64 0, .int .i64 0, .int .i64 0, .int .i64 0, .int .i64 0, .int .i64 0, .int .u8 0] 77))
    (cur_made _ _ _ _ _ _) (by have := parts_made (w.alloc (.cells #[.slice a n cp, .int .i64 i, .int .i64 depth, .bool bad] 74)); simpa using this)
    (((Below.refl _ _).alloc (Nat.le_refl _) _).alloc (by simp) _)
  clear key
  go_enter Try.func23, Try.ntmps23
  go_wp2_with (go_at_call 38; go_must (refine k1.mono ?_; rintro e w2 ⟨rfl, hc, hp, hu⟩))
  obtain ⟨c0, c1, c2, c3, _⟩ := hc
  obtain ⟨z0, h0⟩ := hp.ints 0 (by omega)
  obtain ⟨z1, h1⟩ := hp.ints 1 (by omega)
  obtain ⟨z2, h2⟩ := hp.ints 2 (by omega)
  obtain ⟨z3, h3⟩ := hp.ints 3 (by omega)
  obtain ⟨z4, h4⟩ := hp.ints 4 (by omega)
  obtain ⟨z5, h5⟩ := hp.ints 5 (by omega)
  obtain ⟨zf, h6⟩ := hp.flt
  have HB : Hid (Below w.heap.size w w2) := by
    refine (((Below.refl _ _).alloc (Nat.le_refl _) _).alloc (by simp) _).trans (hu.below (by simp; omega) ?_)
    intro k hk; rcases hk with h | h <;> omega
  clear hp hu
  go_quiet (fail)
  go_wp2

  exact bodyPost_ret (v := .tuple #[r, .int .i64 ci, .int .i64 depth, .bool bad, .int .i64 z0, .int .i64 z1, .int .i64 z2, .int .i64 z3, .int .i64 z4, .int .i64 z5, .int .u8 zf]) (by simp [results, Try.results23, go_sem]) rfl ⟨z0, z1, z2, z3, z4, z5, zf, rfl, (by have := HB.out; exact ⟨this.os, this.tape, this.output, this.size, this.block⟩)⟩
end Go.Proofs.Qxb6600608a
