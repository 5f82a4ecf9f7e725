/-
  '(*jsonCursor).next' (function 40).
-/
import Derived.Test.Qxb6600608aScan
namespace Go.Proofs.Qxb6600608a
open Go.RowKit
open Plain

/-- The cursor, in block J. -/
structure Cur (w : World) (J : Nat) (dv : Value) (i depth : Int) (bad : Bool) : Prop where
  c0 : w.cell? ⟨J, 0, none⟩ = some dv
  c1 : w.cell? ⟨J, 1, none⟩ = some (.int .i64 i)
  c2 : w.cell? ⟨J, 2, none⟩ = some (.int .i64 depth)
  c3 : w.cell? ⟨J, 3, none⟩ = some (.bool bad)
  free : ∀ j, w.frozen? ⟨J, j, none⟩ = false

theorem Cur.drewN {w : World} {J : Nat} {dv : Value} {i depth : Int} {bad : Bool} (h : Cur w J dv i depth bad) (n : Nat) : Cur (w.drewN n) J dv i depth bad := ⟨h.c0, h.c1, h.c2, h.c3, h.free⟩
theorem Cur.setI {w : World} {J : Nat} {dv : Value} {i depth : Int} {bad : Bool} (h : Cur w J dv i depth bad) (k : Int) : Cur (w.setCell ⟨J, 1, none⟩ (.int .i64 k)) J dv k depth bad := by
  refine ⟨?_, World.cell?_setCell_same _ _ _ h.c1, ?_, ?_, fun j => by rw [World.frozen?_setCell]; exact h.free j⟩
  · rw [World.cell?_setCell_other _ _ _ _ (by intro e'; injection e'; omega)]; exact h.c0
  · rw [World.cell?_setCell_other _ _ _ _ (by intro e'; injection e'; omega)]; exact h.c2
  · rw [World.cell?_setCell_other _ _ _ _ (by intro e'; injection e'; omega)]; exact h.c3
theorem Cur.same {w w' : World} {J : Nat} {dv : Value} {i depth : Int} {bad : Bool} (h : Cur w J dv i depth bad) (e : w'.heap[J]? = w.heap[J]?) : Cur w' J dv i depth bad :=
  ⟨by rw [World.cell?_of_block (w := w) (a := ⟨J, 0, none⟩) e]; exact h.c0, by rw [World.cell?_of_block (w := w) (a := ⟨J, 1, none⟩) e]; exact h.c1,
   by rw [World.cell?_of_block (w := w) (a := ⟨J, 2, none⟩) e]; exact h.c2, by rw [World.cell?_of_block (w := w) (a := ⟨J, 3, none⟩) e]; exact h.c3,
   fun j => by rw [World.frozen?_of_block (w := w) (a := ⟨J, j, none⟩) e]; exact h.free j⟩
theorem Cur.lt {w : World} {J : Nat} {dv : Value} {i depth : Int} {bad : Bool} (h : Cur w J dv i depth bad) : J < w.heap.size := World.block_lt_of_cell? _ _ h.c0

/-- Where the cursor stands, off the world. -/
def curAt (J : Nat) (w : World) : Nat := ((w.cell? ⟨J, 1, none⟩).map fun v => (intOf v).toNat).getD 0
theorem curAt_of {J : Nat} {w : World} {k : Nat} (h : w.cell? ⟨J, 1, none⟩ = some (.int .i64 k)) : curAt J w = k := by simp [curAt, h, intOf]

/-- The data do not lie in block J. -/
def Away (a : Option Addr) (J : Nat) : Prop := ∀ B o s, a = some ⟨B, o, s⟩ → B ≠ J

theorem Byt.upd {w w' : World} {a : Option Addr} {m : Nat} {c : Nat → Int} {F : Nat → Prop} (h : Byt w a m c) (u : Upd F w w') (hF : ∀ B o s, a = some ⟨B, o, s⟩ → ¬ F B) : Byt w' a m c := by
  refine ⟨h.1, fun j hj => ?_⟩
  obtain ⟨B, o, ha, hc⟩ := h.2 j hj
  refine ⟨B, o, ha, ?_⟩
  rw [World.cell?_of_block (w := w) (a := ⟨B, o + j, none⟩) (u.block B (World.block_lt_of_cell? _ _ hc) (hF B o _ ha))]
  exact hc

def NextPost (a : Option Addr) (n cp : Nat) (b : Nat → Int) (J i : Nat) (depth : Int) (bad : Bool) (w : World) (e : Ending) (w' : World) : Prop :=
  e = .returned (.int .u8 (if run isSp b n i < n then b (run isSp b n i) else 0)) ∧ Cur w' J (.slice a n cp) (run isSp b n i : Nat) depth bad ∧ Upd (fun k => k = J) w w'

set_option maxHeartbeats 1600000 in
theorem next_any (a : Option Addr) (n cp : Nat) (b : Nat → Int) (J i : Nat) (depth : Int) (bad : Bool) (w : World) (hb : Byt w a n b) (hi : i ≤ n) (hn : n ≤ 4194304) (hJ : Away a J) (hcur : Cur w J (.slice a n cp) i depth bad) :
    Calls Try.prog 40 #[.pointer (some ⟨J, 0, none⟩)] w (NextPost a n cp b J i depth bad w) := by
  have HB : Hid (Byt w a n b) := hb
  have HC : Hid _ := hcur
  clear hb hcur
  go_enter Try.func40, Try.ntmps40
  go_wp2
  go_loopw [3] (fun _ wr => ∃ k : Nat, k ≤ n ∧ Cur wr J (.slice a n cp) k depth bad ∧ Upd (fun x => x = J) w wr ∧ run isSp b n i = run isSp b n k) (fun _ wr => n - curAt J wr)
  case atStart => exact ⟨i, hi, HC.out, Upd.refl _ _, rfl⟩
  case round =>
    obtain ⟨k, hk, hcur, hupd, hr⟩ := hrel
    have HR : Hid (run isSp b n i = run isSp b n k) := hr
    have c0 := hcur.c0
    have c1 := hcur.c1
    have g1 := hcur.free 1
    have HU : Hid _ := hcur
    have HP : Hid (Upd (fun x => x = J) w wr) := hupd
    clear hr hcur
    by_cases hlt : k < n
    · obtain ⟨B, o, ha, hcell⟩ := (HB.out.upd hupd (fun B o s e f => hJ B o s e f)).2 k hlt
      have hx := HB.out.1 k
      clear hupd
      subst ha
      have hlt' : (k : Int) < (n : Int) := by omega
      obtain ⟨x, hxv⟩ : ∃ x, x = b k := ⟨_, rfl⟩
      have HX : Hid (x = b k) := hxv
      rw [← hxv] at hcell hx
      clear hxv
      by_cases hs : isSp x = true
      · have HS : Hid (run isSp b n k = run isSp b n (k + 1)) := run_step hlt (by rw [← HX.out]; exact hs)
        rw [isSp_iff] at hs
        rcases hs with hs | hs | hs | hs
        all_goals
          subst hs
          go_wp2
          go_quiet (fail)
          go_wp2
          go_quiet (fail)
          go_wp2
          go_roundw
          case rel => exact ⟨k + 1, by omega, by first | exact ((HU.out.drewN _).drewN _).setI _ | exact (HU.out.drewN _).setI _, by first | exact (((HP.out.drewN _).drewN _).set rfl _) | exact ((HP.out.drewN _).set rfl _), HR.out.trans HS.out⟩
          case measure =>
            rw [curAt_of HU.out.c1]
            have e : ∀ q, curAt J ((wr.drewN q).setCell ⟨J, 1, none⟩ (.int .i64 ((k : Int) + 1))) = k + 1 := fun q => curAt_of (k := k + 1) ((HU.out.drewN q).setI _).c1
            rw [e]
            omega
      · have HS : Hid (run isSp b n k = k) := run_stop (by rw [← HX.out]; simpa using hs)
        have hs' : ¬ (x = 32 ∨ x = 9 ∨ x = 10 ∨ x = 13) := by rw [← isSp_iff]; exact hs
        have hcl : 32 < x ∨ (¬ 32 < x ∧ (x != 32) = true ∧ (x != 10) = true ∧ (x != 13) = true ∧ (x != 9) = true) := by
          by_cases h : 32 < x
          · exact .inl h
          · right; refine ⟨h, ?_, ?_, ?_, ?_⟩ <;> simp <;> omega
        clear hs hs'
        rcases hcl with h1 | ⟨h1, h2, h3, h4, h5⟩
        all_goals
          go_wp2
          go_quiet (fail)
          go_wp2
          go_quiet (fail)
          go_wp2
          go_ret
          refine ⟨ret_int ?_, ?_, ?_⟩
          · rw [HR.out, HS.out, if_pos hlt, ← HX.out]
          · rw [HR.out, HS.out]; first | exact HU.out.drewN _ | exact (HU.out.drewN _).drewN _
          · first | exact HP.out.drewN _ | exact (HP.out.drewN _).drewN _
    · have hlt' : ¬ (k : Int) < (n : Int) := by omega
      have HS : Hid (run isSp b n k = k) := run_out (by omega)
      clear hupd
      go_wp2
      go_quiet (fail)
      go_wp2
      go_ret
      refine ⟨ret_int ?_, ?_, ?_⟩
      · rw [HR.out, HS.out, if_neg hlt]
      · rw [HR.out, HS.out]; exact HU.out.drewN _
      · exact HP.out.drewN _
end Go.Proofs.Qxb6600608a
