/-
  '(*jsonCursor).more' (39) and 'ZZMore' (33), at depth 1 and not bad.
-/
import Derived.Test.Qxb6600608aSame
namespace Go.Proofs.Qxb6600608a
open Go.RowKit
open Plain
set_option linter.unusedVariables false

theorem Cur.setD {w : World} {J : Nat} {dv : Value} {i depth : Int} {bad : Bool} (h : Cur w J dv i depth bad) (k : Int) : Cur (w.setCell ⟨J, 2, none⟩ (.int .i64 k)) J dv i k bad := by
  refine ⟨?_, ?_, World.cell?_setCell_same _ _ _ h.c2, ?_, fun j => by rw [World.frozen?_setCell]; exact h.free j⟩
  · rw [World.cell?_setCell_other _ _ _ _ (by intro e'; injection e'; omega)]; exact h.c0
  · rw [World.cell?_setCell_other _ _ _ _ (by intro e'; injection e'; omega)]; exact h.c1
  · rw [World.cell?_setCell_other _ _ _ _ (by intro e'; injection e'; omega)]; exact h.c3

/-- What 'more' answers. -/
def MorePost (r : Bool) (dv : Value) (J ci : Nat) (d : Int) (w : World) (e : Ending) (w' : World) : Prop :=
  e = .returned (.bool r) ∧ Cur w' J dv ci d false ∧ Upd (fun k => k = J) w w'

set_option maxHeartbeats 1600000 in
theorem more_close (a : Option Addr) (n cp : Nat) (b : Nat → Int) (J i p : Nat) (first : Bool) (w : World) (hb : Byt w a n b) (hi : i ≤ n) (hn : n ≤ 4194304) (hJ : Away a J) (hcur : Cur w J (.slice a n cp) i 1 false)
    (hp : run isSp b n i = p) (hpn : p < n) (hx : b p = 93) :
    Calls Try.prog 39 #[.pointer (some ⟨J, 0, none⟩), .int .u8 93, .bool first] w (MorePost false (.slice a n cp) J (p + 1) 0 w) := by
  have kn := next_any a n cp b J i 1 false w hb hi hn hJ hcur
  unfold NextPost at kn
  rw [hp, if_pos hpn, hx] at kn
  clear hb hcur hp hx hJ
  go_enter Try.func39, Try.ntmps39
  go_wp2_with (go_at_call 40; go_must (refine kn.mono ?_; rintro e w1 ⟨rfl, hc, hu⟩; have d1 := hc.c1; have d2 := hc.c2; have d3 := hc.c3; have g1 := hc.free 1; have g2 := hc.free 2; have HC : Hid (Cur w1 J _ _ _ _) := hc; have HU : Hid (Upd _ w w1) := hu; clear hc hu kn))
  go_ret
  refine ⟨rfl, ?_, ?_⟩
  · have := (HC.out.setI ((p : Int) + 1)).setD 0
    exact this
  · exact (HU.out.set rfl _).set rfl _

set_option maxHeartbeats 1600000 in
theorem more_first (a : Option Addr) (n cp : Nat) (b : Nat → Int) (J i p : Nat) (w : World) (hb : Byt w a n b) (hi : i ≤ n) (hn : n ≤ 4194304) (hJ : Away a J) (hcur : Cur w J (.slice a n cp) i 1 false)
    (hp : run isSp b n i = p) (hpn : p < n) (hx : b p ≠ 93) :
    Calls Try.prog 39 #[.pointer (some ⟨J, 0, none⟩), .int .u8 93, .bool true] w (MorePost true (.slice a n cp) J p 1 w) := by
  have kn := next_any a n cp b J i 1 false w hb hi hn hJ hcur
  unfold NextPost at kn
  rw [hp, if_pos hpn] at kn
  have hx1 : (b p == 93) = false := by simpa using hx
  clear hb hcur hp hx hJ
  go_enter Try.func39, Try.ntmps39
  go_wp2_with (go_at_call 40; go_must (refine kn.mono ?_; rintro e w1 ⟨rfl, hc, hu⟩; have d1 := hc.c1; have d2 := hc.c2; have d3 := hc.c3; have g1 := hc.free 1; have g2 := hc.free 2; have HC : Hid (Cur w1 J _ _ _ _) := hc; have HU : Hid (Upd _ w w1) := hu; clear hc hu kn))
  go_ret
  exact ⟨rfl, HC.out, HU.out⟩

set_option maxHeartbeats 1600000 in
theorem more_comma (a : Option Addr) (n cp : Nat) (b : Nat → Int) (J i p : Nat) (w : World) (hb : Byt w a n b) (hi : i ≤ n) (hn : n ≤ 4194304) (hJ : Away a J) (hcur : Cur w J (.slice a n cp) i 1 false)
    (hp : run isSp b n i = p) (hpn : p < n) (hx : b p = 44) :
    Calls Try.prog 39 #[.pointer (some ⟨J, 0, none⟩), .int .u8 93, .bool false] w (MorePost true (.slice a n cp) J (p + 1) 1 w) := by
  have kn := next_any a n cp b J i 1 false w hb hi hn hJ hcur
  unfold NextPost at kn
  rw [hp, if_pos hpn, hx] at kn
  clear hb hcur hp hx hJ
  go_enter Try.func39, Try.ntmps39
  go_wp2_with (go_at_call 40; go_must (refine kn.mono ?_; rintro e w1 ⟨rfl, hc, hu⟩; have d1 := hc.c1; have d2 := hc.c2; have d3 := hc.c3; have g1 := hc.free 1; have g2 := hc.free 2; have HC : Hid (Cur w1 J _ _ _ _) := hc; have HU : Hid (Upd _ w w1) := hu; clear hc hu kn))
  go_ret
  exact ⟨rfl, HC.out.setI ((p : Int) + 1), HU.out.set rfl _⟩

/-- What 'ZZMore' answers. -/
def ZMPost (r : Bool) (ci : Nat) (d : Int) (w : World) (e : Ending) (w' : World) : Prop :=
  e = .returned (.tuple #[.bool r, .int .i64 ci, .int .i64 d, .bool false]) ∧ Below w.heap.size w w'

theorem cur_made1 (w : World) (dv : Value) (i depth : Int) (bad : Bool) : Cur (w.alloc (.cells #[dv, .int .i64 i, .int .i64 depth, .bool bad] 74)) w.heap.size dv i depth bad := by
  have h : ∀ j, (w.alloc (.cells #[dv, .int .i64 i, .int .i64 depth, .bool bad] 74)).cell? ⟨w.heap.size, j, none⟩ = #[dv, .int .i64 i, .int .i64 depth, .bool bad][j]? := fun j => World.cell?_alloc_at _ _ _ _ rfl
  refine ⟨?_, ?_, ?_, ?_, fun j => World.frozen?_alloc_at _ _ _ _ rfl⟩
  · rw [h]; rfl
  · rw [h]; rfl
  · rw [h]; rfl
  · rw [h]; rfl

set_option maxHeartbeats 1600000 in
theorem zm_of (a : Option Addr) (n cp i : Nat) (first r : Bool) (ci : Nat) (d : Int) (w : World)
    (key : ∀ w1, Cur w1 w.heap.size (.slice a n cp) i 1 false → Below w.heap.size w w1 → Calls Try.prog 39 #[.pointer (some ⟨w.heap.size, 0, none⟩), .int .u8 93, .bool first] w1 (MorePost r (.slice a n cp) w.heap.size ci d w1)) :
    Calls Try.prog 33 #[.slice a n cp, .int .i64 i, .int .i64 1, .bool false, .int .u8 93, .bool first] w (ZMPost r ci d w) := by
  have k1 := key (w.alloc (.cells #[.slice a n cp, .int .i64 i, .int .i64 1, .bool false] 74)) (cur_made1 _ _ _ _ _) ((Below.refl _ _).alloc (Nat.le_refl _) _)
  clear key
  go_enter Try.func33, Try.ntmps33
  go_wp2_with (go_at_call 39; go_must (refine k1.mono ?_; rintro e w2 ⟨rfl, hc, hu⟩))
  have HB : Hid (Below w.heap.size w w2) := by
    refine ((Below.refl _ _).alloc (Nat.le_refl _) _).trans (hu.below (by simp) ?_)
    intro k hk; have : k = w.heap.size := hk; omega
  obtain ⟨c0, c1, c2, c3, _⟩ := hc
  clear hu
  go_quiet (fail)
  go_wp2
  exact bodyPost_ret (v := .tuple #[.bool r, .int .i64 ci, .int .i64 d, .bool false]) (by simp [results, Try.results33, go_sem]) rfl ⟨rfl, (by have := HB.out; exact ⟨this.os, this.tape, this.output, this.size, this.block⟩)⟩
end Go.Proofs.Qxb6600608a
