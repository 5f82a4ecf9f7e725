/-
  The selection's small methods: 'name' (24), 'ZZNewSelection' (16), 'ZZLeaveOut' (17), 'ZZMember' (19), 'ZZRest' (20), 'ZZCount' (21).
-/
import Derived.Test.Qxb6600609aRep
namespace Go.Proofs.Qxb6600609a
open Go.RowKit
open Plain
set_option linter.unusedVariables false

theorem NodeAt.setM {w : World} {B : Nat} {r : Bool} {mv : Option Nat} (h : NodeAt w B r mv) (mv' : Option Nat) : NodeAt (w.setCell ⟨B, 1, none⟩ (.map mv')) B r mv' := by
  refine ⟨?_, World.cell?_setCell_same _ _ _ h.mem, fun j => by rw [World.frozen?_setCell]; exact h.free j⟩
  rw [World.cell?_setCell_other _ _ _ _ (by intro e'; injection e'; omega)]; exact h.rest

/-- What 'name' leaves. -/
def NamePost (B : Nat) (r : Bool) (mv : Option Nat) (f : ByteArray → Option Value) (x : ByteArray) (v : Value) (w : World) (e : Ending) (w' : World) : Prop :=
  e = .returned (.tuple #[]) ∧ ∃ mv', NodeAt w' B r mv' ∧ Mems w' mv' (fun s => if s = x then some v else f s) ∧ Upd (fun k => k = B ∨ mv = some k) w w' ∧ (mv' = mv ∨ ∃ M, mv' = some M ∧ w.heap.size ≤ M ∧ M < w'.heap.size)

set_option maxHeartbeats 800000 in
theorem name_some (B M : Nat) (r : Bool) (f : ByteArray → Option Value) (x : ByteArray) (v : Value) (w : World) (hn : NodeAt w B r (some M)) (hm : MapFn w M f) (hne : M ≠ B) :
    Calls Try.prog 24 #[.pointer (some ⟨B, 0, none⟩), .string x, v] w (NamePost B r (some M) f x v w) := by
  have c1 := hn.mem
  have hnil := fun w => run_eql_map_nil (P := Try.prog) w 44 9 29 (some M) Try.underlying44
  go_enter Try.func24, Try.ntmps24
  go_wp2_with (at_mapUpdate; refine wpList_mapUpdate_fn _ rfl _ _ _ 44 rfl 9 29 Try.underlying44 Try.underlying9 M f rfl hm x v rfl rfl ?_; intro w1 m1 g1)
  go_end0
  refine ⟨rfl, some M, hn.same (g1.block B hn.lt (by intro e; injection e; omega)), m1, (Upd.refl _ w).grown g1 (.inr rfl), .inl rfl⟩
set_option maxHeartbeats 800000 in
theorem name_none (B : Nat) (r : Bool) (f : ByteArray → Option Value) (x : ByteArray) (v : Value) (w : World) (hn : NodeAt w B r none) (hm : ∀ s, f s = none) :
    Calls Try.prog 24 #[.pointer (some ⟨B, 0, none⟩), .string x, v] w (NamePost B r none f x v w) := by
  have c1 := hn.mem
  have g1 := hn.free 1
  have hB := hn.lt
  have hmm := @run_makeMap Try.prog
  have hnil := fun w => run_eql_map_nil (P := Try.prog) w 44 9 29 none Try.underlying44
  go_enter Try.func24, Try.ntmps24
  have m0 : MapFn ((w.setCell ⟨B, 1, none⟩ (.map (some w.heap.size))).alloc (.map #[] 0)) w.heap.size (fun _ => none) := by
    have := MapFn.made (w.setCell ⟨B, 1, none⟩ (.map (some w.heap.size)))
    simpa using this
  go_wp2_with (at_mapUpdate; go_must (refine wpList_mapUpdate_fn _ rfl _ _ _ 44 rfl 9 29 Try.underlying44 Try.underlying9 w.heap.size _ rfl m0 x v rfl rfl ?_; intro w1 m1 gg))
  go_end0
  have hl : w.heap.size < w1.heap.size := m1.lt
  have hs : w.heap.size ≤ w1.heap.size := by omega
  have hu : Upd (fun k => k = B ∨ none = some k) w w1 :=
    (((Upd.refl _ w).set (.inl rfl) _).alloc _).comp (G := fun k => k = w.heap.size) ⟨gg.os, gg.tape, gg.output, gg.size, fun k hk hn => gg.block k hk (fun e => by cases e; exact hn rfl)⟩ (fun k hk => .inr (by have : k = w.heap.size := hk; omega))
  refine ⟨rfl, some w.heap.size, ?_, ?_, hu, .inr ⟨_, rfl, Nat.le_refl _, hl⟩⟩
  · refine (hn.setM (some w.heap.size)).same ?_
    rw [gg.block B (by simp; omega) (by intro e; injection e; omega)]
    exact ((Below.refl _ (w.setCell ⟨B, 1, none⟩ (.map (some w.heap.size)))).alloc (Nat.le_refl _) _).block B (by simpa using hB)
  · have e : (fun s => if s = x then some v else f s) = fun s => if s = x then some v else (fun _ => none) s := by funext s; rw [hm s]
    rw [e]; exact m1

theorem name_any (B : Nat) (r : Bool) (mv : Option Nat) (f : ByteArray → Option Value) (x : ByteArray) (v : Value) (w : World) (hn : NodeAt w B r mv) (hm : Mems w mv f) (hne : mv ≠ some B) :
    Calls Try.prog 24 #[.pointer (some ⟨B, 0, none⟩), .string x, v] w (NamePost B r mv f x v w) := by
  cases mv with
  | none => exact name_none B r f x v w hn hm
  | some M => exact name_some B M r f x v w hn hm (fun e => hne (by rw [e]))

/-- 'ZZLeaveOut' -/
theorem leave_any (B : Nat) (r : Bool) (mv : Option Nat) (f : ByteArray → Option Value) (x : ByteArray) (w : World) (hn : NodeAt w B r mv) (hm : Mems w mv f) (hne : mv ≠ some B) :
    Calls Try.prog 17 #[.pointer (some ⟨B, 0, none⟩), .string x] w (NamePost B r mv f x (.pointer none) w) := by
  have key := name_any B r mv f x (.pointer none) w hn hm hne
  clear hn hm
  go_enter Try.func17, Try.ntmps17
  go_wp2_with (go_at_call 24; go_must (refine key.mono ?_; rintro e w1 ⟨rfl, h⟩))
  go_end0
  exact ⟨rfl, h⟩

/-- A new selection. -/
theorem node_made (w : World) (r : Bool) (t : TypeId) : NodeAt (w.alloc (.cells #[.bool r, .map none] t)) w.heap.size r none := by
  have h : ∀ j, (w.alloc (.cells #[.bool r, .map none] t)).cell? ⟨w.heap.size, j, none⟩ = #[.bool r, .map none][j]? := fun j => World.cell?_alloc_at _ _ _ _ rfl
  refine ⟨?_, ?_, fun j => World.frozen?_alloc_at _ _ _ _ rfl⟩
  · rw [h]; rfl
  · rw [h]; rfl
theorem new_any (r : Bool) (w : World) : Calls Try.prog 16 #[.bool r] w fun e w' => e = .returned (.pointer (some ⟨w.heap.size, 0, none⟩)) ∧ w' = w.alloc (.cells #[.bool r, .map none] 46) := by
  go_enter Try.func16, Try.ntmps16
  go_wp2
  go_ret
  exact ⟨rfl, rfl⟩
theorem rest_any (B : Nat) (r : Bool) (mv : Option Nat) (w : World) (hn : NodeAt w B r mv) : Calls Try.prog 20 #[.pointer (some ⟨B, 0, none⟩)] w fun e w' => e = .returned (.bool r) ∧ w = w' := by
  have c0 := hn.rest
  go_enter Try.func20, Try.ntmps20
  go_wp2
  go_ret
  exact ⟨rfl, rfl⟩
end Go.Proofs.Qxb6600609a
