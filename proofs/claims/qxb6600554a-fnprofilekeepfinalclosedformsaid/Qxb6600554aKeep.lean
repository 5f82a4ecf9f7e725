/-
  'newProfileNode' (40), '(*profileNode).keep' (41), 'ZZKeep' (26), 'ZZNewProfileNode' (25), 'ZZFinal' (27), 'ZZOrder' (29).
-/
import Derived.Test.Qxb6600554aRows
import Derived.Test.Qxb6600554aMaps
import Derived.WalkSpells
import Derived.WalkLawsBesides
import Derived.OwnWalk
import Derived.Laws.OwnMore
import Derived.Deep.AppendLies
namespace Go.Proofs.Qxb6600554a
open Go.RowKit

theorem Try.info9 : (Try.prog.info? 9).map (fun i => (i.zero, i.size, i.bytes)) = some (some (.string ByteArray.empty), 1, 16) := by kernel_rfl
theorem zero39 (w : World) : (zeroValue 39).run Try.prog w = .ok (.pointer none) w := by kernel_rfl

theorem new_any (w : World) : Calls Try.prog 40 #[] w fun e w' => e = .returned (.pointer (some ⟨w.heap.size + 2, 0, none⟩)) ∧
    w' = ((w.alloc (.map #[] 0)).alloc (.map #[] 0)).alloc (.cells #[.map (some w.heap.size), .map (some (w.heap.size + 1)), .slice none 0 0, .int .i64 0] 64) := by
  have hmm := @run_makeMap Try.prog
  go_enter Try.func40, Try.ntmps40
  go_wp2
  go_ret
  exact ⟨rfl, rfl⟩

theorem zznew_any (w : World) : Calls Try.prog 25 #[] w fun e w' => e = .returned (.pointer (some ⟨w.heap.size + 2, 0, none⟩)) ∧
    w' = ((w.alloc (.map #[] 0)).alloc (.map #[] 0)).alloc (.cells #[.map (some w.heap.size), .map (some (w.heap.size + 1)), .slice none 0 0, .int .i64 0] 64) := by
  go_enter Try.func25, Try.ntmps25
  go_wp2_with (go_at_call 40; refine (new_any _).mono ?_; rintro e w' ⟨rfl, rfl⟩)
  go_ret
  exact ⟨rfl, rfl⟩

theorem keep_nil (s : ByteArray) (fl : Bool) (x : Int) (w : World) : Calls Try.prog 41 #[.pointer none, .string s, .bool fl, .int .i64 x] w fun e w' => e = .returned (.pointer none) ∧ w' = w := by
  go_enter Try.func41, Try.ntmps41
  go_wp2
  go_ret
  exact ⟨rfl, rfl⟩

theorem zzkeep_nil (s : ByteArray) (fl : Bool) (x : Int) (w : World) : Calls Try.prog 26 #[.pointer none, .string s, .bool fl, .int .i64 x] w fun e w' => e = .returned (.pointer none) ∧ w' = w := by
  go_enter Try.func26, Try.ntmps26
  go_wp2_with (go_at_call 41; refine (keep_nil _ _ _ _).mono ?_; rintro e w' ⟨rfl, rfl⟩)
  go_ret
  exact ⟨rfl, rfl⟩

theorem zzfinal_any (b : Nat) (x : Int) (w : World) (h : w.cell? ⟨b, 3, none⟩ = some (.int .i64 x)) : Calls Try.prog 27 #[.pointer (some ⟨b, 0, none⟩)] w fun e w' => e = .returned (.int .i64 x) ∧ w' = w := by
  go_enter Try.func27, Try.ntmps27
  go_wp2
  go_ret
  exact ⟨rfl, rfl⟩

theorem zzorder_any (b : Nat) (v : Value) (w : World) (h : w.cell? ⟨b, 2, none⟩ = some v) (a : Option Addr) (n c : Nat) (hv : v = .slice a n c) : Calls Try.prog 29 #[.pointer (some ⟨b, 0, none⟩)] w fun e w' => e = .returned v ∧ w' = w := by
  subst hv
  go_enter Try.func29, Try.ntmps29
  go_wp2
  go_ret
  exact ⟨rfl, rfl⟩
end Go.Proofs.Qxb6600554a
