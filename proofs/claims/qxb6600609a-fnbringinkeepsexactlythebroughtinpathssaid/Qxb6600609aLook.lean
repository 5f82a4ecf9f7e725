/-
  'ZZMember' (19), 'ZZCount' (21).
-/
import Derived.Test.Qxb6600609aName
namespace Go.Proofs.Qxb6600609a
open Go.RowKit
open Plain
set_option linter.unusedVariables false

theorem zero29 (w : World) : (zeroValue 29).run Try.prog w = .ok (.pointer none) w := by kernel_rfl

/-- A look-up in the members, map or none. -/
theorem Mems.look {w : World} {mv : Option Nat} {f : ByteArray → Option Value} (h : Mems w mv f) (s : ByteArray) :
    (Instr.lookup 44 (.map mv) (.string s) true).run Try.prog w = .ok (.tuple #[(f s).getD (.pointer none), .bool (f s).isSome]) w := by
  cases mv with
  | some M => exact MapFn.look h Try.underlying44 Try.underlying9 (zero29 w) s
  | none =>
    rw [h s]
    have hc : ∀ x, (Instr.checkKey x 10000 9 (.string s)).run Try.prog w = .ok () w := fun x => MapKept.run_checkKey Try.underlying9 (d := .string) (k := .string s) trivial x 9999
    simp [Instr.lookup, run_underlying Try.underlying44, hc, MapKept.run_findKey Try.underlying9 (show Instr.findNow .string (.string s) [] 0 = some none from rfl), Result.andThen]

theorem member_any (B : Nat) (r : Bool) (mv : Option Nat) (f : ByteArray → Option Value) (x : ByteArray) (w : World) (hn : NodeAt w B r mv) (hm : Mems w mv f) :
    Calls Try.prog 19 #[.pointer (some ⟨B, 0, none⟩), .string x] w fun e w' => e = .returned (.tuple #[(f x).getD (.pointer none), .bool (f x).isSome]) ∧ w = w' := by
  have c1 := hn.mem
  have hl := hm.look x
  clear hn hm
  go_enter Try.func19, Try.ntmps19
  go_wp2
  exact bodyPost_ret (v := .tuple #[(f x).getD (.pointer none), .bool (f x).isSome]) (by simp [results, Try.results19, go_sem]) rfl ⟨rfl, rfl⟩

theorem count_any (B : Nat) (r : Bool) (mv : Option Nat) (f : ByteArray → Option Value) (w : World) (hn : NodeAt w B r mv) (hm : Mems w mv f) :
    Calls Try.prog 21 #[.pointer (some ⟨B, 0, none⟩)] w fun e w' => (∃ n : Nat, e = .returned (.int .i64 n) ∧ (n = 0 ↔ ∀ s, f s = none)) ∧ w = w' := by
  have c1 := hn.mem
  cases mv with
  | none =>
    go_enter Try.func21, Try.ntmps21
    go_wp2
    go_ret
    exact ⟨⟨0, rfl, ⟨fun _ => hm, fun _ => rfl⟩⟩, rfl⟩
  | some M =>
    obtain ⟨es, clock, hb, hs, hf⟩ := hm
    have hlen : (Builtin.len_ #[44] 3 #[.map (some M)]).run Try.prog w = .ok (.int .i64 (es.size : Int)) w := by
      simp [Builtin.len_, run_underlying Try.underlying44, MapKept.run_getObj_map hb, goInt]
    go_enter Try.func21, Try.ntmps21
    go_wp2
    go_ret
    refine ⟨⟨es.size, rfl, ?_⟩, rfl⟩
    constructor
    · intro h0 s
      rw [← hf s, Array.toList_eq_nil_iff.2 (Array.eq_empty_of_size_eq_zero h0)]
      rfl
    · intro h0
      cases hl : es.toList with
      | nil => simpa using congrArg List.length hl
      | cons e r =>
        obtain ⟨t, ht⟩ := hs e (by rw [hl]; exact List.mem_cons_self ..)
        have := hf t
        rw [hl, valOf_cons ht, if_pos rfl, h0 t] at this
        cases this
end Go.Proofs.Qxb6600609a
