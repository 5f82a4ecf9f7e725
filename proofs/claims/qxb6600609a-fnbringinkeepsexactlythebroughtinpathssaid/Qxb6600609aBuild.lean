/-
  'zzqBuild' (10).
-/
import Derived.Test.Qxb6600609aPths
import Derived.Test.Qxb6600609aLawPlain
namespace Go.Proofs.Qxb6600609a
open Go.RowKit
open Plain
set_option linter.unusedVariables false

/-- Ahead of round i: the first i names are left out. -/
def Bld (r : Bool) (ls : List ByteArray) (w wr : World) (i : Nat) : Prop :=
  ∃ F, Rep wr w.heap.size (Plain.start r (ls.take i)) F ∧ (∀ k, F k → w.heap.size ≤ k) ∧ Below w.heap.size w wr

theorem Bld.first (r : Bool) (ls : List ByteArray) (w : World) : Bld r ls w (w.alloc (.cells #[.bool r, .map none] 46)) 0 := by
  refine ⟨fun k => k = w.heap.size, ?_, fun k hk => by omega, (Below.refl _ _).alloc (Nat.le_refl _) _⟩
  rw [List.take_zero, start_nil]
  exact rep_leaf (node_made w r 46)

theorem take_snoc {α : Type} (ls : List α) (d : α) (i : Nat) (h : i < ls.length) : ls.take (i + 1) = ls.take i ++ [ls.getD i d] := by
  rw [List.take_succ_eq_append_getElem h]
  simp [List.getD, h]

/-- What leaving out the next name leads to. -/
theorem Bld.call {r : Bool} {ls : List ByteArray} {w wr : World} {i : Nat} (h : Bld r ls w wr i) (hi : i < ls.length) :
    Calls Try.prog 17 #[.pointer (some ⟨w.heap.size, 0, none⟩), .string (ls.getD i ByteArray.empty)] wr fun e w' => e = .returned (.tuple #[]) ∧ Bld r ls w w' (i + 1) := by
  obtain ⟨F, hr, hF, hb⟩ := h
  obtain ⟨mv, ptr, G, o⟩ := Rep.opened hr
  refine (leave_any _ _ _ _ (ls.getD i ByteArray.empty) wr o.hn o.hm (fun e => (o.hM _ e).2 rfl)).mono ?_
  rintro e w2 ⟨rfl, mv', hn2, hm2, hu2, hmv⟩
  refine ⟨rfl, (fun k => F k ∨ False ∨ mv' = some k), ?_, ?_, hb.trans (hu2.below hb.size ?_)⟩
  · rw [take_snoc ls ByteArray.empty i hi, start_snoc]
    exact rep_put (c := none) (p := 0) (F' := fun _ => False) o.hB o.hM o.hG o.hd o.kids o.hlt hn2 hm2 hmv (hu2.mono fun k hk => hk.elim .inl (fun e => .inr (.inl e))) (fun t e => by cases e) (fun k hk => hk.elim)
  · rintro k (hk | hk | hk)
    · exact hF k hk
    · exact hk.elim
    · rcases hmv with e | ⟨M, e, h1, h2⟩
      · exact hF k (o.hM k (e ▸ hk)).1
      · rw [e] at hk; cases hk; exact Nat.le_trans hb.size h1
  · rintro k (rfl | hk)
    · exact Nat.le_refl _
    · exact hF k (o.hM k hk).1

set_option maxHeartbeats 800000 in
theorem build_any (r : Bool) (a : Option Addr) (n cp : Nat) (ls : List ByteArray) (w : World) (hn : n = ls.length) (hs : Strs w a ls) (hm : n ≤ 1048576) :
    Calls Try.prog 10 #[.bool r, .slice a n cp] w fun e w' => e = .returned (.pointer (some ⟨w.heap.size, 0, none⟩)) ∧ (∃ F, Rep w' w.heap.size (Plain.start r ls) F ∧ ∀ k, F k → w.heap.size ≤ k) ∧ Below w.heap.size w w' := by
  have HN : Hid (n = ls.length) := hn
  clear hn
  have H0 : Hid (Bld r ls w (w.alloc (.cells #[.bool r, .map none] 46)) 0) := Bld.first r ls w
  go_enter Try.func10, Try.ntmps10
  go_wp2_with (go_at_call 16; go_must (refine (new_any r w).mono ?_; rintro e w1 ⟨rfl, hw1⟩; have HB : Hid (Bld r ls w w1 0) := (hw1 ▸ H0.out); clear hw1 H0))
  go_loopw [6] (fun v6 wr => ∃ i : Nat, i ≤ n ∧ v6 = .int .i64 (i : Int) ∧ Bld r ls w wr i) (fun v6 _ => n - (intOf v6).toNat)
  case atStart => exact ⟨0, Nat.zero_le _, rfl, HB.out⟩
  case round =>
    obtain ⟨i, hi, rfl, hB⟩ := hrel
    clear HB
    have HBB : Hid (Bld r ls w wr i) := hB
    clear hB
    by_cases hlt : i < n
    · have hlp : i < ls.length := by rw [← HN.out]; exact hlt
      have hcell : ∃ B o, a = some ⟨B, o, none⟩ ∧ wr.cell? ⟨B, o + i, none⟩ = some (.string (ls.getD i ByteArray.empty)) := by
        obtain ⟨F, _, _, hb⟩ := HBB.out
        exact hs.below hb i hlp
      obtain ⟨B, o, hae, hc⟩ := hcell
      subst hae
      have key := HBB.out.call hlp
      obtain ⟨x, hx⟩ : ∃ x, x = ls.getD i ByteArray.empty := ⟨_, rfl⟩
      rw [← hx] at hc key
      clear hx hs HBB
      go_wp2_with (go_at_call 17; go_must (refine key.mono ?_; rintro e w2 ⟨rfl, h2⟩; have H2 : Hid (Bld r ls w w2 (i + 1)) := h2; clear h2 key))
      go_roundw
      case rel => exact ⟨i + 1, by omega, by go_num, H2.out⟩
      case measure => simp [intOf]; omega
    · clear hs
      go_wp2
      go_ret
      obtain ⟨F, h1, h2, h3⟩ := HBB.out
      rw [List.take_of_length_le (by rw [← HN.out]; omega)] at h1
      exact ⟨rfl, ⟨F, h1, h2⟩, h3⟩
end Go.Proofs.Qxb6600609a
