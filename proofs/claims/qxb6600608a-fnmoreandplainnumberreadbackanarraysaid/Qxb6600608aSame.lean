/-
  'ZZPlainNumber' whole; 'sameBytes' (24) of a text with itself.
-/
import Derived.Test.Qxb6600608aZZPlain
import Derived.Test.Qxb6600608aAuto
import Derived.Test.Qxb6600608aClones
namespace Go.Proofs.Qxb6600608a
open Go.RowKit
open Plain
set_option linter.unusedVariables false

theorem zz_some (B o n cp : Nat) (b : Nat → Int) (i : Nat) (depth : Int) (bad : Bool) (w : World) (hb : Byt w (some ⟨B, o, none⟩) n b) (hi : i ≤ n) (hn : n ≤ 4194304) (hcp : n ≤ cp) (hcm : cp ≤ maxLen) (hB : B < w.heap.size) :
    Calls Try.prog 23 #[.slice (some ⟨B, o, none⟩) n cp, .int .i64 i, .int .i64 depth, .bool bad] w (ZZPost (pV b n i B o cp) (pC b n i) depth bad w) :=
  zz_of _ _ _ _ _ _ _ _ _ fun w1 hc hp hw => plain_any B o n cp b _ _ i depth bad w1 (hb.below hw) hi hn hcp hcm (by omega) (by omega) (by omega) hc hp

theorem zz_nil (b : Nat → Int) (depth : Int) (bad : Bool) (w : World) (hbd : ∀ i, 0 ≤ b i ∧ b i ≤ 255) :
    Calls Try.prog 23 #[.slice none 0 0, .int .i64 (0 : Nat), .int .i64 depth, .bool bad] w (ZZPost (.slice none 0 0) 0 depth bad w) :=
  zz_of none 0 0 0 _ _ _ _ _ fun w1 hc hp hw => plain_nil _ _ b depth bad w1 hbd (by omega) hc hp

set_option maxHeartbeats 800000 in
/-- 'sameBytes' of two views of one text. -/
theorem same_self (B o n c1 c2 : Nat) (w : World) (hb : ∀ j, j < n → ∃ z : Int, w.cell? ⟨B, o + j, none⟩ = some (.int .u8 z)) (hn : n ≤ 4194304) :
    Calls Try.prog 24 #[.slice (some ⟨B, o, none⟩) n c1, .slice (some ⟨B, o, none⟩) n c2] w fun e w' => e = .returned (.bool true) ∧ ∃ q, w' = w.drewN q := by
  go_enter Try.func24, Try.ntmps24
  go_wp2
  go_loopw [5] (fun i wr => ∃ k q : Nat, k ≤ n ∧ i = .int .i64 k ∧ wr = w.drewN q) (fun i _ => n - (intOf i).toNat)
  case atStart => exact ⟨0, 0, Nat.zero_le _, rfl, rfl⟩
  case round =>
    obtain ⟨k, q, hk, rfl, rfl⟩ := hrel
    by_cases hlt : k < n
    · have hlt' : (k : Int) < (n : Int) := by omega
      obtain ⟨z, hz⟩ := hb k hlt
      clear hb
      go_wp2
      go_quiet (fail)
      go_wp2
      go_roundw
      case rel => exact ⟨k + 1, _, by omega, by go_num, rfl⟩
      case measure => simp [intOf]; omega
    · clear hb
      go_wp2
      go_ret
      exact ⟨rfl, _, rfl⟩
end Go.Proofs.Qxb6600608a
