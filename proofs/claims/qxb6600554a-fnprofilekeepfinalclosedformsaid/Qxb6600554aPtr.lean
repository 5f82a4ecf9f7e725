/-
  'p != q' of a pointer with itself.
-/
import Derived.Test.Qxb6600554aRows
import Derived.WalkKit
import Derived.LaidEqlPtr
namespace Go.Proofs.Qxb6600554a
open Go.RowKit
theorem Try.there64 : (Try.prog.info? 64).isSome = true := by kernel_rfl
theorem neq_self (b : Nat) (w : World) : (binOp .neq 39 (.pointer (some ⟨b, 0, none⟩)) (.pointer (some ⟨b, 0, none⟩))).run Try.prog w = .ok (.bool false) w := by
  obtain ⟨j, hj⟩ := Option.isSome_iff_exists.1 Try.there64
  have h : ∀ d : Nat, (Op.equalIn (d + 1) 39 (.pointer (some ⟨b, 0, none⟩)) (.pointer (some ⟨b, 0, none⟩))).run Try.prog w = .ok true w := fun d => by
    simp [Op.equalIn, run_underlying Try.underlying39, sizeOf, typeInfo, hj, run_sameAddr_same]
  simp only [binOp]
  simp [Op.equal, Op.maxDepth, h 9999]
end Go.Proofs.Qxb6600554a
