/-
  Two equal pointers do not differ ('!=' of a '*transaction').
-/
import Derived.Test.Qxb6615209aZGo
import Derived.LaidEqlPtr
namespace Go.Proofs.Qxb6615209a
open Go.RowKit

theorem run_neq_tx (a : Addr) (w : World) : (binOp .neq 36 (.pointer (some a)) (.pointer (some a))).run Try.prog w = .ok (.bool false) w := by
  have hp : Try.prog.underlying 36 = some (.pointer (Try.prog.pointee 36)) := by kernel_rfl
  have hs : (Try.prog.info? (Try.prog.pointee 36)).isSome = true := by kernel_rfl
  obtain ⟨j, hte⟩ := Option.isSome_iff_exists.1 hs
  have h : ∀ d : Nat, (Op.equalIn (d + 1) 36 (.pointer (some a)) (.pointer (some a))).run Try.prog w = .ok true w := fun d => by
    simp [Op.equalIn, run_underlying hp, sizeOf, typeInfo, hte, run_sameAddr_same]
  simp only [binOp]
  simp [Op.equal, Op.maxDepth, h 9999]

end Go.Proofs.Qxb6615209a
