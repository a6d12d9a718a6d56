/-
  '!=' between a pointer and itself.
-/
import Derived.Test.Qxb6600858aProg
import Derived.WalkKit
import Derived.LaidEqlPtr
namespace Go.Proofs.Qxb6600858a
open Go.RowKit

theorem Try.info63 : (Try.prog.info? 63).map (fun i => i.size) = some 3 := by kernel_rfl
theorem Try.size43 : (Try.prog.info? 43).map (fun i => i.size) = some 2 := by kernel_rfl

theorem neq_same (t e : TypeId) (sz : Nat) (a : Addr) (w : World) (hp : Try.prog.underlying t = some (.pointer e)) (hi : (Try.prog.info? e).map (fun i => i.size) = some sz) :
    (binOp .neq t (.pointer (some a)) (.pointer (some a))).run Try.prog w = .ok (.bool false) w := by
  obtain ⟨i, hi, hz⟩ := Option.map_eq_some_iff.1 hi
  have h : ∀ d : Nat, (Op.equalIn (d + 1) t (.pointer (some a)) (.pointer (some a))).run Try.prog w = .ok true w := fun d => by
    simp [Op.equalIn, run_underlying hp, sizeOf, typeInfo, hi, run_sameAddr_same]
  simp only [binOp]
  simp [Op.equal, Op.maxDepth, h 9999]

theorem neq_same41 (a : Addr) (w : World) : (binOp .neq 41 (.pointer (some a)) (.pointer (some a))).run Try.prog w = .ok (.bool false) w :=
  neq_same 41 43 2 a w Try.underlying41 Try.size43
theorem neq_same37 (a : Addr) (w : World) : (binOp .neq 37 (.pointer (some a)) (.pointer (some a))).run Try.prog w = .ok (.bool false) w :=
  neq_same 37 63 3 a w Try.underlying37 Try.info63

end Go.Proofs.Qxb6600858a
