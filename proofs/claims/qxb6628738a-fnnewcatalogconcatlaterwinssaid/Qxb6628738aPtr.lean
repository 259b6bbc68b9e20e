/-
  '==' and '!=' between two pointers into one block.
-/
import Derived.Test.Qxb6628738aRows
import Derived.WalkKit
import Derived.LaidEql
namespace Go.Proofs.Qxb6628738a

theorem same_in (g o o' : Nat) (w : World) : (sameAddr ⟨g, o, none⟩ ⟨g, o', none⟩).run Try.prog w = .ok (decide (o = o')) w := by
  by_cases h : o = o'
  · subst h; simp [run_sameAddr_same]
  · simp [sameAddr, h]

theorem in35 (d g o o' : Nat) (w : World) : (Op.equalIn (d + 1) 35 (.pointer (some ⟨g, o, none⟩)) (.pointer (some ⟨g, o', none⟩))).run Try.prog w = .ok (decide (o = o')) w := by
  simp [Op.equalIn, run_underlying Try.underlying35, Try.sizeOf43, same_in]
theorem equal35 (g o o' : Nat) (w : World) : (Op.equal 35 (.pointer (some ⟨g, o, none⟩)) (.pointer (some ⟨g, o', none⟩))).run Try.prog w = .ok (decide (o = o')) w := in35 9999 g o o' w

theorem eql35 (g o o' : Nat) (w : World) : (binOp .eql 35 (.pointer (some ⟨g, o, none⟩)) (.pointer (some ⟨g, o', none⟩))).run Try.prog w = .ok (.bool (decide (o = o'))) w := by
  simp only [binOp]
  simp [equal35]

theorem neq35 (g o o' : Nat) (w : World) : (binOp .neq 35 (.pointer (some ⟨g, o, none⟩)) (.pointer (some ⟨g, o', none⟩))).run Try.prog w = .ok (.bool (!decide (o = o'))) w := by
  simp only [binOp]
  simp [equal35]

end Go.Proofs.Qxb6628738a
