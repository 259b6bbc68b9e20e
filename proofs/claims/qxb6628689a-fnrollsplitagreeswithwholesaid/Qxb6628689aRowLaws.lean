/-
  A WHOLE STRUCT OUT OF AND INTO A BLOCK, AT THE OPERATION: the cells whatever (a variable).
-/
import Derived.WalkKit
import Derived.Laws.Rows
import Derived.Laws.Tables
namespace Go.Proofs.Qxb6628689a
open Go.RowKit

section
variable {P : Program} {w : World} {ops : Array Oper} {rest : List Oper} {o : Oper} {a : Act} {Q : Exit → Act → World → Prop}
theorem wpList_load_row (hgd : o.guard = none) (x : Operand) (ty : TypeId) (hop : o.op = Op.load ty x) (g : Nat) (t : TypeId) (cs : Array Value) (fr : Nat × Nat) (d : TypeDesc) (hx : a.eval x = .pointer (some ⟨g, 0, none⟩))
    (hg : w.heap[g]? = some (.cells cs t fr)) (hu : P.underlying ty = some d) (hd : (match d with | .struct _ | .array _ _ => true | _ => false) = true) (hi : (P.info? ty).map (·.size) = some cs.size)
    (h : wpList P ops Q rest (a.put o.dst (.agg cs)) w) : wpList P ops Q (o :: rest) a w := by
  refine wpList_plain hgd fun K hK => ?_
  have hrun := run_loadVar_row (P := P) w g t ty cs fr d hg hu hd hi
  unfold Oper.wp
  simp [execOp, hop, hx, Instr.loadAt, Instr.sureAddr, hrun, Result.andThen]
  exact hK _ _ h

theorem wpList_store_row (hgd : o.guard = none) (x v : Operand) (ty : TypeId) (hop : o.op = Op.store ty x v) (g : Nat) (t : TypeId) (old cells : Array Value) (hx : a.eval x = .pointer (some ⟨g, 0, none⟩)) (hv : a.eval v = .agg cells)
    (hg : w.heap[g]? = some (.cells old t (0, 0))) (hi : (P.info? ty).map (·.size) = some cells.size) (ho : old.size = cells.size) (h1 : cells.all (·.oneCell') = true)
    (h : ∀ w', Hid (w' = w.setRow g cells) → wpList P ops Q rest (a.put o.dst undef) w') : wpList P ops Q (o :: rest) a w := by
  refine wpList_plain hgd fun K hK => ?_
  have hrun := run_storeVar_row (P := P) w g t ty old cells hg hi ho h1
  unfold Oper.wp
  simp [execOp, hop, hx, hv, Instr.storeAt, Instr.sureAddr, hrun, Result.andThen]
  exact hK _ _ (h _ rfl)
end
end Go.Proofs.Qxb6628689a
