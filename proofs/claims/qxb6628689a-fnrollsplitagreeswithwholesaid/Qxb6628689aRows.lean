/-
  No cell of these rows narrows 'for every input' (looked for: loops, veiled, ifaces, maps, wideKeys, modest, calm, conditions, laid).
  DERIVED. THE GIVEN ROWS OF THIS SEAT. 2 by the template 'for every input the law returns true; each argument reads behind the call as it read before'; 0 by the template 'total and deterministic' (their statements: Qxb6628689aTotals.lean).
  GIVEN WITH THE SEED: the statements are not yours to turn. If you find one false, say at which input.
  Laid BY PROGRAM, IN A SANDBOX (cutbox-rows.mjs): the forced cells as the released guide's own fill.sh prints them over the translation bcf49f7890b68e6d… (all of the seat's roots in one cut). By AI agents, Wed Nov 11 2026. No macro, syntax, notation, axiom, sorry.
-/
import Derived.Test.Qxb6628689aChecked
import GoSem.Claim
import GoSem.ClaimJoined
import GoSem.ClaimMapViews
import Derived.JoinedTies
import Derived.KernelRfl
namespace Go.Proofs.Qxb6628689a
/- THE CELL 'sum', in the pinned program and in every row, IS THE sha256 OF THE DUMP (.gsa) THAT Qxb6628689aProg.lean LOADS. Nothing in Lean hashes anything: it is a label: what it is worth is what the hold of that sum in a sandbox is worth. -/
noncomputable def Try.pinned : Pinned := { name := "qxb6628689a", sum := "bcf49f7890b68e6ddc0570295c34549d6ed7d82d0b1b05918ee2bef674f76b4f", checked := Try.checked }
namespace Rows
def none {H : Type} : Left H := { results := [], args := [] }

/-- 'zzlaws_pkg_kv_b1.FnRollRestoresStateBeforeTransaction': WHATEVER THE INPUT: true; the input reads as it did. -/
def fnRollRestoresStateBeforeTransactionSpec : ChangeSpec := { name := "fnRollRestoresStateBeforeTransaction", fn := fun _ => fun
  | [d1, d2, d3, d4, d5] => { results := [.lit (.bool true)], args := [d1, d2, d3, d4, d5] }
  | _ => none }
def fnRollRestoresStateBeforeTransactionRow : OpenClaim := { program := "qxb6628689a", sum := "bcf49f7890b68e6ddc0570295c34549d6ed7d82d0b1b05918ee2bef674f76b4f", func := "example.com/sworn/sworn/zzlaws_pkg_kv_b1.FnRollRestoresStateBeforeTransaction", spec := "fnRollRestoresStateBeforeTransaction", plainKeys := false, apart := false }
def FnRollRestoresStateBeforeTransactionSaid : Prop := fnRollRestoresStateBeforeTransactionRow.holds Try.pinned (OpenSpec.ofChange fnRollRestoresStateBeforeTransactionSpec)

/-- ITS FALSE NEIGHBOUR: 'it returns false'. Refute it at one input. -/
def fnRollRestoresStateBeforeTransactionWrong : ChangeSpec := { name := "fnRollRestoresStateBeforeTransaction", fn := fun _ => fun
  | [d1, d2, d3, d4, d5] => { results := [.lit (.bool false)], args := [d1, d2, d3, d4, d5] }
  | _ => none }
def FnRollRestoresStateBeforeTransactionWrongFalsely : Prop := fnRollRestoresStateBeforeTransactionRow.holds Try.pinned (OpenSpec.ofChange fnRollRestoresStateBeforeTransactionWrong)

/-- 'zzlaws_pkg_kv_b1.FnRollSplitAgreesWithWhole': WHATEVER THE INPUT: true; the input reads as it did. -/
def fnRollSplitAgreesWithWholeSpec : ChangeSpec := { name := "fnRollSplitAgreesWithWhole", fn := fun _ => fun
  | [d1, d2, d3, d4, d5, d6] => { results := [.lit (.bool true)], args := [d1, d2, d3, d4, d5, d6] }
  | _ => none }
def fnRollSplitAgreesWithWholeRow : OpenClaim := { program := "qxb6628689a", sum := "bcf49f7890b68e6ddc0570295c34549d6ed7d82d0b1b05918ee2bef674f76b4f", func := "example.com/sworn/sworn/zzlaws_pkg_kv_b1.FnRollSplitAgreesWithWhole", spec := "fnRollSplitAgreesWithWhole", plainKeys := false, apart := false }
def FnRollSplitAgreesWithWholeSaid : Prop := fnRollSplitAgreesWithWholeRow.holds Try.pinned (OpenSpec.ofChange fnRollSplitAgreesWithWholeSpec)

/-- ITS FALSE NEIGHBOUR: 'it returns false'. Refute it at one input. -/
def fnRollSplitAgreesWithWholeWrong : ChangeSpec := { name := "fnRollSplitAgreesWithWhole", fn := fun _ => fun
  | [d1, d2, d3, d4, d5, d6] => { results := [.lit (.bool false)], args := [d1, d2, d3, d4, d5, d6] }
  | _ => none }
def FnRollSplitAgreesWithWholeWrongFalsely : Prop := fnRollSplitAgreesWithWholeRow.holds Try.pinned (OpenSpec.ofChange fnRollSplitAgreesWithWholeWrong)

end Rows
end Go.Proofs.Qxb6628689a
