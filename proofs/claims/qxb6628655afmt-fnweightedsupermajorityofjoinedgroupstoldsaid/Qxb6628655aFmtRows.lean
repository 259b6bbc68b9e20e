/-
  No cell of these rows narrows 'for every input' (looked for: loops, veiled, ifaces, maps, wideKeys, modest, calm, conditions, laid).
  DERIVED. THE GIVEN ROWS OF THIS SEAT. 2 by the template 'for every input the law returns true; each argument reads behind the call as it read before'; 0 by the template 'total and deterministic' (their statements: Qxb6628655aFmtTotals.lean).
  GIVEN WITH THE SEED: the statements are not yours to turn. If you find one false, say at which input.
  Laid BY PROGRAM, IN A SANDBOX (cutbox-rows.mjs): the forced cells as the released guide's own fill.sh prints them over the translation bf673688a12cf3cf… (all of the seat's roots in one cut). By AI agents, Wed Nov 11 2026. No macro, syntax, notation, axiom, sorry.
-/
import Derived.Test.Qxb6628655aFmtChecked
import GoSem.Claim
import GoSem.ClaimJoined
import GoSem.ClaimMapViews
import Derived.JoinedTies
import Derived.KernelRfl
namespace Go.Proofs.Qxb6628655aFmt
/- THE CELL 'sum', in the pinned program and in every row, IS THE sha256 OF THE DUMP (.gsa) THAT Qxb6628655aFmtProg.lean LOADS. Nothing in Lean hashes anything: it is a label: what it is worth is what the hold of that sum in a sandbox is worth. -/
noncomputable def Tryf.pinned : Pinned := { name := "qxb6628655afmt", sum := "bf673688a12cf3cf57e6246bd6474137af87836e7662ae403cda10a0c998c2d8", checked := Tryf.checked }
namespace Rows
def none {H : Type} : Left H := { results := [], args := [] }

/-- 'zzlaws_root_b1.FnWeightedSupermajorityIsLeastAboveTwoThirds': WHATEVER THE INPUT: true; the input reads as it did. -/
def fnWeightedSupermajorityIsLeastAboveTwoThirdsSpec : ChangeSpec := { name := "fnWeightedSupermajorityIsLeastAboveTwoThirds", fn := fun _ => fun
  | [d] => { results := [.lit (.bool true)], args := [d] }
  | _ => none }
def fnWeightedSupermajorityIsLeastAboveTwoThirdsRow : OpenClaim := { program := "qxb6628655afmt", sum := "bf673688a12cf3cf57e6246bd6474137af87836e7662ae403cda10a0c998c2d8", func := "example.com/hearsay/hearsay/zzlaws_root_b1.FnWeightedSupermajorityIsLeastAboveTwoThirds", spec := "fnWeightedSupermajorityIsLeastAboveTwoThirds", stops := ["fmt.Sprintf"], inPlace := ["fmt.Sprintf"], apart := false }
/-- NO THEOREM (fmt's text is open here; it may be false): for the released tool's asking of the row's closed facts alone. THE STATEMENT IS 'FnWeightedSupermajorityIsLeastAboveTwoThirdsToldSaid' (Qxb6628655aFmtCards.lean). -/
def FnWeightedSupermajorityIsLeastAboveTwoThirdsFormAsk : Prop := fnWeightedSupermajorityIsLeastAboveTwoThirdsRow.holds Tryf.pinned (OpenSpec.ofChange fnWeightedSupermajorityIsLeastAboveTwoThirdsSpec)

/-- ITS FALSE NEIGHBOUR: 'it returns false'. Refute it at one input. -/
def fnWeightedSupermajorityIsLeastAboveTwoThirdsWrong : ChangeSpec := { name := "fnWeightedSupermajorityIsLeastAboveTwoThirds", fn := fun _ => fun
  | [d] => { results := [.lit (.bool false)], args := [d] }
  | _ => none }
def FnWeightedSupermajorityIsLeastAboveTwoThirdsWrongFormAsk : Prop := fnWeightedSupermajorityIsLeastAboveTwoThirdsRow.holds Tryf.pinned (OpenSpec.ofChange fnWeightedSupermajorityIsLeastAboveTwoThirdsWrong)

/-- 'zzlaws_root_b1.FnWeightedSupermajorityOfJoinedGroups': WHATEVER THE INPUT: true; the input reads as it did. -/
def fnWeightedSupermajorityOfJoinedGroupsSpec : ChangeSpec := { name := "fnWeightedSupermajorityOfJoinedGroups", fn := fun _ => fun
  | [d1, d2] => { results := [.lit (.bool true)], args := [d1, d2] }
  | _ => none }
def fnWeightedSupermajorityOfJoinedGroupsRow : OpenClaim := { program := "qxb6628655afmt", sum := "bf673688a12cf3cf57e6246bd6474137af87836e7662ae403cda10a0c998c2d8", func := "example.com/hearsay/hearsay/zzlaws_root_b1.FnWeightedSupermajorityOfJoinedGroups", spec := "fnWeightedSupermajorityOfJoinedGroups", stops := ["fmt.Sprintf"], inPlace := ["fmt.Sprintf"], apart := false }
/-- NO THEOREM (fmt's text is open here; it may be false): for the released tool's asking of the row's closed facts alone. THE STATEMENT IS 'FnWeightedSupermajorityOfJoinedGroupsToldSaid' (Qxb6628655aFmtCards.lean). -/
def FnWeightedSupermajorityOfJoinedGroupsFormAsk : Prop := fnWeightedSupermajorityOfJoinedGroupsRow.holds Tryf.pinned (OpenSpec.ofChange fnWeightedSupermajorityOfJoinedGroupsSpec)

/-- ITS FALSE NEIGHBOUR: 'it returns false'. Refute it at one input. -/
def fnWeightedSupermajorityOfJoinedGroupsWrong : ChangeSpec := { name := "fnWeightedSupermajorityOfJoinedGroups", fn := fun _ => fun
  | [d1, d2] => { results := [.lit (.bool false)], args := [d1, d2] }
  | _ => none }
def FnWeightedSupermajorityOfJoinedGroupsWrongFormAsk : Prop := fnWeightedSupermajorityOfJoinedGroupsRow.holds Tryf.pinned (OpenSpec.ofChange fnWeightedSupermajorityOfJoinedGroupsWrong)

end Rows
end Go.Proofs.Qxb6628655aFmt
