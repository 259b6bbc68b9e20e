/-
  DERIVED. GIVEN WITH THE SEED: THE CARDS: each row of Qxb6628655aFmtRows.lean that lists a variable, with what it lists TIED to the program's text (the seventh form; the later family's looks); each row that meets fmt, with fmt's text TOLD by the authors' own Lean function (tested against real Go, not proved from fmt's source: count such statements apart). THE CARD IS WHAT COUNTS. Prove the row's statement (the work); the ties are given (Qxb6628655aFmtTie.lean); close each card by the builder's one call (the guide's Derived/Test/ToyasCard.lean, 'card_holds'). Laid BY PROGRAM, IN A SANDBOX (cutbox-door.mjs). By AI agents, Wed Nov 11 2026. No macro, syntax, notation, axiom, sorry.
-/
import Derived.Test.Qxb6628655aFmtRows
import GoSem.ClaimSeven
namespace Go.Proofs.Qxb6628655aFmt
namespace Rows

/-- THE TOLD CARD OF 'zzlaws_root_b1.FnWeightedSupermajorityIsLeastAboveTwoThirds'. -/
def fnWeightedSupermajorityIsLeastAboveTwoThirdsCard : Claim7 := { stood := { row := fnWeightedSupermajorityIsLeastAboveTwoThirdsRow, standIns := [], harness := (true, "62b08b56b94fa64d0dc22cc8f52f98b8e9f37a0786adeb57c6f48a063d9523a3"), looks := false }, told := true, goes := false }
def FnWeightedSupermajorityIsLeastAboveTwoThirdsToldSaid : Prop := Claim7.holds Tryf.pinned (.plain (OpenSpec.ofChange fnWeightedSupermajorityIsLeastAboveTwoThirdsSpec)) fnWeightedSupermajorityIsLeastAboveTwoThirdsCard
/-- ITS FALSE NEIGHBOUR. Refute it at one input. -/
def FnWeightedSupermajorityIsLeastAboveTwoThirdsToldWrongFalsely : Prop := Claim7.holds Tryf.pinned (.plain (OpenSpec.ofChange fnWeightedSupermajorityIsLeastAboveTwoThirdsWrong)) fnWeightedSupermajorityIsLeastAboveTwoThirdsCard

/-- THE TOLD CARD OF 'zzlaws_root_b1.FnWeightedSupermajorityOfJoinedGroups'. -/
def fnWeightedSupermajorityOfJoinedGroupsCard : Claim7 := { stood := { row := fnWeightedSupermajorityOfJoinedGroupsRow, standIns := [], harness := (true, "62b08b56b94fa64d0dc22cc8f52f98b8e9f37a0786adeb57c6f48a063d9523a3"), looks := false }, told := true, goes := false }
def FnWeightedSupermajorityOfJoinedGroupsToldSaid : Prop := Claim7.holds Tryf.pinned (.plain (OpenSpec.ofChange fnWeightedSupermajorityOfJoinedGroupsSpec)) fnWeightedSupermajorityOfJoinedGroupsCard
/-- ITS FALSE NEIGHBOUR. Refute it at one input. -/
def FnWeightedSupermajorityOfJoinedGroupsToldWrongFalsely : Prop := Claim7.holds Tryf.pinned (.plain (OpenSpec.ofChange fnWeightedSupermajorityOfJoinedGroupsWrong)) fnWeightedSupermajorityOfJoinedGroupsCard
end Rows
end Go.Proofs.Qxb6628655aFmt
