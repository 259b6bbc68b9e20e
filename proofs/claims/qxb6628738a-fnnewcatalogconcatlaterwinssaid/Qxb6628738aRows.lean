/-
  No cell of these rows narrows 'for every input' (looked for: loops, veiled, ifaces, maps, wideKeys, modest, calm, conditions, laid).
  DERIVED. THE GIVEN ROWS OF THIS SEAT. 2 by the template 'for every input the law returns true; each argument reads behind the call as it read before'; 0 by the template 'total and deterministic' (their statements: Qxb6628738aTotals.lean).
  GIVEN WITH THE SEED: the statements are not yours to turn. If you find one false, say at which input.
  Laid BY PROGRAM, IN A SANDBOX (cutbox-rows.mjs): the forced cells as the released guide's own fill.sh prints them over the translation a6df320c98cdb491… (all of the seat's roots in one cut). By AI agents, Wed Nov 11 2026. No macro, syntax, notation, axiom, sorry.
-/
import Derived.Test.Qxb6628738aChecked
import GoSem.Claim
import GoSem.ClaimJoined
import GoSem.ClaimMapViews
import Derived.JoinedTies
import Derived.KernelRfl
namespace Go.Proofs.Qxb6628738a
/- THE CELL 'sum', in the pinned program and in every row, IS THE sha256 OF THE DUMP (.gsa) THAT Qxb6628738aProg.lean LOADS. Nothing in Lean hashes anything: it is a label: what it is worth is what the hold of that sum in a sandbox is worth. -/
noncomputable def Try.pinned : Pinned := { name := "qxb6628738a", sum := "a6df320c98cdb49185291144ada48cc763239395b0efdd28e4729610f87725c8", checked := Try.checked }
namespace Rows
def none {H : Type} : Left H := { results := [], args := [] }

/-- 'zzlaws_pkg_release_b1.FnNewCatalogExact': WHATEVER THE INPUT: true; the input reads as it did. -/
def fnNewCatalogExactSpec : ChangeSpec := { name := "fnNewCatalogExact", fn := fun _ => fun
  | [d] => { results := [.lit (.bool true)], args := [d] }
  | _ => none }
def fnNewCatalogExactRow : OpenClaim := { program := "qxb6628738a", sum := "a6df320c98cdb49185291144ada48cc763239395b0efdd28e4729610f87725c8", func := "example.com/tidegate/tidegate/zzlaws_pkg_release_b1.FnNewCatalogExact", spec := "fnNewCatalogExact", recurses := true, plainKeys := false, apart := false }
def FnNewCatalogExactSaid : Prop := fnNewCatalogExactRow.holds Try.pinned (OpenSpec.ofChange fnNewCatalogExactSpec)

/-- ITS FALSE NEIGHBOUR: 'it returns false'. Refute it at one input. -/
def fnNewCatalogExactWrong : ChangeSpec := { name := "fnNewCatalogExact", fn := fun _ => fun
  | [d] => { results := [.lit (.bool false)], args := [d] }
  | _ => none }
def FnNewCatalogExactWrongFalsely : Prop := fnNewCatalogExactRow.holds Try.pinned (OpenSpec.ofChange fnNewCatalogExactWrong)

/-- 'zzlaws_pkg_release_b1.FnNewCatalogConcatLaterWins': WHATEVER THE INPUT: true; the input reads as it did. -/
def fnNewCatalogConcatLaterWinsSpec : ChangeSpec := { name := "fnNewCatalogConcatLaterWins", fn := fun _ => fun
  | [d1, d2] => { results := [.lit (.bool true)], args := [d1, d2] }
  | _ => none }
def fnNewCatalogConcatLaterWinsRow : OpenClaim := { program := "qxb6628738a", sum := "a6df320c98cdb49185291144ada48cc763239395b0efdd28e4729610f87725c8", func := "example.com/tidegate/tidegate/zzlaws_pkg_release_b1.FnNewCatalogConcatLaterWins", spec := "fnNewCatalogConcatLaterWins", recurses := true, plainKeys := false, apart := false }
def FnNewCatalogConcatLaterWinsSaid : Prop := fnNewCatalogConcatLaterWinsRow.holds Try.pinned (OpenSpec.ofChange fnNewCatalogConcatLaterWinsSpec)

/-- ITS FALSE NEIGHBOUR: 'it returns false'. Refute it at one input. -/
def fnNewCatalogConcatLaterWinsWrong : ChangeSpec := { name := "fnNewCatalogConcatLaterWins", fn := fun _ => fun
  | [d1, d2] => { results := [.lit (.bool false)], args := [d1, d2] }
  | _ => none }
def FnNewCatalogConcatLaterWinsWrongFalsely : Prop := fnNewCatalogConcatLaterWinsRow.holds Try.pinned (OpenSpec.ofChange fnNewCatalogConcatLaterWinsWrong)

end Rows
end Go.Proofs.Qxb6628738a
