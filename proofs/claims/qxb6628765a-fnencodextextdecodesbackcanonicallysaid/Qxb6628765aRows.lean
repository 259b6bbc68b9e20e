/-
  No cell of these rows narrows 'for every input' (looked for: loops, veiled, ifaces, maps, wideKeys, modest, calm, conditions, laid).
  DERIVED. THE GIVEN ROWS OF THIS SEAT. 2 by the template 'for every input the law returns true; each argument reads behind the call as it read before'; 0 by the template 'total and deterministic' (their statements: Qxb6628765aTotals.lean).
  GIVEN WITH THE SEED: the statements are not yours to turn. If you find one false, say at which input.
  Laid BY PROGRAM, IN A SANDBOX (cutbox-rows.mjs): the forced cells as the released guide's own fill.sh prints them over the translation 8414cd0ed6579e20… (all of the seat's roots in one cut). By AI agents, Wed Nov 11 2026. No macro, syntax, notation, axiom, sorry.
-/
import Derived.Test.Qxb6628765aChecked
import GoSem.Claim
import GoSem.ClaimJoined
import GoSem.ClaimMapViews
import Derived.JoinedTies
import Derived.KernelRfl
namespace Go.Proofs.Qxb6628765a
/- THE CELL 'sum', in the pinned program and in every row, IS THE sha256 OF THE DUMP (.gsa) THAT Qxb6628765aProg.lean LOADS. Nothing in Lean hashes anything: it is a label: what it is worth is what the hold of that sum in a sandbox is worth. -/
noncomputable def Try.pinned : Pinned := { name := "qxb6628765a", sum := "8414cd0ed6579e203d5d651f365ab29f5e8795ebfed5ace48c9c66ecffdfbbed", checked := Try.checked }
namespace Rows
def none {H : Type} : Left H := { results := [], args := [] }

/-- 'zzlaws_smtpdsn_b1.FnEncodeXtextDecodesBackCanonically': WHATEVER THE INPUT: true; the input reads as it did. -/
def fnEncodeXtextDecodesBackCanonicallySpec : ChangeSpec := { name := "fnEncodeXtextDecodesBackCanonically", fn := fun _ => fun
  | [d] => { results := [.lit (.bool true)], args := [d] }
  | _ => none }
def fnEncodeXtextDecodesBackCanonicallyRow : OpenClaim := { program := "qxb6628765a", sum := "8414cd0ed6579e203d5d651f365ab29f5e8795ebfed5ace48c9c66ecffdfbbed", func := "example.com/bouncewire/bouncewire/zzlaws_smtpdsn_b1.FnEncodeXtextDecodesBackCanonically", spec := "fnEncodeXtextDecodesBackCanonically", inPlace := ["internal/abi.NoEscape", "internal/bytealg.MakeNoZero"], apart := false }
def FnEncodeXtextDecodesBackCanonicallySaid : Prop := fnEncodeXtextDecodesBackCanonicallyRow.holds Try.pinned (OpenSpec.ofChange fnEncodeXtextDecodesBackCanonicallySpec)

/-- ITS FALSE NEIGHBOUR: 'it returns false'. Refute it at one input. -/
def fnEncodeXtextDecodesBackCanonicallyWrong : ChangeSpec := { name := "fnEncodeXtextDecodesBackCanonically", fn := fun _ => fun
  | [d] => { results := [.lit (.bool false)], args := [d] }
  | _ => none }
def FnEncodeXtextDecodesBackCanonicallyWrongFalsely : Prop := fnEncodeXtextDecodesBackCanonicallyRow.holds Try.pinned (OpenSpec.ofChange fnEncodeXtextDecodesBackCanonicallyWrong)

/-- 'zzlaws_smtpdsn_b1.FnEncodeXtextSplitsAtAnyCut': WHATEVER THE INPUT: true; the input reads as it did. -/
def fnEncodeXtextSplitsAtAnyCutSpec : ChangeSpec := { name := "fnEncodeXtextSplitsAtAnyCut", fn := fun _ => fun
  | [d1, d2] => { results := [.lit (.bool true)], args := [d1, d2] }
  | _ => none }
def fnEncodeXtextSplitsAtAnyCutRow : OpenClaim := { program := "qxb6628765a", sum := "8414cd0ed6579e203d5d651f365ab29f5e8795ebfed5ace48c9c66ecffdfbbed", func := "example.com/bouncewire/bouncewire/zzlaws_smtpdsn_b1.FnEncodeXtextSplitsAtAnyCut", spec := "fnEncodeXtextSplitsAtAnyCut", inPlace := ["internal/abi.NoEscape", "internal/bytealg.MakeNoZero"], apart := false }
def FnEncodeXtextSplitsAtAnyCutSaid : Prop := fnEncodeXtextSplitsAtAnyCutRow.holds Try.pinned (OpenSpec.ofChange fnEncodeXtextSplitsAtAnyCutSpec)

/-- ITS FALSE NEIGHBOUR: 'it returns false'. Refute it at one input. -/
def fnEncodeXtextSplitsAtAnyCutWrong : ChangeSpec := { name := "fnEncodeXtextSplitsAtAnyCut", fn := fun _ => fun
  | [d1, d2] => { results := [.lit (.bool false)], args := [d1, d2] }
  | _ => none }
def FnEncodeXtextSplitsAtAnyCutWrongFalsely : Prop := fnEncodeXtextSplitsAtAnyCutRow.holds Try.pinned (OpenSpec.ofChange fnEncodeXtextSplitsAtAnyCutWrong)

end Rows
end Go.Proofs.Qxb6628765a
