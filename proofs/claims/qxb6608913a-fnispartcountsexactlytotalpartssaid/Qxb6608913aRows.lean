/-
  No cell of these rows narrows 'for every input' (looked for: loops, veiled, ifaces, maps, wideKeys, modest, calm, conditions, laid).
  DERIVED. THE GIVEN ROWS OF THIS SEAT. 2 by the template 'for every input the law returns true; each argument reads behind the call as it read before'; 0 by the template 'total and deterministic' (their statements: Qxb6608913aTotals.lean).
  GIVEN WITH THE SEED: the statements are not yours to turn. If you find one false, say at which input.
  Laid BY PROGRAM, IN A SANDBOX (cutbox-rows.mjs): the forced cells as the released guide's own fill.sh prints them over the translation c3b6254dafd5e6ab… (all of the seat's roots in one cut). By AI agents, Wed Nov 11 2026. No macro, syntax, notation, axiom, sorry.
-/
import Derived.Test.Qxb6608913aChecked
import GoSem.Claim
import GoSem.ClaimJoined
import GoSem.ClaimMapViews
import Derived.JoinedTies
import Derived.KernelRfl
namespace Go.Proofs.Qxb6608913a
/- THE CELL 'sum', in the pinned program and in every row, IS THE sha256 OF THE DUMP (.gsa) THAT Qxb6608913aProg.lean LOADS. Nothing in Lean hashes anything: it is a label: what it is worth is what the hold of that sum in a sandbox is worth. -/
noncomputable def Try.pinned : Pinned := { name := "qxb6608913a", sum := "c3b6254dafd5e6ab0c00160d2e9447986d1582a6fbef7ecc782de6d1bffd9ade", checked := Try.checked }
namespace Rows
def none {H : Type} : Left H := { results := [], args := [] }

/-- 'zzlaws_pkg_textcodec_b1.FnIsPartCountsExactlyTotalParts': WHATEVER THE INPUT: true; the input reads as it did. -/
def fnIsPartCountsExactlyTotalPartsSpec : ChangeSpec := { name := "fnIsPartCountsExactlyTotalParts", fn := fun _ => fun
  | [d1, d2] => { results := [.lit (.bool true)], args := [d1, d2] }
  | _ => none }
def fnIsPartCountsExactlyTotalPartsRow : OpenClaim := { program := "qxb6608913a", sum := "c3b6254dafd5e6ab0c00160d2e9447986d1582a6fbef7ecc782de6d1bffd9ade", func := "example.com/courierbeam/courierbeam/zzlaws_pkg_textcodec_b1.FnIsPartCountsExactlyTotalParts", spec := "fnIsPartCountsExactlyTotalParts", apart := false }
def FnIsPartCountsExactlyTotalPartsSaid : Prop := fnIsPartCountsExactlyTotalPartsRow.holds Try.pinned (OpenSpec.ofChange fnIsPartCountsExactlyTotalPartsSpec)

/-- ITS FALSE NEIGHBOUR: 'it returns false'. Refute it at one input. -/
def fnIsPartCountsExactlyTotalPartsWrong : ChangeSpec := { name := "fnIsPartCountsExactlyTotalParts", fn := fun _ => fun
  | [d1, d2] => { results := [.lit (.bool false)], args := [d1, d2] }
  | _ => none }
def FnIsPartCountsExactlyTotalPartsWrongFalsely : Prop := fnIsPartCountsExactlyTotalPartsRow.holds Try.pinned (OpenSpec.ofChange fnIsPartCountsExactlyTotalPartsWrong)

/-- 'zzlaws_pkg_textcodec_b1.FnIsPartIgnoresReferenceAndStaysPart': WHATEVER THE INPUT: true; the input reads as it did. -/
def fnIsPartIgnoresReferenceAndStaysPartSpec : ChangeSpec := { name := "fnIsPartIgnoresReferenceAndStaysPart", fn := fun _ => fun
  | [d1, d2, d3, d4] => { results := [.lit (.bool true)], args := [d1, d2, d3, d4] }
  | _ => none }
def fnIsPartIgnoresReferenceAndStaysPartRow : OpenClaim := { program := "qxb6608913a", sum := "c3b6254dafd5e6ab0c00160d2e9447986d1582a6fbef7ecc782de6d1bffd9ade", func := "example.com/courierbeam/courierbeam/zzlaws_pkg_textcodec_b1.FnIsPartIgnoresReferenceAndStaysPart", spec := "fnIsPartIgnoresReferenceAndStaysPart", apart := false }
def FnIsPartIgnoresReferenceAndStaysPartSaid : Prop := fnIsPartIgnoresReferenceAndStaysPartRow.holds Try.pinned (OpenSpec.ofChange fnIsPartIgnoresReferenceAndStaysPartSpec)

/-- ITS FALSE NEIGHBOUR: 'it returns false'. Refute it at one input. -/
def fnIsPartIgnoresReferenceAndStaysPartWrong : ChangeSpec := { name := "fnIsPartIgnoresReferenceAndStaysPart", fn := fun _ => fun
  | [d1, d2, d3, d4] => { results := [.lit (.bool false)], args := [d1, d2, d3, d4] }
  | _ => none }
def FnIsPartIgnoresReferenceAndStaysPartWrongFalsely : Prop := fnIsPartIgnoresReferenceAndStaysPartRow.holds Try.pinned (OpenSpec.ofChange fnIsPartIgnoresReferenceAndStaysPartWrong)

end Rows
end Go.Proofs.Qxb6608913a
