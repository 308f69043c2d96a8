/-
  No cell of these rows narrows 'for every input' (looked for: loops, veiled, ifaces, maps, wideKeys, modest, calm, conditions, laid).
  DERIVED. THE GIVEN ROWS OF THIS SEAT. 1 by the template 'for every input the law returns true; each argument reads behind the call as it read before'; 0 by the template 'total and deterministic' (their statements: Qxb6614111aTotals.lean).
  GIVEN WITH THE SEED: the statements are not yours to turn. If you find one false, say at which input.
  Laid BY PROGRAM, IN A SANDBOX (cutbox-rows.mjs): the forced cells as the released guide's own fill.sh prints them over the translation e51572225d283a3f… (all of the seat's roots in one cut). By AI agents, Wed Nov 11 2026. No macro, syntax, notation, axiom, sorry.
-/
import Derived.Test.Qxb6614111aChecked
import GoSem.Claim
import GoSem.ClaimJoined
import GoSem.ClaimMapViews
import Derived.JoinedTies
import Derived.KernelRfl
namespace Go.Proofs.Qxb6614111a
/- THE CELL 'sum', in the pinned program and in every row, IS THE sha256 OF THE DUMP (.gsa) THAT Qxb6614111aProg.lean LOADS. Nothing in Lean hashes anything: it is a label: what it is worth is what the hold of that sum in a sandbox is worth. -/
noncomputable def Try.pinned : Pinned := { name := "qxb6614111a", sum := "e51572225d283a3f0023a90dd2bf810488dffb2be390f14244a3ebe216591712", checked := Try.checked }
namespace Rows
def none {H : Type} : Left H := { results := [], args := [] }

/-- 'zzlaws_twophase_b1.FnSchedulerDoAppendsEachOperationUnderRigorousLocking': WHATEVER THE INPUT: true; the input reads as it did. -/
def fnSchedulerDoAppendsEachOperationUnderRigorousLockingSpec : ChangeSpec := { name := "fnSchedulerDoAppendsEachOperationUnderRigorousLocking", fn := fun _ => fun
  | [d1, d2, d3] => { results := [.lit (.bool true)], args := [d1, d2, d3] }
  | _ => none }
def fnSchedulerDoAppendsEachOperationUnderRigorousLockingRow : OpenClaim := { program := "qxb6614111a", sum := "e51572225d283a3f0023a90dd2bf810488dffb2be390f14244a3ebe216591712", func := "example.com/serialix/serialix/zzlaws_twophase_b1.FnSchedulerDoAppendsEachOperationUnderRigorousLocking", spec := "fnSchedulerDoAppendsEachOperationUnderRigorousLocking", unfollowed := true, recurses := true, named := ["encoding/binary.LittleEndian"], apart := false }
def FnSchedulerDoAppendsEachOperationUnderRigorousLockingSaid : Prop := fnSchedulerDoAppendsEachOperationUnderRigorousLockingRow.holds Try.pinned (OpenSpec.ofChange fnSchedulerDoAppendsEachOperationUnderRigorousLockingSpec)

/-- ITS FALSE NEIGHBOUR: 'it returns false'. Refute it at one input. -/
def fnSchedulerDoAppendsEachOperationUnderRigorousLockingWrong : ChangeSpec := { name := "fnSchedulerDoAppendsEachOperationUnderRigorousLocking", fn := fun _ => fun
  | [d1, d2, d3] => { results := [.lit (.bool false)], args := [d1, d2, d3] }
  | _ => none }
def FnSchedulerDoAppendsEachOperationUnderRigorousLockingWrongFalsely : Prop := fnSchedulerDoAppendsEachOperationUnderRigorousLockingRow.holds Try.pinned (OpenSpec.ofChange fnSchedulerDoAppendsEachOperationUnderRigorousLockingWrong)

end Rows
end Go.Proofs.Qxb6614111a
