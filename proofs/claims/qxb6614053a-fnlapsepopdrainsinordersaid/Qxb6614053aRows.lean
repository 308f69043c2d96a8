/-
  No cell of these rows narrows 'for every input' (looked for: loops, veiled, ifaces, maps, wideKeys, modest, calm, conditions, laid).
  DERIVED. THE GIVEN ROWS OF THIS SEAT. 2 by the template 'for every input the law returns true; each argument reads behind the call as it read before'; 0 by the template 'total and deterministic' (their statements: Qxb6614053aTotals.lean).
  GIVEN WITH THE SEED: the statements are not yours to turn. If you find one false, say at which input.
  Laid BY PROGRAM, IN A SANDBOX (cutbox-rows.mjs): the forced cells as the released guide's own fill.sh prints them over the translation 2c1b81dcf4544b76… (all of the seat's roots in one cut). By AI agents, Wed Nov 11 2026. No macro, syntax, notation, axiom, sorry.
-/
import Derived.Test.Qxb6614053aChecked
import GoSem.Claim
import GoSem.ClaimJoined
import GoSem.ClaimMapViews
import Derived.JoinedTies
import Derived.KernelRfl
namespace Go.Proofs.Qxb6614053a
/- THE CELL 'sum', in the pinned program and in every row, IS THE sha256 OF THE DUMP (.gsa) THAT Qxb6614053aProg.lean LOADS. Nothing in Lean hashes anything: it is a label: what it is worth is what the hold of that sum in a sandbox is worth. -/
noncomputable def Try.pinned : Pinned := { name := "qxb6614053a", sum := "2c1b81dcf4544b76ee68eb973ab336bba32ce49a7649e4b3912094b5eec44acb", checked := Try.checked }
namespace Rows
def none {H : Type} : Left H := { results := [], args := [] }

/-- 'zzlaws_root_b1.FnLapsePopDrainsInOrder': WHATEVER THE INPUT: true; the input reads as it did. -/
def fnLapsePopDrainsInOrderSpec : ChangeSpec := { name := "fnLapsePopDrainsInOrder", fn := fun _ => fun
  | [d] => { results := [.lit (.bool true)], args := [d] }
  | _ => none }
def fnLapsePopDrainsInOrderRow : OpenClaim := { program := "qxb6614053a", sum := "2c1b81dcf4544b76ee68eb973ab336bba32ce49a7649e4b3912094b5eec44acb", func := "example.com/claviger/claviger/zzlaws_root_b1.FnLapsePopDrainsInOrder", spec := "fnLapsePopDrainsInOrder", unfollowed := true, recurses := true, apart := false }
def FnLapsePopDrainsInOrderSaid : Prop := fnLapsePopDrainsInOrderRow.holds Try.pinned (OpenSpec.ofChange fnLapsePopDrainsInOrderSpec)

/-- ITS FALSE NEIGHBOUR: 'it returns false'. Refute it at one input. -/
def fnLapsePopDrainsInOrderWrong : ChangeSpec := { name := "fnLapsePopDrainsInOrder", fn := fun _ => fun
  | [d] => { results := [.lit (.bool false)], args := [d] }
  | _ => none }
def FnLapsePopDrainsInOrderWrongFalsely : Prop := fnLapsePopDrainsInOrderRow.holds Try.pinned (OpenSpec.ofChange fnLapsePopDrainsInOrderWrong)

/-- 'zzlaws_root_b1.FnOauthParamsFreshPerCall': WHATEVER THE INPUT: true; the input reads as it did. -/
def fnOauthParamsFreshPerCallSpec : ChangeSpec := { name := "fnOauthParamsFreshPerCall", fn := fun _ => fun
  | [d1, d2, d3] => { results := [.lit (.bool true)], args := [d1, d2, d3] }
  | _ => none }
def fnOauthParamsFreshPerCallRow : OpenClaim := { program := "qxb6614053a", sum := "2c1b81dcf4544b76ee68eb973ab336bba32ce49a7649e4b3912094b5eec44acb", func := "example.com/claviger/claviger/zzlaws_root_b1.FnOauthParamsFreshPerCall", spec := "fnOauthParamsFreshPerCall", apart := false }
def FnOauthParamsFreshPerCallSaid : Prop := fnOauthParamsFreshPerCallRow.holds Try.pinned (OpenSpec.ofChange fnOauthParamsFreshPerCallSpec)

/-- ITS FALSE NEIGHBOUR: 'it returns false'. Refute it at one input. -/
def fnOauthParamsFreshPerCallWrong : ChangeSpec := { name := "fnOauthParamsFreshPerCall", fn := fun _ => fun
  | [d1, d2, d3] => { results := [.lit (.bool false)], args := [d1, d2, d3] }
  | _ => none }
def FnOauthParamsFreshPerCallWrongFalsely : Prop := fnOauthParamsFreshPerCallRow.holds Try.pinned (OpenSpec.ofChange fnOauthParamsFreshPerCallWrong)

end Rows
end Go.Proofs.Qxb6614053a
