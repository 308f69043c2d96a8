/-
  No cell of these rows narrows 'for every input' (looked for: loops, veiled, ifaces, maps, wideKeys, modest, calm, conditions, laid).
  DERIVED. THE GIVEN ROWS OF THIS SEAT. 2 by the template 'for every input the law returns true; each argument reads behind the call as it read before'; 0 by the template 'total and deterministic' (their statements: Qxb6613618aFmtTotals.lean).
  GIVEN WITH THE SEED: the statements are not yours to turn. If you find one false, say at which input.
  Laid BY PROGRAM, IN A SANDBOX (cutbox-rows.mjs): the forced cells as the released guide's own fill.sh prints them over the translation df23a04d00077e8d… (all of the seat's roots in one cut). By AI agents, Wed Nov 11 2026. No macro, syntax, notation, axiom, sorry.
-/
import Derived.Test.Qxb6613618aFmtChecked
import GoSem.Claim
import GoSem.ClaimJoined
import GoSem.ClaimMapViews
import Derived.JoinedTies
import Derived.KernelRfl
namespace Go.Proofs.Qxb6613618aFmt
/- THE CELL 'sum', in the pinned program and in every row, IS THE sha256 OF THE DUMP (.gsa) THAT Qxb6613618aFmtProg.lean LOADS. Nothing in Lean hashes anything: it is a label: what it is worth is what the hold of that sum in a sandbox is worth. -/
noncomputable def Tryf.pinned : Pinned := { name := "qxb6613618afmt", sum := "df23a04d00077e8de86a41d9352b33ab6a23637c49d7eddc90e93090115cb74e", checked := Tryf.checked }
namespace Rows
def none {H : Type} : Left H := { results := [], args := [] }

/-- 'zzlaws_action_b1.FnConflictRefusesByKeptOrByOwner': WHATEVER THE INPUT: true; the input reads as it did. -/
def fnConflictRefusesByKeptOrByOwnerSpec : ChangeSpec := { name := "fnConflictRefusesByKeptOrByOwner", fn := fun _ => fun
  | [d1, d2, d3, d4, d5, d6] => { results := [.lit (.bool true)], args := [d1, d2, d3, d4, d5, d6] }
  | _ => none }
def fnConflictRefusesByKeptOrByOwnerRow : OpenClaim := { program := "qxb6613618afmt", sum := "df23a04d00077e8de86a41d9352b33ab6a23637c49d7eddc90e93090115cb74e", func := "example.com/ask-to-act/ask-to-act/zzlaws_action_b1.FnConflictRefusesByKeptOrByOwner", spec := "fnConflictRefusesByKeptOrByOwner", stops := ["fmt.errorf", "fmt.Sprintf"], inPlace := ["fmt.errorf"], unfollowed := true, recurses := true, apart := false }
/-- NO THEOREM (fmt's text is open here; it may be false): for the released tool's asking of the row's closed facts alone. THE STATEMENT IS 'FnConflictRefusesByKeptOrByOwnerToldSaid' (Qxb6613618aFmtCards.lean). -/
def FnConflictRefusesByKeptOrByOwnerFormAsk : Prop := fnConflictRefusesByKeptOrByOwnerRow.holds Tryf.pinned (OpenSpec.ofChange fnConflictRefusesByKeptOrByOwnerSpec)

/-- ITS FALSE NEIGHBOUR: 'it returns false'. Refute it at one input. -/
def fnConflictRefusesByKeptOrByOwnerWrong : ChangeSpec := { name := "fnConflictRefusesByKeptOrByOwner", fn := fun _ => fun
  | [d1, d2, d3, d4, d5, d6] => { results := [.lit (.bool false)], args := [d1, d2, d3, d4, d5, d6] }
  | _ => none }
def FnConflictRefusesByKeptOrByOwnerWrongFormAsk : Prop := fnConflictRefusesByKeptOrByOwnerRow.holds Tryf.pinned (OpenSpec.ofChange fnConflictRefusesByKeptOrByOwnerWrong)

/-- 'zzlaws_action_b1.FnConflictBuiltinOwnerRefusesAndOwnActionRenews': WHATEVER THE INPUT: true; the input reads as it did. -/
def fnConflictBuiltinOwnerRefusesAndOwnActionRenewsSpec : ChangeSpec := { name := "fnConflictBuiltinOwnerRefusesAndOwnActionRenews", fn := fun _ => fun
  | [d1, d2, d3, d4] => { results := [.lit (.bool true)], args := [d1, d2, d3, d4] }
  | _ => none }
def fnConflictBuiltinOwnerRefusesAndOwnActionRenewsRow : OpenClaim := { program := "qxb6613618afmt", sum := "df23a04d00077e8de86a41d9352b33ab6a23637c49d7eddc90e93090115cb74e", func := "example.com/ask-to-act/ask-to-act/zzlaws_action_b1.FnConflictBuiltinOwnerRefusesAndOwnActionRenews", spec := "fnConflictBuiltinOwnerRefusesAndOwnActionRenews", stops := ["fmt.errorf", "fmt.Sprintf"], inPlace := ["fmt.errorf"], unfollowed := true, recurses := true, apart := false }
/-- NO THEOREM (fmt's text is open here; it may be false): for the released tool's asking of the row's closed facts alone. THE STATEMENT IS 'FnConflictBuiltinOwnerRefusesAndOwnActionRenewsToldSaid' (Qxb6613618aFmtCards.lean). -/
def FnConflictBuiltinOwnerRefusesAndOwnActionRenewsFormAsk : Prop := fnConflictBuiltinOwnerRefusesAndOwnActionRenewsRow.holds Tryf.pinned (OpenSpec.ofChange fnConflictBuiltinOwnerRefusesAndOwnActionRenewsSpec)

/-- ITS FALSE NEIGHBOUR: 'it returns false'. Refute it at one input. -/
def fnConflictBuiltinOwnerRefusesAndOwnActionRenewsWrong : ChangeSpec := { name := "fnConflictBuiltinOwnerRefusesAndOwnActionRenews", fn := fun _ => fun
  | [d1, d2, d3, d4] => { results := [.lit (.bool false)], args := [d1, d2, d3, d4] }
  | _ => none }
def FnConflictBuiltinOwnerRefusesAndOwnActionRenewsWrongFormAsk : Prop := fnConflictBuiltinOwnerRefusesAndOwnActionRenewsRow.holds Tryf.pinned (OpenSpec.ofChange fnConflictBuiltinOwnerRefusesAndOwnActionRenewsWrong)

end Rows
end Go.Proofs.Qxb6613618aFmt
