/-
  DERIVED. GIVEN WITH THE SEED: THE CARDS: each row of Qxb6613618aFmtRows.lean that lists a variable, with what it lists TIED to the program's text (the seventh form; the later family's looks); each row that meets fmt, with fmt's text TOLD by the authors' own Lean function (tested against real Go, not proved from fmt's source: count such statements apart). THE CARD IS WHAT COUNTS. Prove the row's statement (the work); the ties are given (Qxb6613618aFmtTie.lean); close each card by the builder's one call (the guide's Derived/Test/ToyasCard.lean, 'card_holds'). Laid BY PROGRAM, IN A SANDBOX (cutbox-door.mjs). By AI agents, Wed Nov 11 2026. No macro, syntax, notation, axiom, sorry.
-/
import Derived.Test.Qxb6613618aFmtRows
import GoSem.ClaimSeven
namespace Go.Proofs.Qxb6613618aFmt
namespace Rows

/-- THE TOLD CARD OF 'zzlaws_action_b1.FnConflictRefusesByKeptOrByOwner'. -/
def fnConflictRefusesByKeptOrByOwnerCard : Claim7 := { stood := { row := fnConflictRefusesByKeptOrByOwnerRow, standIns := [], harness := (true, "e58ba1936eaf05ce90a2af2877aa02a8d533f1e17d0099f2d98595e32a40b5e3"), looks := true }, told := true, goes := false }
def FnConflictRefusesByKeptOrByOwnerToldSaid : Prop := Claim7.holds Tryf.pinned (.plain (OpenSpec.ofChange fnConflictRefusesByKeptOrByOwnerSpec)) fnConflictRefusesByKeptOrByOwnerCard
/-- ITS FALSE NEIGHBOUR. Refute it at one input. -/
def FnConflictRefusesByKeptOrByOwnerToldWrongFalsely : Prop := Claim7.holds Tryf.pinned (.plain (OpenSpec.ofChange fnConflictRefusesByKeptOrByOwnerWrong)) fnConflictRefusesByKeptOrByOwnerCard

/-- THE TOLD CARD OF 'zzlaws_action_b1.FnConflictBuiltinOwnerRefusesAndOwnActionRenews'. -/
def fnConflictBuiltinOwnerRefusesAndOwnActionRenewsCard : Claim7 := { stood := { row := fnConflictBuiltinOwnerRefusesAndOwnActionRenewsRow, standIns := [], harness := (true, "e58ba1936eaf05ce90a2af2877aa02a8d533f1e17d0099f2d98595e32a40b5e3"), looks := true }, told := true, goes := false }
def FnConflictBuiltinOwnerRefusesAndOwnActionRenewsToldSaid : Prop := Claim7.holds Tryf.pinned (.plain (OpenSpec.ofChange fnConflictBuiltinOwnerRefusesAndOwnActionRenewsSpec)) fnConflictBuiltinOwnerRefusesAndOwnActionRenewsCard
/-- ITS FALSE NEIGHBOUR. Refute it at one input. -/
def FnConflictBuiltinOwnerRefusesAndOwnActionRenewsToldWrongFalsely : Prop := Claim7.holds Tryf.pinned (.plain (OpenSpec.ofChange fnConflictBuiltinOwnerRefusesAndOwnActionRenewsWrong)) fnConflictBuiltinOwnerRefusesAndOwnActionRenewsCard
end Rows
end Go.Proofs.Qxb6613618aFmt
