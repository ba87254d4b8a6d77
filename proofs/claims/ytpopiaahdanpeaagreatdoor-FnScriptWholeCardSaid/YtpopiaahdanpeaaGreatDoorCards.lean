/-
  DERIVED. GIVEN WITH THE SEED: THE CARDS: each row of YtpopiaahdanpeaaGreatDoorRows.lean that lists a variable, with what it lists TIED to the program's text (the seventh form; the later family's looks); each row that meets fmt, with fmt's text TOLD by the authors' own Lean function (tested against real Go, not proved from fmt's source: count such statements apart). THE CARD IS WHAT COUNTS. Prove the row's statement (the work); the ties are given (YtpopiaahdanpeaaGreatDoorTie.lean); close each card by the builder's one call (the guide's Derived/Test/ToyasCard.lean, 'card_holds'). Laid BY PROGRAM, IN A SANDBOX (cutbox-door.mjs). By AI agents, Wed Nov 11 2026. No macro, syntax, notation, axiom, sorry.
-/
import Derived.Test.YtpopiaahdanpeaaGreatDoorRows
import GoSem.ClaimSeven
namespace Go.Proofs.YtpopiaahdanpeaaGreatDoor
namespace Rows

/-- THE TIED CARD OF 'laws.FnScriptWhole'. -/
def fnScriptWholeCard : Claim7 := { stood := { row := fnScriptWholeRow, standIns := [], harness := (true, "64d4676c34448b91598d6a576141649458d15897b913646a5850c4c2d0f32610"), looks := true }, kinds := [], alts := [], laidByText := true, laidKinds := [.data, .data, .data], laidTests := true, laidLooks := .later }
def FnScriptWholeCardSaid : Prop := Claim7.holds Tryz.pinned (.plain (OpenSpec.ofChange fnScriptWholeSpec)) fnScriptWholeCard

/-- THE SECOND FORM's CARD OF 'laws.FnScriptWhole'. -/
def fnScriptWholeUptoCard : Claim7 := { stood := { row := fnScriptWholeUptoRow, standIns := [], harness := (true, "64d4676c34448b91598d6a576141649458d15897b913646a5850c4c2d0f32610"), looks := true }, kinds := [], alts := [], laidByText := true, laidKinds := [.data, .data, .data], laidTests := true, laidLooks := .later }
def FnScriptWholeUptoCardSaid : Prop := Claim7.holds Tryz.pinned (.plain (OpenSpec.upto fnScriptWholeSpec)) fnScriptWholeUptoCard
end Rows
end Go.Proofs.YtpopiaahdanpeaaGreatDoor
