/-
  DERIVED. GIVEN WITH THE SEED: THE CARDS: each row of Qxb6619248aDoorRows.lean that lists a variable, with what it lists TIED to the program's text (the seventh form; the later family's looks); each row that meets fmt, with fmt's text TOLD by the authors' own Lean function (tested against real Go, not proved from fmt's source: count such statements apart). THE CARD IS WHAT COUNTS. Prove the row's statement (the work); the ties are given (Qxb6619248aDoorTie.lean); close each card by the builder's one call (the guide's Derived/Test/ToyasCard.lean, 'card_holds'). Laid BY PROGRAM, IN A SANDBOX (cutbox-door.mjs). By AI agents, Wed Nov 11 2026. No macro, syntax, notation, axiom, sorry.
-/
import Derived.Test.Qxb6619248aDoorRows
import GoSem.ClaimSeven
namespace Go.Proofs.Qxb6619248aDoor
namespace Rows

/-- THE TIED CARD OF 'zzlaws_ledger_b1.FnBalancesLineSplitsAtAnyCut'. -/
def fnBalancesLineSplitsAtAnyCutCard : Claim7 := { stood := { row := fnBalancesLineSplitsAtAnyCutRow, standIns := [], harness := (true, "37e0a81b790434239d5048991f894ea2faa83f9df6a04a1d2a5e1100cd6b89a1"), looks := false }, kinds := [], alts := [], laidByText := true, laidKinds := [.data, .data, .data], laidTests := true, laidLooks := .later }
def FnBalancesLineSplitsAtAnyCutCardSaid : Prop := Claim7.holds Tryd.pinned (.plain (OpenSpec.ofChange fnBalancesLineSplitsAtAnyCutSpec)) fnBalancesLineSplitsAtAnyCutCard

/-- THE TIED CARD OF 'zzlaws_ledger_b1.FnLineAmountReadsBackFromTheEnd'. -/
def fnLineAmountReadsBackFromTheEndCard : Claim7 := { stood := { row := fnLineAmountReadsBackFromTheEndRow, standIns := [], harness := (true, "37e0a81b790434239d5048991f894ea2faa83f9df6a04a1d2a5e1100cd6b89a1"), looks := false }, kinds := [], alts := [], laidByText := true, laidKinds := [.data, .data, .data], laidTests := true, laidLooks := .later }
def FnLineAmountReadsBackFromTheEndCardSaid : Prop := Claim7.holds Tryd.pinned (.plain (OpenSpec.ofChange fnLineAmountReadsBackFromTheEndSpec)) fnLineAmountReadsBackFromTheEndCard

/-- THE TIED CARD OF 'zzlaws_ledger_b1.FnBalancesLineAfterScript'. -/
def fnBalancesLineAfterScriptCard : Claim7 := { stood := { row := fnBalancesLineAfterScriptRow, standIns := [], harness := (true, "37e0a81b790434239d5048991f894ea2faa83f9df6a04a1d2a5e1100cd6b89a1"), looks := false }, kinds := [], alts := [], laidByText := true, laidKinds := [.data, .data, .data], laidTests := true, laidLooks := .later }
def FnBalancesLineAfterScriptCardSaid : Prop := Claim7.holds Tryd.pinned (.plain (OpenSpec.ofChange fnBalancesLineAfterScriptSpec)) fnBalancesLineAfterScriptCard
end Rows
end Go.Proofs.Qxb6619248aDoor
