/-
  DERIVED. GIVEN WITH THE SEED: THE CARDS: each row of Qxb6608621aDoorRows.lean that lists a variable, with what it lists TIED to the program's text (the seventh form; the later family's looks); each row that meets fmt, with fmt's text TOLD by the authors' own Lean function (tested against real Go, not proved from fmt's source: count such statements apart). THE CARD IS WHAT COUNTS. Prove the row's statement (the work); the ties are given (Qxb6608621aDoorTie.lean); close each card by the builder's one call (the guide's Derived/Test/ToyasCard.lean, 'card_holds'). Laid BY PROGRAM, IN A SANDBOX (cutbox-door.mjs). By AI agents, Wed Nov 11 2026. No macro, syntax, notation, axiom, sorry.
-/
import Derived.Test.Qxb6608621aDoorRows
import GoSem.ClaimSeven
namespace Go.Proofs.Qxb6608621aDoor
namespace Rows

/-- THE TIED CARD OF 'zzlaws_internal_strictjson_b1.FnReaderByteSplitAtAnyCut'. -/
def fnReaderByteSplitAtAnyCutCard : Claim7 := { stood := { row := fnReaderByteSplitAtAnyCutRow, standIns := [], harness := (true, "8615c8fc4008dd444882388ac1659cc2bf89498ca988546800b5b776e594c6e2"), looks := true }, kinds := [], alts := [], laidByText := true, laidKinds := [.called, .called, .called], laidTests := true, laidLooks := .later }
def FnReaderByteSplitAtAnyCutCardSaid : Prop := Claim7.holds Tryd.pinned (.plain (OpenSpec.ofChange fnReaderByteSplitAtAnyCutSpec)) fnReaderByteSplitAtAnyCutCard
end Rows
end Go.Proofs.Qxb6608621aDoor
