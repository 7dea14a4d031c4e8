/-
  DERIVED. GIVEN WITH THE SEED: THE CARDS: each row of Qxb6608822aRFmtRows.lean that lists a variable, with what it lists TIED to the program's text (the seventh form; the later family's looks); each row that meets fmt, with fmt's text TOLD by the authors' own Lean function (tested against real Go, not proved from fmt's source: count such statements apart). THE CARD IS WHAT COUNTS. Prove the row's statement (the work); the ties are given (Qxb6608822aRFmtTie.lean); close each card by the builder's one call (the guide's Derived/Test/ToyasCard.lean, 'card_holds'). Laid BY PROGRAM, IN A SANDBOX (cutbox-door.mjs). By AI agents, Wed Nov 11 2026. No macro, syntax, notation, axiom, sorry.
-/
import Derived.Test.Qxb6608822aRFmtRows
import GoSem.ClaimSeven
namespace Go.Proofs.Qxb6608822aRFmt
namespace Rows

/-- THE TOLD CARD OF 'zzlaws_radius_b1.FnApplyKeepsTheTagBeforeWhatFYields'. -/
def fnApplyKeepsTheTagBeforeWhatFYieldsCard : Claim7 := { stood := { row := fnApplyKeepsTheTagBeforeWhatFYieldsRow, standIns := [], harness := (true, "000de71ac6d34b8fb8ccd2d5ca0330c38e2811f9ea895b3708742f00acd0e1bb"), looks := false }, told := true, goes := false }
def FnApplyKeepsTheTagBeforeWhatFYieldsToldSaid : Prop := Claim7.holds Tryf.pinned (.plain (OpenSpec.ofChange fnApplyKeepsTheTagBeforeWhatFYieldsSpec)) fnApplyKeepsTheTagBeforeWhatFYieldsCard
/-- ITS FALSE NEIGHBOUR. Refute it at one input. -/
def FnApplyKeepsTheTagBeforeWhatFYieldsToldWrongFalsely : Prop := Claim7.holds Tryf.pinned (.plain (OpenSpec.ofChange fnApplyKeepsTheTagBeforeWhatFYieldsWrong)) fnApplyKeepsTheTagBeforeWhatFYieldsCard
end Rows
end Go.Proofs.Qxb6608822aRFmt
