/-
  DERIVED. GIVEN WITH THE SEED: THE CARDS: each row of Qxb6621616aFmtRows.lean that lists a variable, with what it lists TIED to the program's text (the seventh form; the later family's looks); each row that meets fmt, with fmt's text TOLD by the authors' own Lean function (tested against real Go, not proved from fmt's source: count such statements apart). THE CARD IS WHAT COUNTS. Prove the row's statement (the work); the ties are given (Qxb6621616aFmtTie.lean); close each card by the builder's one call (the guide's Derived/Test/ToyasCard.lean, 'card_holds'). Laid BY PROGRAM, IN A SANDBOX (cutbox-door.mjs). By AI agents, Wed Nov 11 2026. No macro, syntax, notation, axiom, sorry.
-/
import Derived.Test.Qxb6621616aFmtRows
import GoSem.ClaimSeven
namespace Go.Proofs.Qxb6621616aFmt
namespace Rows

/-- THE TOLD CARD OF 'zzlaws_internal_config_e1.FnOptionalPresentRefusesAsInRange'. -/
def fnOptionalPresentRefusesAsInRangeCard : Claim7 := { stood := { row := fnOptionalPresentRefusesAsInRangeRow, standIns := [], harness := (true, "6c438b9eea44ee6c20d71f26bd59e4ecfe7ede9e40d02e83f00fb5177fe95b95"), looks := false }, told := true, goes := false }
def FnOptionalPresentRefusesAsInRangeToldSaid : Prop := Claim7.holds Tryf.pinned (.plain (OpenSpec.ofChange fnOptionalPresentRefusesAsInRangeSpec)) fnOptionalPresentRefusesAsInRangeCard
/-- ITS FALSE NEIGHBOUR. Refute it at one input. -/
def FnOptionalPresentRefusesAsInRangeToldWrongFalsely : Prop := Claim7.holds Tryf.pinned (.plain (OpenSpec.ofChange fnOptionalPresentRefusesAsInRangeWrong)) fnOptionalPresentRefusesAsInRangeCard

/-- THE TOLD CARD OF 'zzlaws_internal_config_e1.FnOptionalDefaultSpelledOut'. -/
def fnOptionalDefaultSpelledOutCard : Claim7 := { stood := { row := fnOptionalDefaultSpelledOutRow, standIns := [], harness := (true, "6c438b9eea44ee6c20d71f26bd59e4ecfe7ede9e40d02e83f00fb5177fe95b95"), looks := false }, told := true, goes := false }
def FnOptionalDefaultSpelledOutToldSaid : Prop := Claim7.holds Tryf.pinned (.plain (OpenSpec.ofChange fnOptionalDefaultSpelledOutSpec)) fnOptionalDefaultSpelledOutCard
/-- ITS FALSE NEIGHBOUR. Refute it at one input. -/
def FnOptionalDefaultSpelledOutToldWrongFalsely : Prop := Claim7.holds Tryf.pinned (.plain (OpenSpec.ofChange fnOptionalDefaultSpelledOutWrong)) fnOptionalDefaultSpelledOutCard
end Rows
end Go.Proofs.Qxb6621616aFmt
