/-
  No cell of these rows narrows 'for every input' (looked for: loops, veiled, ifaces, maps, wideKeys, modest, calm, conditions, laid).
  DERIVED. THE GIVEN ROWS OF THIS SEAT. 2 by the template 'for every input the law returns true; each argument reads behind the call as it read before'; 0 by the template 'total and deterministic' (their statements: Qxb6621616aFmtTotals.lean).
  GIVEN WITH THE SEED: the statements are not yours to turn. If you find one false, say at which input.
  Laid BY PROGRAM, IN A SANDBOX (cutbox-rows.mjs): the forced cells as the released guide's own fill.sh prints them over the translation 7d8b88cdee95ad51… (all of the seat's roots in one cut). By AI agents, Wed Nov 11 2026. No macro, syntax, notation, axiom, sorry.
-/
import Derived.Test.Qxb6621616aFmtChecked
import GoSem.Claim
import GoSem.ClaimJoined
import GoSem.ClaimMapViews
import Derived.JoinedTies
import Derived.KernelRfl
namespace Go.Proofs.Qxb6621616aFmt
/- THE CELL 'sum', in the pinned program and in every row, IS THE sha256 OF THE DUMP (.gsa) THAT Qxb6621616aFmtProg.lean LOADS. Nothing in Lean hashes anything: it is a label: what it is worth is what the hold of that sum in a sandbox is worth. -/
noncomputable def Tryf.pinned : Pinned := { name := "qxb6621616afmt", sum := "7d8b88cdee95ad51e8a947a269ebfab66f040a47ffdcd40096d6c47652906e3c", checked := Tryf.checked }
namespace Rows
def none {H : Type} : Left H := { results := [], args := [] }

/-- 'zzlaws_internal_config_e1.FnOptionalPresentRefusesAsInRange': WHATEVER THE INPUT: true; the input reads as it did. -/
def fnOptionalPresentRefusesAsInRangeSpec : ChangeSpec := { name := "fnOptionalPresentRefusesAsInRange", fn := fun _ => fun
  | [d1, d2, d3, d4] => { results := [.lit (.bool true)], args := [d1, d2, d3, d4] }
  | _ => none }
def fnOptionalPresentRefusesAsInRangeRow : OpenClaim := { program := "qxb6621616afmt", sum := "7d8b88cdee95ad51e8a947a269ebfab66f040a47ffdcd40096d6c47652906e3c", func := "example.com/pulsewatch/pulsewatch/zzlaws_internal_config_e1.FnOptionalPresentRefusesAsInRange", spec := "fnOptionalPresentRefusesAsInRange", stops := ["fmt.errorf"], inPlace := ["fmt.errorf"], apart := false }
/-- NO THEOREM (fmt's text is open here; it may be false): for the released tool's asking of the row's closed facts alone. THE STATEMENT IS 'FnOptionalPresentRefusesAsInRangeToldSaid' (Qxb6621616aFmtCards.lean). -/
def FnOptionalPresentRefusesAsInRangeFormAsk : Prop := fnOptionalPresentRefusesAsInRangeRow.holds Tryf.pinned (OpenSpec.ofChange fnOptionalPresentRefusesAsInRangeSpec)

/-- ITS FALSE NEIGHBOUR: 'it returns false'. Refute it at one input. -/
def fnOptionalPresentRefusesAsInRangeWrong : ChangeSpec := { name := "fnOptionalPresentRefusesAsInRange", fn := fun _ => fun
  | [d1, d2, d3, d4] => { results := [.lit (.bool false)], args := [d1, d2, d3, d4] }
  | _ => none }
def FnOptionalPresentRefusesAsInRangeWrongFormAsk : Prop := fnOptionalPresentRefusesAsInRangeRow.holds Tryf.pinned (OpenSpec.ofChange fnOptionalPresentRefusesAsInRangeWrong)

/-- 'zzlaws_internal_config_e1.FnOptionalDefaultSpelledOut': WHATEVER THE INPUT: true; the input reads as it did. -/
def fnOptionalDefaultSpelledOutSpec : ChangeSpec := { name := "fnOptionalDefaultSpelledOut", fn := fun _ => fun
  | [d1, d2, d3] => { results := [.lit (.bool true)], args := [d1, d2, d3] }
  | _ => none }
def fnOptionalDefaultSpelledOutRow : OpenClaim := { program := "qxb6621616afmt", sum := "7d8b88cdee95ad51e8a947a269ebfab66f040a47ffdcd40096d6c47652906e3c", func := "example.com/pulsewatch/pulsewatch/zzlaws_internal_config_e1.FnOptionalDefaultSpelledOut", spec := "fnOptionalDefaultSpelledOut", stops := ["fmt.errorf"], inPlace := ["fmt.errorf"], apart := false }
/-- NO THEOREM (fmt's text is open here; it may be false): for the released tool's asking of the row's closed facts alone. THE STATEMENT IS 'FnOptionalDefaultSpelledOutToldSaid' (Qxb6621616aFmtCards.lean). -/
def FnOptionalDefaultSpelledOutFormAsk : Prop := fnOptionalDefaultSpelledOutRow.holds Tryf.pinned (OpenSpec.ofChange fnOptionalDefaultSpelledOutSpec)

/-- ITS FALSE NEIGHBOUR: 'it returns false'. Refute it at one input. -/
def fnOptionalDefaultSpelledOutWrong : ChangeSpec := { name := "fnOptionalDefaultSpelledOut", fn := fun _ => fun
  | [d1, d2, d3] => { results := [.lit (.bool false)], args := [d1, d2, d3] }
  | _ => none }
def FnOptionalDefaultSpelledOutWrongFormAsk : Prop := fnOptionalDefaultSpelledOutRow.holds Tryf.pinned (OpenSpec.ofChange fnOptionalDefaultSpelledOutWrong)

end Rows
end Go.Proofs.Qxb6621616aFmt
