/-
  No cell of these rows narrows 'for every input' (looked for: loops, veiled, ifaces, maps, wideKeys, modest, calm, conditions, laid).
  DERIVED. THE GIVEN ROWS OF THIS SEAT. 1 by the template 'for every input the law returns true; each argument reads behind the call as it read before'; 0 by the template 'total and deterministic' (their statements: Qxb6617401aTotals.lean).
  GIVEN WITH THE SEED: the statements are not yours to turn. If you find one false, say at which input.
  Laid BY PROGRAM, IN A SANDBOX (cutbox-rows.mjs): the forced cells as the released guide's own fill.sh prints them over the translation 6b82c897dede67ef… (all of the seat's roots in one cut). By AI agents, Wed Nov 11 2026. No macro, syntax, notation, axiom, sorry.
-/
import Derived.Test.Qxb6617401aChecked
import GoSem.Claim
import GoSem.ClaimJoined
import GoSem.ClaimMapViews
import Derived.JoinedTies
import Derived.KernelRfl
namespace Go.Proofs.Qxb6617401a
/- THE CELL 'sum', in the pinned program and in every row, IS THE sha256 OF THE DUMP (.gsa) THAT Qxb6617401aProg.lean LOADS. Nothing in Lean hashes anything: it is a label: what it is worth is what the hold of that sum in a sandbox is worth. -/
noncomputable def Try.pinned : Pinned := { name := "qxb6617401a", sum := "6b82c897dede67ef2050d6576189304ebc3100d3977d8b842723701fbab8a010", checked := Try.checked }
namespace Rows
def none {H : Type} : Left H := { results := [], args := [] }

/-- 'zzlaws_internal_member_b1.FnInstallerInFirstMarkAtOrBelowAndSplits': WHATEVER THE INPUT: true; the input reads as it did. -/
def fnInstallerInFirstMarkAtOrBelowAndSplitsSpec : ChangeSpec := { name := "fnInstallerInFirstMarkAtOrBelowAndSplits", fn := fun _ => fun
  | [d1, d2, d3, d4, d5, d6] => { results := [.lit (.bool true)], args := [d1, d2, d3, d4, d5, d6] }
  | _ => none }
def fnInstallerInFirstMarkAtOrBelowAndSplitsRow : OpenClaim := { program := "qxb6617401a", sum := "6b82c897dede67ef2050d6576189304ebc3100d3977d8b842723701fbab8a010", func := "example.com/coterie/coterie/zzlaws_internal_member_b1.FnInstallerInFirstMarkAtOrBelowAndSplits", spec := "fnInstallerInFirstMarkAtOrBelowAndSplits", apart := false }
def FnInstallerInFirstMarkAtOrBelowAndSplitsSaid : Prop := fnInstallerInFirstMarkAtOrBelowAndSplitsRow.holds Try.pinned (OpenSpec.ofChange fnInstallerInFirstMarkAtOrBelowAndSplitsSpec)

/-- ITS FALSE NEIGHBOUR: 'it returns false'. Refute it at one input. -/
def fnInstallerInFirstMarkAtOrBelowAndSplitsWrong : ChangeSpec := { name := "fnInstallerInFirstMarkAtOrBelowAndSplits", fn := fun _ => fun
  | [d1, d2, d3, d4, d5, d6] => { results := [.lit (.bool false)], args := [d1, d2, d3, d4, d5, d6] }
  | _ => none }
def FnInstallerInFirstMarkAtOrBelowAndSplitsWrongFalsely : Prop := fnInstallerInFirstMarkAtOrBelowAndSplitsRow.holds Try.pinned (OpenSpec.ofChange fnInstallerInFirstMarkAtOrBelowAndSplitsWrong)

end Rows
end Go.Proofs.Qxb6617401a
