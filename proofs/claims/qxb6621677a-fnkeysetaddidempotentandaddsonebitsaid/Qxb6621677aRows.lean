/-
  No cell of these rows narrows 'for every input' (looked for: loops, veiled, ifaces, maps, wideKeys, modest, calm, conditions, laid).
  DERIVED. THE GIVEN ROWS OF THIS SEAT. 3 by the template 'for every input the law returns true; each argument reads behind the call as it read before'; 0 by the template 'total and deterministic' (their statements: Qxb6621677aTotals.lean).
  GIVEN WITH THE SEED: the statements are not yours to turn. If you find one false, say at which input.
  Laid BY PROGRAM, IN A SANDBOX (cutbox-rows.mjs): the forced cells as the released guide's own fill.sh prints them over the translation 0422cec187dc5af9… (all of the seat's roots in one cut). By AI agents, Wed Nov 11 2026. No macro, syntax, notation, axiom, sorry.
-/
import Derived.Test.Qxb6621677aChecked
import GoSem.Claim
import GoSem.ClaimJoined
import GoSem.ClaimMapViews
import Derived.JoinedTies
import Derived.KernelRfl
namespace Go.Proofs.Qxb6621677a
/- THE CELL 'sum', in the pinned program and in every row, IS THE sha256 OF THE DUMP (.gsa) THAT Qxb6621677aProg.lean LOADS. Nothing in Lean hashes anything: it is a label: what it is worth is what the hold of that sum in a sandbox is worth. -/
noncomputable def Try.pinned : Pinned := { name := "qxb6621677a", sum := "0422cec187dc5af9c74187f405a6d2f1e642caa081ad24a8561d322469c6dce8", checked := Try.checked }
namespace Rows
def none {H : Type} : Left H := { results := [], args := [] }

/-- 'zzlaws_root_b1.FnJoinInFoldsToNonEmptyJoin': WHATEVER THE INPUT: true; the input reads as it did. -/
def fnJoinInFoldsToNonEmptyJoinSpec : ChangeSpec := { name := "fnJoinInFoldsToNonEmptyJoin", fn := fun _ => fun
  | [d1, d2, d3] => { results := [.lit (.bool true)], args := [d1, d2, d3] }
  | _ => none }
def fnJoinInFoldsToNonEmptyJoinRow : OpenClaim := { program := "qxb6621677a", sum := "0422cec187dc5af9c74187f405a6d2f1e642caa081ad24a8561d322469c6dce8", func := "example.com/vestline/vestline/zzlaws_root_b1.FnJoinInFoldsToNonEmptyJoin", spec := "fnJoinInFoldsToNonEmptyJoin", apart := false }
def FnJoinInFoldsToNonEmptyJoinSaid : Prop := fnJoinInFoldsToNonEmptyJoinRow.holds Try.pinned (OpenSpec.ofChange fnJoinInFoldsToNonEmptyJoinSpec)

/-- ITS FALSE NEIGHBOUR: 'it returns false'. Refute it at one input. -/
def fnJoinInFoldsToNonEmptyJoinWrong : ChangeSpec := { name := "fnJoinInFoldsToNonEmptyJoin", fn := fun _ => fun
  | [d1, d2, d3] => { results := [.lit (.bool false)], args := [d1, d2, d3] }
  | _ => none }
def FnJoinInFoldsToNonEmptyJoinWrongFalsely : Prop := fnJoinInFoldsToNonEmptyJoinRow.holds Try.pinned (OpenSpec.ofChange fnJoinInFoldsToNonEmptyJoinWrong)

/-- 'zzlaws_root_b1.FnKeySetAddCommutesAndHoldsExactlyTheAdded': WHATEVER THE INPUT: true; the input reads as it did. -/
def fnKeySetAddCommutesAndHoldsExactlyTheAddedSpec : ChangeSpec := { name := "fnKeySetAddCommutesAndHoldsExactlyTheAdded", fn := fun _ => fun
  | [d1, d2, d3, d4] => { results := [.lit (.bool true)], args := [d1, d2, d3, d4] }
  | _ => none }
def fnKeySetAddCommutesAndHoldsExactlyTheAddedRow : OpenClaim := { program := "qxb6621677a", sum := "0422cec187dc5af9c74187f405a6d2f1e642caa081ad24a8561d322469c6dce8", func := "example.com/vestline/vestline/zzlaws_root_b1.FnKeySetAddCommutesAndHoldsExactlyTheAdded", spec := "fnKeySetAddCommutesAndHoldsExactlyTheAdded", apart := false }
def FnKeySetAddCommutesAndHoldsExactlyTheAddedSaid : Prop := fnKeySetAddCommutesAndHoldsExactlyTheAddedRow.holds Try.pinned (OpenSpec.ofChange fnKeySetAddCommutesAndHoldsExactlyTheAddedSpec)

/-- ITS FALSE NEIGHBOUR: 'it returns false'. Refute it at one input. -/
def fnKeySetAddCommutesAndHoldsExactlyTheAddedWrong : ChangeSpec := { name := "fnKeySetAddCommutesAndHoldsExactlyTheAdded", fn := fun _ => fun
  | [d1, d2, d3, d4] => { results := [.lit (.bool false)], args := [d1, d2, d3, d4] }
  | _ => none }
def FnKeySetAddCommutesAndHoldsExactlyTheAddedWrongFalsely : Prop := fnKeySetAddCommutesAndHoldsExactlyTheAddedRow.holds Try.pinned (OpenSpec.ofChange fnKeySetAddCommutesAndHoldsExactlyTheAddedWrong)

/-- 'zzlaws_root_b1.FnKeySetAddIdempotentAndAddsOneBit': WHATEVER THE INPUT: true; the input reads as it did. -/
def fnKeySetAddIdempotentAndAddsOneBitSpec : ChangeSpec := { name := "fnKeySetAddIdempotentAndAddsOneBit", fn := fun _ => fun
  | [d1, d2, d3] => { results := [.lit (.bool true)], args := [d1, d2, d3] }
  | _ => none }
def fnKeySetAddIdempotentAndAddsOneBitRow : OpenClaim := { program := "qxb6621677a", sum := "0422cec187dc5af9c74187f405a6d2f1e642caa081ad24a8561d322469c6dce8", func := "example.com/vestline/vestline/zzlaws_root_b1.FnKeySetAddIdempotentAndAddsOneBit", spec := "fnKeySetAddIdempotentAndAddsOneBit", apart := false }
def FnKeySetAddIdempotentAndAddsOneBitSaid : Prop := fnKeySetAddIdempotentAndAddsOneBitRow.holds Try.pinned (OpenSpec.ofChange fnKeySetAddIdempotentAndAddsOneBitSpec)

/-- ITS FALSE NEIGHBOUR: 'it returns false'. Refute it at one input. -/
def fnKeySetAddIdempotentAndAddsOneBitWrong : ChangeSpec := { name := "fnKeySetAddIdempotentAndAddsOneBit", fn := fun _ => fun
  | [d1, d2, d3] => { results := [.lit (.bool false)], args := [d1, d2, d3] }
  | _ => none }
def FnKeySetAddIdempotentAndAddsOneBitWrongFalsely : Prop := fnKeySetAddIdempotentAndAddsOneBitRow.holds Try.pinned (OpenSpec.ofChange fnKeySetAddIdempotentAndAddsOneBitWrong)

end Rows
end Go.Proofs.Qxb6621677a
