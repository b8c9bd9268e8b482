/-
  No cell of these rows narrows 'for every input' (looked for: loops, veiled, ifaces, maps, wideKeys, modest, calm, conditions, laid).
  DERIVED. THE GIVEN ROWS OF THIS SEAT. 2 by the template 'for every input the law returns true; each argument reads behind the call as it read before'; 0 by the template 'total and deterministic' (their statements: Qxb6003608aTotals.lean).
  GIVEN WITH THE SEED: the statements are not yours to turn. If you find one false, say at which input.
  Laid BY PROGRAM, IN A SANDBOX (cutbox-rows.mjs): the forced cells as the released guide's own fill.sh prints them over the translation 9acd04b659895cac… (all of the seat's roots in one cut). By AI agents, Wed Nov 11 2026. No macro, syntax, notation, axiom, sorry.
-/
import Derived.Test.Qxb6003608aChecked
import GoSem.Claim
import GoSem.ClaimJoined
import GoSem.ClaimMapViews
import Derived.JoinedTies
import Derived.KernelRfl
namespace Go.Proofs.Qxb6003608a
/- THE CELL 'sum', in the pinned program and in every row, IS THE sha256 OF THE DUMP (.gsa) THAT Qxb6003608aProg.lean LOADS. Nothing in Lean hashes anything: it is a label: what it is worth is what the hold of that sum in a sandbox is worth. -/
noncomputable def Try.pinned : Pinned := { name := "qxb6003608a", sum := "9acd04b659895cace0790d713bf99ccd64a6f8f3a3f8d72ee6f6933dc86c5291", checked := Try.checked }
namespace Rows
def none {H : Type} : Left H := { results := [], args := [] }

/-- 'zzlaws_internal_output_b1.FnLenAddsOverAnyCutAndIsSpanMinusGaps': WHATEVER THE INPUT: true; the input reads as it did. -/
def fnLenAddsOverAnyCutAndIsSpanMinusGapsSpec : ChangeSpec := { name := "fnLenAddsOverAnyCutAndIsSpanMinusGaps", fn := fun _ => fun
  | [d1, d2, d3] => { results := [.lit (.bool true)], args := [d1, d2, d3] }
  | _ => none }
def fnLenAddsOverAnyCutAndIsSpanMinusGapsRow : OpenClaim := { program := "qxb6003608a", sum := "9acd04b659895cace0790d713bf99ccd64a6f8f3a3f8d72ee6f6933dc86c5291", func := "example.com/wardkeep/wardkeep/zzlaws_internal_output_b1.FnLenAddsOverAnyCutAndIsSpanMinusGaps", spec := "fnLenAddsOverAnyCutAndIsSpanMinusGaps", apart := false }
def FnLenAddsOverAnyCutAndIsSpanMinusGapsSaid : Prop := fnLenAddsOverAnyCutAndIsSpanMinusGapsRow.holds Try.pinned (OpenSpec.ofChange fnLenAddsOverAnyCutAndIsSpanMinusGapsSpec)

/-- ITS FALSE NEIGHBOUR: 'it returns false'. Refute it at one input. -/
def fnLenAddsOverAnyCutAndIsSpanMinusGapsWrong : ChangeSpec := { name := "fnLenAddsOverAnyCutAndIsSpanMinusGaps", fn := fun _ => fun
  | [d1, d2, d3] => { results := [.lit (.bool false)], args := [d1, d2, d3] }
  | _ => none }
def FnLenAddsOverAnyCutAndIsSpanMinusGapsWrongFalsely : Prop := fnLenAddsOverAnyCutAndIsSpanMinusGapsRow.holds Try.pinned (OpenSpec.ofChange fnLenAddsOverAnyCutAndIsSpanMinusGapsWrong)

/-- 'zzlaws_internal_output_b1.FnLenUnchangedBySplittingARun': WHATEVER THE INPUT: true; the input reads as it did. -/
def fnLenUnchangedBySplittingARunSpec : ChangeSpec := { name := "fnLenUnchangedBySplittingARun", fn := fun _ => fun
  | [d1, d2, d3, d4] => { results := [.lit (.bool true)], args := [d1, d2, d3, d4] }
  | _ => none }
def fnLenUnchangedBySplittingARunRow : OpenClaim := { program := "qxb6003608a", sum := "9acd04b659895cace0790d713bf99ccd64a6f8f3a3f8d72ee6f6933dc86c5291", func := "example.com/wardkeep/wardkeep/zzlaws_internal_output_b1.FnLenUnchangedBySplittingARun", spec := "fnLenUnchangedBySplittingARun", apart := false }
def FnLenUnchangedBySplittingARunSaid : Prop := fnLenUnchangedBySplittingARunRow.holds Try.pinned (OpenSpec.ofChange fnLenUnchangedBySplittingARunSpec)

/-- ITS FALSE NEIGHBOUR: 'it returns false'. Refute it at one input. -/
def fnLenUnchangedBySplittingARunWrong : ChangeSpec := { name := "fnLenUnchangedBySplittingARun", fn := fun _ => fun
  | [d1, d2, d3, d4] => { results := [.lit (.bool false)], args := [d1, d2, d3, d4] }
  | _ => none }
def FnLenUnchangedBySplittingARunWrongFalsely : Prop := fnLenUnchangedBySplittingARunRow.holds Try.pinned (OpenSpec.ofChange fnLenUnchangedBySplittingARunWrong)

end Rows
end Go.Proofs.Qxb6003608a
