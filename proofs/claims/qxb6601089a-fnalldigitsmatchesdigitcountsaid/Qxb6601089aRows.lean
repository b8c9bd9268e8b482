/-
  No cell of these rows narrows 'for every input' (looked for: loops, veiled, ifaces, maps, wideKeys, modest, calm, conditions, laid).
  DERIVED. THE GIVEN ROWS OF THIS SEAT. 2 by the template 'for every input the law returns true; each argument reads behind the call as it read before'; 0 by the template 'total and deterministic' (their statements: Qxb6601089aTotals.lean).
  GIVEN WITH THE SEED: the statements are not yours to turn. If you find one false, say at which input.
  Laid BY PROGRAM, IN A SANDBOX (cutbox-rows.mjs): the forced cells as the released guide's own fill.sh prints them over the translation f2f1f0dee4d795dd… (all of the seat's roots in one cut). By AI agents, Wed Nov 11 2026. No macro, syntax, notation, axiom, sorry.
-/
import Derived.Test.Qxb6601089aChecked
import GoSem.Claim
import GoSem.ClaimJoined
import GoSem.ClaimMapViews
import Derived.JoinedTies
import Derived.KernelRfl
namespace Go.Proofs.Qxb6601089a
/- THE CELL 'sum', in the pinned program and in every row, IS THE sha256 OF THE DUMP (.gsa) THAT Qxb6601089aProg.lean LOADS. Nothing in Lean hashes anything: it is a label: what it is worth is what the hold of that sum in a sandbox is worth. -/
noncomputable def Try.pinned : Pinned := { name := "qxb6601089a", sum := "f2f1f0dee4d795ddf657da80fe4cf073f273c19e10f1616ece37300d6bbd68b3", checked := Try.checked }
namespace Rows
def none {H : Type} : Left H := { results := [], args := [] }

/-- 'zzlaws_internal_ofd_b1.FnAllDigitsMatchesDigitCount': WHATEVER THE INPUT: true; the input reads as it did. -/
def fnAllDigitsMatchesDigitCountSpec : ChangeSpec := { name := "fnAllDigitsMatchesDigitCount", fn := fun _ => fun
  | [d] => { results := [.lit (.bool true)], args := [d] }
  | _ => none }
def fnAllDigitsMatchesDigitCountRow : OpenClaim := { program := "qxb6601089a", sum := "f2f1f0dee4d795ddf657da80fe4cf073f273c19e10f1616ece37300d6bbd68b3", func := "example.com/zhaomu/zhaomu/zzlaws_internal_ofd_b1.FnAllDigitsMatchesDigitCount", spec := "fnAllDigitsMatchesDigitCount", apart := false }
def FnAllDigitsMatchesDigitCountSaid : Prop := fnAllDigitsMatchesDigitCountRow.holds Try.pinned (OpenSpec.ofChange fnAllDigitsMatchesDigitCountSpec)

/-- ITS FALSE NEIGHBOUR: 'it returns false'. Refute it at one input. -/
def fnAllDigitsMatchesDigitCountWrong : ChangeSpec := { name := "fnAllDigitsMatchesDigitCount", fn := fun _ => fun
  | [d] => { results := [.lit (.bool false)], args := [d] }
  | _ => none }
def FnAllDigitsMatchesDigitCountWrongFalsely : Prop := fnAllDigitsMatchesDigitCountRow.holds Try.pinned (OpenSpec.ofChange fnAllDigitsMatchesDigitCountWrong)

/-- 'zzlaws_internal_ofd_b1.FnAllDigitsOfConcatenation': WHATEVER THE INPUT: true; the input reads as it did. -/
def fnAllDigitsOfConcatenationSpec : ChangeSpec := { name := "fnAllDigitsOfConcatenation", fn := fun _ => fun
  | [d1, d2] => { results := [.lit (.bool true)], args := [d1, d2] }
  | _ => none }
def fnAllDigitsOfConcatenationRow : OpenClaim := { program := "qxb6601089a", sum := "f2f1f0dee4d795ddf657da80fe4cf073f273c19e10f1616ece37300d6bbd68b3", func := "example.com/zhaomu/zhaomu/zzlaws_internal_ofd_b1.FnAllDigitsOfConcatenation", spec := "fnAllDigitsOfConcatenation", apart := false }
def FnAllDigitsOfConcatenationSaid : Prop := fnAllDigitsOfConcatenationRow.holds Try.pinned (OpenSpec.ofChange fnAllDigitsOfConcatenationSpec)

/-- ITS FALSE NEIGHBOUR: 'it returns false'. Refute it at one input. -/
def fnAllDigitsOfConcatenationWrong : ChangeSpec := { name := "fnAllDigitsOfConcatenation", fn := fun _ => fun
  | [d1, d2] => { results := [.lit (.bool false)], args := [d1, d2] }
  | _ => none }
def FnAllDigitsOfConcatenationWrongFalsely : Prop := fnAllDigitsOfConcatenationRow.holds Try.pinned (OpenSpec.ofChange fnAllDigitsOfConcatenationWrong)

end Rows
end Go.Proofs.Qxb6601089a
