/-
  No cell of these rows narrows 'for every input' (looked for: loops, veiled, ifaces, maps, wideKeys, modest, calm, conditions, laid).
  DERIVED. THE GIVEN ROWS OF THIS SEAT. 5 by the template 'for every input the law returns true; each argument reads behind the call as it read before'; 0 by the template 'total and deterministic' (their statements: Qxb6605480aTotals.lean).
  GIVEN WITH THE SEED: the statements are not yours to turn. If you find one false, say at which input.
  Laid BY PROGRAM, IN A SANDBOX (cutbox-rows.mjs): the forced cells as the released guide's own fill.sh prints them over the translation 7a87dbc56d5a1fc5… (all of the seat's roots in one cut). By AI agents, Wed Nov 11 2026. No macro, syntax, notation, axiom, sorry.
-/
import Derived.Test.Qxb6605480aChecked
import GoSem.Claim
import GoSem.ClaimJoined
import GoSem.ClaimMapViews
import Derived.JoinedTies
import Derived.KernelRfl
namespace Go.Proofs.Qxb6605480a
/- THE CELL 'sum', in the pinned program and in every row, IS THE sha256 OF THE DUMP (.gsa) THAT Qxb6605480aProg.lean LOADS. Nothing in Lean hashes anything: it is a label: what it is worth is what the hold of that sum in a sandbox is worth. -/
noncomputable def Try.pinned : Pinned := { name := "qxb6605480a", sum := "7a87dbc56d5a1fc5adb86af71495e9cc0dad06d6e73d597fa10c91d6c79ec603", checked := Try.checked }
namespace Rows
def none {H : Type} : Left H := { results := [], args := [] }

/-- 'zzlaws_root_b1.FnNameSetAddAnswersSeenBefore': WHATEVER THE INPUT: true; the input reads as it did. -/
def fnNameSetAddAnswersSeenBeforeSpec : ChangeSpec := { name := "fnNameSetAddAnswersSeenBefore", fn := fun _ => fun
  | [d] => { results := [.lit (.bool true)], args := [d] }
  | _ => none }
def fnNameSetAddAnswersSeenBeforeRow : OpenClaim := { program := "qxb6605480a", sum := "7a87dbc56d5a1fc5adb86af71495e9cc0dad06d6e73d597fa10c91d6c79ec603", func := "example.com/voucher/voucher/zzlaws_root_b1.FnNameSetAddAnswersSeenBefore", spec := "fnNameSetAddAnswersSeenBefore", apart := false }
def FnNameSetAddAnswersSeenBeforeSaid : Prop := fnNameSetAddAnswersSeenBeforeRow.holds Try.pinned (OpenSpec.ofChange fnNameSetAddAnswersSeenBeforeSpec)

/-- ITS FALSE NEIGHBOUR: 'it returns false'. Refute it at one input. -/
def fnNameSetAddAnswersSeenBeforeWrong : ChangeSpec := { name := "fnNameSetAddAnswersSeenBefore", fn := fun _ => fun
  | [d] => { results := [.lit (.bool false)], args := [d] }
  | _ => none }
def FnNameSetAddAnswersSeenBeforeWrongFalsely : Prop := fnNameSetAddAnswersSeenBeforeRow.holds Try.pinned (OpenSpec.ofChange fnNameSetAddAnswersSeenBeforeWrong)

/-- 'zzlaws_root_b1.FnNameSetRemembersEveryName': WHATEVER THE INPUT: true; the input reads as it did. -/
def fnNameSetRemembersEveryNameSpec : ChangeSpec := { name := "fnNameSetRemembersEveryName", fn := fun _ => fun
  | [d1, d2] => { results := [.lit (.bool true)], args := [d1, d2] }
  | _ => none }
def fnNameSetRemembersEveryNameRow : OpenClaim := { program := "qxb6605480a", sum := "7a87dbc56d5a1fc5adb86af71495e9cc0dad06d6e73d597fa10c91d6c79ec603", func := "example.com/voucher/voucher/zzlaws_root_b1.FnNameSetRemembersEveryName", spec := "fnNameSetRemembersEveryName", apart := false }
def FnNameSetRemembersEveryNameSaid : Prop := fnNameSetRemembersEveryNameRow.holds Try.pinned (OpenSpec.ofChange fnNameSetRemembersEveryNameSpec)

/-- ITS FALSE NEIGHBOUR: 'it returns false'. Refute it at one input. -/
def fnNameSetRemembersEveryNameWrong : ChangeSpec := { name := "fnNameSetRemembersEveryName", fn := fun _ => fun
  | [d1, d2] => { results := [.lit (.bool false)], args := [d1, d2] }
  | _ => none }
def FnNameSetRemembersEveryNameWrongFalsely : Prop := fnNameSetRemembersEveryNameRow.holds Try.pinned (OpenSpec.ofChange fnNameSetRemembersEveryNameWrong)

/-- 'zzlaws_root_b1.FnJSONReaderSpaceStopsAtFirstNonSpace': WHATEVER THE INPUT: true; the input reads as it did. -/
def fnJSONReaderSpaceStopsAtFirstNonSpaceSpec : ChangeSpec := { name := "fnJSONReaderSpaceStopsAtFirstNonSpace", fn := fun _ => fun
  | [d1, d2, d3] => { results := [.lit (.bool true)], args := [d1, d2, d3] }
  | _ => none }
def fnJSONReaderSpaceStopsAtFirstNonSpaceRow : OpenClaim := { program := "qxb6605480a", sum := "7a87dbc56d5a1fc5adb86af71495e9cc0dad06d6e73d597fa10c91d6c79ec603", func := "example.com/voucher/voucher/zzlaws_root_b1.FnJSONReaderSpaceStopsAtFirstNonSpace", spec := "fnJSONReaderSpaceStopsAtFirstNonSpace", apart := false }
def FnJSONReaderSpaceStopsAtFirstNonSpaceSaid : Prop := fnJSONReaderSpaceStopsAtFirstNonSpaceRow.holds Try.pinned (OpenSpec.ofChange fnJSONReaderSpaceStopsAtFirstNonSpaceSpec)

/-- ITS FALSE NEIGHBOUR: 'it returns false'. Refute it at one input. -/
def fnJSONReaderSpaceStopsAtFirstNonSpaceWrong : ChangeSpec := { name := "fnJSONReaderSpaceStopsAtFirstNonSpace", fn := fun _ => fun
  | [d1, d2, d3] => { results := [.lit (.bool false)], args := [d1, d2, d3] }
  | _ => none }
def FnJSONReaderSpaceStopsAtFirstNonSpaceWrongFalsely : Prop := fnJSONReaderSpaceStopsAtFirstNonSpaceRow.holds Try.pinned (OpenSpec.ofChange fnJSONReaderSpaceStopsAtFirstNonSpaceWrong)

/-- 'zzlaws_root_b1.FnJSONReaderSpaceAgreesWithSkip': WHATEVER THE INPUT: true; the input reads as it did. -/
def fnJSONReaderSpaceAgreesWithSkipSpec : ChangeSpec := { name := "fnJSONReaderSpaceAgreesWithSkip", fn := fun _ => fun
  | [d1, d2, d3] => { results := [.lit (.bool true)], args := [d1, d2, d3] }
  | _ => none }
def fnJSONReaderSpaceAgreesWithSkipRow : OpenClaim := { program := "qxb6605480a", sum := "7a87dbc56d5a1fc5adb86af71495e9cc0dad06d6e73d597fa10c91d6c79ec603", func := "example.com/voucher/voucher/zzlaws_root_b1.FnJSONReaderSpaceAgreesWithSkip", spec := "fnJSONReaderSpaceAgreesWithSkip", apart := false }
def FnJSONReaderSpaceAgreesWithSkipSaid : Prop := fnJSONReaderSpaceAgreesWithSkipRow.holds Try.pinned (OpenSpec.ofChange fnJSONReaderSpaceAgreesWithSkipSpec)

/-- ITS FALSE NEIGHBOUR: 'it returns false'. Refute it at one input. -/
def fnJSONReaderSpaceAgreesWithSkipWrong : ChangeSpec := { name := "fnJSONReaderSpaceAgreesWithSkip", fn := fun _ => fun
  | [d1, d2, d3] => { results := [.lit (.bool false)], args := [d1, d2, d3] }
  | _ => none }
def FnJSONReaderSpaceAgreesWithSkipWrongFalsely : Prop := fnJSONReaderSpaceAgreesWithSkipRow.holds Try.pinned (OpenSpec.ofChange fnJSONReaderSpaceAgreesWithSkipWrong)

/-- 'zzlaws_root_b1.FnJSONReaderSkipReadsCommonPrefix': WHATEVER THE INPUT: true; the input reads as it did. -/
def fnJSONReaderSkipReadsCommonPrefixSpec : ChangeSpec := { name := "fnJSONReaderSkipReadsCommonPrefix", fn := fun _ => fun
  | [d1, d2, d3, d4] => { results := [.lit (.bool true)], args := [d1, d2, d3, d4] }
  | _ => none }
def fnJSONReaderSkipReadsCommonPrefixRow : OpenClaim := { program := "qxb6605480a", sum := "7a87dbc56d5a1fc5adb86af71495e9cc0dad06d6e73d597fa10c91d6c79ec603", func := "example.com/voucher/voucher/zzlaws_root_b1.FnJSONReaderSkipReadsCommonPrefix", spec := "fnJSONReaderSkipReadsCommonPrefix", apart := false }
def FnJSONReaderSkipReadsCommonPrefixSaid : Prop := fnJSONReaderSkipReadsCommonPrefixRow.holds Try.pinned (OpenSpec.ofChange fnJSONReaderSkipReadsCommonPrefixSpec)

/-- ITS FALSE NEIGHBOUR: 'it returns false'. Refute it at one input. -/
def fnJSONReaderSkipReadsCommonPrefixWrong : ChangeSpec := { name := "fnJSONReaderSkipReadsCommonPrefix", fn := fun _ => fun
  | [d1, d2, d3, d4] => { results := [.lit (.bool false)], args := [d1, d2, d3, d4] }
  | _ => none }
def FnJSONReaderSkipReadsCommonPrefixWrongFalsely : Prop := fnJSONReaderSkipReadsCommonPrefixRow.holds Try.pinned (OpenSpec.ofChange fnJSONReaderSkipReadsCommonPrefixWrong)

end Rows
end Go.Proofs.Qxb6605480a
