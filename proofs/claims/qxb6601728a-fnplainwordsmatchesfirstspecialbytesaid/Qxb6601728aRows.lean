/-
  No cell of these rows narrows 'for every input' (looked for: loops, veiled, ifaces, maps, wideKeys, modest, calm, conditions, laid).
  DERIVED. THE GIVEN ROWS OF THIS SEAT. 9 by the template 'for every input the law returns true; each argument reads behind the call as it read before'; 0 by the template 'total and deterministic' (their statements: Qxb6601728aTotals.lean).
  GIVEN WITH THE SEED: the statements are not yours to turn. If you find one false, say at which input.
  Laid BY PROGRAM, IN A SANDBOX (cutbox-rows.mjs): the forced cells as the released guide's own fill.sh prints them over the translation 292594b85fe75e4d… (all of the seat's roots in one cut). By AI agents, Wed Nov 11 2026. No macro, syntax, notation, axiom, sorry.
-/
import Derived.Test.Qxb6601728aChecked
import GoSem.Claim
import GoSem.ClaimJoined
import GoSem.ClaimMapViews
import Derived.JoinedTies
import Derived.KernelRfl
namespace Go.Proofs.Qxb6601728a
/- THE CELL 'sum', in the pinned program and in every row, IS THE sha256 OF THE DUMP (.gsa) THAT Qxb6601728aProg.lean LOADS. Nothing in Lean hashes anything: it is a label: what it is worth is what the hold of that sum in a sandbox is worth. -/
noncomputable def Try.pinned : Pinned := { name := "qxb6601728a", sum := "292594b85fe75e4d298fe39c420b77f837e9f9360160460771cc4b9d8dc0c0fe", checked := Try.checked }
namespace Rows
def none {H : Type} : Left H := { results := [], args := [] }

/-- 'zzlaws_pkg_jsonscan_b1.FnHex4MatchesDigitModel': WHATEVER THE INPUT: true; the input reads as it did. -/
def fnHex4MatchesDigitModelSpec : ChangeSpec := { name := "fnHex4MatchesDigitModel", fn := fun _ => fun
  | [d1, d2, d3, d4] => { results := [.lit (.bool true)], args := [d1, d2, d3, d4] }
  | _ => none }
def fnHex4MatchesDigitModelRow : OpenClaim := { program := "qxb6601728a", sum := "292594b85fe75e4d298fe39c420b77f837e9f9360160460771cc4b9d8dc0c0fe", func := "example.com/authnd/authnd/zzlaws_pkg_jsonscan_b1.FnHex4MatchesDigitModel", spec := "fnHex4MatchesDigitModel", apart := false }
def FnHex4MatchesDigitModelSaid : Prop := fnHex4MatchesDigitModelRow.holds Try.pinned (OpenSpec.ofChange fnHex4MatchesDigitModelSpec)

/-- ITS FALSE NEIGHBOUR: 'it returns false'. Refute it at one input. -/
def fnHex4MatchesDigitModelWrong : ChangeSpec := { name := "fnHex4MatchesDigitModel", fn := fun _ => fun
  | [d1, d2, d3, d4] => { results := [.lit (.bool false)], args := [d1, d2, d3, d4] }
  | _ => none }
def FnHex4MatchesDigitModelWrongFalsely : Prop := fnHex4MatchesDigitModelRow.holds Try.pinned (OpenSpec.ofChange fnHex4MatchesDigitModelWrong)

/-- 'zzlaws_pkg_jsonscan_b1.FnHex4RoundTripsFourHexDigits': WHATEVER THE INPUT: true; the input reads as it did. -/
def fnHex4RoundTripsFourHexDigitsSpec : ChangeSpec := { name := "fnHex4RoundTripsFourHexDigits", fn := fun _ => fun
  | [d1, d2, d3, d4, d5, d6] => { results := [.lit (.bool true)], args := [d1, d2, d3, d4, d5, d6] }
  | _ => none }
def fnHex4RoundTripsFourHexDigitsRow : OpenClaim := { program := "qxb6601728a", sum := "292594b85fe75e4d298fe39c420b77f837e9f9360160460771cc4b9d8dc0c0fe", func := "example.com/authnd/authnd/zzlaws_pkg_jsonscan_b1.FnHex4RoundTripsFourHexDigits", spec := "fnHex4RoundTripsFourHexDigits", apart := false }
def FnHex4RoundTripsFourHexDigitsSaid : Prop := fnHex4RoundTripsFourHexDigitsRow.holds Try.pinned (OpenSpec.ofChange fnHex4RoundTripsFourHexDigitsSpec)

/-- ITS FALSE NEIGHBOUR: 'it returns false'. Refute it at one input. -/
def fnHex4RoundTripsFourHexDigitsWrong : ChangeSpec := { name := "fnHex4RoundTripsFourHexDigits", fn := fun _ => fun
  | [d1, d2, d3, d4, d5, d6] => { results := [.lit (.bool false)], args := [d1, d2, d3, d4, d5, d6] }
  | _ => none }
def FnHex4RoundTripsFourHexDigitsWrongFalsely : Prop := fnHex4RoundTripsFourHexDigitsRow.holds Try.pinned (OpenSpec.ofChange fnHex4RoundTripsFourHexDigitsWrong)

/-- 'zzlaws_pkg_jsonscan_b1.FnHex4ReadsOnlyItsSixBytes': WHATEVER THE INPUT: true; the input reads as it did. -/
def fnHex4ReadsOnlyItsSixBytesSpec : ChangeSpec := { name := "fnHex4ReadsOnlyItsSixBytes", fn := fun _ => fun
  | [d1, d2, d3, d4, d5, d6] => { results := [.lit (.bool true)], args := [d1, d2, d3, d4, d5, d6] }
  | _ => none }
def fnHex4ReadsOnlyItsSixBytesRow : OpenClaim := { program := "qxb6601728a", sum := "292594b85fe75e4d298fe39c420b77f837e9f9360160460771cc4b9d8dc0c0fe", func := "example.com/authnd/authnd/zzlaws_pkg_jsonscan_b1.FnHex4ReadsOnlyItsSixBytes", spec := "fnHex4ReadsOnlyItsSixBytes", apart := false }
def FnHex4ReadsOnlyItsSixBytesSaid : Prop := fnHex4ReadsOnlyItsSixBytesRow.holds Try.pinned (OpenSpec.ofChange fnHex4ReadsOnlyItsSixBytesSpec)

/-- ITS FALSE NEIGHBOUR: 'it returns false'. Refute it at one input. -/
def fnHex4ReadsOnlyItsSixBytesWrong : ChangeSpec := { name := "fnHex4ReadsOnlyItsSixBytes", fn := fun _ => fun
  | [d1, d2, d3, d4, d5, d6] => { results := [.lit (.bool false)], args := [d1, d2, d3, d4, d5, d6] }
  | _ => none }
def FnHex4ReadsOnlyItsSixBytesWrongFalsely : Prop := fnHex4ReadsOnlyItsSixBytesRow.holds Try.pinned (OpenSpec.ofChange fnHex4ReadsOnlyItsSixBytesWrong)

/-- 'zzlaws_pkg_jsonscan_b1.FnPlainWordsMatchesFirstSpecialByte': WHATEVER THE INPUT: true; the input reads as it did. -/
def fnPlainWordsMatchesFirstSpecialByteSpec : ChangeSpec := { name := "fnPlainWordsMatchesFirstSpecialByte", fn := fun _ => fun
  | [d1, d2, d3] => { results := [.lit (.bool true)], args := [d1, d2, d3] }
  | _ => none }
def fnPlainWordsMatchesFirstSpecialByteRow : OpenClaim := { program := "qxb6601728a", sum := "292594b85fe75e4d298fe39c420b77f837e9f9360160460771cc4b9d8dc0c0fe", func := "example.com/authnd/authnd/zzlaws_pkg_jsonscan_b1.FnPlainWordsMatchesFirstSpecialByte", spec := "fnPlainWordsMatchesFirstSpecialByte", apart := false }
def FnPlainWordsMatchesFirstSpecialByteSaid : Prop := fnPlainWordsMatchesFirstSpecialByteRow.holds Try.pinned (OpenSpec.ofChange fnPlainWordsMatchesFirstSpecialByteSpec)

/-- ITS FALSE NEIGHBOUR: 'it returns false'. Refute it at one input. -/
def fnPlainWordsMatchesFirstSpecialByteWrong : ChangeSpec := { name := "fnPlainWordsMatchesFirstSpecialByte", fn := fun _ => fun
  | [d1, d2, d3] => { results := [.lit (.bool false)], args := [d1, d2, d3] }
  | _ => none }
def FnPlainWordsMatchesFirstSpecialByteWrongFalsely : Prop := fnPlainWordsMatchesFirstSpecialByteRow.holds Try.pinned (OpenSpec.ofChange fnPlainWordsMatchesFirstSpecialByteWrong)

/-- 'zzlaws_pkg_jsonscan_b1.FnPlainWordsIdempotent': WHATEVER THE INPUT: true; the input reads as it did. -/
def fnPlainWordsIdempotentSpec : ChangeSpec := { name := "fnPlainWordsIdempotent", fn := fun _ => fun
  | [d1, d2, d3] => { results := [.lit (.bool true)], args := [d1, d2, d3] }
  | _ => none }
def fnPlainWordsIdempotentRow : OpenClaim := { program := "qxb6601728a", sum := "292594b85fe75e4d298fe39c420b77f837e9f9360160460771cc4b9d8dc0c0fe", func := "example.com/authnd/authnd/zzlaws_pkg_jsonscan_b1.FnPlainWordsIdempotent", spec := "fnPlainWordsIdempotent", apart := false }
def FnPlainWordsIdempotentSaid : Prop := fnPlainWordsIdempotentRow.holds Try.pinned (OpenSpec.ofChange fnPlainWordsIdempotentSpec)

/-- ITS FALSE NEIGHBOUR: 'it returns false'. Refute it at one input. -/
def fnPlainWordsIdempotentWrong : ChangeSpec := { name := "fnPlainWordsIdempotent", fn := fun _ => fun
  | [d1, d2, d3] => { results := [.lit (.bool false)], args := [d1, d2, d3] }
  | _ => none }
def FnPlainWordsIdempotentWrongFalsely : Prop := fnPlainWordsIdempotentRow.holds Try.pinned (OpenSpec.ofChange fnPlainWordsIdempotentWrong)

/-- 'zzlaws_pkg_jsonscan_b1.FnPlainWordsMonotoneUnderAppend': WHATEVER THE INPUT: true; the input reads as it did. -/
def fnPlainWordsMonotoneUnderAppendSpec : ChangeSpec := { name := "fnPlainWordsMonotoneUnderAppend", fn := fun _ => fun
  | [d1, d2, d3, d4] => { results := [.lit (.bool true)], args := [d1, d2, d3, d4] }
  | _ => none }
def fnPlainWordsMonotoneUnderAppendRow : OpenClaim := { program := "qxb6601728a", sum := "292594b85fe75e4d298fe39c420b77f837e9f9360160460771cc4b9d8dc0c0fe", func := "example.com/authnd/authnd/zzlaws_pkg_jsonscan_b1.FnPlainWordsMonotoneUnderAppend", spec := "fnPlainWordsMonotoneUnderAppend", apart := false }
def FnPlainWordsMonotoneUnderAppendSaid : Prop := fnPlainWordsMonotoneUnderAppendRow.holds Try.pinned (OpenSpec.ofChange fnPlainWordsMonotoneUnderAppendSpec)

/-- ITS FALSE NEIGHBOUR: 'it returns false'. Refute it at one input. -/
def fnPlainWordsMonotoneUnderAppendWrong : ChangeSpec := { name := "fnPlainWordsMonotoneUnderAppend", fn := fun _ => fun
  | [d1, d2, d3, d4] => { results := [.lit (.bool false)], args := [d1, d2, d3, d4] }
  | _ => none }
def FnPlainWordsMonotoneUnderAppendWrongFalsely : Prop := fnPlainWordsMonotoneUnderAppendRow.holds Try.pinned (OpenSpec.ofChange fnPlainWordsMonotoneUnderAppendWrong)

/-- 'zzlaws_pkg_jsonscan_b1.FnSpaceStopsAtFirstNonSpace': WHATEVER THE INPUT: true; the input reads as it did. -/
def fnSpaceStopsAtFirstNonSpaceSpec : ChangeSpec := { name := "fnSpaceStopsAtFirstNonSpace", fn := fun _ => fun
  | [d1, d2, d3] => { results := [.lit (.bool true)], args := [d1, d2, d3] }
  | _ => none }
def fnSpaceStopsAtFirstNonSpaceRow : OpenClaim := { program := "qxb6601728a", sum := "292594b85fe75e4d298fe39c420b77f837e9f9360160460771cc4b9d8dc0c0fe", func := "example.com/authnd/authnd/zzlaws_pkg_jsonscan_b1.FnSpaceStopsAtFirstNonSpace", spec := "fnSpaceStopsAtFirstNonSpace", apart := false }
def FnSpaceStopsAtFirstNonSpaceSaid : Prop := fnSpaceStopsAtFirstNonSpaceRow.holds Try.pinned (OpenSpec.ofChange fnSpaceStopsAtFirstNonSpaceSpec)

/-- ITS FALSE NEIGHBOUR: 'it returns false'. Refute it at one input. -/
def fnSpaceStopsAtFirstNonSpaceWrong : ChangeSpec := { name := "fnSpaceStopsAtFirstNonSpace", fn := fun _ => fun
  | [d1, d2, d3] => { results := [.lit (.bool false)], args := [d1, d2, d3] }
  | _ => none }
def FnSpaceStopsAtFirstNonSpaceWrongFalsely : Prop := fnSpaceStopsAtFirstNonSpaceRow.holds Try.pinned (OpenSpec.ofChange fnSpaceStopsAtFirstNonSpaceWrong)

/-- 'zzlaws_pkg_jsonscan_b1.FnSpaceIdempotent': WHATEVER THE INPUT: true; the input reads as it did. -/
def fnSpaceIdempotentSpec : ChangeSpec := { name := "fnSpaceIdempotent", fn := fun _ => fun
  | [d1, d2, d3] => { results := [.lit (.bool true)], args := [d1, d2, d3] }
  | _ => none }
def fnSpaceIdempotentRow : OpenClaim := { program := "qxb6601728a", sum := "292594b85fe75e4d298fe39c420b77f837e9f9360160460771cc4b9d8dc0c0fe", func := "example.com/authnd/authnd/zzlaws_pkg_jsonscan_b1.FnSpaceIdempotent", spec := "fnSpaceIdempotent", apart := false }
def FnSpaceIdempotentSaid : Prop := fnSpaceIdempotentRow.holds Try.pinned (OpenSpec.ofChange fnSpaceIdempotentSpec)

/-- ITS FALSE NEIGHBOUR: 'it returns false'. Refute it at one input. -/
def fnSpaceIdempotentWrong : ChangeSpec := { name := "fnSpaceIdempotent", fn := fun _ => fun
  | [d1, d2, d3] => { results := [.lit (.bool false)], args := [d1, d2, d3] }
  | _ => none }
def FnSpaceIdempotentWrongFalsely : Prop := fnSpaceIdempotentRow.holds Try.pinned (OpenSpec.ofChange fnSpaceIdempotentWrong)

/-- 'zzlaws_pkg_jsonscan_b1.FnSpaceShiftsWithPrefix': WHATEVER THE INPUT: true; the input reads as it did. -/
def fnSpaceShiftsWithPrefixSpec : ChangeSpec := { name := "fnSpaceShiftsWithPrefix", fn := fun _ => fun
  | [d1, d2, d3, d4] => { results := [.lit (.bool true)], args := [d1, d2, d3, d4] }
  | _ => none }
def fnSpaceShiftsWithPrefixRow : OpenClaim := { program := "qxb6601728a", sum := "292594b85fe75e4d298fe39c420b77f837e9f9360160460771cc4b9d8dc0c0fe", func := "example.com/authnd/authnd/zzlaws_pkg_jsonscan_b1.FnSpaceShiftsWithPrefix", spec := "fnSpaceShiftsWithPrefix", apart := false }
def FnSpaceShiftsWithPrefixSaid : Prop := fnSpaceShiftsWithPrefixRow.holds Try.pinned (OpenSpec.ofChange fnSpaceShiftsWithPrefixSpec)

/-- ITS FALSE NEIGHBOUR: 'it returns false'. Refute it at one input. -/
def fnSpaceShiftsWithPrefixWrong : ChangeSpec := { name := "fnSpaceShiftsWithPrefix", fn := fun _ => fun
  | [d1, d2, d3, d4] => { results := [.lit (.bool false)], args := [d1, d2, d3, d4] }
  | _ => none }
def FnSpaceShiftsWithPrefixWrongFalsely : Prop := fnSpaceShiftsWithPrefixRow.holds Try.pinned (OpenSpec.ofChange fnSpaceShiftsWithPrefixWrong)

end Rows
end Go.Proofs.Qxb6601728a
