/-
  No cell of these rows narrows 'for every input' (looked for: loops, veiled, ifaces, maps, wideKeys, modest, calm, conditions, laid).
  DERIVED. THE GIVEN ROWS OF THIS SEAT. 10 by the template 'for every input the law returns true; each argument reads behind the call as it read before'; 0 by the template 'total and deterministic' (their statements: Qxb6001670aTotals.lean).
  GIVEN WITH THE SEED: the statements are not yours to turn. If you find one false, say at which input.
  Laid BY PROGRAM, IN A SANDBOX (cutbox-rows.mjs): the forced cells as the released guide's own fill.sh prints them over the translation 455f6c8f0039376c… (all of the seat's roots in one cut). By AI agents, Wed Nov 11 2026. No macro, syntax, notation, axiom, sorry.
-/
import Derived.Test.Qxb6001670aChecked
import GoSem.Claim
import GoSem.ClaimJoined
import GoSem.ClaimMapViews
import Derived.JoinedTies
import Derived.KernelRfl
namespace Go.Proofs.Qxb6001670a
/- THE CELL 'sum', in the pinned program and in every row, IS THE sha256 OF THE DUMP (.gsa) THAT Qxb6001670aProg.lean LOADS. Nothing in Lean hashes anything: it is a label: what it is worth is what the hold of that sum in a sandbox is worth. -/
noncomputable def Try.pinned : Pinned := { name := "qxb6001670a", sum := "455f6c8f0039376c9f8eb7727ae932ff1563bf541c0908e3430c5a9f1662c744", checked := Try.checked }
namespace Rows
def none {H : Type} : Left H := { results := [], args := [] }

/-- 'zzlaws_internal_collation_g1.FnThreeBytesAtOrdersAsBytes': WHATEVER THE INPUT: true; the input reads as it did. -/
def fnThreeBytesAtOrdersAsBytesSpec : ChangeSpec := { name := "fnThreeBytesAtOrdersAsBytes", fn := fun _ => fun
  | [d1, d2, d3] => { results := [.lit (.bool true)], args := [d1, d2, d3] }
  | _ => none }
def fnThreeBytesAtOrdersAsBytesRow : OpenClaim := { program := "qxb6001670a", sum := "455f6c8f0039376c9f8eb7727ae932ff1563bf541c0908e3430c5a9f1662c744", func := "example.com/chronorow/chronorow/zzlaws_internal_collation_g1.FnThreeBytesAtOrdersAsBytes", spec := "fnThreeBytesAtOrdersAsBytes", apart := false }
def FnThreeBytesAtOrdersAsBytesSaid : Prop := fnThreeBytesAtOrdersAsBytesRow.holds Try.pinned (OpenSpec.ofChange fnThreeBytesAtOrdersAsBytesSpec)

/-- ITS FALSE NEIGHBOUR: 'it returns false'. Refute it at one input. -/
def fnThreeBytesAtOrdersAsBytesWrong : ChangeSpec := { name := "fnThreeBytesAtOrdersAsBytes", fn := fun _ => fun
  | [d1, d2, d3] => { results := [.lit (.bool false)], args := [d1, d2, d3] }
  | _ => none }
def FnThreeBytesAtOrdersAsBytesWrongFalsely : Prop := fnThreeBytesAtOrdersAsBytesRow.holds Try.pinned (OpenSpec.ofChange fnThreeBytesAtOrdersAsBytesWrong)

/-- 'zzlaws_internal_collation_g1.FnThreeBytesAtIsLocal': WHATEVER THE INPUT: true; the input reads as it did. -/
def fnThreeBytesAtIsLocalSpec : ChangeSpec := { name := "fnThreeBytesAtIsLocal", fn := fun _ => fun
  | [d1, d2, d3, d4] => { results := [.lit (.bool true)], args := [d1, d2, d3, d4] }
  | _ => none }
def fnThreeBytesAtIsLocalRow : OpenClaim := { program := "qxb6001670a", sum := "455f6c8f0039376c9f8eb7727ae932ff1563bf541c0908e3430c5a9f1662c744", func := "example.com/chronorow/chronorow/zzlaws_internal_collation_g1.FnThreeBytesAtIsLocal", spec := "fnThreeBytesAtIsLocal", apart := false }
def FnThreeBytesAtIsLocalSaid : Prop := fnThreeBytesAtIsLocalRow.holds Try.pinned (OpenSpec.ofChange fnThreeBytesAtIsLocalSpec)

/-- ITS FALSE NEIGHBOUR: 'it returns false'. Refute it at one input. -/
def fnThreeBytesAtIsLocalWrong : ChangeSpec := { name := "fnThreeBytesAtIsLocal", fn := fun _ => fun
  | [d1, d2, d3, d4] => { results := [.lit (.bool false)], args := [d1, d2, d3, d4] }
  | _ => none }
def FnThreeBytesAtIsLocalWrongFalsely : Prop := fnThreeBytesAtIsLocalRow.holds Try.pinned (OpenSpec.ofChange fnThreeBytesAtIsLocalWrong)

/-- 'zzlaws_internal_collation_g1.FnThreeBytesAtRuneRoundTrip': WHATEVER THE INPUT: true; the input reads as it did. -/
def fnThreeBytesAtRuneRoundTripSpec : ChangeSpec := { name := "fnThreeBytesAtRuneRoundTrip", fn := fun _ => fun
  | [d1, d2] => { results := [.lit (.bool true)], args := [d1, d2] }
  | _ => none }
def fnThreeBytesAtRuneRoundTripRow : OpenClaim := { program := "qxb6001670a", sum := "455f6c8f0039376c9f8eb7727ae932ff1563bf541c0908e3430c5a9f1662c744", func := "example.com/chronorow/chronorow/zzlaws_internal_collation_g1.FnThreeBytesAtRuneRoundTrip", spec := "fnThreeBytesAtRuneRoundTrip", apart := false }
def FnThreeBytesAtRuneRoundTripSaid : Prop := fnThreeBytesAtRuneRoundTripRow.holds Try.pinned (OpenSpec.ofChange fnThreeBytesAtRuneRoundTripSpec)

/-- ITS FALSE NEIGHBOUR: 'it returns false'. Refute it at one input. -/
def fnThreeBytesAtRuneRoundTripWrong : ChangeSpec := { name := "fnThreeBytesAtRuneRoundTrip", fn := fun _ => fun
  | [d1, d2] => { results := [.lit (.bool false)], args := [d1, d2] }
  | _ => none }
def FnThreeBytesAtRuneRoundTripWrongFalsely : Prop := fnThreeBytesAtRuneRoundTripRow.holds Try.pinned (OpenSpec.ofChange fnThreeBytesAtRuneRoundTripWrong)

/-- 'zzlaws_internal_engine_g1.FnBlocksTileItems': WHATEVER THE INPUT: true; the input reads as it did. -/
def fnBlocksTileItemsSpec : ChangeSpec := { name := "fnBlocksTileItems", fn := fun _ => fun
  | [d] => { results := [.lit (.bool true)], args := [d] }
  | _ => none }
def fnBlocksTileItemsRow : OpenClaim := { program := "qxb6001670a", sum := "455f6c8f0039376c9f8eb7727ae932ff1563bf541c0908e3430c5a9f1662c744", func := "example.com/chronorow/chronorow/zzlaws_internal_engine_g1.FnBlocksTileItems", spec := "fnBlocksTileItems", apart := false }
def FnBlocksTileItemsSaid : Prop := fnBlocksTileItemsRow.holds Try.pinned (OpenSpec.ofChange fnBlocksTileItemsSpec)

/-- ITS FALSE NEIGHBOUR: 'it returns false'. Refute it at one input. -/
def fnBlocksTileItemsWrong : ChangeSpec := { name := "fnBlocksTileItems", fn := fun _ => fun
  | [d] => { results := [.lit (.bool false)], args := [d] }
  | _ => none }
def FnBlocksTileItemsWrongFalsely : Prop := fnBlocksTileItemsRow.holds Try.pinned (OpenSpec.ofChange fnBlocksTileItemsWrong)

/-- 'zzlaws_internal_engine_g1.FnCompareBoolOrdersFalseFirst': WHATEVER THE INPUT: true; the input reads as it did. -/
def fnCompareBoolOrdersFalseFirstSpec : ChangeSpec := { name := "fnCompareBoolOrdersFalseFirst", fn := fun _ => fun
  | [d1, d2, d3] => { results := [.lit (.bool true)], args := [d1, d2, d3] }
  | _ => none }
def fnCompareBoolOrdersFalseFirstRow : OpenClaim := { program := "qxb6001670a", sum := "455f6c8f0039376c9f8eb7727ae932ff1563bf541c0908e3430c5a9f1662c744", func := "example.com/chronorow/chronorow/zzlaws_internal_engine_g1.FnCompareBoolOrdersFalseFirst", spec := "fnCompareBoolOrdersFalseFirst", apart := false }
def FnCompareBoolOrdersFalseFirstSaid : Prop := fnCompareBoolOrdersFalseFirstRow.holds Try.pinned (OpenSpec.ofChange fnCompareBoolOrdersFalseFirstSpec)

/-- ITS FALSE NEIGHBOUR: 'it returns false'. Refute it at one input. -/
def fnCompareBoolOrdersFalseFirstWrong : ChangeSpec := { name := "fnCompareBoolOrdersFalseFirst", fn := fun _ => fun
  | [d1, d2, d3] => { results := [.lit (.bool false)], args := [d1, d2, d3] }
  | _ => none }
def FnCompareBoolOrdersFalseFirstWrongFalsely : Prop := fnCompareBoolOrdersFalseFirstRow.holds Try.pinned (OpenSpec.ofChange fnCompareBoolOrdersFalseFirstWrong)

/-- 'zzlaws_internal_engine_g1.FnAfterResumesPastKey': WHATEVER THE INPUT: true; the input reads as it did. -/
def fnAfterResumesPastKeySpec : ChangeSpec := { name := "fnAfterResumesPastKey", fn := fun _ => fun
  | [d1, d2, d3, d4, d5, d6, d7, d8, d9, d10] => { results := [.lit (.bool true)], args := [d1, d2, d3, d4, d5, d6, d7, d8, d9, d10] }
  | _ => none }
def fnAfterResumesPastKeyRow : OpenClaim := { program := "qxb6001670a", sum := "455f6c8f0039376c9f8eb7727ae932ff1563bf541c0908e3430c5a9f1662c744", func := "example.com/chronorow/chronorow/zzlaws_internal_engine_g1.FnAfterResumesPastKey", spec := "fnAfterResumesPastKey", apart := false }
def FnAfterResumesPastKeySaid : Prop := fnAfterResumesPastKeyRow.holds Try.pinned (OpenSpec.ofChange fnAfterResumesPastKeySpec)

/-- ITS FALSE NEIGHBOUR: 'it returns false'. Refute it at one input. -/
def fnAfterResumesPastKeyWrong : ChangeSpec := { name := "fnAfterResumesPastKey", fn := fun _ => fun
  | [d1, d2, d3, d4, d5, d6, d7, d8, d9, d10] => { results := [.lit (.bool false)], args := [d1, d2, d3, d4, d5, d6, d7, d8, d9, d10] }
  | _ => none }
def FnAfterResumesPastKeyWrongFalsely : Prop := fnAfterResumesPastKeyRow.holds Try.pinned (OpenSpec.ofChange fnAfterResumesPastKeyWrong)

/-- 'zzlaws_internal_engine_g2.FnEmptiedLogKeepsSmallRoom': WHATEVER THE INPUT: true; the input reads as it did. -/
def fnEmptiedLogKeepsSmallRoomSpec : ChangeSpec := { name := "fnEmptiedLogKeepsSmallRoom", fn := fun _ => fun
  | [d1, d2] => { results := [.lit (.bool true)], args := [d1, d2] }
  | _ => none }
def fnEmptiedLogKeepsSmallRoomRow : OpenClaim := { program := "qxb6001670a", sum := "455f6c8f0039376c9f8eb7727ae932ff1563bf541c0908e3430c5a9f1662c744", func := "example.com/chronorow/chronorow/zzlaws_internal_engine_g2.FnEmptiedLogKeepsSmallRoom", spec := "fnEmptiedLogKeepsSmallRoom", apart := false }
def FnEmptiedLogKeepsSmallRoomSaid : Prop := fnEmptiedLogKeepsSmallRoomRow.holds Try.pinned (OpenSpec.ofChange fnEmptiedLogKeepsSmallRoomSpec)

/-- ITS FALSE NEIGHBOUR: 'it returns false'. Refute it at one input. -/
def fnEmptiedLogKeepsSmallRoomWrong : ChangeSpec := { name := "fnEmptiedLogKeepsSmallRoom", fn := fun _ => fun
  | [d1, d2] => { results := [.lit (.bool false)], args := [d1, d2] }
  | _ => none }
def FnEmptiedLogKeepsSmallRoomWrongFalsely : Prop := fnEmptiedLogKeepsSmallRoomRow.holds Try.pinned (OpenSpec.ofChange fnEmptiedLogKeepsSmallRoomWrong)

/-- 'zzlaws_internal_engine_g2.FnEmptiedLogIdempotent': WHATEVER THE INPUT: true; the input reads as it did. -/
def fnEmptiedLogIdempotentSpec : ChangeSpec := { name := "fnEmptiedLogIdempotent", fn := fun _ => fun
  | [d1, d2, d3] => { results := [.lit (.bool true)], args := [d1, d2, d3] }
  | _ => none }
def fnEmptiedLogIdempotentRow : OpenClaim := { program := "qxb6001670a", sum := "455f6c8f0039376c9f8eb7727ae932ff1563bf541c0908e3430c5a9f1662c744", func := "example.com/chronorow/chronorow/zzlaws_internal_engine_g2.FnEmptiedLogIdempotent", spec := "fnEmptiedLogIdempotent", apart := false }
def FnEmptiedLogIdempotentSaid : Prop := fnEmptiedLogIdempotentRow.holds Try.pinned (OpenSpec.ofChange fnEmptiedLogIdempotentSpec)

/-- ITS FALSE NEIGHBOUR: 'it returns false'. Refute it at one input. -/
def fnEmptiedLogIdempotentWrong : ChangeSpec := { name := "fnEmptiedLogIdempotent", fn := fun _ => fun
  | [d1, d2, d3] => { results := [.lit (.bool false)], args := [d1, d2, d3] }
  | _ => none }
def FnEmptiedLogIdempotentWrongFalsely : Prop := fnEmptiedLogIdempotentRow.holds Try.pinned (OpenSpec.ofChange fnEmptiedLogIdempotentWrong)

/-- 'zzlaws_internal_script_g1.FnSessionNameIsLongestNamePrefix': WHATEVER THE INPUT: true; the input reads as it did. -/
def fnSessionNameIsLongestNamePrefixSpec : ChangeSpec := { name := "fnSessionNameIsLongestNamePrefix", fn := fun _ => fun
  | [d] => { results := [.lit (.bool true)], args := [d] }
  | _ => none }
def fnSessionNameIsLongestNamePrefixRow : OpenClaim := { program := "qxb6001670a", sum := "455f6c8f0039376c9f8eb7727ae932ff1563bf541c0908e3430c5a9f1662c744", func := "example.com/chronorow/chronorow/zzlaws_internal_script_g1.FnSessionNameIsLongestNamePrefix", spec := "fnSessionNameIsLongestNamePrefix", apart := false }
def FnSessionNameIsLongestNamePrefixSaid : Prop := fnSessionNameIsLongestNamePrefixRow.holds Try.pinned (OpenSpec.ofChange fnSessionNameIsLongestNamePrefixSpec)

/-- ITS FALSE NEIGHBOUR: 'it returns false'. Refute it at one input. -/
def fnSessionNameIsLongestNamePrefixWrong : ChangeSpec := { name := "fnSessionNameIsLongestNamePrefix", fn := fun _ => fun
  | [d] => { results := [.lit (.bool false)], args := [d] }
  | _ => none }
def FnSessionNameIsLongestNamePrefixWrongFalsely : Prop := fnSessionNameIsLongestNamePrefixRow.holds Try.pinned (OpenSpec.ofChange fnSessionNameIsLongestNamePrefixWrong)

/-- 'zzlaws_internal_script_g1.FnSessionNameIsIdempotentPrefix': WHATEVER THE INPUT: true; the input reads as it did. -/
def fnSessionNameIsIdempotentPrefixSpec : ChangeSpec := { name := "fnSessionNameIsIdempotentPrefix", fn := fun _ => fun
  | [d] => { results := [.lit (.bool true)], args := [d] }
  | _ => none }
def fnSessionNameIsIdempotentPrefixRow : OpenClaim := { program := "qxb6001670a", sum := "455f6c8f0039376c9f8eb7727ae932ff1563bf541c0908e3430c5a9f1662c744", func := "example.com/chronorow/chronorow/zzlaws_internal_script_g1.FnSessionNameIsIdempotentPrefix", spec := "fnSessionNameIsIdempotentPrefix", apart := false }
def FnSessionNameIsIdempotentPrefixSaid : Prop := fnSessionNameIsIdempotentPrefixRow.holds Try.pinned (OpenSpec.ofChange fnSessionNameIsIdempotentPrefixSpec)

/-- ITS FALSE NEIGHBOUR: 'it returns false'. Refute it at one input. -/
def fnSessionNameIsIdempotentPrefixWrong : ChangeSpec := { name := "fnSessionNameIsIdempotentPrefix", fn := fun _ => fun
  | [d] => { results := [.lit (.bool false)], args := [d] }
  | _ => none }
def FnSessionNameIsIdempotentPrefixWrongFalsely : Prop := fnSessionNameIsIdempotentPrefixRow.holds Try.pinned (OpenSpec.ofChange fnSessionNameIsIdempotentPrefixWrong)

end Rows
end Go.Proofs.Qxb6001670a
