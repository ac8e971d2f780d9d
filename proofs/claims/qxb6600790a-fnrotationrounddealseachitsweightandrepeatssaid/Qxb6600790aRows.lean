/-
  No cell of these rows narrows 'for every input' (looked for: loops, veiled, ifaces, maps, wideKeys, modest, calm, conditions, laid).
  DERIVED. THE GIVEN ROWS OF THIS SEAT. 4 by the template 'for every input the law returns true; each argument reads behind the call as it read before'; 0 by the template 'total and deterministic' (their statements: Qxb6600790aTotals.lean).
  GIVEN WITH THE SEED: the statements are not yours to turn. If you find one false, say at which input.
  Laid BY PROGRAM, IN A SANDBOX (cutbox-rows.mjs): the forced cells as the released guide's own fill.sh prints them over the translation 3f77c21f52225ade… (all of the seat's roots in one cut). By AI agents, Wed Nov 11 2026. No macro, syntax, notation, axiom, sorry.
-/
import Derived.Test.Qxb6600790aChecked
import GoSem.Claim
import GoSem.ClaimJoined
import GoSem.ClaimMapViews
import Derived.JoinedTies
import Derived.KernelRfl
namespace Go.Proofs.Qxb6600790a
/- THE CELL 'sum', in the pinned program and in every row, IS THE sha256 OF THE DUMP (.gsa) THAT Qxb6600790aProg.lean LOADS. Nothing in Lean hashes anything: it is a label: what it is worth is what the hold of that sum in a sandbox is worth. -/
noncomputable def Try.pinned : Pinned := { name := "qxb6600790a", sum := "3f77c21f52225adec4255aba01c28120e45058035fa32c8d3cb5bdd56a141af8", checked := Try.checked }
namespace Rows
def none {H : Type} : Left H := { results := [], args := [] }

/-- 'zzlaws_root_b1.FnQueuesWithDefaultsIsIdempotent': WHATEVER THE INPUT: true; the input reads as it did. -/
def fnQueuesWithDefaultsIsIdempotentSpec : ChangeSpec := { name := "fnQueuesWithDefaultsIsIdempotent", fn := fun _ => fun
  | [d1, d2] => { results := [.lit (.bool true)], args := [d1, d2] }
  | _ => none }
def fnQueuesWithDefaultsIsIdempotentRow : OpenClaim := { program := "qxb6600790a", sum := "3f77c21f52225adec4255aba01c28120e45058035fa32c8d3cb5bdd56a141af8", func := "example.com/rowbound/rowbound/zzlaws_root_b1.FnQueuesWithDefaultsIsIdempotent", spec := "fnQueuesWithDefaultsIsIdempotent", apart := false }
def FnQueuesWithDefaultsIsIdempotentSaid : Prop := fnQueuesWithDefaultsIsIdempotentRow.holds Try.pinned (OpenSpec.ofChange fnQueuesWithDefaultsIsIdempotentSpec)

/-- ITS FALSE NEIGHBOUR: 'it returns false'. Refute it at one input. -/
def fnQueuesWithDefaultsIsIdempotentWrong : ChangeSpec := { name := "fnQueuesWithDefaultsIsIdempotent", fn := fun _ => fun
  | [d1, d2] => { results := [.lit (.bool false)], args := [d1, d2] }
  | _ => none }
def FnQueuesWithDefaultsIsIdempotentWrongFalsely : Prop := fnQueuesWithDefaultsIsIdempotentRow.holds Try.pinned (OpenSpec.ofChange fnQueuesWithDefaultsIsIdempotentWrong)

/-- 'zzlaws_root_b1.FnQueuesWithDefaultsReturnsAFreshListWithNoZeroField': WHATEVER THE INPUT: true; the input reads as it did. -/
def fnQueuesWithDefaultsReturnsAFreshListWithNoZeroFieldSpec : ChangeSpec := { name := "fnQueuesWithDefaultsReturnsAFreshListWithNoZeroField", fn := fun _ => fun
  | [d1, d2] => { results := [.lit (.bool true)], args := [d1, d2] }
  | _ => none }
def fnQueuesWithDefaultsReturnsAFreshListWithNoZeroFieldRow : OpenClaim := { program := "qxb6600790a", sum := "3f77c21f52225adec4255aba01c28120e45058035fa32c8d3cb5bdd56a141af8", func := "example.com/rowbound/rowbound/zzlaws_root_b1.FnQueuesWithDefaultsReturnsAFreshListWithNoZeroField", spec := "fnQueuesWithDefaultsReturnsAFreshListWithNoZeroField", apart := false }
def FnQueuesWithDefaultsReturnsAFreshListWithNoZeroFieldSaid : Prop := fnQueuesWithDefaultsReturnsAFreshListWithNoZeroFieldRow.holds Try.pinned (OpenSpec.ofChange fnQueuesWithDefaultsReturnsAFreshListWithNoZeroFieldSpec)

/-- ITS FALSE NEIGHBOUR: 'it returns false'. Refute it at one input. -/
def fnQueuesWithDefaultsReturnsAFreshListWithNoZeroFieldWrong : ChangeSpec := { name := "fnQueuesWithDefaultsReturnsAFreshListWithNoZeroField", fn := fun _ => fun
  | [d1, d2] => { results := [.lit (.bool false)], args := [d1, d2] }
  | _ => none }
def FnQueuesWithDefaultsReturnsAFreshListWithNoZeroFieldWrongFalsely : Prop := fnQueuesWithDefaultsReturnsAFreshListWithNoZeroFieldRow.holds Try.pinned (OpenSpec.ofChange fnQueuesWithDefaultsReturnsAFreshListWithNoZeroFieldWrong)

/-- 'zzlaws_root_b1.FnRotationRoundDealsEachItsWeightAndRepeats': WHATEVER THE INPUT: true; the input reads as it did. -/
def fnRotationRoundDealsEachItsWeightAndRepeatsSpec : ChangeSpec := { name := "fnRotationRoundDealsEachItsWeightAndRepeats", fn := fun _ => fun
  | [d] => { results := [.lit (.bool true)], args := [d] }
  | _ => none }
def fnRotationRoundDealsEachItsWeightAndRepeatsRow : OpenClaim := { program := "qxb6600790a", sum := "3f77c21f52225adec4255aba01c28120e45058035fa32c8d3cb5bdd56a141af8", func := "example.com/rowbound/rowbound/zzlaws_root_b1.FnRotationRoundDealsEachItsWeightAndRepeats", spec := "fnRotationRoundDealsEachItsWeightAndRepeats", apart := false }
def FnRotationRoundDealsEachItsWeightAndRepeatsSaid : Prop := fnRotationRoundDealsEachItsWeightAndRepeatsRow.holds Try.pinned (OpenSpec.ofChange fnRotationRoundDealsEachItsWeightAndRepeatsSpec)

/-- ITS FALSE NEIGHBOUR: 'it returns false'. Refute it at one input. -/
def fnRotationRoundDealsEachItsWeightAndRepeatsWrong : ChangeSpec := { name := "fnRotationRoundDealsEachItsWeightAndRepeats", fn := fun _ => fun
  | [d] => { results := [.lit (.bool false)], args := [d] }
  | _ => none }
def FnRotationRoundDealsEachItsWeightAndRepeatsWrongFalsely : Prop := fnRotationRoundDealsEachItsWeightAndRepeatsRow.holds Try.pinned (OpenSpec.ofChange fnRotationRoundDealsEachItsWeightAndRepeatsWrong)

/-- 'zzlaws_root_b1.FnRotationNeverDealsAQueueAWholeTurnAhead': WHATEVER THE INPUT: true; the input reads as it did. -/
def fnRotationNeverDealsAQueueAWholeTurnAheadSpec : ChangeSpec := { name := "fnRotationNeverDealsAQueueAWholeTurnAhead", fn := fun _ => fun
  | [d1, d2] => { results := [.lit (.bool true)], args := [d1, d2] }
  | _ => none }
def fnRotationNeverDealsAQueueAWholeTurnAheadRow : OpenClaim := { program := "qxb6600790a", sum := "3f77c21f52225adec4255aba01c28120e45058035fa32c8d3cb5bdd56a141af8", func := "example.com/rowbound/rowbound/zzlaws_root_b1.FnRotationNeverDealsAQueueAWholeTurnAhead", spec := "fnRotationNeverDealsAQueueAWholeTurnAhead", apart := false }
def FnRotationNeverDealsAQueueAWholeTurnAheadSaid : Prop := fnRotationNeverDealsAQueueAWholeTurnAheadRow.holds Try.pinned (OpenSpec.ofChange fnRotationNeverDealsAQueueAWholeTurnAheadSpec)

/-- ITS FALSE NEIGHBOUR: 'it returns false'. Refute it at one input. -/
def fnRotationNeverDealsAQueueAWholeTurnAheadWrong : ChangeSpec := { name := "fnRotationNeverDealsAQueueAWholeTurnAhead", fn := fun _ => fun
  | [d1, d2] => { results := [.lit (.bool false)], args := [d1, d2] }
  | _ => none }
def FnRotationNeverDealsAQueueAWholeTurnAheadWrongFalsely : Prop := fnRotationNeverDealsAQueueAWholeTurnAheadRow.holds Try.pinned (OpenSpec.ofChange fnRotationNeverDealsAQueueAWholeTurnAheadWrong)

end Rows
end Go.Proofs.Qxb6600790a
