/-
  No cell of these rows narrows 'for every input' (looked for: loops, veiled, ifaces, maps, wideKeys, modest, calm, conditions, laid).
  DERIVED. THE GIVEN ROWS OF THIS SEAT. 3 by the template 'for every input the law returns true; each argument reads behind the call as it read before'; 0 by the template 'total and deterministic' (their statements: Qxb6602539aTotals.lean).
  GIVEN WITH THE SEED: the statements are not yours to turn. If you find one false, say at which input.
  Laid BY PROGRAM, IN A SANDBOX (cutbox-rows.mjs): the forced cells as the released guide's own fill.sh prints them over the translation 8a694994766a83ea… (all of the seat's roots in one cut). By AI agents, Wed Nov 11 2026. No macro, syntax, notation, axiom, sorry.
-/
import Derived.Test.Qxb6602539aChecked
import GoSem.Claim
import GoSem.ClaimJoined
import GoSem.ClaimMapViews
import Derived.JoinedTies
import Derived.KernelRfl
namespace Go.Proofs.Qxb6602539a
/- THE CELL 'sum', in the pinned program and in every row, IS THE sha256 OF THE DUMP (.gsa) THAT Qxb6602539aProg.lean LOADS. Nothing in Lean hashes anything: it is a label: what it is worth is what the hold of that sum in a sandbox is worth. -/
noncomputable def Try.pinned : Pinned := { name := "qxb6602539a", sum := "8a694994766a83ea1b8c24244c489d0418fa2c34cf1f45df3fc4875f40e15fd7", checked := Try.checked }
namespace Rows
def none {H : Type} : Left H := { results := [], args := [] }

/-- 'zzlaws_number_b1.FnIsDigitsMatchesDigitTable': WHATEVER THE INPUT: true; the input reads as it did. -/
def fnIsDigitsMatchesDigitTableSpec : ChangeSpec := { name := "fnIsDigitsMatchesDigitTable", fn := fun _ => fun
  | [d] => { results := [.lit (.bool true)], args := [d] }
  | _ => none }
def fnIsDigitsMatchesDigitTableRow : OpenClaim := { program := "qxb6602539a", sum := "8a694994766a83ea1b8c24244c489d0418fa2c34cf1f45df3fc4875f40e15fd7", func := "example.com/zhaoshu/zhaoshu/zzlaws_number_b1.FnIsDigitsMatchesDigitTable", spec := "fnIsDigitsMatchesDigitTable", apart := false }
def FnIsDigitsMatchesDigitTableSaid : Prop := fnIsDigitsMatchesDigitTableRow.holds Try.pinned (OpenSpec.ofChange fnIsDigitsMatchesDigitTableSpec)

/-- ITS FALSE NEIGHBOUR: 'it returns false'. Refute it at one input. -/
def fnIsDigitsMatchesDigitTableWrong : ChangeSpec := { name := "fnIsDigitsMatchesDigitTable", fn := fun _ => fun
  | [d] => { results := [.lit (.bool false)], args := [d] }
  | _ => none }
def FnIsDigitsMatchesDigitTableWrongFalsely : Prop := fnIsDigitsMatchesDigitTableRow.holds Try.pinned (OpenSpec.ofChange fnIsDigitsMatchesDigitTableWrong)

/-- 'zzlaws_number_b1.FnIsDigitsConcatenation': WHATEVER THE INPUT: true; the input reads as it did. -/
def fnIsDigitsConcatenationSpec : ChangeSpec := { name := "fnIsDigitsConcatenation", fn := fun _ => fun
  | [d1, d2] => { results := [.lit (.bool true)], args := [d1, d2] }
  | _ => none }
def fnIsDigitsConcatenationRow : OpenClaim := { program := "qxb6602539a", sum := "8a694994766a83ea1b8c24244c489d0418fa2c34cf1f45df3fc4875f40e15fd7", func := "example.com/zhaoshu/zhaoshu/zzlaws_number_b1.FnIsDigitsConcatenation", spec := "fnIsDigitsConcatenation", apart := false }
def FnIsDigitsConcatenationSaid : Prop := fnIsDigitsConcatenationRow.holds Try.pinned (OpenSpec.ofChange fnIsDigitsConcatenationSpec)

/-- ITS FALSE NEIGHBOUR: 'it returns false'. Refute it at one input. -/
def fnIsDigitsConcatenationWrong : ChangeSpec := { name := "fnIsDigitsConcatenation", fn := fun _ => fun
  | [d1, d2] => { results := [.lit (.bool false)], args := [d1, d2] }
  | _ => none }
def FnIsDigitsConcatenationWrongFalsely : Prop := fnIsDigitsConcatenationRow.holds Try.pinned (OpenSpec.ofChange fnIsDigitsConcatenationWrong)

/-- 'zzlaws_number_b1.FnIsDigitsSingleByte': WHATEVER THE INPUT: true; the input reads as it did. -/
def fnIsDigitsSingleByteSpec : ChangeSpec := { name := "fnIsDigitsSingleByte", fn := fun _ => fun
  | [d] => { results := [.lit (.bool true)], args := [d] }
  | _ => none }
def fnIsDigitsSingleByteRow : OpenClaim := { program := "qxb6602539a", sum := "8a694994766a83ea1b8c24244c489d0418fa2c34cf1f45df3fc4875f40e15fd7", func := "example.com/zhaoshu/zhaoshu/zzlaws_number_b1.FnIsDigitsSingleByte", spec := "fnIsDigitsSingleByte", apart := false }
def FnIsDigitsSingleByteSaid : Prop := fnIsDigitsSingleByteRow.holds Try.pinned (OpenSpec.ofChange fnIsDigitsSingleByteSpec)

/-- ITS FALSE NEIGHBOUR: 'it returns false'. Refute it at one input. -/
def fnIsDigitsSingleByteWrong : ChangeSpec := { name := "fnIsDigitsSingleByte", fn := fun _ => fun
  | [d] => { results := [.lit (.bool false)], args := [d] }
  | _ => none }
def FnIsDigitsSingleByteWrongFalsely : Prop := fnIsDigitsSingleByteRow.holds Try.pinned (OpenSpec.ofChange fnIsDigitsSingleByteWrong)

end Rows
end Go.Proofs.Qxb6602539a
