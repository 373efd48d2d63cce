/-
  No cell of these rows narrows 'for every input' (looked for: loops, veiled, ifaces, maps, wideKeys, modest, calm, conditions, laid).
  DERIVED. THE GIVEN ROWS OF THIS SEAT. 6 by the template 'for every input the law returns true; each argument reads behind the call as it read before'; 0 by the template 'total and deterministic' (their statements: Qxb6600904aTotals.lean).
  GIVEN WITH THE SEED: the statements are not yours to turn. If you find one false, say at which input.
  Laid BY PROGRAM, IN A SANDBOX (cutbox-rows.mjs): the forced cells as the released guide's own fill.sh prints them over the translation 89fb57e579d88ece… (all of the seat's roots in one cut). By AI agents, Wed Nov 11 2026. No macro, syntax, notation, axiom, sorry.
-/
import Derived.Test.Qxb6600904aChecked
import GoSem.Claim
import GoSem.ClaimJoined
import GoSem.ClaimMapViews
import Derived.JoinedTies
import Derived.KernelRfl
namespace Go.Proofs.Qxb6600904a
/- THE CELL 'sum', in the pinned program and in every row, IS THE sha256 OF THE DUMP (.gsa) THAT Qxb6600904aProg.lean LOADS. Nothing in Lean hashes anything: it is a label: what it is worth is what the hold of that sum in a sandbox is worth. -/
noncomputable def Try.pinned : Pinned := { name := "qxb6600904a", sum := "89fb57e579d88ecef757fb87515ac93ae126d832ed55e2b2fd9863a12ada54f7", checked := Try.checked }
namespace Rows
def none {H : Type} : Left H := { results := [], args := [] }

/-- 'zzlaws_root_b1.FnPlainIntExact': WHATEVER THE INPUT: true; the input reads as it did. -/
def fnPlainIntExactSpec : ChangeSpec := { name := "fnPlainIntExact", fn := fun _ => fun
  | [d] => { results := [.lit (.bool true)], args := [d] }
  | _ => none }
def fnPlainIntExactRow : OpenClaim := { program := "qxb6600904a", sum := "89fb57e579d88ecef757fb87515ac93ae126d832ed55e2b2fd9863a12ada54f7", func := "example.com/entente/entente/zzlaws_root_b1.FnPlainIntExact", spec := "fnPlainIntExact", apart := false }
def FnPlainIntExactSaid : Prop := fnPlainIntExactRow.holds Try.pinned (OpenSpec.ofChange fnPlainIntExactSpec)

/-- ITS FALSE NEIGHBOUR: 'it returns false'. Refute it at one input. -/
def fnPlainIntExactWrong : ChangeSpec := { name := "fnPlainIntExact", fn := fun _ => fun
  | [d] => { results := [.lit (.bool false)], args := [d] }
  | _ => none }
def FnPlainIntExactWrongFalsely : Prop := fnPlainIntExactRow.holds Try.pinned (OpenSpec.ofChange fnPlainIntExactWrong)

/-- 'zzlaws_root_b1.FnPlainIntNegation': WHATEVER THE INPUT: true; the input reads as it did. -/
def fnPlainIntNegationSpec : ChangeSpec := { name := "fnPlainIntNegation", fn := fun _ => fun
  | [d] => { results := [.lit (.bool true)], args := [d] }
  | _ => none }
def fnPlainIntNegationRow : OpenClaim := { program := "qxb6600904a", sum := "89fb57e579d88ecef757fb87515ac93ae126d832ed55e2b2fd9863a12ada54f7", func := "example.com/entente/entente/zzlaws_root_b1.FnPlainIntNegation", spec := "fnPlainIntNegation", apart := false }
def FnPlainIntNegationSaid : Prop := fnPlainIntNegationRow.holds Try.pinned (OpenSpec.ofChange fnPlainIntNegationSpec)

/-- ITS FALSE NEIGHBOUR: 'it returns false'. Refute it at one input. -/
def fnPlainIntNegationWrong : ChangeSpec := { name := "fnPlainIntNegation", fn := fun _ => fun
  | [d] => { results := [.lit (.bool false)], args := [d] }
  | _ => none }
def FnPlainIntNegationWrongFalsely : Prop := fnPlainIntNegationRow.holds Try.pinned (OpenSpec.ofChange fnPlainIntNegationWrong)

/-- 'zzlaws_root_b1.FnPlainTimestampExact': WHATEVER THE INPUT: true; the input reads as it did. -/
def fnPlainTimestampExactSpec : ChangeSpec := { name := "fnPlainTimestampExact", fn := fun _ => fun
  | [d] => { results := [.lit (.bool true)], args := [d] }
  | _ => none }
def fnPlainTimestampExactRow : OpenClaim := { program := "qxb6600904a", sum := "89fb57e579d88ecef757fb87515ac93ae126d832ed55e2b2fd9863a12ada54f7", func := "example.com/entente/entente/zzlaws_root_b1.FnPlainTimestampExact", spec := "fnPlainTimestampExact", apart := false }
def FnPlainTimestampExactSaid : Prop := fnPlainTimestampExactRow.holds Try.pinned (OpenSpec.ofChange fnPlainTimestampExactSpec)

/-- ITS FALSE NEIGHBOUR: 'it returns false'. Refute it at one input. -/
def fnPlainTimestampExactWrong : ChangeSpec := { name := "fnPlainTimestampExact", fn := fun _ => fun
  | [d] => { results := [.lit (.bool false)], args := [d] }
  | _ => none }
def FnPlainTimestampExactWrongFalsely : Prop := fnPlainTimestampExactRow.holds Try.pinned (OpenSpec.ofChange fnPlainTimestampExactWrong)

/-- 'zzlaws_root_b1.FnPlainTimestampReadsWhatIsWritten': WHATEVER THE INPUT: true; the input reads as it did. -/
def fnPlainTimestampReadsWhatIsWrittenSpec : ChangeSpec := { name := "fnPlainTimestampReadsWhatIsWritten", fn := fun _ => fun
  | [d1, d2, d3, d4, d5] => { results := [.lit (.bool true)], args := [d1, d2, d3, d4, d5] }
  | _ => none }
def fnPlainTimestampReadsWhatIsWrittenRow : OpenClaim := { program := "qxb6600904a", sum := "89fb57e579d88ecef757fb87515ac93ae126d832ed55e2b2fd9863a12ada54f7", func := "example.com/entente/entente/zzlaws_root_b1.FnPlainTimestampReadsWhatIsWritten", spec := "fnPlainTimestampReadsWhatIsWritten", apart := false }
def FnPlainTimestampReadsWhatIsWrittenSaid : Prop := fnPlainTimestampReadsWhatIsWrittenRow.holds Try.pinned (OpenSpec.ofChange fnPlainTimestampReadsWhatIsWrittenSpec)

/-- ITS FALSE NEIGHBOUR: 'it returns false'. Refute it at one input. -/
def fnPlainTimestampReadsWhatIsWrittenWrong : ChangeSpec := { name := "fnPlainTimestampReadsWhatIsWritten", fn := fun _ => fun
  | [d1, d2, d3, d4, d5] => { results := [.lit (.bool false)], args := [d1, d2, d3, d4, d5] }
  | _ => none }
def FnPlainTimestampReadsWhatIsWrittenWrongFalsely : Prop := fnPlainTimestampReadsWhatIsWrittenRow.holds Try.pinned (OpenSpec.ofChange fnPlainTimestampReadsWhatIsWrittenWrong)

/-- 'zzlaws_root_b1.FnFieldExact': WHATEVER THE INPUT: true; the input reads as it did. -/
def fnFieldExactSpec : ChangeSpec := { name := "fnFieldExact", fn := fun _ => fun
  | [d1, d2, d3, d4, d5] => { results := [.lit (.bool true)], args := [d1, d2, d3, d4, d5] }
  | _ => none }
def fnFieldExactRow : OpenClaim := { program := "qxb6600904a", sum := "89fb57e579d88ecef757fb87515ac93ae126d832ed55e2b2fd9863a12ada54f7", func := "example.com/entente/entente/zzlaws_root_b1.FnFieldExact", spec := "fnFieldExact", apart := false }
def FnFieldExactSaid : Prop := fnFieldExactRow.holds Try.pinned (OpenSpec.ofChange fnFieldExactSpec)

/-- ITS FALSE NEIGHBOUR: 'it returns false'. Refute it at one input. -/
def fnFieldExactWrong : ChangeSpec := { name := "fnFieldExact", fn := fun _ => fun
  | [d1, d2, d3, d4, d5] => { results := [.lit (.bool false)], args := [d1, d2, d3, d4, d5] }
  | _ => none }
def FnFieldExactWrongFalsely : Prop := fnFieldExactRow.holds Try.pinned (OpenSpec.ofChange fnFieldExactWrong)

/-- 'zzlaws_root_b1.FnFieldReadsNamesInOrder': WHATEVER THE INPUT: true; the input reads as it did. -/
def fnFieldReadsNamesInOrderSpec : ChangeSpec := { name := "fnFieldReadsNamesInOrder", fn := fun _ => fun
  | [d] => { results := [.lit (.bool true)], args := [d] }
  | _ => none }
def fnFieldReadsNamesInOrderRow : OpenClaim := { program := "qxb6600904a", sum := "89fb57e579d88ecef757fb87515ac93ae126d832ed55e2b2fd9863a12ada54f7", func := "example.com/entente/entente/zzlaws_root_b1.FnFieldReadsNamesInOrder", spec := "fnFieldReadsNamesInOrder", apart := false }
def FnFieldReadsNamesInOrderSaid : Prop := fnFieldReadsNamesInOrderRow.holds Try.pinned (OpenSpec.ofChange fnFieldReadsNamesInOrderSpec)

/-- ITS FALSE NEIGHBOUR: 'it returns false'. Refute it at one input. -/
def fnFieldReadsNamesInOrderWrong : ChangeSpec := { name := "fnFieldReadsNamesInOrder", fn := fun _ => fun
  | [d] => { results := [.lit (.bool false)], args := [d] }
  | _ => none }
def FnFieldReadsNamesInOrderWrongFalsely : Prop := fnFieldReadsNamesInOrderRow.holds Try.pinned (OpenSpec.ofChange fnFieldReadsNamesInOrderWrong)

end Rows
end Go.Proofs.Qxb6600904a
