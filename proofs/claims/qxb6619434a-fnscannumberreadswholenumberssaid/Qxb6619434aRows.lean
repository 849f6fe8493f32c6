/-
  No cell of these rows narrows 'for every input' (looked for: loops, veiled, ifaces, maps, wideKeys, modest, calm, conditions, laid).
  DERIVED. THE GIVEN ROWS OF THIS SEAT. 5 by the template 'for every input the law returns true; each argument reads behind the call as it read before'; 0 by the template 'total and deterministic' (their statements: Qxb6619434aTotals.lean).
  GIVEN WITH THE SEED: the statements are not yours to turn. If you find one false, say at which input.
  Laid BY PROGRAM, IN A SANDBOX (cutbox-rows.mjs): the forced cells as the released guide's own fill.sh prints them over the translation 081bef7c41877d79… (all of the seat's roots in one cut). By AI agents, Wed Nov 11 2026. No macro, syntax, notation, axiom, sorry.
-/
import Derived.Test.Qxb6619434aChecked
import GoSem.Claim
import GoSem.ClaimJoined
import GoSem.ClaimMapViews
import Derived.JoinedTies
import Derived.KernelRfl
namespace Go.Proofs.Qxb6619434a
/- THE CELL 'sum', in the pinned program and in every row, IS THE sha256 OF THE DUMP (.gsa) THAT Qxb6619434aProg.lean LOADS. Nothing in Lean hashes anything: it is a label: what it is worth is what the hold of that sum in a sandbox is worth. -/
noncomputable def Try.pinned : Pinned := { name := "qxb6619434a", sum := "081bef7c41877d79d1cb1350cc0fc61ab055e5bd34aae03009d6d48ca50e1150", checked := Try.checked }
namespace Rows
def none {H : Type} : Left H := { results := [], args := [] }

/-- 'zzlaws_benchdata_b1.FnHex4ReadsFourHexDigits': WHATEVER THE INPUT: true; the input reads as it did. -/
def fnHex4ReadsFourHexDigitsSpec : ChangeSpec := { name := "fnHex4ReadsFourHexDigits", fn := fun _ => fun
  | [d] => { results := [.lit (.bool true)], args := [d] }
  | _ => none }
def fnHex4ReadsFourHexDigitsRow : OpenClaim := { program := "qxb6619434a", sum := "081bef7c41877d79d1cb1350cc0fc61ab055e5bd34aae03009d6d48ca50e1150", func := "example.com/calipers/calipers/zzlaws_benchdata_b1.FnHex4ReadsFourHexDigits", spec := "fnHex4ReadsFourHexDigits", apart := false }
def FnHex4ReadsFourHexDigitsSaid : Prop := fnHex4ReadsFourHexDigitsRow.holds Try.pinned (OpenSpec.ofChange fnHex4ReadsFourHexDigitsSpec)

/-- ITS FALSE NEIGHBOUR: 'it returns false'. Refute it at one input. -/
def fnHex4ReadsFourHexDigitsWrong : ChangeSpec := { name := "fnHex4ReadsFourHexDigits", fn := fun _ => fun
  | [d] => { results := [.lit (.bool false)], args := [d] }
  | _ => none }
def FnHex4ReadsFourHexDigitsWrongFalsely : Prop := fnHex4ReadsFourHexDigitsRow.holds Try.pinned (OpenSpec.ofChange fnHex4ReadsFourHexDigitsWrong)

/-- 'zzlaws_benchdata_b1.FnScanNumberMaximalMunch': WHATEVER THE INPUT: true; the input reads as it did. -/
def fnScanNumberMaximalMunchSpec : ChangeSpec := { name := "fnScanNumberMaximalMunch", fn := fun _ => fun
  | [d1, d2] => { results := [.lit (.bool true)], args := [d1, d2] }
  | _ => none }
def fnScanNumberMaximalMunchRow : OpenClaim := { program := "qxb6619434a", sum := "081bef7c41877d79d1cb1350cc0fc61ab055e5bd34aae03009d6d48ca50e1150", func := "example.com/calipers/calipers/zzlaws_benchdata_b1.FnScanNumberMaximalMunch", spec := "fnScanNumberMaximalMunch", apart := false }
def FnScanNumberMaximalMunchSaid : Prop := fnScanNumberMaximalMunchRow.holds Try.pinned (OpenSpec.ofChange fnScanNumberMaximalMunchSpec)

/-- ITS FALSE NEIGHBOUR: 'it returns false'. Refute it at one input. -/
def fnScanNumberMaximalMunchWrong : ChangeSpec := { name := "fnScanNumberMaximalMunch", fn := fun _ => fun
  | [d1, d2] => { results := [.lit (.bool false)], args := [d1, d2] }
  | _ => none }
def FnScanNumberMaximalMunchWrongFalsely : Prop := fnScanNumberMaximalMunchRow.holds Try.pinned (OpenSpec.ofChange fnScanNumberMaximalMunchWrong)

/-- 'zzlaws_benchdata_b1.FnScanNumberReadsWholeNumbers': WHATEVER THE INPUT: true; the input reads as it did. -/
def fnScanNumberReadsWholeNumbersSpec : ChangeSpec := { name := "fnScanNumberReadsWholeNumbers", fn := fun _ => fun
  | [d1, d2, d3] => { results := [.lit (.bool true)], args := [d1, d2, d3] }
  | _ => none }
def fnScanNumberReadsWholeNumbersRow : OpenClaim := { program := "qxb6619434a", sum := "081bef7c41877d79d1cb1350cc0fc61ab055e5bd34aae03009d6d48ca50e1150", func := "example.com/calipers/calipers/zzlaws_benchdata_b1.FnScanNumberReadsWholeNumbers", spec := "fnScanNumberReadsWholeNumbers", apart := false }
def FnScanNumberReadsWholeNumbersSaid : Prop := fnScanNumberReadsWholeNumbersRow.holds Try.pinned (OpenSpec.ofChange fnScanNumberReadsWholeNumbersSpec)

/-- ITS FALSE NEIGHBOUR: 'it returns false'. Refute it at one input. -/
def fnScanNumberReadsWholeNumbersWrong : ChangeSpec := { name := "fnScanNumberReadsWholeNumbers", fn := fun _ => fun
  | [d1, d2, d3] => { results := [.lit (.bool false)], args := [d1, d2, d3] }
  | _ => none }
def FnScanNumberReadsWholeNumbersWrongFalsely : Prop := fnScanNumberReadsWholeNumbersRow.holds Try.pinned (OpenSpec.ofChange fnScanNumberReadsWholeNumbersWrong)

/-- 'zzlaws_benchdata_b1.FnNextFieldWalksTheFields': WHATEVER THE INPUT: true; the input reads as it did. -/
def fnNextFieldWalksTheFieldsSpec : ChangeSpec := { name := "fnNextFieldWalksTheFields", fn := fun _ => fun
  | [d] => { results := [.lit (.bool true)], args := [d] }
  | _ => none }
def fnNextFieldWalksTheFieldsRow : OpenClaim := { program := "qxb6619434a", sum := "081bef7c41877d79d1cb1350cc0fc61ab055e5bd34aae03009d6d48ca50e1150", func := "example.com/calipers/calipers/zzlaws_benchdata_b1.FnNextFieldWalksTheFields", spec := "fnNextFieldWalksTheFields", apart := false }
def FnNextFieldWalksTheFieldsSaid : Prop := fnNextFieldWalksTheFieldsRow.holds Try.pinned (OpenSpec.ofChange fnNextFieldWalksTheFieldsSpec)

/-- ITS FALSE NEIGHBOUR: 'it returns false'. Refute it at one input. -/
def fnNextFieldWalksTheFieldsWrong : ChangeSpec := { name := "fnNextFieldWalksTheFields", fn := fun _ => fun
  | [d] => { results := [.lit (.bool false)], args := [d] }
  | _ => none }
def FnNextFieldWalksTheFieldsWrongFalsely : Prop := fnNextFieldWalksTheFieldsRow.holds Try.pinned (OpenSpec.ofChange fnNextFieldWalksTheFieldsWrong)

/-- 'zzlaws_benchdata_b1.FnNextFieldCutAfterBlank': WHATEVER THE INPUT: true; the input reads as it did. -/
def fnNextFieldCutAfterBlankSpec : ChangeSpec := { name := "fnNextFieldCutAfterBlank", fn := fun _ => fun
  | [d1, d2] => { results := [.lit (.bool true)], args := [d1, d2] }
  | _ => none }
def fnNextFieldCutAfterBlankRow : OpenClaim := { program := "qxb6619434a", sum := "081bef7c41877d79d1cb1350cc0fc61ab055e5bd34aae03009d6d48ca50e1150", func := "example.com/calipers/calipers/zzlaws_benchdata_b1.FnNextFieldCutAfterBlank", spec := "fnNextFieldCutAfterBlank", apart := false }
def FnNextFieldCutAfterBlankSaid : Prop := fnNextFieldCutAfterBlankRow.holds Try.pinned (OpenSpec.ofChange fnNextFieldCutAfterBlankSpec)

/-- ITS FALSE NEIGHBOUR: 'it returns false'. Refute it at one input. -/
def fnNextFieldCutAfterBlankWrong : ChangeSpec := { name := "fnNextFieldCutAfterBlank", fn := fun _ => fun
  | [d1, d2] => { results := [.lit (.bool false)], args := [d1, d2] }
  | _ => none }
def FnNextFieldCutAfterBlankWrongFalsely : Prop := fnNextFieldCutAfterBlankRow.holds Try.pinned (OpenSpec.ofChange fnNextFieldCutAfterBlankWrong)

end Rows
end Go.Proofs.Qxb6619434a
