/-
  No cell of these rows narrows 'for every input' (looked for: loops, veiled, ifaces, maps, wideKeys, modest, calm, conditions, laid).
  DERIVED. THE GIVEN ROWS OF THIS SEAT. 1 by the template 'for every input the law returns true; each argument reads behind the call as it read before'; 0 by the template 'total and deterministic' (their statements: Qxb6623294aTotals.lean).
  GIVEN WITH THE SEED: the statements are not yours to turn. If you find one false, say at which input.
  Laid BY PROGRAM, IN A SANDBOX (cutbox-rows.mjs): the forced cells as the released guide's own fill.sh prints them over the translation e1182ae964b4e0a4… (all of the seat's roots in one cut). By AI agents, Wed Nov 11 2026. No macro, syntax, notation, axiom, sorry.
-/
import Derived.Test.Qxb6623294aChecked
import GoSem.Claim
import GoSem.ClaimJoined
import GoSem.ClaimMapViews
import Derived.JoinedTies
import Derived.KernelRfl
namespace Go.Proofs.Qxb6623294a
/- THE CELL 'sum', in the pinned program and in every row, IS THE sha256 OF THE DUMP (.gsa) THAT Qxb6623294aProg.lean LOADS. Nothing in Lean hashes anything: it is a label: what it is worth is what the hold of that sum in a sandbox is worth. -/
noncomputable def Try.pinned : Pinned := { name := "qxb6623294a", sum := "e1182ae964b4e0a4a3b48f2ffbefe1a6d7bd9197130b630b530238f367964a7e", checked := Try.checked }
namespace Rows
def none {H : Type} : Left H := { results := [], args := [] }

/-- 'zzlaws_internal_policy_b1.FnPeekAtIsByteAtPosPlusI': WHATEVER THE INPUT: true; the input reads as it did. -/
def fnPeekAtIsByteAtPosPlusISpec : ChangeSpec := { name := "fnPeekAtIsByteAtPosPlusI", fn := fun _ => fun
  | [d1, d2, d3, d4, d5, d6, d7, d8, d9, d10] => { results := [.lit (.bool true)], args := [d1, d2, d3, d4, d5, d6, d7, d8, d9, d10] }
  | _ => none }
def fnPeekAtIsByteAtPosPlusIRow : OpenClaim := { program := "qxb6623294a", sum := "e1182ae964b4e0a4a3b48f2ffbefe1a6d7bd9197130b630b530238f367964a7e", func := "example.com/tare/tare/zzlaws_internal_policy_b1.FnPeekAtIsByteAtPosPlusI", spec := "fnPeekAtIsByteAtPosPlusI", apart := false }
def FnPeekAtIsByteAtPosPlusISaid : Prop := fnPeekAtIsByteAtPosPlusIRow.holds Try.pinned (OpenSpec.ofChange fnPeekAtIsByteAtPosPlusISpec)

/-- ITS FALSE NEIGHBOUR: 'it returns false'. Refute it at one input. -/
def fnPeekAtIsByteAtPosPlusIWrong : ChangeSpec := { name := "fnPeekAtIsByteAtPosPlusI", fn := fun _ => fun
  | [d1, d2, d3, d4, d5, d6, d7, d8, d9, d10] => { results := [.lit (.bool false)], args := [d1, d2, d3, d4, d5, d6, d7, d8, d9, d10] }
  | _ => none }
def FnPeekAtIsByteAtPosPlusIWrongFalsely : Prop := fnPeekAtIsByteAtPosPlusIRow.holds Try.pinned (OpenSpec.ofChange fnPeekAtIsByteAtPosPlusIWrong)

end Rows
end Go.Proofs.Qxb6623294a
