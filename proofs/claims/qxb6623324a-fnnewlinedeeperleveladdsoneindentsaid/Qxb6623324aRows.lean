/-
  No cell of these rows narrows 'for every input' (looked for: loops, veiled, ifaces, maps, wideKeys, modest, calm, conditions, laid).
  DERIVED. THE GIVEN ROWS OF THIS SEAT. 2 by the template 'for every input the law returns true; each argument reads behind the call as it read before'; 0 by the template 'total and deterministic' (their statements: Qxb6623324aTotals.lean).
  GIVEN WITH THE SEED: the statements are not yours to turn. If you find one false, say at which input.
  Laid BY PROGRAM, IN A SANDBOX (cutbox-rows.mjs): the forced cells as the released guide's own fill.sh prints them over the translation e782a7614deb106e… (all of the seat's roots in one cut). By AI agents, Wed Nov 11 2026. No macro, syntax, notation, axiom, sorry.
-/
import Derived.Test.Qxb6623324aChecked
import GoSem.Claim
import GoSem.ClaimJoined
import GoSem.ClaimMapViews
import Derived.JoinedTies
import Derived.KernelRfl
namespace Go.Proofs.Qxb6623324a
/- THE CELL 'sum', in the pinned program and in every row, IS THE sha256 OF THE DUMP (.gsa) THAT Qxb6623324aProg.lean LOADS. Nothing in Lean hashes anything: it is a label: what it is worth is what the hold of that sum in a sandbox is worth. -/
noncomputable def Try.pinned : Pinned := { name := "qxb6623324a", sum := "e782a7614deb106e24970d43469e28e5debd976856258e1f24bb3faa33586566", checked := Try.checked }
namespace Rows
def none {H : Type} : Left H := { results := [], args := [] }

/-- 'zzlaws_internal_jsoncodec_b1.FnNewlineDeeperLevelAddsOneIndent': WHATEVER THE INPUT: true; the input reads as it did. -/
def fnNewlineDeeperLevelAddsOneIndentSpec : ChangeSpec := { name := "fnNewlineDeeperLevelAddsOneIndent", fn := fun _ => fun
  | [d1, d2, d3, d4, d5] => { results := [.lit (.bool true)], args := [d1, d2, d3, d4, d5] }
  | _ => none }
def fnNewlineDeeperLevelAddsOneIndentRow : OpenClaim := { program := "qxb6623324a", sum := "e782a7614deb106e24970d43469e28e5debd976856258e1f24bb3faa33586566", func := "example.com/palisade/palisade/zzlaws_internal_jsoncodec_b1.FnNewlineDeeperLevelAddsOneIndent", spec := "fnNewlineDeeperLevelAddsOneIndent", apart := false }
def FnNewlineDeeperLevelAddsOneIndentSaid : Prop := fnNewlineDeeperLevelAddsOneIndentRow.holds Try.pinned (OpenSpec.ofChange fnNewlineDeeperLevelAddsOneIndentSpec)

/-- ITS FALSE NEIGHBOUR: 'it returns false'. Refute it at one input. -/
def fnNewlineDeeperLevelAddsOneIndentWrong : ChangeSpec := { name := "fnNewlineDeeperLevelAddsOneIndent", fn := fun _ => fun
  | [d1, d2, d3, d4, d5] => { results := [.lit (.bool false)], args := [d1, d2, d3, d4, d5] }
  | _ => none }
def FnNewlineDeeperLevelAddsOneIndentWrongFalsely : Prop := fnNewlineDeeperLevelAddsOneIndentRow.holds Try.pinned (OpenSpec.ofChange fnNewlineDeeperLevelAddsOneIndentWrong)

/-- 'zzlaws_internal_jsoncodec_b1.FnNewlineAppendsAfterBuf': WHATEVER THE INPUT: true; the input reads as it did. -/
def fnNewlineAppendsAfterBufSpec : ChangeSpec := { name := "fnNewlineAppendsAfterBuf", fn := fun _ => fun
  | [d1, d2, d3, d4, d5] => { results := [.lit (.bool true)], args := [d1, d2, d3, d4, d5] }
  | _ => none }
def fnNewlineAppendsAfterBufRow : OpenClaim := { program := "qxb6623324a", sum := "e782a7614deb106e24970d43469e28e5debd976856258e1f24bb3faa33586566", func := "example.com/palisade/palisade/zzlaws_internal_jsoncodec_b1.FnNewlineAppendsAfterBuf", spec := "fnNewlineAppendsAfterBuf", apart := false }
def FnNewlineAppendsAfterBufSaid : Prop := fnNewlineAppendsAfterBufRow.holds Try.pinned (OpenSpec.ofChange fnNewlineAppendsAfterBufSpec)

/-- ITS FALSE NEIGHBOUR: 'it returns false'. Refute it at one input. -/
def fnNewlineAppendsAfterBufWrong : ChangeSpec := { name := "fnNewlineAppendsAfterBuf", fn := fun _ => fun
  | [d1, d2, d3, d4, d5] => { results := [.lit (.bool false)], args := [d1, d2, d3, d4, d5] }
  | _ => none }
def FnNewlineAppendsAfterBufWrongFalsely : Prop := fnNewlineAppendsAfterBufRow.holds Try.pinned (OpenSpec.ofChange fnNewlineAppendsAfterBufWrong)

end Rows
end Go.Proofs.Qxb6623324a
