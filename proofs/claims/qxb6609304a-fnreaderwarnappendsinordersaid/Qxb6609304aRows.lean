/-
  No cell of these rows narrows 'for every input' (looked for: loops, veiled, ifaces, maps, wideKeys, modest, calm, conditions, laid).
  DERIVED. THE GIVEN ROWS OF THIS SEAT. 1 by the template 'for every input the law returns true; each argument reads behind the call as it read before'; 0 by the template 'total and deterministic' (their statements: Qxb6609304aTotals.lean).
  GIVEN WITH THE SEED: the statements are not yours to turn. If you find one false, say at which input.
  Laid BY PROGRAM, IN A SANDBOX (cutbox-rows.mjs): the forced cells as the released guide's own fill.sh prints them over the translation 9aa3062963806dc9… (all of the seat's roots in one cut). By AI agents, Wed Nov 11 2026. No macro, syntax, notation, axiom, sorry.
-/
import Derived.Test.Qxb6609304aChecked
import GoSem.Claim
import GoSem.ClaimJoined
import GoSem.ClaimMapViews
import Derived.JoinedTies
import Derived.KernelRfl
namespace Go.Proofs.Qxb6609304a
/- THE CELL 'sum', in the pinned program and in every row, IS THE sha256 OF THE DUMP (.gsa) THAT Qxb6609304aProg.lean LOADS. Nothing in Lean hashes anything: it is a label: what it is worth is what the hold of that sum in a sandbox is worth. -/
noncomputable def Try.pinned : Pinned := { name := "qxb6609304a", sum := "9aa3062963806dc99fdc7e51665fdf98c1044cb05d7199b67887662c0fe3a3cb", checked := Try.checked }
namespace Rows
def none {H : Type} : Left H := { results := [], args := [] }

/-- 'zzlaws_root_b1.FnReaderWarnAppendsInOrder': WHATEVER THE INPUT: true; the input reads as it did. -/
def fnReaderWarnAppendsInOrderSpec : ChangeSpec := { name := "fnReaderWarnAppendsInOrder", fn := fun _ => fun
  | [d1, d2, d3] => { results := [.lit (.bool true)], args := [d1, d2, d3] }
  | _ => none }
def fnReaderWarnAppendsInOrderRow : OpenClaim := { program := "qxb6609304a", sum := "9aa3062963806dc99fdc7e51665fdf98c1044cb05d7199b67887662c0fe3a3cb", func := "example.com/precedence/precedence/zzlaws_root_b1.FnReaderWarnAppendsInOrder", spec := "fnReaderWarnAppendsInOrder", apart := false }
def FnReaderWarnAppendsInOrderSaid : Prop := fnReaderWarnAppendsInOrderRow.holds Try.pinned (OpenSpec.ofChange fnReaderWarnAppendsInOrderSpec)

/-- ITS FALSE NEIGHBOUR: 'it returns false'. Refute it at one input. -/
def fnReaderWarnAppendsInOrderWrong : ChangeSpec := { name := "fnReaderWarnAppendsInOrder", fn := fun _ => fun
  | [d1, d2, d3] => { results := [.lit (.bool false)], args := [d1, d2, d3] }
  | _ => none }
def FnReaderWarnAppendsInOrderWrongFalsely : Prop := fnReaderWarnAppendsInOrderRow.holds Try.pinned (OpenSpec.ofChange fnReaderWarnAppendsInOrderWrong)

end Rows
end Go.Proofs.Qxb6609304a
