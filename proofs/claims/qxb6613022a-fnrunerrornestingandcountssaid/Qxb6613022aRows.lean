/-
  No cell of these rows narrows 'for every input' (looked for: loops, veiled, ifaces, maps, wideKeys, modest, calm, conditions, laid).
  DERIVED. THE GIVEN ROWS OF THIS SEAT. 3 by the template 'for every input the law returns true; each argument reads behind the call as it read before'; 0 by the template 'total and deterministic' (their statements: Qxb6613022aTotals.lean).
  GIVEN WITH THE SEED: the statements are not yours to turn. If you find one false, say at which input.
  Laid BY PROGRAM, IN A SANDBOX (cutbox-rows.mjs): the forced cells as the released guide's own fill.sh prints them over the translation 076d73a4ece2918a… (all of the seat's roots in one cut). By AI agents, Wed Nov 11 2026. No macro, syntax, notation, axiom, sorry.
-/
import Derived.Test.Qxb6613022aChecked
import GoSem.Claim
import GoSem.ClaimJoined
import GoSem.ClaimMapViews
import Derived.JoinedTies
import Derived.KernelRfl
namespace Go.Proofs.Qxb6613022a
/- THE CELL 'sum', in the pinned program and in every row, IS THE sha256 OF THE DUMP (.gsa) THAT Qxb6613022aProg.lean LOADS. Nothing in Lean hashes anything: it is a label: what it is worth is what the hold of that sum in a sandbox is worth. -/
noncomputable def Try.pinned : Pinned := { name := "qxb6613022a", sum := "076d73a4ece2918ab0d00adadf035d88e7bf0503e0b5330c0f619bcce66fa7bb", checked := Try.checked }
namespace Rows
def none {H : Type} : Left H := { results := [], args := [] }

/-- 'zzlaws_root_b1.FnRunErrorTextSplitsAtAnyCut': WHATEVER THE INPUT: true; the input reads as it did. -/
def fnRunErrorTextSplitsAtAnyCutSpec : ChangeSpec := { name := "fnRunErrorTextSplitsAtAnyCut", fn := fun _ => fun
  | [d1, d2] => { results := [.lit (.bool true)], args := [d1, d2] }
  | _ => none }
def fnRunErrorTextSplitsAtAnyCutRow : OpenClaim := { program := "qxb6613022a", sum := "076d73a4ece2918ab0d00adadf035d88e7bf0503e0b5330c0f619bcce66fa7bb", func := "example.com/lot-by-lot/lot-by-lot/zzlaws_root_b1.FnRunErrorTextSplitsAtAnyCut", spec := "fnRunErrorTextSplitsAtAnyCut", inPlace := ["internal/abi.NoEscape", "internal/bytealg.MakeNoZero"], unfollowed := true, recurses := true, apart := false }
def FnRunErrorTextSplitsAtAnyCutSaid : Prop := fnRunErrorTextSplitsAtAnyCutRow.holds Try.pinned (OpenSpec.ofChange fnRunErrorTextSplitsAtAnyCutSpec)

/-- ITS FALSE NEIGHBOUR: 'it returns false'. Refute it at one input. -/
def fnRunErrorTextSplitsAtAnyCutWrong : ChangeSpec := { name := "fnRunErrorTextSplitsAtAnyCut", fn := fun _ => fun
  | [d1, d2] => { results := [.lit (.bool false)], args := [d1, d2] }
  | _ => none }
def FnRunErrorTextSplitsAtAnyCutWrongFalsely : Prop := fnRunErrorTextSplitsAtAnyCutRow.holds Try.pinned (OpenSpec.ofChange fnRunErrorTextSplitsAtAnyCutWrong)

/-- 'zzlaws_root_b1.FnUnpopulatedReadErrorAgreesWithRunError': WHATEVER THE INPUT: true; the input reads as it did. -/
def fnUnpopulatedReadErrorAgreesWithRunErrorSpec : ChangeSpec := { name := "fnUnpopulatedReadErrorAgreesWithRunError", fn := fun _ => fun
  | [d] => { results := [.lit (.bool true)], args := [d] }
  | _ => none }
def fnUnpopulatedReadErrorAgreesWithRunErrorRow : OpenClaim := { program := "qxb6613022a", sum := "076d73a4ece2918ab0d00adadf035d88e7bf0503e0b5330c0f619bcce66fa7bb", func := "example.com/lot-by-lot/lot-by-lot/zzlaws_root_b1.FnUnpopulatedReadErrorAgreesWithRunError", spec := "fnUnpopulatedReadErrorAgreesWithRunError", inPlace := ["internal/abi.NoEscape", "internal/bytealg.MakeNoZero"], unfollowed := true, recurses := true, apart := false }
def FnUnpopulatedReadErrorAgreesWithRunErrorSaid : Prop := fnUnpopulatedReadErrorAgreesWithRunErrorRow.holds Try.pinned (OpenSpec.ofChange fnUnpopulatedReadErrorAgreesWithRunErrorSpec)

/-- ITS FALSE NEIGHBOUR: 'it returns false'. Refute it at one input. -/
def fnUnpopulatedReadErrorAgreesWithRunErrorWrong : ChangeSpec := { name := "fnUnpopulatedReadErrorAgreesWithRunError", fn := fun _ => fun
  | [d] => { results := [.lit (.bool false)], args := [d] }
  | _ => none }
def FnUnpopulatedReadErrorAgreesWithRunErrorWrongFalsely : Prop := fnUnpopulatedReadErrorAgreesWithRunErrorRow.holds Try.pinned (OpenSpec.ofChange fnUnpopulatedReadErrorAgreesWithRunErrorWrong)

/-- 'zzlaws_root_b1.FnRunErrorNestingAndCounts': WHATEVER THE INPUT: true; the input reads as it did. -/
def fnRunErrorNestingAndCountsSpec : ChangeSpec := { name := "fnRunErrorNestingAndCounts", fn := fun _ => fun
  | [d1, d2] => { results := [.lit (.bool true)], args := [d1, d2] }
  | _ => none }
def fnRunErrorNestingAndCountsRow : OpenClaim := { program := "qxb6613022a", sum := "076d73a4ece2918ab0d00adadf035d88e7bf0503e0b5330c0f619bcce66fa7bb", func := "example.com/lot-by-lot/lot-by-lot/zzlaws_root_b1.FnRunErrorNestingAndCounts", spec := "fnRunErrorNestingAndCounts", inPlace := ["internal/abi.NoEscape", "internal/bytealg.MakeNoZero"], unfollowed := true, recurses := true, apart := false }
def FnRunErrorNestingAndCountsSaid : Prop := fnRunErrorNestingAndCountsRow.holds Try.pinned (OpenSpec.ofChange fnRunErrorNestingAndCountsSpec)

/-- ITS FALSE NEIGHBOUR: 'it returns false'. Refute it at one input. -/
def fnRunErrorNestingAndCountsWrong : ChangeSpec := { name := "fnRunErrorNestingAndCounts", fn := fun _ => fun
  | [d1, d2] => { results := [.lit (.bool false)], args := [d1, d2] }
  | _ => none }
def FnRunErrorNestingAndCountsWrongFalsely : Prop := fnRunErrorNestingAndCountsRow.holds Try.pinned (OpenSpec.ofChange fnRunErrorNestingAndCountsWrong)

end Rows
end Go.Proofs.Qxb6613022a
