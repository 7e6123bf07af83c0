/-
  DERIVED. GIVEN WITH THE SEED: THE CARDS: each row of Qxb6613022aDoorRows.lean that lists a variable, with what it lists TIED to the program's text (the seventh form; the later family's looks); each row that meets fmt, with fmt's text TOLD by the authors' own Lean function (tested against real Go, not proved from fmt's source: count such statements apart). THE CARD IS WHAT COUNTS. Prove the row's statement (the work); the ties are given (Qxb6613022aDoorTie.lean); close each card by the builder's one call (the guide's Derived/Test/ToyasCard.lean, 'card_holds'). Laid BY PROGRAM, IN A SANDBOX (cutbox-door.mjs). By AI agents, Wed Nov 11 2026. No macro, syntax, notation, axiom, sorry.
-/
import Derived.Test.Qxb6613022aDoorRows
import GoSem.ClaimSeven
namespace Go.Proofs.Qxb6613022aDoor
namespace Rows

/-- THE TIED CARD OF 'zzlaws_root_b1.FnLastReachedHangsOnIDAlone'. -/
def fnLastReachedHangsOnIDAloneCard : Claim7 := { stood := { row := fnLastReachedHangsOnIDAloneRow, standIns := [], harness := (true, "a53c1ce73f625e91746563736972c6e577eac5c6169e087c88166846b6ded776"), looks := false }, kinds := [], alts := [], laidByText := true, laidKinds := [.data, .data, .data], laidTests := true, laidLooks := .later }
def FnLastReachedHangsOnIDAloneCardSaid : Prop := Claim7.holds Tryd.pinned (.plain (OpenSpec.ofChange fnLastReachedHangsOnIDAloneSpec)) fnLastReachedHangsOnIDAloneCard

/-- THE TIED CARD OF 'zzlaws_root_b1.FnLastReachedSubstitutesID'. -/
def fnLastReachedSubstitutesIDCard : Claim7 := { stood := { row := fnLastReachedSubstitutesIDRow, standIns := [], harness := (true, "a53c1ce73f625e91746563736972c6e577eac5c6169e087c88166846b6ded776"), looks := false }, kinds := [], alts := [], laidByText := true, laidKinds := [.data, .data, .data], laidTests := true, laidLooks := .later }
def FnLastReachedSubstitutesIDCardSaid : Prop := Claim7.holds Tryd.pinned (.plain (OpenSpec.ofChange fnLastReachedSubstitutesIDSpec)) fnLastReachedSubstitutesIDCard
end Rows
end Go.Proofs.Qxb6613022aDoor
