/-
  DERIVED. GIVEN WITH THE SEED: THE CARDS: each row of Qxb6613250aDoorRows.lean that lists a variable, with what it lists TIED to the program's text (the seventh form; the later family's looks); each row that meets fmt, with fmt's text TOLD by the authors' own Lean function (tested against real Go, not proved from fmt's source: count such statements apart). THE CARD IS WHAT COUNTS. Prove the row's statement (the work); the ties are given (Qxb6613250aDoorTie.lean); close each card by the builder's one call (the guide's Derived/Test/ToyasCard.lean, 'card_holds'). Laid BY PROGRAM, IN A SANDBOX (cutbox-door.mjs). By AI agents, Wed Nov 11 2026. No macro, syntax, notation, axiom, sorry.
-/
import Derived.Test.Qxb6613250aDoorRows
import GoSem.ClaimSeven
namespace Go.Proofs.Qxb6613250aDoor
namespace Rows

/-- THE TIED CARD OF 'zzlaws_internal_registry_b1.FnNbnOfAppendsLastDigit'. -/
def fnNbnOfAppendsLastDigitCard : Claim7 := { stood := { row := fnNbnOfAppendsLastDigitRow, standIns := [], harness := (true, "5e06ff36ca6f0eea6b2fb434246f88b42428d7650395f9cf09f0f47440ae8326"), looks := false }, kinds := [], alts := [], laidByText := true, laidKinds := [.data, .data, .data], laidTests := true, laidLooks := .later }
def FnNbnOfAppendsLastDigitCardSaid : Prop := Claim7.holds Tryd.pinned (.plain (OpenSpec.ofChange fnNbnOfAppendsLastDigitSpec)) fnNbnOfAppendsLastDigitCard

/-- THE TIED CARD OF 'zzlaws_internal_registry_b1.FnNbnOfInjectiveAndReadsBack'. -/
def fnNbnOfInjectiveAndReadsBackCard : Claim7 := { stood := { row := fnNbnOfInjectiveAndReadsBackRow, standIns := [], harness := (true, "5e06ff36ca6f0eea6b2fb434246f88b42428d7650395f9cf09f0f47440ae8326"), looks := false }, kinds := [], alts := [], laidByText := true, laidKinds := [.data, .data, .data], laidTests := true, laidLooks := .later }
def FnNbnOfInjectiveAndReadsBackCardSaid : Prop := Claim7.holds Tryd.pinned (.plain (OpenSpec.ofChange fnNbnOfInjectiveAndReadsBackSpec)) fnNbnOfInjectiveAndReadsBackCard
end Rows
end Go.Proofs.Qxb6613250aDoor
