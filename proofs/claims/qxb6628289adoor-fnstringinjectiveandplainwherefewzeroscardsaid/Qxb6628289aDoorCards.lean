/-
  DERIVED. GIVEN WITH THE SEED: THE CARDS: each row of Qxb6628289aDoorRows.lean that lists a variable, with what it lists TIED to the program's text (the seventh form; the later family's looks); each row that meets fmt, with fmt's text TOLD by the authors' own Lean function (tested against real Go, not proved from fmt's source: count such statements apart). THE CARD IS WHAT COUNTS. Prove the row's statement (the work); the ties are given (Qxb6628289aDoorTie.lean); close each card by the builder's one call (the guide's Derived/Test/ToyasCard.lean, 'card_holds'). Laid BY PROGRAM, IN A SANDBOX (cutbox-door.mjs). By AI agents, Wed Nov 11 2026. No macro, syntax, notation, axiom, sorry.
-/
import Derived.Test.Qxb6628289aDoorRows
import GoSem.ClaimSeven
namespace Go.Proofs.Qxb6628289aDoor
namespace Rows

/-- THE TIED CARD OF 'zzlaws_internal_stream_b1.FnStringSignAndReadBack'. -/
def fnStringSignAndReadBackCard : Claim7 := { stood := { row := fnStringSignAndReadBackRow, standIns := [], harness := (true, "1baedc1fdd766eaf368c2d05f9fa322459f8d66d58c79020be655a2fe9aafbbc"), looks := false }, kinds := [], alts := [], laidByText := true, laidKinds := [.data, .data, .data], laidTests := true, laidLooks := .later }
def FnStringSignAndReadBackCardSaid : Prop := Claim7.holds Tryd.pinned (.plain (OpenSpec.ofChange fnStringSignAndReadBackSpec)) fnStringSignAndReadBackCard

/-- THE TIED CARD OF 'zzlaws_internal_stream_b1.FnStringInjectiveAndPlainWhereFewZeros'. -/
def fnStringInjectiveAndPlainWhereFewZerosCard : Claim7 := { stood := { row := fnStringInjectiveAndPlainWhereFewZerosRow, standIns := [], harness := (true, "1baedc1fdd766eaf368c2d05f9fa322459f8d66d58c79020be655a2fe9aafbbc"), looks := false }, kinds := [], alts := [], laidByText := true, laidKinds := [.data, .data, .data], laidTests := true, laidLooks := .later }
def FnStringInjectiveAndPlainWhereFewZerosCardSaid : Prop := Claim7.holds Tryd.pinned (.plain (OpenSpec.ofChange fnStringInjectiveAndPlainWhereFewZerosSpec)) fnStringInjectiveAndPlainWhereFewZerosCard
end Rows
end Go.Proofs.Qxb6628289aDoor
