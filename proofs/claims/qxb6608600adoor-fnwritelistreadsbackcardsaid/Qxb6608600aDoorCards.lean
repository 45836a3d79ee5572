/-
  DERIVED. GIVEN WITH THE SEED: THE CARDS: each row of Qxb6608600aDoorRows.lean that lists a variable, with what it lists TIED to the program's text (the seventh form; the later family's looks); each row that meets fmt, with fmt's text TOLD by the authors' own Lean function (tested against real Go, not proved from fmt's source: count such statements apart). THE CARD IS WHAT COUNTS. Prove the row's statement (the work); the ties are given (Qxb6608600aDoorTie.lean); close each card by the builder's one call (the guide's Derived/Test/ToyasCard.lean, 'card_holds'). Laid BY PROGRAM, IN A SANDBOX (cutbox-door.mjs). By AI agents, Wed Nov 11 2026. No macro, syntax, notation, axiom, sorry.
-/
import Derived.Test.Qxb6608600aDoorRows
import GoSem.ClaimSeven
namespace Go.Proofs.Qxb6608600aDoor
namespace Rows

/-- THE TIED CARD OF 'zzlaws_syntax_b1.FnWriteListCutAnywhere'. -/
def fnWriteListCutAnywhereCard : Claim7 := { stood := { row := fnWriteListCutAnywhereRow, standIns := [], harness := (true, "b551bfac2dd8a8349bb083b54d050c12d748d5211b365030a0b7990d356633d5"), looks := true }, kinds := [], alts := [], laidByText := true, laidKinds := [.data, .data, .data, .wider], laidTests := true, laidLooks := .later }
def FnWriteListCutAnywhereCardSaid : Prop := Claim7.holds Tryd.pinned (.plain (OpenSpec.ofChange fnWriteListCutAnywhereSpec)) fnWriteListCutAnywhereCard

/-- THE TIED CARD OF 'zzlaws_syntax_b1.FnWriteListReadsBack'. -/
def fnWriteListReadsBackCard : Claim7 := { stood := { row := fnWriteListReadsBackRow, standIns := [], harness := (true, "b551bfac2dd8a8349bb083b54d050c12d748d5211b365030a0b7990d356633d5"), looks := true }, kinds := [], alts := [], laidByText := true, laidKinds := [.data, .data, .data, .wider], laidTests := true, laidLooks := .later }
def FnWriteListReadsBackCardSaid : Prop := Claim7.holds Tryd.pinned (.plain (OpenSpec.ofChange fnWriteListReadsBackSpec)) fnWriteListReadsBackCard
end Rows
end Go.Proofs.Qxb6608600aDoor
