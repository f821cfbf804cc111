/-
  DERIVED. GIVEN WITH THE SEED: THE CARDS: each row of Qxb6618799aDoorRows.lean that lists a variable, with what it lists TIED to the program's text (the seventh form; the later family's looks); each row that meets fmt, with fmt's text TOLD by the authors' own Lean function (tested against real Go, not proved from fmt's source: count such statements apart). THE CARD IS WHAT COUNTS. Prove the row's statement (the work); the ties are given (Qxb6618799aDoorTie.lean); close each card by the builder's one call (the guide's Derived/Test/ToyasCard.lean, 'card_holds'). Laid BY PROGRAM, IN A SANDBOX (cutbox-door.mjs). By AI agents, Wed Nov 11 2026. No macro, syntax, notation, axiom, sorry.
-/
import Derived.Test.Qxb6618799aDoorRows
import GoSem.ClaimSeven
namespace Go.Proofs.Qxb6618799aDoor
namespace Rows

/-- THE TIED CARD OF 'zzlaws_internal_fstrm_b1.FnReadUint32WalksTheStreamInWords'. -/
def fnReadUint32WalksTheStreamInWordsCard : Claim7 := { stood := { row := fnReadUint32WalksTheStreamInWordsRow, standIns := [], harness := (true, "590d60c3dc6d3dcb9e9abcc804f86a3b88348e1edc6166bab038e750c0a3cacd"), looks := true }, kinds := [], alts := [], laidByText := true, laidKinds := [.sentinel, .sentinel, .sentinel], laidTests := true, laidLooks := .later }
def FnReadUint32WalksTheStreamInWordsCardSaid : Prop := Claim7.holds Tryd.pinned (.plain (OpenSpec.ofChange fnReadUint32WalksTheStreamInWordsSpec)) fnReadUint32WalksTheStreamInWordsCard

/-- THE TIED CARD OF 'zzlaws_internal_fstrm_b1.FnReadUint32AgreesWithReadFullOfFourBytes'. -/
def fnReadUint32AgreesWithReadFullOfFourBytesCard : Claim7 := { stood := { row := fnReadUint32AgreesWithReadFullOfFourBytesRow, standIns := [], harness := (true, "590d60c3dc6d3dcb9e9abcc804f86a3b88348e1edc6166bab038e750c0a3cacd"), looks := true }, kinds := [], alts := [], laidByText := true, laidKinds := [.sentinel, .sentinel, .sentinel], laidTests := true, laidLooks := .later }
def FnReadUint32AgreesWithReadFullOfFourBytesCardSaid : Prop := Claim7.holds Tryd.pinned (.plain (OpenSpec.ofChange fnReadUint32AgreesWithReadFullOfFourBytesSpec)) fnReadUint32AgreesWithReadFullOfFourBytesCard

/-- THE TIED CARD OF 'zzlaws_internal_fstrm_b1.FnReadFullFillsConsecutiveBytes'. -/
def fnReadFullFillsConsecutiveBytesCard : Claim7 := { stood := { row := fnReadFullFillsConsecutiveBytesRow, standIns := [], harness := (true, "590d60c3dc6d3dcb9e9abcc804f86a3b88348e1edc6166bab038e750c0a3cacd"), looks := true }, kinds := [], alts := [], laidByText := true, laidKinds := [.sentinel, .sentinel, .sentinel], laidTests := true, laidLooks := .later }
def FnReadFullFillsConsecutiveBytesCardSaid : Prop := Claim7.holds Tryd.pinned (.plain (OpenSpec.ofChange fnReadFullFillsConsecutiveBytesSpec)) fnReadFullFillsConsecutiveBytesCard
end Rows
end Go.Proofs.Qxb6618799aDoor
