/-
  NARROWER THAN 'FOR EVERY INPUT', by the rows' own cells (each row's printed sentence says how): FnReadUint32WalksTheStreamInWords: laid · FnReadUint32AgreesWithReadFullOfFourBytes: laid · FnReadFullFillsConsecutiveBytes: laid.
  DERIVED. THE GIVEN ROWS OF THIS SEAT. 3 by the template 'for every input the law returns true; each argument reads behind the call as it read before'; 0 by the template 'total and deterministic' (their statements: Qxb6618799aDoorTotals.lean).
  GIVEN WITH THE SEED: the statements are not yours to turn. If you find one false, say at which input.
  Laid BY PROGRAM, IN A SANDBOX (cutbox-rows.mjs): the forced cells as the released guide's own fill.sh prints them over the translation a18d2e9a05f42e86… (all of the seat's roots in one cut). By AI agents, Wed Nov 11 2026. No macro, syntax, notation, axiom, sorry.
-/
import Derived.Test.Qxb6618799aDoorChecked
import GoSem.Claim
import GoSem.ClaimJoined
import GoSem.ClaimMapViews
import Derived.JoinedTies
import Derived.KernelRfl
namespace Go.Proofs.Qxb6618799aDoor
/- THE CELL 'sum', in the pinned program and in every row, IS THE sha256 OF THE DUMP (.gsa) THAT Qxb6618799aDoorProg.lean LOADS. Nothing in Lean hashes anything: it is a label: what it is worth is what the hold of that sum in a sandbox is worth. -/
noncomputable def Tryd.pinned : Pinned := { name := "qxb6618799adoor", sum := "a18d2e9a05f42e86262432e78f68a3263b373a00c75adfe70d881a2eae87f250", checked := Tryd.checked }
namespace Rows
def none {H : Type} : Left H := { results := [], args := [] }

/- WHAT THE LISTED PACKAGE-LEVEL VARIABLES READ AS WHEN THE CALL BEGINS. Each datum BY PROGRAM (the guide's laid-datum.mjs) off the statement by which the dump's own 'gosem.cut.vars' lays the variable. In a bare row this is a premise. The card (Qxb6618799aDoorCards.lean) ties it to the program's text. -/
def laid_io_ErrShortBuffer {H : Type} : DataW H := .iface "*errors.errorString" (.ptr (.agg [.lit (.string [115, 104, 111, 114, 116, 32, 98, 117, 102, 102, 101, 114])]))
def laid_io_EOF {H : Type} : DataW H := .iface "*errors.errorString" (.ptr (.agg [.lit (.string [69, 79, 70])]))
def laid_io_ErrUnexpectedEOF {H : Type} : DataW H := .iface "*errors.errorString" (.ptr (.agg [.lit (.string [117, 110, 101, 120, 112, 101, 99, 116, 101, 100, 32, 69, 79, 70])]))

/-- 'zzlaws_internal_fstrm_b1.FnReadUint32WalksTheStreamInWords': WHATEVER THE INPUT: true; the input reads as it did. -/
def fnReadUint32WalksTheStreamInWordsSpec : ChangeSpec := { name := "fnReadUint32WalksTheStreamInWords", fn := fun _ => fun
  | [d] => { results := [.lit (.bool true)], args := [d] }
  | _ => none }
def fnReadUint32WalksTheStreamInWordsRow : OpenClaim := { program := "qxb6618799adoor", sum := "a18d2e9a05f42e86262432e78f68a3263b373a00c75adfe70d881a2eae87f250", func := "example.com/querytrail/querytrail/zzlaws_internal_fstrm_b1.FnReadUint32WalksTheStreamInWords", spec := "fnReadUint32WalksTheStreamInWords", inPlace := ["internal/reflectlite.TypeOf"], unfollowed := true, recurses := true, named := ["encoding/binary.BigEndian", "io.EOF", "io.ErrUnexpectedEOF", "io.ErrShortBuffer"], apart := false, laid := [("io.ErrShortBuffer", laid_io_ErrShortBuffer), ("io.EOF", laid_io_EOF), ("io.ErrUnexpectedEOF", laid_io_ErrUnexpectedEOF)] }
def FnReadUint32WalksTheStreamInWordsSaid : Prop := fnReadUint32WalksTheStreamInWordsRow.holds Tryd.pinned (OpenSpec.ofChange fnReadUint32WalksTheStreamInWordsSpec)

/-- ITS FALSE NEIGHBOUR: 'it returns false'. Refute it at one input. -/
def fnReadUint32WalksTheStreamInWordsWrong : ChangeSpec := { name := "fnReadUint32WalksTheStreamInWords", fn := fun _ => fun
  | [d] => { results := [.lit (.bool false)], args := [d] }
  | _ => none }
def FnReadUint32WalksTheStreamInWordsWrongFalsely : Prop := fnReadUint32WalksTheStreamInWordsRow.holds Tryd.pinned (OpenSpec.ofChange fnReadUint32WalksTheStreamInWordsWrong)

/-- 'zzlaws_internal_fstrm_b1.FnReadUint32AgreesWithReadFullOfFourBytes': WHATEVER THE INPUT: true; the input reads as it did. -/
def fnReadUint32AgreesWithReadFullOfFourBytesSpec : ChangeSpec := { name := "fnReadUint32AgreesWithReadFullOfFourBytes", fn := fun _ => fun
  | [d1, d2, d3] => { results := [.lit (.bool true)], args := [d1, d2, d3] }
  | _ => none }
def fnReadUint32AgreesWithReadFullOfFourBytesRow : OpenClaim := { program := "qxb6618799adoor", sum := "a18d2e9a05f42e86262432e78f68a3263b373a00c75adfe70d881a2eae87f250", func := "example.com/querytrail/querytrail/zzlaws_internal_fstrm_b1.FnReadUint32AgreesWithReadFullOfFourBytes", spec := "fnReadUint32AgreesWithReadFullOfFourBytes", inPlace := ["internal/reflectlite.TypeOf"], unfollowed := true, recurses := true, named := ["io.EOF", "io.ErrUnexpectedEOF", "io.ErrShortBuffer", "encoding/binary.BigEndian"], apart := false, laid := [("io.ErrShortBuffer", laid_io_ErrShortBuffer), ("io.EOF", laid_io_EOF), ("io.ErrUnexpectedEOF", laid_io_ErrUnexpectedEOF)] }
def FnReadUint32AgreesWithReadFullOfFourBytesSaid : Prop := fnReadUint32AgreesWithReadFullOfFourBytesRow.holds Tryd.pinned (OpenSpec.ofChange fnReadUint32AgreesWithReadFullOfFourBytesSpec)

/-- ITS FALSE NEIGHBOUR: 'it returns false'. Refute it at one input. -/
def fnReadUint32AgreesWithReadFullOfFourBytesWrong : ChangeSpec := { name := "fnReadUint32AgreesWithReadFullOfFourBytes", fn := fun _ => fun
  | [d1, d2, d3] => { results := [.lit (.bool false)], args := [d1, d2, d3] }
  | _ => none }
def FnReadUint32AgreesWithReadFullOfFourBytesWrongFalsely : Prop := fnReadUint32AgreesWithReadFullOfFourBytesRow.holds Tryd.pinned (OpenSpec.ofChange fnReadUint32AgreesWithReadFullOfFourBytesWrong)

/-- 'zzlaws_internal_fstrm_b1.FnReadFullFillsConsecutiveBytes': WHATEVER THE INPUT: true; the input reads as it did. -/
def fnReadFullFillsConsecutiveBytesSpec : ChangeSpec := { name := "fnReadFullFillsConsecutiveBytes", fn := fun _ => fun
  | [d1, d2, d3, d4, d5] => { results := [.lit (.bool true)], args := [d1, d2, d3, d4, d5] }
  | _ => none }
def fnReadFullFillsConsecutiveBytesRow : OpenClaim := { program := "qxb6618799adoor", sum := "a18d2e9a05f42e86262432e78f68a3263b373a00c75adfe70d881a2eae87f250", func := "example.com/querytrail/querytrail/zzlaws_internal_fstrm_b1.FnReadFullFillsConsecutiveBytes", spec := "fnReadFullFillsConsecutiveBytes", inPlace := ["internal/reflectlite.TypeOf"], unfollowed := true, recurses := true, named := ["io.EOF", "io.ErrUnexpectedEOF", "io.ErrShortBuffer"], apart := false, laid := [("io.ErrShortBuffer", laid_io_ErrShortBuffer), ("io.EOF", laid_io_EOF), ("io.ErrUnexpectedEOF", laid_io_ErrUnexpectedEOF)] }
def FnReadFullFillsConsecutiveBytesSaid : Prop := fnReadFullFillsConsecutiveBytesRow.holds Tryd.pinned (OpenSpec.ofChange fnReadFullFillsConsecutiveBytesSpec)

/-- ITS FALSE NEIGHBOUR: 'it returns false'. Refute it at one input. -/
def fnReadFullFillsConsecutiveBytesWrong : ChangeSpec := { name := "fnReadFullFillsConsecutiveBytes", fn := fun _ => fun
  | [d1, d2, d3, d4, d5] => { results := [.lit (.bool false)], args := [d1, d2, d3, d4, d5] }
  | _ => none }
def FnReadFullFillsConsecutiveBytesWrongFalsely : Prop := fnReadFullFillsConsecutiveBytesRow.holds Tryd.pinned (OpenSpec.ofChange fnReadFullFillsConsecutiveBytesWrong)

end Rows
end Go.Proofs.Qxb6618799aDoor
