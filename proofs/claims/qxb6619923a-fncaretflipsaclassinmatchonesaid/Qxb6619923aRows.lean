/-
  No cell of these rows narrows 'for every input' (looked for: loops, veiled, ifaces, maps, wideKeys, modest, calm, conditions, laid).
  DERIVED. THE GIVEN ROWS OF THIS SEAT. 3 by the template 'for every input the law returns true; each argument reads behind the call as it read before'; 0 by the template 'total and deterministic' (their statements: Qxb6619923aTotals.lean).
  GIVEN WITH THE SEED: the statements are not yours to turn. If you find one false, say at which input.
  Laid BY PROGRAM, IN A SANDBOX (cutbox-rows.mjs): the forced cells as the released guide's own fill.sh prints them over the translation 8b2196f38ff58f36… (all of the seat's roots in one cut). By AI agents, Wed Nov 11 2026. No macro, syntax, notation, axiom, sorry.
-/
import Derived.Test.Qxb6619923aChecked
import GoSem.Claim
import GoSem.ClaimJoined
import GoSem.ClaimMapViews
import Derived.JoinedTies
import Derived.KernelRfl
namespace Go.Proofs.Qxb6619923a
/- THE CELL 'sum', in the pinned program and in every row, IS THE sha256 OF THE DUMP (.gsa) THAT Qxb6619923aProg.lean LOADS. Nothing in Lean hashes anything: it is a label: what it is worth is what the hold of that sum in a sandbox is worth. -/
noncomputable def Try.pinned : Pinned := { name := "qxb6619923a", sum := "8b2196f38ff58f364bb5b4b70c7358eb38e5fc865e6612667f179a525f57e75f", checked := Try.checked }
namespace Rows
def none {H : Type} : Left H := { results := [], args := [] }

/-- 'zzlaws_internal_glob_b1.FnMatchClassTakesInAnInsertedByte': WHATEVER THE INPUT: true; the input reads as it did. -/
def fnMatchClassTakesInAnInsertedByteSpec : ChangeSpec := { name := "fnMatchClassTakesInAnInsertedByte", fn := fun _ => fun
  | [d1, d2, d3, d4] => { results := [.lit (.bool true)], args := [d1, d2, d3, d4] }
  | _ => none }
def fnMatchClassTakesInAnInsertedByteRow : OpenClaim := { program := "qxb6619923a", sum := "8b2196f38ff58f364bb5b4b70c7358eb38e5fc865e6612667f179a525f57e75f", func := "example.com/isentrope/isentrope/zzlaws_internal_glob_b1.FnMatchClassTakesInAnInsertedByte", spec := "fnMatchClassTakesInAnInsertedByte", apart := false }
def FnMatchClassTakesInAnInsertedByteSaid : Prop := fnMatchClassTakesInAnInsertedByteRow.holds Try.pinned (OpenSpec.ofChange fnMatchClassTakesInAnInsertedByteSpec)

/-- ITS FALSE NEIGHBOUR: 'it returns false'. Refute it at one input. -/
def fnMatchClassTakesInAnInsertedByteWrong : ChangeSpec := { name := "fnMatchClassTakesInAnInsertedByte", fn := fun _ => fun
  | [d1, d2, d3, d4] => { results := [.lit (.bool false)], args := [d1, d2, d3, d4] }
  | _ => none }
def FnMatchClassTakesInAnInsertedByteWrongFalsely : Prop := fnMatchClassTakesInAnInsertedByteRow.holds Try.pinned (OpenSpec.ofChange fnMatchClassTakesInAnInsertedByteWrong)

/-- 'zzlaws_internal_glob_b1.FnOneItemClassReadsAsEscaped': WHATEVER THE INPUT: true; the input reads as it did. -/
def fnOneItemClassReadsAsEscapedSpec : ChangeSpec := { name := "fnOneItemClassReadsAsEscaped", fn := fun _ => fun
  | [d1, d2, d3] => { results := [.lit (.bool true)], args := [d1, d2, d3] }
  | _ => none }
def fnOneItemClassReadsAsEscapedRow : OpenClaim := { program := "qxb6619923a", sum := "8b2196f38ff58f364bb5b4b70c7358eb38e5fc865e6612667f179a525f57e75f", func := "example.com/isentrope/isentrope/zzlaws_internal_glob_b1.FnOneItemClassReadsAsEscaped", spec := "fnOneItemClassReadsAsEscaped", apart := false }
def FnOneItemClassReadsAsEscapedSaid : Prop := fnOneItemClassReadsAsEscapedRow.holds Try.pinned (OpenSpec.ofChange fnOneItemClassReadsAsEscapedSpec)

/-- ITS FALSE NEIGHBOUR: 'it returns false'. Refute it at one input. -/
def fnOneItemClassReadsAsEscapedWrong : ChangeSpec := { name := "fnOneItemClassReadsAsEscaped", fn := fun _ => fun
  | [d1, d2, d3] => { results := [.lit (.bool false)], args := [d1, d2, d3] }
  | _ => none }
def FnOneItemClassReadsAsEscapedWrongFalsely : Prop := fnOneItemClassReadsAsEscapedRow.holds Try.pinned (OpenSpec.ofChange fnOneItemClassReadsAsEscapedWrong)

/-- 'zzlaws_internal_glob_b1.FnCaretFlipsAClassInMatchOne': WHATEVER THE INPUT: true; the input reads as it did. -/
def fnCaretFlipsAClassInMatchOneSpec : ChangeSpec := { name := "fnCaretFlipsAClassInMatchOne", fn := fun _ => fun
  | [d1, d2, d3] => { results := [.lit (.bool true)], args := [d1, d2, d3] }
  | _ => none }
def fnCaretFlipsAClassInMatchOneRow : OpenClaim := { program := "qxb6619923a", sum := "8b2196f38ff58f364bb5b4b70c7358eb38e5fc865e6612667f179a525f57e75f", func := "example.com/isentrope/isentrope/zzlaws_internal_glob_b1.FnCaretFlipsAClassInMatchOne", spec := "fnCaretFlipsAClassInMatchOne", apart := false }
def FnCaretFlipsAClassInMatchOneSaid : Prop := fnCaretFlipsAClassInMatchOneRow.holds Try.pinned (OpenSpec.ofChange fnCaretFlipsAClassInMatchOneSpec)

/-- ITS FALSE NEIGHBOUR: 'it returns false'. Refute it at one input. -/
def fnCaretFlipsAClassInMatchOneWrong : ChangeSpec := { name := "fnCaretFlipsAClassInMatchOne", fn := fun _ => fun
  | [d1, d2, d3] => { results := [.lit (.bool false)], args := [d1, d2, d3] }
  | _ => none }
def FnCaretFlipsAClassInMatchOneWrongFalsely : Prop := fnCaretFlipsAClassInMatchOneRow.holds Try.pinned (OpenSpec.ofChange fnCaretFlipsAClassInMatchOneWrong)

end Rows
end Go.Proofs.Qxb6619923a
