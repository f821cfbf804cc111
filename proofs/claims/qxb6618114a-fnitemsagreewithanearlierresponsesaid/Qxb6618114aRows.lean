/-
  No cell of these rows narrows 'for every input' (looked for: loops, veiled, ifaces, maps, wideKeys, modest, calm, conditions, laid).
  DERIVED. THE GIVEN ROWS OF THIS SEAT. 4 by the template 'for every input the law returns true; each argument reads behind the call as it read before'; 0 by the template 'total and deterministic' (their statements: Qxb6618114aTotals.lean).
  GIVEN WITH THE SEED: the statements are not yours to turn. If you find one false, say at which input.
  Laid BY PROGRAM, IN A SANDBOX (cutbox-rows.mjs): the forced cells as the released guide's own fill.sh prints them over the translation 551d686b2e573dfc… (all of the seat's roots in one cut). By AI agents, Wed Nov 11 2026. No macro, syntax, notation, axiom, sorry.
-/
import Derived.Test.Qxb6618114aChecked
import GoSem.Claim
import GoSem.ClaimJoined
import GoSem.ClaimMapViews
import Derived.JoinedTies
import Derived.KernelRfl
namespace Go.Proofs.Qxb6618114a
/- THE CELL 'sum', in the pinned program and in every row, IS THE sha256 OF THE DUMP (.gsa) THAT Qxb6618114aProg.lean LOADS. Nothing in Lean hashes anything: it is a label: what it is worth is what the hold of that sum in a sandbox is worth. -/
noncomputable def Try.pinned : Pinned := { name := "qxb6618114a", sum := "551d686b2e573dfc6bdead81ebe238bf3c8da90eb0a1e179990f6cc7f57c2898", checked := Try.checked }
namespace Rows
def none {H : Type} : Left H := { results := [], args := [] }

/-- 'zzlaws_standin_b1.FnRememberMatchesModel': WHATEVER THE INPUT: true; the input reads as it did. -/
def fnRememberMatchesModelSpec : ChangeSpec := { name := "fnRememberMatchesModel", fn := fun _ => fun
  | [d1, d2, d3, d4, d5, d6, d7, d8] => { results := [.lit (.bool true)], args := [d1, d2, d3, d4, d5, d6, d7, d8] }
  | _ => none }
def fnRememberMatchesModelRow : OpenClaim := { program := "qxb6618114a", sum := "551d686b2e573dfc6bdead81ebe238bf3c8da90eb0a1e179990f6cc7f57c2898", func := "example.com/ledger-of-turns/ledger-of-turns/zzlaws_standin_b1.FnRememberMatchesModel", spec := "fnRememberMatchesModel", apart := false }
def FnRememberMatchesModelSaid : Prop := fnRememberMatchesModelRow.holds Try.pinned (OpenSpec.ofChange fnRememberMatchesModelSpec)

/-- ITS FALSE NEIGHBOUR: 'it returns false'. Refute it at one input. -/
def fnRememberMatchesModelWrong : ChangeSpec := { name := "fnRememberMatchesModel", fn := fun _ => fun
  | [d1, d2, d3, d4, d5, d6, d7, d8] => { results := [.lit (.bool false)], args := [d1, d2, d3, d4, d5, d6, d7, d8] }
  | _ => none }
def FnRememberMatchesModelWrongFalsely : Prop := fnRememberMatchesModelRow.holds Try.pinned (OpenSpec.ofChange fnRememberMatchesModelWrong)

/-- 'zzlaws_standin_b1.FnRememberTwiceIsOnce': WHATEVER THE INPUT: true; the input reads as it did. -/
def fnRememberTwiceIsOnceSpec : ChangeSpec := { name := "fnRememberTwiceIsOnce", fn := fun _ => fun
  | [d1, d2, d3, d4, d5, d6, d7, d8] => { results := [.lit (.bool true)], args := [d1, d2, d3, d4, d5, d6, d7, d8] }
  | _ => none }
def fnRememberTwiceIsOnceRow : OpenClaim := { program := "qxb6618114a", sum := "551d686b2e573dfc6bdead81ebe238bf3c8da90eb0a1e179990f6cc7f57c2898", func := "example.com/ledger-of-turns/ledger-of-turns/zzlaws_standin_b1.FnRememberTwiceIsOnce", spec := "fnRememberTwiceIsOnce", apart := false }
def FnRememberTwiceIsOnceSaid : Prop := fnRememberTwiceIsOnceRow.holds Try.pinned (OpenSpec.ofChange fnRememberTwiceIsOnceSpec)

/-- ITS FALSE NEIGHBOUR: 'it returns false'. Refute it at one input. -/
def fnRememberTwiceIsOnceWrong : ChangeSpec := { name := "fnRememberTwiceIsOnce", fn := fun _ => fun
  | [d1, d2, d3, d4, d5, d6, d7, d8] => { results := [.lit (.bool false)], args := [d1, d2, d3, d4, d5, d6, d7, d8] }
  | _ => none }
def FnRememberTwiceIsOnceWrongFalsely : Prop := fnRememberTwiceIsOnceRow.holds Try.pinned (OpenSpec.ofChange fnRememberTwiceIsOnceWrong)

/-- 'zzlaws_standin_b1.FnItemsAreTheChainFlattened': WHATEVER THE INPUT: true; the input reads as it did. -/
def fnItemsAreTheChainFlattenedSpec : ChangeSpec := { name := "fnItemsAreTheChainFlattened", fn := fun _ => fun
  | [d1, d2, d3, d4, d5] => { results := [.lit (.bool true)], args := [d1, d2, d3, d4, d5] }
  | _ => none }
def fnItemsAreTheChainFlattenedRow : OpenClaim := { program := "qxb6618114a", sum := "551d686b2e573dfc6bdead81ebe238bf3c8da90eb0a1e179990f6cc7f57c2898", func := "example.com/ledger-of-turns/ledger-of-turns/zzlaws_standin_b1.FnItemsAreTheChainFlattened", spec := "fnItemsAreTheChainFlattened", apart := false }
def FnItemsAreTheChainFlattenedSaid : Prop := fnItemsAreTheChainFlattenedRow.holds Try.pinned (OpenSpec.ofChange fnItemsAreTheChainFlattenedSpec)

/-- ITS FALSE NEIGHBOUR: 'it returns false'. Refute it at one input. -/
def fnItemsAreTheChainFlattenedWrong : ChangeSpec := { name := "fnItemsAreTheChainFlattened", fn := fun _ => fun
  | [d1, d2, d3, d4, d5] => { results := [.lit (.bool false)], args := [d1, d2, d3, d4, d5] }
  | _ => none }
def FnItemsAreTheChainFlattenedWrongFalsely : Prop := fnItemsAreTheChainFlattenedRow.holds Try.pinned (OpenSpec.ofChange fnItemsAreTheChainFlattenedWrong)

/-- 'zzlaws_standin_b1.FnItemsAgreeWithAnEarlierResponse': WHATEVER THE INPUT: true; the input reads as it did. -/
def fnItemsAgreeWithAnEarlierResponseSpec : ChangeSpec := { name := "fnItemsAgreeWithAnEarlierResponse", fn := fun _ => fun
  | [d1, d2, d3, d4, d5, d6] => { results := [.lit (.bool true)], args := [d1, d2, d3, d4, d5, d6] }
  | _ => none }
def fnItemsAgreeWithAnEarlierResponseRow : OpenClaim := { program := "qxb6618114a", sum := "551d686b2e573dfc6bdead81ebe238bf3c8da90eb0a1e179990f6cc7f57c2898", func := "example.com/ledger-of-turns/ledger-of-turns/zzlaws_standin_b1.FnItemsAgreeWithAnEarlierResponse", spec := "fnItemsAgreeWithAnEarlierResponse", apart := false }
def FnItemsAgreeWithAnEarlierResponseSaid : Prop := fnItemsAgreeWithAnEarlierResponseRow.holds Try.pinned (OpenSpec.ofChange fnItemsAgreeWithAnEarlierResponseSpec)

/-- ITS FALSE NEIGHBOUR: 'it returns false'. Refute it at one input. -/
def fnItemsAgreeWithAnEarlierResponseWrong : ChangeSpec := { name := "fnItemsAgreeWithAnEarlierResponse", fn := fun _ => fun
  | [d1, d2, d3, d4, d5, d6] => { results := [.lit (.bool false)], args := [d1, d2, d3, d4, d5, d6] }
  | _ => none }
def FnItemsAgreeWithAnEarlierResponseWrongFalsely : Prop := fnItemsAgreeWithAnEarlierResponseRow.holds Try.pinned (OpenSpec.ofChange fnItemsAgreeWithAnEarlierResponseWrong)

end Rows
end Go.Proofs.Qxb6618114a
