import Derived.Test.Qxb6618114aGuards
import Derived.ProofKit
import Derived.OpenShut
import Derived.ShutString
import Derived.ChangeOld
import Derived.Deep.Slices
namespace Go.Proofs.Qxb6618114a
open Go.RowKit Go.Deep
set_option linter.unusedVariables false
set_option linter.unusedSimpArgs false

theorem cells88 : Try.prog.cellsOf 88 = 1 := by kernel_rfl
theorem cells9 : Try.prog.cellsOf 9 = 1 := by kernel_rfl
theorem cells3 : Try.prog.cellsOf 3 = 1 := by kernel_rfl

def emp0 : ByteArray := ByteArray.empty
theorem no_spot {w : World} {a : Addr} {v : Value} (h : w.cell? (a.add 0) = some v) : ∃ b o, a = ⟨b, o, none⟩ ∧ b < w.heap.size ∧ ∀ i, a.add i = ⟨b, o + i, none⟩ := by
  obtain ⟨b, o, sp⟩ := a
  cases sp with
  | none =>
    have e : ∀ i, (⟨b, o, none⟩ : Addr).add i = ⟨b, o + i, none⟩ := fun i => by
      unfold Addr.add
      by_cases hk : i = 0
      · subst hk; simp
      · simp [hk]
    rw [e] at h
    exact ⟨b, o, rfl, World.block_lt_of_cell? w _ h, e⟩
  | some q =>
    simp [World.cell?, Addr.add] at h
    split at h <;> simp at h

theorem ints_says {Hd : Type} {enc : TypeId × Value → Hd} {w : World} {spare : Nat → Bool} {held : Bool} {fuel : Nat} {a : Option Addr} {len cap : Nat} {x : DataW Hd × List MemPlace}
    (h : DataW.trod enc Try.prog w 0 spare held fuel 43 [.slice a len cap] = some x) : ∃ K, Ints w a len K := by
  rcases open_slice1 Try.underlying43 cells3 h with ⟨e, _⟩ | ⟨ad, l, c, m, n, V, D, Pl, e, _, hl, hm, hmm, _, hx⟩
  · simp at e
    obtain ⟨rfl, rfl, rfl⟩ := e
    exact ⟨fun _ => 0, fun i hi => by omega, by unfold maxLen; omega⟩
  · simp at e
    obtain ⟨rfl, rfl, rfl⟩ := e
    have hml : len ≤ m := by rw [hmm]; split <;> omega
    have each : ∀ i, i < len → ∃ k : Int, V i = .int .i64 k := fun i hi => by
      obtain ⟨k, e1, _, _⟩ := DataW.trod_int Try.underlying3 (hx i (by omega)).2
      simp at e1
      exact ⟨k, e1⟩
    obtain ⟨K, hK⟩ := choose_lt (α := Int) (p := fun i k => V i = .int .i64 k) each
    refine ⟨K, fun i hi => ?_, by omega⟩
    have hc := (hx i (by omega)).1
    rw [hK i hi] at hc
    obtain ⟨b, o, rfl, hb, he⟩ := no_spot (hx 0 (by omega)).1
    rw [he] at hc
    exact ⟨b, o, rfl, hb, hc⟩

theorem inner_says {Hd : Type} {enc : TypeId × Value → Hd} {w : World} {spare : Nat → Bool} {held : Bool} {fuel : Nat} {v : Value} {x : DataW Hd × List MemPlace}
    (h : DataW.trod enc Try.prog w 0 spare held fuel 88 [v] = some x) : ∃ ia m ic S, v = .slice ia m ic ∧ Inner w ia m S := by
  rcases open_slice1 Try.underlying88 cells9 h with ⟨e, _⟩ | ⟨ad, l, c, m, n, V, D, Pl, e, _, hl, hm, hmm, _, hx⟩
  · simp at e
    exact ⟨none, 0, 0, fun _ => emp0, e, fun i hi => by omega, by unfold maxLen; omega⟩
  · simp at e
    subst e
    have hml : l ≤ m := by rw [hmm]; split <;> omega
    have each : ∀ i, i < l → ∃ s : ByteArray, V i = .string s := fun i hi => by
      obtain ⟨s, e1, _, _⟩ := DataW.trod_string Try.underlying9 (hx i (by omega)).2
      simp at e1
      exact ⟨s, e1⟩
    obtain ⟨S, hS⟩ := choose_lt (α := ByteArray) (p := fun i s => V i = .string s) each
    refine ⟨some ad, l, c, S, rfl, fun i hi => ?_, by omega⟩
    have hc := (hx i (by omega)).1
    rw [hS i hi] at hc
    obtain ⟨b, o, rfl, hb, he⟩ := no_spot (hx 0 (by omega)).1
    rw [he] at hc
    exact ⟨b, o, rfl, hb, hc⟩

theorem outer_says {Hd : Type} {enc : TypeId × Value → Hd} {w : World} {spare : Nat → Bool} {held : Bool} {fuel : Nat} {a : Option Addr} {len cap : Nat} {x : DataW Hd × List MemPlace}
    (h : DataW.trod enc Try.prog w 0 spare held fuel 42 [.slice a len cap] = some x) : ∃ M S, Outer w a len M S := by
  rcases open_slice1 Try.underlying42 cells88 h with ⟨e, _⟩ | ⟨ad, l, c, m, n, V, D, Pl, e, _, hl, hm, hmm, _, hx⟩
  · simp at e
    obtain ⟨rfl, rfl, rfl⟩ := e
    exact ⟨fun _ => 0, fun _ _ => emp0, fun i hi => by omega, by unfold maxLen; omega⟩
  · simp at e
    obtain ⟨rfl, rfl, rfl⟩ := e
    have hml : len ≤ m := by rw [hmm]; split <;> omega
    have each : ∀ i, i < len → ∃ k : (Option Addr × Nat) × (Nat × (Nat → ByteArray)), V i = .slice k.1.1 k.1.2 k.2.1 ∧ Inner w k.1.1 k.1.2 k.2.2 := fun i hi => by
      obtain ⟨ia, m, ic, S, e1, hI⟩ := inner_says (hx i (by omega)).2
      exact ⟨((ia, m), (ic, S)), e1, hI⟩
    have inh : Inhabited ((Option Addr × Nat) × (Nat × (Nat → ByteArray))) := ⟨((none, 0), (0, fun _ => emp0))⟩
    obtain ⟨K, hK⟩ := choose_lt (α := (Option Addr × Nat) × (Nat × (Nat → ByteArray))) (p := fun i k => V i = .slice k.1.1 k.1.2 k.2.1 ∧ Inner w k.1.1 k.1.2 k.2.2) each
    refine ⟨fun i => (K i).1.2, fun i => (K i).2.2, fun i hi => ?_, by omega⟩
    have hc := (hx i (by omega)).1
    rw [(hK i hi).1] at hc
    obtain ⟨b, o, rfl, hb, he⟩ := no_spot (hx 0 (by omega)).1
    rw [he] at hc
    exact ⟨b, o, (K i).1.1, (K i).2.1, rfl, hb, hc, (hK i hi).2⟩
end Go.Proofs.Qxb6618114a
