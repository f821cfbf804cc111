import Derived.Test.Qxb6618660aZz2
import Derived.ProofKit
import Derived.OpenShut
import Derived.ShutString
import Derived.ChangeOld
import Derived.Deep.Slices
namespace Go.Proofs.Qxb6618660a
open Go.RowKit Go.Deep
set_option linter.unusedVariables false
set_option linter.unusedSimpArgs false

theorem cells35 : Try.prog.cellsOf 35 = 5 := by kernel_rfl
theorem cells9 : Try.prog.cellsOf 9 = 1 := by kernel_rfl
theorem cells2 : Try.prog.cellsOf 2 = 1 := by kernel_rfl
theorem cells3 : Try.prog.cellsOf 3 = 1 := by kernel_rfl
theorem cells4 : Try.prog.cellsOf 4 = 1 := by kernel_rfl

/-- What the walk is told of the argument. -/
def SliceSays (w : World) (a : Option Addr) (len : Nat) : Prop :=
  len = 0 ∨ (1048576 < len ∧ len ≤ maxLen) ∨ ∃ b o H, a = some ⟨b, o, none⟩ ∧ 0 < len ∧ Args w b o len H

theorem five {α : Type} (l : List α) (h : l.length = 5) : ∃ a b c d e, l = [a, b, c, d, e] := by
  match l, h with
  | [a, b, c, d, e], _ => exact ⟨a, b, c, d, e, rfl⟩

theorem open_holder {Hd : Type} {enc : TypeId × Value → Hd} {w : World} {base : Nat} {spare : Nat → Bool} {held : Bool} {n : Nat} {cs : List Value} {x : DataW Hd × List MemPlace}
    (h : DataW.trod enc Try.prog w base spare held n 35 cs = some x) : ∃ v : VH, cs = [.string v.client, .int .i64 v.cost, .int .i64 v.st, .bool v.yields, .bool v.gone] := by
  obtain ⟨xs, m, _, _, hl, hx, hf⟩ := DataW.trod_struct Try.underlying35 h
  rw [cells35] at hl
  obtain ⟨c0, c1, c2, c3, c4, rfl⟩ := five cs hl
  obtain ⟨y0, y1, y2, y3, y4, rfl⟩ := five xs hx
  have f0 := hf 0 _ rfl
  have f1 := hf 1 _ rfl
  have f2 := hf 2 _ rfl
  have f3 := hf 3 _ rfl
  have f4 := hf 4 _ rfl
  simp [cells9, cells2, cells3, cells4] at f0 f1 f2 f3 f4
  obtain ⟨s, e0, _, _⟩ := DataW.trod_string Try.underlying9 f0
  obtain ⟨k, e1, _, _⟩ := DataW.trod_int Try.underlying2 f1
  obtain ⟨t, e2, _, _⟩ := DataW.trod_int Try.underlying3 f2
  obtain ⟨y, e3, _⟩ := DataW.trod_bool Try.underlying4 f3
  obtain ⟨g, e4, _⟩ := DataW.trod_bool Try.underlying4 f4
  simp at e0 e1 e2 e3 e4
  exact ⟨⟨s, k, t, y, g⟩, by rw [e0, e1, e2, e3, e4]⟩

theorem slice_says {Hd : Type} {enc : TypeId × Value → Hd} {w : World} {spare : Nat → Bool} {held : Bool} {fuel : Nat} {a : Option Addr} {len cap : Nat} {x : DataW Hd × List MemPlace}
    (h : DataW.trod enc Try.prog w 0 spare held fuel 32 [.slice a len cap] = some x) : SliceSays w a len := by
  rcases open_slice Try.underlying32 h with ⟨e, _⟩ | ⟨ad, l, c, m, n, D, Pl, e, _, hl, hm, hmm, _, hx⟩
  · simp at e
    exact Or.inl e.2.1
  · simp at e
    obtain ⟨rfl, rfl, rfl⟩ := e
    by_cases h0 : len = 0
    · exact Or.inl h0
    · by_cases h1 : 1048576 < len
      · exact Or.inr (Or.inl ⟨h1, by omega⟩)
      · right; right
        have hml : len ≤ m := by rw [hmm]; split <;> omega
        obtain ⟨b, o, sp⟩ := ad
        have hs : sp = none := by
          obtain ⟨cs', hc, ht⟩ := hx 0 (by omega)
          rw [cells35] at hc
          obtain ⟨v, rfl⟩ := open_holder ht
          obtain ⟨_, _, hg⟩ := World.cells?_some hc
          have g0 := hg 0 (by omega)
          cases sp with
          | none => rfl
          | some q =>
            simp [World.cell?, Addr.add] at g0
            split at g0 <;> simp at g0
        subst hs
        have add_none : ∀ (o k : Nat), (⟨b, o, none⟩ : Addr).add k = ⟨b, o + k, none⟩ := fun o k => by
          unfold Addr.add
          by_cases hk : k = 0
          · subst hk; simp
          · simp [hk]
        have each : ∀ i, i < len → ∃ v : VH, ArgAt w b (o + i * 5) v ∧ b < w.heap.size := by
          intro i hi
          obtain ⟨cs', hc, ht⟩ := hx i (by omega)
          rw [cells35, add_none] at hc
          obtain ⟨v, rfl⟩ := open_holder ht
          obtain ⟨_, _, hg⟩ := World.cells?_some hc
          have hb := World.cells?_block hc (by omega)
          have g0 := hg 0 (by omega)
          have g1 := hg 1 (by omega)
          have g2 := hg 2 (by omega)
          have g3 := hg 3 (by omega)
          have g4 := hg 4 (by omega)
          rw [add_none] at g0 g1 g2 g3 g4
          exact ⟨v, ⟨g0, g1, g2, g3, g4⟩, hb⟩
        have inh : Inhabited VH := ⟨⟨ByteArray.empty, 0, 0, false, false⟩⟩
        obtain ⟨f, hf⟩ := choose_lt (α := VH) (p := fun i (v : VH) => ArgAt w b (o + i * 5) v ∧ b < w.heap.size) each
        exact ⟨b, o, f, rfl, by omega, ⟨fun j hj => (hf j hj).1, (hf 0 (by omega)).2, by omega⟩⟩
end Go.Proofs.Qxb6618660a
