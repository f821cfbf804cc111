import Derived.Test.Qxb6618660aState
import Derived.Deep.OwnRows
namespace Go.Proofs.Qxb6618660a
open Go.RowKit Go.MuLone Go.Maps Go.WideMaps
set_option linter.unusedVariables false
set_option linter.unusedSimpArgs false

theorem info24 : (Try.prog.info? 24).map (fun i => (i.zero, i.size, i.bytes)) = some (some (.pointer none), 1, 8) := by kernel_rfl

theorem pres_zero {H : Nat → VH} {s : ByteArray} : ¬ Pres H 0 s := fun ⟨j, h, _⟩ => by omega

/-- The state behind New and make. -/
theorem Built.start (W : World) (B0 n : Nat) (x : Int) (H : Nat → VH) (hB : B0 ≤ W.heap.size) (hb : Nat → Nat) (cb : ByteArray → Nat) (ct : Nat → Int) :
    Built (((W.alloc (.map #[] 0)).alloc (.cells #[.int .i32 0, .int .u32 0, .int .i64 x, .int .i64 0, .int .i64 0, .int .i64 x, .map (some W.heap.size)] 56)).alloc (.cells (madeCells #[.pointer none] n) 24))
      B0 (W.heap.size + 1) W.heap.size (W.heap.size + 2) n 0 0 H hb cb ct (.map []) := by
  obtain ⟨W1, hW1⟩ : ∃ W1, W1 = W.alloc (.map #[] 0) := ⟨_, rfl⟩
  have z1 : W1.heap.size = W.heap.size + 1 := by rw [hW1, size_alloc]
  have o1 : W1.ownsMap Try.prog 9 ptrElem W.heap.size 0 (.map []) := by rw [hW1]; exact World.ownsMap_made _ _ _ _
  rw [← hW1]
  obtain ⟨W2, hW2⟩ : ∃ W2, W2 = W1.alloc (.cells #[.int .i32 0, .int .u32 0, .int .i64 x, .int .i64 0, .int .i64 0, .int .i64 x, .map (some W.heap.size)] 56) := ⟨_, rfl⟩
  have z2 : W2.heap.size = W.heap.size + 2 := by rw [hW2, size_alloc, z1]
  have o2 : W2.ownsMap Try.prog 9 ptrElem W.heap.size 0 (.map []) := by rw [hW2]; exact o1.alloc _
  have c2 : ∀ k, W2.cell? ⟨W.heap.size + 1, k, none⟩ = (#[.int .i32 0, .int .u32 0, .int .i64 x, .int .i64 0, .int .i64 0, .int .i64 x, .map (some W.heap.size)] : Array Value)[k]? := fun k => by rw [hW2, ← z1]; exact cell_new _ _ _ k
  have p2 : Plain W2 (W.heap.size + 1) := by rw [hW2, ← z1]; exact plain_new _ _ _
  rw [← hW2]
  have c3 : ∀ k, (W2.alloc (.cells (madeCells #[.pointer none] n) 24)).cell? ⟨W.heap.size + 1, k, none⟩ = W2.cell? ⟨W.heap.size + 1, k, none⟩ := fun k => cell_alloc_old (by omega)
  have p3 := plain_new W2 (madeCells #[.pointer none] n) 24
  rw [z2] at p3
  exact {
    base := hB, mbb := by omega, bpb := by omega
    hlo := fun j h => by omega
    clo := fun s h => absurd h pres_zero
    hinj := fun j k h => by omega
    cinj := fun s s' h => absurd h pres_zero
    hc := fun j s h => by omega
    b0 := by rw [c3, c2]; rfl
    b3 := ⟨0, by rw [c3, c2]; rfl⟩
    b4 := ⟨0, by rw [c3, c2]; rfl⟩
    b6 := by rw [c3, c2]; rfl
    pbb := p2.alloc _
    own := o2.alloc _
    says := ⟨fun s h => absurd h pres_zero, fun s h => absurd h pres_zero, fun s _ z => rfl⟩
    h0 := fun j h => by omega
    h1 := fun j h => by omega
    hh := fun j h => by omega
    hp := fun j h => by omega
    cp := fun s h => absurd h pres_zero
    c1 := fun s h => absurd h pres_zero
    c2 := fun s h => absurd h pres_zero
    c3 := fun s h => absurd h pres_zero
    c4 := fun s h => absurd h pres_zero
    ch := fun s h => absurd h pres_zero
    ptr := fun j h => by omega
    cbd := fun j h => by omega
    isml := by omega
    ppb := p3
    pex := fun j h => by
      refine ⟨(madeCells #[.pointer none] n)[j]'(by rw [size_madeCells]; exact h), ?_⟩
      rw [← z2, cell_new]
      exact Array.getElem?_eq_getElem _ }

/-- One holder more: joined, and its cost counted. -/
theorem effs (H : Nat → VH) (j : Nat) : (H j).eff = if (H j).gone then 0 else (H j).cost := rfl
def EffTo (H : Nat → VH) (ct : Nat → Int) (i : Nat) : Prop := ∀ j, j < i → ct j = (H j).eff

theorem Built.addJoined {w : World} {B0 bb mb pb N i np : Nat} {H : Nat → VH} {hb : Nat → Nat} {cb : ByteArray → Nat} {ct : Nat → Int} {D : DataW Unit} (B : Built w B0 bb mb pb N (i + 1) np H hb cb (updC ct i 0) D)
    (hE : EffTo H ct i) (hc : -1099511627776 ≤ (H i).cost ∧ (H i).cost ≤ 1099511627776) :
    Calls Try.prog 9 #[.pointer (some ⟨hb i, 0, none⟩), .int .i64 (H i).cost] w fun e w' => e = .returned (.tuple #[]) ∧ (∃ ct', EffTo H ct' (i + 1) ∧ Built w' B0 bb mb pb N (i + 1) np H hb cb ct' D) ∧ Below B0 w w' := by
  cases hg : (H i).gone with
  | true =>
    refine (B.add_gone (Nat.lt_succ_self i) (H i).cost hg).mono ?_
    rintro e w' ⟨rfl, h1, h2⟩
    refine ⟨rfl, ⟨_, fun j hj => ?_, h1⟩, h2⟩
    by_cases e : j = i
    · subst e; rw [updC_at, effs, hg]; rfl
    · rw [updC_lt (by omega)]; exact hE j (by omega)
  | false =>
    refine (B.add (Nat.lt_succ_self i) (H i).cost (by rw [updC_at]; omega) hg).mono ?_
    rintro e w' ⟨rfl, h1, h2⟩
    refine ⟨rfl, ⟨_, fun j hj => ?_, h1⟩, h2⟩
    by_cases e : j = i
    · subst e; rw [updC_at, updC_at, effs, hg]; simp
    · rw [updC_lt (by omega), updC_lt (by omega)]; exact hE j (by omega)
end Go.Proofs.Qxb6618660a
