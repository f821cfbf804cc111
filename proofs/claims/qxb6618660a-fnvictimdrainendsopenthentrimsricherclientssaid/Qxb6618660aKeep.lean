import Derived.Test.Qxb6618660aGive
import Derived.Test.Qxb6618660aSpecB2
namespace Go.Proofs.Qxb6618660a
open Go.RowKit Go.MuLone Go.Maps Go.WideMaps
set_option linter.unusedVariables false
set_option linter.unusedSimpArgs false

/-- All blocks of the state lie below L. -/
structure Lim (L bb pb n : Nat) (H : Nat → VH) (hb : Nat → Nat) (cb : ByteArray → Nat) : Prop where
  l1 : bb < L
  l2 : ∀ j, j < n → hb j < L
  l3 : ∀ s, Pres H n s → cb s < L
  l4 : pb < L

theorem Built.lim {w : World} {B0 bb mb pb N n np : Nat} {H : Nat → VH} {hb : Nat → Nat} {cb : ByteArray → Nat} {ct : Nat → Int} {D : DataW Unit} (B : Built w B0 bb mb pb N n np H hb cb ct D) : Lim w.heap.size bb pb n H hb cb :=
  ⟨B.pbb.lt, fun j h => (B.hp j h).lt, fun s h => (B.cp s h).lt, B.ppb.lt⟩

theorem Built.belowL {w w' : World} {B0 bb mb pb N i np : Nat} {H : Nat → VH} {hb : Nat → Nat} {cb : ByteArray → Nat} {ct : Nat → Int} {D : DataW Unit} (B : Built w B0 bb mb pb N i np H hb cb ct D)
    {L : Nat} (l : Lim L bb pb i H hb cb) (hB : ∀ x, x < L → w'.heap[x]? = w.heap[x]?) : Built w' B0 bb mb pb N i np H hb cb ct D := by
  have cl : ∀ b o, b < L → w'.cell? ⟨b, o, none⟩ = w.cell? ⟨b, o, none⟩ := fun b o h => World.cell?_of_block (a := ⟨b, o, none⟩) (hB b h)
  have hmbb := B.mbb
  have l1 := l.l1
  exact {
    base := B.base, mbb := B.mbb, bpb := B.bpb, hlo := B.hlo, clo := B.clo, hinj := B.hinj, cinj := B.cinj, hc := B.hc
    b0 := (cl bb 0 l1).trans B.b0
    b3 := by obtain ⟨u, h⟩ := B.b3; exact ⟨u, (cl bb 3 l1).trans h⟩
    b4 := by obtain ⟨u, h⟩ := B.b4; exact ⟨u, (cl bb 4 l1).trans h⟩
    b6 := (cl bb 6 l1).trans B.b6
    pbb := B.pbb.of_heap (hB bb l1)
    own := by obtain ⟨es, clock, h, r⟩ := B.own; exact ⟨es, clock, (hB mb (by omega)).trans h, r⟩
    says := B.says
    h0 := fun j h => (cl _ 0 (l.l2 j h)).trans (B.h0 j h)
    h1 := fun j h => (cl _ 1 (l.l2 j h)).trans (B.h1 j h)
    hh := fun j h => (B.hh j h).congr fun o _ _ => cl _ o (l.l2 j h)
    hp := fun j h => (B.hp j h).of_heap (hB _ (l.l2 j h))
    cp := fun s h => (B.cp s h).of_heap (hB _ (l.l3 s h))
    c1 := fun s h => (cl _ 1 (l.l3 s h)).trans (B.c1 s h)
    c2 := fun s h => (cl _ 2 (l.l3 s h)).trans (B.c2 s h)
    c3 := fun s h => (cl _ 3 (l.l3 s h)).trans (B.c3 s h)
    c4 := fun s h => (cl _ 4 (l.l3 s h)).trans (B.c4 s h)
    ch := fun s h => Chain.congr _ _ (fun b hb' => by obtain ⟨k, hk, _, rfl⟩ := mem_chn hb'; exact cl _ 8 (l.l2 k hk)) (B.ch s h)
    ptr := fun j h => (cl _ j l.l4).trans (B.ptr j h)
    cbd := B.cbd
    isml := B.isml
    ppb := B.ppb.of_heap (hB _ l.l4)
    pex := fun j h => by obtain ⟨v, e⟩ := B.pex j h; exact ⟨v, (cl _ j l.l4).trans e⟩ }

/-- A slice of bools of the law's own. -/
structure BoolsAt (w : World) (b n : Nat) (E : Nat → Bool) : Prop where
  pl : Plain w b
  at' : ∀ j, j < n → w.cell? ⟨b, j, none⟩ = some (.bool (E j))
theorem BoolsAt.of_heap {w w' : World} {b n : Nat} {E : Nat → Bool} (h : BoolsAt w b n E) (e : w'.heap[b]? = w.heap[b]?) : BoolsAt w' b n E :=
  ⟨h.pl.of_heap e, fun j hj => (World.cell?_of_block (a := ⟨b, j, none⟩) e).trans (h.at' j hj)⟩
theorem BoolsAt.below {w w' : World} {b n : Nat} {E : Nat → Bool} (h : BoolsAt w b n E) (hB : Below w.heap.size w w') : BoolsAt w' b n E := h.of_heap (hB.block b h.pl.lt)
theorem BoolsAt.other {w : World} {b n : Nat} {E : Nat → Bool} (h : BoolsAt w b n E) {a : Addr} (ha : ¬ a.block = b) (v : Value) : BoolsAt (w.setCell a v) b n E :=
  h.of_heap (Below.heap_setCell w a v b (fun e => ha e.symm))
theorem BoolsAt.set {w : World} {b n : Nat} {E : Nat → Bool} (h : BoolsAt w b n E) {j : Nat} (hj : j < n) : BoolsAt (w.setCell ⟨b, j, none⟩ (.bool true)) b n (updE E j) := by
  refine ⟨h.pl.set _ _, fun q hq => ?_⟩
  by_cases e : q = j
  · subst e
    rw [World.cell?_setCell_same _ _ _ (h.at' q hq)]
    simp [updE]
  · rw [World.cell?_setCell_other _ _ _ _ (fun x => e (by injection x with _ h2; exact h2.symm)), h.at' q hq]
    simp [updE, e]
theorem info4 : (Try.prog.info? 4).map (fun i => (i.zero, i.size, i.bytes)) = some (some (.bool false), 1, 1) := by kernel_rfl
theorem bools_made (w : World) (n : Nat) : BoolsAt (w.alloc (.cells (madeCells #[.bool false] n) 4)) w.heap.size n (fun _ => false) := by
  refine ⟨plain_new _ _ _, fun j hj => ?_⟩
  rw [cell_new]
  have h : (madeCells #[Value.bool false] n)[j]? = some ((madeCells #[Value.bool false] n)[j]'(by rw [size_madeCells]; exact hj)) := Array.getElem?_eq_getElem _
  rw [h]
  simp [madeCells, Nat.mod_one]
end Go.Proofs.Qxb6618660a
