import Derived.Test.Qxb6618799aDoorBytes
import Derived.Deep.RegionLaw
import Derived.BigQuiet
namespace Go.Proofs.Qxb6618799aDoor
open Go.RowKit
set_option linter.unusedVariables false
set_option linter.unusedSimpArgs false

/-- A bytes.Reader. -/
structure BR (w : World) (B : Nat) (d : Option Addr) (n c pos : Nat) : Prop where
  pl : Plain w B
  c0 : w.cell? ⟨B, 0, none⟩ = some (.slice d n c)
  c1 : w.cell? ⟨B, 1, none⟩ = some (.int .i64 (pos : Int))
  c2 : ∃ v, w.cell? ⟨B, 2, none⟩ = some v
/-- A bufio.Reader over it. -/
structure BU (w : World) (R U B : Nat) (rr ww : Nat) (ev : Value) : Prop where
  pl : Plain w R
  c0 : w.cell? ⟨R, 0, none⟩ = some (.slice (some ⟨U, 0, none⟩) 4096 4096)
  c1 : w.cell? ⟨R, 1, none⟩ = some (.iface 38 (.pointer (some ⟨B, 0, none⟩)))
  c2 : w.cell? ⟨R, 2, none⟩ = some (.int .i64 (rr : Int))
  c3 : w.cell? ⟨R, 3, none⟩ = some (.int .i64 (ww : Int))
  c4 : w.cell? ⟨R, 4, none⟩ = some ev
  c5 : ∃ v, w.cell? ⟨R, 5, none⟩ = some v
  c6 : ∃ v, w.cell? ⟨R, 6, none⟩ = some v

theorem Plain.of_heap {w w' : World} {b : Nat} (h : Plain w b) (e : w'.heap[b]? = w.heap[b]?) : Plain w' b := by
  obtain ⟨c, t, h⟩ := h; exact ⟨c, t, e.trans h⟩
theorem cell_of_heap {w w' : World} {b : Nat} (e : w'.heap[b]? = w.heap[b]?) (o : Nat) : w'.cell? ⟨b, o, none⟩ = w.cell? ⟨b, o, none⟩ :=
  World.cell?_of_block (a := ⟨b, o, none⟩) e
theorem BR.of_heap {w w' : World} {B : Nat} {d : Option Addr} {n c pos : Nat} (h : BR w B d n c pos) (e : w'.heap[B]? = w.heap[B]?) : BR w' B d n c pos :=
  ⟨h.pl.of_heap e, (cell_of_heap e 0).trans h.c0, (cell_of_heap e 1).trans h.c1, by obtain ⟨v, x⟩ := h.c2; exact ⟨v, (cell_of_heap e 2).trans x⟩⟩
theorem BU.of_heap {w w' : World} {R U B rr ww : Nat} {ev : Value} (h : BU w R U B rr ww ev) (e : w'.heap[R]? = w.heap[R]?) : BU w' R U B rr ww ev :=
  ⟨h.pl.of_heap e, (cell_of_heap e 0).trans h.c0, (cell_of_heap e 1).trans h.c1, (cell_of_heap e 2).trans h.c2, (cell_of_heap e 3).trans h.c3, (cell_of_heap e 4).trans h.c4, by obtain ⟨v, x⟩ := h.c5; exact ⟨v, (cell_of_heap e 5).trans x⟩, by obtain ⟨v, x⟩ := h.c6; exact ⟨v, (cell_of_heap e 6).trans x⟩⟩
theorem set_off {w : World} {b o k : Nat} {u v : Value} (h : w.cell? ⟨b, o, none⟩ = some u) (hk : o ≠ k) : (w.setCell ⟨b, k, none⟩ v).cell? ⟨b, o, none⟩ = some u := by
  rw [World.cell?_setCell_other _ _ _ _ (by intro x; injection x with _ h2; exact hk (by omega))]; exact h
theorem BU.set2 {w : World} {R U B rr ww : Nat} {ev : Value} (h : BU w R U B rr ww ev) (x : Nat) : BU (w.setCell ⟨R, 2, none⟩ (.int .i64 (x : Int))) R U B x ww ev :=
  ⟨h.pl.set _ _, set_off h.c0 (by decide), set_off h.c1 (by decide), World.cell?_setCell_same _ _ _ h.c2, set_off h.c3 (by decide), set_off h.c4 (by decide), by obtain ⟨v, e⟩ := h.c5; exact ⟨v, set_off e (by decide)⟩, by obtain ⟨v, e⟩ := h.c6; exact ⟨v, set_off e (by decide)⟩⟩
theorem BU.set3 {w : World} {R U B rr ww : Nat} {ev : Value} (h : BU w R U B rr ww ev) (x : Nat) : BU (w.setCell ⟨R, 3, none⟩ (.int .i64 (x : Int))) R U B rr x ev :=
  ⟨h.pl.set _ _, set_off h.c0 (by decide), set_off h.c1 (by decide), set_off h.c2 (by decide), World.cell?_setCell_same _ _ _ h.c3, set_off h.c4 (by decide), by obtain ⟨v, e⟩ := h.c5; exact ⟨v, set_off e (by decide)⟩, by obtain ⟨v, e⟩ := h.c6; exact ⟨v, set_off e (by decide)⟩⟩
theorem BU.set4 {w : World} {R U B rr ww : Nat} {ev : Value} (h : BU w R U B rr ww ev) (x : Value) : BU (w.setCell ⟨R, 4, none⟩ x) R U B rr ww x :=
  ⟨h.pl.set _ _, set_off h.c0 (by decide), set_off h.c1 (by decide), set_off h.c2 (by decide), set_off h.c3 (by decide), World.cell?_setCell_same _ _ _ h.c4, by obtain ⟨v, e⟩ := h.c5; exact ⟨v, set_off e (by decide)⟩, by obtain ⟨v, e⟩ := h.c6; exact ⟨v, set_off e (by decide)⟩⟩
theorem BU.set5 {w : World} {R U B rr ww : Nat} {ev : Value} (h : BU w R U B rr ww ev) (x : Value) : BU (w.setCell ⟨R, 5, none⟩ x) R U B rr ww ev :=
  ⟨h.pl.set _ _, set_off h.c0 (by decide), set_off h.c1 (by decide), set_off h.c2 (by decide), set_off h.c3 (by decide), set_off h.c4 (by decide), by obtain ⟨v, e⟩ := h.c5; exact ⟨x, World.cell?_setCell_same _ _ _ e⟩, by obtain ⟨v, e⟩ := h.c6; exact ⟨v, set_off e (by decide)⟩⟩
theorem BU.set6 {w : World} {R U B rr ww : Nat} {ev : Value} (h : BU w R U B rr ww ev) (x : Value) : BU (w.setCell ⟨R, 6, none⟩ x) R U B rr ww ev :=
  ⟨h.pl.set _ _, set_off h.c0 (by decide), set_off h.c1 (by decide), set_off h.c2 (by decide), set_off h.c3 (by decide), set_off h.c4 (by decide), by obtain ⟨v, e⟩ := h.c5; exact ⟨v, set_off e (by decide)⟩, by obtain ⟨v, e⟩ := h.c6; exact ⟨x, World.cell?_setCell_same _ _ _ e⟩⟩
theorem Bytes.of_heap {w w' : World} {D n : Nat} {X : Nat → Nat} (h : Bytes w D n X) (e : w'.heap[D]? = w.heap[D]?) : Bytes w' D n X := fun j hj => (cell_of_heap e j).trans (h j hj)

theorem info5s : (Tryd.prog.info? 5).map (·.size) = some 1 := by kernel_rfl

/-- (*bytes.Reader).Read at the end. -/
theorem bread_end (w : World) (B : Nat) (d : Option Addr) (n c pos : Nat) (E : Value) (a : Option Addr) (m c' : Nat) (hB : BR w B d n c pos) (hp : n ≤ pos) (hE : w.cell? ⟨1, 0, none⟩ = some E) :
    Calls Tryd.prog 49 #[.pointer (some ⟨B, 0, none⟩), .slice a m c'] w fun e w' => e = .returned (.tuple #[.int .i64 0, E]) ∧ Ch (fun _ => False) w w' := by
  have c0 := hB.c0
  have c1 := hB.c1
  clear hB
  go_enter Tryd.func49, Tryd.ntmps49
  go_wp2_with fail
  go_quiet (fail)
  go_wp2_with fail
  go_quiet (fail)
  go_wp2_with fail
  go_ret2
  exact ⟨rfl, ((Ch.refl _ w).drewN _).drewN _⟩

/-- The bytes that go over. -/
def cut (X : Nat → Nat) (pos k : Nat) : List Value := (List.range k).map fun q => bv (X (pos + q))
theorem length_cut (X : Nat → Nat) (pos k : Nat) : (cut X pos k).length = k := by simp [cut]
theorem cut_at (X : Nat → Nat) (pos k j : Nat) (h : j < k) : (cut X pos k)[j]? = some (bv (X (pos + j))) := by simp [cut, h]
theorem cut_none (X : Nat → Nat) (pos k j : Nat) (v : Value) (h : (cut X pos k)[j]? = some v) : j < k ∧ v = bv (X (pos + j)) := by
  have hj : j < k := by
    have := (List.getElem?_eq_some_iff.1 h).1
    rwa [length_cut] at this
  rw [cut_at X pos k j hj] at h
  exact ⟨hj, (Option.some.inj h).symm⟩
theorem cut_one (X : Nat → Nat) (pos k : Nat) : ∀ v ∈ cut X pos k, v.oneCell' = true := by
  intro v hv
  simp only [cut, List.mem_map] at hv
  obtain ⟨q, _, rfl⟩ := hv
  rfl

/-- (*bytes.Reader).Read into the buffer, where something is left. -/
theorem bread_some (w : World) (B D U : Nat) (n c pos k : Nat) (X : Nat → Nat) (cur : List Value) (t : TypeId) (hB : BR w B (some ⟨D, 0, none⟩) n c pos) (hp : pos < n) (hn : n ≤ 1048576) (hc : n ≤ c)
    (hX : Bytes w D n X) (hU : w.heap[U]? = some (.cells cur.toArray t (0, 0))) (hl : cur.length = 4096) (hk : k = min (n - pos) 4096) (hBU : B ≠ U) (hDU : D ≠ U) (hDB : D ≠ B) :
    Calls Tryd.prog 49 #[.pointer (some ⟨B, 0, none⟩), .slice (some ⟨U, 0, none⟩) 4096 4096] w fun e w' => e = .returned (.tuple #[.int .i64 (k : Int), .nilIface]) ∧ Ch (fun x => x = U ∨ x = B) w w' ∧
      w'.heap[U]? = some (.cells (splice cur 0 (cut X pos k)).toArray t (0, 0)) ∧ BR w' B (some ⟨D, 0, none⟩) n c (pos + k) := by
  have c0 := hB.c0
  have c1 := hB.c1
  obtain ⟨v2, c2⟩ := hB.c2
  have hfz := hB.pl.frozen
  go_enter Tryd.func49, Tryd.ntmps49
  go_wp2_with fail
  go_quiet (fail)
  go_wp2_with fail
  have c0' : ((w.drewN nq).setCell ⟨B, 2, none⟩ (.int .i64 (-1))).cell? ⟨B, 0, none⟩ = some (.slice (some ⟨D, 0, none⟩) n c) := by rw [World.cell?_setCell_other _ _ _ _ (by intro x; injection x with _ h2; cases h2)]; exact c0
  have c1' : ((w.drewN nq).setCell ⟨B, 2, none⟩ (.int .i64 (-1))).cell? ⟨B, 1, none⟩ = some (.int .i64 pos) := by rw [World.cell?_setCell_other _ _ _ _ (by intro x; injection x with _ h2; cases h2)]; exact c1
  have hU' : ((w.drewN nq).setCell ⟨B, 2, none⟩ (.int .i64 (-1))).heap[U]? = some (.cells cur.toArray t (0, 0)) := by
    rw [Below.heap_setCell (w.drewN nq) ⟨B, 2, none⟩ _ U hBU.symm]; exact hU
  have hD' : Bytes ((w.drewN nq).setCell ⟨B, 2, none⟩ (.int .i64 (-1))) D n X := hX.of_heap (Below.heap_setCell (w.drewN nq) ⟨B, 2, none⟩ _ D hDB)
  have hp' := hB.pl.of_heap (w' := w.drewN nq) rfl |>.set ⟨B, 2, none⟩ (.int .i64 (-1))
  have ch : Ch (fun x => x = U ∨ x = B) w ((w.drewN nq).setCell ⟨B, 2, none⟩ (.int .i64 (-1))) := ((Ch.refl _ w).drewN nq).setCell _ (Or.inr rfl) _
  have c2' : ((w.drewN nq).setCell ⟨B, 2, none⟩ (.int .i64 (-1))).cell? ⟨B, 2, none⟩ = some (.int .i64 (-1)) := World.cell?_setCell_same _ _ _ c2
  generalize ((w.drewN nq).setCell ⟨B, 2, none⟩ (.int .i64 (-1))) = w2 at c0' c1' c2' hU' hD' hp' ch ⊢
  clear c0 c1 c2 hU hX hB hfz
  have i1 : pos ≤ n := by omega
  have i2 : ¬ c = pos := by omega
  have hk' := hide hk
  have hkb : pos + k ≤ n ∧ k ≤ 4096 := by omega
  obtain ⟨hk1, hk2⟩ := hkb
  clear hk
  have d0 : ∀ cs, (w2.drew.setRow U cs).cell? ⟨B, 0, none⟩ = some (.slice (some ⟨D, 0, none⟩) n c) := fun cs => by rw [cell_setRow_other _ _ _ _ (by exact hBU)]; exact c0'
  have d1 : ∀ cs, (w2.drew.setRow U cs).cell? ⟨B, 1, none⟩ = some (.int .i64 pos) := fun cs => by rw [cell_setRow_other _ _ _ _ (by exact hBU)]; exact c1'
  have d2 : ∀ cs, (w2.drew.setRow U cs).cell? ⟨B, 2, none⟩ = some (.int .i64 (-1)) := fun cs => by rw [cell_setRow_other _ _ _ _ (by exact hBU)]; exact c2'
  have dp : ∀ cs, Plain (w2.drew.setRow U cs) B := fun cs => Plain.of_heap (w := w2) hp' (setRow_other w2.drew U B cs hBU)
  have dz : ∀ cs o, (w2.drew.setRow U cs).frozen? ⟨B, o, none⟩ = false := fun cs o => (dp cs).frozen o
  have hU'' : w2.drew.heap[U]? = some (.cells cur.toArray t (0, 0)) := hU'
  have hD'' : Bytes w2.drew D n X := hD'
  have hsrc : ∀ j v, (cut X pos k)[j]? = some v → w2.drew.cell? ((⟨D, pos, none⟩ : Addr).add j) = some v := fun j v h => by
    obtain ⟨hj, rfl⟩ := cut_none X pos k j v h
    rw [show (⟨D, pos, none⟩ : Addr).add j = ⟨D, pos + j, none⟩ by unfold Addr.add; split <;> simp_all]
    exact hD'' (pos + j) (by omega)
  go_region_law (refine step_copy_row rfl (.tmp 20) (.tmp 29) 22 22 rfl 5 Tryd.underlying22 info5s ⟨D, pos, none⟩ 4096 4096 (n - pos) (c - pos) U 0 (by simp [Act.eval, Act.put]) (by simp [Act.eval, Act.put]) cur t hU'' (cut X pos k) (by rw [length_cut, unhide hk']) hsrc (by rw [length_cut]; omega) (cut_one X pos k) ?_)
  all_goals
    simp only [length_cut]
    go_wp2_with fail
    go_ret2
    refine ⟨rfl, ((ch.drewN 1).setRow U (Or.inl rfl) _).setCell _ (Or.inr rfl) _, ?_, ?_⟩
    · rw [Below.heap_setCell _ ⟨B, 1, none⟩ _ U hBU.symm]; exact setRow_heap _ _ _ _ _ _ hU''
    · exact {
        pl := (dp _).set _ _
        c0 := by rw [World.cell?_setCell_other _ _ _ _ (by intro x; injection x with _ h2; cases h2)]; exact d0 _
        c1 := World.cell?_setCell_same _ _ _ (d1 _)
        c2 := ⟨_, by rw [World.cell?_setCell_other _ _ _ _ (by intro x; injection x with _ h2; cases h2)]; exact d2 _⟩ }
end Go.Proofs.Qxb6618799aDoor
