import Derived.Test.Qxb6618799aDoorRead
import Derived.Deep.RegionHeld3
namespace Go.Proofs.Qxb6618799aDoor
open Go.RowKit
set_option linter.unusedVariables false
set_option linter.unusedSimpArgs false

/-- The two readers at work: 'pos' bytes taken out of the data, the last 'ww - rr' of them still in the buffer. -/
structure St (w : World) (d : Option Addr) (D B R U n c : Nat) (X : Nat → Nat) (t : TypeId) (pos rr ww : Nat) (cur : List Value) (ev : Value) : Prop where
  hd : n ≠ 0 → d = some ⟨D, 0, none⟩
  br : BR w B d n c pos
  bu : BU w R U B rr ww ev
  row : w.heap[U]? = some (.cells cur.toArray t (0, 0))
  len : cur.length = 4096
  bs : Bytes w D n X
  sm : n ≤ 1048576
  nc : n ≤ c
  o1 : rr ≤ ww
  o2 : ww ≤ 4096
  o3 : pos ≤ n
  o4 : ww - rr ≤ pos
  buf : ∀ q, rr ≤ q → q < ww → cur[q]? = some (bv (X (pos - (ww - q))))
  al : pos = n ∨ (ww - rr) % 4 = 0
  e1 : B ≠ U
  e2 : R ≠ U
  e3 : B ≠ R
  e4 : D ≠ B
  e5 : D ≠ R
  e6 : D ≠ U

/-- What touches the reader's own block alone. -/
theorem St.own {w w' : World} {d : Option Addr} {D B R U n c : Nat} {X : Nat → Nat} {t : TypeId} {pos rr ww rr' ww' : Nat} {cur : List Value} {ev ev' : Value} (S : St w d D B R U n c X t pos rr ww cur ev)
    (bu : BU w' R U B rr' ww' ev') (hB : w'.heap[B]? = w.heap[B]?) (hU : w'.heap[U]? = w.heap[U]?) (hD : w'.heap[D]? = w.heap[D]?) (o1 : rr' ≤ ww') (o2 : ww' ≤ 4096) (o4 : ww' - rr' ≤ pos)
    (buf : ∀ q, rr' ≤ q → q < ww' → cur[q]? = some (bv (X (pos - (ww' - q))))) (al : pos = n ∨ (ww' - rr') % 4 = 0) : St w' d D B R U n c X t pos rr' ww' cur ev' :=
  { hd := S.hd, br := S.br.of_heap hB, bu := bu, row := hU.trans S.row, len := S.len, bs := S.bs.of_heap hD, sm := S.sm, nc := S.nc, o1 := o1, o2 := o2, o3 := S.o3, o4 := o4, buf := buf, al := al, e1 := S.e1, e2 := S.e2, e3 := S.e3, e4 := S.e4, e5 := S.e5, e6 := S.e6 }
theorem heap_set (w : World) (a : Addr) (v : Value) (b : Nat) (h : b ≠ a.block) : (w.setCell a v).heap[b]? = w.heap[b]? := Below.heap_setCell w a v b h

theorem lt_of_cell {w : World} {b o : Nat} {v : Value} (h : w.cell? ⟨b, o, none⟩ = some v) : b < w.heap.size := World.block_lt_of_cell? w ⟨b, o, none⟩ h
theorem St.ch {w w' : World} {d : Option Addr} {D B R U n c : Nat} {X : Nat → Nat} {t : TypeId} {pos rr ww : Nat} {cur : List Value} {ev : Value} (S : St w d D B R U n c X t pos rr ww cur ev) {T : Nat → Prop} (h : Ch T w w')
    (tB : ¬ T B) (tR : ¬ T R) (tU : ¬ T U) (tD : ¬ T D) : St w' d D B R U n c X t pos rr ww cur ev :=
  { hd := S.hd, br := S.br.of_heap (h.same B S.br.pl.lt tB), bu := S.bu.of_heap (h.same R S.bu.pl.lt tR), row := (h.same U (Array.getElem?_eq_some_iff.1 S.row).1 tU).trans S.row, len := S.len, bs := fun j hj => (cell_of_heap (h.same D (lt_of_cell (S.bs j hj)) tD) j).trans (S.bs j hj), sm := S.sm, nc := S.nc, o1 := S.o1, o2 := S.o2, o3 := S.o3, o4 := S.o4, buf := S.buf, al := S.al, e1 := S.e1, e2 := S.e2, e3 := S.e3, e4 := S.e4, e5 := S.e5, e6 := S.e6 }
theorem St.drew {w : World} {d : Option Addr} {D B R U n c : Nat} {X : Nat → Nat} {t : TypeId} {pos rr ww : Nat} {cur : List Value} {ev : Value} (S : St w d D B R U n c X t pos rr ww cur ev) : St w.drew d D B R U n c X t pos rr ww cur ev :=
  S.ch (T := fun _ => False) ((Ch.refl _ w).drewN 1) (fun x => x) (fun x => x) (fun x => x) (fun x => x)
theorem nil_ahead (a : Addr) (w : World) : (nilAhead 231 38 (.pointer (some a)) "Read").run Tryd.prog w = .ok (some false) w := by kernel_rfl
theorem method_bytes (a : Addr) (w : World) : (Go.method 231 38 (.pointer (some a)) "Read").run Tryd.prog w = .ok (49, .pointer (some a)) w := by kernel_rfl
theorem nil_ahead36 (a : Addr) (w : World) : (nilAhead 231 36 (.pointer (some a)) "Read").run Tryd.prog w = .ok (some false) w := by kernel_rfl
theorem method_bufio (a : Addr) (w : World) : (Go.method 231 36 (.pointer (some a)) "Read").run Tryd.prog w = .ok (44, .pointer (some a)) w := by kernel_rfl

/-- (*bufio.Reader).readErr. -/
theorem readErr_any (w : World) (R : Nat) (v : Value) (hp : Plain w R) (h4 : w.cell? ⟨R, 4, none⟩ = some v) :
    Calls Tryd.prog 47 #[.pointer (some ⟨R, 0, none⟩)] w fun e w' => e = .returned v ∧ w' = w.setCell ⟨R, 4, none⟩ .nilIface := by
  have hf := hp.frozen 4
  go_enter Tryd.func47, Tryd.ntmps47
  go_wp2_with fail
  go_ret
  exact ⟨rfl, rfl⟩

set_option maxRecDepth 100000 in
set_option maxHeartbeats 2000000 in
/-- Read at the end. -/
theorem buf_end (w : World) (d : Option Addr) (D B R U n c : Nat) (X : Nat → Nat) (t : TypeId) (pos rr ww : Nat) (cur : List Value) (S : St w d D B R U n c X t pos rr ww cur .nilIface)
    (hoff : pos - (ww - rr) = n) (ea : Addr) (hE : w.cell? ⟨1, 0, none⟩ = some (.iface 88 (.pointer (some ea)))) (hU1 : U ≠ 1) (hR1 : R ≠ 1) (a : Option Addr) (m c' : Nat) (hm : 0 < m) (hm2 : m < 4096) :
    Calls Tryd.prog 44 #[.pointer (some ⟨R, 0, none⟩), .slice a m c'] w fun e w' => e = .returned (.tuple #[.int .i64 0, .iface 88 (.pointer (some ea))]) ∧ St w' d D B R U n c X t n 0 0 cur .nilIface ∧ Ch (fun x => x = R) w w' := by
  have o1 := S.o1
  have o3 := S.o3
  have o4 := S.o4
  obtain rfl : rr = ww := by omega
  obtain rfl : pos = n := by omega
  have r0 := S.bu.c0
  have r1 := S.bu.c1
  have r2 := S.bu.c2
  have r3 := S.bu.c3
  have r4 := S.bu.c4
  have hf := S.bu.pl.frozen
  have S' := hide S
  clear S o1 o3 o4
  go_enter Tryd.func44, Tryd.ntmps44
  go_wp2_with fail
  go_quiet (fail)
  go_wp2_with fail
  have S2 : St (((w.drewN nq).setCell ⟨R, 2, none⟩ (.int .i64 0)).setCell ⟨R, 3, none⟩ (.int .i64 0)) d D B R U pos c X t pos 0 0 cur .nilIface := by
    have S := unhide S'
    have b2 : BU (w.drewN nq) R U B rr rr .nilIface := S.bu.of_heap rfl
    exact S.own ((b2.set2 0).set3 0) (by rw [heap_set _ _ _ _ S.e3, heap_set _ _ _ _ S.e3]; rfl) (by rw [heap_set _ _ _ _ S.e2.symm, heap_set _ _ _ _ S.e2.symm]; rfl) (by rw [heap_set _ _ _ _ S.e5, heap_set _ _ _ _ S.e5]; rfl) (by omega) (by omega) (by omega) (fun q h1 h2 => by omega) (Or.inl rfl)
  have ch : Ch (fun x => x = R) w (((w.drewN nq).setCell ⟨R, 2, none⟩ (.int .i64 0)).setCell ⟨R, 3, none⟩ (.int .i64 0)) := (((Ch.refl (fun x => x = R) w).drewN nq).setCell ⟨R, 2, none⟩ rfl _).setCell ⟨R, 3, none⟩ rfl _
  have hE2 : (((w.drewN nq).setCell ⟨R, 2, none⟩ (.int .i64 0)).setCell ⟨R, 3, none⟩ (.int .i64 0)).cell? ⟨1, 0, none⟩ = some (.iface 88 (.pointer (some ea))) := by
    rw [World.cell?_of_block (a := ⟨1, 0, none⟩) (heap_set _ ⟨R, 3, none⟩ _ 1 (Ne.symm hR1)), World.cell?_of_block (a := ⟨1, 0, none⟩) (heap_set _ ⟨R, 2, none⟩ _ 1 (Ne.symm hR1))]; exact hE
  generalize (((w.drewN nq).setCell ⟨R, 2, none⟩ (.int .i64 0)).setCell ⟨R, 3, none⟩ (.int .i64 0)) = w2 at S2 ch hE2 ⊢
  clear r0 r1 r2 r3 r4 hf hE S'
  have r0 := S2.bu.c0
  have r1 := S2.bu.c1
  have r4 := S2.bu.c4
  have hf := S2.bu.pl.frozen
  have S2' := hide S2
  have ch' := hide ch
  clear S2 ch
  have nA := nil_ahead
  have mB := method_bytes
  go_region_held3 (fun w5 => w5.cell? ⟨R, 0, none⟩ = some (.slice (some ⟨U, 0, none⟩) 4096 4096) ∧ w5.cell? ⟨R, 1, none⟩ = some (.iface 38 (.pointer (some ⟨B, 0, none⟩)))) (first | (exact ⟨(unhide S3).bu.c0, (unhide S3).bu.c1⟩) | (exact ⟨((unhide S3).bu.set4 _).c0, ((unhide S3).bu.set4 _).c1⟩) | go_keep) (first
    | (go_at_call 49; refine (bread_end _ B d pos c pos (.iface 88 (.pointer (some ea))) (some ⟨U, 0, none⟩) 4096 4096 ?_ (Nat.le_refl _) ?_).mono ?_; exact (unhide S2').br.of_heap rfl; exact hE2; rintro e w3 ⟨rfl, hc3⟩; have S3 := hide ((unhide S2').drew.ch hc3 (fun x => x) (fun x => x) (fun x => x) (fun x => x)); have z4 := (unhide S3).bu.c4; have zf := (unhide S3).bu.pl.frozen 4))
  have b4 := (unhide S3).bu.set4 (.iface 88 (.pointer (some ea)))
  have hb4 := hide b4
  have p4 := b4.pl
  have q4 := b4.c4
  clear b4 r0 r1 r4 hf z4 zf
  go_wp2_with fail
  refine (readErr_any _ R _ p4 q4).mono ?_
  rintro e w4 ⟨rfl, rfl⟩
  clear p4 q4
  go_wp2_with fail
  go_ret2
  refine ⟨rfl, ?_, ?_⟩
  · have S := unhide S3
    exact S.own ((unhide hb4).set4 .nilIface) (by rw [heap_set _ _ _ _ S.e3, heap_set _ _ _ _ S.e3]) (by rw [heap_set _ _ _ _ S.e2.symm, heap_set _ _ _ _ S.e2.symm]) (by rw [heap_set _ _ _ _ S.e5, heap_set _ _ _ _ S.e5]) S.o1 S.o2 S.o4 S.buf S.al
  · have h1 : Ch (fun x => x = R) w w3 := ((unhide ch').drewN 1).trans (hc3.mono fun _ _ h => h.elim)
    exact (h1.setCell ⟨R, 4, none⟩ rfl _).setCell ⟨R, 4, none⟩ rfl _
end Go.Proofs.Qxb6618799aDoor
