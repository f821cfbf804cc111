import Derived.Test.Qxb6618114aMem
import Derived.Deep.OwnRows
namespace Go.Proofs.Qxb6618114a
open Go.RowKit
set_option linter.unusedVariables false
set_option linter.unusedSimpArgs false

/-- A response in memory. -/
structure Resp (w : World) (b : Nat) (pv sk : Option Addr) (ib m ob m2 : Nat) (held : Int) : Prop where
  pl : Plain w b
  c9 : w.cell? ⟨b, 9, none⟩ = some (.pointer pv)
  c10 : w.cell? ⟨b, 10, none⟩ = some (.pointer sk)
  c12 : w.cell? ⟨b, 12, none⟩ = some (.slice (some ⟨ib, 0, none⟩) m m)
  c13 : w.cell? ⟨b, 13, none⟩ = some (.slice (some ⟨ob, 0, none⟩) m2 m2)
  c14 : w.cell? ⟨b, 14, none⟩ = some (.int .i64 held)
theorem Resp.of_heap {w w' : World} {b : Nat} {pv sk : Option Addr} {ib m ob m2 : Nat} {held : Int} (h : Resp w b pv sk ib m ob m2 held) (e : w'.heap[b]? = w.heap[b]?) : Resp w' b pv sk ib m ob m2 held :=
  ⟨h.pl.of_heap e, (cell_of_heap e _).trans h.c9, (cell_of_heap e _).trans h.c10, (cell_of_heap e _).trans h.c12, (cell_of_heap e _).trans h.c13, (cell_of_heap e _).trans h.c14⟩

set_option maxRecDepth 100000 in
set_option maxHeartbeats 1000000 in
theorem newResp_any (w : World) (pa sa : Option Addr) (dep : Int) (ib m ob m2 : Nat) (held : Int) :
    Calls Try.prog 47 #[.pointer pa, .pointer sa, .int .i64 dep, .slice (some ⟨ib, 0, none⟩) m m, .slice (some ⟨ob, 0, none⟩) m2 m2, .int .i64 held] w fun e w' => e = .returned (.pointer (some ⟨w.heap.size, 0, none⟩)) ∧ Below w.heap.size w w' ∧ Resp w' w.heap.size pa sa ib m ob m2 held := by
  go_enter Try.func47, Try.ntmps47
  go_wp2_with fail
  go_ret
  refine ⟨rfl, (Below.refl _ _).alloc (Nat.le_refl _) _, plain_new _ _ _, ?_, ?_, ?_, ?_, ?_⟩
  all_goals
    rw [cell_new]
    rfl

theorem setSkip_any (w : World) (b : Nat) (v : Value) (hp : Plain w b) (h : w.cell? ⟨b, 10, none⟩ = some v) :
    Calls Try.prog 48 #[.pointer (some ⟨b, 0, none⟩), .pointer (some ⟨b, 0, none⟩)] w fun e w' => e = .returned (.tuple #[]) ∧ w' = w.setCell ⟨b, 10, none⟩ (.pointer (some ⟨b, 0, none⟩)) := by
  have hf := hp.frozen
  go_enter Try.func48, Try.ntmps48
  go_wp2_with fail
  go_end0
  exact ⟨rfl, rfl⟩
end Go.Proofs.Qxb6618114a
