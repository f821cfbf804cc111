import Derived.Test.Qxb6618660aWalksB
import Derived.LaidEqlPtr
namespace Go.Proofs.Qxb6618660a
open Go.RowKit
set_option linter.unusedVariables false
set_option linter.unusedSimpArgs false

/-- A block of cells that bears no mark. -/
def Plain (w : World) (b : Nat) : Prop := ∃ c t, w.heap[b]? = some (.cells c t (0, 0))

theorem Plain.lt {w : World} {b : Nat} (h : Plain w b) : b < w.heap.size := by
  obtain ⟨c, t, e⟩ := h; exact (Array.getElem?_eq_some_iff.1 e).1
theorem Plain.frozen {w : World} {b : Nat} (h : Plain w b) (o : Nat) : w.frozen? ⟨b, o, none⟩ = false := by
  obtain ⟨c, t, e⟩ := h; simp [World.frozen?, e]
theorem Plain.set {w : World} {b : Nat} (h : Plain w b) (a : Addr) (v : Value) : Plain (w.setCell a v) b := by
  obtain ⟨c, t, e⟩ := h
  simp only [Plain, World.setCell, Array.getElem?_modify]
  by_cases hb : a.block = b
  · rw [if_pos hb, e]
    simp
  · rw [if_neg hb]; exact ⟨c, t, e⟩
theorem Plain.alloc {w : World} {b : Nat} (h : Plain w b) (o : Obj) : Plain (w.alloc o) b := by
  have hl := h.lt
  obtain ⟨c, t, e⟩ := h
  refine ⟨c, t, ?_⟩
  show (w.heap.push o)[b]? = _
  rw [Array.getElem?_push, if_neg (by omega)]; exact e
theorem plain_new (w : World) (c : Array Value) (t : TypeId) : Plain (w.alloc (.cells c t)) w.heap.size := ⟨c, t, (MapKept.heap_alloc w _).1⟩
theorem Plain.of_heap {w w' : World} {b : Nat} (h : Plain w b) (e : w'.heap[b]? = w.heap[b]?) : Plain w' b := by
  obtain ⟨c, t, h⟩ := h; exact ⟨c, t, e.trans h⟩

theorem info62 : ∃ j, Try.prog.info? 62 = some j ∧ j.size ≠ 0 := by
  have h : (Try.prog.info? 62).map (fun j => j.size) = some 9 := by kernel_rfl
  cases e : Try.prog.info? 62 with
  | none => rw [e] at h; cases h
  | some j => rw [e] at h; simp at h; exact ⟨j, rfl, by omega⟩
theorem info59 : ∃ j, Try.prog.info? 59 = some j ∧ j.size ≠ 0 := by
  have h : (Try.prog.info? 59).map (fun j => j.size) = some 5 := by kernel_rfl
  cases e : Try.prog.info? 59 with
  | none => rw [e] at h; cases h
  | some j => rw [e] at h; simp at h; exact ⟨j, rfl, by omega⟩

theorem eql_ptr {tp te : TypeId} (hp : Try.prog.underlying tp = some (.pointer te)) (hi : ∃ j, Try.prog.info? te = some j ∧ j.size ≠ 0) (w : World) (a b : Nat) (ha : Plain w a) (hb : Plain w b) :
    (Op.equal tp (.pointer (some ⟨a, 0, none⟩)) (.pointer (some ⟨b, 0, none⟩))).run Try.prog w = .ok (a == b) w := by
  obtain ⟨j, hj, hs⟩ := hi
  by_cases e : a = b
  · subst e
    have h : ∀ d : Nat, (Op.equalIn (d + 1) tp (.pointer (some ⟨a, 0, none⟩)) (.pointer (some ⟨a, 0, none⟩))).run Try.prog w = .ok true w := fun d => by
      simp [Op.equalIn, run_underlying hp, sizeOf, typeInfo, hj, run_sameAddr_same]
    simp [Op.equal, Op.maxDepth, h 9999]
  · obtain ⟨c1, t1, h1⟩ := ha
    obtain ⟨c2, t2, h2⟩ := hb
    have hne : (⟨a, 0, none⟩ : Addr) ≠ ⟨b, 0, none⟩ := fun h => e (by cases h; rfl)
    have h : ∀ d : Nat, (Op.equalIn (d + 1) tp (.pointer (some ⟨a, 0, none⟩)) (.pointer (some ⟨b, 0, none⟩))).run Try.prog w = .ok false w := fun d => by
      simp [Op.equalIn, run_underlying hp, sizeOf, typeInfo, hj, hs, run_sameAddr_other w hne h1 h2]
    simp [Op.equal, Op.maxDepth, h 9999, e]

theorem run_eql24 (w : World) (a b : Nat) (ha : Plain w a) (hb : Plain w b) : (binOp .eql 24 (.pointer (some ⟨a, 0, none⟩)) (.pointer (some ⟨b, 0, none⟩))).run Try.prog w = .ok (.bool (a == b)) w := by
  simp only [binOp]; simp [eql_ptr Try.underlying24 info62 w a b ha hb]
theorem run_neq24 (w : World) (a b : Nat) (ha : Plain w a) (hb : Plain w b) : (binOp .neq 24 (.pointer (some ⟨a, 0, none⟩)) (.pointer (some ⟨b, 0, none⟩))).run Try.prog w = .ok (.bool (!(a == b))) w := by
  simp only [binOp]; simp [eql_ptr Try.underlying24 info62 w a b ha hb]
theorem run_eql57 (w : World) (a b : Nat) (ha : Plain w a) (hb : Plain w b) : (binOp .eql 57 (.pointer (some ⟨a, 0, none⟩)) (.pointer (some ⟨b, 0, none⟩))).run Try.prog w = .ok (.bool (a == b)) w := by
  simp only [binOp]; simp [eql_ptr Try.underlying57 info59 w a b ha hb]
end Go.Proofs.Qxb6618660a
