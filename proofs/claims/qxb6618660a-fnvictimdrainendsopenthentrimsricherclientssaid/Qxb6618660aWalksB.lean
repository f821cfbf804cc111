import Derived.Test.Qxb6618660aWalksA
import Derived.Maps.OwnSet
import Derived.Carry
namespace Go.Proofs.Qxb6618660a
open Go.RowKit Go.MuLone Go.Maps Go.WideMaps
set_option linter.unusedVariables false
set_option linter.unusedSimpArgs false

theorem law : Keyed Try.prog 9 := string_keyed Try.underlying9
theorem zeroE (w : World) : (zeroValue 57).run Try.prog w = .ok (.pointer none) w := by kernel_rfl

/-- How an element of the map reads: nil as -1, the address of a block's head as the block's number. -/
def ptrElem : Value → Option (DataW Unit × List MemPlace)
  | .pointer none => some (.lit (.int .i64 (-1)), [])
  | .pointer (some ⟨b, 0, none⟩) => some (.lit (.int .i64 b), [])
  | _ => none
theorem ptrElem_nil : ptrElem (.pointer none) = some (.lit (.int .i64 (-1)), []) := rfl
theorem ptrElem_mk (b : Nat) : ptrElem (.pointer (some ⟨b, 0, none⟩)) = some (.lit (.int .i64 b), []) := rfl
theorem ptrElem_inv {v : Value} {y : DataW Unit × List MemPlace} (h : ptrElem v = some y) : (v = .pointer none ∧ y = (.lit (.int .i64 (-1)), [])) ∨ ∃ b : Nat, v = .pointer (some ⟨b, 0, none⟩) ∧ y = (.lit (.int .i64 b), []) := by
  unfold ptrElem at h
  split at h
  · cases h; exact Or.inl ⟨rfl, rfl⟩
  · cases h; exact Or.inr ⟨_, rfl, rfl⟩
  · cases h

theorem New_any (w : World) (n : Int) : Calls Try.prog 7 #[.int .i64 n] w fun e w' => e = .returned (.pointer (some ⟨w.heap.size + 1, 0, none⟩)) ∧
    w' = (w.alloc (.map #[] 0)).alloc (.cells #[.int .i32 0, .int .u32 0, .int .i64 n, .int .i64 0, .int .i64 0, .int .i64 n, .map (some w.heap.size)] 56) := by
  have hmm := @run_makeMap Try.prog
  go_enter Try.func7, Try.ntmps7
  go_wp2
  go_ret
  exact ⟨rfl, rfl⟩

/-- ZZJoin at a client that is there. -/
theorem Join_old (w : World) (bb mb cb yb : Nat) (name : ByteArray) (st : Int) (y g : Bool)
    (hlook : (Instr.lookup 47 (.map (some mb)) (.string name) false).run Try.prog w = .ok (.pointer (some ⟨cb, 0, none⟩)) w)
    (b6 : w.cell? ⟨bb, 6, none⟩ = some (.map (some mb)))
    (c4 : w.cell? ⟨cb, 4, none⟩ = some (.pointer (some ⟨yb, 0, none⟩)))
    (hy : ∃ v, w.cell? ⟨yb, 8, none⟩ = some v)
    (l1 : cb < w.heap.size) (l2 : yb < w.heap.size) (f1 : ∀ o, w.frozen? ⟨yb, o, none⟩ = false) (f2 : ∀ o, w.frozen? ⟨cb, o, none⟩ = false) :
    Calls Try.prog 8 #[.pointer (some ⟨bb, 0, none⟩), .string name, .int .i64 st, .bool y, .bool g] w fun e w' => e = .returned (.pointer (some ⟨w.heap.size, 0, none⟩)) ∧
      w' = ((w.setCell ⟨yb, 8, none⟩ (.pointer (some ⟨w.heap.size, 0, none⟩))).setCell ⟨cb, 4, none⟩ (.pointer (some ⟨w.heap.size, 0, none⟩))).alloc (.cells #[.pointer (some ⟨bb, 0, none⟩), .pointer (some ⟨cb, 0, none⟩), .nilFunc, .int .i64 0, .int .i64 st, .bool y, .bool g, .pointer (some ⟨yb, 0, none⟩), .pointer none] 62) := by
  obtain ⟨yv, hy⟩ := hy
  go_enter Try.func8, Try.ntmps8
  go_wp2
  go_ret
  exact ⟨rfl, rfl⟩

/-- ZZJoin at a client that is new. -/
theorem Join_new (w w2 : World) (bb mb : Nat) (name : ByteArray) (st : Int) (y g : Bool)
    (hlook : (Instr.lookup 47 (.map (some mb)) (.string name) false).run Try.prog w = .ok (.pointer none) w)
    (hput : (Instr.mapUpdate 47 (.map (some mb)) (.string name) (.pointer (some ⟨w.heap.size, 0, none⟩))).run Try.prog (w.alloc (.cells #[.string name, .int .i64 0, .int .i64 0, .pointer none, .pointer none] 59)) = .ok () w2)
    (b6 : w.cell? ⟨bb, 6, none⟩ = some (.map (some mb))) (lb : bb < w.heap.size)
    (hz2 : w.heap.size < w2.heap.size)
    (c3 : w2.cell? ⟨w.heap.size, 3, none⟩ = some (.pointer none)) (c4 : w2.cell? ⟨w.heap.size, 4, none⟩ = some (.pointer none))
    (hf : ∀ o, w2.frozen? ⟨w.heap.size, o, none⟩ = false) :
    Calls Try.prog 8 #[.pointer (some ⟨bb, 0, none⟩), .string name, .int .i64 st, .bool y, .bool g] w fun e w' => e = .returned (.pointer (some ⟨w2.heap.size, 0, none⟩)) ∧
      w' = ((w2.setCell ⟨w.heap.size, 3, none⟩ (.pointer (some ⟨w2.heap.size, 0, none⟩))).setCell ⟨w.heap.size, 4, none⟩ (.pointer (some ⟨w2.heap.size, 0, none⟩))).alloc (.cells #[.pointer (some ⟨bb, 0, none⟩), .pointer (some ⟨w.heap.size, 0, none⟩), .nilFunc, .int .i64 0, .int .i64 st, .bool y, .bool g, .pointer none, .pointer none] 62) := by
  have hbb : bb < w.heap.size + 1 := by omega
  go_enter Try.func8, Try.ntmps8
  go_wp2
  go_ret
  exact ⟨rfl, rfl⟩
end Go.Proofs.Qxb6618660a
