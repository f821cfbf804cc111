import Derived.Test.Qxb6618114aGuards
import Derived.Laws.AppendOwn
import Derived.OwnWalk
import Derived.Laws.MakeOwn
import Derived.Laws.IdiomCopy
import Derived.Carry
namespace Go.Proofs.Qxb6618114a
open Go.RowKit
set_option linter.unusedVariables false
set_option linter.unusedSimpArgs false

/-- A block of cells that bears no mark. -/
def Plain (w : World) (b : Nat) : Prop := ∃ c t, w.heap[b]? = some (.cells c t (0, 0))

theorem Plain.lt {w : World} {b : Nat} (h : Plain w b) : b < w.heap.size := by
  obtain ⟨c, t, e⟩ := h; exact (Array.getElem?_eq_some_iff.1 e).1
theorem Plain.frozen {w : World} {b : Nat} (h : Plain w b) (o : Nat) : w.frozen? ⟨b, o, none⟩ = false := by
  obtain ⟨c, t, e⟩ := h; simp [World.frozen?, e]
theorem Plain.set {w : World} {b : Nat} (h : Plain w b) (a : Addr) (v : Value) : Plain (w.setCell a v) b := by
  obtain ⟨c, t, e⟩ := h
  simp only [Plain, World.setCell, Array.getElem?_modify]
  by_cases hb : a.block = b
  · rw [if_pos hb, e]
    simp
  · rw [if_neg hb]; exact ⟨c, t, e⟩
theorem Plain.alloc {w : World} {b : Nat} (h : Plain w b) (o : Obj) : Plain (w.alloc o) b := by
  have hl := h.lt
  obtain ⟨c, t, e⟩ := h
  refine ⟨c, t, ?_⟩
  show (w.heap.push o)[b]? = _
  rw [Array.getElem?_push, if_neg (by omega)]; exact e
theorem Plain.of_heap {w w' : World} {b : Nat} (h : Plain w b) (e : w'.heap[b]? = w.heap[b]?) : Plain w' b := by
  obtain ⟨c, t, h⟩ := h; exact ⟨c, t, e.trans h⟩
theorem Plain.below {B : Nat} {w w' : World} {b : Nat} (h : Plain w b) (hB : Below B w w') (hb : b < B) : Plain w' b := h.of_heap (hB.block b hb)

def iKind : ByteArray := { data := #[109, 101, 115, 115, 97, 103, 101] }
def oKind : ByteArray := { data := #[102, 117, 110, 99, 116, 105, 111, 110, 95, 99, 97, 108, 108] }
def emp : ByteArray := { data := #[] }

def itv (kind id : ByteArray) : Value := .agg #[.slice none 0 0, .string kind, .string id, .string { data := #[] }, .string { data := #[] }, .string { data := #[] }, .string { data := #[] }, .string { data := #[] }]

set_option maxHeartbeats 400000 in
theorem newItem_any (w : World) (kind id : ByteArray) :
    Calls Try.prog 32 #[.slice none 0 0, .string kind, .string id, .string { data := #[] }, .string { data := #[] }, .string { data := #[] }, .string { data := #[] }, .string { data := #[] }] w fun e w' =>
      e = .returned (.agg #[.slice none 0 0, .string kind, .string id, .string { data := #[] }, .string { data := #[] }, .string { data := #[] }, .string { data := #[] }, .string { data := #[] }]) ∧ Below w.heap.size w w' := by
  go_enter Try.func32, Try.ntmps32
  go_wp2_with fail
  exact bodyPost_ret (v := .agg #[.slice none 0 0, .string kind, .string id, .string { data := #[] }, .string { data := #[] }, .string { data := #[] }, .string { data := #[] }, .string { data := #[] }]) (by simp [results, Try.results32, go_sem]) rfl ⟨rfl, (Below.refl _ _).alloc (Nat.le_refl _) _⟩

/-- The cells that a made row of items holds. -/
def zrow (m : Nat) : Array Value := madeCells #[.slice none 0 0, .string { data := #[] }, .string { data := #[] }, .string { data := #[] }, .string { data := #[] }, .string { data := #[] }, .string { data := #[] }, .string { data := #[] }] (m * 8)
theorem size_zrow (m : Nat) : (zrow m).size = m * 8 := size_madeCells _ _
theorem info76 : (Try.prog.info? 76).map (fun i => (i.zero, i.size, i.bytes)) = some (some (.agg #[.slice none 0 0, .string { data := #[] }, .string { data := #[] }, .string { data := #[] }, .string { data := #[] }, .string { data := #[] }, .string { data := #[] }, .string { data := #[] }]), 8, 136) := by kernel_rfl
theorem make_items (n : Nat) (h : n ≤ 262144) (w : World) :
    (Instr.makeSlice 35 (.int .i64 (n : Int)) (.int .i64 (n : Int))).run Try.prog w = .ok (.slice (some ⟨w.heap.size, 0, none⟩) n n) (w.alloc (.cells (zrow n) 76)) := by
  obtain ⟨i, hi, hzz⟩ := Option.map_eq_some_iff.1 info76
  simp only [Prod.mk.injEq] at hzz
  obtain ⟨hz, hs, hb⟩ := hzz
  have hr := run_make (P := Try.prog) w 35 76 i _ Try.underlying35 hi hz .i64 .i64 n n (by omega) (Int.le_refl _) (by rw [hb]; omega) (by omega)
  rw [hs] at hr
  simp only [Int.toNat_natCast] at hr
  exact hr

/-- The cells of a block. -/
def Cells (w : World) (b N : Nat) : Prop := ∀ c, c < N → ∃ v, w.cell? ⟨b, c, none⟩ = some v
/-- One item in memory. -/
structure ItemAt (w : World) (b o : Nat) (kind id : ByteArray) : Prop where
  c0 : w.cell? ⟨b, o, none⟩ = some (.slice none 0 0)
  c1 : w.cell? ⟨b, o + 1, none⟩ = some (.string kind)
  c2 : w.cell? ⟨b, o + 2, none⟩ = some (.string id)
  c3 : w.cell? ⟨b, o + 3, none⟩ = some (.string { data := #[] })
  c4 : w.cell? ⟨b, o + 4, none⟩ = some (.string { data := #[] })
  c5 : w.cell? ⟨b, o + 5, none⟩ = some (.string { data := #[] })
  c6 : w.cell? ⟨b, o + 6, none⟩ = some (.string { data := #[] })
  c7 : w.cell? ⟨b, o + 7, none⟩ = some (.string { data := #[] })

theorem cell_new (w : World) (cs : Array Value) (t : TypeId) (k : Nat) : (w.alloc (.cells cs t)).cell? ⟨w.heap.size, k, none⟩ = cs[k]? := by
  have h : (w.alloc (.cells cs t)).heap[w.heap.size]? = some (.cells cs t) := by show (w.heap.push _)[w.heap.size]? = _; rw [Array.getElem?_push, if_pos rfl]
  unfold World.cell?
  simp only
  rw [h]
  simp
theorem cell_alloc_old {w : World} {o : Obj} {b k : Nat} (h : b < w.heap.size) : (w.alloc o).cell? ⟨b, k, none⟩ = w.cell? ⟨b, k, none⟩ :=
  World.cell?_of_block (a := ⟨b, k, none⟩) (by show (w.heap.push o)[b]? = _; rw [Array.getElem?_push, if_neg (by omega)])
theorem plain_new (w : World) (c : Array Value) (t : TypeId) : Plain (w.alloc (.cells c t)) w.heap.size := ⟨c, t, by show (w.heap.push _)[w.heap.size]? = _; rw [Array.getElem?_push, if_pos rfl]⟩
theorem cells_new (w : World) (n : Nat) : Cells (w.alloc (.cells (zrow n) 76)) w.heap.size (n * 8) := fun c h => by
  rw [cell_new]; exact ⟨_, Array.getElem?_eq_getElem (by rw [size_zrow]; exact h)⟩

/-- An item is laid down. -/
def itl (kind id : ByteArray) : List Value := [.slice none 0 0, .string kind, .string id, .string { data := #[] }, .string { data := #[] }, .string { data := #[] }, .string { data := #[] }, .string { data := #[] }]
def put8 (w : World) (b o : Nat) (kind id : ByteArray) : World := w.setCells b o (itl kind id)
theorem put8_eq (w : World) (b o : Nat) (kind id : ByteArray) : ((((((((w.setCell ⟨b, o, none⟩ (.slice none 0 0)).setCell ⟨b, o + 1, none⟩ (.string kind)).setCell ⟨b, o + 2, none⟩ (.string id)).setCell ⟨b, o + 3, none⟩ (.string { data := #[] })).setCell ⟨b, o + 4, none⟩ (.string { data := #[] })).setCell ⟨b, o + 5, none⟩ (.string { data := #[] })).setCell ⟨b, o + 6, none⟩ (.string { data := #[] })).setCell ⟨b, o + 7, none⟩ (.string { data := #[] })) = put8 w b o kind id := rfl
theorem put8_far (w : World) (b o : Nat) (kind id : ByteArray) (b' x : Nat) (h : b' = b → x < o ∨ o + 8 ≤ x) : (put8 w b o kind id).cell? ⟨b', x, none⟩ = w.cell? ⟨b', x, none⟩ :=
  World.cell?_setCells_out b (itl kind id) o w ⟨b', x, none⟩ (fun e _ => h e)
theorem put8_heap (w : World) (b o : Nat) (kind id : ByteArray) (b' : Nat) (h : b' ≠ b) : (put8 w b o kind id).heap[b']? = w.heap[b']? := by
  unfold put8 itl
  simp only [World.setCells]
  simp only [Below.heap_setCell _ _ _ b' (show b' ≠ (⟨b, o + 1 + 1 + 1 + 1 + 1 + 1 + 1, none⟩ : Addr).block from h), Below.heap_setCell _ _ _ b' (show b' ≠ (⟨b, o + 1 + 1 + 1 + 1 + 1 + 1, none⟩ : Addr).block from h), Below.heap_setCell _ _ _ b' (show b' ≠ (⟨b, o + 1 + 1 + 1 + 1 + 1, none⟩ : Addr).block from h), Below.heap_setCell _ _ _ b' (show b' ≠ (⟨b, o + 1 + 1 + 1 + 1, none⟩ : Addr).block from h), Below.heap_setCell _ _ _ b' (show b' ≠ (⟨b, o + 1 + 1 + 1, none⟩ : Addr).block from h), Below.heap_setCell _ _ _ b' (show b' ≠ (⟨b, o + 1 + 1, none⟩ : Addr).block from h), Below.heap_setCell _ _ _ b' (show b' ≠ (⟨b, o + 1, none⟩ : Addr).block from h), Below.heap_setCell _ _ _ b' (show b' ≠ (⟨b, o, none⟩ : Addr).block from h)]
theorem put8_below {B : Nat} {a w : World} (h : Below B a w) {b : Nat} (hb : B ≤ b) (o : Nat) (kind id : ByteArray) : Below B a (put8 w b o kind id) := by
  unfold put8 itl
  simp only [World.setCells]
  exact (((((((h.setCell hb _).setCell hb _).setCell hb _).setCell hb _).setCell hb _).setCell hb _).setCell hb _).setCell hb _
theorem put8_plain {w : World} {b' : Nat} (h : Plain w b') (b o : Nat) (kind id : ByteArray) : Plain (put8 w b o kind id) b' := by
  unfold put8 itl
  simp only [World.setCells]
  exact (((((((h.set _ _).set _ _).set _ _).set _ _).set _ _).set _ _).set _ _).set _ _
theorem put8_size (w : World) (b o : Nat) (kind id : ByteArray) : (put8 w b o kind id).heap.size = w.heap.size := by
  unfold put8 itl
  simp only [World.setCells, World.setCell, Array.size_modify]
theorem put8_cells {w : World} {b' N : Nat} (h : Cells w b' N) (b o : Nat) (kind id : ByteArray) : Cells (put8 w b o kind id) b' N := fun c hc => by
  obtain ⟨v, hv⟩ := h c hc
  unfold put8 itl
  simp only [World.setCells]
  obtain ⟨v, hv⟩ := cell?_setCell_some (p := ⟨b, o, none⟩) (x := .slice none 0 0) hv
  obtain ⟨v, hv⟩ := cell?_setCell_some (p := ⟨b, o + 1, none⟩) (x := .string kind) hv
  obtain ⟨v, hv⟩ := cell?_setCell_some (p := ⟨b, o + 1 + 1, none⟩) (x := .string id) hv
  obtain ⟨v, hv⟩ := cell?_setCell_some (p := ⟨b, o + 1 + 1 + 1, none⟩) (x := .string { data := #[] }) hv
  obtain ⟨v, hv⟩ := cell?_setCell_some (p := ⟨b, o + 1 + 1 + 1 + 1, none⟩) (x := .string { data := #[] }) hv
  obtain ⟨v, hv⟩ := cell?_setCell_some (p := ⟨b, o + 1 + 1 + 1 + 1 + 1, none⟩) (x := .string { data := #[] }) hv
  obtain ⟨v, hv⟩ := cell?_setCell_some (p := ⟨b, o + 1 + 1 + 1 + 1 + 1 + 1, none⟩) (x := .string { data := #[] }) hv
  exact cell?_setCell_some (p := ⟨b, o + 1 + 1 + 1 + 1 + 1 + 1 + 1, none⟩) (x := .string { data := #[] }) hv
theorem put8_at {w : World} {b o N : Nat} (h : Cells w b N) (ho : o + 8 ≤ N) (kind id : ByteArray) : ItemAt (put8 w b o kind id) b o kind id := by
  have key : ∀ j (hj : j < 8), (put8 w b o kind id).cell? ⟨b, o + j, none⟩ = some ((itl kind id)[j]'hj) := fun j hj =>
    World.cell?_setCells_in b (itl kind id) o w (fun j hj => by
      have hj8 : j < 8 := hj
      obtain ⟨v, hv⟩ := h (o + j) (by omega)
      rw [hv]; rfl) j hj
  exact ⟨key 0 (by omega), key 1 (by omega), key 2 (by omega), key 3 (by omega), key 4 (by omega), key 5 (by omega), key 6 (by omega), key 7 (by omega)⟩
theorem ItemAt.put8 {w : World} {b o : Nat} {k i : ByteArray} (h : ItemAt w b o k i) (b' o' : Nat) (k' i' : ByteArray) (ap : b = b' → o + 8 ≤ o' ∨ o' + 8 ≤ o) : ItemAt (put8 w b' o' k' i') b o k i :=
  ⟨(put8_far w b' o' k' i' b o (fun e => by have := ap e; omega)).trans h.c0, (put8_far w b' o' k' i' b (o + 1) (fun e => by have := ap e; omega)).trans h.c1,
   (put8_far w b' o' k' i' b (o + 2) (fun e => by have := ap e; omega)).trans h.c2, (put8_far w b' o' k' i' b (o + 3) (fun e => by have := ap e; omega)).trans h.c3,
   (put8_far w b' o' k' i' b (o + 4) (fun e => by have := ap e; omega)).trans h.c4, (put8_far w b' o' k' i' b (o + 5) (fun e => by have := ap e; omega)).trans h.c5,
   (put8_far w b' o' k' i' b (o + 6) (fun e => by have := ap e; omega)).trans h.c6, (put8_far w b' o' k' i' b (o + 7) (fun e => by have := ap e; omega)).trans h.c7⟩
theorem ItemAt.same {w w' : World} {b o : Nat} {k i : ByteArray} (h : ItemAt w b o k i) (e : ∀ x, w'.cell? ⟨b, x, none⟩ = w.cell? ⟨b, x, none⟩) : ItemAt w' b o k i :=
  ⟨(e _).trans h.c0, (e _).trans h.c1, (e _).trans h.c2, (e _).trans h.c3, (e _).trans h.c4, (e _).trans h.c5, (e _).trans h.c6, (e _).trans h.c7⟩
theorem cell_of_heap {w w' : World} {b : Nat} (e : w'.heap[b]? = w.heap[b]?) (x : Nat) : w'.cell? ⟨b, x, none⟩ = w.cell? ⟨b, x, none⟩ := World.cell?_of_block (a := ⟨b, x, none⟩) e
theorem ItemAt.below {B : Nat} {w w' : World} {b o : Nat} {k i : ByteArray} (h : ItemAt w b o k i) (hB : Below B w w') (hb : b < B) : ItemAt w' b o k i :=
  h.same fun x => hB.cell (p := ⟨b, x, none⟩) hb
theorem Cells.below {B : Nat} {w w' : World} {b N : Nat} (h : Cells w b N) (hB : Below B w w') (hb : b < B) : Cells w' b N := fun c hc => by
  obtain ⟨v, hv⟩ := h c hc
  exact ⟨v, (hB.cell (p := ⟨b, c, none⟩) hb).trans hv⟩

set_option maxHeartbeats 1000000 in
theorem messages_any (w : World) (ia : Option Addr) (m c : Nat) (S : Nat → ByteArray) (kind : ByteArray) (hI : Inner w ia m S) (hm : m ≤ 131072) :
    Calls Try.prog 46 #[.slice ia m c, .string kind] w fun e w' => e = .returned (.slice (some ⟨w.heap.size, 0, none⟩) m m) ∧ Below w.heap.size w w' ∧ (∀ k, k < m → ItemAt w' w.heap.size (k * 8) kind (S k)) ∧ Plain w' w.heap.size := by
  have I := hide hI
  clear hI
  have hmk := make_items m (by omega)
  go_enter Try.func46, Try.ntmps46
  go_wp2_with fail
  obtain ⟨nb, hnb⟩ : ∃ nb, w.heap.size = nb := ⟨_, rfl⟩
  have B0 : Below w.heap.size w (w.alloc (.cells (zrow m) 76)) := (Below.refl _ _).alloc (Nat.le_refl _) _
  have C0 := cells_new w m
  have P0 := plain_new w (zrow m) 76
  rw [hnb] at C0 P0
  have hnb' := hide hnb
  generalize (w.alloc (.cells (zrow m) 76)) = w1 at B0 C0 P0 ⊢
  rw [hnb]
  clear hnb hmk
  have B0' := hide B0
  have C0' := hide C0
  have P0' := hide P0
  clear B0 C0 P0
  go_loopg [6] (m + 1) (fun g k wr => Below w.heap.size w wr ∧ ∃ j : Nat, j ≤ m ∧ k = .int .i64 j ∧ g + j = m + 1 ∧ Plain wr nb ∧ Hid (Cells wr nb (m * 8)) ∧ Hid (∀ q, q < j → ItemAt wr nb (q * 8) kind (S q)))
  case atStart => exact ⟨unhide B0', 0, by omega, rfl, by omega, unhide P0', C0', hide (fun q h => by omega)⟩
  case round =>
    obtain ⟨hbw, j, hj, rfl, hg, hP, hC, hA⟩ := hrel
    by_cases hlt : j < m
    · obtain ⟨b, o, rfl, hb, hc⟩ := ((unhide I).below hbw (Nat.le_refl _)).at' j hlt
      have hP' := hide hP
      clear hP
      go_wp2_with fail
      refine (newItem_any wr kind (S j)).mono ?_
      rintro e w2 ⟨rfl, hb2⟩
      have hb2' := hide hb2
      have P2 := (unhide hP').below hb2 (unhide hP').lt
      have C2 : ∀ q, q < 8 → ∃ v, w2.cell? ⟨nb, j * 8 + q, none⟩ = some v := fun q h => by
        obtain ⟨v, hv⟩ := unhide hC (j * 8 + q) (by omega)
        exact ⟨v, (hb2.cell (p := ⟨nb, j * 8 + q, none⟩) (unhide hP').lt).trans hv⟩
      obtain ⟨v0, k0⟩ := C2 0 (by omega)
      obtain ⟨v1, k1⟩ := C2 1 (by omega)
      obtain ⟨v2, k2⟩ := C2 2 (by omega)
      obtain ⟨v3, k3⟩ := C2 3 (by omega)
      obtain ⟨v4, k4⟩ := C2 4 (by omega)
      obtain ⟨v5, k5⟩ := C2 5 (by omega)
      obtain ⟨v6, k6⟩ := C2 6 (by omega)
      obtain ⟨v7, k7⟩ := C2 7 (by omega)
      simp only [Nat.add_zero] at k0
      have fz := P2.frozen
      clear C2 hb2 P2 hc
      go_wp2_with fail
      rw [put8_eq]
      clear k0 k1 k2 k3 k4 k5 k6 k7 fz
      go_roundg (gk - 1)
      case measure => omega
      case rel =>
        have hw2 : Below w.heap.size w w2 := hbw.trans ((unhide hb2').mono hbw.size)
        have hn0 : w.heap.size ≤ nb := by have := unhide hnb'; omega
        have C2 : Cells w2 nb (m * 8) := (unhide hC).below (unhide hb2') (unhide hP').lt
        refine ⟨put8_below hw2 hn0 _ _ _, j + 1, by omega, by go_num, by omega, put8_plain ((unhide hP').below (unhide hb2') (unhide hP').lt) _ _ _ _, hide (put8_cells C2 _ _ _ _), hide (fun q hq => ?_)⟩
        rcases Nat.lt_succ_iff_lt_or_eq.1 hq with hq | rfl
        · exact ((unhide hA q hq).below (unhide hb2') (unhide hP').lt).put8 _ _ _ _ (fun _ => by omega)
        · exact put8_at C2 (by omega) _ _
    · go_wp2_with fail
      go_ret
      refine ⟨by rw [unhide hnb']; rfl, hbw, fun k hk => ?_, ?_⟩
      · rw [unhide hnb']; exact unhide hA k (by omega)
      · rw [unhide hnb']; exact hP
end Go.Proofs.Qxb6618114a
