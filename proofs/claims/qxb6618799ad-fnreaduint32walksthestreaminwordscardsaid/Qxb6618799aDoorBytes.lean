import Derived.Test.Qxb6618799aDoorIs
import Derived.Laws.CopyOwn
import Derived.Deep.LoopGhost
import Derived.Below
import Derived.Lib.SliceRun
import Derived.Lib.EndianBits
import Derived.Deep.OwnRows
import Derived.OwnWalk
namespace Go.Proofs.Qxb6618799aDoor
open Go.RowKit
set_option linter.unusedVariables false
set_option linter.unusedSimpArgs false

theorem hide {p : Prop} (h : p) : Hid p := h
theorem unhide {p : Prop} (h : Hid p) : p := h

/-- Only blocks in S turn. -/
structure Ch (S : Nat → Prop) (w w' : World) : Prop where
  os : w'.os = w.os
  tape : w'.tape = w.tape
  output : w'.output = w.output
  size : w.heap.size ≤ w'.heap.size
  same : ∀ x, x < w.heap.size → ¬ S x → w'.heap[x]? = w.heap[x]?
theorem Ch.refl (S : Nat → Prop) (w : World) : Ch S w w := ⟨rfl, rfl, rfl, Nat.le_refl _, fun _ _ _ => rfl⟩
theorem Ch.trans {S : Nat → Prop} {w w' w'' : World} (h : Ch S w w') (k : Ch S w' w'') : Ch S w w'' :=
  ⟨k.os.trans h.os, k.tape.trans h.tape, k.output.trans h.output, Nat.le_trans h.size k.size, fun x hx hn => (k.same x (Nat.lt_of_lt_of_le hx h.size) hn).trans (h.same x hx hn)⟩
theorem Ch.mono {S T : Nat → Prop} {w w' : World} (h : Ch S w w') (st : ∀ x, x < w.heap.size → S x → T x) : Ch T w w' :=
  ⟨h.os, h.tape, h.output, h.size, fun x hx hn => h.same x hx fun s => hn (st x hx s)⟩
theorem Ch.below {S : Nat → Prop} {w w' : World} (h : Ch S w w') {L : Nat} (hL : L ≤ w.heap.size) (hS : ∀ x, S x → L ≤ x) : Below L w w' :=
  ⟨h.os, h.tape, h.output, h.size, fun x hx => h.same x (by omega) fun s => by have := hS x s; omega⟩
theorem Ch.drewN {S : Nat → Prop} {w w' : World} (h : Ch S w w') (q : Nat) : Ch S w (w'.drewN q) := by
  have e : (w'.drewN q).os = w'.os ∧ (w'.drewN q).tape = w'.tape ∧ (w'.drewN q).output = w'.output ∧ (w'.drewN q).heap = w'.heap := ⟨rfl, rfl, rfl, rfl⟩
  exact ⟨h.os, h.tape, h.output, h.size, h.same⟩
theorem Ch.alloc {S : Nat → Prop} {w w' : World} (h : Ch S w w') (o : Obj) : Ch S w (w'.alloc o) :=
  ⟨h.os, h.tape, h.output, by have := h.size; show _ ≤ (w'.heap.push o).size; rw [Array.size_push]; omega, fun x hx hn => by
    have hlt : x < w'.heap.size := Nat.lt_of_lt_of_le hx h.size
    show (w'.heap.push o)[x]? = _
    rw [Array.getElem?_push, if_neg (by omega)]
    exact h.same x hx hn⟩
theorem Ch.setRow {S : Nat → Prop} {w w' : World} (h : Ch S w w') (g : Nat) (hg : S g) (cs : Array Value) : Ch S w (w'.setRow g cs) :=
  ⟨h.os, h.tape, h.output, by have := h.size; simpa using this, fun x hx hn => by
    rw [setRow_other w' g x cs (fun e => hn (e ▸ hg))]; exact h.same x hx hn⟩
theorem Ch.setCell {S : Nat → Prop} {w w' : World} (h : Ch S w w') (a : Addr) (ha : S a.block) (v : Value) : Ch S w (w'.setCell a v) := by
  refine ⟨h.os, h.tape, h.output, ?_, fun x hx hn => ?_⟩
  · have := h.size; simpa [World.setCell] using this
  · rw [show (w'.setCell a v).heap[x]? = w'.heap[x]? by simp only [World.setCell, Array.getElem?_modify]; rw [if_neg (fun (e : a.block = x) => hn (e ▸ ha))]]
    exact h.same x hx hn

/-- copy as one step of a region that draws, the world told whole. -/
theorem step_copy_row {P : Program} {ops : Array Oper} {o : Oper} {a : Act} {w : World} {K : Act → World → Prop} {Q : Exit → Act → World → Prop} {E : Prop} (hgd : o.guard = none) (d s : Operand) (dT sT : TypeId)
    (ho : o.op = .call { callee := .builtin .copy, args := #[d, s], argTypes := #[dT, sT] }) (elem : TypeId) (hu : P.underlying dT = some (.slice elem)) (hsz : (P.info? elem).map (·.size) = some 1)
    (sp : Addr) (dLen dCap sLen sCap : Nat) (g off : Nat) (hd : a.eval d = .slice (some ⟨g, off, none⟩) dLen dCap) (hs : a.eval s = .slice (some sp) sLen sCap)
    (cur : List Value) (t : TypeId) (hg : w.heap[g]? = some (.cells cur.toArray t (0, 0))) (cs : List Value) (hn : cs.length = Nat.min sLen dLen)
    (hsrc : ∀ j v, cs[j]? = some v → w.cell? (sp.add j) = some v)
    (hfit : off + cs.length ≤ cur.length) (h1 : ∀ v ∈ cs, v.oneCell' = true)
    (h : K (a.put o.dst (goInt cs.length)) (w.setRow g (splice cur off cs).toArray)) :
    if Region.wanted o (yielded ops a.tmps) = true then Oper.wp P o a w K Q else E := by
  have hw : Region.wanted o (yielded ops a.tmps) = true := by simp [Region.wanted, hgd]
  rw [if_pos hw]
  have hrun := run_copy_row (P := P) w dT sT o.type elem g off dLen dCap sp sLen sCap cur.toArray t cs hu hsz hg hn hsrc (by simpa using hfit) h1
  unfold Oper.wp
  simp [execOp, ho, resolve, invoke, builtin, hd, hs, hrun, Result.andThen]
  have h' : K (a.put o.dst (goInt cs.length)) (w.setRow g (cur.toArray.toList.take off ++ cs ++ cur.toArray.toList.drop (off + cs.length)).toArray) := by
    rw [show (cur.toArray.toList.take off ++ cs ++ cur.toArray.toList.drop (off + cs.length)) = splice cur off cs by simp [splice]]; exact h
  simp at h'
  exact h'
theorem splice_at {α : Type} (L : List α) (off : Nat) (cs : List α) (h : off + cs.length ≤ L.length) (j : Nat) :
    (splice L off cs)[j]? = if j < off then L[j]? else if j < off + cs.length then cs[j - off]? else L[j]? := by
  unfold splice
  rw [List.getElem?_append, List.length_take, Nat.min_eq_left (by omega)]
  by_cases h1 : j < off
  · rw [if_pos h1, if_pos h1, List.getElem?_take, if_pos h1]
  · rw [if_neg h1, if_neg h1, List.getElem?_append]
    by_cases h2 : j < off + cs.length
    · rw [if_pos (by omega), if_pos h2]
    · rw [if_neg (by omega), if_neg h2, List.getElem?_drop]
      congr 1; omega

/-- The cells of a string of bytes. -/
abbrev bv (x : Nat) : Value := .int .u8 (x : Int)
def Bytes (w : World) (D n : Nat) (X : Nat → Nat) : Prop := ∀ j, j < n → w.cell? ⟨D, j, none⟩ = some (bv (X j))

theorem bytes_any (w : World) (a : Option Addr) (n cap : Nat) (hn : n ≤ 1048576) :
    Calls Tryd.prog 6 #[.slice a n cap] w fun e w' => e = .returned (.bool true) ∧ w' = w := by
  have h1 : ¬ ((n : Int) > 1048576) := by omega
  go_enter Tryd.func6, Tryd.ntmps6
  go_wp2
  go_ret
  exact ⟨rfl, rfl⟩
theorem bytes_long (w : World) (a : Option Addr) (n cap : Nat) (hn : 1048576 < n) (hm : n ≤ maxLen) :
    Calls Tryd.prog 6 #[.slice a n cap] w fun e w' => e = .returned (.bool false) ∧ w' = w := by
  unfold maxLen at hm
  go_enter Tryd.func6, Tryd.ntmps6
  go_wp2
  go_ret
  exact ⟨rfl, rfl⟩

theorem eq22 (w : World) (a : Option Addr) (n c n' c' : Nat) : (binOp .eql 22 (.slice a n c) (.slice none n' c')).run Tryd.prog w = .ok (.bool a.isNone) w :=
  Lib.run_eql_slice_nil w _ _ a n c n' c' Tryd.underlying22
theorem clone_nil (w : World) (n c : Nat) :
    Calls Tryd.prog 7 #[.slice none n c] w fun e w' => e = .returned (.slice none 0 0) ∧ w' = w := by
  have q := eq22
  go_enter Tryd.func7, Tryd.ntmps7
  go_wp2
  go_ret
  exact ⟨rfl, rfl⟩

theorem info5 : (Tryd.prog.info? 5).map (fun i => (i.zero, i.size, i.bytes)) = some (some (.int .u8 0), 1, 1) := by kernel_rfl

def horner (X : Nat → Nat) (n i : Nat) : Nat → Nat
  | 0 => 0
  | j + 1 => horner X n i j * 256 + (if i + j < n then X (i + j) else 0)
theorem horner_bd (X : Nat → Nat) (n i : Nat) (hX : ∀ j, j < n → X j < 256) : ∀ j, horner X n i j < 256 ^ j
  | 0 => by simp [horner]
  | j + 1 => by
    have := horner_bd X n i hX j
    have h2 : (if i + j < n then X (i + j) else 0) < 256 := by split; exact hX _ ‹_›; omega
    simp only [horner, Nat.pow_succ]
    omega

/-- A block of cells that bears no mark. -/
def Plain (w : World) (b : Nat) : Prop := ∃ c t, w.heap[b]? = some (.cells c t (0, 0))
theorem Plain.lt {w : World} {b : Nat} (h : Plain w b) : b < w.heap.size := by
  obtain ⟨c, t, e⟩ := h; exact (Array.getElem?_eq_some_iff.1 e).1
theorem Plain.frozen {w : World} {b : Nat} (h : Plain w b) (o : Nat) : w.frozen? ⟨b, o, none⟩ = false := by
  obtain ⟨c, t, e⟩ := h; simp [World.frozen?, e]
theorem Plain.set {w : World} {b : Nat} (h : Plain w b) (a : Addr) (v : Value) : Plain (w.setCell a v) b := by
  obtain ⟨c, t, e⟩ := h
  simp only [Plain, World.setCell, Array.getElem?_modify]
  by_cases hb : a.block = b
  · rw [if_pos hb, e]
    simp
  · rw [if_neg hb]; exact ⟨c, t, e⟩
theorem plain_new (w : World) (c : Array Value) (t : TypeId) : Plain (w.alloc (.cells c t)) w.heap.size := ⟨c, t, (MapKept.heap_alloc w _).1⟩
theorem cell_new' (w : World) (c : Array Value) (t : TypeId) (j : Nat) : (w.alloc (.cells c t)).cell? ⟨w.heap.size, j, none⟩ = c[j]? := by
  have h := (MapKept.heap_alloc w (.cells c t)).1
  unfold World.cell?
  simp only
  rw [h]
  simp

theorem clone_any (w : World) (b o n cap : Nat) (X : Nat → Nat) (hn : n ≤ 1048576) (hX : ∀ j, j < n → w.cell? ⟨b, o + j, none⟩ = some (bv (X j))) (hb : n ≠ 0 → b < w.heap.size) :
    Calls Tryd.prog 7 #[.slice (some ⟨b, o, none⟩) n cap] w fun e w' => e = .returned (.slice (some ⟨w.heap.size, 0, none⟩) n n) ∧ Ch (fun _ => False) w w' ∧ w.heap.size < w'.heap.size ∧ Bytes w' w.heap.size n X := by
  have q := eq22
  have hmk := run_make_row' (P := Tryd.prog) 22 5 (.int .u8 0) 1 Tryd.underlying22 info5 rfl .i64 .i64 n (by omega) (by omega)
  go_enter Tryd.func7, Tryd.ntmps7
  go_wp2_with fail
  have c0 : Ch (fun _ => False) w (w.alloc (.cells (madeCells #[.int .u8 0] n) 5)) := (Ch.refl _ w).alloc _
  have p0 := plain_new w (madeCells #[.int .u8 0] n) 5
  have x0 : ∀ j, j < n → ∃ v, (w.alloc (.cells (madeCells #[.int .u8 0] n) 5)).cell? ⟨w.heap.size, j, none⟩ = some v := fun j hj => by
    rw [cell_new']
    exact ⟨_, Array.getElem?_eq_getElem (by rw [size_madeCells]; exact hj)⟩
  have s0 : w.heap.size < (w.alloc (.cells (madeCells #[.int .u8 0] n) 5)).heap.size := p0.lt
  generalize (w.alloc (.cells (madeCells #[.int .u8 0] n) 5)) = w1 at c0 p0 x0 s0 ⊢
  clear hmk
  go_loopg [4] (n + 1) (fun g i wr => ∃ (j : Nat), j ≤ n ∧ i = .int .i64 j ∧ g + j = n + 1 ∧ Ch (fun x => x = w.heap.size) w wr ∧ w.heap.size < wr.heap.size ∧ Plain wr w.heap.size ∧ (∀ q, q < n → ∃ v, wr.cell? ⟨w.heap.size, q, none⟩ = some v) ∧ (∀ q, q < j → wr.cell? ⟨w.heap.size, q, none⟩ = some (bv (X q))))
  case atStart => exact ⟨0, by omega, rfl, by omega, c0.mono fun _ _ h => h.elim, s0, p0, x0, fun q hq => by omega⟩
  case round =>
    obtain ⟨j, hj, rfl, hg, hc, hs, hp, hx, hd⟩ := hrel
    by_cases hlt : j < n
    · have e1 := hX j hlt
      have hbs := hb (by omega)
      rw [show w.cell? ⟨b, o + j, none⟩ = wr.cell? ⟨b, o + j, none⟩ from (World.cell?_of_block (a := ⟨b, o + j, none⟩) (hc.same b hbs (by omega))).symm] at e1
      obtain ⟨v, hv⟩ := hx j hlt
      have hfz := hp.frozen j
      have hc' := hide hc
      have hs' := hide hs
      have hp' := hide hp
      have hx' := hide hx
      have hd' := hide hd
      clear hc hs hp hx hd c0 p0 x0 s0 hX
      go_wp2_with fail
      go_roundg (gk - 1)
      case measure => omega
      case rel =>
        refine ⟨j + 1, by omega, by go_num, by omega, (unhide hc').setCell _ rfl _, by simpa [World.setCell] using unhide hs', (unhide hp').set _ _, fun q hq => ?_, fun q hq => ?_⟩
        · by_cases e : q = j
          · subst e; exact ⟨_, World.cell?_setCell_same _ _ _ hv⟩
          · obtain ⟨u, hu⟩ := unhide hx' q hq
            exact ⟨u, by rw [World.cell?_setCell_other _ _ _ _ (fun x => e (by injection x with _ h2; exact h2.symm))]; exact hu⟩
        · by_cases e : q = j
          · subst e; exact World.cell?_setCell_same _ _ _ hv
          · rw [World.cell?_setCell_other _ _ _ _ (fun x => e (by injection x with _ h2; exact h2.symm))]
            exact unhide hd' q (by omega)
    · obtain rfl : j = n := by omega
      have hc' := hide hc
      have hs' := hide hs
      have hd' := hide hd
      clear hc hs hp hx hd c0 p0 x0 s0 hX
      go_wp2_with fail
      go_ret
      exact ⟨rfl, (unhide hc').mono fun x hx e => by omega, unhide hs', unhide hd'⟩

theorem word_any (w : World) (D n cap i : Nat) (X : Nat → Nat) (hn : n ≤ 1048576) (hi : i ≤ n) (hX : Bytes w D n X) (hB : ∀ j, j < n → X j < 256) :
    Calls Tryd.prog 10 #[.slice (some ⟨D, 0, none⟩) n cap, .int .i64 i] w fun e w' => e = .returned (.int .u32 (horner X n i 4)) ∧ w' = w := by
  have hX' := hide hX
  have hB' := hide hB
  clear hX hB
  go_enter Tryd.func10, Tryd.ntmps10
  go_wp2_with fail
  go_loopg [5, 6] 5 (fun g a c wr => wr = w ∧ ∃ (j : Nat), j ≤ 4 ∧ c = .int .i64 j ∧ g + j = 5 ∧ a = .int .u32 (horner X n i j))
  case atStart => exact ⟨rfl, 0, by omega, rfl, by omega, rfl⟩
  case round =>
    obtain ⟨rfl, j, hj, rfl, hg, rfl⟩ := hrel
    have hbd := horner_bd X n i (unhide hB') j
    by_cases hlt : j < 4
    · have hbd2 : horner X n i j < 16777216 := by
        have := Nat.pow_le_pow_right (n := 256) (by omega) (show j ≤ 3 by omega)
        omega
      clear hbd
      generalize hh : horner X n i j = h at *
      have hh' := hide hh
      clear hh
      by_cases hin : i + j < n
      · have e1 := unhide hX' (i + j) hin
        have e2 := unhide hB' (i + j) hin
        have hor : bits .or .u32 ((h : Int) * 256) ((X (i + j) : Nat) : Int) = (h : Int) * 256 + (X (i + j) : Nat) :=
          bits_join .u32 32 (by decide) wraps_u32 8 _ _ (by omega) (by omega) (by omega) (by omega) (by omega) (by omega)
        go_wp2_with fail
        go_roundg (gk - 1)
        case measure => omega
        case rel => exact ⟨rfl, j + 1, by omega, by go_num, by omega, by rw [horner, if_pos hin, unhide hh']; exact congrArg (Value.int .u32) (by omega)⟩
      · go_wp2_with fail
        go_roundg (gk - 1)
        case measure => omega
        case rel => exact ⟨rfl, j + 1, by omega, by go_num, by omega, by rw [horner, if_neg hin, unhide hh']; exact congrArg (Value.int .u32) (by omega)⟩
    · obtain rfl : j = 4 := by omega
      go_wp2_with fail
      go_ret
      exact ⟨rfl, rfl⟩

/-- (bigEndian).Uint32 of a slice of four. -/
theorem uint32_any (w : World) (Q : Nat) (c : Nat) (g : Nat → Nat) (h0 : w.cell? ⟨Q, 0, none⟩ = some (bv (g 0))) (h1 : w.cell? ⟨Q, 1, none⟩ = some (bv (g 1)))
    (h2 : w.cell? ⟨Q, 2, none⟩ = some (bv (g 2))) (h3 : w.cell? ⟨Q, 3, none⟩ = some (bv (g 3))) (hg : ∀ j, j < 4 → g j < 256) (hQ : Q < w.heap.size) :
    Calls Tryd.prog 22 #[.agg #[], .slice (some ⟨Q, 0, none⟩) 4 4] w fun e w' => e = .returned (.int .u32 ((((g 0 * 256 + g 1) * 256 + g 2) * 256 + g 3 : Nat) : Int)) ∧ Ch (fun _ => False) w w' := by
  have b0 := hg 0 (by omega)
  have b1 := hg 1 (by omega)
  have b2 := hg 2 (by omega)
  have b3 := hg 3 (by omega)
  have cl : ∀ (o : Obj) (k : Nat), (w.alloc o).cell? ⟨Q, k, none⟩ = w.cell? ⟨Q, k, none⟩ := fun o k => ((Below.refl w.heap.size w).alloc (Nat.le_refl _) o).cell (p := ⟨Q, k, none⟩) hQ
  have c0 := fun o => (cl o 0).trans h0
  have c1 := fun o => (cl o 1).trans h1
  have c2 := fun o => (cl o 2).trans h2
  have c3 := fun o => (cl o 3).trans h3
  have hor1 : bits .or .u32 ((g 3 : Nat) : Int) ((g 2 : Int) * 256) = (g 3 : Int) + (g 2 : Int) * 256 := u32_or8 _ _ (by omega) (by omega) (by omega) (by omega) (by omega)
  have hor2 : bits .or .u32 ((g 3 : Int) + (g 2 : Int) * 256) ((g 1 : Int) * 65536) = (g 3 : Int) + (g 2 : Int) * 256 + (g 1 : Int) * 65536 := u32_or16 _ _ (by omega) (by omega) (by omega) (by omega) (by omega)
  have hor3 : bits .or .u32 ((g 3 : Int) + (g 2 : Int) * 256 + (g 1 : Int) * 65536) ((g 0 : Int) * 16777216) = (g 3 : Int) + (g 2 : Int) * 256 + (g 1 : Int) * 65536 + (g 0 : Int) * 16777216 := u32_or24 _ _ (by omega) (by omega) (by omega) (by omega) (by omega)
  clear cl hg h0 h1 h2 h3
  go_enter Tryd.func22, Tryd.ntmps22
  go_wp2_with fail
  go_quiet (fail)
  go_wp2_with fail
  go_ret
  exact ⟨congrArg (fun x => Ending.returned (Value.int .u32 x)) (by omega), ((Ch.refl _ w).alloc _).drewN _⟩
end Go.Proofs.Qxb6618799aDoor
