import Derived.Test.Qxb6618660aWalksC
import Derived.Maps.RangeWalk
import Derived.BigQuiet
namespace Go.Proofs.Qxb6618660a
open Go.RowKit Go.MuLone Go.Maps Go.WideMaps
set_option linter.unusedVariables false
set_option linter.unusedSimpArgs false

theorem key_inv (key : Value) (kl : Lit) (h : keyOf Try.prog 9 key = some kl) : ∃ s : ByteArray, key = .string s := by
  cases key <;> simp [keyOf, Try.underlying9, mapKey] at h
  exact ⟨_, rfl⟩
theorem key_lit (s : ByteArray) (kl : Lit) (h : keyOf Try.prog 9 (.string s) = some kl) : kl = .string s.data.toList := by
  simp [keyOf, Try.underlying9, mapKey] at h
  exact h.2.symm
theorem elem_inv (v : Value) (y : DataW Unit × List MemPlace) (h : ptrElem v = some y) : ∃ c : Option Nat, v = optPtr c := by
  rcases ptrElem_inv h with ⟨rfl, _⟩ | ⟨b, rfl, _⟩
  · exact ⟨none, rfl⟩
  · exact ⟨some b, rfl⟩
theorem elem_some (c : Option Nat) (b : Nat) (ps : List MemPlace) (h : ptrElem (optPtr c) = some (.lit (.int .i64 b), ps)) : c = some b := by
  cases c with
  | none => simp [optPtr, ptrElem] at h
  | some k => simp [optPtr, ptrElem] at h; simp; omega

/-- What openOf answers for a client of the open sum o. -/
def openO (same : Bool) (stands cost o : Int) : Int := if same && stands == 0 then o - cost else o

theorem closure_any (w : World) (c box t tc : Nat) (cost st o : Int) (y g : Bool)
    (hx : w.cell? ⟨box, 0, none⟩ = some (.pointer (some ⟨t, 0, none⟩))) (t1 : w.cell? ⟨t, 1, none⟩ = some (.pointer (some ⟨tc, 0, none⟩))) (ht : HoldsAt w t cost st y g)
    (c2 : w.cell? ⟨c, 2, none⟩ = some (.int .i64 o)) (pc : Plain w c) (ptc : Plain w tc) (o0 : -18014398509481984 ≤ o) (o1 : o ≤ 18014398509481984) (k0 : -18014398509481984 ≤ cost) (k1 : cost ≤ 18014398509481984) :
    Calls Try.prog 50 #[.pointer (some ⟨c, 0, none⟩), .pointer (some ⟨box, 0, none⟩)] w fun e w' => e = .returned (.int .i64 (openO (c == tc) (if y then 0 else st) cost o)) ∧ ∃ n, w' = w.drewN n := by
  obtain ⟨h3, h4, h5, h6⟩ := ht
  have hrun := run_eql57 w c tc pc ptc
  have S := hide (stands_any t st y w h4 h5)
  clear pc ptc h6
  by_cases e : c = tc
  · rw [show (c == tc) = true by simp [e]] at hrun ⊢
    by_cases z : (if y then 0 else st) = 0
    · have z' := hide z
      rw [z] at S
      have hv : Hid (openO true (if y then 0 else st) cost o = o - cost) := hide (by unfold openO; simp [z])
      clear z e
      generalize hE : openO true (if y then 0 else st) cost o = E at hv ⊢
      have hE' := hide hE
      clear hE
      go_enter Try.func50, Try.ntmps50
      go_wp2_with fail
      refine (unhide S).mono ?_
      rintro e w' ⟨rfl, rfl⟩
      go_wp2
      go_quiet (fail)
      go_wp2
      go_ret
      exact ⟨by rw [unhide hv]; rfl, _, rfl⟩
    · have hv : Hid (openO true (if y then 0 else st) cost o = o) := hide (by unfold openO; simp [z])
      generalize hE : openO true (if y then 0 else st) cost o = E at hv ⊢
      generalize (if y then 0 else st) = zz at S z
      have hE' := hide hE
      clear hE e
      go_enter Try.func50, Try.ntmps50
      go_wp2_with fail
      refine (unhide S).mono ?_
      rintro e w' ⟨rfl, rfl⟩
      go_wp2
      go_ret
      exact ⟨by rw [unhide hv]; rfl, 0, rfl⟩
  · rw [show (c == tc) = false by simp [e]] at hrun ⊢
    have hv : Hid (openO false (if y then 0 else st) cost o = o) := hide (by unfold openO; simp)
    generalize hE : openO false (if y then 0 else st) cost o = E at hv ⊢
    have hE' := hide hE
    clear hE e
    go_enter Try.func50, Try.ntmps50
    go_wp2_with fail
    go_ret
    exact ⟨by rw [unhide hv]; rfl, 0, rfl⟩

/-- The clients as the map knows them: which names, and each one's block. -/
structure MapSays (D : DataW Unit) (pres : ByteArray → Prop) (cb : ByteArray → Nat) : Prop where
  yes : ∀ s, pres s → ∀ z, D.atKey (.string s.data.toList) z = .lit (.int .i64 (cb s))
  has : ∀ s, pres s → Maps.has D (.string s.data.toList) = true
  no : ∀ s, ¬ pres s → ∀ z, D.atKey (.string s.data.toList) z = z

theorem MapSays.get {D : DataW Unit} {pres : ByteArray → Prop} {cb : ByteArray → Nat} (M : MapSays D pres cb) (s : ByteArray) (c : Option Nat) (y : DataW Unit) (ps : List MemPlace)
    (hat : ∀ z, D.atKey (.string s.data.toList) z = y) (hv : ptrElem (optPtr c) = some (y, ps)) : pres s ∧ c = some (cb s) := by
  by_cases h : pres s
  · refine ⟨h, ?_⟩
    have h1 := M.yes s h .nil
    rw [hat] at h1
    subst h1
    exact elem_some c _ ps hv
  · have h1 := M.no s h (.lit (.bool true))
    have h2 := M.no s h (.lit (.bool false))
    rw [hat] at h1 h2
    rw [h1] at h2
    simp at h2

theorem key_ne {s s' : ByteArray} (h : ¬ s = s') : (Lit.string s.data.toList).sameKey (.string s'.data.toList) = false :=
  Maps.sameKey_ne (fun e => h (by
    simp at e
    have : s.data = s'.data := Array.ext' (by simpa using e)
    cases s; cases s'; simp_all))

/-- What the search reads of the clients and of the taker. -/
structure View (w : World) (bb mb t tc : Nat) (tn : ByteArray) (pres : ByteArray → Prop) (cb : ByteArray → Nat) (held opn : ByteArray → Int) (chn : ByteArray → List Nat) (hdp : ByteArray → Option Nat)
    (cst stn : Nat → Int) (yl gn : Nat → Bool) : Prop where
  b6 : w.cell? ⟨bb, 6, none⟩ = some (.map (some mb))
  lb : bb < w.heap.size
  tin : pres tn
  t1 : w.cell? ⟨t, 1, none⟩ = some (.pointer (some ⟨cb tn, 0, none⟩))
  th : HoldsAt w t (cst t) (stn t) (yl t) (gn t)
  tp : Plain w t
  tb : -18014398509481984 ≤ cst t ∧ cst t ≤ 18014398509481984
  c1 : ∀ s, pres s → w.cell? ⟨cb s, 1, none⟩ = some (.int .i64 (held s))
  c2 : ∀ s, pres s → w.cell? ⟨cb s, 2, none⟩ = some (.int .i64 (opn s))
  c3 : ∀ s, pres s → w.cell? ⟨cb s, 3, none⟩ = some (optPtr (hdp s))
  cp : ∀ s, pres s → Plain w (cb s)
  ch : ∀ s, pres s → Chain w (chn s) (hdp s)
  ca : ∀ s, pres s → ∀ b ∈ chn s, HoldsAt w b (cst b) (stn b) (yl b) (gn b) ∧ Plain w b
  inj : ∀ s s', pres s → pres s' → cb s = cb s' → s = s'
  ob : ∀ s, pres s → -18014398509481984 ≤ opn s ∧ opn s ≤ 18014398509481984
  hb : ∀ s, pres s → -18014398509481984 ≤ held s ∧ held s ≤ 18014398509481984

theorem HoldsAt.below {B : Nat} {w w' : World} {b : Nat} {c st : Int} {y g : Bool} (h : HoldsAt w b c st y g) (hB : Below B w w') (hb : b < B) : HoldsAt w' b c st y g :=
  ⟨(hB.cell (p := ⟨b, 3, none⟩) hb).trans h.h3, (hB.cell (p := ⟨b, 4, none⟩) hb).trans h.h4, (hB.cell (p := ⟨b, 5, none⟩) hb).trans h.h5, (hB.cell (p := ⟨b, 6, none⟩) hb).trans h.h6⟩
theorem Plain.below {B : Nat} {w w' : World} {b : Nat} (h : Plain w b) (hB : Below B w w') (hb : b < B) : Plain w' b := h.of_heap (hB.block b hb)
theorem Chain.below {B : Nat} {w w' : World} (hB : Below B w w') : ∀ (L : List Nat) (p : Option Nat), (∀ b ∈ L, b < B) → Chain w L p → Chain w' L p
  | [], p, _, h => h
  | b :: r, p, hl, ⟨h1, q, h2, h3⟩ => ⟨h1, q, (hB.cell (p := ⟨b, 8, none⟩) (hl b (by simp))).trans h2, Chain.below hB r q (fun x hx => hl x (by simp [hx])) h3⟩

theorem View.below {w w' : World} {bb mb t tc : Nat} {tn : ByteArray} {pres : ByteArray → Prop} {cb : ByteArray → Nat} {held opn : ByteArray → Int} {chn : ByteArray → List Nat} {hdp : ByteArray → Option Nat} {cst stn : Nat → Int} {yl gn : Nat → Bool}
    (V : View w bb mb t tc tn pres cb held opn chn hdp cst stn yl gn) (hB : Below w.heap.size w w') : View w' bb mb t tc tn pres cb held opn chn hdp cst stn yl gn where
  b6 := (hB.cell (p := ⟨bb, 6, none⟩) V.lb).trans V.b6
  lb := Nat.lt_of_lt_of_le V.lb hB.size
  tin := V.tin
  t1 := (hB.cell (p := ⟨t, 1, none⟩) V.tp.lt).trans V.t1
  th := V.th.below hB V.tp.lt
  tp := V.tp.below hB V.tp.lt
  tb := V.tb
  c1 := fun s h => (hB.cell (p := ⟨cb s, 1, none⟩) (V.cp s h).lt).trans (V.c1 s h)
  c2 := fun s h => (hB.cell (p := ⟨cb s, 2, none⟩) (V.cp s h).lt).trans (V.c2 s h)
  c3 := fun s h => (hB.cell (p := ⟨cb s, 3, none⟩) (V.cp s h).lt).trans (V.c3 s h)
  cp := fun s h => (V.cp s h).below hB (V.cp s h).lt
  ch := fun s h => Chain.below hB _ _ (fun b hb => (V.ca s h b hb).2.lt) (V.ch s h)
  ca := fun s h b hb => ⟨(V.ca s h b hb).1.below hB (V.ca s h b hb).2.lt, (V.ca s h b hb).2.below hB (V.ca s h b hb).2.lt⟩
  inj := V.inj
  ob := V.ob
  hb := V.hb
end Go.Proofs.Qxb6618660a
