import Derived.Test.Qxb6618660aZz2
namespace Go.Proofs.Qxb6618660a
open Go.RowKit Go.MuLone Go.Maps Go.WideMaps
set_option linter.unusedVariables false
set_option linter.unusedSimpArgs false

/-! ### a list of writes -/
def puts (w : World) (ws : List (Nat × Nat × Value)) : World := ws.foldl (fun w e => w.setCell ⟨e.1, e.2.1, none⟩ e.2.2) w
theorem puts_nil (w : World) : puts w [] = w := rfl
theorem puts_cons (w : World) (e : Nat × Nat × Value) (ws : List (Nat × Nat × Value)) : puts w (e :: ws) = puts (w.setCell ⟨e.1, e.2.1, none⟩ e.2.2) ws := rfl
theorem cell_puts {b o : Nat} : ∀ (ws : List (Nat × Nat × Value)) (w : World), (∀ e ∈ ws, e.1 = b → ¬ e.2.1 = o) → (puts w ws).cell? ⟨b, o, none⟩ = w.cell? ⟨b, o, none⟩
  | [], w, _ => rfl
  | e :: ws, w, h => by
    rw [puts_cons, cell_puts ws _ (fun x hx => h x (by simp [hx]))]
    refine World.cell?_setCell_other _ _ _ _ fun he => ?_
    have h1 : e.1 = b := by injection he
    have h2 : e.2.1 = o := by injection he
    exact h e (by simp) h1 h2
theorem plain_puts {b : Nat} : ∀ (ws : List (Nat × Nat × Value)) (w : World), Plain w b → Plain (puts w ws) b
  | [], w, h => h
  | e :: ws, w, h => by rw [puts_cons]; exact plain_puts ws _ (h.set _ _)
theorem below_puts {B : Nat} {a : World} : ∀ (ws : List (Nat × Nat × Value)) (w : World), Below B a w → (∀ e ∈ ws, B ≤ e.1) → Below B a (puts w ws)
  | [], w, h, _ => h
  | e :: ws, w, h, hb => by rw [puts_cons]; exact below_puts ws _ (h.setCell (hb e (by simp)) _) (fun x hx => hb x (by simp [hx]))
theorem owns_puts {b n : Nat} {D : DataW Unit} : ∀ (ws : List (Nat × Nat × Value)) (w : World), w.ownsMap Try.prog 9 ptrElem b n D → (∀ e ∈ ws, ¬ e.1 = b) → (puts w ws).ownsMap Try.prog 9 ptrElem b n D
  | [], w, h, _ => h
  | e :: ws, w, h, hb => by rw [puts_cons]; exact owns_puts ws _ (h.setCell (fun x => hb e (by simp) x.symm) _) (fun x hx => hb x (by simp [hx]))
theorem size_puts : ∀ (ws : List (Nat × Nat × Value)) (w : World), (puts w ws).heap.size = w.heap.size
  | [], w => rfl
  | e :: ws, w => by rw [puts_cons, size_puts ws]; simp [World.setCell]
theorem wrap_id (x : Int) (h0 : -9223372036854775808 ≤ x) (h1 : x ≤ 9223372036854775807) : wrap64 x = x := by unfold wrap64; omega

/-! ### sums -/
theorem sumF_congr {f g : Nat → Int} : ∀ k : Nat, (∀ j, j < k → f j = g j) → sumF f k = sumF g k
  | 0, _ => rfl
  | k + 1, h => by simp only [sumF]; rw [sumF_congr k (fun j hj => h j (by omega)), h k (by omega)]
theorem sumF_upd {f g : Nat → Int} {j : Nat} : ∀ k : Nat, j < k → (∀ q, ¬ q = j → g q = f q) → sumF g k = sumF f k + (g j - f j)
  | 0, h, _ => by omega
  | k + 1, h, e => by
    simp only [sumF]
    by_cases hk : j = k
    · subst hk
      rw [sumF_congr j (fun q hq => e q (by omega))]; omega
    · rw [sumF_upd k (by omega) e, e k (fun x => hk x.symm)]; omega

/-! ### the state -/
def Pres (H : Nat → VH) (i : Nat) (s : ByteArray) : Prop := ∃ j, j < i ∧ (H j).client = s
def hF (H : Nat → VH) (ct : Nat → Int) (s : ByteArray) (j : Nat) : Int := if (H j).client = s then ct j else 0
def oF (H : Nat → VH) (ct : Nat → Int) (s : ByteArray) (j : Nat) : Int := if (H j).client = s ∧ (H j).stands = 0 then ct j else 0
def chnJ (H : Nat → VH) (i : Nat) (s : ByteArray) : List Nat := (List.range i).filter fun j => decide ((H j).client = s)

structure Built (w : World) (B0 bb mb pb N i np : Nat) (H : Nat → VH) (hb : Nat → Nat) (cb : ByteArray → Nat) (ct : Nat → Int) (D : DataW Unit) : Prop where
  base : B0 ≤ mb
  mbb : mb < bb
  bpb : bb < pb
  hlo : ∀ j, j < i → pb < hb j
  clo : ∀ s, Pres H i s → pb < cb s
  hinj : ∀ j k, j < i → k < i → hb j = hb k → j = k
  cinj : ∀ s s', Pres H i s → Pres H i s' → cb s = cb s' → s = s'
  hc : ∀ j s, j < i → Pres H i s → ¬ hb j = cb s
  b0 : w.cell? ⟨bb, 0, none⟩ = some (.int .i32 0)
  b3 : ∃ u, w.cell? ⟨bb, 3, none⟩ = some (.int .i64 u)
  b4 : ∃ u, w.cell? ⟨bb, 4, none⟩ = some (.int .i64 u)
  b6 : w.cell? ⟨bb, 6, none⟩ = some (.map (some mb))
  pbb : Plain w bb
  own : w.ownsMap Try.prog 9 ptrElem mb i D
  says : MapSays D (Pres H i) cb
  h0 : ∀ j, j < i → w.cell? ⟨hb j, 0, none⟩ = some (.pointer (some ⟨bb, 0, none⟩))
  h1 : ∀ j, j < i → w.cell? ⟨hb j, 1, none⟩ = some (.pointer (some ⟨cb (H j).client, 0, none⟩))
  hh : ∀ j, j < i → HoldsAt w (hb j) (ct j) (H j).st (H j).yields (H j).gone
  hp : ∀ j, j < i → Plain w (hb j)
  cp : ∀ s, Pres H i s → Plain w (cb s)
  c1 : ∀ s, Pres H i s → w.cell? ⟨cb s, 1, none⟩ = some (.int .i64 (sumF (hF H ct s) i))
  c2 : ∀ s, Pres H i s → w.cell? ⟨cb s, 2, none⟩ = some (.int .i64 (sumF (oF H ct s) i))
  c3 : ∀ s, Pres H i s → w.cell? ⟨cb s, 3, none⟩ = some (optPtr (((chnJ H i s).map hb).head?))
  c4 : ∀ s, Pres H i s → w.cell? ⟨cb s, 4, none⟩ = some (optPtr (((chnJ H i s).map hb).getLast?))
  ch : ∀ s, Pres H i s → Chain w ((chnJ H i s).map hb) (((chnJ H i s).map hb).head?)
  ptr : ∀ j, j < np → w.cell? ⟨pb, j, none⟩ = some (.pointer (some ⟨hb j, 0, none⟩))
  cbd : ∀ j, j < i → -1099511627776 ≤ ct j ∧ ct j ≤ 1099511627776
  isml : i ≤ 4096
  ppb : Plain w pb
  pex : ∀ j, j < N → ∃ v, w.cell? ⟨pb, j, none⟩ = some v

theorem Chain.congr {w w' : World} : ∀ (L : List Nat) (p : Option Nat), (∀ b ∈ L, w'.cell? ⟨b, 8, none⟩ = w.cell? ⟨b, 8, none⟩) → Chain w L p → Chain w' L p
  | [], p, _, h => h
  | b :: r, p, hl, ⟨h1, q, h2, h3⟩ => ⟨h1, q, (hl b (by simp)).trans h2, Chain.congr r q (fun x hx => hl x (by simp [hx])) h3⟩
theorem mem_chn {H : Nat → VH} {i : Nat} {s : ByteArray} {hb : Nat → Nat} {b : Nat} (h : b ∈ (chnJ H i s).map hb) : ∃ j, j < i ∧ (H j).client = s ∧ hb j = b := by
  obtain ⟨j, hj, rfl⟩ := List.mem_map.1 h
  simp [chnJ] at hj
  exact ⟨j, hj.1, hj.2, rfl⟩
theorem HoldsAt.congr {w w' : World} {b : Nat} {c st : Int} {y g : Bool} (h : HoldsAt w b c st y g) (e : ∀ o, 3 ≤ o → o ≤ 6 → w'.cell? ⟨b, o, none⟩ = w.cell? ⟨b, o, none⟩) : HoldsAt w' b c st y g :=
  ⟨(e 3 (by omega) (by omega)).trans h.h3, (e 4 (by omega) (by omega)).trans h.h4, (e 5 (by omega) (by omega)).trans h.h5, (e 6 (by omega) (by omega)).trans h.h6⟩
end Go.Proofs.Qxb6618660a
