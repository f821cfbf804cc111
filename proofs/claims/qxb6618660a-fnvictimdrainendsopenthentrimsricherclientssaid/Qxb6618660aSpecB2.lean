import Derived.Test.Qxb6618660aSpecB
import Derived.Test.Qxb6618660aSpecA
namespace Go.Proofs.Qxb6618660a
open Go.RowKit
set_option linter.unusedVariables false
set_option linter.unusedSimpArgs false

theorem okN_iff {H : Nat → VH} {ct : Nat → Int} {t : Nat} {st : Int} {j : Nat} : okN H ct t st j = true ↔ ¬ j = t ∧ (H j).gone = false ∧ 0 < ct j ∧ (H j).stands = st := by
  simp [okN, and_assoc]

/-- One answer of victim: one holder more is ended, as it should be; or all are. -/
theorem drain_step {H : Nat → VH} {t n : Nat} {k : Int} {E : Nat → Bool} {ct : Nat → Int} {r : Option Nat} (Dm : DomB H n) (hk : 0 ≤ k) (ht : t < n) (C : CtE H n E ct) (D : DInv H t n k E) (V : VicN H ct t n k r) :
    (∃ j, r = some j ∧ j < n ∧ ¬ j = t ∧ E j = false ∧ (H j).gone = false ∧ 0 < ct j ∧ DInv H t n k (updE E j)) ∨ (r = none ∧ ∀ j, j < n → E j = goal H t n k j) := by
  rcases V with ⟨s, hs, pos, hmax, j, hj, rfl⟩ | ⟨hle, m, pm, hmax, h3⟩
  · left
    obtain ⟨h1, h2, h4, _⟩ := firstN_some hj
    obtain ⟨o1, o2, o3, o4⟩ := okN_iff.1 h4
    obtain ⟨c1, c2, c3, c4⟩ := ctE_pos C h1 o3
    have hw : w0 H t j = true := w0_iff.2 ⟨o1, c2, c3, o4⟩
    exact ⟨j, rfl, h1, o1, c1, c2, o3, D.add (goal_iff.2 (Or.inl hw)) (fun h => absurd o4 h)⟩
  · have h0 := all0 Dm C hle
    have hT := held_t C D h0
    rw [hT] at h3
    have rnn : 0 ≤ rr H t n (H t).client := sum_nn n fun q hq => by
      unfold rrF; have := Dm.eff hq; split <;> omega
    rcases h3 with ⟨h4, rfl⟩ | ⟨h4, rfl⟩
    · right
      refine ⟨rfl, fun j hj => ?_⟩
      cases he : E j with
      | true => exact (D.g j hj he).symm
      | false =>
        cases hg : goal H t n k j with
        | false => rfl
        | true =>
          rcases goal_iff.1 hg with h | ⟨h5, h6, h7⟩
          · rw [h0 j hj h] at he; cases he
          · have a1 := held_low Dm C D hj h5 he
            have a2 := hmax _ ⟨j, hj, rfl⟩
            unfold TT at h7
            omega
    · have hmt : ¬ m = (H t).client := fun e => by rw [e, hT] at h4; omega
      have pick : ∀ j, j < n → (H j).client = m → cand H j = true → E j = false → (∀ q, q < n → conB H (H j).client (H j).stands j q = true → E q = true) → DInv H t n k (updE E j) := by
        intro j hj hc hcj hej hb
        refine D.add (goal_iff.2 (Or.inr ⟨hcj, by rw [hc]; exact hmt, ?_⟩)) (fun _ => ⟨h0, hb⟩)
        have := held_pick Dm C D h0 hj hcj hej hb
        rw [hc] at this
        unfold TT
        rw [hc]
        omega
      have notE : ∀ q, q < n → cand H q = true → (H q).client = m → E q = false → okN H ct t (H q).stands q = true := by
        intro q hq hcq hc he
        obtain ⟨g1, g2, g3⟩ := cand_iff.1 hcq
        refine okN_iff.2 ⟨fun e => hmt (by rw [← hc, e]), g1, ?_, rfl⟩
        rw [ctE_of C hq he g1]; exact g2
      cases e1 : firstN H ct t n 1 m with
      | some j =>
        left
        obtain ⟨h1, h2, h5, h6⟩ := firstN_some e1
        obtain ⟨o1, o2, o3, o4⟩ := okN_iff.1 h5
        obtain ⟨c1, c2, c3, c4⟩ := ctE_pos C h1 o3
        refine ⟨j, rfl, h1, o1, c1, c2, o3, pick j h1 h2 (cand_iff.2 ⟨c2, c3, by omega⟩) c1 fun q hq hcon => ?_⟩
        obtain ⟨k1, k2, k3⟩ := conB_iff.1 hcon
        cases he : E q with
        | true => rfl
        | false =>
          have hk2 : (H q).client = m := k2.trans h2
          have ok := notE q hq k1 hk2 he
          have hs := Dm.stands hq
          have hq0 := (cand_iff.1 k1).2.2
          have : (H q).stands = 1 ∧ q < j := by omega
          rw [this.1] at ok
          exact absurd ⟨hk2, ok⟩ (h6 q this.2)
      | none =>
        have no1 := firstN_none e1
        cases e2 : firstN H ct t n 2 m with
        | some j =>
          left
          obtain ⟨h1, h2, h5, h6⟩ := firstN_some e2
          obtain ⟨o1, o2, o3, o4⟩ := okN_iff.1 h5
          obtain ⟨c1, c2, c3, c4⟩ := ctE_pos C h1 o3
          refine ⟨j, rfl, h1, o1, c1, c2, o3, pick j h1 h2 (cand_iff.2 ⟨c2, c3, by omega⟩) c1 fun q hq hcon => ?_⟩
          obtain ⟨k1, k2, k3⟩ := conB_iff.1 hcon
          cases he : E q with
          | true => rfl
          | false =>
            have hk2 : (H q).client = m := k2.trans h2
            have ok := notE q hq k1 hk2 he
            have hs := Dm.stands hq
            have hq0 := (cand_iff.1 k1).2.2
            by_cases h7 : (H q).stands = 1
            · rw [h7] at ok; exact absurd ⟨hk2, ok⟩ (no1 q hq)
            · have : (H q).stands = 2 ∧ q < j := by omega
              rw [this.1] at ok
              exact absurd ⟨hk2, ok⟩ (h6 q this.2)
        | none =>
          exfalso
          have no2 := firstN_none e2
          have hp : 0 < sumF (hF H ct m) n := by omega
          obtain ⟨q, hq, h5⟩ := sum_pos n hp
          unfold hF at h5
          split at h5
          · rename_i hc
            obtain ⟨c1, c2, c3, c4⟩ := ctE_pos C hq h5
            rcases Dm.stands hq with h6 | h6 | h6
            · have := h0 q hq (w0_iff.2 ⟨fun e => hmt (by rw [← hc, e]), c2, c3, h6⟩)
              rw [this] at c1; cases c1
            · have ok := notE q hq (cand_iff.2 ⟨c2, c3, by omega⟩) hc c1
              rw [h6] at ok; exact no1 q hq ⟨hc, ok⟩
            · have ok := notE q hq (cand_iff.2 ⟨c2, c3, by omega⟩) hc c1
              rw [h6] at ok; exact no2 q hq ⟨hc, ok⟩
          · omega

/-! ### the law's own reckoning of 'want' -/
/-- Behind the clients whose first holder is below i. -/
def WInv (H : Nat → VH) (t n : Nat) (k : Int) (i : Nat) (W : Nat → Bool) : Prop :=
  ∀ q, q < n → (Pres H i (H q).client → W q = goal H t n k q) ∧ (¬ Pres H i (H q).client → W q = w0 H t q)
theorem goal_t {H : Nat → VH} {t n : Nat} {k : Int} {q : Nat} (h : (H q).client = (H t).client) : goal H t n k q = w0 H t q := by
  unfold goal; simp [h]
theorem WInv.start {H : Nat → VH} {t n : Nat} {k : Int} {W : Nat → Bool} (h : ∀ q, q < n → W q = w0 H t q) : WInv H t n k 0 W :=
  fun q hq => ⟨fun p => absurd p pres_zero, fun _ => h q hq⟩
theorem WInv.skip {H : Nat → VH} {t n : Nat} {k : Int} {i : Nat} {W : Nat → Bool} (h : WInv H t n k i W) (hi : firstB H i = false ∨ (H i).client = (H t).client) : WInv H t n k (i + 1) W := by
  intro q hq
  have hq2 := h q hq
  by_cases p : Pres H i (H q).client
  · exact ⟨fun _ => hq2.1 p, fun np => absurd (pres_succ.2 (Or.inl p)) np⟩
  · refine ⟨fun p2 => ?_, fun _ => hq2.2 p⟩
    have e := (pres_succ.1 p2).resolve_left p
    rcases hi with h2 | h2
    · exfalso
      have : ∃ j, j < i ∧ (H j).client = (H i).client := Classical.byContradiction fun x => by
        have : firstB H i = true := firstB_true fun q' hq' e' => x ⟨q', hq', e'⟩
        rw [this] at h2; cases h2
      obtain ⟨j, hj, e2⟩ := this
      exact p ⟨j, hj, e2.trans e⟩
    · rw [hq2.2 p, goal_t (e.symm.trans h2)]
theorem WInv.done {H : Nat → VH} {t n : Nat} {k : Int} {W : Nat → Bool} (h : WInv H t n k n W) {q : Nat} (hq : q < n) : W q = goal H t n k q := (h q hq).1 ⟨q, hq, rfl⟩

/-- Inside one client s, ahead of place (st, j): what is wanted of it, and what remains. -/
structure SInv (H : Nat → VH) (t n : Nat) (k : Int) (i : Nat) (s : ByteArray) (st : Int) (j : Nat) (W : Nat → Bool) (rem : Int) : Prop where
  other : ∀ q, q < n → ¬ (H q).client = s → (Pres H i (H q).client → W q = goal H t n k q) ∧ (¬ Pres H i (H q).client → W q = w0 H t q)
  seen : ∀ q, q < n → conB H s st j q = true → W q = goal H t n k q
  unseen : ∀ q, q < n → (H q).client = s → ¬ conB H s st j q = true → W q = w0 H t q
  low : rr H t n s - csum H n s st j ≤ rem
  alt : rem = rr H t n s - csum H n s st j ∨ rem ≤ TT H t n k
  hi : rem ≤ rr H t n s

theorem csum_zero {H : Nat → VH} {n i : Nat} {s : ByteArray} (hf : ∀ q, q < i → ¬ (H q).client = s) (h : DomB H n) : csum H n s 1 i = 0 := by
  refine sum_zero n fun q hq => ?_
  unfold csF
  rw [if_neg]
  intro c
  obtain ⟨c1, c2, c3⟩ := conB_iff.1 c
  have := h.stands hq
  have := (cand_iff.1 c1).2.2
  have : q < i := by omega
  exact hf q this c2
theorem SInv.start {H : Nat → VH} {t n : Nat} {k : Int} {i : Nat} {W : Nat → Bool} (Dm : DomB H n) (h : WInv H t n k i W) (hf : firstB H i = true) : SInv H t n k i (H i).client 1 i W (rr H t n (H i).client) := by
  have hf2 := firstB_iff.1 hf
  have np : ¬ Pres H i (H i).client := fun ⟨j, hj, e⟩ => hf2 j hj e
  have noc : ∀ q, q < n → ¬ conB H (H i).client 1 i q = true := fun q hq c => by
    obtain ⟨c1, c2, c3⟩ := conB_iff.1 c
    have := Dm.stands hq
    have := (cand_iff.1 c1).2.2
    have : q < i := by omega
    exact hf2 q this c2
  refine ⟨fun q hq _ => h q hq, fun q hq c => absurd c (noc q hq), fun q hq hc _ => (h q hq).2 (by rw [hc]; exact np), ?_, Or.inl ?_, Int.le_refl _⟩
  · rw [csum_zero hf2 Dm]; omega
  · rw [csum_zero hf2 Dm]; omega

/-- Nothing is looked at here. -/
theorem SInv.pass {H : Nat → VH} {t n : Nat} {k : Int} {i : Nat} {s : ByteArray} {st : Int} {j : Nat} {W : Nat → Bool} {rem : Int} (S : SInv H t n k i s st j W rem)
    (h : ¬ ((H j).client = s ∧ cand H j = true ∧ (H j).stands = st)) : SInv H t n k i s st (j + 1) W rem := by
  have e : ∀ q, conB H s st (j + 1) q = conB H s st j q := fun q => by
    rw [Bool.eq_iff_iff, conB_iff, conB_iff]
    constructor
    · rintro ⟨a, b, c⟩
      refine ⟨a, b, ?_⟩
      rcases c with c | ⟨c, d⟩
      · exact Or.inl c
      · by_cases hq : q = j
        · subst hq; exact absurd ⟨b, a, c⟩ h
        · exact Or.inr ⟨c, by omega⟩
    · rintro ⟨a, b, c⟩
      exact ⟨a, b, c.imp id fun x => ⟨x.1, by omega⟩⟩
  have e2 : csum H n s st (j + 1) = csum H n s st j := sumF_congr n fun q _ => by unfold csF; rw [e]
  exact ⟨S.other, fun q hq c => S.seen q hq (by rw [← e]; exact c), fun q hq hc c => S.unseen q hq hc (by rw [← e]; exact c), by rw [e2]; exact S.low, by rw [e2]; exact S.alt, S.hi⟩

theorem csum_succ {H : Nat → VH} {n : Nat} {s : ByteArray} {st : Int} {j : Nat} (hj : j < n) (h1 : (H j).client = s) (h2 : cand H j = true) (h3 : (H j).stands = st) : csum H n s st (j + 1) = csum H n s st j + (H j).cost := by
  unfold csum
  have e : ∀ q, ¬ q = j → csF H s st (j + 1) q = csF H s st j q := fun q hq => by
    unfold csF
    have : conB H s st (j + 1) q = conB H s st j q := by
      rw [Bool.eq_iff_iff, conB_iff, conB_iff]
      constructor
      · rintro ⟨a, b, c⟩; exact ⟨a, b, c.imp id fun x => ⟨x.1, by omega⟩⟩
      · rintro ⟨a, b, c⟩; exact ⟨a, b, c.imp id fun x => ⟨x.1, by omega⟩⟩
    rw [this]
  rw [sumF_upd (f := csF H s st j) (g := csF H s st (j + 1)) n hj e]
  have y : conB H s st (j + 1) j = true := conB_iff.2 ⟨h2, h1, Or.inr ⟨h3, by omega⟩⟩
  have z : ¬ conB H s st j j = true := fun c => by obtain ⟨_, _, c⟩ := conB_iff.1 c; omega
  unfold csF
  rw [if_pos y, if_neg z]; omega
theorem con_succ {H : Nat → VH} {s : ByteArray} {st : Int} {j q : Nat} (hq : ¬ q = j) : conB H s st (j + 1) q = conB H s st j q := by
  rw [Bool.eq_iff_iff, conB_iff, conB_iff]
  constructor
  · rintro ⟨a, b, c⟩; exact ⟨a, b, c.imp id fun x => ⟨x.1, by omega⟩⟩
  · rintro ⟨a, b, c⟩; exact ⟨a, b, c.imp id fun x => ⟨x.1, by omega⟩⟩

/-- The holder at j is wanted. -/
theorem SInv.take {H : Nat → VH} {t n : Nat} {k : Int} {i : Nat} {s : ByteArray} {st : Int} {j : Nat} {W : Nat → Bool} {rem : Int} (S : SInv H t n k i s st j W rem) (hj : j < n)
    (hst : ¬ s = (H t).client) (h1 : (H j).client = s) (h2 : cand H j = true) (h3 : (H j).stands = st) (h4 : TT H t n k < rem) : SInv H t n k i s st (j + 1) (updE W j) (rem - (H j).cost) := by
  have hrem : rem = rr H t n s - csum H n s st j := S.alt.resolve_right (by omega)
  have hcost := (cand_iff.1 h2).2.1
  have hg : goal H t n k j = true := goal_iff.2 (Or.inr ⟨h2, by rw [h1]; exact hst, by rw [h1, h3]; omega⟩)
  have cs := csum_succ hj h1 h2 h3
  refine ⟨fun q hq hc => ?_, fun q hq c => ?_, fun q hq hc c => ?_, by omega, Or.inl (by omega), by have := S.hi; omega⟩
  · have : ¬ q = j := fun e => hc (by rw [e]; exact h1)
    simp only [updE, this, if_false]; exact S.other q hq hc
  · by_cases e : q = j
    · subst e; simp [updE, hg]
    · simp only [updE, e, if_false]; exact S.seen q hq (by rw [← con_succ e]; exact c)
  · by_cases e : q = j
    · subst e; exact absurd (conB_iff.2 ⟨h2, h1, Or.inr ⟨h3, by omega⟩⟩) c
    · simp only [updE, e, if_false]; exact S.unseen q hq hc (by rw [← con_succ e]; exact c)
/-- The holder at j is not wanted. -/
theorem SInv.leave {H : Nat → VH} {t n : Nat} {k : Int} {i : Nat} {s : ByteArray} {st : Int} {j : Nat} {W : Nat → Bool} {rem : Int} (S : SInv H t n k i s st j W rem) (hj : j < n)
    (h1 : (H j).client = s) (h2 : cand H j = true) (h3 : (H j).stands = st) (h4 : rem ≤ TT H t n k) : SInv H t n k i s st (j + 1) W rem := by
  have hcost := (cand_iff.1 h2).2.1
  have cs := csum_succ hj h1 h2 h3
  have hw : w0 H t j = false := by
    cases e : w0 H t j with
    | false => rfl
    | true => exact absurd (w0_iff.1 e).2.2.2 (cand_iff.1 h2).2.2
  have hg : goal H t n k j = false := by
    cases e : goal H t n k j with
    | false => rfl
    | true =>
      rcases goal_iff.1 e with h | ⟨_, _, h⟩
      · rw [hw] at h; cases h
      · rw [h1, h3] at h; have := S.low; omega
  have z : ¬ conB H s st j j = true := fun c => by obtain ⟨_, _, c⟩ := conB_iff.1 c; omega
  refine ⟨S.other, fun q hq c => ?_, fun q hq hc c => ?_, by have := S.low; omega, Or.inr h4, S.hi⟩
  · by_cases e : q = j
    · subst e; rw [S.unseen q hq h1 z, hw, hg]
    · exact S.seen q hq (by rw [← con_succ e]; exact c)
  · by_cases e : q = j
    · subst e; exact absurd (conB_iff.2 ⟨h2, h1, Or.inr ⟨h3, by omega⟩⟩) c
    · exact S.unseen q hq hc (by rw [← con_succ e]; exact c)
/-- From one standing to the next. -/
theorem SInv.next {H : Nat → VH} {t n : Nat} {k : Int} {i : Nat} {s : ByteArray} {st : Int} {W : Nat → Bool} {rem : Int} (S : SInv H t n k i s st n W rem) (hf : ∀ q, q < i → ¬ (H q).client = s) : SInv H t n k i s (st + 1) i W rem := by
  have e : ∀ q, q < n → conB H s (st + 1) i q = conB H s st n q := fun q hq => by
    rw [Bool.eq_iff_iff, conB_iff, conB_iff]
    constructor
    · rintro ⟨a, b, c⟩
      refine ⟨a, b, ?_⟩
      rcases c with c | ⟨c, d⟩
      · by_cases x : (H q).stands < st
        · exact Or.inl x
        · exact Or.inr ⟨by omega, hq⟩
      · exact absurd b (hf q d)
    · rintro ⟨a, b, c⟩
      exact ⟨a, b, Or.inl (by rcases c with c | c <;> omega)⟩
  have e2 : csum H n s (st + 1) i = csum H n s st n := sumF_congr n fun q hq => by unfold csF; rw [e q hq]
  exact ⟨S.other, fun q hq c => S.seen q hq (by rw [← e q hq]; exact c), fun q hq hc c => S.unseen q hq hc (by rw [← e q hq]; exact c), by rw [e2]; exact S.low, by rw [e2]; exact S.alt, S.hi⟩
/-- Both standings are behind: the client is done. -/
theorem SInv.done {H : Nat → VH} {t n : Nat} {k : Int} {i : Nat} {W : Nat → Bool} {rem : Int} (Dm : DomB H n) (S : SInv H t n k i (H i).client 3 i W rem) (hf : ∀ q, q < i → ¬ (H q).client = (H i).client) : WInv H t n k (i + 1) W := by
  intro q hq
  by_cases hc : (H q).client = (H i).client
  · refine ⟨fun _ => ?_, fun np => absurd (pres_succ.2 (Or.inr hc.symm)) np⟩
    by_cases c : conB H (H i).client 3 i q = true
    · exact S.seen q hq c
    · rw [S.unseen q hq hc c]
      have nc : cand H q = false := by
        cases e : cand H q with
        | false => rfl
        | true =>
          refine absurd (conB_iff.2 ⟨e, hc, Or.inl ?_⟩) c
          have := Dm.stands hq; omega
      unfold goal
      simp [nc]
  · have := S.other q hq hc
    refine ⟨fun p => this.1 ((pres_succ.1 p).resolve_right fun e => hc e.symm), fun np => this.2 fun p => np (pres_succ.2 (Or.inl p))⟩

/-- How many are ended. -/
def cnt (E : Nat → Bool) (n : Nat) : Int := sumF (fun j => if E j = true then 1 else 0) n
theorem cnt_le (E : Nat → Bool) : ∀ n : Nat, cnt E n ≤ n
  | 0 => Int.le_refl _
  | n + 1 => by have := cnt_le E n; unfold cnt at *; simp only [sumF]; split <;> omega
theorem cnt_upd {E : Nat → Bool} {n j : Nat} (hj : j < n) (he : E j = false) : cnt (updE E j) n = cnt E n + 1 := by
  unfold cnt
  rw [sumF_upd (f := fun j => if E j = true then (1 : Int) else 0) (g := fun q => if updE E j q = true then (1 : Int) else 0) n hj (fun q hq => by simp [updE, hq])]
  simp [updE, he]
end Go.Proofs.Qxb6618660a
