import Derived.Test.Qxb6618660aStart
namespace Go.Proofs.Qxb6618660a
open Go.RowKit
set_option linter.unusedVariables false
set_option linter.unusedSimpArgs false

/-! ### the plain law: victim's answer in the law's own words -/
def HS (H : Nat → VH) (n : Nat) (s : ByteArray) : Int := sumF (heldF H s) n
def OS (H : Nat → VH) (t n : Nat) (s : ByteArray) : Int := sumF (openF H s t) n

theorem sum_hF {H : Nat → VH} {ct : Nat → Int} {n : Nat} (hE : EffTo H ct n) (s : ByteArray) : sumF (hF H ct s) n = HS H n s :=
  sumF_congr n fun j hj => by unfold hF heldF; rw [hE j hj]
theorem sum_oX' {H : Nat → VH} {ct : Nat → Int} {t n : Nat} (hE : EffTo H ct n) (s : ByteArray) : sumF (oX H ct t s) n = OS H t n s :=
  sumF_congr n fun j hj => by unfold oX openF; rw [hE j hj]

theorem first_ex {H : Nat → VH} {s : ByteArray} : ∀ j : Nat, (H j).client = s → ∃ m, m ≤ j ∧ (H m).client = s ∧ firstB H m = true := by
  intro j
  induction j using Nat.strongRecOn with
  | _ j ih =>
    intro h
    by_cases e : ∃ q, q < j ∧ (H q).client = s
    · obtain ⟨q, hq, hs⟩ := e
      obtain ⟨m, h1, h2, h3⟩ := ih q hq hs
      exact ⟨m, by omega, h2, h3⟩
    · exact ⟨j, Nat.le_refl _, h, firstB_true fun q hq hs => e ⟨q, hq, hs.trans h⟩⟩
theorem pres_first {H : Nat → VH} {n : Nat} {s : ByteArray} (h : Pres H n s) : ∃ m, m < n ∧ (H m).client = s ∧ firstB H m = true := by
  obtain ⟨j, hj, e⟩ := h
  obtain ⟨m, h1, h2, h3⟩ := first_ex j e
  exact ⟨m, by omega, h2, h3⟩

theorem okJ_iff {H : Nat → VH} {ct : Nat → Int} {t n : Nat} {st : Int} {s : ByteArray} (hE : EffTo H ct n) {j : Nat} (hj : j < n) : okJ H s t st j ↔ (H j).client = s ∧ okN H ct t st j = true := by
  unfold okJ okN
  rw [hE j hj, effs]
  cases hg : (H j).gone
  · simp [and_assoc]
  · simp
theorem firstN_some {H : Nat → VH} {ct : Nat → Int} {t n : Nat} {st : Int} {s : ByteArray} {j : Nat} (h : firstN H ct t n st s = some j) : j < n ∧ (H j).client = s ∧ okN H ct t st j = true ∧ ∀ q, q < j → ¬ ((H q).client = s ∧ okN H ct t st q = true) := by
  unfold firstN chnJ at h
  rw [List.find?_filter, List.find?_range_eq_some] at h
  obtain ⟨h1, h2, h3⟩ := h
  simp at h1
  refine ⟨by simpa using h2, h1.1, h1.2, fun q hq c => ?_⟩
  have := h3 q hq
  simp [c.1, c.2] at this
theorem firstN_none {H : Nat → VH} {ct : Nat → Int} {t n : Nat} {st : Int} {s : ByteArray} (h : firstN H ct t n st s = none) : ∀ q, q < n → ¬ ((H q).client = s ∧ okN H ct t st q = true) := by
  unfold firstN chnJ at h
  rw [List.find?_filter, List.find?_eq_none] at h
  intro q hq c
  exact h q (List.mem_range.2 hq) (by simp [c.1, c.2])
theorem old_some {H : Nat → VH} {ct : Nat → Int} {t n : Nat} {st k : Int} {s : ByteArray} {j : Nat} (hE : EffTo H ct n) (h : firstN H ct t n st s = some j) (hO : OldJ H s t st n k) : k = j := by
  obtain ⟨h1, h2, h3, h4⟩ := firstN_some h
  rcases hO with ⟨_, hno⟩ | ⟨q, hq, rfl, hok, hmin⟩
  · exact absurd ((okJ_iff hE h1).2 ⟨h2, h3⟩) (hno j h1)
  · have a1 : ¬ q < j := fun x => h4 q x ((okJ_iff hE hq).1 hok)
    have a2 : ¬ j < q := fun x => hmin j x ((okJ_iff hE h1).2 ⟨h2, h3⟩)
    omega
theorem old_none {H : Nat → VH} {ct : Nat → Int} {t n : Nat} {st k : Int} {s : ByteArray} (hE : EffTo H ct n) (h : firstN H ct t n st s = none) (hO : OldJ H s t st n k) : k = -1 := by
  rcases hO with ⟨e, _⟩ | ⟨q, hq, rfl, hok, hmin⟩
  · exact e
  · exact absurd ((okJ_iff hE hq).1 hok) (firstN_none h q hq)

/-- What the answer is, by the law's own functions. -/
def AnsA (H : Nat → VH) (t n : Nat) (r : Option Nat) : Prop :=
  ∃ m, m < n ∧ firstB H m = true ∧ 0 < OS H t n (H m).client ∧ (∀ q, q < n → OS H t n (H q).client ≤ OS H t n (H m).client) ∧ ∃ j0, r = some j0 ∧ j0 < n ∧ ∀ k, OldJ H (H m).client t 0 n k → k = j0
def PickB (H : Nat → VH) (t n m : Nat) (r : Option Nat) : Prop :=
  ∀ k1, OldJ H (H m).client t 1 n k1 → (0 ≤ k1 → r = some k1.toNat ∧ k1 < n) ∧ (k1 < 0 → ∀ k2, OldJ H (H m).client t 2 n k2 → (0 ≤ k2 → r = some k2.toNat ∧ k2 < n) ∧ (k2 < 0 → r = none))
def AnsB (H : Nat → VH) (t n : Nat) (k : Int) (r : Option Nat) : Prop :=
  (∀ q, q < n → OS H t n (H q).client ≤ 0) ∧ ∃ m, m < n ∧ firstB H m = true ∧ (∀ q, q < n → HS H n (H q).client ≤ HS H n (H m).client) ∧
    ((HS H n (H m).client ≤ HS H n (H t).client + k ∧ r = none) ∨ (HS H n (H t).client + k < HS H n (H m).client ∧ PickB H t n m r))

theorem VicN.ans {H : Nat → VH} {ct : Nat → Int} {t n : Nat} {k : Int} {r : Option Nat} (hE : EffTo H ct n) (V : VicN H ct t n k r) : AnsA H t n r ∨ AnsB H t n k r := by
  have pr : ∀ q, q < n → Pres H n (H q).client := fun q h => ⟨q, h, rfl⟩
  rcases V with ⟨s, hs, pos, hmax, j, hj, rfl⟩ | ⟨hle, s, hs, hmax, h3⟩
  · left
    obtain ⟨m, hm, rfl, hf⟩ := pres_first hs
    rw [sum_oX' hE] at pos
    exact ⟨m, hm, hf, pos, fun q hq => by have := hmax _ (pr q hq); rwa [sum_oX' hE, sum_oX' hE] at this, j, rfl, (firstN_some hj).1, fun k hk => old_some hE hj hk⟩
  · right
    refine ⟨fun q hq => by have := hle _ (pr q hq); rwa [sum_oX' hE] at this, ?_⟩
    obtain ⟨m, hm, rfl, hf⟩ := pres_first hs
    refine ⟨m, hm, hf, fun q hq => by have := hmax _ (pr q hq); rwa [sum_hF hE, sum_hF hE] at this, ?_⟩
    rw [sum_hF hE, sum_hF hE] at h3
    rcases h3 with h | ⟨h4, rfl⟩
    · exact Or.inl h
    · refine Or.inr ⟨h4, fun k1 hk1 => ?_⟩
      cases e1 : firstN H ct t n 1 (H m).client with
      | some j =>
        have := old_some hE e1 hk1
        subst this
        refine ⟨fun _ => ⟨by simp, by have := (firstN_some e1).1; omega⟩, fun h => by omega⟩
      | none =>
        have := old_none hE e1 hk1
        subst this
        refine ⟨fun h => by omega, fun _ k2 hk2 => ?_⟩
        cases e2 : firstN H ct t n 2 (H m).client with
        | some j =>
          have := old_some hE e2 hk2
          subst this
          refine ⟨fun _ => ⟨by simp, by have := (firstN_some e2).1; omega⟩, fun h => by omega⟩
        | none =>
          have := old_none hE e2 hk2
          subst this
          exact ⟨fun h => by omega, fun _ => rfl⟩

/-! ### the law's loops -/
/-- Behind j rounds of the search for the greatest open sum. -/
def BestO4 (H : Nat → VH) (t n j : Nat) (best : Int) (found : Bool) : Prop :=
  (found = false ∧ best = 0 ∧ ∀ q, q < j → firstB H q = true → OS H t n (H q).client ≤ 0) ∨
  (found = true ∧ 0 < best ∧ (∃ q, q < j ∧ OS H t n (H q).client = best) ∧ ∀ q, q < j → firstB H q = true → OS H t n (H q).client ≤ best)
theorem BestO4.skip {H : Nat → VH} {t n j : Nat} {best : Int} {found : Bool} (h : BestO4 H t n j best found) (hj : firstB H j = true → OS H t n (H j).client ≤ 0 ∨ (found = true ∧ OS H t n (H j).client ≤ best)) : BestO4 H t n (j + 1) best found := by
  rcases h with ⟨h1, h2, h3⟩ | ⟨h1, h2, ⟨q0, h3, h4⟩, h5⟩
  · refine Or.inl ⟨h1, h2, fun q hq hf => ?_⟩
    rcases Nat.lt_succ_iff_lt_or_eq.1 hq with h | rfl
    · exact h3 q h hf
    · rcases hj hf with h | h
      · exact h
      · rw [h1] at h; exact absurd h.1 (by simp)
  · refine Or.inr ⟨h1, h2, ⟨q0, by omega, h4⟩, fun q hq hf => ?_⟩
    rcases Nat.lt_succ_iff_lt_or_eq.1 hq with h | rfl
    · exact h5 q h hf
    · rcases hj hf with h | h <;> omega
theorem BestO4.take {H : Nat → VH} {t n j : Nat} {best : Int} {found : Bool} (h : BestO4 H t n j best found) (h0 : 0 < OS H t n (H j).client) (h1 : found = true → best < OS H t n (H j).client) : BestO4 H t n (j + 1) (OS H t n (H j).client) true := by
  refine Or.inr ⟨rfl, h0, ⟨j, by omega, rfl⟩, fun q hq hf => ?_⟩
  rcases Nat.lt_succ_iff_lt_or_eq.1 hq with h2 | rfl
  · rcases h with ⟨_, _, h3⟩ | ⟨h4, _, _, h5⟩
    · have := h3 q h2 hf; omega
    · have := h5 q h2 hf; have := h1 h4; omega
  · exact Int.le_refl _
theorem AnsA.best {H : Nat → VH} {t n : Nat} {r : Option Nat} {best : Int} {found : Bool} (h : BestO4 H t n n best found) (A : AnsA H t n r) : found = true ∧ ∃ m, m < n ∧ firstB H m = true ∧ OS H t n (H m).client = best ∧ ∃ j0, r = some j0 ∧ j0 < n ∧ ∀ k, OldJ H (H m).client t 0 n k → k = j0 := by
  obtain ⟨m, hm, hf, pos, hmax, h2⟩ := A
  rcases h with ⟨_, _, h3⟩ | ⟨h4, h5, ⟨q, hq, e⟩, h6⟩
  · have := h3 m hm hf; omega
  · refine ⟨h4, m, hm, hf, ?_, h2⟩
    have := hmax q hq
    have := h6 m hm hf
    omega
theorem AnsB.best {H : Nat → VH} {t n : Nat} {k : Int} {r : Option Nat} {best : Int} {found : Bool} (h : BestO4 H t n n best found) (A : AnsB H t n k r) : found = false := by
  rcases h with ⟨h1, _⟩ | ⟨_, h5, ⟨q, hq, e⟩, _⟩
  · exact h1
  · have := A.1 q hq; omega

/-- Behind j rounds of the search for the greatest sum held. -/
def BestH6 (H : Nat → VH) (n j : Nat) (best : Int) (have' : Bool) : Prop :=
  (have' = false ∧ j = 0) ∨ (have' = true ∧ (∃ q, q < j ∧ HS H n (H q).client = best) ∧ ∀ q, q < j → HS H n (H q).client ≤ best)
theorem BestH6.skip {H : Nat → VH} {n j : Nat} {best : Int} {have' : Bool} (h : BestH6 H n j best have') (hj : (firstB H j = false) ∨ (have' = true ∧ HS H n (H j).client ≤ best)) : BestH6 H n (j + 1) best have' := by
  rcases h with ⟨h1, rfl⟩ | ⟨h1, ⟨q0, h3, h4⟩, h5⟩
  · rcases hj with h | h
    · exact absurd (firstB_true (H := H) (i := 0) fun q hq => by omega) (by simp [h])
    · rw [h1] at h; exact absurd h.1 (by simp)
  · refine Or.inr ⟨h1, ⟨q0, by omega, h4⟩, fun q hq => ?_⟩
    rcases Nat.lt_succ_iff_lt_or_eq.1 hq with h | rfl
    · exact h5 q h
    · rcases hj with h | h
      · obtain ⟨m, hm, e, hf⟩ := first_ex (H := H) q rfl
        have : m < q := by
          rcases Nat.lt_or_ge m q with h6 | h6
          · exact h6
          · have : m = q := by omega
            subst this; rw [h] at hf; cases hf
        rw [← e]; exact h5 m this
      · exact h.2
theorem BestH6.take {H : Nat → VH} {n j : Nat} {best : Int} {have' : Bool} (h : BestH6 H n j best have') (h1 : have' = true → best ≤ HS H n (H j).client) : BestH6 H n (j + 1) (HS H n (H j).client) true := by
  refine Or.inr ⟨rfl, ⟨j, by omega, rfl⟩, fun q hq => ?_⟩
  rcases Nat.lt_succ_iff_lt_or_eq.1 hq with h2 | rfl
  · rcases h with ⟨_, rfl⟩ | ⟨h4, _, h5⟩
    · omega
    · have := h5 q h2; have := h1 h4; omega
  · exact Int.le_refl _
theorem BestH6.done {H : Nat → VH} {n : Nat} {best : Int} {have' : Bool} (hn : 0 < n) (h : BestH6 H n n best have') : (∃ q, q < n ∧ HS H n (H q).client = best) ∧ ∀ q, q < n → HS H n (H q).client ≤ best := by
  rcases h with ⟨_, h⟩ | ⟨_, h2, h3⟩
  · omega
  · exact ⟨h2, h3⟩
end Go.Proofs.Qxb6618660a
