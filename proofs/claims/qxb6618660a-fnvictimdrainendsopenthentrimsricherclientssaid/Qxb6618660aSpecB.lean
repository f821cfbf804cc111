import Derived.Test.Qxb6618660aStart
namespace Go.Proofs.Qxb6618660a
open Go.RowKit
set_option linter.unusedVariables false
set_option linter.unusedSimpArgs false

/-! ### the plain law of the drain -/
/-- An open holder that is ended whatever its client. -/
def w0 (H : Nat → VH) (t j : Nat) : Bool := !(j == t) && !(H j).gone && decide (0 < (H j).cost) && decide ((H j).stands = 0)
/-- A kept or proven holder above nothing. -/
def cand (H : Nat → VH) (j : Nat) : Bool := !(H j).gone && decide (0 < (H j).cost) && !decide ((H j).stands = 0)
def rrF (H : Nat → VH) (t : Nat) (s : ByteArray) (q : Nat) : Int := if (H q).client = s ∧ w0 H t q = false then (H q).eff else 0
/-- What a client holds once its open holders are ended. -/
def rr (H : Nat → VH) (t n : Nat) (s : ByteArray) : Int := sumF (rrF H t s) n
def TT (H : Nat → VH) (t n : Nat) (k : Int) : Int := k + rr H t n (H t).client
/-- Is q looked at ahead of place (st, j) among the holders of s? -/
def conB (H : Nat → VH) (s : ByteArray) (st : Int) (j q : Nat) : Bool := cand H q && decide ((H q).client = s) && (decide ((H q).stands < st) || (decide ((H q).stands = st) && decide (q < j)))
def csF (H : Nat → VH) (s : ByteArray) (st : Int) (j q : Nat) : Int := if conB H s st j q = true then (H q).cost else 0
def csum (H : Nat → VH) (n : Nat) (s : ByteArray) (st : Int) (j : Nat) : Int := sumF (csF H s st j) n
/-- Is j ended at last? -/
def goal (H : Nat → VH) (t n : Nat) (k : Int) (j : Nat) : Bool :=
  w0 H t j || (cand H j && !decide ((H j).client = (H t).client) && decide (TT H t n k < rr H t n (H j).client - csum H n (H j).client (H j).stands j))

theorem w0_iff {H : Nat → VH} {t j : Nat} : w0 H t j = true ↔ ¬ j = t ∧ (H j).gone = false ∧ 0 < (H j).cost ∧ (H j).stands = 0 := by
  simp [w0, and_assoc]
theorem cand_iff {H : Nat → VH} {j : Nat} : cand H j = true ↔ (H j).gone = false ∧ 0 < (H j).cost ∧ ¬ (H j).stands = 0 := by
  simp [cand, and_assoc]
theorem conB_iff {H : Nat → VH} {s : ByteArray} {st : Int} {j q : Nat} : conB H s st j q = true ↔ cand H q = true ∧ (H q).client = s ∧ ((H q).stands < st ∨ ((H q).stands = st ∧ q < j)) := by
  simp [conB, and_assoc]
theorem goal_iff {H : Nat → VH} {t n : Nat} {k : Int} {j : Nat} : goal H t n k j = true ↔ w0 H t j = true ∨ (cand H j = true ∧ ¬ (H j).client = (H t).client ∧ TT H t n k < rr H t n (H j).client - csum H n (H j).client (H j).stands j) := by
  simp [goal, and_assoc]

theorem sum_le {f g : Nat → Int} : ∀ n : Nat, (∀ j, j < n → f j ≤ g j) → sumF f n ≤ sumF g n
  | 0, _ => Int.le_refl _
  | n + 1, h => by simp only [sumF]; have := sum_le n (fun j hj => h j (by omega)); have := h n (by omega); omega
theorem sum_sub (f g : Nat → Int) : ∀ n : Nat, sumF (fun j => f j - g j) n = sumF f n - sumF g n
  | 0 => rfl
  | n + 1 => by simp only [sumF]; rw [sum_sub f g n]; omega
theorem sum_nn {f : Nat → Int} : ∀ n : Nat, (∀ j, j < n → 0 ≤ f j) → 0 ≤ sumF f n
  | 0, _ => Int.le_refl _
  | n + 1, h => by simp only [sumF]; have := sum_nn n (fun j hj => h j (by omega)); have := h n (by omega); omega
theorem sum_ge {f : Nat → Int} : ∀ n : Nat, (∀ j, j < n → 0 ≤ f j) → ∀ j, j < n → f j ≤ sumF f n
  | 0, _, j, hj => by omega
  | n + 1, h, j, hj => by
    simp only [sumF]
    by_cases e : j = n
    · subst e; have := sum_nn j (fun q hq => h q (by omega)); omega
    · have := sum_ge n (fun q hq => h q (by omega)) j (by omega); have := h n (by omega); omega

/-- The domain: costs not below nothing, standings 0 to 2. -/
def DomB (H : Nat → VH) (n : Nat) : Prop := ∀ j, j < n → 0 ≤ (H j).cost ∧ (H j).cost ≤ 1099511627776 ∧ 0 ≤ (H j).st ∧ (H j).st ≤ 2
theorem DomB.stands {H : Nat → VH} {n : Nat} (h : DomB H n) {j : Nat} (hj : j < n) : (H j).stands = 0 ∨ (H j).stands = 1 ∨ (H j).stands = 2 := by
  have := h j hj; rw [stands_def]; split <;> omega
theorem DomB.eff {H : Nat → VH} {n : Nat} (h : DomB H n) {j : Nat} (hj : j < n) : 0 ≤ (H j).eff ∧ (H j).eff ≤ 1099511627776 := by
  have := h j hj; rw [effs]; split <;> omega

/-- The costs when those of E are ended. -/
def CtE (H : Nat → VH) (n : Nat) (E : Nat → Bool) (ct : Nat → Int) : Prop := ∀ j, j < n → ct j = if E j then 0 else (H j).eff
structure DInv (H : Nat → VH) (t n : Nat) (k : Int) (E : Nat → Bool) : Prop where
  g : ∀ j, j < n → E j = true → goal H t n k j = true
  p : ∀ j, j < n → E j = true → ¬ (H j).stands = 0 → (∀ q, q < n → w0 H t q = true → E q = true) ∧ ∀ q, q < n → conB H (H j).client (H j).stands j q = true → E q = true
def updE (E : Nat → Bool) (j : Nat) : Nat → Bool := fun q => if q = j then true else E q
theorem updE_of {E : Nat → Bool} {j q : Nat} (h : E q = true) : updE E j q = true := by unfold updE; split <;> simp [h]

theorem DInv.add {H : Nat → VH} {t n : Nat} {k : Int} {E : Nat → Bool} (D : DInv H t n k E) {j : Nat} (hg : goal H t n k j = true)
    (hp : ¬ (H j).stands = 0 → (∀ q, q < n → w0 H t q = true → E q = true) ∧ ∀ q, q < n → conB H (H j).client (H j).stands j q = true → E q = true) : DInv H t n k (updE E j) := by
  refine ⟨fun q hq he => ?_, fun q hq he hs => ?_⟩
  · by_cases e : q = j
    · subst e; exact hg
    · exact D.g q hq (by simpa [updE, e] using he)
  · have P : (∀ q, q < n → w0 H t q = true → E q = true) ∧ ∀ q', q' < n → conB H (H q).client (H q).stands q q' = true → E q' = true := by
      by_cases e : q = j
      · subst e; exact hp hs
      · exact D.p q hq (by simpa [updE, e] using he) hs
    exact ⟨fun x hx h => updE_of (P.1 x hx h), fun x hx h => updE_of (P.2 x hx h)⟩

theorem ctE_pos {H : Nat → VH} {n : Nat} {E : Nat → Bool} {ct : Nat → Int} (C : CtE H n E ct) {j : Nat} (hj : j < n) (h : 0 < ct j) : E j = false ∧ (H j).gone = false ∧ 0 < (H j).cost ∧ ct j = (H j).cost := by
  have c := C j hj
  cases e : E j with
  | true => rw [e] at c; simp at c; omega
  | false =>
    rw [e, effs] at c
    cases g : (H j).gone with
    | true => rw [g] at c; simp at c; omega
    | false => rw [g] at c; simp at c; exact ⟨rfl, rfl, by omega, c⟩
theorem ctE_of {H : Nat → VH} {n : Nat} {E : Nat → Bool} {ct : Nat → Int} (C : CtE H n E ct) {j : Nat} (hj : j < n) (he : E j = false) (hg : (H j).gone = false) : ct j = (H j).cost := by
  rw [C j hj, he, effs, hg]; simp

/-- Two holders of one client that are both looked at: one is ahead of the other. -/
theorem con_total {H : Nat → VH} {j q : Nat} (hj : cand H j = true) (hq : cand H q = true) (hc : (H q).client = (H j).client) (hne : ¬ q = j) (h : ¬ conB H (H j).client (H j).stands j q = true) : conB H (H q).client (H q).stands q j = true := by
  rw [conB_iff] at h ⊢
  refine ⟨hj, hc.symm, ?_⟩
  have : ¬ ((H q).stands < (H j).stands ∨ ((H q).stands = (H j).stands ∧ q < j)) := fun x => h ⟨hq, hc, x⟩
  omega

section
variable {H : Nat → VH} {t n : Nat} {k : Int} {E : Nat → Bool} {ct : Nat → Int}

theorem all0 (Dm : DomB H n) (C : CtE H n E ct) (hle : ∀ s, Pres H n s → sumF (oX H ct t s) n ≤ 0) : ∀ q, q < n → w0 H t q = true → E q = true := by
  intro q hq hw
  obtain ⟨h1, h2, h3, h4⟩ := w0_iff.1 hw
  have nn : ∀ j, j < n → 0 ≤ oX H ct t (H q).client j := fun j hj => by
    unfold oX
    split
    · rw [C j hj]; have := Dm.eff hj; split <;> omega
    · omega
  have := sum_ge n nn q hq
  have := hle (H q).client ⟨q, hq, rfl⟩
  have e : oX H ct t (H q).client q = ct q := by unfold oX; rw [if_pos ⟨rfl, h1, h4⟩]
  cases he : E q with
  | true => rfl
  | false => have := ctE_of C hq he h2; omega

theorem held_t (C : CtE H n E ct) (D : DInv H t n k E) (h0 : ∀ q, q < n → w0 H t q = true → E q = true) : sumF (hF H ct (H t).client) n = rr H t n (H t).client := by
  refine sumF_congr n fun q hq => ?_
  unfold hF rrF
  rw [C q hq]
  by_cases hc : (H q).client = (H t).client
  · cases hw : w0 H t q with
    | true => simp [hc, h0 q hq hw]
    | false =>
      cases he : E q with
      | false => simp [hc]
      | true =>
        rcases goal_iff.1 (D.g q hq he) with h | h
        · rw [hw] at h; cases h
        · exact absurd hc h.2.1
  · simp [hc]

theorem held_pick (Dm : DomB H n) (C : CtE H n E ct) (D : DInv H t n k E) (h0 : ∀ q, q < n → w0 H t q = true → E q = true) {j : Nat} (hj : j < n) (hcj : cand H j = true) (hej : E j = false)
    (hb : ∀ q, q < n → conB H (H j).client (H j).stands j q = true → E q = true) : sumF (hF H ct (H j).client) n = rr H t n (H j).client - csum H n (H j).client (H j).stands j := by
  unfold rr csum
  rw [← sum_sub]
  refine sumF_congr n fun q hq => ?_
  unfold hF rrF csF
  rw [C q hq]
  by_cases hc : (H q).client = (H j).client
  · cases hw : w0 H t q with
    | true =>
      have hs := (w0_iff.1 hw).2.2.2
      have : ¬ conB H (H j).client (H j).stands j q = true := fun x => (cand_iff.1 (conB_iff.1 x).1).2.2 hs
      simp [hc, h0 q hq hw, this]
    | false =>
      by_cases hcon : conB H (H j).client (H j).stands j q = true
      · have hg := (cand_iff.1 (conB_iff.1 hcon).1).1
        simp [hc, hb q hq hcon, hcon, effs, hg]
      · cases he : E q with
        | false => simp [hc, hcon]
        | true =>
          rcases goal_iff.1 (D.g q hq he) with h | h
          · rw [hw] at h; cases h
          · have hq2 := con_total hcj h.1 hc (fun e => by rw [e, hej] at he; cases he) hcon
            have := (D.p q hq he (cand_iff.1 h.1).2.2).2 j hj hq2
            rw [hej] at this; cases this
  · have : ¬ conB H (H j).client (H j).stands j q = true := fun x => hc (conB_iff.1 x).2.1
    simp [hc, this]

theorem held_low (Dm : DomB H n) (C : CtE H n E ct) (D : DInv H t n k E) {j : Nat} (hj : j < n) (hcj : cand H j = true) (hej : E j = false) :
    rr H t n (H j).client - csum H n (H j).client (H j).stands j ≤ sumF (hF H ct (H j).client) n := by
  unfold rr csum
  rw [← sum_sub]
  refine sum_le n fun q hq => ?_
  unfold hF rrF csF
  rw [C q hq]
  have hnn := Dm.eff hq
  have hcn := Dm q hq
  by_cases hc : (H q).client = (H j).client
  · cases hw : w0 H t q with
    | true =>
      simp [hc]
      split <;> split <;> omega
    | false =>
      by_cases hcon : conB H (H j).client (H j).stands j q = true
      · have hg := (cand_iff.1 (conB_iff.1 hcon).1).1
        simp [hc, hcon, effs, hg]
        split <;> omega
      · cases he : E q with
        | false => simp [hc, hcon]
        | true =>
          rcases goal_iff.1 (D.g q hq he) with h | h
          · rw [hw] at h; cases h
          · have hq2 := con_total hcj h.1 hc (fun e => by rw [e, hej] at he; cases he) hcon
            have := (D.p q hq he (cand_iff.1 h.1).2.2).2 j hj hq2
            rw [hej] at this; cases this
  · have : ¬ conB H (H j).client (H j).stands j q = true := fun x => hc (conB_iff.1 x).2.1
    simp [hc, this]
end
end Go.Proofs.Qxb6618660a
