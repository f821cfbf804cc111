/-
  PLAIN FUNCTIONS AND LAWS for 'FnCaretFlipsAClassInMatchOne' (no Go in sight): bytes as lists.
-/
namespace Go.Proofs.Qxb6619923a
namespace Pl

/-- The byte and the length of the item at the head of a suffix. -/
def escB : List UInt8 → UInt8
  | [] => 0
  | [c] => c
  | c :: d :: _ => if c = 92 then d else c
def escN : List UInt8 → Nat
  | [] => 1
  | [_] => 1
  | c :: _ :: _ => if c = 92 then 2 else 1

/-- How many bytes up to and with the first free ']' (or all). -/
def closeN : List UInt8 → Nat
  | [] => 0
  | [_] => 1
  | c :: d :: r => if c = 92 then 2 + closeN r else if c = 93 then 1 else 1 + closeN (d :: r)

/-- Is there a range behind the item of n bytes? -/
def rng (l : List UInt8) : Bool :=
  match l with
  | a :: b :: _ => a == 45 && b != 93
  | _ => false
def itN (l : List UInt8) : Nat :=
  if rng (l.drop (escN l)) then escN l + 1 + escN (l.drop (escN l + 1)) else escN l
def itHi (l : List UInt8) : UInt8 :=
  if rng (l.drop (escN l)) then escB (l.drop (escN l + 1)) else escB l
/-- Does the first item hold c? -/
def itIn (c : Int) (l : List UInt8) : Bool :=
  decide (min ((escB l).toNat : Int) (itHi l).toNat ≤ c) && decide (c ≤ max ((escB l).toNat : Int) (itHi l).toNat)
def inL (c : Int) : Nat → List UInt8 → Bool
  | 0, _ => false
  | f + 1, l => if l = [] ∨ l.head? = some 93 then false else itIn c l || inL c f (l.drop (itN l))

theorem inL_end (c : Int) (f : Nat) (l : List UInt8) (h : l = [] ∨ l.head? = some 93) : inL c f l = false := by
  cases f with
  | zero => rfl
  | succ f => simp [inL, h]
theorem inL_step (c : Int) (f : Nat) (l : List UInt8) (h : ¬ (l = [] ∨ l.head? = some 93)) : inL c (f + 1) l = (itIn c l || inL c f (l.drop (itN l))) := by
  simp only [inL, if_neg h]

theorem escN_pos (l : List UInt8) : 1 ≤ escN l := by
  unfold escN; split <;> try omega
  split <;> omega
theorem escN_le (l : List UInt8) (h : l ≠ []) : escN l ≤ l.length := by
  unfold escN; split
  · exact absurd rfl h
  · simp
  · split <;> simp
theorem close_esc (l : List UInt8) (h : l ≠ []) (h' : l.head? ≠ some 93) : closeN l = escN l + closeN (l.drop (escN l)) := by
  match l with
  | [] => exact absurd rfl h
  | [c] => simp [closeN, escN]
  | c :: d :: r =>
    have hc : c ≠ 93 := by simpa using h'
    by_cases e : c = 92
    · simp [closeN, escN, e]
    · simp [closeN, escN, e, hc]
theorem close_dash (l : List UInt8) (h : rng l = true) : closeN l = 1 + closeN (l.drop 1) := by
  match l with
  | [] => simp [rng] at h
  | [c] => simp [rng] at h
  | c :: d :: r =>
    have hc : c = 45 ∧ d ≠ 93 := by simpa [rng] using h
    obtain ⟨rfl, _⟩ := hc
    simp [closeN]
theorem rng_tail (l : List UInt8) (h : rng l = true) : l.drop 1 ≠ [] ∧ (l.drop 1).head? ≠ some 93 := by
  match l with
  | [] => simp [rng] at h
  | [c] => simp [rng] at h
  | c :: d :: r =>
    have hc : c = 45 ∧ d ≠ 93 := by simpa [rng] using h
    exact ⟨by simp, by simpa using hc.2⟩
theorem close_item (l : List UInt8) (h : l ≠ []) (h' : l.head? ≠ some 93) : closeN l = itN l + closeN (l.drop (itN l)) := by
  have h1 := close_esc l h h'
  unfold itN
  split
  · rename_i hr
    have h2 := close_dash _ hr
    have h3 := rng_tail _ hr
    rw [List.drop_drop] at h2 h3
    have h4 := close_esc _ h3.1 h3.2
    rw [List.drop_drop] at h4
    rw [h1, h2, h4]
    omega
  · exact h1
theorem itN_pos (l : List UInt8) : 1 ≤ itN l := by
  have := escN_pos l
  unfold itN; split <;> omega
theorem itN_le (l : List UInt8) (h : l ≠ []) : itN l ≤ l.length := by
  have h1 := escN_le l h
  unfold itN
  split
  · rename_i hr
    have h3 := rng_tail _ hr
    rw [List.drop_drop] at h3
    have h4 := escN_le _ h3.1
    simp only [List.length_drop] at h4
    have h5 : escN l + 1 < l.length := by
      have := List.length_pos_iff.2 h3.1
      simp only [List.length_drop] at this
      omega
    omega
  · exact h1
theorem close_le (l : List UInt8) : closeN l ≤ l.length := by
  match l with
  | [] => simp [closeN]
  | [c] => simp [closeN]
  | c :: d :: r =>
    have h1 := close_le r
    have h2 := close_le (d :: r)
    simp only [closeN, List.length_cons] at *
    split
    · omega
    · split <;> omega
end Pl
end Go.Proofs.Qxb6619923a
