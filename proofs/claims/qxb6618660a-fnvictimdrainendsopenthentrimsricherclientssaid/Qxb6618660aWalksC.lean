import Derived.Test.Qxb6618660aPtrs
import Derived.Deep.LoopGhost
namespace Go.Proofs.Qxb6618660a
open Go.RowKit Go.MuLone Go.Maps Go.WideMaps
set_option linter.unusedVariables false
set_option linter.unusedSimpArgs false

/-- The address of a block's head, or nil. -/
def optPtr : Option Nat → Value
  | none => .pointer none
  | some b => .pointer (some ⟨b, 0, none⟩)

/-- What the four cells of a holder say that the search reads. -/
structure HoldsAt (w : World) (b : Nat) (c st : Int) (y g : Bool) : Prop where
  h3 : w.cell? ⟨b, 3, none⟩ = some (.int .i64 c)
  h4 : w.cell? ⟨b, 4, none⟩ = some (.int .i64 st)
  h5 : w.cell? ⟨b, 5, none⟩ = some (.bool y)
  h6 : w.cell? ⟨b, 6, none⟩ = some (.bool g)

/-- The holders' list from a pointer on. -/
def Chain (w : World) : List Nat → Option Nat → Prop
  | [], p => p = none
  | b :: r, p => p = some b ∧ ∃ q, w.cell? ⟨b, 8, none⟩ = some (optPtr q) ∧ Chain w r q

/-- Does the search stop at b? -/
def okB (cst stn : Nat → Int) (yl gn : Nat → Bool) (t : Nat) (s : Int) (b : Nat) : Bool :=
  !(b == t) && !(gn b) && decide (0 < cst b) && ((if yl b then 0 else stn b) == s)

theorem find_cons_no {p : Nat → Bool} {b : Nat} {r : List Nat} (h : p b = false) : (b :: r).find? p = r.find? p := by simp [List.find?, h]
theorem find_cons_yes {p : Nat → Bool} {b : Nat} {r : List Nat} (h : p b = true) : (b :: r).find? p = some b := by simp [List.find?, h]

theorem okB_false {cst stn : Nat → Int} {yl gn : Nat → Bool} {t : Nat} {s : Int} {b : Nat} (h : b = t ∨ gn b = true ∨ ¬ 0 < cst b ∨ ¬ (if yl b then 0 else stn b) = s) : okB cst stn yl gn t s b = false := by
  unfold okB
  rcases h with h | h | h | h <;> simp [h]
theorem okB_true {cst stn : Nat → Int} {yl gn : Nat → Bool} {t : Nat} {s : Int} {b : Nat} (h1 : ¬ b = t) (h2 : gn b = false) (h3 : 0 < cst b) (h4 : (if yl b then 0 else stn b) = s) : okB cst stn yl gn t s b = true := by
  unfold okB
  simp [h1, h2, h3, h4]

set_option maxHeartbeats 1000000 in
theorem oldest_any (w : World) (cb t : Nat) (s : Int) (L : List Nat) (hd : Option Nat) (cst stn : Nat → Int) (yl gn : Nat → Bool) (R : Option Nat)
    (c3 : w.cell? ⟨cb, 3, none⟩ = some (optPtr hd)) (hch : Chain w L hd) (hat : ∀ b ∈ L, HoldsAt w b (cst b) (stn b) (yl b) (gn b)) (hpl : ∀ b ∈ L, Plain w b) (ht : Plain w t)
    (hR : R = L.find? (okB cst stn yl gn t s)) :
    Calls Try.prog 40 #[.pointer (some ⟨cb, 0, none⟩), .pointer (some ⟨t, 0, none⟩), .int .i64 s] w fun e w' => e = .returned (optPtr R) ∧ w' = w := by
  have A : Aside (Chain w L hd ∧ (∀ b ∈ L, HoldsAt w b (cst b) (stn b) (yl b) (gn b)) ∧ (∀ b ∈ L, Plain w b) ∧ R = L.find? (okB cst stn yl gn t s)) := ⟨hch, hat, hpl, hR⟩
  have ht' := hide ht
  clear hch hat hpl hR ht
  go_enter Try.func40, Try.ntmps40
  go_wp2
  go_loopg [7] (L.length + 1) (fun k h wr => wr = w ∧ ∃ (L' : List Nat) (p : Option Nat), h = optPtr p ∧ Chain w L' p ∧ (∀ b ∈ L', HoldsAt w b (cst b) (stn b) (yl b) (gn b) ∧ Plain w b) ∧ R = L'.find? (okB cst stn yl gn t s) ∧ L'.length + 1 ≤ k)
  case atStart => obtain ⟨a1, a2, a3, a4⟩ := A.out; exact ⟨rfl, L, hd, rfl, a1, fun b hb => ⟨a2 b hb, a3 b hb⟩, a4, Nat.le_refl _⟩
  case round =>
    obtain ⟨rfl, L', p, rfl, r1, r2, r3, r4⟩ := hrel
    cases L' with
    | nil =>
      obtain rfl : p = none := r1
      have B := hide r3
      clear r2 r3 A
      have en : optPtr none = .pointer none := rfl
      simp only [en]
      go_wp2
      go_ret
      exact ⟨by rw [unhide B]; rfl, rfl⟩
    | cons b r =>
      obtain ⟨rfl, q, hq, hr⟩ := r1
      obtain ⟨⟨h3, h4, h5, h6⟩, hp⟩ := r2 b (by simp)
      have B : Aside (Chain wr r q ∧ (∀ b ∈ r, HoldsAt wr b (cst b) (stn b) (yl b) (gn b) ∧ Plain wr b) ∧ R = (b :: r).find? (okB cst stn yl gn t s) ∧ r.length + 2 ≤ gk) := ⟨hr, fun x hx => r2 x (by simp [hx]), r3, r4⟩
      clear r2 r3 r4 hr A
      have en : optPtr (some b) = .pointer (some ⟨b, 0, none⟩) := rfl
      have hrun := run_neq24 wr b t hp (unhide ht')
      clear hp
      have S := hide (fun w' h4 h5 => stands_any b (stn b) (yl b) w' h4 h5)
      generalize hc : cst b = c at h3
      generalize hg : gn b = g at h6
      have N := hide (And.intro hc hg)
      clear hc hg
      simp only [en]
      clear en
      by_cases n1 : b = t
      · have D : Aside (b = t) := n1
        rw [show (!(b == t)) = false by simp [n1]] at hrun
        clear n1
        go_wp2
        obtain ⟨b1, b2, b3, b4⟩ := B.out
        go_roundg (gk - 1)
        case measure => omega
        case rel => exact ⟨rfl, r, q, rfl, b1, b2, by rw [b3, find_cons_no (okB_false (Or.inl D.out))], by omega⟩
      · rw [show (!(b == t)) = true by simp [n1]] at hrun
        have D : Aside (¬ b = t) := n1
        clear n1
        by_cases n2 : g = true
        · subst n2
          go_wp2
          obtain ⟨b1, b2, b3, b4⟩ := B.out
          go_roundg (gk - 1)
          case measure => omega
          case rel => exact ⟨rfl, r, q, rfl, b1, b2, by rw [b3, find_cons_no (okB_false (Or.inr (Or.inl (unhide N).2)))], by omega⟩
        · obtain rfl : g = false := by simpa using n2
          by_cases n3 : 0 < c
          · by_cases n4 : (if yl b then 0 else stn b) = s
            · have n4' := hide n4
              rw [n4] at S
              clear n4
              go_wp2_with fail
              refine (unhide S _ h4 h5).mono ?_
              rintro e w' ⟨rfl, rfl⟩
              go_wp2
              go_ret
              obtain ⟨b1, b2, b3, b4⟩ := B.out
              exact ⟨by rw [b3, find_cons_yes (okB_true D.out (unhide N).2 (by rw [(unhide N).1]; exact n3) (unhide n4'))]; rfl, rfl⟩
            · have n4' := hide n4
              generalize (if yl b then 0 else stn b) = z at S n4
              go_wp2_with fail
              refine (unhide S _ h4 h5).mono ?_
              rintro e w' ⟨rfl, rfl⟩
              go_wp2
              obtain ⟨b1, b2, b3, b4⟩ := B.out
              go_roundg (gk - 1)
              case measure => omega
              case rel => exact ⟨rfl, r, q, rfl, b1, b2, by rw [b3, find_cons_no (okB_false (Or.inr (Or.inr (Or.inr (unhide n4')))))], by omega⟩
          · go_wp2
            obtain ⟨b1, b2, b3, b4⟩ := B.out
            go_roundg (gk - 1)
            case measure => omega
            case rel => exact ⟨rfl, r, q, rfl, b1, b2, by rw [b3, find_cons_no (okB_false (Or.inr (Or.inr (Or.inl (by rw [(unhide N).1]; omega)))))], by omega⟩
end Go.Proofs.Qxb6618660a
