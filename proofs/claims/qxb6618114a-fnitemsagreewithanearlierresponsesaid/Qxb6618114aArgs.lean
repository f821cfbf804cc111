import Derived.Test.Qxb6618114aChecked
import Derived.WalkKit
import Derived.WalkSpells
import Derived.WalkLawsBesides
import Derived.Below
import Derived.Outline
import Derived.Deep.LoopGhost
import Derived.BigQuiet
namespace Go.Proofs.Qxb6618114a
open Go.RowKit
set_option linter.unusedVariables false
set_option linter.unusedSimpArgs false

theorem hide {p : Prop} (h : p) : Hid p := h
theorem unhide {p : Prop} (h : Hid p) : p := h

/-- What is read of one list of strings. -/
structure Inner (w : World) (ia : Option Addr) (m : Nat) (S : Nat → ByteArray) : Prop where
  at' : ∀ k, k < m → ∃ b o, ia = some ⟨b, o, none⟩ ∧ b < w.heap.size ∧ w.cell? ⟨b, o + k, none⟩ = some (.string (S k))
  small : m ≤ maxLen
/-- What is read of a list of lists of strings. -/
structure Outer (w : World) (a : Option Addr) (n : Nat) (M : Nat → Nat) (S : Nat → Nat → ByteArray) : Prop where
  at' : ∀ i, i < n → ∃ b o ia ic, a = some ⟨b, o, none⟩ ∧ b < w.heap.size ∧ w.cell? ⟨b, o + i, none⟩ = some (.slice ia (M i) ic) ∧ Inner w ia (M i) (S i)
  small : n ≤ maxLen
/-- What is read of a list of integers. -/
structure Ints (w : World) (a : Option Addr) (n : Nat) (K : Nat → Int) : Prop where
  at' : ∀ i, i < n → ∃ b o, a = some ⟨b, o, none⟩ ∧ b < w.heap.size ∧ w.cell? ⟨b, o + i, none⟩ = some (.int .i64 (K i))
  small : n ≤ maxLen

theorem Inner.below {B : Nat} {w w' : World} {ia : Option Addr} {m : Nat} {S : Nat → ByteArray} (h : Inner w ia m S) (hB : Below B w w') (hz : w.heap.size ≤ B) : Inner w' ia m S where
  at' := fun k hk => by
    obtain ⟨b, o, e, hb, hc⟩ := h.at' k hk
    exact ⟨b, o, e, by have := hB.size; omega, (hB.cell (p := ⟨b, o + k, none⟩) (by simp only; omega)).trans hc⟩
  small := h.small
theorem Outer.below {B : Nat} {w w' : World} {a : Option Addr} {n : Nat} {M : Nat → Nat} {S : Nat → Nat → ByteArray} (h : Outer w a n M S) (hB : Below B w w') (hz : w.heap.size ≤ B) : Outer w' a n M S where
  at' := fun i hi => by
    obtain ⟨b, o, ia, ic, e, hb, hc, hI⟩ := h.at' i hi
    exact ⟨b, o, ia, ic, e, by have := hB.size; omega, (hB.cell (p := ⟨b, o + i, none⟩) (by simp only; omega)).trans hc, hI.below hB hz⟩
  small := h.small
theorem Ints.below {B : Nat} {w w' : World} {a : Option Addr} {n : Nat} {K : Nat → Int} (h : Ints w a n K) (hB : Below B w w') (hz : w.heap.size ≤ B) : Ints w' a n K where
  at' := fun i hi => by
    obtain ⟨b, o, e, hb, hc⟩ := h.at' i hi
    exact ⟨b, o, e, by have := hB.size; omega, (hB.cell (p := ⟨b, o + i, none⟩) (by simp only; omega)).trans hc⟩
  small := h.small
theorem below_drewN' {B : Nat} {a w : World} (h : Below B a w) (q : Nat) : Below B a (w.drewN q) := ⟨h.os, h.tape, h.output, h.size, h.block⟩

/-- A sum. -/
def sm (M : Nat → Nat) : Nat → Nat
  | 0 => 0
  | k + 1 => sm M k + M k
theorem sm_mono (M : Nat → Nat) {i j : Nat} (h : i ≤ j) : sm M i ≤ sm M j := by
  induction j with
  | zero => rw [show i = 0 by omega]; exact Nat.le_refl _
  | succ j ih =>
    by_cases e : i = j + 1
    · rw [e]; exact Nat.le_refl _
    · have := ih (by omega); simp only [sm]; omega
theorem sm_add (A B : Nat → Nat) (i : Nat) : sm (fun j => A j + B j) i = sm A i + sm B i := by
  induction i with
  | zero => rfl
  | succ i ih => simp only [sm, ih]; omega

/-! ### the guards -/
/-- What zzTakeWords answers. -/
def Took (c : Int) (left n r : Int) : Prop := (r = -1 ∧ (left < 0 ∨ left < c * n)) ∨ (0 ≤ left ∧ c * n ≤ left ∧ r = left - c * n)

set_option maxHeartbeats 1000000 in
theorem words_any (w : World) (left : Int) (n : Nat) (h0 : -1 ≤ left) (h1 : left ≤ 1048576) (hn : n ≤ maxLen) :
    Calls Try.prog 44 #[.int .i64 left, .int .i64 n] w fun e w' => (∃ r : Int, Hid (-1 ≤ r ∧ r ≤ 1048576 ∧ (0 ≤ r → 0 ≤ left ∧ r + 8 * (n : Int) ≤ left)) ∧ e = .returned (.int .i64 r)) ∧ w' = w := by
  unfold maxLen at hn
  by_cases hl : left < 0
  · go_enter Try.func44, Try.ntmps44
    go_wp2
    go_ret
    exact ⟨⟨-1, hide (by omega), rfl⟩, rfl⟩
  · obtain ⟨l, rfl⟩ := Int.eq_ofNat_of_zero_le (show 0 ≤ left by omega)
    by_cases hm : n ≤ l / 8
    · have h2 : n ≤ 131072 := by omega
      go_enter Try.func44, Try.ntmps44
      go_wp2
      go_ret
      exact ⟨⟨_, hide (by omega), rfl⟩, rfl⟩
    · go_enter Try.func44, Try.ntmps44
      go_wp2
      go_ret
      exact ⟨⟨-1, hide (by omega), rfl⟩, rfl⟩
theorem take_any (w : World) (left : Int) (n : Nat) (h0 : -1 ≤ left) (h1 : left ≤ 1048576) :
    Calls Try.prog 24 #[.int .i64 left, .int .i64 n] w fun e w' => (∃ r : Int, Hid (-1 ≤ r ∧ r ≤ left ∧ (0 ≤ r → 0 ≤ left)) ∧ e = .returned (.int .i64 r)) ∧ w' = w := by
  by_cases hl : left < 0
  · go_enter Try.func24, Try.ntmps24
    go_wp2
    go_ret
    exact ⟨⟨-1, hide (by omega), rfl⟩, rfl⟩
  · by_cases hm : (n : Int) ≤ left
    · go_enter Try.func24, Try.ntmps24
      go_wp2
      go_ret
      exact ⟨⟨_, hide (by omega), rfl⟩, rfl⟩
    · go_enter Try.func24, Try.ntmps24
      go_wp2
      go_ret
      exact ⟨⟨-1, hide (by omega), rfl⟩, rfl⟩

set_option maxHeartbeats 2000000 in
theorem nested_any (w : World) (left : Int) (a : Option Addr) (n cap : Nat) (M : Nat → Nat) (S : Nat → Nat → ByteArray) (hO : Outer w a n M S) (h0 : -1 ≤ left) (h1 : left ≤ 1048576) :
    Calls Try.prog 45 #[.int .i64 left, .slice a n cap] w fun e w' => (∃ r : Int, Hid (-1 ≤ r ∧ r ≤ 1048576 ∧ (0 ≤ r → 0 ≤ left ∧ r + 8 * ((n + sm M n : Nat) : Int) ≤ left)) ∧ e = .returned (.int .i64 r)) ∧ w' = w := by
  have hn := hO.small
  have O := hide hO
  clear hO
  have W := hide (words_any w left n h0 h1 hn)
  unfold maxLen at hn
  go_enter Try.func45, Try.ntmps45
  go_wp2_with fail
  refine (unhide W).mono ?_
  rintro e w1 ⟨⟨r0, hr0, rfl⟩, rfl⟩
  clear W
  go_wp2_with fail
  go_loopg [0, 5] (n + 1) (fun g l k wr => wr = w1 ∧ ∃ (j : Nat) (ll : Int), j ≤ n ∧ k = .int .i64 j ∧ g + j = n + 1 ∧ l = .int .i64 ll ∧ -1 ≤ ll ∧ ll ≤ 1048576 ∧ Hid (0 ≤ ll → 0 ≤ left ∧ ll + 8 * ((n + sm M j : Nat) : Int) ≤ left))
  case atStart =>
    have := unhide hr0
    exact ⟨rfl, 0, r0, by omega, rfl, by omega, rfl, by omega, by omega, hide (by simp only [sm]; omega)⟩
  case round =>
    obtain ⟨rfl, j, ll, hj, rfl, hg, rfl, l0, l1, hq⟩ := hrel
    by_cases hlt : j < n
    · by_cases hl : 0 ≤ ll
      · obtain ⟨b, o, ia, ic, rfl, hb, hc, hI⟩ := (unhide O).at' j hlt
        have hI' := hide hI
        have hm := hI.small
        have W := hide (words_any wr ll (M j) l0 l1 hm)
        unfold maxLen at hm
        clear hI
        have hnx := hide (show sm M (j + 1) = sm M j + M j from rfl)
        generalize M j = m at *
        go_wp2_with fail
        refine (unhide W).mono ?_
        rintro e w2 ⟨⟨r1, hr1, rfl⟩, rfl⟩
        clear W
        obtain ⟨gc, hgc⟩ : ∃ x, x = gk := ⟨_, rfl⟩
        go_wp2_with fail
        go_loopg [0, 6] (m + 1) (fun g l k wr => wr = w2 ∧ ∃ (i : Nat) (l2 : Int), i ≤ m ∧ k = .int .i64 i ∧ g + i = m + 1 ∧ l = .int .i64 l2 ∧ -1 ≤ l2 ∧ l2 ≤ 1048576 ∧ Hid (0 ≤ l2 → 0 ≤ r1 ∧ l2 ≤ r1))
        case atStart =>
          have := unhide hr1
          exact ⟨rfl, 0, r1, by omega, rfl, by omega, rfl, by omega, by omega, hide (by omega)⟩
        case round =>
          obtain ⟨rfl, i, l2, hi, rfl, hg2, rfl, l3, l4, hq2⟩ := hrel
          by_cases hlt2 : i < m
          · by_cases hl2 : 0 ≤ l2
            · obtain ⟨b', o', rfl, hb', hc'⟩ := (unhide hI').at' i hlt2
              have T := hide (take_any wr l2 (S j i).size l3 l4)
              go_wp2_with fail
              refine (unhide T).mono ?_
              rintro e w3 ⟨⟨r2, hr2, rfl⟩, rfl⟩
              clear T
              go_wp2_with fail
              go_roundg (gk - 1)
              case measure => omega
              case rel =>
                have := unhide hr2
                have := unhide hq2
                exact ⟨rfl, i + 1, r2, by omega, by go_num, by omega, rfl, by omega, by omega, hide (by omega)⟩
            · go_wp2_with fail
              go_roundg (gc - 1)
              case measure => omega
              case rel => exact ⟨rfl, j + 1, l2, by omega, by go_num, by omega, rfl, by omega, by omega, hide (by omega)⟩
          · go_wp2_with fail
            go_roundg (gc - 1)
            case measure => omega
            case rel =>
              have := unhide hr1
              have := unhide hq2
              have := unhide hq
              exact ⟨rfl, j + 1, l2, by omega, by go_num, by omega, rfl, by omega, by omega, hide (by rw [unhide hnx]; omega)⟩
      · go_wp2_with fail
        go_ret
        exact ⟨⟨ll, hide (by omega), rfl⟩, rfl⟩
    · go_wp2_with fail
      all_goals
        go_ret
        exact ⟨⟨ll, hide (by have := unhide hq; rw [show n = j by omega] at this ⊢; omega), rfl⟩, rfl⟩
end Go.Proofs.Qxb6618114a
