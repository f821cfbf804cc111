import Derived.Test.Qxb6618114aArgs
namespace Go.Proofs.Qxb6618114a
open Go.RowKit
set_option linter.unusedVariables false
set_option linter.unusedSimpArgs false

/-- What zzChainFits says. -/
def FitsSays (n t : Nat) (e : Ending) : Prop := ∃ r : Bool, (r = true → n ≤ 65536 ∧ t ≤ 131072) ∧ e = .returned (.bool r)
theorem FitsSays.no (n t : Nat) : FitsSays n t (.returned (.bool false)) := ⟨false, fun h => (by cases h), rfl⟩
/-- zzChainFits. -/
theorem fits_any (w : World) (a1 a2 a3 : Option Addr) (n1 n2 n c1 c2 c3 : Nat) (M1 M2 : Nat → Nat) (S1 S2 : Nat → Nat → ByteArray) (h1 : Outer w a1 n1 M1 S1) (h2 : Outer w a2 n2 M2 S2) (hn : n ≤ maxLen) :
    Calls Try.prog 16 #[.slice a1 n1 c1, .slice a2 n2 c2, .slice a3 n c3] w fun e w' => FitsSays n (sm M1 n1 + sm M2 n2) e ∧ w' = w := by
  have H1 := hide h1
  have H2 := hide h2
  clear h1 h2
  have hn' := hide hn
  unfold maxLen at hn
  by_cases hs : n ≤ 65536
  · go_enter Try.func16, Try.ntmps16
    go_wp2_with fail
    refine (words_any w 1048576 n (by omega) (by omega) (unhide hn')).mono ?_
    rintro e w1 ⟨⟨r1, hr1, rfl⟩, rfl⟩
    go_wp2_with fail
    refine (nested_any w1 r1 a1 n1 c1 M1 S1 (unhide H1) (by have := unhide hr1; omega) (by have := unhide hr1; omega)).mono ?_
    rintro e w2 ⟨⟨r2, hr2, rfl⟩, rfl⟩
    go_wp2_with fail
    refine (nested_any w2 r2 a2 n2 c2 M2 S2 (unhide H2) (by have := unhide hr2; omega) (by have := unhide hr2; omega)).mono ?_
    rintro e w3 ⟨⟨r3, hr3, rfl⟩, rfl⟩
    go_wp2_with fail
    go_ret
    exact ⟨⟨decide (0 ≤ r3), fun h => by have := of_decide_eq_true h; have := unhide hr1; have := unhide hr2; have := unhide hr3; omega, rfl⟩, rfl⟩
  · go_enter Try.func16, Try.ntmps16
    go_wp2_with fail
    go_ret
    exact ⟨FitsSays.no _ _, rfl⟩

/-- What zzChainWellFormed says. -/
def Well (n1 n2 n : Nat) (K : Nat → Int) : Prop := 1 ≤ n ∧ n1 = n ∧ n2 = n ∧ K 0 = 0 ∧ ∀ i, 1 ≤ i → i < n → 0 ≤ K i ∧ K i < i
def WellSays (n1 n2 n : Nat) (K : Nat → Int) (e : Ending) : Prop := ∃ r : Bool, (r = true → Well n1 n2 n K) ∧ e = .returned (.bool r)
theorem WellSays.no (n1 n2 n : Nat) (K : Nat → Int) : WellSays n1 n2 n K (.returned (.bool false)) := ⟨false, fun h => (by cases h), rfl⟩

set_option maxHeartbeats 2000000 in
theorem well_any (w : World) (a1 a2 a3 : Option Addr) (n1 n2 n c1 c2 c3 : Nat) (K : Nat → Int) (h3 : Ints w a3 n K) (hn1 : n1 ≤ maxLen) (hn2 : n2 ≤ maxLen) :
    Calls Try.prog 17 #[.slice a1 n1 c1, .slice a2 n2 c2, .slice a3 n c3] w fun e w' => WellSays n1 n2 n K e ∧ w' = w := by
  have hn := h3.small
  have H3 := hide h3
  clear h3
  unfold maxLen at hn hn1 hn2
  by_cases hz : 1 ≤ n
  · by_cases e1 : n1 = n
    · subst e1
      by_cases e2 : n2 = n1
      · subst e2
        obtain ⟨b, o, rfl, hb, hc⟩ := (unhide H3).at' 0 (by omega)
        have hk0 := hide (fun (h : K 0 = 0) => h)
        by_cases k0 : K 0 = 0
        · have k0' := hide k0
          rw [k0] at hc
          clear k0 hk0
          simp only [Nat.add_zero] at hc
          go_enter Try.func17, Try.ntmps17
          go_wp2_with fail
          go_loopg [8] (n2 + 1) (fun g k wr => wr = w ∧ ∃ j : Nat, 1 ≤ j ∧ j ≤ n2 ∧ k = .int .i64 j ∧ g + j = n2 + 2 ∧ Hid (∀ i, 1 ≤ i → i < j → 0 ≤ K i ∧ K i < i))
          case atStart => exact ⟨rfl, 1, by omega, by omega, rfl, by omega, hide (fun i h1 h2 => by omega)⟩
          case round =>
            obtain ⟨rfl, j, j1, hj, rfl, hg, hq⟩ := hrel
            by_cases hlt : j < n2
            · obtain ⟨b', o', e', hb', hc'⟩ := (unhide H3).at' j hlt
              simp only [Option.some.injEq, Addr.mk.injEq, and_true] at e'
              obtain ⟨rfl, rfl⟩ := e'
              have nx := hide (fun (h : 0 ≤ K j ∧ K j < j) => (show ∀ i, 1 ≤ i → i < j + 1 → 0 ≤ K i ∧ K i < i from fun i h1 h2 => by
                rcases Nat.lt_succ_iff_lt_or_eq.1 h2 with h2 | rfl
                · exact unhide hq i h1 h2
                · exact h))
              generalize K j = kj at *
              by_cases q1 : kj < 0
              · go_wp2_with fail
                go_ret
                exact ⟨WellSays.no _ _ _ _, rfl⟩
              · by_cases q2 : kj < j
                · go_wp2_with fail
                  go_roundg (gk - 1)
                  case measure => omega
                  case rel => exact ⟨rfl, j + 1, by omega, by omega, by go_num, by omega, hide (unhide nx ⟨by omega, q2⟩)⟩
                · go_wp2_with fail
                  go_ret
                  exact ⟨WellSays.no _ _ _ _, rfl⟩
            · go_wp2_with fail
              go_ret
              exact ⟨⟨true, fun _ => ⟨by omega, rfl, rfl, unhide k0', fun i h1 h2 => unhide hq i h1 (by omega)⟩, rfl⟩, rfl⟩
        · simp only [Nat.add_zero] at hc
          have kz : (K 0 != 0) = true := by rw [bne_iff_ne]; exact k0
          generalize K 0 = kk at *
          go_enter Try.func17, Try.ntmps17
          go_wp2_with fail
          go_ret
          exact ⟨WellSays.no _ _ _ _, rfl⟩
      · have kz : ((n2 : Int) != (n1 : Int)) = true := by rw [bne_iff_ne]; omega
        go_enter Try.func17, Try.ntmps17
        go_wp2_with fail
        go_ret
        exact ⟨WellSays.no _ _ _ _, rfl⟩
    · have kz : ((n1 : Int) != (n : Int)) = true := by rw [bne_iff_ne]; omega
      go_enter Try.func17, Try.ntmps17
      go_wp2_with fail
      go_ret
      exact ⟨WellSays.no _ _ _ _, rfl⟩
  · go_enter Try.func17, Try.ntmps17
    go_wp2_with fail
    go_ret
    exact ⟨WellSays.no _ _ _ _, rfl⟩

/-- Where the items of a response begin. -/
def fi (M1 M2 : Nat → Nat) (i : Nat) : Nat := sm (fun j => M1 j + M2 j) i
theorem fi_succ (M1 M2 : Nat → Nat) (i : Nat) : fi M1 M2 (i + 1) = fi M1 M2 i + (M1 i + M2 i) := rfl
theorem fi_mono (M1 M2 : Nat → Nat) {i j : Nat} (h : i ≤ j) : fi M1 M2 i ≤ fi M1 M2 j := sm_mono _ h

set_option maxHeartbeats 2000000 in
theorem held_any (w : World) (a1 a2 : Option Addr) (n j c1 c2 : Nat) (M1 M2 : Nat → Nat) (S1 S2 : Nat → Nat → ByteArray) (h1 : Outer w a1 n M1 S1) (h2 : Outer w a2 n M2 S2) (hj : j < n) (hn : n ≤ 65536) (hs : fi M1 M2 n ≤ 131072) :
    Calls Try.prog 18 #[.slice a1 n c1, .slice a2 n c2, .int .i64 j] w fun e w' => (∃ r : Int, Hid (r = fi M1 M2 (j + 1)) ∧ e = .returned (.int .i64 r)) ∧ Below w.heap.size w w' := by
  have H1 := hide h1
  have H2 := hide h2
  have mono := hide (fun i (h : i ≤ n) => (show fi M1 M2 i ≤ 131072 from Nat.le_trans (fi_mono M1 M2 h) hs))
  clear h1 h2 hs
  go_enter Try.func18, Try.ntmps18
  go_wp2_with fail
  go_loopg [7, 8] (j + 2) (fun g l k wr => Below w.heap.size w wr ∧ ∃ (i t : Nat), i ≤ j + 1 ∧ k = .int .i64 i ∧ g + i = j + 2 ∧ l = .int .i64 t ∧ Hid (t = fi M1 M2 i) ∧ t ≤ 131072)
  case atStart => exact ⟨Below.refl _ _, 0, 0, by omega, rfl, by omega, rfl, hide rfl, by omega⟩
  case round =>
    obtain ⟨hbw, i, t, hi, rfl, hg, rfl, ht, tb⟩ := hrel
    by_cases hlt : i ≤ j
    · obtain ⟨b, o, ia, ic, rfl, hb, hc, hI⟩ := ((unhide H1).below hbw (Nat.le_refl _)).at' i (by omega)
      obtain ⟨b2, o2, ia2, ic2, rfl, hb2, hc2, hI2⟩ := ((unhide H2).below hbw (Nat.le_refl _)).at' i (by omega)
      have m1 := hI.small
      have m2 := hI2.small
      clear hI hI2
      have nb := unhide mono (i + 1) (by omega)
      have nx := hide (fi_succ M1 M2 i)
      have nb2 : t + M1 i + M2 i ≤ 131072 := by have := unhide ht; rw [unhide nx] at nb; omega
      have nx2 := hide (show t + M1 i + M2 i = fi M1 M2 (i + 1) by rw [unhide nx, unhide ht]; omega)
      clear nb nx m1 m2
      generalize M1 i = p at *
      generalize M2 i = p2 at *
      go_wp2_with fail
      go_quiet (fail)
      go_wp2_with fail
      go_roundg (gk - 1)
      case measure => omega
      case rel => exact ⟨below_drewN' hbw _, i + 1, t + p + p2, by omega, by go_num, by omega, by go_num, hide (unhide nx2), nb2⟩
    · go_wp2_with fail
      go_ret
      exact ⟨⟨t, hide (by rw [unhide ht, show i = j + 1 by omega]), rfl⟩, hbw⟩
end Go.Proofs.Qxb6618114a
