import Derived.Test.Qxb6618799aDoorZz
namespace Go.Proofs.Qxb6618799aDoor
open Go.RowKit
set_option linter.unusedVariables false
set_option linter.unusedSimpArgs false

/-- What is known of the argument. -/
structure Data (w : World) (a : Option Addr) (n : Nat) (X : Nat → Nat) : Prop where
  nil : a = none → n = 0
  at' : ∀ j, j < n → ∃ b o, a = some ⟨b, o, none⟩ ∧ b < w.heap.size ∧ w.cell? ⟨b, o + j, none⟩ = some (bv (X j))
  bd : ∀ j, j < n → X j < 256
  small : n ≤ maxLen

theorem clone_zero (w : World) (a : Addr) (c : Nat) :
    Calls Tryd.prog 7 #[.slice (some a) 0 c] w fun e w' => e = .returned (.slice (some ⟨w.heap.size, 0, none⟩) 0 0) ∧ Ch (fun _ => False) w w' ∧ w.heap.size < w'.heap.size := by
  have q := eq22
  have hmk : ∀ w, (Instr.makeSlice 22 (.int .i64 0) (.int .i64 0)).run Tryd.prog w = .ok (.slice (some ⟨w.heap.size, 0, none⟩) 0 0) (w.alloc (.cells (madeCells #[.int .u8 0] 0) 5)) := fun w =>
    run_make_row' (P := Tryd.prog) 22 5 (.int .u8 0) 1 Tryd.underlying22 info5 rfl .i64 .i64 0 (by omega) (by omega) w
  have B0 := hide (show Ch (fun _ => False) w (w.alloc (.cells (madeCells #[.int .u8 0] 0) 5)) from (Ch.refl _ w).alloc _)
  have z0 := hide (show w.heap.size < (w.alloc (.cells (madeCells #[.int .u8 0] 0) 5)).heap.size from by rw [show (w.alloc (.cells (madeCells #[.int .u8 0] 0) 5)).heap.size = w.heap.size + 1 from Array.size_push _]; omega)
  go_enter Tryd.func7, Tryd.ntmps7
  go_wp2_with fail
  generalize (w.alloc (.cells (madeCells #[.int .u8 0] 0) 5)) = w1 at B0 z0 ⊢
  clear hmk
  go_loopg [4] 1 (fun g i wr => wr = w1 ∧ i = .int .i64 0)
  case atStart => exact ⟨rfl, rfl⟩
  case round =>
    obtain ⟨rfl, rfl⟩ := hrel
    go_wp2_with fail
    go_ret
    exact ⟨rfl, unhide B0, unhide z0⟩

/-- zzCloneBytes, whatever comes. -/
theorem clone_all (w : World) (a : Option Addr) (n cap : Nat) (X : Nat → Nat) (h : Data w a n X) (hn : n ≤ 1048576) (hz : 0 < w.heap.size) :
    Calls Tryd.prog 7 #[.slice a n cap] w fun e w' => (∃ d D, e = .returned (.slice d n n) ∧ (n ≠ 0 → d = some ⟨D, 0, none⟩) ∧ Bytes w' D n X ∧ D < w'.heap.size) ∧ Ch (fun _ => False) w w' := by
  cases a with
  | none =>
    obtain rfl := h.nil rfl
    refine (clone_nil w 0 cap).mono ?_
    rintro e w' ⟨rfl, rfl⟩
    exact ⟨⟨none, 0, rfl, fun h => absurd rfl h, fun j hj => by omega, hz⟩, Ch.refl _ _⟩
  | some ad =>
    rcases Nat.eq_zero_or_pos n with rfl | hp
    · refine (clone_zero w ad cap).mono ?_
      rintro e w' ⟨rfl, h1, h2⟩
      exact ⟨⟨_, w.heap.size, rfl, fun h => absurd rfl h, fun j hj => by omega, h2⟩, h1⟩
    · obtain ⟨b, o, e, hb, _⟩ := h.at' 0 hp
      simp only [Option.some.injEq] at e
      subst e
      refine (clone_any w b o n cap X hn (fun j hj => ?_) (fun _ => hb)).mono ?_
      · obtain ⟨b', o', e, _, hc⟩ := h.at' j hj
        simp only [Option.some.injEq, Addr.mk.injEq, and_true] at e
        obtain ⟨rfl, rfl⟩ := e
        exact hc
      · rintro e w' ⟨rfl, h1, h2, h3⟩
        exact ⟨⟨_, w.heap.size, rfl, fun _ => rfl, h3, h2⟩, h1⟩

theorem Rdr.bytes {w : World} {B0 : Nat} {ea ua : Addr} {d : Option Addr} {D B R U F n c : Nat} {X : Nat → Nat} {t : TypeId} {off : Nat} (h : Rdr w B0 ea ua d D B R U F n c X t off) : Bytes w D n X := by
  obtain ⟨pos, rr, ww, cur, h1, S⟩ := h.pos.ex
  exact S.bs

set_option maxRecDepth 100000 in
set_option maxHeartbeats 4000000 in
theorem law_small (w : World) (B0 : Nat) (ea ua : Addr) (a : Option Addr) (n cap : Nat) (X : Nat → Nat) (hS : Sn w B0 ea ua) (hA : Data w a n X) (hn : n ≤ 1048576) :
    Calls Tryd.prog 3 #[.slice a n cap] w fun e w' => e = .returned (.bool true) ∧ Ch (fun x => B0 ≤ x) w w' := by
  have HS := hide hS
  have HB := hide hA.bd
  have G1 := hide (bytes_any w a n cap hn)
  have G2 := hide (clone_all w a n cap X hA hn (by have := hS.l2; have := hS.hz; omega))
  clear hS hA
  obtain ⟨m, hm⟩ : ∃ m, m = n / 4 := ⟨_, rfl⟩
  obtain ⟨r, hr⟩ : ∃ r, r = n - 4 * m := ⟨_, rfl⟩
  have hnm := hide (show n = 4 * m + r by omega)
  have hr4 := hide (show r < 4 by omega)
  have e1 : (n : Int) - 4 * (m : Int) = (r : Int) := by omega
  have e2 : (n : Int) / 4 = (m : Int) := by omega
  have hm2 : m ≤ 262144 := by omega
  clear hm hr
  go_enter Tryd.func3, Tryd.ntmps3
  go_wp2_with fail
  refine (unhide G1).mono ?_
  rintro e w1 ⟨rfl, rfl⟩
  clear G1
  go_wp2_with fail
  refine (unhide G2).mono ?_
  rintro e w2 ⟨⟨d, D, rfl, hd, hX, hD⟩, hc2⟩
  have G3 := hide (newRaw_any w2 B0 ea ua d D n n X ((unhide HS).ch hc2 (fun _ x => x.elim)) hd hX hD hn (Nat.le_refl _) (unhide HB))
  have hd' := hide hd
  have hc2' := hide hc2
  clear G2 hX hD hc2 hd
  go_wp2_with fail
  refine (unhide G3).mono ?_
  rintro e w3 ⟨⟨B, R, U, F, hR, rfl⟩, hc3⟩
  have hR' := hide hR
  have hC3 := hide (((unhide hc2').trans hc3).bas B0)
  clear G3 hR hc3 hc2'
  go_wp2_with fail
  go_loopg [5] (m + 1) (fun g i wr => ∃ j : Nat, j ≤ m ∧ i = .int .i64 j ∧ g + j = m + 1 ∧ Hid (Rdr wr B0 ea ua d D B R U F n n X 5 (4 * j)) ∧ Hid (Ch (fun x => B0 ≤ x) w1 wr))
  case atStart => exact ⟨0, by omega, rfl, by omega, hR', hC3⟩
  case round =>
    clear hR' hC3
    obtain ⟨j, hj, rfl, hg, hR, hC⟩ := hrel
    by_cases hlt : j < m
    · have jb : j ≤ 262144 := by omega
      have q4 : 4 * j + 4 ≤ n := by have := unhide hnm; omega
      obtain rfl := unhide hd' (by omega)
      have G4 := zz_four wr B0 ea ua (some ⟨D, 0, none⟩) D B R U F n n X 5 (4 * j) (unhide hR) q4
      obtain ⟨V, hV⟩ : ∃ V, V = horner X n (4 * j) 4 := ⟨_, rfl⟩
      rw [← hV] at G4
      have G4' := hide G4
      clear G4
      go_wp2_with fail
      refine (unhide G4').mono ?_
      rintro e w4 ⟨rfl, hR4, hc4⟩
      have W4 := word_any w4 D n n (4 * j) X hn (by omega) hR4.bytes (unhide HB)
      rw [← hV, show ((4 * j : Nat) : Int) = 4 * (j : Int) by omega] at W4
      have O4 := off_any w4 F R (4 * j + 4) hR4.fr
      rw [show ((4 * j + 4 : Nat) : Int) = 4 * (j : Int) + 4 by omega] at O4
      have W4' := hide W4
      have O4' := hide O4
      have hR4' := hide hR4
      have hC4 := hide ((unhide hC).trans hc4)
      clear G4' W4 O4 hR4 hc4 hV
      go_wp2_with fail
      refine (unhide W4').mono ?_
      rintro e w5 ⟨rfl, rfl⟩
      clear W4'
      go_wp2_with fail
      refine (unhide O4').mono ?_
      rintro e w6 ⟨rfl, rfl⟩
      clear O4'
      go_wp2_with fail
      go_roundg (gk - 1)
      case measure => omega
      case rel => exact ⟨j + 1, by omega, by go_num, by omega, hide (by have := unhide hR4'; rwa [show 4 * (j + 1) = 4 * j + 4 by omega]), hC4⟩
    · obtain rfl : m = j := by omega
      rcases Nat.eq_zero_or_pos r with hz | hz
      · subst hz
        have hn4 : n = 4 * m := by have := unhide hnm; omega
        have G4 := hide (zz_end wr B0 ea ua d D B R U F n n X 5 (by have := unhide hR; rwa [← hn4] at this))
        clear hn4
        go_wp2_with fail
        refine (unhide G4).mono ?_
        rintro e w4 ⟨rfl, hR4, hc4⟩
        have O4 := hide (off_any w4 F R n hR4.fr)
        have G5 := hide (zz_end w4 B0 ea ua d D B R U F n n X 5 hR4)
        have hC4 := hide ((unhide hC).trans hc4)
        clear G4 hR4 hc4
        go_wp2_with fail
        refine (unhide O4).mono ?_
        rintro e w5 ⟨rfl, rfl⟩
        clear O4
        go_wp2_with fail
        refine (unhide G5).mono ?_
        rintro e w6 ⟨rfl, hR6, hc6⟩
        have O6 := hide (off_any w6 F R n hR6.fr)
        have hC6 := hide ((unhide hC4).trans hc6)
        clear G5 hR6 hc6 hC4
        go_wp2_with fail
        refine (unhide O6).mono ?_
        rintro e w7 ⟨rfl, rfl⟩
        clear O6
        go_wp2_with fail
        go_ret
        exact ⟨rfl, unhide hC6⟩
      · have r4 := unhide hr4
        have rz : ((r : Int) == 0) = false := by rw [beq_eq_false_iff_ne]; omega
        obtain rfl := unhide hd' (by have := unhide hnm; omega)
        have G4 := zz_short wr B0 ea ua (some ⟨D, 0, none⟩) D B R U F n n X 5 (4 * m) r (unhide hR) (by have := unhide hnm; omega) hz r4
        obtain ⟨V, hV⟩ : ∃ V, V = horner X n (4 * m) 4 := ⟨_, rfl⟩
        rw [← hV, show ((4 * m : Nat) : Int) = 4 * (m : Int) by omega] at G4
        have G4' := hide G4
        have m4 := hide (show 4 * m ≤ n by have := unhide hnm; omega)
        clear G4
        go_wp2_with fail
        refine (unhide G4').mono ?_
        rintro e w4 ⟨rfl, hR4, hc4⟩
        have W4 := word_any w4 D n n (4 * m) X hn (unhide m4) hR4.bytes (unhide HB)
        rw [← hV, show ((4 * m : Nat) : Int) = 4 * (m : Int) by omega] at W4
        have W4' := hide W4
        have O4 := hide (off_any w4 F R n hR4.fr)
        have G5 := hide (zz_end w4 B0 ea ua (some ⟨D, 0, none⟩) D B R U F n n X 5 hR4)
        have hC4 := hide ((unhide hC).trans hc4)
        clear G4' W4 hR4 hc4 hV
        go_wp2_with fail
        refine (unhide W4').mono ?_
        rintro e w5 ⟨rfl, rfl⟩
        clear W4'
        go_wp2_with fail
        refine (unhide O4).mono ?_
        rintro e w6 ⟨rfl, rfl⟩
        clear O4
        go_wp2_with fail
        refine (unhide G5).mono ?_
        rintro e w7 ⟨rfl, hR6, hc6⟩
        have O6 := hide (off_any w7 F R n hR6.fr)
        have hC6 := hide ((unhide hC4).trans hc6)
        clear G5 hR6 hc6 hC4
        go_wp2_with fail
        refine (unhide O6).mono ?_
        rintro e w8 ⟨rfl, rfl⟩
        clear O6
        go_wp2_with fail
        go_ret
        exact ⟨rfl, unhide hC6⟩

set_option maxRecDepth 100000 in
theorem law_long (w : World) (a : Option Addr) (n cap : Nat) (hn : 1048576 < n) (hm : n ≤ maxLen) :
    Calls Tryd.prog 3 #[.slice a n cap] w fun e w' => e = .returned (.bool true) ∧ w' = w := by
  have G1 := hide (bytes_long w a n cap hn hm)
  clear hn hm
  go_enter Tryd.func3, Tryd.ntmps3
  go_wp2_with fail
  refine (unhide G1).mono ?_
  rintro e w1 ⟨rfl, rfl⟩
  go_wp2_with fail
  go_ret
  exact ⟨rfl, rfl⟩
end Go.Proofs.Qxb6618799aDoor
