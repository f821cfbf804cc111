import Derived.Test.Qxb6618114aBytes
import Derived.Test.Qxb6618114aMatch
namespace Go.Proofs.Qxb6618114a
open Go.RowKit
set_option linter.unusedVariables false
set_option linter.unusedSimpArgs false

set_option maxRecDepth 100000 in
set_option maxHeartbeats 4000000 in
theorem lawB_any (w : World) (a1 a2 a3 : Option Addr) (n1 n2 n c1 c2 c3 : Nat) (z x y : Int) (M1 M2 : Nat → Nat) (S1 S2 : Nat → Nat → ByteArray) (K : Nat → Int) (h1 : Outer w a1 n1 M1 S1) (h2 : Outer w a2 n2 M2 S2) (h3 : Ints w a3 n K) :
    Calls Try.prog 6 #[.slice a1 n1 c1, .slice a2 n2 c2, .slice a3 n c3, .int .i64 z, .int .i64 x, .int .i64 y] w fun e w' => e = .returned (.bool true) ∧ Below w.heap.size w w' := by
  have G1 := hide (bytesB_any w a1 a2 a3 n1 n2 n c1 c2 c3 z x y M1 M2 S1 S2 h1 h2 h3.small)
  have G2 := hide (fits_any w a1 a2 a3 n1 n2 n c1 c2 c3 M1 M2 S1 S2 h1 h2 h3.small)
  have G3 := hide (well_any w a1 a2 a3 n1 n2 n c1 c2 c3 K h3 h1.small h2.small)
  have H1 := hide h1
  have H2 := hide h2
  have H3 := hide h3
  clear h1 h2 h3
  go_enter Try.func6, Try.ntmps6
  go_wp2_with fail
  refine (unhide G1).mono ?_
  rintro e w1 ⟨⟨r1, rfl⟩, rfl⟩
  cases r1 with
  | false =>
    go_wp2_with fail
    go_ret
    exact ⟨rfl, Below.refl _ _⟩
  | true =>
    go_wp2_with fail
    refine (unhide G2).mono ?_
    rintro e w2 ⟨⟨r2, hr2, rfl⟩, rfl⟩
    have hr2' := hide hr2
    clear hr2
    cases r2 with
    | false =>
      go_wp2_with fail
      go_ret
      exact ⟨rfl, Below.refl _ _⟩
    | true =>
      go_wp2_with fail
      refine (unhide G3).mono ?_
      rintro e w3 ⟨⟨r3, hr3, rfl⟩, rfl⟩
      have hr3' := hide hr3
      clear hr3
      cases r3 with
      | false =>
        go_wp2_with fail
        go_ret
        exact ⟨rfl, Below.refl _ _⟩
      | true =>
        have hW := unhide hr3' rfl
        obtain ⟨hn, hs⟩ := unhide hr2' trivial
        clear hr2' hr3' G1 G2 G3
        obtain ⟨z1, e1, e2, z2, z3⟩ := id hW
        clear z2 z3
        subst e1
        subst e2
        obtain ⟨m, rfl⟩ : ∃ m, n2 = m + 1 := ⟨n2 - 1, by omega⟩
        have hs' : fi M1 M2 (m + 1) ≤ 131072 := by unfold fi; rw [sm_add]; exact hs
        have HS := hide hs'
        have HW := hide hW
        clear hs hs' hW z1
        by_cases p1 : z < 0
        · go_wp2_with fail
          go_ret
          exact ⟨rfl, Below.refl _ _⟩
        · obtain ⟨j, rfl⟩ := Int.eq_ofNat_of_zero_le (show 0 ≤ z by omega)
          by_cases p2 : j < m + 1
          · have G4 := hide (held_any w3 a1 a2 (m + 1) j c1 c2 M1 M2 S1 S2 (unhide H1) (unhide H2) p2 (by omega) (unhide HS))
            go_wp2_with fail
            refine (unhide G4).mono ?_
            rintro e w4 ⟨⟨tot, htot, rfl⟩, hb4⟩
            have hb4' := hide hb4
            clear hb4 G4
            by_cases q1 : x < 0
            · go_wp2_with fail
              go_ret
              exact ⟨rfl, unhide hb4'⟩
            · by_cases q2 : y < x
              · go_wp2_with fail
                go_ret
                exact ⟨rfl, unhide hb4'⟩
              · by_cases q3 : tot < y
                · go_wp2_with fail
                  go_ret
                  exact ⟨rfl, unhide hb4'⟩
                · obtain ⟨f, rfl⟩ := Int.eq_ofNat_of_zero_le (show 0 ≤ x by omega)
                  obtain ⟨t, rfl⟩ := Int.eq_ofNat_of_zero_le (show 0 ≤ y by omega)
                  have hft : f ≤ t := by omega
                  have ht := hide (show t ≤ fi M1 M2 (j + 1) by have := unhide htot; omega)
                  have htm := hide (show t ≤ fi M1 M2 (m + 1) from Nat.le_trans (unhide ht) (fi_mono M1 M2 (by omega)))
                  have b4 := unhide hb4'
                  have G5 := hide (build_any w4 a1 a2 a3 (m + 1) c1 c2 c3 M1 M2 S1 S2 K ((unhide H1).below b4 (Nat.le_refl _)) ((unhide H2).below b4 (Nat.le_refl _)) ((unhide H3).below b4 (Nat.le_refl _)) (unhide HW) hn (unhide HS))
                  clear b4
                  go_wp2_with fail
                  refine (unhide G5).mono ?_
                  rintro e w5 ⟨rfl, hb5, rb, ib, ob, hC⟩
                  have hb5' := hide ((unhide hb4').trans (hb5.mono (unhide hb4').size))
                  have hC' := hide hC
                  have p0 := hC.ptr m (by omega)
                  have F := hide (flatF_flat M1 M2 S1 S2 (m + 1))
                  have G6 := hide (zitems_any w5 (m + 1) rb ib ob M1 M2 S1 S2 K _ _ hC.rd (unhide F) (unhide HW) (unhide HS) m f t (by omega) hft (unhide htm))
                  clear hb5 hC G5
                  go_wp2_with fail
                  refine (unhide G6).mono ?_
                  rintro e w6 ⟨⟨L, hL, rfl⟩, hb6⟩
                  have hb6' := hide ((unhide hb5').trans (hb6.mono (unhide hb5').size))
                  have hC6 := (unhide hC').below hb6
                  have p3 := hC6.ptr j p2
                  have G9 := hide (zitems_any w6 (m + 1) rb ib ob M1 M2 S1 S2 K _ _ hC6.rd (unhide F) (unhide HW) (unhide HS) j f t p2 hft (unhide ht))
                  clear hb6 G6 p0 hC6
                  go_wp2_with fail
                  refine (unhide G9).mono ?_
                  rintro e w9 ⟨⟨L2, hL2, rfl⟩, hb9⟩
                  have lp0 := (unhide hL).2.1.lt
                  have hL9 := hide (And.intro ((unhide hL).2.1.below hb9 lp0) ((unhide hL).2.2.below hb9 lp0))
                  have hb9' := hide ((unhide hb6').trans (hb9.mono (unhide hb6').size))
                  have b9 := unhide hb9'
                  have G7 := hide (flatten_any w9 a1 a2 (m + 1) c1 c2 M1 M2 S1 S2 _ _ ((unhide H1).below b9 (Nat.le_refl _)) ((unhide H2).below b9 (Nat.le_refl _)) (unhide F) hn (unhide HS))
                  clear b9 hb9 G9 p3 lp0 hL
                  go_wp2_with fail
                  refine (unhide G7).mono ?_
                  rintro e w7 ⟨⟨v, hv, rfl⟩, hb7⟩
                  obtain ⟨ga, cap, rfl, hA⟩ := flatAt_of (unhide hv)
                  have hb7' := hide ((unhide hb9').trans (hb7.mono (unhide hb9').size))
                  have lp := (unhide hL9).1.lt
                  have lp2 := (unhide hL2).2.1.lt
                  have hA' := hide hA
                  have P1 := hide (And.intro ((unhide hL9).1.below hb7 lp) ((unhide hL9).2.below hb7 lp))
                  have P2 := hide (And.intro ((unhide hL2).2.1.below hb7 lp2) ((unhide hL2).2.2.below hb7 lp2))
                  clear hb7 hA G7 hv lp lp2 hL9 hL2
                  have G8 := hide (matches_any w7 L f t _ cap ga _ _ (unhide P1).1 (unhide P1).2 (unhide hA') hft (unhide htm) (unhide HS))
                  go_wp2_with fail
                  refine (unhide G8).mono ?_
                  rintro e w8 ⟨rfl, hb8⟩
                  have hb8' := hide ((unhide hb7').trans (hb8.mono (unhide hb7').size))
                  have lp2 := (unhide P2).1.lt
                  have G10 := hide (matches_any w8 L2 f t _ cap ga _ _ ((unhide P2).1.below hb8 lp2) ((unhide P2).2.below hb8 lp2) ((unhide hA').below hb8) hft (unhide htm) (unhide HS))
                  clear hb8 G8 P1 P2 hA' lp2
                  go_wp2_with fail
                  refine (unhide G10).mono ?_
                  rintro e w10 ⟨rfl, hb10⟩
                  have hb10' := hide ((unhide hb8').trans (hb10.mono (unhide hb8').size))
                  clear hb10 G10
                  go_wp2_with fail
                  go_ret
                  exact ⟨rfl, unhide hb10'⟩
          · go_wp2_with fail
            go_ret
            exact ⟨rfl, Below.refl _ _⟩
end Go.Proofs.Qxb6618114a
