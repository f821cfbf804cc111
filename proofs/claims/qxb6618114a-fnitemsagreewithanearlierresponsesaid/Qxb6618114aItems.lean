import Derived.Test.Qxb6618114aBuild
namespace Go.Proofs.Qxb6618114a
open Go.RowKit
set_option linter.unusedVariables false
set_option linter.unusedSimpArgs false

/-- first. -/
theorem first_any (w : World) (b : Nat) (pv sk : Option Addr) (ib m ob m2 h f : Nat) (R : Resp w b pv sk ib m ob m2 (h : Nat)) (hh : h = f + (m + m2)) (hs : h ≤ 131072) :
    Calls Try.prog 56 #[.pointer (some ⟨b, 0, none⟩)] w fun e w' => e = .returned (.int .i64 f) ∧ Below w.heap.size w w' := by
  have c12 := R.c12
  have c13 := R.c13
  have c14 := R.c14
  have hh' := hide hh
  have q1 : m + m2 ≤ h := by omega
  have q2 : m ≤ h := by omega
  clear R hh
  go_enter Try.func56, Try.ntmps56
  go_wp2_with fail
  go_quiet (fail)
  go_wp2_with fail
  go_ret
  refine ⟨?_, below_drewN' (Below.refl _ _) _⟩
  show Ending.returned (.int .i64 _) = Ending.returned (.int .i64 _)
  congr 2
  have := unhide hh'
  omega

/-- What holding and items read. -/
structure Rd (w : World) (n : Nat) (rb ib ob M1 M2 : Nat → Nat) (S1 S2 : Nat → Nat → ByteArray) (K : Nat → Int) : Prop where
  resp : ∀ j, j < n → Resp w (rb j) (prevOf rb j) (some ⟨rb (K j).toNat, 0, none⟩) (ib j) (M1 j) (ob j) (M2 j) (fi M1 M2 (j + 1) : Nat)
  its : ∀ j, j < n → Its w (ib j) (M1 j) iKind (S1 j)
  ots : ∀ j, j < n → Its w (ob j) (M2 j) oKind (S2 j)
theorem Chn.rd {w : World} {B0 cb n : Nat} {rb ib ob M1 M2 : Nat → Nat} {S1 S2 : Nat → Nat → ByteArray} {K : Nat → Int} (h : Chn w B0 cb n n rb ib ob M1 M2 S1 S2 K) : Rd w n rb ib ob M1 M2 S1 S2 K := ⟨h.resp, h.its, h.ots⟩
theorem Rd.below {w w' : World} {n : Nat} {rb ib ob M1 M2 : Nat → Nat} {S1 S2 : Nat → Nat → ByteArray} {K : Nat → Int} (h : Rd w n rb ib ob M1 M2 S1 S2 K) (hB : Below w.heap.size w w') : Rd w' n rb ib ob M1 M2 S1 S2 K :=
  ⟨fun j hj => (h.resp j hj).of_heap (hB.block _ (h.resp j hj).pl.lt), fun j hj => (h.its j hj).of_heap (hB.block _ (h.its j hj).1.lt), fun j hj => (h.ots j hj).of_heap (hB.block _ (h.ots j hj).1.lt)⟩
theorem Rd.first {w : World} {n : Nat} {rb ib ob M1 M2 : Nat → Nat} {S1 S2 : Nat → Nat → ByteArray} {K : Nat → Int} (h : Rd w n rb ib ob M1 M2 S1 S2 K) (hs : fi M1 M2 n ≤ 131072) {j : Nat} (hj : j < n) :
    Calls Try.prog 56 #[.pointer (some ⟨rb j, 0, none⟩)] w fun e w' => e = .returned (.int .i64 (fi M1 M2 j : Nat)) ∧ Below w.heap.size w w' :=
  first_any w (rb j) _ _ (ib j) (M1 j) (ob j) (M2 j) _ _ (h.resp j hj) (fi_succ M1 M2 j) (Nat.le_trans (fi_mono M1 M2 hj) hs)

set_option maxHeartbeats 2000000 in
/-- holding. -/
theorem holding_any (w : World) (n : Nat) (rb ib ob M1 M2 : Nat → Nat) (S1 S2 : Nat → Nat → ByteArray) (K : Nat → Int) (h : Rd w n rb ib ob M1 M2 S1 S2 K) (hw : Well n n n K) (hs : fi M1 M2 n ≤ 131072) (jr p : Nat) (hj : jr < n) (hp : p < fi M1 M2 (jr + 1)) :
    Calls Try.prog 55 #[.pointer (some ⟨rb jr, 0, none⟩), .int .i64 p] w fun e w' => (∃ j, j < n ∧ fi M1 M2 j ≤ p ∧ p < fi M1 M2 (j + 1) ∧ e = .returned (.pointer (some ⟨rb j, 0, none⟩))) ∧ Below w.heap.size w w' := by
  have H := hide h
  have HW := hide hw
  have hs' := hide hs
  have hp' := hide hp
  clear h hw hs hp
  go_enter Try.func55, Try.ntmps55
  go_wp2_with fail
  go_loopg [5] (jr + 1) (fun g a wr => Below w.heap.size w wr ∧ ∃ j : Nat, g = j + 1 ∧ j < n ∧ a = .pointer (some ⟨rb j, 0, none⟩) ∧ Hid (p < fi M1 M2 (j + 1)))
  case atStart => exact ⟨Below.refl _ _, jr, rfl, hj, rfl, hp'⟩
  case round =>
    obtain ⟨hbw, j, hg, hj, rfl, hp⟩ := hrel
    have F0 := hide (((unhide H).below hbw).first (unhide hs') hj)
    generalize hf : fi M1 M2 j = f at *
    have hf' := hide hf
    clear hf
    go_wp2_with fail
    refine (unhide F0).mono ?_
    rintro e w2 ⟨rfl, hb2⟩
    have hbw2 : Below w.heap.size w w2 := hbw.trans (hb2.mono hbw.size)
    clear F0 hbw hb2
    by_cases hc : p < f
    · obtain ⟨q, rfl⟩ : ∃ q, j = q + 1 := by
        rcases Nat.eq_zero_or_pos j with hz | hz
        · subst hz; have := unhide hf'; simp [fi, sm] at this; omega
        · exact ⟨j - 1, by omega⟩
      have kb := (unhide HW).2.2.2.2 (q + 1) (by omega) hj
      obtain ⟨kn, hkn⟩ := Int.eq_ofNat_of_zero_le kb.1
      have R := ((unhide H).below hbw2).resp (q + 1) hj
      have c10 := R.c10
      rw [hkn, show ((kn : Int)).toNat = kn from rfl] at c10
      have hkn' := hide hkn
      have kl : kn < q + 1 := by omega
      have F1 := hide (((unhide H).below hbw2).first (unhide hs') (j := kn) (by omega))
      have fs := hide (fun (h : p < fi M1 M2 kn) => (show p < fi M1 M2 (kn + 1) from Nat.lt_of_lt_of_le h (fi_mono M1 M2 (by omega))))
      have fp := hide (show p < fi M1 M2 (q + 1) by rw [unhide hf']; exact hc)
      clear R kb hkn
      generalize hf1 : fi M1 M2 kn = f1 at *
      have hf1' := hide hf1
      clear hf1
      go_wp2_with fail
      refine (unhide F1).mono ?_
      rintro e w3 ⟨rfl, hb3⟩
      have hbw3 : Below w.heap.size w w3 := hbw2.trans (hb3.mono hbw2.size)
      have R := ((unhide H).below hbw3).resp (q + 1) hj
      have c9 := R.c9
      have c10 := R.c10
      rw [unhide hkn', show ((kn : Int)).toNat = kn from rfl] at c10
      rw [show prevOf rb (q + 1) = some ⟨rb q, 0, none⟩ by unfold prevOf; rw [if_neg (by omega), show q + 1 - 1 = q by omega]] at c9
      clear R F1 hb3 hbw2
      by_cases hc2 : p < f1
      · go_wp2_with fail
        go_roundg (kn + 1)
        case measure => omega
        case rel => exact ⟨hbw3, kn, rfl, by omega, rfl, hide (unhide fs hc2)⟩
      · go_wp2_with fail
        go_roundg (q + 1)
        case measure => omega
        case rel => exact ⟨hbw3, q, rfl, by omega, rfl, fp⟩
    · go_wp2_with fail
      go_ret
      exact ⟨⟨j, hj, by rw [unhide hf']; omega, unhide hp, rfl⟩, hbw2⟩

/-- The flat conversation, place by place. -/
structure Flat (n : Nat) (M1 M2 : Nat → Nat) (S1 S2 : Nat → Nat → ByteArray) (FK FI : Nat → ByteArray) : Prop where
  inp : ∀ j, j < n → ∀ k, k < M1 j → FK (fi M1 M2 j + k) = iKind ∧ FI (fi M1 M2 j + k) = S1 j k
  out : ∀ j, j < n → ∀ k, k < M2 j → FK (fi M1 M2 j + M1 j + k) = oKind ∧ FI (fi M1 M2 j + M1 j + k) = S2 j k

/-- The places from a up to t lie in the list. -/
def Filled (w : World) (L f a t : Nat) (FK FI : Nat → ByteArray) : Prop := ∀ p, f ≤ p → a ≤ p → p < t → ItemAt w L ((p - f) * 8) (FK p) (FI p)
theorem Filled.below {B : Nat} {w w' : World} {L f a t : Nat} {FK FI : Nat → ByteArray} (h : Filled w L f a t FK FI) (hB : Below B w w') (hL : L < B) : Filled w' L f a t FK FI := fun p h0 h1 h2 => (h p h0 h1 h2).below hB hL

theorem Filled.drew {w : World} {L f a t : Nat} {FK FI : Nat → ByteArray} (h : Filled w L f a t FK FI) : Filled w.drew L f a t FK FI := fun p h0 h1 h2 => (h p h0 h1 h2).same fun _ => rfl
theorem Cells.drew {w : World} {b N : Nat} (h : Cells w b N) : Cells w.drew b N := h

set_option maxRecDepth 100000 in
set_option maxHeartbeats 4000000 in
/-- items. -/
theorem items_any (w : World) (n : Nat) (rb ib ob M1 M2 : Nat → Nat) (S1 S2 : Nat → Nat → ByteArray) (K : Nat → Int) (FK FI : Nat → ByteArray) (h : Rd w n rb ib ob M1 M2 S1 S2 K) (hF : Flat n M1 M2 S1 S2 FK FI) (hw : Well n n n K)
    (hs : fi M1 M2 n ≤ 131072) (jr f t : Nat) (hj : jr < n) (hft : f ≤ t) (ht : t ≤ fi M1 M2 (jr + 1)) :
    Calls Try.prog 49 #[.pointer (some ⟨rb jr, 0, none⟩), .int .i64 f, .int .i64 t] w fun e w' => e = .returned (.slice (some ⟨w.heap.size, 0, none⟩) (t - f) (t - f)) ∧ Below w.heap.size w w' ∧ Plain w' w.heap.size ∧ Filled w' w.heap.size f f t FK FI := by
  have htn : t ≤ 131072 := Nat.le_trans ht (Nat.le_trans (fi_mono M1 M2 hj) hs)
  have H := hide h
  have HF := hide hF
  have HW := hide hw
  have hs' := hide hs
  have ht' := hide ht
  obtain ⟨d, hd⟩ : ∃ d, d = t - f := ⟨_, rfl⟩
  have hd' := hide hd
  rw [← hd]
  clear h hF hw hs ht hd
  have B0 := hide (show Below w.heap.size w (w.alloc (.cells (zrow d) 76)) from (Below.refl _ _).alloc (Nat.le_refl _) _)
  have C0 := hide (cells_new w d)
  have P0 := hide (plain_new w (zrow d) 76)
  obtain ⟨L, hL⟩ : ∃ L, w.heap.size = L := ⟨_, rfl⟩
  have hL' := hide hL
  rw [hL] at C0 P0
  clear hL
  by_cases e : f = t
  · subst e
    obtain rfl : d = 0 := by have := unhide hd'; omega
    have hmk : ∀ w, (Instr.makeSlice 35 (.int .i64 0) (.int .i64 0)).run Try.prog w = .ok (.slice (some ⟨w.heap.size, 0, none⟩) 0 0) (w.alloc (.cells (zrow 0) 76)) := make_items 0 (by omega)
    go_enter Try.func49, Try.ntmps49
    go_wp2_with fail
    go_ret
    exact ⟨rfl, unhide B0, by rw [unhide hL']; exact unhide P0, fun p h0 h1 h2 => by omega⟩
  · have ef : ((f : Int) == (t : Int)) = false := by rw [beq_eq_false_iff_ne]; omega
    obtain ⟨u, rfl⟩ : ∃ u, t = u + 1 := ⟨t - 1, by omega⟩
    have hfu : f ≤ u := by omega
    have hmk : ∀ w, (Instr.makeSlice 35 (.int .i64 ((u : Int) + 1 - (f : Int))) (.int .i64 ((u : Int) + 1 - (f : Int)))).run Try.prog w = .ok (.slice (some ⟨w.heap.size, 0, none⟩) d d) (w.alloc (.cells (zrow d) 76)) := fun w => by
      rw [show (u : Int) + 1 - (f : Int) = (d : Int) by have := unhide hd'; omega]; exact make_items d (by have := unhide hd'; omega) w
    have G0 := hide (fun (w2 : World) (hB : Below w.heap.size w w2) => holding_any w2 n rb ib ob M1 M2 S1 S2 K ((unhide H).below hB) (unhide HW) (unhide hs') jr u hj (by have := unhide ht'; omega))
    go_enter Try.func49, Try.ntmps49
    go_wp2_with fail
    refine (unhide G0 _ (unhide B0)).mono ?_
    rintro e w2 ⟨⟨j, hj2, q1, q2, rfl⟩, hb2⟩
    have B2 := hide ((unhide B0).trans (hb2.mono (unhide B0).size))
    have P2 := hide ((unhide P0).below hb2 (unhide P0).lt)
    have C2 := hide ((unhide C0).below hb2 (unhide P0).lt)
    rw [unhide hL']
    have q1' := hide q1
    have q2' := hide q2
    clear G0 B0 P0 C0 hb2 hmk q1 q2
    go_wp2_with fail
    go_loopg [2, 8] (j + 1) (fun g tv av wr => Below w.heap.size w wr ∧ Plain wr L ∧ Hid (Cells wr L (d * 8)) ∧ ∃ (t' : Nat) (pa : Option Addr), tv = .int .i64 t' ∧ av = .pointer pa ∧ t' ≤ u + 1 ∧
      Hid (f < t' → ∃ j, j < n ∧ pa = some ⟨rb j, 0, none⟩ ∧ g = j + 1 ∧ fi M1 M2 j ≤ t' ∧ t' ≤ fi M1 M2 (j + 1)) ∧ Hid (Filled wr L f t' (u + 1) FK FI))
    case atStart => exact ⟨unhide B2, unhide P2, C2, u + 1, _, rfl, rfl, Nat.le_refl _, hide (fun _ => ⟨j, hj2, rfl, rfl, by have := unhide q1'; omega, by have := unhide q2'; omega⟩), hide (fun p _ h1 h2 => by omega)⟩
    case round =>
      clear B2 P2 C2
      obtain ⟨hbw, hP, hC, t', pa, rfl, rfl, htu, hJ, hFl⟩ := hrel
      have hP' := hide hP
      clear hP
      by_cases hc : f < t'
      · obtain ⟨j, hj2, rfl, hg, g1, g2⟩ := unhide hJ hc
        have F0 := hide (((unhide H).below hbw).first (unhide hs') hj2)
        have hfj := hide (show fi M1 M2 (j + 1) = fi M1 M2 j + (M1 j + M2 j) from rfl)
        have g2' := hide g2
        clear hJ g2
        generalize hf : fi M1 M2 j = fj at *
        have hf' := hide hf
        clear hf
        go_wp2_with fail
        refine (unhide F0).mono ?_
        rintro e w3 ⟨rfl, hb3⟩
        have B3 := hide (hbw.trans (hb3.mono hbw.size))
        have P3 := hide ((unhide hP').below hb3 (unhide hP').lt)
        have C3 := hide ((unhide hC).below hb3 (unhide hP').lt)
        have Fl3 := hide ((unhide hFl).below hb3 (unhide hP').lt)
        clear F0 hbw hb3 hP' hC hFl
        obtain ⟨gs, hgs⟩ : ∃ x, x = gk := ⟨_, rfl⟩
        have hgs' := hide hgs
        clear hgs
        have back := hide (fun (wr : World) (h1 : Filled wr L f t' (u + 1) FK FI) (h2 : Filled wr L f fj t' FK FI) => (show Hid (f < fj → ∃ j', j' < n ∧ prevOf rb j = some ⟨rb j', 0, none⟩ ∧ j = j' + 1 ∧ fi M1 M2 j' ≤ fj ∧ fj ≤ fi M1 M2 (j' + 1)) ∧ Hid (Filled wr L f fj (u + 1) FK FI) from
          ⟨hide (fun hlt => by
            rcases Nat.eq_zero_or_pos j with hz | hz
            · subst hz; have := unhide hf'; simp [fi, sm] at this; omega
            · obtain ⟨q, rfl⟩ : ∃ q, j = q + 1 := ⟨j - 1, by omega⟩
              exact ⟨q, by omega, by unfold prevOf; rw [if_neg (by omega), show q + 1 - 1 = q by omega], rfl, by have := fi_mono M1 M2 (show q ≤ q + 1 by omega); have := unhide hf'; omega, by have := unhide hf'; omega⟩),
            hide (fun q h0 h3 h4 => by
              by_cases hq : t' ≤ q
              · exact h1 q h0 hq h4
              · exact h2 q h0 h3 (by omega))⟩))
        by_cases hm : fj ≤ f
        all_goals
          go_wp2_with fail
          go_loopg [10] (t' + 1 - max f fj) (fun g pv wr => Below w.heap.size w wr ∧ Plain wr L ∧ Hid (Cells wr L (d * 8)) ∧ Hid (Filled wr L f t' (u + 1) FK FI) ∧ ∃ p : Nat, pv = .int .i64 p ∧ g + p = t' + 1 ∧ p ≤ t' ∧ f ≤ p ∧ fj ≤ p ∧ Hid (Filled wr L f fj p FK FI))
          case atStart => exact ⟨unhide B3, unhide P3, C3, Fl3, _, rfl, by omega, by omega, by omega, by omega, hide (fun q h0 h1 h2 => by omega)⟩
          case round =>
            clear B3 P3 C3 Fl3
            obtain ⟨hbw, hP, hC, hFl, p, rfl, hg2, p1, p2, p3, hFp⟩ := hrel
            have hP' := hide hP
            have zf := hP.frozen
            clear hP
            by_cases hlt : p < t'
            · obtain ⟨v, hv⟩ : ∃ v, v = p - fj := ⟨_, rfl⟩
              obtain ⟨x, hx⟩ : ∃ x, x = p - f := ⟨_, rfl⟩
              have e1 : (p : Int) - (fj : Int) = (v : Int) := by omega
              have e2 : (p : Int) - (f : Int) = (x : Int) := by omega
              have xd : x < d := by have := unhide hd'; omega
              have hpv := hide (show p = fj + v by omega)
              have hxp := hide (show x = p - f from hx)
              clear hv hx
              have hRd := (unhide H).below hbw
              have R := hRd.resp j hj2
              have c12 := R.c12
              have c13 := R.c13
              have C2 : ∀ q, q < 8 → ∃ v, wr.cell? ⟨L, x * 8 + q, none⟩ = some v := fun q h => unhide hC (x * 8 + q) (by omega)
              obtain ⟨v0, k0⟩ := C2 0 (by omega)
              obtain ⟨v1, k1⟩ := C2 1 (by omega)
              obtain ⟨v2, k2⟩ := C2 2 (by omega)
              obtain ⟨v3, k3⟩ := C2 3 (by omega)
              obtain ⟨v4, k4⟩ := C2 4 (by omega)
              obtain ⟨v5, k5⟩ := C2 5 (by omega)
              obtain ⟨v6, k6⟩ := C2 6 (by omega)
              obtain ⟨v7, k7⟩ := C2 7 (by omega)
              simp only [Nat.add_zero] at k0
              have fin := hide (fun (kind id : ByteArray) (hk : FK p = kind) (hi : FI p = id) =>
                (show Below w.heap.size w (put8 wr L (x * 8) kind id) ∧ Plain (put8 wr L (x * 8) kind id) L ∧ Hid (Cells (put8 wr L (x * 8) kind id) L (d * 8)) ∧ Hid (Filled (put8 wr L (x * 8) kind id) L f t' (u + 1) FK FI) ∧ Hid (Filled (put8 wr L (x * 8) kind id) L f fj (p + 1) FK FI) from
                  ⟨put8_below hbw (by have := unhide hL'; omega) _ _ _, put8_plain (unhide hP') _ _ _ _, hide (put8_cells (unhide hC) _ _ _ _), hide (fun q h0 h1 h2 => (unhide hFl q h0 h1 h2).put8 _ _ _ _ (fun _ => by have := unhide hxp; omega)),
                    hide (fun q h0 h1 h2 => by
                      by_cases eq : q = p
                      · subst eq
                        rw [hk, hi, ← unhide hxp]
                        exact put8_at (unhide hC) (by omega) _ _
                      · exact (unhide hFp q h0 h1 (by omega)).put8 _ _ _ _ (fun _ => by have := unhide hxp; omega))⟩))
              by_cases ho : v < M1 j
              · obtain ⟨i0, i1, i2, i3, i4, i5, i6, i7⟩ := (hRd.its j hj2).2 v ho
                obtain ⟨hk, hi⟩ := (unhide HF).inp j hj2 v ho
                rw [unhide hf', ← unhide hpv] at hk hi
                have FIN := hide (unhide fin _ _ hk hi)
                clear hk hi fin R hRd C2
                go_wp2_with fail
                rw [put8_eq]
                generalize put8 wr L (x * 8) iKind (S1 j v) = W at FIN ⊢
                go_roundg (gk - 1)
                case measure => omega
                case rel =>
                  obtain ⟨x1, x2, x3, x4, x5⟩ := unhide FIN
                  exact ⟨x1, x2, x3, x4, p + 1, by go_num, by omega, by omega, by omega, by omega, x5⟩
              · obtain ⟨v', hv'⟩ : ∃ v', v' = v - M1 j := ⟨_, rfl⟩
                have e3 : (v : Int) - (M1 j : Int) = (v' : Int) := by omega
                have ho2 : v' < M2 j := by have := unhide g2'; have := unhide hfj; have := unhide hpv; omega
                obtain ⟨i0, i1, i2, i3, i4, i5, i6, i7⟩ := (hRd.ots j hj2).2 v' ho2
                obtain ⟨hk, hi⟩ := (unhide HF).out j hj2 v' ho2
                rw [unhide hf', show fj + M1 j + v' = p by have := unhide hpv; omega] at hk hi
                have FIN := hide (unhide fin _ _ hk hi)
                clear hk hi fin R hRd C2 hv'
                go_wp2_with fail
                go_region
                rw [put8_eq]
                generalize put8 wr L (x * 8) oKind (S2 j v') = W at FIN ⊢
                clear i0 i1 i2 i3 i4 i5 i6 i7 k0 k1 k2 k3 k4 k5 k6 k7 c12 c13 zf
                go_wp2_with fail
                go_roundg (gk - 1)
                case measure => omega
                case rel =>
                  obtain ⟨x1, x2, x3, x4, x5⟩ := unhide FIN
                  exact ⟨x1.drew, x2.of_heap rfl, hide (unhide x3).drew, hide (unhide x4).drew, p + 1, by go_num, by omega, by omega, by omega, by omega, hide (unhide x5).drew⟩
            · have R := ((unhide H).below hbw).resp j hj2
              have c9 := R.c9
              have bk := hide (unhide back wr (unhide hFl) (by rw [show t' = p by omega]; exact unhide hFp))
              clear R back
              generalize prevOf rb j = pv at *
              go_wp2_with fail
              go_roundg j
              case measure => omega
              case rel => exact ⟨hbw, unhide hP', hC, fj, pv, rfl, rfl, by omega, (unhide bk).1, (unhide bk).2⟩
      · go_wp2_with fail
        go_ret
        exact ⟨by rw [unhide hL']; rfl, hbw, by rw [unhide hL']; exact unhide hP', by rw [unhide hL']; exact fun p h0 h1 h2 => unhide hFl p h0 (by omega) h2⟩
end Go.Proofs.Qxb6618114a
