import Derived.Test.Qxb6618799aDoorBufS
namespace Go.Proofs.Qxb6618799aDoor
open Go.RowKit
set_option linter.unusedVariables false
set_option linter.unusedSimpArgs false

theorem splice_full (cur cs : List Value) (h : cs.length ≤ cur.length) (q : Nat) (hq : q < cs.length) : (splice cur 0 cs)[q]? = cs[q]? := by
  rw [splice_at cur 0 cs (by omega), if_neg (by omega), if_pos (by omega)]; rfl

set_option maxRecDepth 100000 in
set_option maxHeartbeats 4000000 in
/-- Read into the four, the buffer used up, something left in the data. -/
theorem buf_some2 (w : World) (d : Option Addr) (D B R U n c Q : Nat) (X : Nat → Nat) (t tq : TypeId) (p0 r0' off kk : Nat) (cur0 dst : List Value) (S : St w d D B R U n c X t p0 r0' r0' cur0 .nilIface)
    (hp : p0 < n) (hoff0 : off = p0) (hk : kk = min (n - off) 4) (hQ : w.heap[Q]? = some (.cells dst.toArray tq (0, 0))) (hdl : dst.length = 4) (hQU : Q ≠ U) (hQR : Q ≠ R) (hQB : Q ≠ B) (hQD : Q ≠ D) :
    Calls Tryd.prog 44 #[.pointer (some ⟨R, 0, none⟩), .slice (some ⟨Q, 0, none⟩) 4 4] w fun e w' => e = .returned (.tuple #[.int .i64 (kk : Int), .nilIface]) ∧ (∃ pos rr ww cur, pos - (ww - rr) = off + kk ∧ St w' d D B R U n c X t pos rr ww cur .nilIface) ∧
      w'.heap[Q]? = some (.cells (splice dst 0 (cut X off kk)).toArray tq (0, 0)) ∧ Ch (fun x => (x = R ∨ x = Q) ∨ x = U ∨ x = B) w w' := by
  have hd0 := S.hd (by omega)
  subst hd0
  obtain ⟨K, hK⟩ : ∃ K, K = min (n - p0) 4096 := ⟨_, rfl⟩
  have hKb : 0 < K ∧ K ≤ 4096 ∧ p0 + K ≤ n := by omega
  obtain ⟨K0, K1, K2⟩ := hKb
  have r0 := S.bu.c0
  have r1 := S.bu.c1
  have r2 := S.bu.c2
  have r3 := S.bu.c3
  have r4 := S.bu.c4
  have hf := S.bu.pl.frozen
  have S' := hide S
  have hk' := hide hk
  have hK' := hide hK
  have sm := S.sm
  have cl0 := S.len
  clear S hk hK
  go_enter Tryd.func44, Tryd.ntmps44
  go_wp2_with fail
  go_quiet (fail)
  go_wp2_with fail
  have S2 : St (((w.drewN nq).setCell ⟨R, 2, none⟩ (.int .i64 0)).setCell ⟨R, 3, none⟩ (.int .i64 0)) (some ⟨D, 0, none⟩) D B R U n c X t p0 0 0 cur0 .nilIface := by
    have S := unhide S'
    have b2 : BU (w.drewN nq) R U B r0' r0' .nilIface := S.bu.of_heap rfl
    exact S.own ((b2.set2 0).set3 0) (by rw [heap_set _ _ _ _ S.e3, heap_set _ _ _ _ S.e3]; rfl) (by rw [heap_set _ _ _ _ S.e2.symm, heap_set _ _ _ _ S.e2.symm]; rfl) (by rw [heap_set _ _ _ _ S.e5, heap_set _ _ _ _ S.e5]; rfl) (by omega) (by omega) (by omega) (fun q h1 h2 => by omega) (Or.inr rfl)
  have ch : Ch (fun x => (x = R ∨ x = Q) ∨ x = U ∨ x = B) w (((w.drewN nq).setCell ⟨R, 2, none⟩ (.int .i64 0)).setCell ⟨R, 3, none⟩ (.int .i64 0)) := (((Ch.refl _ w).drewN nq).setCell ⟨R, 2, none⟩ (Or.inl (Or.inl rfl)) _).setCell ⟨R, 3, none⟩ (Or.inl (Or.inl rfl)) _
  have hQ2 : (((w.drewN nq).setCell ⟨R, 2, none⟩ (.int .i64 0)).setCell ⟨R, 3, none⟩ (.int .i64 0)).heap[Q]? = some (.cells dst.toArray tq (0, 0)) := by
    rw [heap_set _ ⟨R, 3, none⟩ _ Q hQR, heap_set _ ⟨R, 2, none⟩ _ Q hQR]; exact hQ
  generalize (((w.drewN nq).setCell ⟨R, 2, none⟩ (.int .i64 0)).setCell ⟨R, 3, none⟩ (.int .i64 0)) = w2 at S2 ch hQ2 ⊢
  clear r0 r1 r2 r3 r4 hf hQ S'
  have r0 := S2.bu.c0
  have r1 := S2.bu.c1
  have S2' := hide S2
  have ch' := hide ch
  have hQ2' := hide hQ2
  clear S2 ch hQ2
  have nA := nil_ahead
  have mB := method_bytes
  have SD := hide ((unhide S2').drew)
  go_region_held3 (fun w5 => w5.cell? ⟨R, 0, none⟩ = some (.slice (some ⟨U, 0, none⟩) 4096 4096) ∧ w5.cell? ⟨R, 1, none⟩ = some (.iface 38 (.pointer (some ⟨B, 0, none⟩)))) (first | (exact ⟨(unhide b3).c0, (unhide b3).c1⟩) | (exact ⟨((unhide b3).set4 _).c0, ((unhide b3).set4 _).c1⟩) | go_keep) (first
    | (go_at_call 49; refine (bread_some w2.drew B D U n c p0 K X cur0 t (unhide SD).br hp sm (unhide SD).nc (unhide SD).bs (unhide SD).row (unhide SD).len (unhide hK') (unhide SD).e1 (unhide SD).e6 (unhide SD).e4).mono ?_; rintro e w3 ⟨rfl, hc3, hu3, hb3⟩; have b3 := hide ((unhide SD).bu.of_heap (hc3.same R (unhide SD).bu.pl.lt (by rintro (x | x); exact (unhide SD).e2 x; exact (unhide SD).e3 x.symm))); have z4 := (unhide b3).c4; have zf := (unhide b3).pl.frozen 4))
  have b4 := (unhide b3).set4 .nilIface
  have cv4 := ((unhide ch').drewN 1).trans (hc3.mono (T := fun x => (x = R ∨ x = Q) ∨ x = U ∨ x = B) fun x _ h => Or.inr h) |>.setCell ⟨R, 4, none⟩ (Or.inl (Or.inl rfl)) .nilIface
  have hQ4 : (w3.setCell ⟨R, 4, none⟩ .nilIface).heap[Q]? = some (.cells dst.toArray tq (0, 0)) := by
    rw [heap_set _ ⟨R, 4, none⟩ _ Q hQR, hc3.same Q (Array.getElem?_eq_some_iff.1 (show w2.drew.heap[Q]? = _ from unhide hQ2')).1 (by rintro (x | x); exact hQU x; exact hQB x)]; exact unhide hQ2'
  have S4 : St (w3.setCell ⟨R, 4, none⟩ .nilIface) (some ⟨D, 0, none⟩) D B R U n c X t (p0 + K) 0 0 (splice cur0 0 (cut X p0 K)) .nilIface := by
    have S := unhide SD
    exact { hd := S.hd, br := hb3.of_heap (heap_set _ _ _ _ S.e3), bu := b4, row := (heap_set _ _ _ _ S.e2.symm).trans hu3, len := by rw [length_splice _ _ _ (by rw [length_cut, S.len]; omega), S.len], bs := fun j hj => by rw [World.cell?_of_block (a := ⟨D, j, none⟩) (heap_set w3 ⟨R, 4, none⟩ _ D S.e5)]; exact (cell_of_heap (hc3.same D (lt_of_cell (S.bs j hj)) (by rintro (x | x); exact S.e6 x; exact S.e4 x)) j).trans (S.bs j hj), sm := S.sm, nc := S.nc, o1 := by omega, o2 := by omega, o3 := by omega, o4 := by omega, buf := fun q h1 h2 => by omega, al := Or.inr rfl, e1 := S.e1, e2 := S.e2, e3 := S.e3, e4 := S.e4, e5 := S.e5, e6 := S.e6 }
  generalize (w3.setCell ⟨R, 4, none⟩ .nilIface) = w4 at b4 cv4 hQ4 S4 ⊢
  clear hc3 hu3 hb3 b3 z4 zf r0 r1 SD S2' ch' hQ2'
  have r3 := b4.c3
  have hf := b4.pl.frozen
  have S4' := hide S4
  have cv4' := hide cv4
  have hQ4' := hide hQ4
  have kz : ((K : Int) == 0) = false := by rw [beq_eq_false_iff_ne]; omega
  clear b4 S4 cv4 hQ4
  go_wp2_with fail
  obtain ⟨rr, hr0⟩ : ∃ r : Nat, r = 0 := ⟨0, rfl⟩
  obtain ⟨pos, hpos⟩ : ∃ r : Nat, r = p0 + K := ⟨_, rfl⟩
  obtain ⟨ww, hww⟩ : ∃ r : Nat, r = K := ⟨_, rfl⟩
  obtain ⟨cur, hcur⟩ : ∃ r, r = splice cur0 0 (cut X p0 K) := ⟨_, rfl⟩
  have S5 : St (w4.setCell ⟨R, 3, none⟩ (.int .i64 (K : Int))) (some ⟨D, 0, none⟩) D B R U n c X t pos rr ww cur .nilIface := by
    have S := unhide S4'
    rw [hr0, hpos, hww, hcur]
    exact S.own (S.bu.set3 K) (heap_set _ _ _ _ S.e3) (heap_set _ _ _ _ S.e2.symm) (heap_set _ _ _ _ S.e5) (by omega) K1 (by omega) (fun q h1 h2 => by
      rw [splice_full cur0 (cut X p0 K) (by rw [length_cut]; omega) q (by rw [length_cut]; exact h2), cut_at X p0 K q h2]
      rw [show p0 + K - (K - q) = p0 + q by omega]) (by have := unhide hK'; omega)
  have cv := (unhide cv4').setCell ⟨R, 3, none⟩ (Or.inl (Or.inl rfl)) (.int .i64 (K : Int))
  have hQv : (w4.setCell ⟨R, 3, none⟩ (.int .i64 (K : Int))).heap[Q]? = some (.cells dst.toArray tq (0, 0)) := (heap_set w4 ⟨R, 3, none⟩ _ Q hQR).trans (unhide hQ4')
  generalize (w4.setCell ⟨R, 3, none⟩ (.int .i64 (K : Int))) = wv at S5 cv hQv ⊢
  clear S4' cv4' hQ4' r3 hf cl0
  have hoff : off = pos - (ww - rr) := by omega
  have o2 := S5.o2
  have o4 := S5.o4
  have o3 := S5.o3
  have al := S5.al
  have hlt : rr < ww := by omega
  have hkk : kk = min (ww - rr) 4 ∧ 0 < kk ∧ kk ≤ 4 ∧ rr + kk ≤ ww := by
    have := unhide hk'
    have := unhide hK'
    omega
  obtain ⟨hk2, k0, k4, k5⟩ := hkk
  have hk2' := hide hk2
  have hoff' := hide hoff
  have al' := hide al
  have S' := hide S5
  clear hk2 hoff al S5
  have hK0 := hide (And.intro hr0 (And.intro hpos hww))
  clear hr0 hpos hww hcur
  have i1 : rr ≤ ww := by omega
  have i2 : ¬ 4096 = rr := by omega
  have i3 : (ww : Int) ≤ 4096 := by omega
  have S1 := hide ((unhide S').drew)
  have hQ2 : wv.drew.heap[Q]? = some (.cells dst.toArray tq (0, 0)) := hQv
  have hsrc : ∀ j v, (cut X off kk)[j]? = some v → wv.drew.cell? ((⟨U, rr, none⟩ : Addr).add j) = some v := fun j v h => by
    obtain ⟨hj, rfl⟩ := cut_none X off kk j v h
    rw [show (⟨U, rr, none⟩ : Addr).add j = ⟨U, rr + j, none⟩ by unfold Addr.add; split <;> simp_all]
    rw [(unhide S1).at' (q := rr + j) (by omega) (by omega)]
    have := unhide hoff'
    rw [show pos - (ww - (rr + j)) = off + j by omega]
  have b1 := hide (unhide S1).bu
  have b2 := hide (fun cs => (unhide b1).of_heap (w' := wv.drew.setRow Q cs) (setRow_other _ Q R cs hQR.symm))
  go_region_held3 (fun w5 => w5.cell? ⟨R, 0, none⟩ = some (.slice (some ⟨U, 0, none⟩) 4096 4096) ∧ w5.cell? ⟨R, 2, none⟩ = some (.int .i64 (rr : Int)) ∧ w5.cell? ⟨R, 3, none⟩ = some (.int .i64 (ww : Int))) (first | (exact ⟨(unhide b1).c0, (unhide b1).c2, (unhide b1).c3⟩) | (exact ⟨(unhide b2 _).c0, (unhide b2 _).c2, (unhide b2 _).c3⟩))
    (refine step_copy_row rfl (.tmp 109) (.tmp 122) 22 22 rfl 5 Tryd.underlying22 info5s ⟨U, rr, none⟩ 4 4 (ww - rr) (4096 - rr) Q 0 (by simp [Act.eval, Act.put]) (by simp [Act.eval, Act.put]) dst tq hQ2 (cut X off kk) (by rw [length_cut, unhide hk2']) hsrc (by rw [length_cut]; omega) (cut_one X off kk) ?_)
  simp only [length_cut]
  have c3 : Ch (fun x => (x = R ∨ x = Q) ∨ x = U ∨ x = B) w (wv.drew.setRow Q (splice dst 0 (cut X off kk)).toArray) := (show Ch _ w wv.drew from cv.drewN 1).setRow Q (Or.inl (Or.inr rfl)) _
  have S3 := hide ((unhide S1).ch (T := fun x => x = Q) (((Ch.refl (fun x => x = Q) wv.drew)).setRow Q rfl (splice dst 0 (cut X off kk)).toArray) hQB.symm hQR.symm hQU.symm hQD.symm)
  have hQ3 := setRow_heap wv.drew Q _ (splice dst 0 (cut X off kk)).toArray _ _ hQ2
  generalize (wv.drew.setRow Q (splice dst 0 (cut X off kk)).toArray) = w3 at c3 S3 hQ3 ⊢
  clear hQ2 hsrc b1 b2 S1
  have r2 := (unhide S3).bu.c2
  have hf := (unhide S3).bu.pl.frozen
  go_wp2_with fail
  obtain ⟨m, hm⟩ : ∃ m : Nat, rr + kk = m + 1 := ⟨rr + kk - 1, by omega⟩
  have e1 : ((rr : Int) + (kk : Int)) = (m : Int) + 1 := by omega
  rw [e1]
  have S4 : St (w3.setCell ⟨R, 2, none⟩ (.int .i64 ((m : Int) + 1))) (some ⟨D, 0, none⟩) D B R U n c X t pos (rr + kk) ww cur .nilIface := by
    have S := unhide S3
    have ho := unhide hoff'
    have h2 := S.bu.set2 (rr + kk)
    rw [show (((rr + kk : Nat) : Int)) = (m : Int) + 1 by omega] at h2
    refine S.own h2 (heap_set _ _ _ _ S.e3) (heap_set _ _ _ _ S.e2.symm) (heap_set _ _ _ _ S.e5) (by omega) S.o2 (by omega) (fun q h1 h2 => S.buf q (by omega) h2) ?_
    have := unhide al'
    have := unhide hk2'
    omega
  have c4 := c3.setCell ⟨R, 2, none⟩ (Or.inl (Or.inl rfl)) (.int .i64 ((m : Int) + 1))
  have hQ4 : (w3.setCell ⟨R, 2, none⟩ (.int .i64 ((m : Int) + 1))).heap[Q]? = _ := (heap_set w3 ⟨R, 2, none⟩ _ Q hQR).trans hQ3
  have u4 : (w3.setCell ⟨R, 2, none⟩ (.int .i64 ((m : Int) + 1))).cell? ⟨U, m, none⟩ = some (bv (X (pos - (ww - m)))) := by
    rw [World.cell?_of_block (a := ⟨U, m, none⟩) (heap_set w3 ⟨R, 2, none⟩ _ U (unhide S3).e2.symm)]
    exact (unhide S3).at' (by omega) (by omega)
  generalize hx : X (pos - (ww - m)) = x at u4
  generalize (w3.setCell ⟨R, 2, none⟩ (.int .i64 ((m : Int) + 1))) = w4 at S4 c4 hQ4 u4 ⊢
  have S4' := hide S4
  clear hx c3 S3 hQ3 r2 hf S4
  have r0 := (unhide S4').bu.c0
  have r2 := (unhide S4').bu.c2
  rw [show (((rr + kk : Nat) : Int)) = (m : Int) + 1 by omega] at r2
  obtain ⟨v5, r5⟩ := (unhide S4').bu.c5
  have hf := (unhide S4').bu.pl.frozen
  have hfd : w4.drew.frozen? ⟨R, 5, none⟩ = false := hf 5
  have j1 : (m : Int) < 4096 := by omega
  have j2 : m < 4096 := by omega
  have j3 : (0 : Int) ≤ (m : Int) := by omega
  go_region
  generalize wrap64 (x : Int) = y
  have b6 := hide (((unhide S4').bu.set5 (.int .i64 y)).of_heap (w' := (w4.setCell ⟨R, 5, none⟩ (.int .i64 y)).drew) rfl)
  obtain ⟨v6, r6⟩ := (unhide b6).c6
  have hf6 := (unhide b6).pl.frozen 6
  clear r2 r5 hf hfd u4
  go_wp2_with fail
  go_ret2
  have S := unhide S4'
  have hh : ∀ (b : Nat), b ≠ R → ((w4.setCell ⟨R, 5, none⟩ (.int .i64 y)).setCell ⟨R, 6, none⟩ (.int .i64 (-1))).heap[b]? = w4.heap[b]? := fun b hb =>
    (heap_set (w4.setCell ⟨R, 5, none⟩ (.int .i64 y)) ⟨R, 6, none⟩ _ b hb).trans (heap_set w4 ⟨R, 5, none⟩ _ b hb)
  have b7 := (((unhide S4').bu.set5 (.int .i64 y)).set6 (.int .i64 (-1)))
  refine ⟨rfl, ?_, ?_, ?_⟩
  · refine ⟨pos, rr + kk, ww, cur, by have := unhide hoff'; omega, ?_⟩
    exact S.own (b7.of_heap rfl) (hh B S.e3) (hh U S.e2.symm) (hh D S.e5) S.o1 S.o2 S.o4 S.buf S.al
  · exact (hh Q hQR).trans hQ4
  · exact ((c4.setCell ⟨R, 5, none⟩ (Or.inl (Or.inl rfl)) _).setCell ⟨R, 6, none⟩ (Or.inl (Or.inl rfl)) _).drewN 1
end Go.Proofs.Qxb6618799aDoor
