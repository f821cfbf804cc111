import Derived.Test.Qxb6618799aDoorBuf
namespace Go.Proofs.Qxb6618799aDoor
open Go.RowKit
set_option linter.unusedVariables false
set_option linter.unusedSimpArgs false

/-- A byte of the buffer. -/
theorem St.at' {w : World} {d : Option Addr} {D B R U n c : Nat} {X : Nat → Nat} {t : TypeId} {pos rr ww : Nat} {cur : List Value} {ev : Value} (S : St w d D B R U n c X t pos rr ww cur ev) {q : Nat} (h1 : rr ≤ q) (h2 : q < ww) :
    w.cell? ⟨U, q, none⟩ = some (bv (X (pos - (ww - q)))) := by
  have h := S.row
  have e : w.cell? ⟨U, q, none⟩ = cur[q]? := by
    unfold World.cell?
    simp only
    rw [h]
    simp
  rw [e]; exact S.buf q h1 h2

set_option maxRecDepth 100000 in
set_option maxHeartbeats 4000000 in
/-- Read into the four, where something is left in the buffer. -/
theorem buf_some1 (w : World) (d : Option Addr) (D B R U n c Q : Nat) (X : Nat → Nat) (t tq : TypeId) (pos rr ww off kk : Nat) (cur dst : List Value) (S : St w d D B R U n c X t pos rr ww cur .nilIface)
    (hlt : rr < ww) (hoff : off = pos - (ww - rr)) (hk : kk = min (n - off) 4) (hQ : w.heap[Q]? = some (.cells dst.toArray tq (0, 0))) (hdl : dst.length = 4) (hQU : Q ≠ U) (hQR : Q ≠ R) (hQB : Q ≠ B) (hQD : Q ≠ D) :
    Calls Tryd.prog 44 #[.pointer (some ⟨R, 0, none⟩), .slice (some ⟨Q, 0, none⟩) 4 4] w fun e w' => e = .returned (.tuple #[.int .i64 (kk : Int), .nilIface]) ∧ St w' d D B R U n c X t pos (rr + kk) ww cur .nilIface ∧
      w'.heap[Q]? = some (.cells (splice dst 0 (cut X off kk)).toArray tq (0, 0)) ∧ Ch (fun x => x = R ∨ x = Q) w w' := by
  have o2 := S.o2
  have o4 := S.o4
  have o3 := S.o3
  have al := S.al
  have hkk : kk = min (ww - rr) 4 ∧ 0 < kk ∧ kk ≤ 4 ∧ rr + kk ≤ ww := by omega
  obtain ⟨hk2, k0, k4, k5⟩ := hkk
  have hk2' := hide hk2
  have hk' := hide hk
  have hoff' := hide hoff
  have al' := hide al
  clear hk2 hk hoff al
  have r0 := S.bu.c0
  have r2 := S.bu.c2
  have r3 := S.bu.c3
  have S' := hide S
  have hne : ((rr : Int) == (ww : Int)) = false := by rw [beq_eq_false_iff_ne]; omega
  clear S
  go_enter Tryd.func44, Tryd.ntmps44
  go_wp2_with fail
  go_quiet (fail)
  go_wp2_with fail
  have i1 : rr ≤ ww := by omega
  have i2 : ¬ 4096 = rr := by omega
  have i3 : (ww : Int) ≤ 4096 := by omega
  have S1 := hide ((unhide S').ch (w' := (w.drewN nq).drew) (T := fun _ => False) ((Ch.refl _ w).drewN (nq + 1)) (fun x => x) (fun x => x) (fun x => x) (fun x => x))
  have hQ2 : (w.drewN nq).drew.heap[Q]? = some (.cells dst.toArray tq (0, 0)) := hQ
  have hsrc : ∀ j v, (cut X off kk)[j]? = some v → (w.drewN nq).drew.cell? ((⟨U, rr, none⟩ : Addr).add j) = some v := fun j v h => by
    obtain ⟨hj, rfl⟩ := cut_none X off kk j v h
    rw [show (⟨U, rr, none⟩ : Addr).add j = ⟨U, rr + j, none⟩ by unfold Addr.add; split <;> simp_all]
    rw [(unhide S1).at' (q := rr + j) (by omega) (by omega)]
    have := unhide hoff'
    rw [show pos - (ww - (rr + j)) = off + j by omega]
  have b1 := hide (unhide S1).bu
  have b2 := hide (fun cs => (unhide b1).of_heap (w' := (w.drewN nq).drew.setRow Q cs) (setRow_other _ Q R cs hQR.symm))
  go_region_held3 (fun w5 => w5.cell? ⟨R, 0, none⟩ = some (.slice (some ⟨U, 0, none⟩) 4096 4096) ∧ w5.cell? ⟨R, 2, none⟩ = some (.int .i64 (rr : Int)) ∧ w5.cell? ⟨R, 3, none⟩ = some (.int .i64 (ww : Int))) (first | (exact ⟨(unhide b1).c0, (unhide b1).c2, (unhide b1).c3⟩) | (exact ⟨(unhide b2 _).c0, (unhide b2 _).c2, (unhide b2 _).c3⟩))
    (refine step_copy_row rfl (.tmp 109) (.tmp 122) 22 22 rfl 5 Tryd.underlying22 info5s ⟨U, rr, none⟩ 4 4 (ww - rr) (4096 - rr) Q 0 (by simp [Act.eval, Act.put]) (by simp [Act.eval, Act.put]) dst tq hQ2 (cut X off kk) (by rw [length_cut, unhide hk2']) hsrc (by rw [length_cut]; omega) (cut_one X off kk) ?_)
  simp only [length_cut]
  have c3 : Ch (fun x => x = R ∨ x = Q) w ((w.drewN nq).drew.setRow Q (splice dst 0 (cut X off kk)).toArray) := ((show Ch (fun x => x = R ∨ x = Q) w (w.drewN nq).drew from (Ch.refl (fun x => x = R ∨ x = Q) w).drewN (nq + 1))).setRow Q (Or.inr rfl) _
  have S3 := hide ((unhide S1).ch (T := fun x => x = Q) (((Ch.refl (fun x => x = Q) (w.drewN nq).drew)).setRow Q rfl (splice dst 0 (cut X off kk)).toArray) hQB.symm hQR.symm hQU.symm hQD.symm)
  have hQ3 := setRow_heap (w.drewN nq).drew Q _ (splice dst 0 (cut X off kk)).toArray _ _ hQ2
  generalize ((w.drewN nq).drew.setRow Q (splice dst 0 (cut X off kk)).toArray) = w3 at c3 S3 hQ3 ⊢
  clear hQ2 hsrc b1 b2 S1 r0 r2 r3
  have r2 := (unhide S3).bu.c2
  have hf := (unhide S3).bu.pl.frozen
  go_wp2_with fail
  obtain ⟨m, hm⟩ : ∃ m : Nat, rr + kk = m + 1 := ⟨rr + kk - 1, by omega⟩
  have e1 : ((rr : Int) + (kk : Int)) = (m : Int) + 1 := by omega
  rw [e1]
  have S4 : St (w3.setCell ⟨R, 2, none⟩ (.int .i64 ((m : Int) + 1))) d D B R U n c X t pos (rr + kk) ww cur .nilIface := by
    have S := unhide S3
    have ho := unhide hoff'
    have h2 := S.bu.set2 (rr + kk)
    rw [show (((rr + kk : Nat) : Int)) = (m : Int) + 1 by omega] at h2
    refine S.own h2 (heap_set _ _ _ _ S.e3) (heap_set _ _ _ _ S.e2.symm) (heap_set _ _ _ _ S.e5) (by omega) S.o2 (by omega) (fun q h1 h2 => S.buf q (by omega) h2) ?_
    have := unhide al'
    have := unhide hk2'
    omega
  have c4 := c3.setCell ⟨R, 2, none⟩ (Or.inl rfl) (.int .i64 ((m : Int) + 1))
  have hQ4 : (w3.setCell ⟨R, 2, none⟩ (.int .i64 ((m : Int) + 1))).heap[Q]? = _ := (heap_set w3 ⟨R, 2, none⟩ _ Q hQR).trans hQ3
  have u4 : (w3.setCell ⟨R, 2, none⟩ (.int .i64 ((m : Int) + 1))).cell? ⟨U, m, none⟩ = some (bv (X (pos - (ww - m)))) := by
    rw [World.cell?_of_block (a := ⟨U, m, none⟩) (heap_set w3 ⟨R, 2, none⟩ _ U (unhide S3).e2.symm)]
    exact (unhide S3).at' (by omega) (by omega)
  generalize hx : X (pos - (ww - m)) = x at u4
  generalize (w3.setCell ⟨R, 2, none⟩ (.int .i64 ((m : Int) + 1))) = w4 at S4 c4 hQ4 u4 ⊢
  have S4' := hide S4
  clear hx c3 S3 hQ3 r2 hf S4
  have r0 := (unhide S4').bu.c0
  have r2 := (unhide S4').bu.c2
  rw [show (((rr + kk : Nat) : Int)) = (m : Int) + 1 by omega] at r2
  obtain ⟨v5, r5⟩ := (unhide S4').bu.c5
  have hf := (unhide S4').bu.pl.frozen
  have hfd : w4.drew.frozen? ⟨R, 5, none⟩ = false := hf 5
  have j1 : (m : Int) < 4096 := by omega
  have j2 : m < 4096 := by omega
  have j3 : (0 : Int) ≤ (m : Int) := by omega
  go_region
  generalize wrap64 (x : Int) = y
  have b6 := hide (((unhide S4').bu.set5 (.int .i64 y)).of_heap (w' := (w4.setCell ⟨R, 5, none⟩ (.int .i64 y)).drew) rfl)
  obtain ⟨v6, r6⟩ := (unhide b6).c6
  have hf6 := (unhide b6).pl.frozen 6
  clear r2 r5 hf hfd u4
  go_wp2_with fail
  go_ret2
  have S := unhide S4'
  have hh : ∀ (b : Nat), b ≠ R → ((w4.setCell ⟨R, 5, none⟩ (.int .i64 y)).setCell ⟨R, 6, none⟩ (.int .i64 (-1))).heap[b]? = w4.heap[b]? := fun b hb =>
    (heap_set (w4.setCell ⟨R, 5, none⟩ (.int .i64 y)) ⟨R, 6, none⟩ _ b hb).trans (heap_set w4 ⟨R, 5, none⟩ _ b hb)
  have b7 := (((unhide S4').bu.set5 (.int .i64 y)).set6 (.int .i64 (-1)))
  refine ⟨rfl, ?_, ?_, ?_⟩
  · exact S.own (b7.of_heap rfl) (hh B S.e3) (hh U S.e2.symm) (hh D S.e5) S.o1 S.o2 S.o4 S.buf S.al
  · exact (hh Q hQR).trans hQ4
  · exact ((c4.setCell ⟨R, 5, none⟩ (Or.inl rfl) _).setCell ⟨R, 6, none⟩ (Or.inl rfl) _).drewN 1
end Go.Proofs.Qxb6618799aDoor
