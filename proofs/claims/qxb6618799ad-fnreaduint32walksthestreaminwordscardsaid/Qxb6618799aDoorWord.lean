import Derived.Test.Qxb6618799aDoorFull
namespace Go.Proofs.Qxb6618799aDoor
open Go.RowKit
set_option linter.unusedVariables false
set_option linter.unusedSimpArgs false

set_option maxHeartbeats 1000000 in
theorem full_nil (w : World) (R Q : Nat) (k : Int) (T : World → Prop) (h : Calls Tryd.prog 25 #[.iface 36 (.pointer (some ⟨R, 0, none⟩)), .slice (some ⟨Q, 0, none⟩) 4 4, .int .i64 4] w fun e w' => e = .returned (.tuple #[.int .i64 k, .nilIface]) ∧ T w') :
    Calls Tryd.prog 21 #[.iface 36 (.pointer (some ⟨R, 0, none⟩)), .slice (some ⟨Q, 0, none⟩) 4 4] w fun e w' => e = .returned (.tuple #[.int .i64 k, .nilIface]) ∧ T w' := by
  have H := hide h
  clear h
  go_enter Tryd.func21, Tryd.ntmps21
  go_wp2_with fail
  refine (unhide H).mono ?_
  rintro e w2 ⟨rfl, ht⟩
  have ht' := hide ht
  clear ht H
  go_wp2_with fail
  go_ret2
  exact ⟨rfl, unhide ht'⟩
set_option maxHeartbeats 1000000 in
theorem full_err (w : World) (R Q : Nat) (k : Int) (a : Addr) (T : World → Prop) (h : Calls Tryd.prog 25 #[.iface 36 (.pointer (some ⟨R, 0, none⟩)), .slice (some ⟨Q, 0, none⟩) 4 4, .int .i64 4] w fun e w' => e = .returned (.tuple #[.int .i64 k, .iface 88 (.pointer (some a))]) ∧ T w') :
    Calls Tryd.prog 21 #[.iface 36 (.pointer (some ⟨R, 0, none⟩)), .slice (some ⟨Q, 0, none⟩) 4 4] w fun e w' => e = .returned (.tuple #[.int .i64 k, .iface 88 (.pointer (some a))]) ∧ T w' := by
  have H := hide h
  clear h
  go_enter Tryd.func21, Tryd.ntmps21
  go_wp2_with fail
  refine (unhide H).mono ?_
  rintro e w2 ⟨rfl, ht⟩
  have ht' := hide ht
  clear ht H
  go_wp2_with fail
  go_ret2
  exact ⟨rfl, unhide ht'⟩

/-- The program's own Reader. -/
structure FR (w : World) (F R : Nat) (off : Nat) : Prop where
  pl : Plain w F
  c0 : w.cell? ⟨F, 0, none⟩ = some (.pointer (some ⟨R, 0, none⟩))
  c3 : w.cell? ⟨F, 3, none⟩ = some (.int .i64 (off : Int))
theorem FR.of_heap {w w' : World} {F R off : Nat} (h : FR w F R off) (e : w'.heap[F]? = w.heap[F]?) : FR w' F R off := ⟨h.pl.of_heap e, (cell_of_heap e 0).trans h.c0, (cell_of_heap e 3).trans h.c3⟩
theorem FR.set {w : World} {F R off : Nat} (h : FR w F R off) (x : Nat) : FR (w.setCell ⟨F, 3, none⟩ (.int .i64 (x : Int))) F R x := ⟨h.pl.set _ _, set_off h.c0 (by decide), World.cell?_setCell_same _ _ _ h.c3⟩

/-- All that readUint32 stands on. -/
structure Rdr (w : World) (B0 : Nat) (ea ua : Addr) (d : Option Addr) (D B R U F n c : Nat) (X : Nat → Nat) (t : TypeId) (off : Nat) : Prop where
  pos : Pos w d D B R U n c X t off
  fr : FR w F R off
  sn : Sn w B0 ea ua
  hr : B0 ≤ R
  hu : B0 ≤ U
  hb : B0 ≤ B
  hf : B0 ≤ F
  fR : F ≠ R
  fU : F ≠ U
  fB : F ≠ B
  fD : F ≠ D
  bd : ∀ j, j < n → X j < 256
  sm : n ≤ 1048576
theorem Pos.dlt {w : World} {d : Option Addr} {D B R U n c : Nat} {X : Nat → Nat} {t : TypeId} {off : Nat} (h : Pos w d D B R U n c X t off) (hn : 0 < n) : D < w.heap.size := by
  obtain ⟨pos, rr, ww, cur, h1, S⟩ := h.ex
  exact lt_of_cell (S.bs 0 hn)
theorem Pos.dne {w : World} {d : Option Addr} {D B R U n c : Nat} {X : Nat → Nat} {t : TypeId} {off : Nat} (h : Pos w d D B R U n c X t off) : D ≠ B ∧ D ≠ R ∧ D ≠ U := by
  obtain ⟨pos, rr, ww, cur, h1, S⟩ := h.ex
  exact ⟨S.e4, S.e5, S.e6⟩

def z4 : List Value := [bv 0, bv 0, bv 0, bv 0]
def gw (X : Nat → Nat) (n off j : Nat) : Nat := if off + j < n then X (off + j) else 0
theorem gw_lt {X : Nat → Nat} {n : Nat} (h : ∀ j, j < n → X j < 256) (off j : Nat) : gw X n off j < 256 := by
  unfold gw; split
  · exact h _ ‹_›
  · omega
theorem gw_horner (X : Nat → Nat) (n off : Nat) : (((gw X n off 0 * 256 + gw X n off 1) * 256 + gw X n off 2) * 256 + gw X n off 3) = horner X n off 4 := by
  simp [horner, gw]
theorem row_cells {w : World} {Q : Nat} {t : TypeId} {X : Nat → Nat} {off kk n : Nat} (h : w.heap[Q]? = some (.cells (splice z4 0 (cut X off kk)).toArray t (0, 0))) (hk : kk = min (n - off) 4) : ∀ j, j < 4 → w.cell? ⟨Q, j, none⟩ = some (bv (gw X n off j)) := by
  intro j hj
  have e : w.cell? ⟨Q, j, none⟩ = (splice z4 0 (cut X off kk))[j]? := by
    unfold World.cell?
    simp only
    rw [h]
    simp
  rw [e, splice_at z4 0 (cut X off kk) (by rw [length_cut]; show 0 + kk ≤ 4; omega), if_neg (by omega), length_cut]
  unfold gw
  by_cases hlt : j < kk
  · rw [if_pos (by omega), if_pos (by omega), Nat.sub_zero, cut_at X off kk j hlt]
  · rw [if_neg (by omega), if_neg (by omega)]
    match j, hj with
    | 0, _ => rfl
    | 1, _ => rfl
    | 2, _ => rfl
    | 3, _ => rfl

/-- The state with the four bytes laid down. -/
structure Fr4 (w w1 : World) (B0 Q : Nat) (ea ua : Addr) (d : Option Addr) (D B R U F n c : Nat) (X : Nat → Nat) (t : TypeId) (off : Nat) : Prop where
  pos : Pos w1 d D B R U n c X t off
  fr : FR w1 F R off
  sn : Sn w1 B0 ea ua
  row : w1.heap[Q]? = some (.cells z4.toArray 56 (0, 0))
  hi : Hi B0 R Q U B
  qU : Q ≠ U
  qR : Q ≠ R
  qB : Q ≠ B
  qF : F ≠ Q
  qD : 0 < n → Q ≠ D
  ch : Ch (fun x => B0 ≤ x) w w1
theorem Rdr.four {w : World} {B0 : Nat} {ea ua : Addr} {d : Option Addr} {D B R U F n c : Nat} {X : Nat → Nat} {t : TypeId} {off : Nat} (h : Rdr w B0 ea ua d D B R U F n c X t off) :
    Fr4 w (w.alloc (.cells #[.int .u8 0, .int .u8 0, .int .u8 0, .int .u8 0] 56)) B0 w.heap.size ea ua d D B R U F n c X t off := by
  have hc : Ch (fun _ => False) w (w.alloc (.cells #[.int .u8 0, .int .u8 0, .int .u8 0, .int .u8 0] 56)) := (Ch.refl _ w).alloc _
  obtain ⟨lR, lB, lU, _⟩ := h.pos.apart
  have lF := h.fr.pl.lt
  exact { pos := h.pos.ch hc (fun x => x) (fun x => x) (fun x => x) (fun x => x), fr := h.fr.of_heap (hc.same F lF (fun x => x)), sn := h.sn.ch hc (fun _ x => x.elim), row := (MapKept.heap_alloc w _).1, hi := ⟨h.hr, h.sn.hz, h.hu, h.hb⟩, qU := by omega, qR := by omega, qB := by omega, qF := by omega, qD := fun hn => by have := h.pos.dlt hn; omega, ch := hc.mono fun _ _ x => x.elim }
theorem Fr4.drew {w w1 : World} {B0 Q : Nat} {ea ua : Addr} {d : Option Addr} {D B R U F n c : Nat} {X : Nat → Nat} {t : TypeId} {off : Nat} (h : Fr4 w w1 B0 Q ea ua d D B R U F n c X t off) : Fr4 w w1.drew B0 Q ea ua d D B R U F n c X t off :=
  { pos := h.pos.drew, fr := h.fr.of_heap rfl, sn := h.sn.drew, row := h.row, hi := h.hi, qU := h.qU, qR := h.qR, qB := h.qB, qF := h.qF, qD := h.qD, ch := h.ch.drewN 1 }

/-- Behind the reading and the counting. -/
theorem Fr4.after {w w1 w3 : World} {B0 Q : Nat} {ea ua : Addr} {d : Option Addr} {D B R U F n c : Nat} {X : Nat → Nat} {t : TypeId} {off off' kk : Nat} (h : Fr4 w w1 B0 Q ea ua d D B R U F n c X t off) (H : Rdr w B0 ea ua d D B R U F n c X t off)
    (hk : kk = min (n - off) 4) (hp : Pos w3 d D B R U n c X t off') (hq : w3.heap[Q]? = some (.cells (splice z4 0 (cut X off kk)).toArray 56 (0, 0))) (hc : Ch (Mv R Q U B) w1 w3) :
    FR w3 F R off ∧ Rdr (w3.setCell ⟨F, 3, none⟩ (.int .i64 (off' : Int))) B0 ea ua d D B R U F n c X t off' ∧ Ch (fun x => B0 ≤ x) w (w3.setCell ⟨F, 3, none⟩ (.int .i64 (off' : Int))) ∧ Q < w3.heap.size ∧
      ∀ j, j < 4 → (w3.setCell ⟨F, 3, none⟩ (.int .i64 (off' : Int))).cell? ⟨Q, j, none⟩ = some (bv (gw X n off j)) := by
  have hF : FR w3 F R off := h.fr.of_heap (hc.same F h.fr.pl.lt (by
    rintro ((x | x) | x | x)
    · exact H.fR x
    · exact h.qF x
    · exact H.fU x
    · exact H.fB x))
  have hc2 : Ch (fun x => x = F) w3 (w3.setCell ⟨F, 3, none⟩ (.int .i64 (off' : Int))) := (Ch.refl (fun x => x = F) w3).setCell ⟨F, 3, none⟩ rfl _
  have hn3 := h.sn.ch hc h.hi.mv
  refine ⟨hF, ?_, ?_, (Array.getElem?_eq_some_iff.1 hq).1, fun j hj => ?_⟩
  · exact { pos := hp.ch hc2 (fun e => H.fB e.symm) (fun e => H.fR e.symm) (fun e => H.fU e.symm) (fun e => H.fD e.symm), fr := hF.set off', sn := hn3.ch hc2 (fun x e => by subst e; exact H.hf), hr := H.hr, hu := H.hu, hb := H.hb, hf := H.hf, fR := H.fR, fU := H.fU, fB := H.fB, fD := H.fD, bd := H.bd, sm := H.sm }
  · exact (h.ch.trans (hc.mono fun x _ e => h.hi.mv x e)).trans (hc2.mono fun x _ e => by subst e; exact H.hf)
  · rw [cell_of_heap (heap_set w3 ⟨F, 3, none⟩ _ Q (Ne.symm h.qF)) j]
    exact row_cells hq hk j hj
theorem Rdr.ch {w w' : World} {B0 : Nat} {ea ua : Addr} {d : Option Addr} {D B R U F n c : Nat} {X : Nat → Nat} {t : TypeId} {off : Nat} (h : Rdr w B0 ea ua d D B R U F n c X t off) (hc : Ch (fun _ => False) w w') : Rdr w' B0 ea ua d D B R U F n c X t off :=
  { pos := h.pos.ch hc (fun x => x) (fun x => x) (fun x => x) (fun x => x), fr := h.fr.of_heap (hc.same F h.fr.pl.lt (fun x => x)), sn := h.sn.ch hc (fun _ x => x.elim), hr := h.hr, hu := h.hu, hb := h.hb, hf := h.hf, fR := h.fR, fU := h.fU, fB := h.fB, fD := h.fD, bd := h.bd, sm := h.sm }

set_option maxRecDepth 100000 in
set_option maxHeartbeats 4000000 in
/-- readUint32: all four come. -/
theorem word_four (w : World) (B0 : Nat) (ea ua : Addr) (d : Option Addr) (D B R U F n c : Nat) (X : Nat → Nat) (t : TypeId) (off : Nat) (h : Rdr w B0 ea ua d D B R U F n c X t off) (hlt : off + 4 ≤ n) :
    Calls Tryd.prog 17 #[.pointer (some ⟨F, 0, none⟩)] w fun e w' => e = .returned (.tuple #[.int .u32 (horner X n off 4 : Nat), .nilIface]) ∧ Rdr w' B0 ea ua d D B R U F n c X t (off + 4) ∧ Ch (fun x => B0 ≤ x) w w' := by
  have H := hide h
  have hsm := h.sm
  have A := h.four
  clear h
  go_enter Tryd.func17, Tryd.ntmps17
  go_wp2_with fail
  generalize (w.alloc (.cells #[.int .u8 0, .int .u8 0, .int .u8 0, .int .u8 0] 56)) = w1 at A ⊢
  generalize w.heap.size = Q at A ⊢
  have A' := hide A.drew
  have c0 := A.fr.c0
  have G := hide (full_nil w1.drew R Q 4 _ (atLeast_four w1.drew d D B R U n c Q X t 56 off z4 A.drew.pos hlt A.drew.row rfl A.qU A.qR A.qB (A.qD (by omega))))
  clear A
  go_region_held3 (fun w5 => w5.cell? ⟨F, 0, none⟩ = some (.pointer (some ⟨R, 0, none⟩))) (first | (exact c0) | (exact hF0)) (first | (go_at_call 21; refine (unhide G).mono ?_; rintro e w3 ⟨rfl, hp, hq, hc⟩; obtain ⟨hF, hR, hC, hl, hcs⟩ := (unhide A').after (unhide H) (by omega) hp hq hc; have hF0 := hF.c0))
  have f3 := hF.c3
  have fz := hF.pl.frozen 3
  have e4 : ((off + 4 : Nat) : Int) = (off : Int) + 4 := by omega
  rw [e4] at hR hC hcs
  have hR' := hide hR
  have hC' := hide hC
  have hcs' := hide hcs
  clear hp hq hc hF hR hC hcs G c0 hF0 e4
  go_wp2_with fail
  generalize hw4 : (w3.setCell ⟨F, 3, none⟩ (.int .i64 ((off : Int) + 4))) = w4 at hR' hC' hcs' ⊢
  have hl4 : Q < w4.heap.size := by rw [← hw4]; simpa [World.setCell] using hl
  clear hw4 f3 fz hl A'
  have hcs := unhide hcs'
  have u4 := uint32_any w4.drew Q 4 (gw X n off) (hcs 0 (by omega)) (hcs 1 (by omega)) (hcs 2 (by omega)) (hcs 3 (by omega)) (fun j _ => gw_lt (unhide H).bd off j) hl4
  rw [gw_horner] at u4
  obtain ⟨V, hV⟩ : ∃ V, V = horner X n off 4 := ⟨_, rfl⟩
  rw [← hV] at u4
  have hV' := hide hV
  have U4 := hide u4
  clear hcs u4 hV
  go_region_held3 (fun w5 => True) (trivial) (first | (go_at_call 22; refine (unhide U4).mono ?_; rintro e w5 ⟨rfl, hc5⟩))
  have hR5 := hide ((unhide hR').ch (((Ch.refl (fun _ => False) w4).drewN 1).trans hc5))
  have hC5 := hide ((unhide hC').trans ((((Ch.refl (fun _ => False) w4).drewN 1).trans hc5).mono fun _ _ x => x.elim))
  have g1 := (unhide hR5).sn.s.g1
  have g2 := (unhide hR5).sn.s.g2
  have nl := run_eql_iface_nil_left (P := Tryd.prog) w5 88 (.pointer (some ea)) Tryd.underlying43
  clear hc5 U4
  go_wp2_with fail
  refine (is_nil ua w5).mono ?_
  rintro e w6 ⟨rfl, rfl⟩
  go_wp2_with fail
  go_ret2
  exact ⟨by rw [← unhide hV']; rfl, unhide hR5, unhide hC5⟩

set_option maxRecDepth 100000 in
set_option maxHeartbeats 4000000 in
/-- readUint32 at the end. -/
theorem word_end (w : World) (B0 : Nat) (ea ua : Addr) (d : Option Addr) (D B R U F n c : Nat) (X : Nat → Nat) (t : TypeId) (h : Rdr w B0 ea ua d D B R U F n c X t n) :
    Calls Tryd.prog 17 #[.pointer (some ⟨F, 0, none⟩)] w fun e w' => e = .returned (.tuple #[.int .u32 0, .iface 88 (.pointer (some ea))]) ∧ Rdr w' B0 ea ua d D B R U F n c X t n ∧ Ch (fun x => B0 ≤ x) w w' := by
  have H := hide h
  have hsm := h.sm
  have A := h.four
  clear h
  go_enter Tryd.func17, Tryd.ntmps17
  go_wp2_with fail
  generalize (w.alloc (.cells #[.int .u8 0, .int .u8 0, .int .u8 0, .int .u8 0] 56)) = w1 at A ⊢
  generalize w.heap.size = Q at A ⊢
  have A' := hide A.drew
  have c0 := A.fr.c0
  have G := hide (full_err w1.drew R Q 0 ea _ (atLeast_end w1.drew d D B R U n c Q B0 X t ea ua A.drew.pos A.drew.sn A.hi))
  have rw0 := hide A.drew.row
  have qR := A.qR
  clear A
  go_region_held3 (fun w5 => w5.cell? ⟨F, 0, none⟩ = some (.pointer (some ⟨R, 0, none⟩))) (first | (exact c0) | (exact hF0)) (first | (go_at_call 21; refine (unhide G).mono ?_; rintro e w3 ⟨rfl, hp, hc⟩; have hq := (hc.same Q (Array.getElem?_eq_some_iff.1 (unhide rw0)).1 qR).trans (unhide rw0); obtain ⟨hF, hR, hC, hl, hcs⟩ := (unhide A').after (kk := 0) (unhide H) (by omega) hp hq (hc.mono fun x _ e => Or.inl (Or.inl e)); have hF0 := hF.c0))
  have f3 := hF.c3
  have fz := hF.pl.frozen 3
  have hR' := hide hR
  have hC' := hide hC
  have hcs' := hide hcs
  clear hp hq hc hF hR hC hcs G c0 hF0
  go_wp2_with fail
  generalize hw4 : (w3.setCell ⟨F, 3, none⟩ (.int .i64 (n : Int))) = w4 at hR' hC' hcs' ⊢
  have hl4 : Q < w4.heap.size := by rw [← hw4]; simpa [World.setCell] using hl
  clear hw4 f3 fz hl A'
  have hcs := unhide hcs'
  have u4 := uint32_any w4.drew Q 4 (gw X n n) (hcs 0 (by omega)) (hcs 1 (by omega)) (hcs 2 (by omega)) (hcs 3 (by omega)) (fun j _ => gw_lt (unhide H).bd n j) hl4
  rw [gw_horner] at u4
  obtain ⟨V, hV⟩ : ∃ V, V = horner X n n 4 := ⟨_, rfl⟩
  rw [← hV] at u4
  have hV' := hide hV
  have U4 := hide u4
  clear hcs u4 hV
  go_region_held3 (fun w5 => True) (trivial) (first | (go_at_call 22; refine (unhide U4).mono ?_; rintro e w5 ⟨rfl, hc5⟩))
  have hR5 := hide ((unhide hR').ch (((Ch.refl (fun _ => False) w4).drewN 1).trans hc5))
  have hC5 := hide ((unhide hC').trans ((((Ch.refl (fun _ => False) w4).drewN 1).trans hc5).mono fun _ _ x => x.elim))
  have g1 := (unhide hR5).sn.s.g1
  have g2 := (unhide hR5).sn.s.g2
  have eS := eql_same ea w5
  clear hc5 U4
  go_wp2_with fail
  go_quiet (fail)
  go_wp2_with fail
  go_ret2
  exact ⟨rfl, (unhide hR5).ch ((Ch.refl _ w5).drewN _), (unhide hC5).drewN _⟩

set_option maxRecDepth 100000 in
set_option maxHeartbeats 4000000 in
/-- readUint32: cut short. -/
theorem word_short (w : World) (B0 : Nat) (ea ua : Addr) (d : Option Addr) (D B R U F n c : Nat) (X : Nat → Nat) (t : TypeId) (off kk : Nat) (h : Rdr w B0 ea ua d D B R U F n c X t off) (hk : off + kk = n) (k0 : 0 < kk) (k4 : kk < 4) :
    Calls Tryd.prog 17 #[.pointer (some ⟨F, 0, none⟩)] w fun e w' => (∃ s, e = .returned (.tuple #[.int .u32 (horner X n off 4 : Nat), .iface 64 (.agg #[.int .i64 off, .string s])])) ∧ Rdr w' B0 ea ua d D B R U F n c X t n ∧ Ch (fun x => B0 ≤ x) w w' := by
  have H := hide h
  have hsm := h.sm
  have A := h.four
  clear h
  go_enter Tryd.func17, Tryd.ntmps17
  go_wp2_with fail
  generalize (w.alloc (.cells #[.int .u8 0, .int .u8 0, .int .u8 0, .int .u8 0] 56)) = w1 at A ⊢
  generalize w.heap.size = Q at A ⊢
  have A' := hide A.drew
  have c0 := A.fr.c0
  have G := hide (full_err w1.drew R Q kk ua _ (atLeast_short w1.drew d D B R U n c Q B0 X t 56 off kk ea ua z4 A.drew.pos hk k0 k4 A.drew.row rfl A.qU A.qR A.qB (A.qD (by omega)) A.drew.sn A.hi))
  have hkk := hide (show kk = min (n - off) 4 by omega)
  have hk' := hide hk
  have bo : off + kk ≤ 1048576 := by omega
  have bo2 : off ≤ 1048576 := by omega
  clear hk
  clear A
  go_region_held3 (fun w5 => w5.cell? ⟨F, 0, none⟩ = some (.pointer (some ⟨R, 0, none⟩))) (first | (exact c0) | (exact hF0)) (first | (go_at_call 21; refine (unhide G).mono ?_; rintro e w3 ⟨rfl, hp, hq, hc⟩; obtain ⟨hF, hR, hC, hl, hcs⟩ := (unhide A').after (unhide H) (unhide hkk) hp hq hc; have hF0 := hF.c0))
  have f3 := hF.c3
  have fz := hF.pl.frozen 3
  have e4 : (n : Int) = (off : Int) + (kk : Int) := by have := unhide hk'; omega
  rw [e4] at hR hC hcs
  have hR' := hide hR
  have hC' := hide hC
  have hcs' := hide hcs
  clear hp hq hc hF hR hC hcs G c0 hF0 e4
  go_wp2_with fail
  generalize hw4 : (w3.setCell ⟨F, 3, none⟩ (.int .i64 ((off : Int) + (kk : Int)))) = w4 at hR' hC' hcs' ⊢
  have hl4 : Q < w4.heap.size := by rw [← hw4]; simpa [World.setCell] using hl
  clear hw4 f3 fz hl A'
  have hcs := unhide hcs'
  have u4 := uint32_any w4.drew Q 4 (gw X n off) (hcs 0 (by omega)) (hcs 1 (by omega)) (hcs 2 (by omega)) (hcs 3 (by omega)) (fun j _ => gw_lt (unhide H).bd off j) hl4
  rw [gw_horner] at u4
  obtain ⟨V, hV⟩ : ∃ V, V = horner X n off 4 := ⟨_, rfl⟩
  rw [← hV] at u4
  have hV' := hide hV
  have U4 := hide u4
  clear hcs u4 hV
  go_region_held3 (fun w5 => True) (trivial) (first | (go_at_call 22; refine (unhide U4).mono ?_; rintro e w5 ⟨rfl, hc5⟩))
  have hR5 := hide ((unhide hR').ch (((Ch.refl (fun _ => False) w4).drewN 1).trans hc5))
  have hC5 := hide ((unhide hC').trans ((((Ch.refl (fun _ => False) w4).drewN 1).trans hc5).mono fun _ _ x => x.elim))
  have g1 := (unhide hR5).sn.s.g1
  have g2 := (unhide hR5).sn.s.g2
  have eU := eql_ue (unhide hR5).sn.s
  have f3 := (unhide hR5).fr.c3
  have e4 : (n : Int) = (off : Int) + (kk : Int) := by have := unhide hk'; omega
  rw [e4] at f3
  clear hc5 U4 e4
  go_wp2_with fail
  refine (is_same ua w5).mono ?_
  rintro e w6 ⟨rfl, rfl⟩
  go_wp2_with fail
  go_quiet (fail)
  go_wp2_with fail
  go_ret2
  exact ⟨⟨_, by rw [← unhide hV']; rfl⟩, (unhide hR5).ch ((Ch.refl _ _).drewN _), (unhide hC5).drewN _⟩

end Go.Proofs.Qxb6618799aDoor
