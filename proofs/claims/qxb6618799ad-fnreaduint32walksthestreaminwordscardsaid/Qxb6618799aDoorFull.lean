import Derived.Test.Qxb6618799aDoorBufT
namespace Go.Proofs.Qxb6618799aDoor
open Go.RowKit
set_option linter.unusedVariables false
set_option linter.unusedSimpArgs false

/-- The readers stand at a place of the data. -/
structure Pos (w : World) (d : Option Addr) (D B R U n c : Nat) (X : Nat → Nat) (t : TypeId) (off : Nat) : Prop where
  ex : ∃ pos rr ww cur, pos - (ww - rr) = off ∧ St w d D B R U n c X t pos rr ww cur .nilIface
/-- The blocks that turn. -/
def Mv (R Q U B : Nat) : Nat → Prop := fun x => (x = R ∨ x = Q) ∨ x = U ∨ x = B

theorem Pos.apart {w : World} {d : Option Addr} {D B R U n c : Nat} {X : Nat → Nat} {t : TypeId} {off : Nat} (h : Pos w d D B R U n c X t off) : R < w.heap.size ∧ B < w.heap.size ∧ U < w.heap.size ∧ off ≤ n := by
  obtain ⟨pos, rr, ww, cur, h1, S⟩ := h.ex
  exact ⟨S.bu.pl.lt, S.br.pl.lt, (Array.getElem?_eq_some_iff.1 S.row).1, by have := S.o3; omega⟩
theorem Pos.ch {w w' : World} {d : Option Addr} {D B R U n c : Nat} {X : Nat → Nat} {t : TypeId} {off : Nat} (h : Pos w d D B R U n c X t off) {T : Nat → Prop} (hc : Ch T w w') (tB : ¬ T B) (tR : ¬ T R) (tU : ¬ T U) (tD : ¬ T D) : Pos w' d D B R U n c X t off := by
  obtain ⟨pos, rr, ww, cur, h1, S⟩ := h.ex
  exact ⟨pos, rr, ww, cur, h1, S.ch hc tB tR tU tD⟩

/-- Read into the four: something is left. -/
theorem read_some (w : World) (d : Option Addr) (D B R U n c Q : Nat) (X : Nat → Nat) (t tq : TypeId) (off kk : Nat) (dst : List Value) (h : Pos w d D B R U n c X t off) (hlt : off < n) (hk : kk = min (n - off) 4)
    (hQ : w.heap[Q]? = some (.cells dst.toArray tq (0, 0))) (hdl : dst.length = 4) (hQU : Q ≠ U) (hQR : Q ≠ R) (hQB : Q ≠ B) (hQD : Q ≠ D) :
    Calls Tryd.prog 44 #[.pointer (some ⟨R, 0, none⟩), .slice (some ⟨Q, 0, none⟩) 4 4] w fun e w' => e = .returned (.tuple #[.int .i64 (kk : Int), .nilIface]) ∧ Pos w' d D B R U n c X t (off + kk) ∧
      w'.heap[Q]? = some (.cells (splice dst 0 (cut X off kk)).toArray tq (0, 0)) ∧ Ch (Mv R Q U B) w w' := by
  obtain ⟨pos, rr, ww, cur, h1, S⟩ := h.ex
  by_cases hr : rr < ww
  · refine (buf_some1 w d D B R U n c Q X t tq pos rr ww off kk cur dst S hr h1.symm hk hQ hdl hQU hQR hQB hQD).mono ?_
    rintro e w' ⟨rfl, hS, hq, hc⟩
    exact ⟨rfl, ⟨pos, rr + kk, ww, cur, by have := S.o4; have := hS.o1; have := hS.o4; omega, hS⟩, hq, hc.mono fun x _ h => Or.inl h⟩
  · obtain rfl : rr = ww := by have := S.o1; omega
    obtain rfl : pos = off := by omega
    refine (buf_some2 w d D B R U n c Q X t tq pos rr pos kk cur dst S hlt rfl hk hQ hdl hQU hQR hQB hQD).mono ?_
    rintro e w' ⟨rfl, ⟨p', r', w2, c', e', hS⟩, hq, hc⟩
    exact ⟨rfl, ⟨p', r', w2, c', e', hS⟩, hq, hc⟩

theorem read_end (w : World) (d : Option Addr) (D B R U n c : Nat) (X : Nat → Nat) (t : TypeId) (h : Pos w d D B R U n c X t n) (ea : Addr) (hE : w.cell? ⟨1, 0, none⟩ = some (.iface 88 (.pointer (some ea)))) (hU1 : U ≠ 1) (hR1 : R ≠ 1)
    (a : Option Addr) (m c' : Nat) (hm : 0 < m) (hm2 : m < 4096) :
    Calls Tryd.prog 44 #[.pointer (some ⟨R, 0, none⟩), .slice a m c'] w fun e w' => e = .returned (.tuple #[.int .i64 0, .iface 88 (.pointer (some ea))]) ∧ Pos w' d D B R U n c X t n ∧ Ch (fun x => x = R) w w' := by
  obtain ⟨pos, rr, ww, cur, h1, S⟩ := h.ex
  refine (buf_end w d D B R U n c X t pos rr ww cur S h1 ea hE hU1 hR1 a m c' hm hm2).mono ?_
  rintro e w' ⟨rfl, hS, hc⟩
  exact ⟨rfl, ⟨n, 0, 0, cur, by omega, hS⟩, hc⟩

set_option maxRecDepth 100000 in
set_option maxHeartbeats 4000000 in
/-- ReadAtLeast of four: all four come. -/
theorem atLeast_four (w : World) (d : Option Addr) (D B R U n c Q : Nat) (X : Nat → Nat) (t tq : TypeId) (off : Nat) (dst : List Value) (h : Pos w d D B R U n c X t off) (hlt : off + 4 ≤ n)
    (hQ : w.heap[Q]? = some (.cells dst.toArray tq (0, 0))) (hdl : dst.length = 4) (hQU : Q ≠ U) (hQR : Q ≠ R) (hQB : Q ≠ B) (hQD : Q ≠ D) :
    Calls Tryd.prog 25 #[.iface 36 (.pointer (some ⟨R, 0, none⟩)), .slice (some ⟨Q, 0, none⟩) 4 4, .int .i64 4] w fun e w' => e = .returned (.tuple #[.int .i64 4, .nilIface]) ∧ Pos w' d D B R U n c X t (off + 4) ∧
      w'.heap[Q]? = some (.cells (splice dst 0 (cut X off 4)).toArray tq (0, 0)) ∧ Ch (Mv R Q U B) w w' := by
  have G := hide (read_some w.drew d D B R U n c Q X t tq off 4 dst (h.ch (T := fun _ => False) ((Ch.refl _ w).drewN 1) (fun x => x) (fun x => x) (fun x => x) (fun x => x)) (by omega) (by omega) hQ hdl hQU hQR hQB hQD)
  clear h hQ
  have nA := nil_ahead36
  have mB := method_bufio
  go_enter Tryd.func25, Tryd.ntmps25
  go_wp2_with fail
  refine wp_loop_rounds 2 ?_
  rw [rounds_succ]
  go_wp2_with fail
  go_region_held3 (fun w5 => True) (trivial) (first | (go_at_call 44; refine (unhide G).mono ?_; rintro e w3 ⟨rfl, hp, hq, hc⟩))
  have hp' := hide hp
  have hq' := hide hq
  have hc' := hide hc
  clear hp hq hc G
  go_wp2_with fail
  rw [rounds_succ]
  go_wp2_with fail
  go_ret2
  exact ⟨rfl, unhide hp', unhide hq', ((Ch.refl _ w).drewN 1).trans (unhide hc')⟩

/-- The sentinels, below what turns. -/
structure Sn (w : World) (B0 : Nat) (ea ua : Addr) : Prop where
  s : Sents w ea ua
  l2 : 2 < B0
  le : ea.block < B0
  lu : ua.block < B0
  hz : B0 ≤ w.heap.size
theorem Sn.ch {w w' : World} {B0 : Nat} {ea ua : Addr} (h : Sn w B0 ea ua) {T : Nat → Prop} (hc : Ch T w w') (hT : ∀ x, T x → B0 ≤ x) : Sn w' B0 ea ua := by
  have hs : ∀ x, x < B0 → w'.heap[x]? = w.heap[x]? := fun x hx => hc.same x (Nat.lt_of_lt_of_le hx h.hz) (fun t => by have := hT x t; omega)
  have l2 := h.l2
  exact ⟨⟨(World.cell?_of_block (a := ⟨1, 0, none⟩) (hs 1 (by omega))).trans h.s.g1, (World.cell?_of_block (a := ⟨2, 0, none⟩) (hs 2 (by omega))).trans h.s.g2, h.s.ne,
    by obtain ⟨c, t, e⟩ := h.s.be; exact ⟨c, t, (hs _ h.le).trans e⟩, by obtain ⟨c, t, e⟩ := h.s.bu; exact ⟨c, t, (hs _ h.lu).trans e⟩⟩, h.l2, h.le, h.lu, Nat.le_trans h.hz hc.size⟩
theorem eql_same (a : Addr) (w : World) : (binOp .eql 43 (.iface 88 (.pointer (some a))) (.iface 88 (.pointer (some a)))).run Tryd.prog w = .ok (.bool true) w := by
  obtain ⟨i, hi, hcmp⟩ := Option.map_eq_some_iff.1 isComp
  obtain ⟨j, hj, hjs⟩ := Option.map_eq_some_iff.1 isSize
  exact run_eql_iface_ptr_same (P := Tryd.prog) w a Tryd.underlying43 Tryd.underlying88 hi hcmp hj
theorem eql_ue {w : World} {e u : Addr} (S : Sents w e u) : (binOp .eql 43 (.iface 88 (.pointer (some u))) (.iface 88 (.pointer (some e)))).run Tryd.prog w = .ok (.bool false) w := by
  obtain ⟨i, hi, hcmp⟩ := Option.map_eq_some_iff.1 isComp
  obtain ⟨j, hj, hjs⟩ := Option.map_eq_some_iff.1 isSize
  obtain ⟨c, t, hb⟩ := S.be
  obtain ⟨c2, t2, hu⟩ := S.bu
  exact run_eql_iface_ptr_other (P := Tryd.prog) w Tryd.underlying43 Tryd.underlying88 hi hcmp hj (by omega) S.ne hu hb
/-- What lies above. -/
structure Hi (B0 R Q U B : Nat) : Prop where
  r : B0 ≤ R
  q : B0 ≤ Q
  u : B0 ≤ U
  b : B0 ≤ B
theorem Hi.mv {B0 R Q U B : Nat} (h : Hi B0 R Q U B) : ∀ x, Mv R Q U B x → B0 ≤ x := by
  rintro x ((rfl | rfl) | rfl | rfl)
  · exact h.r
  · exact h.q
  · exact h.u
  · exact h.b
theorem Pos.drew {w : World} {d : Option Addr} {D B R U n c : Nat} {X : Nat → Nat} {t : TypeId} {off : Nat} (h : Pos w d D B R U n c X t off) : Pos w.drew d D B R U n c X t off :=
  h.ch (T := fun _ => False) ((Ch.refl _ w).drewN 1) (fun x => x) (fun x => x) (fun x => x) (fun x => x)
theorem Sn.drew {w : World} {B0 : Nat} {ea ua : Addr} (h : Sn w B0 ea ua) : Sn w.drew B0 ea ua := h.ch (T := fun _ => False) ((Ch.refl _ w).drewN 1) (fun _ x => x.elim)

set_option maxRecDepth 100000 in
set_option maxHeartbeats 4000000 in
/-- ReadAtLeast of four at the end. -/
theorem atLeast_end (w : World) (d : Option Addr) (D B R U n c Q B0 : Nat) (X : Nat → Nat) (t : TypeId) (ea ua : Addr) (h : Pos w d D B R U n c X t n) (hS : Sn w B0 ea ua) (hH : Hi B0 R Q U B) :
    Calls Tryd.prog 25 #[.iface 36 (.pointer (some ⟨R, 0, none⟩)), .slice (some ⟨Q, 0, none⟩) 4 4, .int .i64 4] w fun e w' => e = .returned (.tuple #[.int .i64 0, .iface 88 (.pointer (some ea))]) ∧ Pos w' d D B R U n c X t n ∧ Ch (fun x => x = R) w w' := by
  have G := hide (read_end w.drew d D B R U n c X t h.drew ea hS.drew.s.g1 (by have := hH.u; have := hS.l2; omega) (by have := hH.r; have := hS.l2; omega) (some ⟨Q, 0, none⟩) 4 4 (by omega) (by omega))
  clear h
  have nA := nil_ahead36
  have mB := method_bufio
  go_enter Tryd.func25, Tryd.ntmps25
  go_wp2_with fail
  refine wp_loop_rounds 2 ?_
  rw [rounds_succ]
  go_wp2_with fail
  go_region_held3 (fun w5 => True) (trivial) (first | (go_at_call 44; refine (unhide G).mono ?_; rintro e w3 ⟨rfl, hp, hc⟩))
  have hp' := hide hp
  have hc' := hide hc
  clear hp hc G
  go_wp2_with fail
  rw [rounds_succ]
  go_wp2_with fail
  go_ret2
  exact ⟨rfl, unhide hp', ((Ch.refl _ w).drewN 1).trans (unhide hc')⟩

set_option maxRecDepth 100000 in
set_option maxHeartbeats 4000000 in
/-- ReadAtLeast of four: some come. -/
theorem atLeast_short (w : World) (d : Option Addr) (D B R U n c Q B0 : Nat) (X : Nat → Nat) (t tq : TypeId) (off kk : Nat) (ea ua : Addr) (dst : List Value) (h : Pos w d D B R U n c X t off) (hk : off + kk = n) (k0 : 0 < kk) (k4 : kk < 4)
    (hQ : w.heap[Q]? = some (.cells dst.toArray tq (0, 0))) (hdl : dst.length = 4) (hQU : Q ≠ U) (hQR : Q ≠ R) (hQB : Q ≠ B) (hQD : Q ≠ D) (hS : Sn w B0 ea ua) (hH : Hi B0 R Q U B) :
    Calls Tryd.prog 25 #[.iface 36 (.pointer (some ⟨R, 0, none⟩)), .slice (some ⟨Q, 0, none⟩) 4 4, .int .i64 4] w fun e w' => e = .returned (.tuple #[.int .i64 kk, .iface 88 (.pointer (some ua))]) ∧ Pos w' d D B R U n c X t n ∧
      w'.heap[Q]? = some (.cells (splice dst 0 (cut X off kk)).toArray tq (0, 0)) ∧ Ch (Mv R Q U B) w w' := by
  have G := hide (read_some w.drew d D B R U n c Q X t tq off kk dst h.drew (by omega) (by omega) hQ hdl hQU hQR hQB hQD)
  have hU := hH.u
  have hR := hH.r
  have hl2 := hS.l2
  have HS := hide hS
  have HH := hide hH
  have hk' := hide hk
  have G2 := hide (fun (w3 : World) (hp : Pos w3 d D B R U n c X t n) (hs : Sn w3 B0 ea ua) => read_end w3.drew d D B R U n c X t hp.drew ea hs.drew.s.g1 (by omega) (by omega) (some ⟨Q, kk, none⟩) (4 - kk) (4 - kk) (by omega) (by omega))
  clear h hQ hS hH hk
  have i1 : (kk : Int) < 4 := by omega
  have i2 : (0 : Int) ≤ (kk : Int) := by omega
  have i3 : (kk : Int) ≤ 4 := by omega
  have i4 : kk ≤ 4 := by omega
  have i5 : (0 : Int) < (kk : Int) := by omega
  have i6 : ¬ 4 = kk := by omega
  have nA := nil_ahead36
  have mB := method_bufio
  have eS := eql_same
  go_enter Tryd.func25, Tryd.ntmps25
  go_wp2_with fail
  refine wp_loop_rounds 3 ?_
  rw [rounds_succ]
  go_wp2_with fail
  go_region_held3 (fun w5 => True) (trivial) (first | (go_at_call 44; refine (unhide G).mono ?_; rintro e w3 ⟨rfl, hp, hq, hc⟩))
  rw [unhide hk'] at hp
  have hS3 := hide ((unhide HS).drew.ch hc (unhide HH).mv)
  have G3 := hide (unhide G2 w3 hp (unhide hS3))
  have hq' := hide hq
  have hc' := hide hc
  clear hp hq hc G G2
  go_wp2_with fail
  rw [rounds_succ]
  go_wp2_with fail
  go_region_held3 (fun w5 => True) (trivial) (first | (go_at_call 44; refine (unhide G3).mono ?_; rintro e w4 ⟨rfl, hp, hc⟩))
  have hS4 := (unhide hS3).drew.ch hc (fun x h => by subst h; exact hR)
  have g1 := hS4.s.g1
  have g2 := hS4.s.g2
  have hp' := hide hp
  have hq4 := hide ((hc.same Q (Array.getElem?_eq_some_iff.1 (unhide hq')).1 hQR).trans (unhide hq'))
  have hc4 := hide ((((Ch.refl (Mv R Q U B) w).drewN 1).trans (unhide hc')).trans ((((Ch.refl (Mv R Q U B) w3).drewN 1)).trans (hc.mono fun x _ h => Or.inl (Or.inl h))))
  clear hp hc G3 hS4 hq' hc'
  go_wp2_with fail
  rw [rounds_succ]
  go_wp2_with fail
  go_ret2
  exact ⟨rfl, unhide hp', unhide hq4, unhide hc4⟩
end Go.Proofs.Qxb6618799aDoor
