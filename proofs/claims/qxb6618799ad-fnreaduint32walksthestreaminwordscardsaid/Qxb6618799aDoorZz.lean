import Derived.Test.Qxb6618799aDoorWord
namespace Go.Proofs.Qxb6618799aDoor
open Go.RowKit
set_option linter.unusedVariables false
set_option linter.unusedSimpArgs false

theorem Ch.bas {w w' : World} (h : Ch (fun _ => False) w w') (B0 : Nat) : Ch (fun x => B0 ≤ x) w w' := h.mono fun _ _ x => x.elim

set_option maxHeartbeats 1000000 in
theorem zz_four (w : World) (B0 : Nat) (ea ua : Addr) (d : Option Addr) (D B R U F n c : Nat) (X : Nat → Nat) (t : TypeId) (off : Nat) (h : Rdr w B0 ea ua d D B R U F n c X t off) (hlt : off + 4 ≤ n) :
    Calls Tryd.prog 9 #[.pointer (some ⟨F, 0, none⟩)] w fun e w' => e = .returned (.tuple #[.int .u32 (horner X n off 4 : Nat), .bool true, .bool false, .bool false, .int .i64 0]) ∧ Rdr w' B0 ea ua d D B R U F n c X t (off + 4) ∧ Ch (fun x => B0 ≤ x) w w' := by
  have G := hide (word_four w B0 ea ua d D B R U F n c X t off h hlt)
  clear h
  generalize horner X n off 4 = V at *
  go_enter Tryd.func9, Tryd.ntmps9
  go_wp2_with fail
  refine (unhide G).mono ?_
  rintro e w2 ⟨rfl, h2, h3⟩
  have h2' := hide h2
  have h3' := hide h3
  clear h2 h3 G
  go_wp2_with fail
  refine (kind_nil w2).mono ?_
  rintro e w3 ⟨rfl, rfl⟩
  go_wp2_with fail
  refine bodyPost_ret (results_tmp5 rfl _ _ _) rfl ?_
  exact ⟨rfl, unhide h2', unhide h3'⟩
set_option maxHeartbeats 1000000 in
theorem zz_end (w : World) (B0 : Nat) (ea ua : Addr) (d : Option Addr) (D B R U F n c : Nat) (X : Nat → Nat) (t : TypeId) (h : Rdr w B0 ea ua d D B R U F n c X t n) :
    Calls Tryd.prog 9 #[.pointer (some ⟨F, 0, none⟩)] w fun e w' => e = .returned (.tuple #[.int .u32 0, .bool false, .bool true, .bool false, .int .i64 0]) ∧ Rdr w' B0 ea ua d D B R U F n c X t n ∧ Ch (fun x => B0 ≤ x) w w' := by
  have G := hide (word_end w B0 ea ua d D B R U F n c X t h)
  clear h
  go_enter Tryd.func9, Tryd.ntmps9
  go_wp2_with fail
  refine (unhide G).mono ?_
  rintro e w2 ⟨rfl, h2, h3⟩
  have h2' := hide h2
  have h3' := hide h3
  clear h2 h3 G
  go_wp2_with fail
  refine (kind_eof w2 ea ua (unhide h2').sn.s).mono ?_
  rintro e w3 ⟨rfl, rfl⟩
  go_wp2_with fail
  refine bodyPost_ret (results_tmp5 rfl _ _ _) rfl ?_
  exact ⟨rfl, unhide h2', unhide h3'⟩
set_option maxHeartbeats 1000000 in
theorem zz_short (w : World) (B0 : Nat) (ea ua : Addr) (d : Option Addr) (D B R U F n c : Nat) (X : Nat → Nat) (t : TypeId) (off kk : Nat) (h : Rdr w B0 ea ua d D B R U F n c X t off) (hk : off + kk = n) (k0 : 0 < kk) (k4 : kk < 4) :
    Calls Tryd.prog 9 #[.pointer (some ⟨F, 0, none⟩)] w fun e w' => e = .returned (.tuple #[.int .u32 (horner X n off 4 : Nat), .bool false, .bool false, .bool true, .int .i64 off]) ∧ Rdr w' B0 ea ua d D B R U F n c X t n ∧ Ch (fun x => B0 ≤ x) w w' := by
  have G := hide (word_short w B0 ea ua d D B R U F n c X t off kk h hk k0 k4)
  clear h hk
  generalize horner X n off 4 = V at *
  go_enter Tryd.func9, Tryd.ntmps9
  go_wp2_with fail
  refine (unhide G).mono ?_
  rintro e w2 ⟨⟨s, rfl⟩, h2, h3⟩
  have h2' := hide h2
  have h3' := hide h3
  clear h2 h3 G
  go_wp2_with fail
  refine (kind_format w2 ea ua (unhide h2').sn.s off s).mono ?_
  rintro e w3 ⟨rfl, q, hw⟩
  have hc := hide (show Ch (fun _ => False) w2 w3 from by rw [hw]; exact ((Ch.refl _ w2).alloc _).drewN q)
  clear hw
  go_wp2_with fail
  refine bodyPost_ret (results_tmp5 rfl _ _ _) rfl ?_
  exact ⟨rfl, (unhide h2').ch (unhide hc), (unhide h3').trans ((unhide hc).bas B0)⟩

theorem off_any (w : World) (F R off : Nat) (h : FR w F R off) :
    Calls Tryd.prog 11 #[.pointer (some ⟨F, 0, none⟩)] w fun e w' => e = .returned (.int .i64 off) ∧ w' = w := by
  have c3 := h.c3
  go_enter Tryd.func11, Tryd.ntmps11
  go_wp2_with fail
  go_ret
  exact ⟨rfl, rfl⟩

/-! ### ZZnewRaw -/
theorem newBytes_any (w : World) (d : Option Addr) (n c : Nat) :
    Calls Tryd.prog 16 #[.slice d n c] w fun e w' => e = .returned (.pointer (some ⟨w.heap.size, 0, none⟩)) ∧ w' = w.alloc (.cells #[.slice d n c, .int .i64 0, .int .i64 (-1)] 55) := by
  go_enter Tryd.func16, Tryd.ntmps16
  go_wp2_with fail
  go_ret
  exact ⟨rfl, rfl⟩
def ubuf : Array Value := madeCells #[.int .u8 0] 4096
theorem size_ubuf : ubuf.size = 4096 := size_madeCells _ _
theorem make_ubuf (w : World) : (Instr.makeSlice 22 (.int .i64 4096) (.int .i64 4096)).run Tryd.prog w = .ok (.slice (some ⟨w.heap.size, 0, none⟩) 4096 4096) (w.alloc (.cells ubuf 5)) :=
  run_make_row' (P := Tryd.prog) 22 5 (.int .u8 0) 1 Tryd.underlying22 info5 rfl .i64 .i64 4096 (by omega) (by omega) w

set_option maxHeartbeats 1000000 in
theorem reset_any (w : World) (R B U : Nat) (hp : Plain w R) (hx : ∀ k, k < 7 → ∃ v, w.cell? ⟨R, k, none⟩ = some v) :
    Calls Tryd.prog 24 #[.pointer (some ⟨R, 0, none⟩), .slice (some ⟨U, 0, none⟩) 4096 4096, .iface 38 (.pointer (some ⟨B, 0, none⟩))] w fun e w' => e = .returned (.tuple #[]) ∧ BU w' R U B 0 0 .nilIface ∧ Ch (fun x => x = R) w w' := by
  obtain ⟨v0, k0⟩ := hx 0 (by omega)
  obtain ⟨v1, k1⟩ := hx 1 (by omega)
  obtain ⟨v2, k2⟩ := hx 2 (by omega)
  obtain ⟨v3, k3⟩ := hx 3 (by omega)
  obtain ⟨v4, k4⟩ := hx 4 (by omega)
  obtain ⟨v5, k5⟩ := hx 5 (by omega)
  obtain ⟨v6, k6⟩ := hx 6 (by omega)
  have fz := hp.frozen
  clear hx
  go_enter Tryd.func24, Tryd.ntmps24
  go_wp2_with fail
  go_end0
  refine ⟨rfl, ⟨(((((((hp.set _ _).set _ _).set _ _).set _ _).set _ _).set _ _).set _ _), (set_off (set_off (set_off (set_off (set_off (set_off (World.cell?_setCell_same _ _ _ k0) (by decide)) (by decide)) (by decide)) (by decide)) (by decide)) (by decide)), (set_off (set_off (set_off (set_off (set_off (World.cell?_setCell_same _ _ _ (set_off k1 (by decide))) (by decide)) (by decide)) (by decide)) (by decide)) (by decide)), (set_off (set_off (set_off (set_off (World.cell?_setCell_same _ _ _ (set_off (set_off k2 (by decide)) (by decide))) (by decide)) (by decide)) (by decide)) (by decide)), (set_off (set_off (set_off (World.cell?_setCell_same _ _ _ (set_off (set_off (set_off k3 (by decide)) (by decide)) (by decide))) (by decide)) (by decide)) (by decide)), (set_off (set_off (World.cell?_setCell_same _ _ _ (set_off (set_off (set_off (set_off k4 (by decide)) (by decide)) (by decide)) (by decide))) (by decide)) (by decide)), ⟨_, (set_off (World.cell?_setCell_same _ _ _ (set_off (set_off (set_off (set_off (set_off k5 (by decide)) (by decide)) (by decide)) (by decide)) (by decide))) (by decide))⟩, ⟨_, (World.cell?_setCell_same _ _ _ (set_off (set_off (set_off (set_off (set_off (set_off k6 (by decide)) (by decide)) (by decide)) (by decide)) (by decide)) (by decide)))⟩⟩, ((((((((Ch.refl (fun x => x = R) w).setCell ⟨R, 0, none⟩ rfl _).setCell ⟨R, 1, none⟩ rfl _).setCell ⟨R, 2, none⟩ rfl _).setCell ⟨R, 3, none⟩ rfl _).setCell ⟨R, 4, none⟩ rfl _).setCell ⟨R, 5, none⟩ rfl _).setCell ⟨R, 6, none⟩ rfl _)⟩

set_option maxHeartbeats 1000000 in
theorem newSize_any (w : World) (B : Nat) :
    Calls Tryd.prog 20 #[.iface 38 (.pointer (some ⟨B, 0, none⟩)), .int .i64 4096] w fun e w' => e = .returned (.pointer (some ⟨w.heap.size, 0, none⟩)) ∧ BU w' w.heap.size (w.heap.size + 1) B 0 0 .nilIface ∧ Ch (fun _ => False) w w' ∧
      w'.heap[w.heap.size + 1]? = some (.cells ubuf.toList.toArray 5 (0, 0)) := by
  have hA := assert_bufio
  have hmk := make_ubuf
  go_enter Tryd.func20, Tryd.ntmps20
  go_wp2_with fail
  obtain ⟨W1, hW1⟩ : ∃ W1, W1 = w.alloc (.cells #[.slice none 0 0, .nilIface, .int .i64 0, .int .i64 0, .nilIface, .int .i64 0, .int .i64 0] 68) := ⟨_, rfl⟩
  have z1 : W1.heap.size = w.heap.size + 1 := by rw [hW1]; exact Array.size_push _
  have p1 : Plain W1 w.heap.size := by rw [hW1]; exact plain_new _ _ _
  have x1 : ∀ k, k < 7 → ∃ v, W1.cell? ⟨w.heap.size, k, none⟩ = some v := fun k hk => by
    rw [hW1, cell_new']
    match k, hk with
    | 0, _ => exact ⟨_, rfl⟩
    | 1, _ => exact ⟨_, rfl⟩
    | 2, _ => exact ⟨_, rfl⟩
    | 3, _ => exact ⟨_, rfl⟩
    | 4, _ => exact ⟨_, rfl⟩
    | 5, _ => exact ⟨_, rfl⟩
    | 6, _ => exact ⟨_, rfl⟩
  have c1 : Ch (fun _ => False) w W1 := by rw [hW1]; exact (Ch.refl _ w).alloc _
  rw [← hW1]
  clear hW1
  have c2 : Ch (fun _ => False) W1 (W1.alloc (.cells ubuf 5)) := (Ch.refl _ W1).alloc _
  have u2 : (W1.alloc (.cells ubuf 5)).heap[w.heap.size + 1]? = some (.cells ubuf 5 (0, 0)) := by rw [← z1]; exact (MapKept.heap_alloc W1 _).1
  have p2 : Plain (W1.alloc (.cells ubuf 5)) w.heap.size := p1.of_heap (c2.same _ p1.lt (fun x => x))
  have x2 : ∀ k, k < 7 → ∃ v, (W1.alloc (.cells ubuf 5)).cell? ⟨w.heap.size, k, none⟩ = some v := fun k hk => by
    obtain ⟨v, hv⟩ := x1 k hk
    exact ⟨v, (cell_of_heap (c2.same _ p1.lt (fun x => x)) k).trans hv⟩
  have c3 := c1.trans c2
  generalize (W1.alloc (.cells ubuf 5)) = W2 at u2 p2 x2 c3 ⊢
  have G := hide (reset_any W2 w.heap.size B (w.heap.size + 1) p2 x2)
  have u2' := hide u2
  have c3' := hide c3
  clear c1 c2 c3 u2 p2 x2 x1 p1 z1 hmk
  refine (unhide G).mono ?_
  rintro e w3 ⟨rfl, hb, hc⟩
  have hb' := hide hb
  have hc' := hide hc
  clear hb hc G
  go_wp2_with fail
  go_ret
  refine ⟨rfl, unhide hb', ?_, ?_⟩
  · have h0 := unhide hc'
    have h1 := unhide c3'
    exact ⟨h0.os.trans h1.os, h0.tape.trans h1.tape, h0.output.trans h1.output, Nat.le_trans h1.size h0.size, fun x hx _ => (h0.same x (Nat.lt_of_lt_of_le hx h1.size) (by omega)).trans (h1.same x hx (fun x => x))⟩
  · rw [Array.toArray_toList]
    exact ((unhide hc').same _ (Array.getElem?_eq_some_iff.1 (unhide u2')).1 (by omega)).trans (unhide u2')
theorem newReader_any (w : World) (B : Nat) :
    Calls Tryd.prog 15 #[.iface 38 (.pointer (some ⟨B, 0, none⟩))] w fun e w' => e = .returned (.pointer (some ⟨w.heap.size, 0, none⟩)) ∧ BU w' w.heap.size (w.heap.size + 1) B 0 0 .nilIface ∧ Ch (fun _ => False) w w' ∧
      w'.heap[w.heap.size + 1]? = some (.cells ubuf.toList.toArray 5 (0, 0)) := by
  have G := hide (newSize_any w B)
  go_enter Tryd.func15, Tryd.ntmps15
  go_wp2_with fail
  refine (unhide G).mono ?_
  rintro e w3 ⟨rfl, h⟩
  have h' := hide h
  clear h G
  go_wp2_with fail
  go_ret
  exact ⟨rfl, unhide h'⟩

set_option maxHeartbeats 1000000 in
/-- ZZnewRaw. -/
theorem newRaw_any (w : World) (B0 : Nat) (ea ua : Addr) (d : Option Addr) (D n c : Nat) (X : Nat → Nat) (hS : Sn w B0 ea ua) (hd : n ≠ 0 → d = some ⟨D, 0, none⟩) (hX : Bytes w D n X) (hD : D < w.heap.size) (hn : n ≤ 1048576) (hc : n ≤ c) (hB : ∀ j, j < n → X j < 256) :
    Calls Tryd.prog 8 #[.slice d n c] w fun e w' => (∃ B R U F, Rdr w' B0 ea ua d D B R U F n c X 5 0 ∧ e = .returned (.pointer (some ⟨F, 0, none⟩))) ∧ Ch (fun _ => False) w w' := by
  have hz := hS.hz
  have HS := hide hS
  have HX := hide hX
  have HB := hide hB
  have HD := hide hd
  clear hS hX hB hd
  go_enter Tryd.func8, Tryd.ntmps8
  go_wp2_with fail
  refine (newBytes_any w d n c).mono ?_
  rintro e w1 ⟨rfl, hw1⟩
  have c1 : Ch (fun _ => False) w w1 := by rw [hw1]; exact (Ch.refl _ w).alloc _
  have z1 : w1.heap.size = w.heap.size + 1 := by rw [hw1]; exact Array.size_push _
  have b1 : BR w1 w.heap.size d n c 0 := by
    rw [hw1]
    exact ⟨plain_new _ _ _, by rw [cell_new']; rfl, by rw [cell_new']; rfl, ⟨_, by rw [cell_new']; rfl⟩⟩
  have c1' := hide c1
  have b1' := hide b1
  have z1' := hide z1
  clear c1 b1 z1 hw1
  go_wp2_with fail
  refine (newReader_any w1 w.heap.size).mono ?_
  rintro e w2 ⟨rfl, h1, h2, h3⟩
  have h1' := hide h1
  have h2' := hide h2
  have h3' := hide h3
  clear h1 h2 h3
  go_wp2_with fail
  go_ret
  have z1 := unhide z1'
  have lU := (Array.getElem?_eq_some_iff.1 (unhide h3')).1
  have cF : ∀ (o : Obj), Ch (fun _ => False) w2 (w2.alloc o) := fun o => (Ch.refl _ w2).alloc o
  have call : ∀ (o : Obj), Ch (fun _ => False) w (w2.alloc o) := fun o => ((unhide c1').trans (unhide h2')).trans (cF o)
  refine ⟨⟨w.heap.size, w1.heap.size, w1.heap.size + 1, w2.heap.size, ?_, rfl⟩, call _⟩
  have lw : ∀ x, x < w.heap.size → x < w1.heap.size := fun x h => by omega
  refine { pos := ⟨0, 0, 0, ubuf.toList, rfl, ?_⟩, fr := ?_, sn := (unhide HS).ch (call _) (fun _ x => x.elim), hr := by omega, hu := by omega, hb := hz, hf := by omega, fR := by omega, fU := by omega, fB := by omega, fD := by omega, bd := unhide HB, sm := hn }
  · exact { hd := unhide HD, br := ((unhide b1').of_heap ((unhide h2').same _ (unhide b1').pl.lt (fun x => x))).of_heap ((cF _).same _ (by omega) (fun x => x)), bu := (unhide h1').of_heap ((cF _).same _ (by omega) (fun x => x)),
            row := ((cF _).same _ lU (fun x => x)).trans (unhide h3'), len := by rw [Array.length_toList]; exact size_ubuf, bs := (unhide HX).of_heap ((call _).same D hD (fun x => x)), sm := hn, nc := hc, o1 := Nat.le_refl _, o2 := by omega, o3 := by omega, o4 := by omega,
            buf := fun q h1 h2 => by omega, al := Or.inr rfl, e1 := by omega, e2 := by omega, e3 := by omega, e4 := by omega, e5 := by omega, e6 := by omega }
  · refine ⟨plain_new _ _ _, ?_, ?_⟩
    · rw [cell_new']; rfl
    · rw [cell_new']; rfl
end Go.Proofs.Qxb6618799aDoor
