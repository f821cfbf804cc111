import Derived.Test.Qxb6618114aChain
namespace Go.Proofs.Qxb6618114a
open Go.RowKit
set_option linter.unusedVariables false
set_option linter.unusedSimpArgs false

def upN (f : Nat → Nat) (i v : Nat) : Nat → Nat := fun q => if q = i then v else f q
theorem upN_at (f : Nat → Nat) (i v : Nat) : upN f i v i = v := by simp [upN]
theorem upN_lt {f : Nat → Nat} {i v q : Nat} (h : q < i) : upN f i v q = f q := by simp [upN]; omega

/-- The items of a response. -/
def Its (w : World) (b m : Nat) (kind : ByteArray) (S : Nat → ByteArray) : Prop := Plain w b ∧ ∀ k, k < m → ItemAt w b (k * 8) kind (S k)
theorem Its.of_heap {w w' : World} {b m : Nat} {kind : ByteArray} {S : Nat → ByteArray} (h : Its w b m kind S) (e : w'.heap[b]? = w.heap[b]?) : Its w' b m kind S :=
  ⟨h.1.of_heap e, fun k hk => (h.2 k hk).same (cell_of_heap e)⟩

def prevOf (rb : Nat → Nat) (j : Nat) : Option Addr := if j = 0 then none else some ⟨rb (j - 1), 0, none⟩

/-- The chain so far. -/
structure Chn (w : World) (B0 cb n i : Nat) (rb ib ob : Nat → Nat) (M1 M2 : Nat → Nat) (S1 S2 : Nat → Nat → ByteArray) (K : Nat → Int) : Prop where
  base : B0 ≤ cb
  pcb : Plain w cb
  cex : ∀ j, j < n → ∃ v, w.cell? ⟨cb, j, none⟩ = some v
  ptr : ∀ j, j < i → w.cell? ⟨cb, j, none⟩ = some (.pointer (some ⟨rb j, 0, none⟩))
  resp : ∀ j, j < i → Resp w (rb j) (prevOf rb j) (some ⟨rb (K j).toNat, 0, none⟩) (ib j) (M1 j) (ob j) (M2 j) (fi M1 M2 (j + 1) : Nat)
  its : ∀ j, j < i → Its w (ib j) (M1 j) iKind (S1 j)
  ots : ∀ j, j < i → Its w (ob j) (M2 j) oKind (S2 j)
  ar : ∀ j, j < i → cb < rb j
  ai : ∀ j, j < i → cb < ib j
  ao : ∀ j, j < i → cb < ob j

theorem Chn.keep {w w' : World} {B0 cb n i : Nat} {rb ib ob M1 M2 : Nat → Nat} {S1 S2 : Nat → Nat → ByteArray} {K : Nat → Int} (h : Chn w B0 cb n i rb ib ob M1 M2 S1 S2 K)
    (hc : Plain w' cb) (cx : ∀ j, j < n → ∃ v, w'.cell? ⟨cb, j, none⟩ = some v) (cp : ∀ j, j < i → w'.cell? ⟨cb, j, none⟩ = some (.pointer (some ⟨rb j, 0, none⟩)))
    (e : ∀ b, cb < b → b < w.heap.size → w'.heap[b]? = w.heap[b]?) : Chn w' B0 cb n i rb ib ob M1 M2 S1 S2 K where
  base := h.base
  pcb := hc
  cex := cx
  ptr := cp
  resp := fun j hj => (h.resp j hj).of_heap (e _ (h.ar j hj) (h.resp j hj).pl.lt)
  its := fun j hj => (h.its j hj).of_heap (e _ (h.ai j hj) (h.its j hj).1.lt)
  ots := fun j hj => (h.ots j hj).of_heap (e _ (h.ao j hj) (h.ots j hj).1.lt)
  ar := h.ar
  ai := h.ai
  ao := h.ao
theorem Chn.below {w w' : World} {B0 cb n i : Nat} {rb ib ob M1 M2 : Nat → Nat} {S1 S2 : Nat → Nat → ByteArray} {K : Nat → Int} (h : Chn w B0 cb n i rb ib ob M1 M2 S1 S2 K)
    (hB : Below w.heap.size w w') : Chn w' B0 cb n i rb ib ob M1 M2 S1 S2 K :=
  h.keep (h.pcb.below hB h.pcb.lt) (fun j hj => by obtain ⟨v, hv⟩ := h.cex j hj; exact ⟨v, (hB.cell (p := ⟨cb, j, none⟩) h.pcb.lt).trans hv⟩)
    (fun j hj => (hB.cell (p := ⟨cb, j, none⟩) h.pcb.lt).trans (h.ptr j hj)) (fun b _ hb => hB.block b hb)

/-- One response more, laid into the chain. -/
theorem Chn.push {w : World} {B0 cb n i R I O : Nat} {rb ib ob M1 M2 : Nat → Nat} {S1 S2 : Nat → Nat → ByteArray} {K : Nat → Int} (h : Chn w B0 cb n i rb ib ob M1 M2 S1 S2 K) (hi : i < n)
    (hR : Resp w R (prevOf (upN rb i R) i) (some ⟨upN rb i R (K i).toNat, 0, none⟩) I (M1 i) O (M2 i) (fi M1 M2 (i + 1) : Nat)) (hI : Its w I (M1 i) iKind (S1 i)) (hO : Its w O (M2 i) oKind (S2 i))
    (r1 : cb < R) (r2 : cb < I) (r3 : cb < O) (hK : ∀ j, j < i → (K j).toNat < i) :
    Chn (w.setCell ⟨cb, i, none⟩ (.pointer (some ⟨R, 0, none⟩))) B0 cb n (i + 1) (upN rb i R) (upN ib i I) (upN ob i O) M1 M2 S1 S2 K := by
  have e : ∀ b, cb < b → (w.setCell ⟨cb, i, none⟩ (.pointer (some ⟨R, 0, none⟩))).heap[b]? = w.heap[b]? := fun b hb => Below.heap_setCell w ⟨cb, i, none⟩ _ b (by simp only; omega)
  have oc : ∀ j, j ≠ i → (w.setCell ⟨cb, i, none⟩ (.pointer (some ⟨R, 0, none⟩))).cell? ⟨cb, j, none⟩ = w.cell? ⟨cb, j, none⟩ := fun j hj =>
    World.cell?_setCell_other _ _ _ _ (by intro x; injection x with _ h2; omega)
  have pv : ∀ j, j < i → prevOf (upN rb i R) j = prevOf rb j := fun j hj => by
    unfold prevOf
    split
    · rfl
    · rw [upN_lt (by omega)]
  have sp : ∀ j, j < i + 1 → j < i ∨ j = i := fun j hj => by omega
  exact {
    base := h.base
    pcb := h.pcb.set _ _
    cex := fun j hj => by
      obtain ⟨v, hv⟩ := h.cex j hj
      exact cell?_setCell_some hv
    ptr := fun j hj => by
      rcases sp j hj with hj | rfl
      · rw [oc j (by omega), upN_lt hj]; exact h.ptr j hj
      · obtain ⟨v, hv⟩ := h.cex j hi
        rw [upN_at]; exact World.cell?_setCell_same _ _ _ hv
    resp := fun j hj => by
      rcases sp j hj with hj | rfl
      · rw [pv j hj, upN_lt hj, upN_lt hj, upN_lt hj, upN_lt (hK j hj)]
        exact (h.resp j hj).of_heap (e _ (h.ar j hj))
      · rw [upN_at ib, upN_at ob, upN_at rb] 
        exact hR.of_heap (e _ r1)
    its := fun j hj => by
      rcases sp j hj with hj | rfl
      · rw [upN_lt hj]; exact (h.its j hj).of_heap (e _ (h.ai j hj))
      · rw [upN_at]; exact hI.of_heap (e _ r2)
    ots := fun j hj => by
      rcases sp j hj with hj | rfl
      · rw [upN_lt hj]; exact (h.ots j hj).of_heap (e _ (h.ao j hj))
      · rw [upN_at]; exact hO.of_heap (e _ r3)
    ar := fun j hj => by
      rcases sp j hj with hj | rfl
      · rw [upN_lt hj]; exact h.ar j hj
      · rw [upN_at]; exact r1
    ai := fun j hj => by
      rcases sp j hj with hj | rfl
      · rw [upN_lt hj]; exact h.ai j hj
      · rw [upN_at]; exact r2
    ao := fun j hj => by
      rcases sp j hj with hj | rfl
      · rw [upN_lt hj]; exact h.ao j hj
      · rw [upN_at]; exact r3 }

theorem info50 : (Try.prog.info? 50).map (fun i => (i.zero, i.size, i.bytes)) = some (some (.pointer none), 1, 8) := by kernel_rfl

theorem Chn.zero {w : World} {B0 cb n : Nat} (rb ib ob M1 M2 : Nat → Nat) (S1 S2 : Nat → Nat → ByteArray) (K : Nat → Int) (h : B0 ≤ cb) (pcb : Plain w cb) (cex : ∀ j, j < n → ∃ v, w.cell? ⟨cb, j, none⟩ = some v) :
    Chn w B0 cb n 0 rb ib ob M1 M2 S1 S2 K where
  base := h
  pcb := pcb
  cex := cex
  ptr := fun j h => by omega
  resp := fun j h => by omega
  its := fun j h => by omega
  ots := fun j h => by omega
  ar := fun j h => by omega
  ai := fun j h => by omega
  ao := fun j h => by omega
theorem Chn.start (w : World) (n : Nat) (rb ib ob M1 M2 : Nat → Nat) (S1 S2 : Nat → Nat → ByteArray) (K : Nat → Int) :
    Chn (w.alloc (.cells (madeCells #[.pointer none] n) 50)) w.heap.size w.heap.size n 0 rb ib ob M1 M2 S1 S2 K where
  base := Nat.le_refl _
  pcb := plain_new _ _ _
  cex := fun j hj => by rw [cell_new]; exact ⟨_, Array.getElem?_eq_getElem (by rw [size_madeCells]; exact hj)⟩
  ptr := fun j h => by omega
  resp := fun j h => by omega
  its := fun j h => by omega
  ots := fun j h => by omega
  ar := fun j h => by omega
  ai := fun j h => by omega
  ao := fun j h => by omega

theorem set_off {w : World} {b o k : Nat} {u v : Value} (h : w.cell? ⟨b, o, none⟩ = some u) (hk : o ≠ k) : (w.setCell ⟨b, k, none⟩ v).cell? ⟨b, o, none⟩ = some u := by
  rw [World.cell?_setCell_other _ _ _ _ (by intro x; injection x with _ h2; exact hk (by omega))]; exact h
theorem Resp.skip {w : World} {b : Nat} {pv sk : Option Addr} {ib m ob m2 : Nat} {held : Int} (h : Resp w b pv sk ib m ob m2 held) (sk' : Option Addr) : Resp (w.setCell ⟨b, 10, none⟩ (.pointer sk')) b pv sk' ib m ob m2 held :=
  ⟨h.pl.set _ _, set_off h.c9 (by decide), World.cell?_setCell_same _ _ _ h.c10, set_off h.c12 (by decide), set_off h.c13 (by decide), set_off h.c14 (by decide)⟩

set_option maxRecDepth 100000 in
set_option maxHeartbeats 4000000 in
theorem build_any (w : World) (a1 a2 a3 : Option Addr) (n c1 c2 c3 : Nat) (M1 M2 : Nat → Nat) (S1 S2 : Nat → Nat → ByteArray) (K : Nat → Int) (h1 : Outer w a1 n M1 S1) (h2 : Outer w a2 n M2 S2) (h3 : Ints w a3 n K)
    (hw : Well n n n K) (hn : n ≤ 65536) (hs : fi M1 M2 n ≤ 131072) :
    Calls Try.prog 19 #[.slice a1 n c1, .slice a2 n c2, .slice a3 n c3] w fun e w' => e = .returned (.slice (some ⟨w.heap.size, 0, none⟩) n n) ∧ Below w.heap.size w w' ∧ ∃ rb ib ob, Chn w' w.heap.size w.heap.size n n rb ib ob M1 M2 S1 S2 K := by
  have H1 := hide h1
  have H2 := hide h2
  have H3 := hide h3
  have HW := hide hw
  have mono := hide (fun i (h : i ≤ n) => (show fi M1 M2 i ≤ 131072 from Nat.le_trans (fi_mono M1 M2 h) hs))
  clear h1 h2 h3 hw hs
  have hmk := run_make_row' (P := Try.prog) 47 50 (.pointer none) 8 Try.underlying47 info50 rfl .i64 .i64 n (by omega) (by omega)
  go_enter Try.func19, Try.ntmps19
  go_wp2_with fail
  have st0 := hide (fun rb ib ob => Chn.start w n rb ib ob M1 M2 S1 S2 K)
  have B0 := hide (show Below w.heap.size w (w.alloc (.cells (madeCells #[.pointer none] n) 50)) from (Below.refl _ _).alloc (Nat.le_refl _) _)
  obtain ⟨cb, hcb⟩ : ∃ cb, w.heap.size = cb := ⟨_, rfl⟩
  have hcb' := hide hcb
  rw [hcb] at st0
  generalize (w.alloc (.cells (madeCells #[.pointer none] n) 50)) = w1 at st0 B0 ⊢
  rw [hcb]
  clear hcb hmk
  go_loopg [9, 10] (n + 1) (fun g l k wr => Below w.heap.size w wr ∧ ∃ (j t : Nat), j ≤ n ∧ k = .int .i64 j ∧ g + j = n + 1 ∧ l = .int .i64 t ∧ t ≤ 131072 ∧ Hid (t = fi M1 M2 j) ∧ Hid (∃ rb ib ob, Chn wr cb cb n j rb ib ob M1 M2 S1 S2 K))
  case atStart => exact ⟨unhide B0, 0, 0, by omega, rfl, by omega, rfl, by omega, hide rfl, hide ⟨fun _ => 0, fun _ => 0, fun _ => 0, unhide st0 _ _ _⟩⟩
  case round =>
    obtain ⟨hbw, j, t, hj, rfl, hg, rfl, tb, ht, hC⟩ := hrel
    clear st0 B0
    by_cases hlt : j < n
    · obtain ⟨rb, ib, ob, hC⟩ := unhide hC
      have hC' := hide hC
      have pcb := hC.pcb.lt
      clear hC
      obtain ⟨b1, o1, ia1, ic1, rfl, hb1, hc1, hI1⟩ := ((unhide H1).below hbw (Nat.le_refl _)).at' j hlt
      obtain ⟨b2, o2, ia2, ic2, rfl, hb2, hc2, hI2⟩ := ((unhide H2).below hbw (Nat.le_refl _)).at' j hlt
      have nb := unhide mono (j + 1) (by omega)
      have nx := hide (fi_succ M1 M2 j)
      have nb2 : t + M1 j + M2 j ≤ 131072 := by have := unhide ht; rw [unhide nx] at nb; omega
      have nx2 := hide (show t + M1 j + M2 j = fi M1 M2 (j + 1) by rw [unhide nx, unhide ht]; omega)
      clear nb nx
      have hI1' := hide hI1
      have hI2' := hide hI2
      have hbw' := hide hbw
      clear hI1 hI2 hbw
      have hm1 : M1 j ≤ 131072 := by omega
      have hm2 : M2 j ≤ 131072 := by omega
      have G1 := hide (messages_any wr ia1 (M1 j) ic1 (S1 j) iKind (unhide hI1') hm1)
      have G2 := hide (fun (w3 : World) (h : Below wr.heap.size wr w3) => messages_any w3 ia2 (M2 j) ic2 (S2 j) oKind ((unhide hI2').below h (Nat.le_refl _)) hm2)
      go_wp2_with fail
      refine (unhide G1).mono ?_
      rintro e w2 ⟨rfl, hB2, hA2, hP2⟩
      have ca2 := (hB2.cell (p := ⟨b2, o2 + j, none⟩) hb2).trans hc2
      have G3 := hide (unhide G2 w2 hB2)
      have hC2 := hide ((unhide hC').below hB2)
      have hI2 := hide (show Its w2 wr.heap.size (M1 j) iKind (S1 j) from ⟨hP2, hA2⟩)
      have hw2 := hide (show Below w.heap.size w w2 from (unhide hbw').trans (hB2.mono (unhide hbw').size))
      have lt2 := hP2.lt
      clear G1 G2 hc1 hc2 hC' hB2 hA2 hP2 hI1' hI2'
      go_wp2_with fail
      refine (unhide G3).mono ?_
      rintro e w3 ⟨rfl, hB3, hA3, hP3⟩
      have hC3 := hide ((unhide hC2).below hB3)
      have hI3 := hide ((unhide hI2).of_heap (hB3.block _ lt2))
      have hO3 := hide (show Its w3 w2.heap.size (M2 j) oKind (S2 j) from ⟨hP3, hA3⟩)
      have hw3 := hide (show Below w.heap.size w w3 from (unhide hw2).trans (hB3.mono (unhide hw2).size))
      have lt3 := hP3.lt
      clear G3 ca2 hC2 hI2 hw2 hB3 hA3 hP3
      generalize hib : wr.heap.size = I at *
      generalize hob : w2.heap.size = O at *
      clear hib hob
      have fin := hide (fun (w5 : World) (R : Nat) (h5 : Below w.heap.size w w5) (hC5 : Chn w5 cb cb n j rb ib ob M1 M2 S1 S2 K) (hr : cb < R) (hR : Resp w5 R (prevOf (upN rb j R) j) (some ⟨upN rb j R (K j).toNat, 0, none⟩) I (M1 j) O (M2 j) (fi M1 M2 (j + 1) : Nat)) (hI : Its w5 I (M1 j) iKind (S1 j)) (hO : Its w5 O (M2 j) oKind (S2 j)) =>
        (show Below w.heap.size w (w5.setCell ⟨cb, j, none⟩ (.pointer (some ⟨R, 0, none⟩))) ∧ Hid (∃ rb ib ob, Chn (w5.setCell ⟨cb, j, none⟩ (.pointer (some ⟨R, 0, none⟩))) cb cb n (j + 1) rb ib ob M1 M2 S1 S2 K) from
          ⟨h5.setCell (p := ⟨cb, j, none⟩) (by have := unhide hcb'; simp only; omega) _, hide ⟨_, _, _, hC5.push hlt hR hI hO hr pcb (by omega) (fun q hq => by
            rcases Nat.eq_zero_or_pos q with hq0 | hq0
            · subst hq0; rw [(unhide HW).2.2.2.1]; simp; omega
            · have := (unhide HW).2.2.2.2 q hq0 (by omega); omega)⟩⟩))
      rcases Nat.eq_zero_or_pos j with hz | hz
      · subst hz
        have k0 := hide ((unhide HW).2.2.2.1)
        go_wp2_with fail
        refine (newResp_any w3 none none 0 I (M1 0) O (M2 0) _).mono ?_
        rintro e w4 ⟨rfl, hB4, hR4⟩
        have lt4 := hR4.pl.lt
        have R10 := hR4.c10
        have hC4 := hide ((unhide hC3).below hB4)
        have hI4 := hide ((unhide hI3).of_heap (hB4.block _ (unhide hI3).1.lt))
        have hO4 := hide ((unhide hO3).of_heap (hB4.block _ (unhide hO3).1.lt))
        have hw4 := hide (show Below w.heap.size w w4 from (unhide hw3).trans (hB4.mono (unhide hw3).size))
        have hR4' := hide hR4
        clear hC3 hI3 hO3 hw3 hB4 hR4
        generalize hrb : w3.heap.size = R at *
        clear hrb
        go_wp2_with fail
        refine (setSkip_any w4 R (.pointer none) (unhide hR4').pl R10).mono ?_
        rintro e w5 ⟨rfl, rfl⟩
        have hh : ∀ b, b ≠ R → (w4.setCell ⟨R, 10, none⟩ (.pointer (some ⟨R, 0, none⟩))).heap[b]? = w4.heap[b]? := fun b h => Below.heap_setCell w4 ⟨R, 10, none⟩ _ b h
        have FIN := hide (unhide fin (w4.setCell ⟨R, 10, none⟩ (.pointer (some ⟨R, 0, none⟩))) R ((unhide hw4).setCell (p := ⟨R, 10, none⟩) (by have := unhide hcb'; simp only; omega) _)
          (Chn.zero _ _ _ _ _ _ _ _ (unhide hC4).base ((unhide hC4).pcb.set _ _) (fun q hq => by obtain ⟨v, hv⟩ := (unhide hC4).cex q hq; exact cell?_setCell_some hv)) (by omega)
          (by
            have := (unhide hR4').skip (some ⟨R, 0, none⟩)
            rw [show prevOf (upN rb 0 R) 0 = none from rfl, unhide k0, show (0 : Int).toNat = 0 from rfl, upN_at]
            have e : ((fi M1 M2 (0 + 1) : Nat) : Int) = (t : Int) + (M1 0 : Nat) + (M2 0 : Nat) := by have := unhide nx2; omega
            rw [e]; exact this)
          ((unhide hI4).of_heap (hh _ (by omega))) ((unhide hO4).of_heap (hh _ (by omega))))
        obtain ⟨v, hv⟩ := (unhide hC4).cex 0 hlt
        have hv5 : (w4.setCell ⟨R, 10, none⟩ (.pointer (some ⟨R, 0, none⟩))).cell? ⟨cb, 0, none⟩ = some v := (cell_of_heap (hh cb (by omega)) 0).trans hv
        have hf5 := ((unhide hC4).pcb.set ⟨R, 10, none⟩ (.pointer (some ⟨R, 0, none⟩))).frozen 0
        have hhd := hide hh
        clear hh hv R10
        generalize (w4.setCell ⟨R, 10, none⟩ (.pointer (some ⟨R, 0, none⟩))) = w5 at *
        go_wp2_with fail
        go_roundg (gk - 1)
        case measure => omega
        case rel => exact ⟨(unhide FIN).1, 0 + 1, t + M1 0 + M2 0, by omega, by go_num, by omega, by go_num, nb2, nx2, (unhide FIN).2⟩
      · obtain ⟨p, rfl⟩ : ∃ p, j = p + 1 := ⟨j - 1, by omega⟩
        obtain ⟨b3, o3, rfl, hb3, hc3⟩ := ((unhide H3).below (unhide hw3) (Nat.le_refl _)).at' (p + 1) hlt
        have kb := (unhide HW).2.2.2.2 (p + 1) (by omega) hlt
        obtain ⟨kn, hkn⟩ := Int.eq_ofNat_of_zero_le kb.1
        rw [hkn] at hc3 kb
        have kl : kn < p + 1 := by omega
        have hkn' := hide hkn
        clear kb hkn
        have p1 := (unhide hC3).ptr p (by omega)
        have p2 := (unhide hC3).ptr kn kl
        go_wp2_with fail
        refine (newResp_any w3 (some ⟨rb p, 0, none⟩) (some ⟨rb kn, 0, none⟩) _ I (M1 (p + 1)) O (M2 (p + 1)) _).mono ?_
        rintro e w4 ⟨rfl, hB4, hR4⟩
        have lt4 := hR4.pl.lt
        have hC4 := hide ((unhide hC3).below hB4)
        have hI4 := hide ((unhide hI3).of_heap (hB4.block _ (unhide hI3).1.lt))
        have hO4 := hide ((unhide hO3).of_heap (hB4.block _ (unhide hO3).1.lt))
        have hw4 := hide (show Below w.heap.size w w4 from (unhide hw3).trans (hB4.mono (unhide hw3).size))
        have hR4' := hide hR4
        clear hC3 hI3 hO3 hw3 hB4 hR4 p1 p2 hc3
        generalize hrb : w3.heap.size = R at *
        clear hrb
        have FIN := hide (unhide fin w4 R (unhide hw4) (unhide hC4) (by omega)
          (by
            have e : ((fi M1 M2 (p + 1 + 1) : Nat) : Int) = (t : Int) + (M1 (p + 1) : Nat) + (M2 (p + 1) : Nat) := by have := unhide nx2; omega
            rw [e, unhide hkn', show ((kn : Int)).toNat = kn from rfl, upN_lt kl, show prevOf (upN rb (p + 1) R) (p + 1) = some ⟨rb p, 0, none⟩ by unfold prevOf; rw [if_neg (by omega), show p + 1 - 1 = p by omega, upN_lt (by omega)]]
            exact unhide hR4')
          (unhide hI4) (unhide hO4))
        obtain ⟨v, hv⟩ := (unhide hC4).cex (p + 1) hlt
        have hf5 := (unhide hC4).pcb.frozen (p + 1)
        have zz : ((p : Int) + 1 == 0) = false := by rw [beq_eq_false_iff_ne]; omega
        go_wp2_with fail
        go_roundg (gk - 1)
        case measure => omega
        case rel => exact ⟨(unhide FIN).1, p + 1 + 1, t + M1 (p + 1) + M2 (p + 1), by omega, by go_num, by omega, by go_num, nb2, nx2, (unhide FIN).2⟩
    · go_wp2_with fail
      go_ret
      obtain rfl : n = j := by omega
      refine ⟨by rw [unhide hcb']; rfl, hbw, ?_⟩
      rw [unhide hcb']; exact unhide hC
end Go.Proofs.Qxb6618114a
