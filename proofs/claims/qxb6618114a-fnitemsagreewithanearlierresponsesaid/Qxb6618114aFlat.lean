import Derived.Test.Qxb6618114aItems
namespace Go.Proofs.Qxb6618114a
open Go.RowKit
set_option linter.unusedVariables false
set_option linter.unusedSimpArgs false

/-- The flat conversation as cells: id, kind. -/
def fc (FK FI : Nat → ByteArray) : Nat → List Value
  | 0 => []
  | k + 1 => fc FK FI k ++ [.string (FI k), .string (FK k)]
theorem fc_len (FK FI : Nat → ByteArray) (k : Nat) : (fc FK FI k).length = k * 2 := by
  induction k with
  | zero => rfl
  | succ k ih => simp only [fc, List.length_append, ih, List.length_cons, List.length_nil]; omega
theorem fc_at (FK FI : Nat → ByteArray) {p k : Nat} (h : p < k) : (fc FK FI k)[p * 2]? = some (.string (FI p)) ∧ (fc FK FI k)[p * 2 + 1]? = some (.string (FK p)) := by
  induction k with
  | zero => omega
  | succ k ih =>
    simp only [fc]
    by_cases e : p = k
    · subst e
      rw [List.getElem?_append_right (by rw [fc_len]; omega), List.getElem?_append_right (by rw [fc_len]; omega), fc_len, show p * 2 - p * 2 = 0 by omega, show p * 2 + 1 - p * 2 = 1 by omega]
      exact ⟨rfl, rfl⟩
    · rw [List.getElem?_append_left (by rw [fc_len]; omega), List.getElem?_append_left (by rw [fc_len]; omega)]
      exact ih (by omega)

/-- There is a flat conversation. -/
def flatF (M1 M2 : Nat → Nat) (S1 S2 : Nat → Nat → ByteArray) : Nat → Nat → ByteArray × ByteArray
  | 0, _ => (iKind, iKind)
  | n + 1, p => if p < fi M1 M2 n then flatF M1 M2 S1 S2 n p else if p < fi M1 M2 n + M1 n then (iKind, S1 n (p - fi M1 M2 n)) else (oKind, S2 n (p - fi M1 M2 n - M1 n))
theorem flatF_flat (M1 M2 : Nat → Nat) (S1 S2 : Nat → Nat → ByteArray) (n : Nat) : Flat n M1 M2 S1 S2 (fun p => (flatF M1 M2 S1 S2 n p).1) (fun p => (flatF M1 M2 S1 S2 n p).2) := by
  induction n with
  | zero => exact ⟨fun j h => by omega, fun j h => by omega⟩
  | succ n ih =>
    refine ⟨fun j hj k hk => ?_, fun j hj k hk => ?_⟩
    · simp only [flatF]
      by_cases e : j = n
      · subst e
        rw [if_neg (by omega), if_pos (by omega), show fi M1 M2 j + k - fi M1 M2 j = k by omega]
        exact ⟨rfl, rfl⟩
      · have h1 := fi_mono M1 M2 (show j + 1 ≤ n by omega)
        rw [fi_succ] at h1
        rw [if_pos (by omega)]
        exact ih.inp j (by omega) k hk
    · simp only [flatF]
      by_cases e : j = n
      · subst e
        rw [if_neg (by omega), if_neg (by omega), show fi M1 M2 j + M1 j + k - fi M1 M2 j - M1 j = k by omega]
        exact ⟨rfl, rfl⟩
      · have h1 := fi_mono M1 M2 (show j + 1 ≤ n by omega)
        rw [fi_succ] at h1
        rw [if_pos (by omega)]
        exact ih.out j (by omega) k hk

theorem info96 : (Try.prog.info? 96).map (fun i => (i.zero, i.size, i.bytes)) = some (some (.agg #[.string { data := #[] }, .string { data := #[] }]), 2, 32) := by kernel_rfl

/-- What one append more does. -/
theorem flat_step {w wr w1 : World} {FK FI : Nat → ByteArray} {N : Nat} {v v' : Value} {o : Obj} {s kk : ByteArray} (hbw : Below w.heap.size w wr) (hown : wr.ownsRow w.heap.size 96 2 v N (fc FK FI N))
    (hk : FK N = kk ∧ FI N = s) (hown' : w1.ownsRow w.heap.size 96 2 v' (N + 1) (fc FK FI N ++ [.string s, .string kk])) (hg : (wr.alloc o).grownBy w1 v.ownBlock) :
    Below w.heap.size w w1 ∧ Hid (w1.ownsRow w.heap.size 96 2 v' (N + 1) (fc FK FI (N + 1))) := by
  obtain ⟨rfl, rfl⟩ := hk
  exact ⟨(hbw.alloc hbw.size o).grown hg (by rw [show (wr.alloc o).heap.size = wr.heap.size + 1 from Array.size_push _]; have := hbw.size; omega) (fun k hk => (hown.lt k hk).1), hide hown'⟩

set_option maxRecDepth 100000 in
set_option maxHeartbeats 4000000 in
theorem flatten_any (w : World) (a1 a2 : Option Addr) (n c1 c2 : Nat) (M1 M2 : Nat → Nat) (S1 S2 : Nat → Nat → ByteArray) (FK FI : Nat → ByteArray) (h1 : Outer w a1 n M1 S1) (h2 : Outer w a2 n M2 S2) (hF : Flat n M1 M2 S1 S2 FK FI)
    (hn : n ≤ 65536) (hs : fi M1 M2 n ≤ 131072) :
    Calls Try.prog 22 #[.slice a1 n c1, .slice a2 n c2] w fun e w' => (∃ v, Hid (w'.ownsRow w.heap.size 96 2 v (fi M1 M2 n) (fc FK FI (fi M1 M2 n))) ∧ e = .returned v) ∧ Below w.heap.size w w' := by
  have H1 := hide h1
  have H2 := hide h2
  have HF := hide hF
  have mono := hide (fun i (h : i ≤ n) => (show fi M1 M2 i ≤ 131072 from Nat.le_trans (fi_mono M1 M2 h) hs))
  clear h1 h2 hF hs
  obtain ⟨i0, hi0, hz0, hz1, hz2⟩ := info_parts info96
  have T0 := hide hi0
  have T1 := hide hz0
  have T2 := hide hz1
  have T3 := hide hz2
  clear hi0 hz0 hz1 hz2
  go_enter Try.func22, Try.ntmps22
  go_wp2_with fail
  go_loopg [5, 6] (n + 1) (fun g v k wr => Below w.heap.size w wr ∧ ∃ (j N : Nat), j ≤ n ∧ k = .int .i64 j ∧ g + j = n + 1 ∧ Hid (N = fi M1 M2 j) ∧ Hid (wr.ownsRow w.heap.size 96 2 v N (fc FK FI N)))
  case atStart => exact ⟨Below.refl _ _, 0, 0, by omega, rfl, by omega, hide rfl, hide (World.ownsRow_nil _ _ _ _)⟩
  case round =>
    rename_i v5 v6
    obtain ⟨hbw, j, N, hj, rfl, hg, hN, hown⟩ := hrel
    by_cases hlt : j < n
    · obtain ⟨gc, hgc⟩ : ∃ x, x = gk := ⟨_, rfl⟩
      go_wp2_with fail
      go_loopg [5, 7] (M1 j + 1) (fun g v k wr => Below w.heap.size w wr ∧ ∃ (q N : Nat), q ≤ M1 j ∧ k = .int .i64 q ∧ g + q = M1 j + 1 ∧ Hid (N = fi M1 M2 j + q) ∧ Hid (wr.ownsRow w.heap.size 96 2 v N (fc FK FI N)))
      case atStart => exact ⟨hbw, 0, N, by omega, rfl, by omega, hide (by rw [unhide hN]; omega), hown⟩
      case round =>
        clear hN hown hbw
        obtain ⟨hbw, q, N, hq, rfl, hg2, hN, hown⟩ := hrel
        obtain ⟨b, o, ia, ic, rfl, hb, hc, hI⟩ := ((unhide H1).below hbw (Nat.le_refl _)).at' j hlt
        have hm := hI.small
        unfold maxLen at hm
        by_cases hlt2 : q < M1 j
        · obtain ⟨b', o', rfl, hb', hc'⟩ := hI.at' q hlt2
          have nb := unhide mono (j + 1) (by omega)
          have hNb : N + 1 ≤ 131072 := by have := unhide hN; rw [fi_succ] at nb; omega
          have qb : q + 1 ≤ 131072 := by have := unhide hN; omega
          have hFl := hide (show FK N = iKind ∧ FI N = S1 j q from by rw [unhide hN]; exact (unhide HF).inp j hlt q hlt2)
          have STP := hide (fun (w1 : World) (v' : Value) (ob : Obj) h1 h2 => flat_step (w1 := w1) (v' := v') (o := ob) hbw (unhide hown) (unhide hFl) h1 h2)
          have hbs := hbw.size
          clear hI nb hm
          generalize S1 j q = s at *
          go_wp2_with (at_builtin; refine wpList_append_own _ rfl (.tmp 24) (.tmp 33) 52 rfl w.heap.size 96 i0 (.agg #[.string { data := #[] }, .string { data := #[] }]) 2 32 Try.underlying52 (unhide T0) (unhide T1) (unhide T2) (unhide T3) rfl (by decide) _ _ _ rfl ((unhide hown).alloc _) ⟨wr.heap.size, 0, none⟩ 1 1 [.string s, .string { data := #[109, 101, 115, 115, 97, 103, 101] }] rfl rfl ?c1 ?c2 ?c3 ?c4 ?c5 ?_)
          case c1 =>
            intro j u hj
            match j, hj with
            | 0, hj => simp at hj; subst hj; rw [show (⟨wr.heap.size, 0, none⟩ : Addr).add 0 = ⟨wr.heap.size, 0, none⟩ from rfl, cell_new]; rfl
            | 1, hj => simp at hj; subst hj; rw [show (⟨wr.heap.size, 0, none⟩ : Addr).add 1 = ⟨wr.heap.size, 1, none⟩ from rfl, cell_new]; rfl
          case c2 =>
            intro u hu
            simp at hu
            rcases hu with rfl | rfl <;> rfl
          case c3 => unfold maxLen; omega
          case c4 => omega
          case c5 => rw [show (wr.alloc _).heap.size = wr.heap.size + 1 from Array.size_push _]; omega
          intro v' w1 hown' hgrow _
          obtain ⟨x1, x2⟩ := unhide STP w1 v' _ hown' hgrow
          clear hown' hgrow STP hown hbw hbs
          go_wp2_with fail
          go_roundg (gk - 1)
          case measure => omega
          case rel => exact ⟨x1, q + 1, N + 1, by omega, by go_num, by omega, hide (by rw [unhide hN]; omega), x2⟩
        · clear hI
          go_wp2_with fail
          have hN' := hide (show N = fi M1 M2 j + M1 j by rw [unhide hN, show q = M1 j by omega])
          clear hN
          have hN := hN'
          go_loopg [5, 8] (M2 j + 1) (fun g v k wr => Below w.heap.size w wr ∧ ∃ (q N : Nat), q ≤ M2 j ∧ k = .int .i64 q ∧ g + q = M2 j + 1 ∧ Hid (N = fi M1 M2 j + M1 j + q) ∧ Hid (wr.ownsRow w.heap.size 96 2 v N (fc FK FI N)))
          case atStart => exact ⟨hbw, 0, N, by omega, rfl, by omega, hide (by rw [unhide hN]; omega), hown⟩
          case round =>
            clear hN hown hbw
            obtain ⟨hbw, q, N, hq, rfl, hg2, hN, hown⟩ := hrel
            obtain ⟨b, o, ia, ic, rfl, hb, hc, hI⟩ := ((unhide H2).below hbw (Nat.le_refl _)).at' j hlt
            have hm := hI.small
            unfold maxLen at hm
            by_cases hlt2 : q < M2 j
            · obtain ⟨b', o', rfl, hb', hc'⟩ := hI.at' q hlt2
              have nb := unhide mono (j + 1) (by omega)
              have hNb : N + 1 ≤ 131072 := by have := unhide hN; rw [fi_succ] at nb; omega
              have qb : q + 1 ≤ 131072 := by have := unhide hN; omega
              have hFl := hide (show FK N = oKind ∧ FI N = S2 j q from by rw [unhide hN]; exact (unhide HF).out j hlt q hlt2)
              have STP := hide (fun (w1 : World) (v' : Value) (ob : Obj) h1 h2 => flat_step (w1 := w1) (v' := v') (o := ob) hbw (unhide hown) (unhide hFl) h1 h2)
              have hbs := hbw.size
              clear hI nb hm
              generalize S2 j q = s at *
              go_wp2_with (at_builtin; refine wpList_append_own _ rfl (.tmp 44) (.tmp 53) 52 rfl w.heap.size 96 i0 (.agg #[.string { data := #[] }, .string { data := #[] }]) 2 32 Try.underlying52 (unhide T0) (unhide T1) (unhide T2) (unhide T3) rfl (by decide) _ _ _ rfl ((unhide hown).alloc _) ⟨wr.heap.size, 0, none⟩ 1 1 [.string s, .string { data := #[102, 117, 110, 99, 116, 105, 111, 110, 95, 99, 97, 108, 108] }] rfl rfl ?c1 ?c2 ?c3 ?c4 ?c5 ?_)
              case c1 =>
                intro j u hj
                match j, hj with
                | 0, hj => simp at hj; subst hj; rw [show (⟨wr.heap.size, 0, none⟩ : Addr).add 0 = ⟨wr.heap.size, 0, none⟩ from rfl, cell_new]; rfl
                | 1, hj => simp at hj; subst hj; rw [show (⟨wr.heap.size, 0, none⟩ : Addr).add 1 = ⟨wr.heap.size, 1, none⟩ from rfl, cell_new]; rfl
              case c2 =>
                intro u hu
                simp at hu
                rcases hu with rfl | rfl <;> rfl
              case c3 => unfold maxLen; omega
              case c4 => omega
              case c5 => rw [show (wr.alloc _).heap.size = wr.heap.size + 1 from Array.size_push _]; omega
              intro v' w1 hown' hgrow _
              obtain ⟨x1, x2⟩ := unhide STP w1 v' _ hown' hgrow
              clear hown' hgrow STP hown hbw hbs
              go_wp2_with fail
              go_roundg (gk - 1)
              case measure => omega
              case rel => exact ⟨x1, q + 1, N + 1, by omega, by go_num, by omega, hide (by rw [unhide hN]; omega), x2⟩
            · clear hI
              go_wp2_with fail
              have hN' := hide (show N = fi M1 M2 j + M1 j + M2 j by rw [unhide hN, show q = M2 j by omega])
              clear hN
              go_roundg (gc - 1)
              case measure => omega
              case rel => exact ⟨hbw, j + 1, N, by omega, by go_num, by omega, hide (by rw [unhide hN', fi_succ]; omega), hown⟩
    · go_wp2_with fail
      go_ret
      have := unhide hN
      rw [show j = n by omega] at this
      subst this
      exact ⟨⟨_, hown, rfl⟩, hbw⟩
end Go.Proofs.Qxb6618114a
