import Derived.Test.Qxb6618660aStart
namespace Go.Proofs.Qxb6618660a
open Go.RowKit Go.MuLone Go.Maps Go.WideMaps
set_option linter.unusedVariables false
set_option linter.unusedSimpArgs false

/-! ### the bound laid by program, of law B -/
set_option maxHeartbeats 1000000 in
theorem bytes25_any (w : World) (b o n cap : Nat) (x y : Int) (H : Nat → VH) (hA : Args w b o n H) :
    Calls Try.prog 25 #[.slice (some ⟨b, o, none⟩) n cap, .int .i64 x, .int .i64 y] w fun e w' => BytesSays n H e ∧ Below w.heap.size w w' := by
  have hn := hA.small
  have A := hide hA
  clear hA
  go_enter Try.func25, Try.ntmps25
  go_wp2
  go_loopg [7, 8] (n + 1) (fun g z k wr => Below w.heap.size w wr ∧ ∃ (j : Nat) (zz : Int), j ≤ n ∧ k = .int .i64 j ∧ g + j = n + 1 ∧ z = .int .i64 zz ∧ 0 ≤ zz ∧ zz ≤ 1048576 ∧ SmallNames j H)
  case atStart => exact ⟨Below.refl _ _, 0, _, by omega, rfl, by omega, rfl, by omega, by omega, fun q h => by omega⟩
  case round =>
    obtain ⟨hbw, j, zz, hj, rfl, hg, rfl, z0, z1, hq⟩ := hrel
    have hq' := hide hq
    clear hq
    by_cases hlt : j < n
    · have Ar := (unhide A).below hbw
      obtain ⟨j0, j1, j2, j3, j4⟩ := Ar.at' j hlt
      clear Ar j1 j2 j3 j4
      have next := hide (fun (h : (H j).client.size ≤ 1048576) => (show SmallNames (j + 1) H from fun q h2 => by rcases Nat.lt_succ_iff_lt_or_eq.1 h2 with h2 | rfl; exact unhide hq' q h2; exact h))
      by_cases e : (H j).client.size ≤ 1048576
      · by_cases e2 : zz + (H j).client.size ≤ 1048576
        · go_wp2
          go_roundg (gk - 1)
          case measure => omega
          case rel => exact ⟨hbw, j + 1, _, by omega, by go_num, by omega, rfl, by omega, by omega, unhide next e⟩
        · go_wp2
          go_ret
          exact ⟨⟨false, fun h => (by cases h), rfl⟩, hbw⟩
      · go_wp2
        go_ret
        exact ⟨⟨false, fun h => (by cases h), rfl⟩, hbw⟩
    · go_wp2
      go_ret
      exact ⟨⟨true, fun _ q h => unhide hq' q (by omega), rfl⟩, hbw⟩

theorem bytes25_zero (w : World) (a : Option Addr) (cap : Nat) (x y : Int) :
    Calls Try.prog 25 #[.slice a 0 cap, .int .i64 x, .int .i64 y] w fun e w' => e = .returned (.bool true) ∧ w' = w := by
  go_enter Try.func25, Try.ntmps25
  go_wp2
  go_loopg [7, 8] 1 (fun g z k wr => wr = w ∧ k = .int .i64 0)
  case atStart => exact ⟨rfl, rfl⟩
  case round =>
    obtain ⟨rfl, rfl⟩ := hrel
    go_wp2
    go_ret
    exact ⟨rfl, rfl⟩
theorem bytes25_long (w : World) (a : Option Addr) (len cap : Nat) (x y : Int) (h : 1048576 < len) (hm : len ≤ maxLen) :
    Calls Try.prog 25 #[.slice a len cap, .int .i64 x, .int .i64 y] w fun e w' => e = .returned (.bool false) ∧ w' = w := by
  unfold maxLen at hm
  go_enter Try.func25, Try.ntmps25
  go_wp2
  go_ret
  exact ⟨rfl, rfl⟩


theorem heap_puts {x : Nat} : ∀ (ws : List (Nat × Nat × Value)) (w : World), (∀ e ∈ ws, ¬ e.1 = x) → (puts w ws).heap[x]? = w.heap[x]?
  | [], w, _ => rfl
  | e :: ws, w, h => by
    rw [puts_cons, heap_puts ws _ (fun y hy => h y (by simp [hy]))]
    exact Below.heap_setCell w _ _ x (fun y => h e (by simp) y.symm)

/-- Add of what takes all away, and what it leaves alone. -/
theorem Built.drain {w : World} {B0 bb mb pb i np : Nat} {N : Nat} {H : Nat → VH} {hb : Nat → Nat} {cb : ByteArray → Nat} {ct : Nat → Int} {D : DataW Unit} (B : Built w B0 bb mb pb N i np H hb cb ct D)
    {j : Nat} (hj : j < i) (n : Int) (hn : -1099511627776 ≤ ct j + n ∧ ct j + n ≤ 1099511627776) (hg : (H j).gone = false) (L : Nat) (l1 : bb < L) (l2 : ∀ j, j < i → hb j < L) (l3 : ∀ s, Pres H i s → cb s < L) :
    Calls Try.prog 9 #[.pointer (some ⟨hb j, 0, none⟩), .int .i64 n] w fun e w' => e = .returned (.tuple #[]) ∧ Built w' B0 bb mb pb N i np H hb cb (updC ct j (ct j + n)) D ∧ Below B0 w w' ∧ (∀ x, L ≤ x → w'.heap[x]? = w.heap[x]?) ∧ w'.heap.size = w.heap.size := by
  have pj : Pres H i (H j).client := ⟨j, hj, rfl⟩
  have hlj := B.hlo j hj
  have clj := B.clo _ pj
  have hcj := B.hc j _ hj pj
  have hbpb := B.bpb
  have ll2 := l2 j hj
  have ll3 := l3 _ pj
  obtain ⟨u, hu⟩ := B.b3
  obtain ⟨o, ho⟩ := B.b4
  have hh := B.hh j hj
  have ism := B.isml
  have cj := B.cbd j hj
  have s1 := sumF_bd' (f := hF H ct (H j).client) (B := 1099511627776) i (fun q hq => by have := B.cbd q hq; unfold hF; split <;> omega)
  have s2 := sumF_bd' (f := oF H ct (H j).client) (B := 1099511627776) i (fun q hq => by have := B.cbd q hq; unfold oF; split <;> omega)
  have ap : Apart3 (hb j) bb (cb (H j).client) := ⟨by omega, by omega, by omega, by omega, by omega, by omega⟩
  have h6 := hh.h6
  rw [hg] at h6
  by_cases z : (H j).stands = 0
  · refine (Add_open (hb j) bb (cb (H j).client) (H j).st n u o _ _ (ct j) (H j).yields w (B.h0 j hj) (B.h1 j hj) hh.h3 hh.h4 hh.h5 h6 z B.b0 hu ho (B.c1 _ pj) (B.c2 _ pj) ap (B.hp j hj).frozen B.pbb.frozen (B.cp _ pj).frozen).mono ?_
    rintro e w' ⟨rfl, rfl⟩
    rw [wrap_id (sumF (hF H ct (H j).client) i + n) (by omega) (by omega), wrap_id (sumF (oF H ct (H j).client) i + n) (by omega) (by omega), wrap_id (ct j + n) (by omega) (by omega)]
    have T : Built (puts w [(bb, 0, .int .i32 1), (bb, 3, .int .i64 (wrap64 (u + n))), (cb (H j).client, 1, .int .i64 (sumF (hF H ct (H j).client) i + n)), (cb (H j).client, 2, .int .i64 (sumF (oF H ct (H j).client) i + n)), (bb, 4, .int .i64 (wrap64 (o + n))), (hb j, 3, .int .i64 (ct j + n)), (bb, 0, .int .i32 0)]) B0 bb mb pb N i np H hb cb (updC ct j (ct j + n)) D ∧ Below B0 w (puts w [(bb, 0, .int .i32 1), (bb, 3, .int .i64 (wrap64 (u + n))), (cb (H j).client, 1, .int .i64 (sumF (hF H ct (H j).client) i + n)), (cb (H j).client, 2, .int .i64 (sumF (oF H ct (H j).client) i + n)), (bb, 4, .int .i64 (wrap64 (o + n))), (hb j, 3, .int .i64 (ct j + n)), (bb, 0, .int .i32 0)]) := by
      refine B.turn hj (ct j + n) hn _ ?_ ?_ ?_ ?_ ?_ ?_ ?_
      · simp
      · exact cell_mid [_, _, _, _, _, _] [] B.b0 (by simp)
      · exact ⟨_, cell_mid [_] [_, _, _, _, _] hu (by simp <;> omega)⟩
      · exact ⟨_, cell_mid [_, _, _, _] [_, _] ho (by simp <;> omega)⟩
      · rw [show ct j + n - ct j = n by omega]; exact cell_mid [_, _] [_, _, _, _] (B.c1 _ pj) (by simp <;> omega)
      · rw [if_pos z, show ct j + n - ct j = n by omega]; exact cell_mid [_, _, _] [_, _, _] (B.c2 _ pj) (by simp <;> omega)
      · exact cell_mid [_, _, _, _, _] [_] hh.h3 (by simp <;> omega)
    refine ⟨rfl, T.1, T.2, fun x hx => ?_, ?_⟩
    · exact heap_puts [(bb, 0, .int .i32 1), (bb, 3, .int .i64 (wrap64 (u + n))), (cb (H j).client, 1, .int .i64 (sumF (hF H ct (H j).client) i + n)), (cb (H j).client, 2, .int .i64 (sumF (oF H ct (H j).client) i + n)), (bb, 4, .int .i64 (wrap64 (o + n))), (hb j, 3, .int .i64 (ct j + n)), (bb, 0, .int .i32 0)] w (by simp; omega)
    · exact size_puts [(bb, 0, .int .i32 1), (bb, 3, .int .i64 (wrap64 (u + n))), (cb (H j).client, 1, .int .i64 (sumF (hF H ct (H j).client) i + n)), (cb (H j).client, 2, .int .i64 (sumF (oF H ct (H j).client) i + n)), (bb, 4, .int .i64 (wrap64 (o + n))), (hb j, 3, .int .i64 (ct j + n)), (bb, 0, .int .i32 0)] w
  · refine (Add_shut (hb j) bb (cb (H j).client) (H j).st n u _ (ct j) (H j).yields w (B.h0 j hj) (B.h1 j hj) hh.h3 hh.h4 hh.h5 h6 z B.b0 hu (B.c1 _ pj) ap (B.hp j hj).frozen B.pbb.frozen (B.cp _ pj).frozen).mono ?_
    rintro e w' ⟨rfl, rfl⟩
    rw [wrap_id (sumF (hF H ct (H j).client) i + n) (by omega) (by omega), wrap_id (ct j + n) (by omega) (by omega)]
    have T : Built (puts w [(bb, 0, .int .i32 1), (bb, 3, .int .i64 (wrap64 (u + n))), (cb (H j).client, 1, .int .i64 (sumF (hF H ct (H j).client) i + n)), (hb j, 3, .int .i64 (ct j + n)), (bb, 0, .int .i32 0)]) B0 bb mb pb N i np H hb cb (updC ct j (ct j + n)) D ∧ Below B0 w (puts w [(bb, 0, .int .i32 1), (bb, 3, .int .i64 (wrap64 (u + n))), (cb (H j).client, 1, .int .i64 (sumF (hF H ct (H j).client) i + n)), (hb j, 3, .int .i64 (ct j + n)), (bb, 0, .int .i32 0)]) := by
      refine B.turn hj (ct j + n) hn _ ?_ ?_ ?_ ?_ ?_ ?_ ?_
      · simp
      · exact cell_mid [_, _, _, _] [] B.b0 (by simp)
      · exact ⟨_, cell_mid [_] [_, _, _] hu (by simp <;> omega)⟩
      · exact ⟨o, (cell_puts _ w (by simp <;> omega)).trans ho⟩
      · rw [show ct j + n - ct j = n by omega]; exact cell_mid [_, _] [_, _] (B.c1 _ pj) (by simp <;> omega)
      · rw [if_neg z, Int.add_zero]; exact (cell_puts _ w (by simp <;> omega)).trans (B.c2 _ pj)
      · exact cell_mid [_, _, _] [_] hh.h3 (by simp <;> omega)
    refine ⟨rfl, T.1, T.2, fun x hx => ?_, ?_⟩
    · exact heap_puts [(bb, 0, .int .i32 1), (bb, 3, .int .i64 (wrap64 (u + n))), (cb (H j).client, 1, .int .i64 (sumF (hF H ct (H j).client) i + n)), (hb j, 3, .int .i64 (ct j + n)), (bb, 0, .int .i32 0)] w (by simp; omega)
    · exact size_puts [(bb, 0, .int .i32 1), (bb, 3, .int .i64 (wrap64 (u + n))), (cb (H j).client, 1, .int .i64 (sumF (hF H ct (H j).client) i + n)), (hb j, 3, .int .i64 (ct j + n)), (bb, 0, .int .i32 0)] w

/-- Give back all that the holder holds. -/
theorem Built.give {w : World} {B0 bb mb pb i np : Nat} {N : Nat} {H : Nat → VH} {hb : Nat → Nat} {cb : ByteArray → Nat} {ct : Nat → Int} {D : DataW Unit} (B : Built w B0 bb mb pb N i np H hb cb ct D)
    {j : Nat} (hj : j < i) (hg : (H j).gone = false) (L : Nat) (l1 : bb < L) (l2 : ∀ j, j < i → hb j < L) (l3 : ∀ s, Pres H i s → cb s < L) (c : Int) (hc : c = ct j) :
    Calls Try.prog 17 #[.pointer (some ⟨hb j, 0, none⟩), .int .i64 c] w fun e w' => e = .returned (.tuple #[]) ∧ Built w' B0 bb mb pb N i np H hb cb (updC ct j 0) D ∧ Below B0 w w' ∧ (∀ x, L ≤ x → w'.heap[x]? = w.heap[x]?) ∧ w'.heap.size = w.heap.size := by
  have cj := B.cbd j hj
  have K := B.drain hj (-c) (by rw [hc]; omega) hg L l1 l2 l3
  rw [show ct j + -c = 0 by omega] at K
  have K' := hide K
  have b0 : -1099511627776 ≤ c := by omega
  have b1 : c ≤ 1099511627776 := by omega
  clear K cj hc B l2 l3
  go_enter Try.func17, Try.ntmps17
  go_wp2_with fail
  refine (unhide K').mono ?_
  rintro e w' ⟨rfl, h⟩
  have h' := hide h
  clear h
  go_wp2
  go_end0
  exact ⟨rfl, unhide h'⟩

theorem cost_any (w : World) (b : Nat) (c : Int) (h3 : w.cell? ⟨b, 3, none⟩ = some (.int .i64 c)) :
    Calls Try.prog 13 #[.pointer (some ⟨b, 0, none⟩)] w fun e w' => e = .returned (.int .i64 c) ∧ w' = w := by
  go_enter Try.func13, Try.ntmps13
  go_wp2
  go_ret
  exact ⟨rfl, rfl⟩

/-- zzIndexOf over the state. -/
theorem Built.index {w : World} {B0 bb mb pb N n : Nat} {H : Nat → VH} {hb : Nat → Nat} {cb : ByteArray → Nat} {ct : Nat → Int} {D : DataW Unit} (B : Built w B0 bb mb pb N n n H hb cb ct D) {j : Nat} (hj : j < n) :
    Calls Try.prog 26 #[.slice (some ⟨pb, 0, none⟩) n n, .pointer (some ⟨hb j, 0, none⟩)] w fun e w' => e = .returned (.int .i64 j) ∧ w' = w := by
  have ism := B.isml
  have pt := hide (fun q (hq : q < n) => B.ptr q hq)
  have ql := hide (fun q (hq : q < n) => run_eql24 w (hb q) (hb j) (B.hp q hq) (B.hp j hj))
  have inj := hide (fun q (hq : q < n) (e : hb q = hb j) => B.hinj q j hq hj e)
  clear B
  go_enter Try.func26, Try.ntmps26
  go_wp2
  go_loopg [5] (j + 1) (fun g i wr => wr = w ∧ ∃ q : Nat, q ≤ j ∧ i = .int .i64 q ∧ g + q = j + 1)
  case atStart => exact ⟨rfl, 0, by omega, rfl, by omega⟩
  case round =>
    obtain ⟨rfl, q, hq, rfl, hg⟩ := hrel
    have p0 := unhide pt q (by omega)
    have e0 := unhide ql q (by omega)
    by_cases e : q = j
    · have e1 : (hb q == hb j) = true := by simp [e]
      rw [e1] at e0
      have e' := hide e
      clear e1 e
      have t1 : q ≤ j := hq
      go_wp2
      go_ret
      exact ⟨by rw [unhide e']; rfl, rfl⟩
    · have e1 : (hb q == hb j) = false := by
        rw [beq_eq_false_iff_ne]; exact fun x => e (unhide inj q (by omega) x)
      rw [e1] at e0
      clear e1
      go_wp2
      go_roundg (gk - 1)
      case measure => omega
      case rel => exact ⟨rfl, q + 1, by omega, by go_num, by omega⟩
end Go.Proofs.Qxb6618660a
