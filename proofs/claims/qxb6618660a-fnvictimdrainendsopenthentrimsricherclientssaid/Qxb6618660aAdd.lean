import Derived.Test.Qxb6618660aBuilt
namespace Go.Proofs.Qxb6618660a
open Go.RowKit Go.MuLone Go.Maps Go.WideMaps
set_option linter.unusedVariables false
set_option linter.unusedSimpArgs false

theorem some_puts {a : Addr} : ∀ (ws : List (Nat × Nat × Value)) (w : World) {u : Value}, w.cell? a = some u → ∃ v, (puts w ws).cell? a = some v
  | [], w, u, h => ⟨u, h⟩
  | e :: ws, w, u, h => by
    rw [puts_cons]
    obtain ⟨v, hv⟩ := cell?_setCell_some (p := ⟨e.1, e.2.1, none⟩) (x := e.2.2) h
    exact some_puts ws _ hv
theorem puts_append : ∀ (a b : List (Nat × Nat × Value)) (w : World), puts w (a ++ b) = puts (puts w a) b
  | [], b, w => rfl
  | e :: a, b, w => by rw [List.cons_append, puts_cons, puts_cons, puts_append a b]
theorem cell_mid {w : World} {b o : Nat} {u v : Value} (a c : List (Nat × Nat × Value)) (h : w.cell? ⟨b, o, none⟩ = some u) (hc : ∀ e ∈ c, e.1 = b → ¬ e.2.1 = o) :
    (puts w (a ++ (b, o, v) :: c)).cell? ⟨b, o, none⟩ = some v := by
  rw [puts_append, puts_cons, cell_puts c _ hc]
  obtain ⟨q, hq⟩ := some_puts a w h
  exact World.cell?_setCell_same _ _ _ hq

/-- The costs with one of them turned. -/
def updC (ct : Nat → Int) (j : Nat) (c : Int) : Nat → Int := fun k => if k = j then c else ct k

theorem Built.turn {w : World} {B0 bb mb pb N i np : Nat} {H : Nat → VH} {hb : Nat → Nat} {cb : ByteArray → Nat} {ct : Nat → Int} {D : DataW Unit} (B : Built w B0 bb mb pb N i np H hb cb ct D)
    {j : Nat} (hj : j < i) (c : Int) (hc : -1099511627776 ≤ c ∧ c ≤ 1099511627776) (ws : List (Nat × Nat × Value))
    (P : ∀ e ∈ ws, (e.1 = bb ∧ ¬ e.2.1 = 6) ∨ (e.1 = cb (H j).client ∧ (e.2.1 = 1 ∨ e.2.1 = 2)) ∨ (e.1 = hb j ∧ e.2.1 = 3))
    (v0 : (puts w ws).cell? ⟨bb, 0, none⟩ = some (.int .i32 0)) (v3 : ∃ u, (puts w ws).cell? ⟨bb, 3, none⟩ = some (.int .i64 u)) (v4 : ∃ u, (puts w ws).cell? ⟨bb, 4, none⟩ = some (.int .i64 u))
    (w1 : (puts w ws).cell? ⟨cb (H j).client, 1, none⟩ = some (.int .i64 (sumF (hF H ct (H j).client) i + (c - ct j))))
    (w2 : (puts w ws).cell? ⟨cb (H j).client, 2, none⟩ = some (.int .i64 (sumF (oF H ct (H j).client) i + (if (H j).stands = 0 then c - ct j else 0))))
    (x3 : (puts w ws).cell? ⟨hb j, 3, none⟩ = some (.int .i64 c)) :
    Built (puts w ws) B0 bb mb pb N i np H hb cb (updC ct j c) D ∧ Below B0 w (puts w ws) := by
  have hbase := B.base
  have hmbb := B.mbb
  have hbpb := B.bpb
  have hlj := B.hlo j hj
  have pj : Pres H i (H j).client := ⟨j, hj, rfl⟩
  have clj := B.clo _ pj
  have hcj := B.hc j _ hj pj
  have other : ∀ b o, (b = bb → o = 6) → (b = cb (H j).client → ¬ (o = 1 ∨ o = 2)) → (b = hb j → ¬ o = 3) → (puts w ws).cell? ⟨b, o, none⟩ = w.cell? ⟨b, o, none⟩ := by
    intro b o g1 g2 g3
    refine cell_puts ws w fun e he h1 h2 => ?_
    rcases P e he with h | h | h
    · have := g1 (by omega); omega
    · have := g2 (by omega); omega
    · have := g3 (by omega); omega
  refine ⟨?_, below_puts ws w (Below.refl _ _) fun e he => by rcases P e he with h | h | h <;> omega⟩
  constructor
  · exact B.base
  · exact B.mbb
  · exact B.bpb
  · exact B.hlo
  · exact B.clo
  · exact B.hinj
  · exact B.cinj
  · exact B.hc
  · exact v0
  · exact v3
  · exact v4
  · exact (other bb 6 (fun _ => rfl) (by omega) (by omega)).trans B.b6
  · exact plain_puts _ _ B.pbb
  · exact owns_puts ws w B.own fun e he => by rcases P e he with h | h | h <;> omega
  · exact B.says
  · intro k hk; have := B.hlo k hk; have := B.hc k _ hk pj; exact (other (hb k) 0 (by omega) (by omega) (by omega)).trans (B.h0 k hk)
  · intro k hk; have := B.hlo k hk; have := B.hc k _ hk pj; exact (other (hb k) 1 (by omega) (by omega) (by omega)).trans (B.h1 k hk)
  · intro k hk
    have q1 := B.hlo k hk
    have q2 := B.hc k _ hk pj
    have h := B.hh k hk
    by_cases e : k = j
    · subst e
      refine ⟨?_, ?_, ?_, ?_⟩
      · rw [x3]; simp [updC]
      · exact (other (hb k) 4 (by omega) (by omega) (by omega)).trans h.h4
      · exact (other (hb k) 5 (by omega) (by omega) (by omega)).trans h.h5
      · exact (other (hb k) 6 (by omega) (by omega) (by omega)).trans h.h6
    · have q3 : ¬ hb k = hb j := fun x => e (B.hinj k j hk hj x)
      rw [show updC ct j c k = ct k by simp [updC, e]]
      exact h.congr fun o _ _ => other (hb k) o (by omega) (by omega) (by omega)
  · intro k hk; exact plain_puts _ _ (B.hp k hk)
  · intro s hs; exact plain_puts _ _ (B.cp s hs)
  · intro s hs
    by_cases e : s = (H j).client
    · subst e
      rw [w1, sumF_upd (f := hF H ct (H j).client) (g := hF H (updC ct j c) (H j).client) i hj (fun q hq => by simp [hF, updC, hq])]
      simp [hF, updC]
    · have q1 := B.clo s hs
      have q2 : ¬ cb s = cb (H j).client := fun x => e (B.cinj _ _ hs pj x)
      have q3 := B.hc j s hj hs
      rw [other (cb s) 1 (by omega) (by omega) (by omega), B.c1 s hs, sumF_congr (f := hF H (updC ct j c) s) (g := hF H ct s) i (fun q _ => by
        simp only [hF, updC]
        by_cases hq : q = j
        · subst hq; rw [if_neg (fun x => e x.symm), if_neg (fun x => e x.symm)]
        · simp [hq])]
  · intro s hs
    by_cases e : s = (H j).client
    · subst e
      rw [w2, sumF_upd (f := oF H ct (H j).client) (g := oF H (updC ct j c) (H j).client) i hj (fun q hq => by simp [oF, updC, hq])]
      simp only [oF, updC]
      by_cases z : (H j).stands = 0
      · simp [z]
      · simp [z]
    · have q1 := B.clo s hs
      have q2 : ¬ cb s = cb (H j).client := fun x => e (B.cinj _ _ hs pj x)
      have q3 := B.hc j s hj hs
      rw [other (cb s) 2 (by omega) (by omega) (by omega), B.c2 s hs, sumF_congr (f := oF H (updC ct j c) s) (g := oF H ct s) i (fun q _ => by
        simp only [oF, updC]
        by_cases hq : q = j
        · subst hq; rw [if_neg (fun x => e x.1.symm), if_neg (fun x => e x.1.symm)]
        · simp [hq])]
  · intro s hs; have := B.clo s hs; have := B.hc j s hj hs; exact (other (cb s) 3 (by omega) (by omega) (by omega)).trans (B.c3 s hs)
  · intro s hs; have := B.clo s hs; have := B.hc j s hj hs; exact (other (cb s) 4 (by omega) (by omega) (by omega)).trans (B.c4 s hs)
  · intro s hs
    refine Chain.congr _ _ (fun b hb' => ?_) (B.ch s hs)
    obtain ⟨k, hk, _, rfl⟩ := mem_chn hb'
    have := B.hlo k hk; have := B.hc k _ hk pj
    exact other (hb k) 8 (by omega) (by omega) (by omega)
  · intro k hk; exact (other pb k (by omega) (by omega) (by omega)).trans (B.ptr k hk)
  · intro k hk
    by_cases e : k = j
    · subst e; simpa [updC] using hc
    · simpa [updC, e] using B.cbd k hk
  · exact B.isml
  · exact plain_puts _ _ B.ppb
  · intro k hk; obtain ⟨v, hv⟩ := B.pex k hk; exact ⟨v, (other pb k (by omega) (by omega) (by omega)).trans hv⟩

theorem stands_def (h : VH) : h.stands = if h.yields then 0 else h.st := rfl

/-- Add at a holder that is not gone. -/
theorem Built.add {w : World} {B0 bb mb pb N i np : Nat} {H : Nat → VH} {hb : Nat → Nat} {cb : ByteArray → Nat} {ct : Nat → Int} {D : DataW Unit} (B : Built w B0 bb mb pb N i np H hb cb ct D)
    {j : Nat} (hj : j < i) (n : Int) (hn : -1099511627776 ≤ ct j + n ∧ ct j + n ≤ 1099511627776) (hg : (H j).gone = false) :
    Calls Try.prog 9 #[.pointer (some ⟨hb j, 0, none⟩), .int .i64 n] w fun e w' => e = .returned (.tuple #[]) ∧ Built w' B0 bb mb pb N i np H hb cb (updC ct j (ct j + n)) D ∧ Below B0 w w' := by
  have pj : Pres H i (H j).client := ⟨j, hj, rfl⟩
  have hlj := B.hlo j hj
  have clj := B.clo _ pj
  have hcj := B.hc j _ hj pj
  have hbpb := B.bpb
  obtain ⟨u, hu⟩ := B.b3
  obtain ⟨o, ho⟩ := B.b4
  have hh := B.hh j hj
  have ism := B.isml
  have cj := B.cbd j hj
  have s1 := sumF_bd' (f := hF H ct (H j).client) (B := 1099511627776) i (fun q hq => by have := B.cbd q hq; unfold hF; split <;> omega)
  have s2 := sumF_bd' (f := oF H ct (H j).client) (B := 1099511627776) i (fun q hq => by have := B.cbd q hq; unfold oF; split <;> omega)
  have ap : Apart3 (hb j) bb (cb (H j).client) := ⟨by omega, by omega, by omega, by omega, by omega, by omega⟩
  have h6 := hh.h6
  rw [hg] at h6
  by_cases z : (H j).stands = 0
  · refine (Add_open (hb j) bb (cb (H j).client) (H j).st n u o _ _ (ct j) (H j).yields w (B.h0 j hj) (B.h1 j hj) hh.h3 hh.h4 hh.h5 h6 z B.b0 hu ho (B.c1 _ pj) (B.c2 _ pj) ap (B.hp j hj).frozen B.pbb.frozen (B.cp _ pj).frozen).mono ?_
    rintro e w' ⟨rfl, rfl⟩
    rw [wrap_id (sumF (hF H ct (H j).client) i + n) (by omega) (by omega), wrap_id (sumF (oF H ct (H j).client) i + n) (by omega) (by omega), wrap_id (ct j + n) (by omega) (by omega)]
    refine ⟨rfl, ?_⟩
    refine B.turn hj (ct j + n) hn [(bb, 0, .int .i32 1), (bb, 3, .int .i64 (wrap64 (u + n))), (cb (H j).client, 1, .int .i64 (sumF (hF H ct (H j).client) i + n)), (cb (H j).client, 2, .int .i64 (sumF (oF H ct (H j).client) i + n)), (bb, 4, .int .i64 (wrap64 (o + n))), (hb j, 3, .int .i64 (ct j + n)), (bb, 0, .int .i32 0)] ?_ ?_ ?_ ?_ ?_ ?_ ?_
    · simp
    · exact cell_mid [_, _, _, _, _, _] [] B.b0 (by simp)
    · exact ⟨_, cell_mid [_] [_, _, _, _, _] hu (by simp <;> omega)⟩
    · exact ⟨_, cell_mid [_, _, _, _] [_, _] ho (by simp <;> omega)⟩
    · rw [show ct j + n - ct j = n by omega]; exact cell_mid [_, _] [_, _, _, _] (B.c1 _ pj) (by simp <;> omega)
    · rw [if_pos z, show ct j + n - ct j = n by omega]; exact cell_mid [_, _, _] [_, _, _] (B.c2 _ pj) (by simp <;> omega)
    · exact cell_mid [_, _, _, _, _] [_] hh.h3 (by simp <;> omega)
  · refine (Add_shut (hb j) bb (cb (H j).client) (H j).st n u _ (ct j) (H j).yields w (B.h0 j hj) (B.h1 j hj) hh.h3 hh.h4 hh.h5 h6 z B.b0 hu (B.c1 _ pj) ap (B.hp j hj).frozen B.pbb.frozen (B.cp _ pj).frozen).mono ?_
    rintro e w' ⟨rfl, rfl⟩
    rw [wrap_id (sumF (hF H ct (H j).client) i + n) (by omega) (by omega), wrap_id (ct j + n) (by omega) (by omega)]
    refine ⟨rfl, ?_⟩
    refine B.turn hj (ct j + n) hn [(bb, 0, .int .i32 1), (bb, 3, .int .i64 (wrap64 (u + n))), (cb (H j).client, 1, .int .i64 (sumF (hF H ct (H j).client) i + n)), (hb j, 3, .int .i64 (ct j + n)), (bb, 0, .int .i32 0)] ?_ ?_ ?_ ?_ ?_ ?_ ?_
    · simp
    · exact cell_mid [_, _, _, _] [] B.b0 (by simp)
    · exact ⟨_, cell_mid [_] [_, _, _] hu (by simp <;> omega)⟩
    · exact ⟨o, (cell_puts _ w (by simp <;> omega)).trans ho⟩
    · rw [show ct j + n - ct j = n by omega]; exact cell_mid [_, _] [_, _] (B.c1 _ pj) (by simp <;> omega)
    · rw [if_neg z, Int.add_zero]; exact (cell_puts _ w (by simp <;> omega)).trans (B.c2 _ pj)
    · exact cell_mid [_, _, _] [_] hh.h3 (by simp <;> omega)

theorem updC_same (ct : Nat → Int) (j : Nat) : updC ct j (ct j) = ct := by
  funext k; unfold updC; split
  · rename_i h; rw [h]
  · rfl

/-- Add at a holder that is gone: nothing turns. -/
theorem Built.add_gone {w : World} {B0 bb mb pb N i np : Nat} {H : Nat → VH} {hb : Nat → Nat} {cb : ByteArray → Nat} {ct : Nat → Int} {D : DataW Unit} (B : Built w B0 bb mb pb N i np H hb cb ct D)
    {j : Nat} (hj : j < i) (n : Int) (hg : (H j).gone = true) :
    Calls Try.prog 9 #[.pointer (some ⟨hb j, 0, none⟩), .int .i64 n] w fun e w' => e = .returned (.tuple #[]) ∧ Built w' B0 bb mb pb N i np H hb cb ct D ∧ Below B0 w w' := by
  have pj : Pres H i (H j).client := ⟨j, hj, rfl⟩
  have hlj := B.hlo j hj
  have clj := B.clo _ pj
  have hcj := B.hc j _ hj pj
  have hbpb := B.bpb
  have hh := B.hh j hj
  have h6 := hh.h6
  rw [hg] at h6
  obtain ⟨u, hu⟩ := B.b3
  obtain ⟨o, ho⟩ := B.b4
  refine (Add_gone (hb j) bb n w (B.h0 j hj) h6 B.b0 (by omega) B.pbb.frozen).mono ?_
  rintro e w' ⟨rfl, rfl⟩
  refine ⟨rfl, ?_⟩
  have T := B.turn hj (ct j) (B.cbd j hj) [(bb, 0, .int .i32 1), (bb, 0, .int .i32 0)] (by simp) (cell_mid [_] [] B.b0 (by simp)) ⟨u, (cell_puts _ w (by simp)).trans hu⟩ ⟨o, (cell_puts _ w (by simp)).trans ho⟩
    (by rw [Int.sub_self, Int.add_zero]; exact (cell_puts _ w (by simp <;> omega)).trans (B.c1 _ pj)) (by rw [Int.sub_self, ite_self, Int.add_zero]; exact (cell_puts _ w (by simp <;> omega)).trans (B.c2 _ pj)) ((cell_puts _ w (by simp <;> omega)).trans hh.h3)
  rw [updC_same] at T
  exact T
end Go.Proofs.Qxb6618660a
