import Derived.Test.Qxb6618660aJoin2
namespace Go.Proofs.Qxb6618660a
open Go.RowKit Go.MuLone Go.Maps Go.WideMaps
set_option linter.unusedVariables false
set_option linter.unusedSimpArgs false

/-- Reading, and new blocks, leave the state. -/
theorem Built.below {w w' : World} {B0 bb mb pb N i np : Nat} {H : Nat → VH} {hb : Nat → Nat} {cb : ByteArray → Nat} {ct : Nat → Int} {D : DataW Unit} (B : Built w B0 bb mb pb N i np H hb cb ct D)
    (hB : Below w.heap.size w w') : Built w' B0 bb mb pb N i np H hb cb ct D where
  base := B.base
  mbb := B.mbb
  bpb := B.bpb
  hlo := B.hlo
  clo := B.clo
  hinj := B.hinj
  cinj := B.cinj
  hc := B.hc
  b0 := (hB.cell (p := ⟨bb, 0, none⟩) B.pbb.lt).trans B.b0
  b3 := by obtain ⟨u, h⟩ := B.b3; exact ⟨u, (hB.cell (p := ⟨bb, 3, none⟩) B.pbb.lt).trans h⟩
  b4 := by obtain ⟨u, h⟩ := B.b4; exact ⟨u, (hB.cell (p := ⟨bb, 4, none⟩) B.pbb.lt).trans h⟩
  b6 := (hB.cell (p := ⟨bb, 6, none⟩) B.pbb.lt).trans B.b6
  pbb := B.pbb.below hB B.pbb.lt
  own := B.own.kept (below_grown hB) (by simp)
  says := B.says
  h0 := fun j h => (hB.cell (p := ⟨hb j, 0, none⟩) (B.hp j h).lt).trans (B.h0 j h)
  h1 := fun j h => (hB.cell (p := ⟨hb j, 1, none⟩) (B.hp j h).lt).trans (B.h1 j h)
  hh := fun j h => (B.hh j h).below hB (B.hp j h).lt
  hp := fun j h => (B.hp j h).below hB (B.hp j h).lt
  cp := fun s h => (B.cp s h).below hB (B.cp s h).lt
  c1 := fun s h => (hB.cell (p := ⟨cb s, 1, none⟩) (B.cp s h).lt).trans (B.c1 s h)
  c2 := fun s h => (hB.cell (p := ⟨cb s, 2, none⟩) (B.cp s h).lt).trans (B.c2 s h)
  c3 := fun s h => (hB.cell (p := ⟨cb s, 3, none⟩) (B.cp s h).lt).trans (B.c3 s h)
  c4 := fun s h => (hB.cell (p := ⟨cb s, 4, none⟩) (B.cp s h).lt).trans (B.c4 s h)
  ch := fun s h => Chain.below hB _ _ (fun b hb' => by obtain ⟨k, hk, _, rfl⟩ := mem_chn hb'; exact (B.hp k hk).lt) (B.ch s h)
  ptr := fun j h => (hB.cell (p := ⟨pb, j, none⟩) B.ppb.lt).trans (B.ptr j h)
  cbd := B.cbd
  isml := B.isml
  ppb := B.ppb.below hB B.ppb.lt
  pex := fun j h => by obtain ⟨v, e⟩ := B.pex j h; exact ⟨v, (hB.cell (p := ⟨pb, j, none⟩) B.ppb.lt).trans e⟩

/-- The pointer is laid into the slice. -/
theorem Built.store {w : World} {B0 bb mb pb N i np : Nat} {H : Nat → VH} {hb : Nat → Nat} {cb : ByteArray → Nat} {ct : Nat → Int} {D : DataW Unit} (B : Built w B0 bb mb pb N i np H hb cb ct D)
    (hN : np < N) : Built (w.setCell ⟨pb, np, none⟩ (.pointer (some ⟨hb np, 0, none⟩))) B0 bb mb pb N i (np + 1) H hb cb ct D := by
  have hbpb := B.bpb
  have hmbb := B.mbb
  have oc : ∀ b o, (b = pb → ¬ o = np) → (w.setCell ⟨pb, np, none⟩ (.pointer (some ⟨hb np, 0, none⟩))).cell? ⟨b, o, none⟩ = w.cell? ⟨b, o, none⟩ := fun b o g =>
    World.cell?_setCell_other _ _ _ _ fun e => by
      have e1 : pb = b := by injection e
      have e2 : np = o := by injection e
      exact g e1.symm e2.symm
  obtain ⟨v, hv⟩ := B.pex np hN
  exact {
    base := B.base, mbb := B.mbb, bpb := B.bpb, hlo := B.hlo, clo := B.clo, hinj := B.hinj, cinj := B.cinj, hc := B.hc
    b0 := (oc bb 0 (by omega)).trans B.b0
    b3 := by obtain ⟨u, h⟩ := B.b3; exact ⟨u, (oc bb 3 (by omega)).trans h⟩
    b4 := by obtain ⟨u, h⟩ := B.b4; exact ⟨u, (oc bb 4 (by omega)).trans h⟩
    b6 := (oc bb 6 (by omega)).trans B.b6
    pbb := B.pbb.set _ _
    own := B.own.setCell (by simp; omega) _
    says := B.says
    h0 := fun j h => (oc _ 0 (by have := B.hlo j h; omega)).trans (B.h0 j h)
    h1 := fun j h => (oc _ 1 (by have := B.hlo j h; omega)).trans (B.h1 j h)
    hh := fun j h => (B.hh j h).congr fun o _ _ => oc _ o (by have := B.hlo j h; omega)
    hp := fun j h => (B.hp j h).set _ _
    cp := fun s h => (B.cp s h).set _ _
    c1 := fun s h => (oc _ 1 (by have := B.clo s h; omega)).trans (B.c1 s h)
    c2 := fun s h => (oc _ 2 (by have := B.clo s h; omega)).trans (B.c2 s h)
    c3 := fun s h => (oc _ 3 (by have := B.clo s h; omega)).trans (B.c3 s h)
    c4 := fun s h => (oc _ 4 (by have := B.clo s h; omega)).trans (B.c4 s h)
    ch := fun s h => Chain.congr _ _ (fun b hb' => by obtain ⟨k, hk, _, rfl⟩ := mem_chn hb'; exact oc _ 8 (by have := B.hlo k hk; omega)) (B.ch s h)
    ptr := fun j h => by
      by_cases e : j = np
      · subst e; exact World.cell?_setCell_same _ _ _ hv
      · exact (oc pb j (by omega)).trans (B.ptr j (by omega))
    cbd := B.cbd
    isml := B.isml
    ppb := B.ppb.set _ _
    pex := fun j h => by
      obtain ⟨u, e⟩ := B.pex j h
      exact cell?_setCell_some e }

/-! ### the index of a holder's block -/
def idxB (hb : Nat → Nat) (n b : Nat) : Nat := ((List.range n).find? fun j => hb j == b).getD 0
theorem idxB_at {hb : Nat → Nat} {n : Nat} (hinj : ∀ j k, j < n → k < n → hb j = hb k → j = k) {j : Nat} (hj : j < n) : idxB hb n (hb j) = j := by
  unfold idxB
  cases e : (List.range n).find? fun k => hb k == hb j with
  | none =>
    rw [List.find?_eq_none] at e
    exact absurd (by simp) (e j (List.mem_range.2 hj))
  | some k =>
    have h1 := List.find?_some e
    have h2 := List.mem_of_find?_eq_some e
    exact hinj k j (List.mem_range.1 h2) hj (by simpa using h1)

theorem Built.view {w : World} {B0 bb mb pb N n np : Nat} {H : Nat → VH} {hb : Nat → Nat} {cb : ByteArray → Nat} {ct : Nat → Int} {D : DataW Unit} (B : Built w B0 bb mb pb N n np H hb cb ct D) {t : Nat} (ht : t < n) :
    View w bb mb (hb t) 0 (H t).client (Pres H n) cb (fun s => sumF (hF H ct s) n) (fun s => sumF (oF H ct s) n) (fun s => (chnJ H n s).map hb) (fun s => ((chnJ H n s).map hb).head?)
      (fun b => ct (idxB hb n b)) (fun b => (H (idxB hb n b)).st) (fun b => (H (idxB hb n b)).yields) (fun b => (H (idxB hb n b)).gone) := by
  have hi := fun j (h : j < n) => idxB_at B.hinj h
  have ism := B.isml
  exact {
    b6 := B.b6, lb := B.pbb.lt, tin := ⟨t, ht, rfl⟩, t1 := B.h1 t ht
    th := by have := B.hh t ht; simp only [hi t ht]; exact this
    tp := B.hp t ht
    tb := by have := B.cbd t ht; simp only [hi t ht]; omega
    c1 := B.c1, c2 := B.c2, c3 := B.c3, cp := B.cp, ch := B.ch
    ca := fun s hs b hb' => by
      obtain ⟨k, hk, _, rfl⟩ := mem_chn hb'
      refine ⟨?_, B.hp k hk⟩
      have := B.hh k hk
      simp only [hi k hk]; exact this
    inj := B.cinj
    ob := fun s hs => by
      have := sumF_bd' (f := oF H ct s) (B := 1099511627776) n (fun q hq => by have := B.cbd q hq; unfold oF; split <;> omega)
      omega
    hb := fun s hs => by
      have := sumF_bd' (f := hF H ct s) (B := 1099511627776) n (fun q hq => by have := B.cbd q hq; unfold hF; split <;> omega)
      omega }

/-! ### what victim answers, in holders' numbers -/
def okN (H : Nat → VH) (ct : Nat → Int) (t : Nat) (st : Int) (j : Nat) : Bool := !(j == t) && !(H j).gone && decide (0 < ct j) && ((H j).stands == st)
def firstN (H : Nat → VH) (ct : Nat → Int) (t n : Nat) (st : Int) (s : ByteArray) : Option Nat := (chnJ H n s).find? (okN H ct t st)
/-- The open sum of a client without the taker's. -/
def oX (H : Nat → VH) (ct : Nat → Int) (t : Nat) (s : ByteArray) (j : Nat) : Int := if (H j).client = s ∧ ¬ j = t ∧ (H j).stands = 0 then ct j else 0

theorem find_map {hb : Nat → Nat} {p q : Nat → Bool} : ∀ (L : List Nat), (∀ j ∈ L, p (hb j) = q j) → (L.map hb).find? p = (L.find? q).map hb
  | [], _ => rfl
  | a :: r, h => by
    rw [List.map_cons, List.find?_cons, List.find?_cons, h a (by simp)]
    cases q a
    · exact find_map r (fun j hj => h j (by simp [hj]))
    · rfl
theorem okB_okN {B0 n : Nat} {H : Nat → VH} {hb : Nat → Nat} {ct : Nat → Int} (hinj : ∀ j k, j < n → k < n → hb j = hb k → j = k) {t : Nat} (ht : t < n) (st : Int) {j : Nat} (hj : j < n) :
    okB (fun b => ct (idxB hb n b)) (fun b => (H (idxB hb n b)).st) (fun b => (H (idxB hb n b)).yields) (fun b => (H (idxB hb n b)).gone) (hb t) st (hb j) = okN H ct t st j := by
  unfold okB okN
  simp only [idxB_at hinj hj]
  have e : (hb j == hb t) = (j == t) := by
    by_cases h : j = t
    · subst h; simp
    · have h2 : ¬ hb j = hb t := fun x => h (hinj j t hj ht x)
      rw [beq_eq_false_iff_ne.2 h2, beq_eq_false_iff_ne.2 h]
  rw [e]
  rfl
theorem find_firstN {n : Nat} {H : Nat → VH} {hb : Nat → Nat} {ct : Nat → Int} (hinj : ∀ j k, j < n → k < n → hb j = hb k → j = k) {t : Nat} (ht : t < n) (st : Int) (s : ByteArray) :
    ((chnJ H n s).map hb).find? (okB (fun b => ct (idxB hb n b)) (fun b => (H (idxB hb n b)).st) (fun b => (H (idxB hb n b)).yields) (fun b => (H (idxB hb n b)).gone) (hb t) st) = (firstN H ct t n st s).map hb :=
  find_map _ (fun j hj => okB_okN (B0 := 0) hinj ht st (by simp [chnJ] at hj; exact hj.1))

theorem sum_oX (H : Nat → VH) (ct : Nat → Int) (t : Nat) (s : ByteArray) : ∀ n : Nat, sumF (oX H ct t s) n = sumF (oF H ct s) n - (if t < n ∧ (H t).client = s ∧ (H t).stands = 0 then ct t else 0)
  | 0 => by simp [sumF]
  | n + 1 => by
    simp only [sumF]
    rw [sum_oX H ct t s n]
    unfold oX oF
    by_cases e : n = t
    · subst e
      by_cases h : (H n).client = s ∧ (H n).stands = 0
      · rw [if_neg (by omega), if_neg (fun x => x.2.1 rfl), if_pos h, if_pos ⟨by omega, h⟩]; omega
      · rw [if_neg (by omega), if_neg (fun x => x.2.1 rfl), if_neg h, if_neg (fun x => h x.2)]; omega
    · have e2 : (t < n + 1) ↔ (t < n) := by omega
      simp only [e2, e, not_false_eq_true, true_and]
      omega

theorem ofO_eq {w : World} {B0 bb mb pb N n np : Nat} {H : Nat → VH} {hb : Nat → Nat} {cb : ByteArray → Nat} {ct : Nat → Int} {D : DataW Unit} (B : Built w B0 bb mb pb N n np H hb cb ct D) {t : Nat} (ht : t < n) {s : ByteArray} (hs : Pres H n s) :
    ofO (hb t) (H t).client cb (fun s => sumF (oF H ct s) n) (fun b => ct (idxB hb n b)) (fun b => (H (idxB hb n b)).st) (fun b => (H (idxB hb n b)).yields) s = sumF (oX H ct t s) n := by
  unfold ofO openO
  simp only [idxB_at B.hinj ht]
  rw [sum_oX]
  have e : (cb s == cb (H t).client) = decide ((H t).client = s) := by
    by_cases h : (H t).client = s
    · rw [h]; simp
    · have : ¬ cb s = cb (H t).client := fun x => h (B.cinj _ _ hs ⟨t, ht, rfl⟩ x).symm
      simp [h, this]
  rw [e, show (if (H t).yields = true then 0 else (H t).st) = (H t).stands from rfl]
  by_cases h1 : (H t).client = s
  · by_cases h2 : (H t).stands = 0
    · simp [h1, h2, ht]
    · simp [h1, h2]
  · simp [h1]

/-- What victim answers, in holders' numbers. -/
def VicN (H : Nat → VH) (ct : Nat → Int) (t n : Nat) (k : Int) (R : Option Nat) : Prop :=
  (∃ s, Pres H n s ∧ 0 < sumF (oX H ct t s) n ∧ (∀ s', Pres H n s' → sumF (oX H ct t s') n ≤ sumF (oX H ct t s) n) ∧ ∃ j, firstN H ct t n 0 s = some j ∧ R = some j) ∨
  ((∀ s, Pres H n s → sumF (oX H ct t s) n ≤ 0) ∧ ∃ m, Pres H n m ∧ (∀ s, Pres H n s → sumF (hF H ct s) n ≤ sumF (hF H ct m) n) ∧
    ((sumF (hF H ct m) n ≤ sumF (hF H ct (H t).client) n + k ∧ R = none) ∨ (sumF (hF H ct (H t).client) n + k < sumF (hF H ct m) n ∧ R = (firstN H ct t n 1 m).or (firstN H ct t n 2 m))))

theorem sum_pos {f : Nat → Int} : ∀ n : Nat, 0 < sumF f n → ∃ j, j < n ∧ 0 < f j
  | 0, h => by simp [sumF] at h
  | n + 1, h => by
    simp only [sumF] at h
    by_cases e : 0 < f n
    · exact ⟨n, by omega, e⟩
    · obtain ⟨j, hj, h2⟩ := sum_pos (f := f) n (by omega); exact ⟨j, by omega, h2⟩
/-- A client whose open sum is above nothing has an open holder. -/
theorem firstN_open {H : Nat → VH} {ct : Nat → Int} {t n : Nat} {s : ByteArray} (hg : ∀ j, j < n → (H j).gone = true → ct j = 0) (h : 0 < sumF (oX H ct t s) n) : ∃ j, firstN H ct t n 0 s = some j := by
  obtain ⟨j, hj, h2⟩ := sum_pos n h
  unfold oX at h2
  split at h2
  · rename_i c
    cases e : firstN H ct t n 0 s with
    | some j => exact ⟨j, rfl⟩
    | none =>
      unfold firstN at e
      rw [List.find?_eq_none] at e
      have hgn : (H j).gone = false := by
        cases hh : (H j).gone with
        | false => rfl
        | true => have := hg j hj hh; omega
      exact absurd (by simp [okN, c.2.1, hgn, h2, c.2.2]) (e j (by simp [chnJ, hj, c.1]))
  · omega

theorem VicSays.num {w : World} {B0 bb mb pb N n np : Nat} {H : Nat → VH} {hb : Nat → Nat} {cb : ByteArray → Nat} {ct : Nat → Int} {D : DataW Unit} (B : Built w B0 bb mb pb N n np H hb cb ct D) {t : Nat} (ht : t < n) {k : Int} {R : Option Nat}
    (hg : ∀ j, j < n → (H j).gone = true → ct j = 0)
    (V : VicSays (hb t) (H t).client k (Pres H n) cb (fun s => sumF (hF H ct s) n) (fun s => sumF (oF H ct s) n) (fun s => (chnJ H n s).map hb) (fun b => ct (idxB hb n b)) (fun b => (H (idxB hb n b)).st) (fun b => (H (idxB hb n b)).yields) (fun b => (H (idxB hb n b)).gone) R) :
    ∃ r, R = r.map hb ∧ VicN H ct t n k r ∧ ∀ j, r = some j → j < n := by
  have lt1 : ∀ st s j, firstN H ct t n st s = some j → j < n := fun st s j h => by
    have := List.mem_of_find?_eq_some h
    simp [chnJ] at this; exact this.1
  obtain ⟨mo, ⟨hm1, hm2⟩, hR⟩ := V
  cases mo with
  | some s =>
    obtain ⟨ps, pos⟩ := hm1 s rfl
    rw [ofO_eq B ht ps] at pos
    obtain ⟨j, hj⟩ := firstN_open hg pos
    have hfind : ((some s : Option ByteArray).bind fun s => ((chnJ H n s).map hb).find? (okB (fun b => ct (idxB hb n b)) (fun b => (H (idxB hb n b)).st) (fun b => (H (idxB hb n b)).yields) (fun b => (H (idxB hb n b)).gone) (hb t) 0)) = some (hb j) := by
      show ((chnJ H n s).map hb).find? _ = _
      rw [find_firstN B.hinj ht 0 s, hj]; rfl
    have hRj : R = some (hb j) := by
      rcases hR with ⟨v, h1, h2⟩ | ⟨h1, _⟩
      · rw [hfind] at h1; rw [h2, ← h1]
      · rw [hfind] at h1; cases h1
    refine ⟨some j, hRj, Or.inl ⟨s, ps, pos, fun s' hs' => ?_, j, hj, rfl⟩, fun q e => by cases e; exact lt1 _ _ _ hj⟩
    have := hm2 s' hs' rfl
    simp only [top] at this
    rw [ofO_eq B ht hs', ofO_eq B ht ps] at this
    exact this
  | none =>
    have hle : ∀ s, Pres H n s → sumF (oX H ct t s) n ≤ 0 := fun s hs => by
      have := hm2 s hs rfl
      simp only [top] at this
      rw [ofO_eq B ht hs] at this
      exact this
    rcases hR with ⟨v, h1, h2⟩ | ⟨_, m, pm, hmax, h3⟩
    · cases h1
    · rcases h3 with ⟨h4, rfl⟩ | ⟨h4, rfl⟩
      · exact ⟨none, rfl, Or.inr ⟨hle, m, pm, hmax, Or.inl ⟨h4, rfl⟩⟩, fun q e => by cases e⟩
      · refine ⟨(firstN H ct t n 1 m).or (firstN H ct t n 2 m), ?_, Or.inr ⟨hle, m, pm, hmax, Or.inr ⟨h4, rfl⟩⟩, ?_⟩
        · show (((chnJ H n m).map hb).find? _).or (((chnJ H n m).map hb).find? _) = _
          rw [find_firstN B.hinj ht 1 m, find_firstN B.hinj ht 2 m]
          cases firstN H ct t n 1 m <;> rfl
        · intro q e
          cases e1 : firstN H ct t n 1 m with
          | some a => rw [e1] at e; cases e; exact lt1 _ _ _ e1
          | none => rw [e1] at e; exact lt1 _ _ _ e

/-- ZZVictim over the state. -/
theorem Built.victim {w : World} {B0 bb mb pb N n np : Nat} {H : Nat → VH} {hb : Nat → Nat} {cb : ByteArray → Nat} {ct : Nat → Int} {D : DataW Unit} (B : Built w B0 bb mb pb N n np H hb cb ct D) {t : Nat} (ht : t < n) (k : Int)
    (hg : ∀ j, j < n → (H j).gone = true → ct j = 0) (k0 : -1099511627776 ≤ k) (k1 : k ≤ 1099511627776) :
    Calls Try.prog 19 #[.pointer (some ⟨bb, 0, none⟩), .pointer (some ⟨hb t, 0, none⟩), .int .i64 k] w fun e w' => (∃ r, VicN H ct t n k r ∧ (∀ j, r = some j → j < n) ∧ e = .returned (optPtr (r.map hb))) ∧ Below w.heap.size w w' := by
  refine (ZZVictim_any w bb mb (hb t) 0 n k D (H t).client (Pres H n) cb _ _ _ _ _ _ _ _ B.own B.says (B.view ht) k0 k1).mono ?_
  rintro e w' ⟨⟨R, hR, rfl⟩, hbel⟩
  obtain ⟨r, rfl, h1, h2⟩ := VicSays.num B ht hg hR
  exact ⟨⟨r, h1, h2, rfl⟩, hbel⟩
end Go.Proofs.Qxb6618660a
