import Derived.Test.Qxb6618660aAdd
namespace Go.Proofs.Qxb6618660a
open Go.RowKit Go.MuLone Go.Maps Go.WideMaps
set_option linter.unusedVariables false
set_option linter.unusedSimpArgs false

theorem chn_succ (H : Nat → VH) (i : Nat) (s : ByteArray) : chnJ H (i + 1) s = chnJ H i s ++ (if (H i).client = s then [i] else []) := by
  unfold chnJ
  rw [List.range_succ, List.filter_append]
  congr 1
  by_cases h : (H i).client = s <;> simp [List.filter_cons, h]
def hbU (hb : Nat → Nat) (i nb : Nat) : Nat → Nat := fun k => if k = i then nb else hb k
theorem hbU_lt {hb : Nat → Nat} {i nb k : Nat} (h : k < i) : hbU hb i nb k = hb k := by unfold hbU; rw [if_neg (by omega)]
theorem hbU_at (hb : Nat → Nat) (i nb : Nat) : hbU hb i nb i = nb := by simp [hbU]
theorem updC_lt {ct : Nat → Int} {i k : Nat} {c : Int} (h : k < i) : updC ct i c k = ct k := by unfold updC; rw [if_neg (by omega)]
theorem updC_at (ct : Nat → Int) (i : Nat) (c : Int) : updC ct i c i = c := by simp [updC]
theorem chn_map (H : Nat → VH) (hb : Nat → Nat) (i nb : Nat) (s : ByteArray) : (chnJ H (i + 1) s).map (hbU hb i nb) = (chnJ H i s).map hb ++ (if (H i).client = s then [nb] else []) := by
  rw [chn_succ, List.map_append]
  congr 1
  · apply List.map_congr_left
    intro j hj
    simp [chnJ] at hj
    exact hbU_lt hj.1
  · split
    · simp [hbU_at]
    · rfl
theorem pres_succ {H : Nat → VH} {i : Nat} {s : ByteArray} : Pres H (i + 1) s ↔ Pres H i s ∨ (H i).client = s := by
  constructor
  · rintro ⟨j, hj, e⟩
    by_cases h : j = i
    · subst h; exact Or.inr e
    · exact Or.inl ⟨j, by omega, e⟩
  · rintro (⟨j, hj, e⟩ | e)
    · exact ⟨j, by omega, e⟩
    · exact ⟨i, by omega, e⟩
theorem chn_none {H : Nat → VH} {i : Nat} {s : ByteArray} (h : ¬ Pres H i s) : chnJ H i s = [] := by
  unfold chnJ
  rw [List.filter_eq_nil_iff]
  intro j hj e
  exact h ⟨j, List.mem_range.1 hj, by simpa using e⟩
theorem chn_some {H : Nat → VH} {i : Nat} {s : ByteArray} (h : Pres H i s) : chnJ H i s ≠ [] := by
  obtain ⟨j, hj, e⟩ := h
  intro x
  unfold chnJ at x
  rw [List.filter_eq_nil_iff] at x
  exact x j (List.mem_range.2 hj) (by simpa using e)
theorem sum_zero {f : Nat → Int} : ∀ k : Nat, (∀ j, j < k → f j = 0) → sumF f k = 0
  | 0, _ => rfl
  | k + 1, h => by simp only [sumF]; rw [sum_zero k (fun j hj => h j (by omega)), h k (by omega)]; rfl

theorem Chain.snoc {w w' : World} {x : Nat} : ∀ (L : List Nat) (p : Option Nat), L ≠ [] → Chain w L p → (∀ b ∈ L, L.getLast? ≠ some b → w'.cell? ⟨b, 8, none⟩ = w.cell? ⟨b, 8, none⟩) →
    (∀ y, L.getLast? = some y → w'.cell? ⟨y, 8, none⟩ = some (optPtr (some x))) → w'.cell? ⟨x, 8, none⟩ = some (optPtr none) → L.Nodup → Chain w' (L ++ [x]) p
  | [], p, h, _, _, _, _, _ => absurd rfl h
  | [b], p, _, ⟨h1, q, h2, h3⟩, _, hy, hx, _ => ⟨h1, some x, hy b rfl, rfl, none, hx, rfl⟩
  | b :: c :: r, p, _, ⟨h1, q, h2, h3⟩, ho, hy, hx, hn => by
    have hn' := List.nodup_cons.1 hn
    have e : (b :: c :: r).getLast? = (c :: r).getLast? := by simp [List.getLast?_cons_cons]
    refine ⟨h1, q, ?_, ?_⟩
    · rw [ho b (by simp) ?_, h2]
      rw [e]
      intro x
      exact hn'.1 (List.mem_of_getLast? x)
    · exact Chain.snoc (c :: r) q (by simp) h3 (fun b' hb' hl => ho b' (List.mem_cons_of_mem _ hb') (by rw [e]; exact hl)) (fun y hl => hy y (by rw [e]; exact hl)) hx hn'.2

theorem Built.extend {w w' : World} {B0 bb mb pb N i np : Nat} {H : Nat → VH} {hb : Nat → Nat} {cb cb' : ByteArray → Nat} {ct : Nat → Int} {D D' : DataW Unit} (B : Built w B0 bb mb pb N i np H hb cb ct D)
    (hi : i < 4096) (hnp : np ≤ i) (nb : Nat) (lpb : pb < w.heap.size)
    (hnb : w.heap.size ≤ nb) (hcb : ∀ s, Pres H i s → cb' s = cb s) (hcs : Pres H i (H i).client ∨ (w.heap.size ≤ cb' (H i).client ∧ ¬ cb' (H i).client = nb))
    (other : ∀ b o, b < w.heap.size → (∀ s, Pres H i s → b = cb s → s = (H i).client → ¬ o = 4) → (∀ j, j < i → b = hb j → (H j).client = (H i).client → ¬ o = 8) → w'.cell? ⟨b, o, none⟩ = w.cell? ⟨b, o, none⟩)
    (pl : ∀ b, Plain w b → Plain w' b) (pn : Plain w' nb) (pc : Plain w' (cb' (H i).client))
    (own : w'.ownsMap Try.prog 9 ptrElem mb (i + 1) D') (says : MapSays D' (Pres H (i + 1)) cb')
    (k0 : w'.cell? ⟨nb, 0, none⟩ = some (.pointer (some ⟨bb, 0, none⟩))) (k1 : w'.cell? ⟨nb, 1, none⟩ = some (.pointer (some ⟨cb' (H i).client, 0, none⟩)))
    (kh : HoldsAt w' nb 0 (H i).st (H i).yields (H i).gone)
    (m1 : w'.cell? ⟨cb' (H i).client, 1, none⟩ = some (.int .i64 (sumF (hF H ct (H i).client) i)))
    (m2 : w'.cell? ⟨cb' (H i).client, 2, none⟩ = some (.int .i64 (sumF (oF H ct (H i).client) i)))
    (m3 : w'.cell? ⟨cb' (H i).client, 3, none⟩ = some (optPtr (((chnJ H i (H i).client).map hb ++ [nb]).head?)))
    (m4 : w'.cell? ⟨cb' (H i).client, 4, none⟩ = some (optPtr (some nb)))
    (mc : Chain w' ((chnJ H i (H i).client).map hb ++ [nb]) (((chnJ H i (H i).client).map hb ++ [nb]).head?)) :
    Built w' B0 bb mb pb N (i + 1) np H (hbU hb i nb) cb' (updC ct i 0) D' := by
  have hmbb := B.mbb
  have hbpb := B.bpb
  have hlt : ∀ j, j < i → hb j < w.heap.size := fun j hj => (B.hp j hj).lt
  have clt : ∀ s, Pres H i s → cb s < w.heap.size := fun s hs => (B.cp s hs).lt
  have newc : ∀ s, Pres H (i + 1) s → ¬ s = (H i).client → Pres H i s := fun s hs h => (pres_succ.1 hs).resolve_right (fun e => h e.symm)
  have hcs' : Pres H i (H i).client ∨ (w.heap.size ≤ cb' (H i).client ∧ ¬ cb' (H i).client = nb) := hcs
  have cnb : ¬ cb' (H i).client = nb := by
    rcases hcs with h | h
    · have := clt _ h; rw [hcb _ h]; omega
    · exact h.2
  have clo' : ∀ s, Pres H (i + 1) s → pb < cb' s := by
    intro s hs
    by_cases e : s = (H i).client
    · subst e
      rcases hcs with h | h
      · rw [hcb _ h]; exact B.clo _ h
      · omega
    · rw [hcb s (newc s hs e)]; exact B.clo s (newc s hs e)
  have s0 : ∀ (ct' : Nat → Int) s, sumF (hF H (updC ct i 0) s) (i + 1) = sumF (hF H ct s) i := fun _ s => by
    simp only [sumF]
    rw [sumF_congr (f := hF H (updC ct i 0) s) (g := hF H ct s) i (fun j hj => by simp only [hF]; rw [updC_lt hj])]
    simp [hF, updC_at]
  have s1 : ∀ s, sumF (oF H (updC ct i 0) s) (i + 1) = sumF (oF H ct s) i := fun s => by
    simp only [sumF]
    rw [sumF_congr (f := oF H (updC ct i 0) s) (g := oF H ct s) i (fun j hj => by simp only [oF]; rw [updC_lt hj])]
    simp [oF, updC_at]
  constructor
  · exact B.base
  · exact B.mbb
  · exact B.bpb
  · intro j hj
    by_cases e : j = i
    · subst e; rw [hbU_at]; omega
    · rw [hbU_lt (by omega)]; exact B.hlo j (by omega)
  · exact clo'
  · intro j k hj hk e
    by_cases ej : j = i
    · by_cases ek : k = i
      · omega
      · subst ej; rw [hbU_at, hbU_lt (by omega)] at e; have := hlt k (by omega); omega
    · by_cases ek : k = i
      · subst ek; rw [hbU_at, hbU_lt (by omega)] at e; have := hlt j (by omega); omega
      · rw [hbU_lt (by omega), hbU_lt (by omega)] at e; exact B.hinj j k (by omega) (by omega) e
  · intro s s' hs hs' e
    by_cases es : s = (H i).client
    · by_cases es' : s' = (H i).client
      · rw [es, es']
      · have p' := newc s' hs' es'
        rcases hcs with h | h
        · subst es; rw [hcb _ h, hcb _ p'] at e; exact B.cinj _ _ h p' e
        · subst es; rw [hcb _ p'] at e; have := clt _ p'; omega
    · have p := newc s hs es
      by_cases es' : s' = (H i).client
      · rcases hcs with h | h
        · subst es'; rw [hcb _ h, hcb _ p] at e; exact B.cinj _ _ p h e
        · subst es'; rw [hcb _ p] at e; have := clt _ p; omega
      · have p' := newc s' hs' es'
        rw [hcb _ p, hcb _ p'] at e; exact B.cinj _ _ p p' e
  · intro j s hj hs
    by_cases ej : j = i
    · subst ej
      rw [hbU_at]
      by_cases es : s = (H j).client
      · subst es; exact fun x => cnb x.symm
      · rw [hcb _ (newc s hs es)]; have := clt _ (newc s hs es); omega
    · rw [hbU_lt (by omega)]
      by_cases es : s = (H i).client
      · subst es
        rcases hcs with h | h
        · rw [hcb _ h]; exact B.hc j _ (by omega) h
        · have := hlt j (by omega); omega
      · rw [hcb _ (newc s hs es)]; exact B.hc j s (by omega) (newc s hs es)
  all_goals
    have ebb : ∀ o, w'.cell? ⟨bb, o, none⟩ = w.cell? ⟨bb, o, none⟩ := fun o => other bb o (by omega) (fun s hs e _ => by have := B.clo s hs; omega) (fun j hj e _ => by have := B.hlo j hj; omega)
  · exact (ebb 0).trans B.b0
  · obtain ⟨u, hu⟩ := B.b3; exact ⟨u, (ebb 3).trans hu⟩
  · obtain ⟨u, hu⟩ := B.b4; exact ⟨u, (ebb 4).trans hu⟩
  · exact (ebb 6).trans B.b6
  · exact pl _ B.pbb
  · exact own
  · exact says
  all_goals
    have eh : ∀ j, j < i → ∀ o, ¬ o = 8 → w'.cell? ⟨hb j, o, none⟩ = w.cell? ⟨hb j, o, none⟩ := fun j hj o h8 => other (hb j) o (hlt j hj) (fun s hs e _ => absurd e (B.hc j s hj hs)) (fun k hk e _ => h8)
    have ec : ∀ s, Pres H i s → ∀ o, ¬ o = 4 → w'.cell? ⟨cb s, o, none⟩ = w.cell? ⟨cb s, o, none⟩ := fun s hs o h4 => other (cb s) o (clt s hs) (fun s' hs' e _ => h4) (fun k hk e _ => absurd e.symm (B.hc k s hk hs))
  · intro j hj
    by_cases e : j = i
    · subst e; rw [hbU_at]; exact k0
    · rw [hbU_lt (by omega)]; exact (eh j (by omega) 0 (by omega)).trans (B.h0 j (by omega))
  · intro j hj
    by_cases e : j = i
    · subst e; rw [hbU_at]; exact k1
    · rw [hbU_lt (by omega), hcb _ ⟨j, by omega, rfl⟩]; exact (eh j (by omega) 1 (by omega)).trans (B.h1 j (by omega))
  · intro j hj
    by_cases e : j = i
    · subst e; rw [hbU_at, updC_at]; exact kh
    · rw [hbU_lt (by omega), updC_lt (by omega)]; exact (B.hh j (by omega)).congr fun o _ _ => eh j (by omega) o (by omega)
  · intro j hj
    by_cases e : j = i
    · subst e; rw [hbU_at]; exact pn
    · rw [hbU_lt (by omega)]; exact pl _ (B.hp j (by omega))
  · intro s hs
    by_cases e : s = (H i).client
    · subst e; exact pc
    · rw [hcb _ (newc s hs e)]; exact pl _ (B.cp s (newc s hs e))
  · intro s hs
    rw [s0 ct]
    by_cases e : s = (H i).client
    · subst e; exact m1
    · have p := newc s hs e; rw [hcb _ p]; exact (ec s p 1 (by omega)).trans (B.c1 s p)
  · intro s hs
    rw [s1]
    by_cases e : s = (H i).client
    · subst e; exact m2
    · have p := newc s hs e; rw [hcb _ p]; exact (ec s p 2 (by omega)).trans (B.c2 s p)
  · intro s hs
    rw [chn_map]
    by_cases e : s = (H i).client
    · subst e; rw [if_pos rfl]; exact m3
    · have p := newc s hs e; rw [if_neg (fun x => e x.symm), List.append_nil, hcb _ p]; exact (ec s p 3 (by omega)).trans (B.c3 s p)
  · intro s hs
    rw [chn_map]
    by_cases e : s = (H i).client
    · subst e; rw [if_pos rfl, List.getLast?_append]; exact m4
    · have p := newc s hs e
      rw [if_neg (fun x => e x.symm), List.append_nil, hcb _ p]
      exact (other (cb s) 4 (clt s p) (fun s' hs' e1 e2 => absurd ((B.cinj s s' p hs' e1).trans e2) e) (fun k hk e1 _ => absurd e1.symm (B.hc k s hk p))).trans (B.c4 s p)
  · intro s hs
    rw [chn_map]
    by_cases e : s = (H i).client
    · subst e; rw [if_pos rfl]; exact mc
    · have p := newc s hs e
      rw [if_neg (fun x => e x.symm), List.append_nil]
      refine Chain.congr _ _ (fun b hb' => ?_) (B.ch s p)
      obtain ⟨k, hk, hks, rfl⟩ := mem_chn hb'
      exact other (hb k) 8 (hlt k hk) (fun s' hs' e1 _ => absurd e1 (B.hc k s' hk hs')) (fun q hq e1 e2 => absurd ((B.hinj k q hk hq e1 ▸ hks).symm.trans e2) e)
  · intro j hj
    rw [hbU_lt (by omega)]
    exact (other pb j lpb (fun s hs e _ => by have := B.clo s hs; omega) (fun k hk e _ => by have := B.hlo k hk; omega)).trans (B.ptr j hj)
  · intro j hj
    by_cases e : j = i
    · subst e; rw [updC_at]; omega
    · rw [updC_lt (by omega)]; exact B.cbd j (by omega)
  · omega
  · exact pl _ B.ppb
  · intro j hj
    obtain ⟨v, hv⟩ := B.pex j hj
    exact ⟨v, (other pb j lpb (fun s hs e _ => by have := B.clo s hs; omega) (fun k hk e _ => by have := B.hlo k hk; omega)).trans hv⟩
end Go.Proofs.Qxb6618660a
