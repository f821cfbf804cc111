import Derived.Test.Qxb6618660aJoin
namespace Go.Proofs.Qxb6618660a
open Go.RowKit Go.MuLone Go.Maps Go.WideMaps
set_option linter.unusedVariables false
set_option linter.unusedSimpArgs false

theorem lit_ne {s s' : ByteArray} (h : ¬ s = s') : Lit.string s.data.toList ≠ Lit.string s'.data.toList := fun e => h (by
  simp at e
  have : s.data = s'.data := Array.ext' (by simpa using e)
  cases s; cases s'; simp_all)

theorem MapSays.put {D : DataW Unit} {H : Nat → VH} {i : Nat} {cb : ByteArray → Nat} (M : MapSays D (Pres H i) cb) (hD : Maps.IsMap D) (c : Nat) :
    MapSays (D.put (.string (H i).client.data.toList) (.lit (.int .i64 c))) (Pres H (i + 1)) (fun s => if s = (H i).client then c else cb s) := by
  have hk : WideAt.IsKeyLit (.string (H i).client.data.toList) := trivial
  refine ⟨fun s hs z => ?_, fun s hs => ?_, fun s hs z => ?_⟩
  · by_cases e : s = (H i).client
    · subst e; rw [if_pos rfl, Maps.atKey_put_same hD hk]
    · rw [if_neg e, Maps.atKey_put_other (lit_ne e)]; exact M.yes s ((pres_succ.1 hs).resolve_right fun x => e x.symm) z
  · by_cases e : s = (H i).client
    · subst e; exact Maps.has_put_same hD hk _
    · rw [Maps.has_put_other (lit_ne e)]; exact M.has s ((pres_succ.1 hs).resolve_right fun x => e x.symm)
  · have e : ¬ s = (H i).client := fun e => hs (pres_succ.2 (Or.inr e.symm))
    rw [Maps.atKey_put_other (lit_ne e)]; exact M.no s (fun h => hs (pres_succ.2 (Or.inl h))) z
theorem MapSays.stay {D : DataW Unit} {H : Nat → VH} {i : Nat} {cb : ByteArray → Nat} (M : MapSays D (Pres H i) cb) (h : Pres H i (H i).client) : MapSays D (Pres H (i + 1)) cb := by
  have e : ∀ s, Pres H (i + 1) s ↔ Pres H i s := fun s => ⟨fun x => (pres_succ.1 x).elim id (fun y => y ▸ h), fun x => pres_succ.2 (Or.inl x)⟩
  exact ⟨fun s hs => M.yes s ((e s).1 hs), fun s hs => M.has s ((e s).1 hs), fun s hs => M.no s (fun x => hs ((e s).2 x))⟩

theorem cell_alloc_old {w : World} {o : Obj} {b k : Nat} (h : b < w.heap.size) : (w.alloc o).cell? ⟨b, k, none⟩ = w.cell? ⟨b, k, none⟩ :=
  ((Below.refl w.heap.size w).alloc (Nat.le_refl _) o).cell (p := ⟨b, k, none⟩) h

theorem cell_new (W : World) (c : Array Value) (t : TypeId) (k : Nat) : (W.alloc (.cells c t)).cell? ⟨W.heap.size, k, none⟩ = c[k]? := by
  have h := (MapKept.heap_alloc W (.cells c t)).1
  unfold World.cell?
  simp only
  rw [h]
  simp
theorem chn_nodup {H : Nat → VH} {i : Nat} {s : ByteArray} {hb : Nat → Nat} (hinj : ∀ j k, j < i → k < i → hb j = hb k → j = k) : ((chnJ H i s).map hb).Nodup := by
  have h0 : (chnJ H i s).Nodup := List.nodup_range.sublist List.filter_sublist
  have hm : ∀ j ∈ chnJ H i s, j < i := fun j hj => by simp [chnJ] at hj; exact hj.1
  generalize chnJ H i s = L at *
  induction L with
  | nil => simp
  | cons a r ih =>
    obtain ⟨h1, h2⟩ := List.nodup_cons.1 h0
    rw [List.map_cons, List.nodup_cons]
    refine ⟨fun h => ?_, ih h2 (fun j hj => hm j (by simp [hj]))⟩
    obtain ⟨j, hj, e⟩ := List.mem_map.1 h
    have := hinj j a (hm j (by simp [hj])) (hm a (by simp)) e
    exact h1 (this ▸ hj)

set_option maxHeartbeats 1000000 in
theorem Built.join {w : World} {B0 bb mb pb N i np : Nat} {H : Nat → VH} {hb : Nat → Nat} {cb : ByteArray → Nat} {ct : Nat → Int} {D : DataW Unit} (B : Built w B0 bb mb pb N i np H hb cb ct D)
    (hi : i < 4096) (hnp : np ≤ i) (lpb : pb < w.heap.size) (hlen : (H i).client.size ≤ maxLen) :
    Calls Try.prog 8 #[.pointer (some ⟨bb, 0, none⟩), .string (H i).client, .int .i64 (H i).st, .bool (H i).yields, .bool (H i).gone] w fun e w' =>
      (∃ nb cb' D', e = .returned (.pointer (some ⟨nb, 0, none⟩)) ∧ Built w' B0 bb mb pb N (i + 1) np H (hbU hb i nb) cb' (updC ct i 0) D') ∧ Below B0 w w' ∧ w.heap.size ≤ w'.heap.size := by
  have hkey := WideMaps.keyOf_string_mk (k := 9) Try.underlying9 hlen
  have hmbb := B.mbb
  have hbpb := B.bpb
  have hbase := B.base
  have hlt : ∀ j, j < i → hb j < w.heap.size := fun j hj => (B.hp j hj).lt
  have clt : ∀ s, Pres H i s → cb s < w.heap.size := fun s hs => (B.cp s hs).lt
  obtain ⟨v, ps, hrun, hv⟩ := B.own.lookup law Try.underlying47 (zeroE w) ptrElem_nil hkey
  by_cases hp : Pres H i (H i).client
  · have hv2 := hv
    rw [B.says.yes _ hp] at hv2
    obtain ⟨c, rfl⟩ := elem_inv v _ hv2
    obtain rfl := elem_some c _ ps hv2
    have c4 := B.c4 _ hp
    obtain ⟨yb, hyb⟩ : ∃ yb, ((chnJ H i (H i).client).map hb).getLast? = some yb := by
      cases e : ((chnJ H i (H i).client).map hb).getLast? with
      | none => rw [List.getLast?_eq_none_iff] at e; exact absurd (List.map_eq_nil_iff.1 e) (chn_some hp)
      | some y => exact ⟨y, rfl⟩
    rw [hyb] at c4
    obtain ⟨ky, hky, hkc, rfl⟩ := mem_chn (List.mem_of_getLast? hyb)
    have q1 := hlt ky hky
    have q2 := clt _ hp
    have q3 := B.hc ky _ hky hp
    have hy8 : ∃ v, w.cell? ⟨hb ky, 8, none⟩ = some v := by
      have h1 := B.ch _ hp
      have h2 : ∀ (L : List Nat) (p : Option Nat) (b : Nat), b ∈ L → Chain w L p → ∃ v, w.cell? ⟨b, 8, none⟩ = some v := by
        intro L
        induction L with
        | nil => intro p b h; simp at h
        | cons a r ih =>
          intro p b h hc
          obtain ⟨_, q, e, hr⟩ := hc
          rcases List.mem_cons.1 h with rfl | h
          · exact ⟨_, e⟩
          · exact ih q b h hr
      exact h2 _ _ _ (List.mem_of_getLast? hyb) h1
    refine (Join_old w bb mb (cb (H i).client) (hb ky) (H i).client (H i).st (H i).yields (H i).gone hrun B.b6 c4 hy8 q2 q1 (B.hp ky hky).frozen (B.cp _ hp).frozen).mono ?_
    rintro e w' ⟨rfl, rfl⟩
    have hz : (puts w [(hb ky, 8, .pointer (some ⟨w.heap.size, 0, none⟩)), (cb (H i).client, 4, .pointer (some ⟨w.heap.size, 0, none⟩))]).heap.size = w.heap.size := size_puts _ _
    obtain ⟨W, hW⟩ : ∃ W, W = puts w [(hb ky, 8, .pointer (some ⟨w.heap.size, 0, none⟩)), (cb (H i).client, 4, .pointer (some ⟨w.heap.size, 0, none⟩))] := ⟨_, rfl⟩
    have hcell : ∀ b o, b < w.heap.size → (b = hb ky → ¬ o = 8) → (b = cb (H i).client → ¬ o = 4) → W.cell? ⟨b, o, none⟩ = w.cell? ⟨b, o, none⟩ := fun b o _ g1 g2 => by
      rw [hW]; exact cell_puts _ w (by simp <;> omega)
    have hy' : W.cell? ⟨hb ky, 8, none⟩ = some (.pointer (some ⟨w.heap.size, 0, none⟩)) := by
      rw [hW]; obtain ⟨v, hv⟩ := hy8; exact cell_mid [] [_] hv (by simp <;> omega)
    have hc4' : W.cell? ⟨cb (H i).client, 4, none⟩ = some (.pointer (some ⟨w.heap.size, 0, none⟩)) := by
      rw [hW]; exact cell_mid [_] [] c4 (by simp)
    have hpl : ∀ b, Plain w b → Plain W b := fun b h => by rw [hW]; exact plain_puts _ _ h
    have hown : W.ownsMap Try.prog 9 ptrElem mb i D := by
      rw [hW]; exact owns_puts _ w B.own (by have := B.hlo ky hky; have := B.clo _ hp; simp; omega)
    have hbel : Below B0 w W := by
      rw [hW]; exact below_puts _ w (Below.refl _ _) (by have := B.hlo ky hky; have := B.clo _ hp; simp; omega)
    rw [← hW] at hz
    show (∃ nb cb' D', Ending.returned (.pointer (some ⟨w.heap.size, 0, none⟩)) = .returned (.pointer (some ⟨nb, 0, none⟩)) ∧ Built ((puts w [(hb ky, 8, .pointer (some ⟨w.heap.size, 0, none⟩)), (cb (H i).client, 4, .pointer (some ⟨w.heap.size, 0, none⟩))]).alloc _) B0 bb mb pb N (i + 1) np H (hbU hb i nb) cb' (updC ct i 0) D') ∧ Below B0 w ((puts w [(hb ky, 8, .pointer (some ⟨w.heap.size, 0, none⟩)), (cb (H i).client, 4, .pointer (some ⟨w.heap.size, 0, none⟩))]).alloc _) ∧ w.heap.size ≤ ((puts w [(hb ky, 8, .pointer (some ⟨w.heap.size, 0, none⟩)), (cb (H i).client, 4, .pointer (some ⟨w.heap.size, 0, none⟩))]).alloc _).heap.size
    rw [← hW]
    clear hW
    refine ⟨⟨w.heap.size, cb, D, rfl, ?_⟩, hbel.alloc (by rw [hz]; have := lpb; omega) _, by rw [size_alloc, hz]; omega⟩
    have nc : ∀ k, (W.alloc (.cells #[.pointer (some ⟨bb, 0, none⟩), .pointer (some ⟨cb (H i).client, 0, none⟩), .nilFunc, .int .i64 0, .int .i64 (H i).st, .bool (H i).yields, .bool (H i).gone, .pointer (some ⟨hb ky, 0, none⟩), .pointer none] 62)).cell? ⟨w.heap.size, k, none⟩ =
        (#[.pointer (some ⟨bb, 0, none⟩), .pointer (some ⟨cb (H i).client, 0, none⟩), .nilFunc, .int .i64 0, .int .i64 (H i).st, .bool (H i).yields, .bool (H i).gone, .pointer (some ⟨hb ky, 0, none⟩), .pointer none] : Array Value)[k]? := fun k => by
      rw [← hz]; exact cell_new W _ _ k
    have oc : ∀ b o, b < w.heap.size → (b = hb ky → ¬ o = 8) → (b = cb (H i).client → ¬ o = 4) → (W.alloc (.cells #[.pointer (some ⟨bb, 0, none⟩), .pointer (some ⟨cb (H i).client, 0, none⟩), .nilFunc, .int .i64 0, .int .i64 (H i).st, .bool (H i).yields, .bool (H i).gone, .pointer (some ⟨hb ky, 0, none⟩), .pointer none] 62)).cell? ⟨b, o, none⟩ = w.cell? ⟨b, o, none⟩ := fun b o h g1 g2 => by
      rw [cell_alloc_old (by rw [hz]; exact h)]; exact hcell b o h g1 g2
    have pl2 := plain_new W #[.pointer (some ⟨bb, 0, none⟩), .pointer (some ⟨cb (H i).client, 0, none⟩), .nilFunc, .int .i64 0, .int .i64 (H i).st, .bool (H i).yields, .bool (H i).gone, .pointer (some ⟨hb ky, 0, none⟩), .pointer none] 62
    rw [hz] at pl2
    refine B.extend hi hnp w.heap.size lpb (Nat.le_refl _) (fun _ _ => rfl) (Or.inl hp) ?_ (fun b h => (hpl b h).alloc _) pl2 ((hpl _ (B.cp _ hp)).alloc _) ((hown.mono (Nat.le_succ _)).alloc _) (B.says.stay hp) ?_ ?_ ⟨?_, ?_, ?_, ?_⟩ ?_ ?_ ?_ ?_ ?_
    · exact fun b o h g1 g2 => oc b o h (fun e => g2 ky hky e hkc) (fun e => g1 _ hp e rfl)
    · rw [nc 0]; rfl
    · rw [nc 1]; rfl
    · rw [nc 3]; rfl
    · rw [nc 4]; rfl
    · rw [nc 5]; rfl
    · rw [nc 6]; rfl
    · exact (oc _ 1 q2 (by omega) (by omega)).trans (B.c1 _ hp)
    · exact (oc _ 2 q2 (by omega) (by omega)).trans (B.c2 _ hp)
    · rw [oc _ 3 q2 (by omega) (by omega), B.c3 _ hp]
      cases e : (chnJ H i (H i).client).map hb with
      | nil => rw [e] at hyb; simp at hyb
      | cons a r => rfl
    · rw [cell_alloc_old (by rw [hz]; exact q2)]; exact hc4'
    · have hne : (chnJ H i (H i).client).map hb ≠ [] := fun e => by rw [e] at hyb; simp at hyb
      have e : ((chnJ H i (H i).client).map hb ++ [w.heap.size]).head? = ((chnJ H i (H i).client).map hb).head? := by
        cases e : (chnJ H i (H i).client).map hb with
        | nil => exact absurd e hne
        | cons a r => rfl
      rw [e]
      refine Chain.snoc _ _ hne (B.ch _ hp) (fun b hb' hl => ?_) (fun y hy => ?_) (by rw [nc 8]; rfl) (chn_nodup B.hinj)
      · obtain ⟨k, hk, _, rfl⟩ := mem_chn hb'
        refine oc _ 8 (hlt k hk) (fun x => absurd (by rw [hyb, x]) hl) (by omega)
      · rw [hyb] at hy
        obtain rfl : hb ky = y := by simpa using hy
        rw [cell_alloc_old (by rw [hz]; exact q1)]; exact hy'
  · have hv2 := hv
    rw [B.says.no _ hp] at hv2
    have hvn : v = .pointer none := by
      rcases ptrElem_inv hv2 with ⟨e, _⟩ | ⟨b, _, e⟩
      · exact e
      · simp at e
    subst hvn
    obtain ⟨W1, hW1⟩ : ∃ W1, W1 = w.alloc (.cells #[.string (H i).client, .int .i64 0, .int .i64 0, .pointer none, .pointer none] 59) := ⟨_, rfl⟩
    have hz1 : W1.heap.size = w.heap.size + 1 := by rw [hW1, size_alloc]
    have hb1 : Below w.heap.size w W1 := by rw [hW1]; exact (Below.refl _ _).alloc (Nat.le_refl _) _
    have hn1 : ∀ k, W1.cell? ⟨w.heap.size, k, none⟩ = (#[.string (H i).client, .int .i64 0, .int .i64 0, .pointer none, .pointer none] : Array Value)[k]? := fun k => by rw [hW1]; exact cell_new _ _ _ k
    have hp1 : Plain W1 w.heap.size := by rw [hW1]; exact plain_new _ _ _
    have ho1 : W1.ownsMap Try.prog 9 ptrElem mb i D := by rw [hW1]; exact B.own.alloc _
    obtain ⟨w2, hput, ho2, hg2⟩ := ho1.update law Try.underlying47 (by unfold maxLen; omega) hkey (ptrElem_mk w.heap.size)
    have lmb := B.own.lt
    have hz2 : w.heap.size < w2.heap.size := by have := hg2.size; omega
    have hblk : ∀ k, k < w.heap.size + 1 → ¬ k = mb → w2.heap[k]? = W1.heap[k]? := fun k h1 h2 => hg2.block k (by omega) (fun e => h2 (by simpa using e))
    have hcell2 : ∀ b o, b < w.heap.size → ¬ b = mb → w2.cell? ⟨b, o, none⟩ = w.cell? ⟨b, o, none⟩ := fun b o h1 h2 =>
      (World.cell?_of_block (a := ⟨b, o, none⟩) (hblk b (by omega) h2)).trans (hb1.cell (p := ⟨b, o, none⟩) h1)
    have hnew2 : ∀ k, w2.cell? ⟨w.heap.size, k, none⟩ = (#[.string (H i).client, .int .i64 0, .int .i64 0, .pointer none, .pointer none] : Array Value)[k]? := fun k =>
      (World.cell?_of_block (a := ⟨w.heap.size, k, none⟩) (hblk w.heap.size (by omega) (by omega))).trans (hn1 k)
    have hpl2 : ∀ b, Plain w b → Plain w2 b := fun b h => by
      have hl := h.lt
      have hm : ¬ b = mb := fun e => by
        obtain ⟨c, tt, e1⟩ := h
        obtain ⟨es, ck, e2, _⟩ := B.own
        rw [e, e2] at e1; cases e1
      exact (h.below hb1 hl).of_heap (hblk b (by omega) hm)
    have hpn2 : Plain w2 w.heap.size := hp1.of_heap (hblk _ (by omega) (by omega))
    refine (Join_new w w2 bb mb (H i).client (H i).st (H i).yields (H i).gone hrun (hW1 ▸ hput) B.b6 B.pbb.lt hz2 (by rw [hnew2]; rfl) (by rw [hnew2]; rfl) hpn2.frozen).mono ?_
    rintro e w' ⟨rfl, rfl⟩
    obtain ⟨W, hW⟩ : ∃ W, W = puts w2 [(w.heap.size, 3, .pointer (some ⟨w2.heap.size, 0, none⟩)), (w.heap.size, 4, .pointer (some ⟨w2.heap.size, 0, none⟩))] := ⟨_, rfl⟩
    have hz : W.heap.size = w2.heap.size := by rw [hW]; exact size_puts _ _
    have hcell : ∀ b o, (b = w.heap.size → ¬ (o = 3 ∨ o = 4)) → W.cell? ⟨b, o, none⟩ = w2.cell? ⟨b, o, none⟩ := fun b o g1 => by
      rw [hW]; exact cell_puts _ w2 (by simp <;> omega)
    have hc3' : W.cell? ⟨w.heap.size, 3, none⟩ = some (.pointer (some ⟨w2.heap.size, 0, none⟩)) := by
      rw [hW]; exact cell_mid (u := .pointer none) [] [_] (by rw [hnew2]; rfl) (by simp)
    have hc4' : W.cell? ⟨w.heap.size, 4, none⟩ = some (.pointer (some ⟨w2.heap.size, 0, none⟩)) := by
      rw [hW]; exact cell_mid (u := .pointer none) [_] [] (by rw [hnew2]; rfl) (by simp)
    have hpl : ∀ b, Plain w2 b → Plain W b := fun b h => by rw [hW]; exact plain_puts _ _ h
    have hown : W.ownsMap Try.prog 9 ptrElem mb (i + 1) (D.put (.string (H i).client.data.toList) (.lit (.int .i64 w.heap.size))) := by
      rw [hW]; exact owns_puts _ w2 ho2 (by simp <;> omega)
    have hbel2 : Below B0 w w2 := by
      refine (hb1.mono (by omega)).trans ⟨hg2.os, hg2.tape, hg2.output, hg2.size, fun k hk => hblk k (by omega) (by omega)⟩
    have hbel : Below B0 w W := by
      rw [hW]; exact below_puts _ w2 hbel2 (by simp <;> omega)
    have hwl := lpb
    show (∃ nb cb' D', Ending.returned (.pointer (some ⟨w2.heap.size, 0, none⟩)) = .returned (.pointer (some ⟨nb, 0, none⟩)) ∧ Built ((puts w2 [(w.heap.size, 3, .pointer (some ⟨w2.heap.size, 0, none⟩)), (w.heap.size, 4, .pointer (some ⟨w2.heap.size, 0, none⟩))]).alloc _) B0 bb mb pb N (i + 1) np H (hbU hb i nb) cb' (updC ct i 0) D') ∧ Below B0 w ((puts w2 [(w.heap.size, 3, .pointer (some ⟨w2.heap.size, 0, none⟩)), (w.heap.size, 4, .pointer (some ⟨w2.heap.size, 0, none⟩))]).alloc _) ∧ w.heap.size ≤ ((puts w2 [(w.heap.size, 3, .pointer (some ⟨w2.heap.size, 0, none⟩)), (w.heap.size, 4, .pointer (some ⟨w2.heap.size, 0, none⟩))]).alloc _).heap.size
    rw [← hW]
    clear hW hW1
    refine ⟨⟨w2.heap.size, fun s => if s = (H i).client then w.heap.size else cb s, D.put (.string (H i).client.data.toList) (.lit (.int .i64 w.heap.size)), rfl, ?_⟩, hbel.alloc (by rw [hz]; omega) _, by rw [size_alloc, hz]; omega⟩
    have nc : ∀ k, (W.alloc (.cells #[.pointer (some ⟨bb, 0, none⟩), .pointer (some ⟨w.heap.size, 0, none⟩), .nilFunc, .int .i64 0, .int .i64 (H i).st, .bool (H i).yields, .bool (H i).gone, .pointer none, .pointer none] 62)).cell? ⟨w2.heap.size, k, none⟩ =
        (#[.pointer (some ⟨bb, 0, none⟩), .pointer (some ⟨w.heap.size, 0, none⟩), .nilFunc, .int .i64 0, .int .i64 (H i).st, .bool (H i).yields, .bool (H i).gone, .pointer none, .pointer none] : Array Value)[k]? := fun k => by
      rw [← hz]; exact cell_new W _ _ k
    have oc : ∀ b o, b ≤ w.heap.size → (W.alloc (.cells #[.pointer (some ⟨bb, 0, none⟩), .pointer (some ⟨w.heap.size, 0, none⟩), .nilFunc, .int .i64 0, .int .i64 (H i).st, .bool (H i).yields, .bool (H i).gone, .pointer none, .pointer none] 62)).cell? ⟨b, o, none⟩ = W.cell? ⟨b, o, none⟩ := fun b o h => by
      rw [cell_alloc_old (by rw [hz]; omega)]
    have pl2 := plain_new W #[.pointer (some ⟨bb, 0, none⟩), .pointer (some ⟨w.heap.size, 0, none⟩), .nilFunc, .int .i64 0, .int .i64 (H i).st, .bool (H i).yields, .bool (H i).gone, .pointer none, .pointer none] 62
    rw [hz] at pl2
    have hnoj : ∀ j, j < i → ¬ (H j).client = (H i).client := fun j hj e => hp ⟨j, hj, e⟩
    have z1 : sumF (hF H ct (H i).client) i = 0 := sum_zero i (fun j hj => by unfold hF; rw [if_neg (hnoj j hj)])
    have z2 : sumF (oF H ct (H i).client) i = 0 := sum_zero i (fun j hj => by unfold oF; rw [if_neg (fun x => hnoj j hj x.1)])
    have hne : ∀ s, Pres H i s → (if s = (H i).client then w.heap.size else cb s) = cb s := fun s hs => if_neg (fun e : s = (H i).client => hp (by rw [e] at hs; exact hs))
    refine B.extend hi hnp w2.heap.size lpb (by omega) hne (Or.inr ⟨by simp, by simp; omega⟩) ?_ (fun b h => (hpl b (hpl2 b h)).alloc _) pl2 (by simp only [if_true]; exact (hpl _ hpn2).alloc _) (hown.alloc _) (B.says.put B.own.isMap w.heap.size) ?_ ?_ ⟨?_, ?_, ?_, ?_⟩ ?_ ?_ ?_ ?_ ?_
    · intro b o h g1 g2
      rw [oc b o (by omega), hcell b o (by omega)]
      by_cases hm : b = mb
      · subst hm
        obtain ⟨es, ck, e2, _⟩ := B.own
        obtain ⟨es', ck', e3, _⟩ := ho2
        simp [World.cell?, e2, e3]
      · exact hcell2 b o h hm
    · rw [nc 0]; rfl
    · rw [nc 1]; simp
    · rw [nc 3]; rfl
    · rw [nc 4]; rfl
    · rw [nc 5]; rfl
    · rw [nc 6]; rfl
    · simp only [if_true]; rw [z1, oc _ 1 (Nat.le_refl _), hcell _ 1 (by omega), hnew2]; rfl
    · simp only [if_true]; rw [z2, oc _ 2 (Nat.le_refl _), hcell _ 2 (by omega), hnew2]; rfl
    · simp only [if_true]; rw [oc _ 3 (Nat.le_refl _), hc3', chn_none hp]; rfl
    · simp only [if_true]; rw [oc _ 4 (Nat.le_refl _), hc4']; rfl
    · rw [chn_none hp]
      refine ⟨rfl, none, ?_, rfl⟩
      rw [nc 8]; rfl
end Go.Proofs.Qxb6618660a
