import Derived.Test.Qxb6618660aWalksD
namespace Go.Proofs.Qxb6618660a
open Go.RowKit Go.MuLone Go.Maps Go.WideMaps
set_option linter.unusedVariables false
set_option linter.unusedSimpArgs false

/-- The open holdings of a client that can be ended, as openOf reckons. -/
def ofO (t : Nat) (tn : ByteArray) (cb : ByteArray → Nat) (opn : ByteArray → Int) (cst stn : Nat → Int) (yl : Nat → Bool) (s : ByteArray) : Int :=
  openO (cb s == cb tn) (if yl t then 0 else stn t) (cst t) (opn s)

/-- The best of those that are no longer to come. -/
def top (o : ByteArray → Int) : Option ByteArray → Int
  | none => 0
  | some s => o s
def BestO (pres : ByteArray → Prop) (left : Lit → Bool) (o : ByteArray → Int) (m : Option ByteArray) : Prop :=
  (∀ s', m = some s' → pres s' ∧ 0 < o s') ∧ ∀ s, pres s → left (.string s.data.toList) = false → o s ≤ top o m

theorem left_strike {left : Lit → Bool} {x s : ByteArray} (h : (left (.string s.data.toList) && !(Lit.string s.data.toList).sameKey (.string x.data.toList)) = false) : left (.string s.data.toList) = false ∨ s = x := by
  by_cases e : s = x
  · exact Or.inr e
  · rw [key_ne e] at h; left; simpa using h

theorem BestO.keep {pres : ByteArray → Prop} {left : Lit → Bool} {o : ByteArray → Int} {m : Option ByteArray} (h : BestO pres left o m) (x : ByteArray) (hx : o x ≤ top o m) :
    BestO pres (fun z => left z && !z.sameKey (.string x.data.toList)) o m := by
  refine ⟨h.1, fun s hs hl => ?_⟩
  rcases left_strike hl with h1 | rfl
  · exact h.2 s hs h1
  · exact hx
theorem BestO.take {pres : ByteArray → Prop} {left : Lit → Bool} {o : ByteArray → Int} {m : Option ByteArray} (h : BestO pres left o m) (x : ByteArray) (px : pres x) (p : 0 < o x) (hx : top o m < o x) :
    BestO pres (fun z => left z && !z.sameKey (.string x.data.toList)) o (some x) := by
  refine ⟨fun s' e => by cases e; exact ⟨px, p⟩, fun s hs hl => ?_⟩
  rcases left_strike hl with h1 | rfl
  · have h2 := h.2 s hs h1
    simp only [top]; omega
  · simp [top]
theorem BestO.done {pres : ByteArray → Prop} {left : Lit → Bool} {o : ByteArray → Int} {m : Option ByteArray} (h : BestO pres left o m) (hl : ∀ kl, left kl = false) : BestO pres (fun _ => false) o m :=
  ⟨h.1, fun s hs _ => h.2 s hs (hl _)⟩
theorem BestO.nonneg {pres : ByteArray → Prop} {left : Lit → Bool} {o : ByteArray → Int} {m : Option ByteArray} (h : BestO pres left o m) : 0 ≤ top o m := by
  cases m with
  | none => simp [top]
  | some s => have := (h.1 s rfl).2; simp only [top]; omega
theorem ranges_drewN {w : World} {b r n : Nat} {D : DataW Unit} {left : Lit → Bool} {cnt : Nat} (h : w.ranges Try.prog 9 ptrElem b r n D left cnt) (q : Nat) : (w.drewN q).ranges Try.prog 9 ptrElem b r n D left cnt := by
  unfold World.ranges at h ⊢; exact h
theorem size_alloc (w : World) (o : Obj) : (w.alloc o).heap.size = w.heap.size + 1 := by show (w.heap.push o).size = _; simp

set_option maxHeartbeats 1000000 in
theorem openVictim_any (w : World) (bb mb t tc n : Nat) (D : DataW Unit) (tn : ByteArray) (pres : ByteArray → Prop) (cb : ByteArray → Nat) (held opn : ByteArray → Int) (chn : ByteArray → List Nat) (hdp : ByteArray → Option Nat)
    (cst stn : Nat → Int) (yl gn : Nat → Bool) (hown : w.ownsMap Try.prog 9 ptrElem mb n D) (M : MapSays D pres cb)
    (V : View w bb mb t tc tn pres cb held opn chn hdp cst stn yl gn) :
    Calls Try.prog 39 #[.pointer (some ⟨bb, 0, none⟩), .pointer (some ⟨t, 0, none⟩)] w fun e w' =>
      (∃ m : Option ByteArray, BestO pres (fun _ => false) (ofO t tn cb opn cst stn yl) m ∧ e = .returned (optPtr (m.bind fun s => (chn s).find? (okB cst stn yl gn t 0)))) ∧ Below w.heap.size w w' := by
  have b6 := V.b6
  have lb := V.lb
  have V' := hide V
  have M' := hide M
  clear V M
  go_enter Try.func39, Try.ntmps39
  go_wp2_with (at_range; refine wpList_range_own _ rfl _ 47 rfl 9 57 law Try.underlying47 ptrElem mb n D rfl (hown.alloc _) ?_; intro w0 hrg0 hg0 hs0)
  go_frame
  have hb0 : Below (w.heap.size + 1) (w.alloc (Obj.cells #[Value.pointer (some ⟨t, 0, none⟩)] 24)) w0 := (Below.refl _ _).grown hg0 (by rw [size_alloc]; omega) (fun k e => by cases e)
  have hbox : (w.alloc (Obj.cells #[Value.pointer (some ⟨t, 0, none⟩)] 24)).cell? ⟨w.heap.size, 0, none⟩ = some (.pointer (some ⟨t, 0, none⟩)) := by simp [go_sem]
  have hw1 : Below w.heap.size w (w.alloc (Obj.cells #[Value.pointer (some ⟨t, 0, none⟩)] 24)) := (Below.refl _ _).alloc (Nat.le_refl _) _
  have hsz : (w.alloc (Obj.cells #[Value.pointer (some ⟨t, 0, none⟩)] 24)).heap.size = w.heap.size + 1 := size_alloc _ _
  generalize (w.alloc (Obj.cells #[Value.pointer (some ⟨t, 0, none⟩)] 24)) = w1 at *
  generalize hr : w1.heap.size = r at *
  have hrw : w.heap.size < r := by omega
  clear hsz hr hown hg0
  go_loopg [6, 8, 9] (Maps.size D) (fun k m c o wr => ∃ left cnt, wr.ranges Try.prog 9 ptrElem mb r n D left cnt ∧ cnt ≤ k ∧ Below (w.heap.size + 1) w1 wr ∧ ∃ m' : Option ByteArray, m = optPtr (m'.map cb) ∧ BestO pres left (ofO t tn cb opn cst stn yl) m')
  case atStart => exact ⟨_, _, hrg0, Nat.le_refl _, hb0, none, rfl, ⟨fun s' e => (by cases e), fun s hs hl => (by rw [(unhide M').has s hs] at hl; cases hl)⟩⟩
  case round =>
    obtain ⟨left, cnt, hrg, hk, hbw, m, rfl, hm⟩ := hrel
    have hm' := hide hm
    clear hm hrg0 hb0
    have hx : wr.cell? ⟨w.heap.size, 0, none⟩ = some (.pointer (some ⟨t, 0, none⟩)) := (hbw.cell (p := ⟨w.heap.size, 0, none⟩) (Nat.lt_succ_self _)).trans hbox
    have Vr := hide ((unhide V').below (hw1.trans (hbw.mono (Nat.le_succ _))))
    go_wp2_with (at_next; refine wpList_next_ranges _ rfl _ rfl 9 law ptrElem (fun s : ByteArray => Value.string s) optPtr key_inv elem_inv mb r n D left cnt rfl hrg ?_ ?_)
    · intro hc0 hl0
      have hl0' := hide hl0
      clear hl0
      cases m with
      | none =>
        have en : optPtr (Option.map cb none) = .pointer none := rfl
        simp only [en]
        go_wp2_with fail
        go_ret
        refine ⟨⟨none, (unhide hm').done (unhide hl0'), rfl⟩, ?_⟩
        exact hw1.trans (hbw.mono (Nat.le_succ _))
      | some s =>
        have ps := ((unhide hm').1 s rfl).1
        have en : optPtr (Option.map cb (some s)) = .pointer (some ⟨cb s, 0, none⟩) := rfl
        simp only [en]
        go_wp2_with fail
        refine (oldest_any wr (cb s) t 0 (chn s) (hdp s) cst stn yl gn _ ((unhide Vr).c3 s ps) ((unhide Vr).ch s ps) (fun b hb => ((unhide Vr).ca s ps b hb).1) (fun b hb => ((unhide Vr).ca s ps b hb).2) (unhide Vr).tp rfl).mono ?_
        rintro e w' ⟨rfl, rfl⟩
        go_wp2
        go_ret
        refine ⟨⟨some s, (unhide hm').done (unhide hl0'), rfl⟩, ?_⟩
        exact hw1.trans (hbw.mono (Nat.le_succ _))
    · intro x c kl y ps w2 cnt2 hkey hlk hv hat hrg2 hlt hg2 hs2 hen
      obtain rfl := key_lit x kl hkey
      obtain ⟨px, rfl⟩ := (unhide M').get x c y ps hat hv
      have hlt2 : cnt2 < gk := by omega
      have hbw2 : Below (w.heap.size + 1) w1 w2 := hbw.grown hg2 (by have := hrg.lt; omega) (fun k e => by cases e; omega)
      have hrg2' := hide (fun q => ranges_drewN hrg2 q)
      clear hrg hrg2 hg2 hx Vr hat hv hkey hlk hbw hk hlt
      have hx : w2.cell? ⟨w.heap.size, 0, none⟩ = some (.pointer (some ⟨t, 0, none⟩)) := (hbw2.cell (p := ⟨w.heap.size, 0, none⟩) (Nat.lt_succ_self _)).trans hbox
      have Vr := hide ((unhide V').below (hw1.trans (hbw2.mono (Nat.le_succ _))))
      have KK : ∀ s, pres s → ∀ w3, (∃ n, w3 = w2.drewN n) → Calls Try.prog 50 #[.pointer (some ⟨cb s, 0, none⟩), .pointer (some ⟨w.heap.size, 0, none⟩)] w3 fun e w' => e = .returned (.int .i64 (ofO t tn cb opn cst stn yl s)) ∧ ∃ n, w' = w2.drewN n := by
        rintro s hs _ ⟨n, rfl⟩
        have Q := (unhide Vr).below (w' := w2.drewN n) ⟨rfl, rfl, rfl, Nat.le_refl _, fun _ _ => rfl⟩
        refine (closure_any (w2.drewN n) (cb s) w.heap.size t (cb tn) (cst t) (stn t) (opn s) (yl t) (gn t) hx Q.t1 Q.th (Q.c2 s hs) (Q.cp s hs) (Q.cp tn Q.tin) (Q.ob s hs).1 (Q.ob s hs).2 Q.tb.1 Q.tb.2).mono ?_
        rintro e w' ⟨rfl, n2, rfl⟩
        exact ⟨rfl, n + n2, by simp [World.drewN_drewN]⟩
      have KK' := hide KK
      clear KK
      have en : optPtr (some (cb x)) = .pointer (some ⟨cb x, 0, none⟩) := rfl
      rw [en] at hen ⊢
      go_wp2_with fail
      refine (unhide KK' x px _ ⟨0, rfl⟩).mono ?_
      rintro e w3 ⟨rfl, n3, rfl⟩
      generalize hO : ofO t tn cb opn cst stn yl x = O at *
      have hO' := hide hO
      clear hO
      by_cases z0 : 0 < O
      · cases m with
        | none =>
          have en : optPtr (Option.map cb none) = .pointer none := rfl
          simp only [en]
          go_wp2_with fail
          go_roundg cnt2
          case measure => exact hlt2
          case rel => exact ⟨_, _, unhide hrg2' _, Nat.le_refl _, ⟨hbw2.os, hbw2.tape, hbw2.output, hbw2.size, hbw2.block⟩, some x, rfl, (unhide hm').take x px (by rw [unhide hO']; exact z0) (by rw [unhide hO']; exact z0)⟩
        | some s' =>
          have ps := ((unhide hm').1 s' rfl).1
          have en : optPtr (Option.map cb (some s')) = .pointer (some ⟨cb s', 0, none⟩) := rfl
          simp only [en]
          go_wp2_with fail
          refine (unhide KK' s' ps _ ⟨n3, rfl⟩).mono ?_
          rintro e w3 ⟨rfl, n4, rfl⟩
          generalize hU : ofO t tn cb opn cst stn yl s' = U at *
          have hU' := hide hU
          clear hU
          by_cases z1 : U < O
          · go_wp2_with fail
            go_roundg cnt2
            case measure => exact hlt2
            case rel => exact ⟨_, _, unhide hrg2' _, Nat.le_refl _, ⟨hbw2.os, hbw2.tape, hbw2.output, hbw2.size, hbw2.block⟩, some x, rfl, (unhide hm').take x px (by rw [unhide hO']; exact z0) (by rw [unhide hO']; show ofO t tn cb opn cst stn yl s' < O; rw [unhide hU']; exact z1)⟩
          · go_wp2_with fail
            go_roundg cnt2
            case measure => exact hlt2
            case rel => exact ⟨_, _, unhide hrg2' _, Nat.le_refl _, ⟨hbw2.os, hbw2.tape, hbw2.output, hbw2.size, hbw2.block⟩, some s', rfl, (unhide hm').keep x (by rw [unhide hO']; show O ≤ ofO t tn cb opn cst stn yl s'; rw [unhide hU']; omega)⟩
      · go_wp2_with fail
        go_roundg cnt2
        case measure => exact hlt2
        case rel => exact ⟨_, _, unhide hrg2' _, Nat.le_refl _, ⟨hbw2.os, hbw2.tape, hbw2.output, hbw2.size, hbw2.block⟩, m, rfl, (unhide hm').keep x (by rw [unhide hO']; have := (unhide hm').nonneg; omega)⟩
end Go.Proofs.Qxb6618660a
