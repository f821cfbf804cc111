import Derived.Test.Qxb6618660aOpenV
namespace Go.Proofs.Qxb6618660a
open Go.RowKit Go.MuLone Go.Maps Go.WideMaps
set_option linter.unusedVariables false
set_option linter.unusedSimpArgs false

/-- The client that holds most of those no longer to come. -/
def BestH (pres : ByteArray → Prop) (left : Lit → Bool) (h : ByteArray → Int) (m : Option ByteArray) : Prop :=
  (∀ s', m = some s' → pres s') ∧ ∀ s, pres s → left (.string s.data.toList) = false → ∃ s', m = some s' ∧ h s ≤ h s'
theorem BestH.keep {pres : ByteArray → Prop} {left : Lit → Bool} {h : ByteArray → Int} {s' : ByteArray} (H : BestH pres left h (some s')) (x : ByteArray) (hx : h x ≤ h s') :
    BestH pres (fun z => left z && !z.sameKey (.string x.data.toList)) h (some s') := by
  refine ⟨H.1, fun s hs hl => ?_⟩
  rcases left_strike hl with h1 | rfl
  · exact H.2 s hs h1
  · exact ⟨_, rfl, hx⟩
theorem BestH.take {pres : ByteArray → Prop} {left : Lit → Bool} {h : ByteArray → Int} {m : Option ByteArray} (H : BestH pres left h m) (x : ByteArray) (px : pres x) (hx : ∀ s', m = some s' → h s' ≤ h x) :
    BestH pres (fun z => left z && !z.sameKey (.string x.data.toList)) h (some x) := by
  refine ⟨fun s' e => by cases e; exact px, fun s hs hl => ?_⟩
  rcases left_strike hl with h1 | rfl
  · obtain ⟨s', e, h2⟩ := H.2 s hs h1
    exact ⟨x, rfl, Int.le_trans h2 (hx s' e)⟩
  · exact ⟨_, rfl, Int.le_refl _⟩

theorem Vdrew {w : World} {bb mb t tc : Nat} {tn : ByteArray} {pres : ByteArray → Prop} {cb : ByteArray → Nat} {held opn : ByteArray → Int} {chn : ByteArray → List Nat} {hdp : ByteArray → Option Nat} {cst stn : Nat → Int} {yl gn : Nat → Bool}
    (V : View w bb mb t tc tn pres cb held opn chn hdp cst stn yl gn) (q : Nat) : View (w.drewN q) bb mb t tc tn pres cb held opn chn hdp cst stn yl gn :=
  V.below ⟨rfl, rfl, rfl, Nat.le_refl _, fun _ _ => rfl⟩
theorem oldest_view {w : World} {bb mb t tc : Nat} {tn : ByteArray} {pres : ByteArray → Prop} {cb : ByteArray → Nat} {held opn : ByteArray → Int} {chn : ByteArray → List Nat} {hdp : ByteArray → Option Nat} {cst stn : Nat → Int} {yl gn : Nat → Bool}
    (V : View w bb mb t tc tn pres cb held opn chn hdp cst stn yl gn) (s : ByteArray) (ps : pres s) (st : Int) :
    Calls Try.prog 40 #[.pointer (some ⟨cb s, 0, none⟩), .pointer (some ⟨t, 0, none⟩), .int .i64 st] w fun e w' => e = .returned (optPtr ((chn s).find? (okB cst stn yl gn t st))) ∧ w' = w :=
  oldest_any w (cb s) t st (chn s) (hdp s) cst stn yl gn _ (V.c3 s ps) (V.ch s ps) (fun b hb => (V.ca s ps b hb).1) (fun b hb => (V.ca s ps b hb).2) V.tp rfl
theorem below_grown {w w' : World} (h : Below w.heap.size w w') : w.grownBy w' none := ⟨h.os, h.tape, h.output, h.size, fun k hk _ => h.block k hk⟩

/-- What victim answers. -/
def VicSays (t : Nat) (tn : ByteArray) (n : Int) (pres : ByteArray → Prop) (cb : ByteArray → Nat) (held opn : ByteArray → Int) (chn : ByteArray → List Nat) (cst stn : Nat → Int) (yl gn : Nat → Bool) (R : Option Nat) : Prop :=
  ∃ mo : Option ByteArray, BestO pres (fun _ => false) (ofO t tn cb opn cst stn yl) mo ∧
    ((∃ v, (mo.bind fun s => (chn s).find? (okB cst stn yl gn t 0)) = some v ∧ R = some v) ∨
     ((mo.bind fun s => (chn s).find? (okB cst stn yl gn t 0)) = none ∧ ∃ m, pres m ∧ (∀ s, pres s → held s ≤ held m) ∧
       ((held m ≤ held tn + n ∧ R = none) ∨ (held tn + n < held m ∧ R = ((chn m).find? (okB cst stn yl gn t 1)).or ((chn m).find? (okB cst stn yl gn t 2))))))

set_option maxHeartbeats 1000000 in
theorem victim_any (w : World) (bb mb t tc n : Nat) (k : Int) (D : DataW Unit) (tn : ByteArray) (pres : ByteArray → Prop) (cb : ByteArray → Nat) (held opn : ByteArray → Int) (chn : ByteArray → List Nat) (hdp : ByteArray → Option Nat)
    (cst stn : Nat → Int) (yl gn : Nat → Bool) (hown : w.ownsMap Try.prog 9 ptrElem mb n D) (M : MapSays D pres cb)
    (V : View w bb mb t tc tn pres cb held opn chn hdp cst stn yl gn) (k0 : -1099511627776 ≤ k) (k1 : k ≤ 1099511627776) :
    Calls Try.prog 33 #[.pointer (some ⟨bb, 0, none⟩), .pointer (some ⟨t, 0, none⟩), .int .i64 k] w fun e w' =>
      (∃ R, VicSays t tn k pres cb held opn chn cst stn yl gn R ∧ e = .returned (optPtr R)) ∧ Below w.heap.size w w' := by
  have O := hide (openVictim_any w bb mb t tc n D tn pres cb held opn chn hdp cst stn yl gn hown M V)
  have V' := hide V
  have M' := hide M
  have own' := hide hown
  clear V M hown
  go_enter Try.func33, Try.ntmps33
  go_wp2_with fail
  refine (unhide O).mono ?_
  rintro e w1 ⟨⟨mo, hmo, rfl⟩, hb1⟩
  have hmo' := hide hmo
  clear hmo O
  generalize hbd : (mo.bind fun s => (chn s).find? (okB cst stn yl gn t 0)) = bd
  cases bd with
  | some v =>
    have en : optPtr (some v) = .pointer (some ⟨v, 0, none⟩) := rfl
    have hbd' := hide hbd
    clear hbd
    rw [en]
    go_wp2_with fail
    go_ret
    exact ⟨⟨some v, ⟨mo, unhide hmo', Or.inl ⟨v, unhide hbd', rfl⟩⟩, rfl⟩, hb1⟩
  | none =>
    have en : optPtr none = .pointer none := rfl
    have hbd' := hide hbd
    clear hbd
    rw [en]
    have b6 : w1.cell? ⟨bb, 6, none⟩ = some (.map (some mb)) := (hb1.cell (p := ⟨bb, 6, none⟩) (unhide V').lb).trans (unhide V').b6
    have hown1 := (unhide own').kept (below_grown hb1) (by simp)
    go_wp2_with (at_range; refine wpList_range_own _ rfl _ 47 rfl 9 57 law Try.underlying47 ptrElem mb n D rfl hown1 ?_; intro w0 hrg0 hg0 hs0)
    go_frame
    have hb0 : Below w.heap.size w w0 := hb1.grown hg0 hb1.size (fun k e => by cases e)
    generalize hr : w1.heap.size = r at *
    have hrw : w.heap.size ≤ r := by have := hb1.size; omega
    clear hr hown1 hg0 hb1 b6
    go_loopg [8, 10] (Maps.size D) (fun k m c wr => ∃ left cnt, wr.ranges Try.prog 9 ptrElem mb r n D left cnt ∧ cnt ≤ k ∧ Below w.heap.size w wr ∧ ∃ m' : Option ByteArray, m = optPtr (m'.map cb) ∧ BestH pres left held m')
    case atStart => exact ⟨_, _, hrg0, Nat.le_refl _, hb0, none, rfl, ⟨fun s' e => (by cases e), fun s hs hl => (by rw [(unhide M').has s hs] at hl; cases hl)⟩⟩
    case round =>
      obtain ⟨left, cnt, hrg, hk, hbw, m, rfl, hm⟩ := hrel
      have hm' := hide hm
      clear hm hrg0 hb0
      have Vr := hide ((unhide V').below hbw)
      go_wp2_with (at_next; refine wpList_next_ranges _ rfl _ rfl 9 law ptrElem (fun s : ByteArray => Value.string s) optPtr key_inv elem_inv mb r n D left cnt rfl hrg ?_ ?_)
      · intro hc0 hl0
        have hl0' := hide hl0
        clear hl0
        obtain ⟨s, rfl, _⟩ := (unhide hm').2 tn (unhide V').tin (unhide hl0' _)
        have ps := (unhide hm').1 s rfl
        have best := hide (fun s2 (h2 : pres s2) => (show held s2 ≤ held s by obtain ⟨s3, e3, h3⟩ := (unhide hm').2 s2 h2 (unhide hl0' _); cases e3; exact h3))
        have en2 : optPtr (Option.map cb (some s)) = .pointer (some ⟨cb s, 0, none⟩) := rfl
        simp only [en2]
        have d1 := (unhide Vr).c1 s ps
        have d2 := (unhide Vr).c1 tn (unhide V').tin
        have d3 := (unhide Vr).t1
        have q1 := ((unhide V').hb s ps).1
        have q2 := ((unhide V').hb s ps).2
        have q3 := ((unhide V').hb tn (unhide V').tin).1
        have q4 := ((unhide V').hb tn (unhide V').tin).2
        have C := hide (fun q st => oldest_view (Vdrew (unhide Vr) q) s ps st)
        generalize hHs : held s = Hs at *
        generalize hHt : held tn = Ht at *
        have hH := hide (And.intro hHs hHt)
        clear hHs hHt
        by_cases z : Hs ≤ Ht + k
        · go_wp2_with fail
          go_quiet (fail)
          go_wp2_with fail
          go_ret
          refine ⟨⟨none, ⟨mo, unhide hmo', Or.inr ⟨unhide hbd', s, ps, fun s2 h2 => ?_, Or.inl ⟨?_, rfl⟩⟩⟩, rfl⟩, ⟨hbw.os, hbw.tape, hbw.output, hbw.size, hbw.block⟩⟩
          · rw [(unhide hH).1]; exact unhide best s2 h2
          · rw [(unhide hH).1, (unhide hH).2]; exact z
        · have z' : Ht + k < Hs := by omega
          go_wp2_with fail
          go_quiet (fail)
          go_wp2_with fail
          refine (unhide C _ 1).mono ?_
          rintro e w3 ⟨rfl, rfl⟩
          generalize hf1 : (chn s).find? (okB cst stn yl gn t 1) = f1
          have hf1' := hide hf1
          clear hf1
          cases f1 with
          | some v =>
            have en : optPtr (some v) = .pointer (some ⟨v, 0, none⟩) := rfl
            rw [en]
            go_wp2_with fail
            go_ret
            refine ⟨⟨some v, ⟨mo, unhide hmo', Or.inr ⟨unhide hbd', s, ps, fun s2 h2 => ?_, Or.inr ⟨?_, ?_⟩⟩⟩, rfl⟩, ⟨hbw.os, hbw.tape, hbw.output, hbw.size, hbw.block⟩⟩
            · rw [(unhide hH).1]; exact unhide best s2 h2
            · rw [(unhide hH).1, (unhide hH).2]; exact z'
            · rw [unhide hf1']; rfl
          | none =>
            rw [en]
            go_wp2_with fail
            refine (unhide C _ 2).mono ?_
            rintro e w3 ⟨rfl, rfl⟩
            go_wp2_with fail
            go_ret
            refine ⟨⟨_, ⟨mo, unhide hmo', Or.inr ⟨unhide hbd', s, ps, fun s2 h2 => ?_, Or.inr ⟨?_, ?_⟩⟩⟩, rfl⟩, ⟨hbw.os, hbw.tape, hbw.output, hbw.size, hbw.block⟩⟩
            · rw [(unhide hH).1]; exact unhide best s2 h2
            · rw [(unhide hH).1, (unhide hH).2]; exact z'
            · rw [unhide hf1']; rfl
      · intro x c kl y ps w2 cnt2 hkey hlk hv hat hrg2 hlt hg2 hs2 hen
        obtain rfl := key_lit x kl hkey
        obtain ⟨px, rfl⟩ := (unhide M').get x c y ps hat hv
        have hlt2 : cnt2 < gk := by omega
        have hbw2 : Below w.heap.size w w2 := hbw.grown hg2 (by have := hrg.lt; omega) (fun k e => by cases e; omega)
        have hrg2' := hide (fun q => ranges_drewN hrg2 q)
        clear hrg hrg2 hg2 Vr hat hv hkey hlk hbw hk hlt
        have Vr := (unhide V').below hbw2
        have d1 := Vr.c1 x px
        have en3 : optPtr (some (cb x)) = .pointer (some ⟨cb x, 0, none⟩) := rfl
        rw [en3] at hen ⊢
        cases m with
        | none =>
          clear Vr
          have en2 : optPtr (Option.map cb none) = .pointer none := rfl
          simp only [en2]
          go_wp2_with fail
          go_quiet (fail)
          go_wp2_with fail
          go_roundg cnt2
          case measure => exact hlt2
          case rel => exact ⟨_, _, unhide hrg2' _, Nat.le_refl _, ⟨hbw2.os, hbw2.tape, hbw2.output, hbw2.size, hbw2.block⟩, some x, rfl, (unhide hm').take x px (fun s' e => by cases e)⟩
        | some s' =>
          have ps := (unhide hm').1 s' rfl
          have d2 := Vr.c1 s' ps
          clear Vr
          have en2 : optPtr (Option.map cb (some s')) = .pointer (some ⟨cb s', 0, none⟩) := rfl
          simp only [en2]
          generalize hHx : held x = Hx at *
          generalize hHs : held s' = Hs at *
          have hH := hide (And.intro hHx hHs)
          clear hHx hHs
          by_cases z : Hs < Hx
          · go_wp2_with fail
            go_quiet (fail)
            go_wp2_with fail
            go_roundg cnt2
            case measure => exact hlt2
            case rel => exact ⟨_, _, unhide hrg2' _, Nat.le_refl _, ⟨hbw2.os, hbw2.tape, hbw2.output, hbw2.size, hbw2.block⟩, some x, rfl, (unhide hm').take x px (fun s2 e => by cases e; rw [(unhide hH).1, (unhide hH).2]; omega)⟩
          · go_wp2_with fail
            go_quiet (fail)
            go_wp2_with fail
            go_roundg cnt2
            case measure => exact hlt2
            case rel => exact ⟨_, _, unhide hrg2' _, Nat.le_refl _, ⟨hbw2.os, hbw2.tape, hbw2.output, hbw2.size, hbw2.block⟩, some s', rfl, (unhide hm').keep x (by rw [(unhide hH).1, (unhide hH).2]; omega)⟩
end Go.Proofs.Qxb6618660a
