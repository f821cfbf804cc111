import Derived.Test.Qxb6618660aQuiet
import Derived.Test.Qxb6618660aRegB
import Derived.Test.Qxb6618660aRegZ
import Derived.BigQuiet
import Derived.Deep.RegionHeld3
namespace Go.Proofs.Qxb6618660a
open Go.RowKit Go.MuLone Go.Maps Go.WideMaps
set_option linter.unusedVariables false
set_option linter.unusedSimpArgs false

def CostOk (H : Nat → VH) (lo : Int) (j : Nat) : Prop := lo ≤ (H j).cost ∧ (H j).cost ≤ 1099511627776 ∧ 0 ≤ (H j).st ∧ (H j).st ≤ 2
theorem New_below (w : World) (n : Int) : Calls Try.prog 7 #[.int .i64 n] w fun e w' => e = .returned (.pointer (some ⟨w.heap.size + 1, 0, none⟩)) ∧
    w' = (w.alloc (.map #[] 0)).alloc (.cells #[.int .i32 0, .int .u32 0, .int .i64 n, .int .i64 0, .int .i64 0, .int .i64 n, .map (some w.heap.size)] 56) := New_any w n

set_option maxRecDepth 100000 in
set_option maxHeartbeats 40000000 in
theorem lawB_any (w : World) (b o n cap : Nat) (t k : Int) (H : Nat → VH) (hA : Args w b o n H) :
    Calls Try.prog 6 #[.slice (some ⟨b, o, none⟩) n cap, .int .i64 t, .int .i64 k] w fun e w' => e = .returned (.bool true) ∧ Below w.heap.size w w' := by
  have hn := hA.small
  have A := hide hA
  clear hA
  go_enter Try.func6, Try.ntmps6
  go_wp2_with fail
  refine (bytes25_any w b o n cap t k H (unhide A)).mono ?_
  rintro e w1 ⟨⟨r, hr, rfl⟩, hb1⟩
  have hb1' := hide hb1
  have hr' := hide hr
  clear hb1 hr
  cases r with
  | false =>
    go_wp2_with fail
    go_ret
    exact ⟨rfl, unhide hb1'⟩
  | true =>
    by_cases hn2 : n ≤ 1024
    · go_wp2_with fail
      go_loopg [7, 8] (n + 1) (fun g s i wr => Below w.heap.size w wr ∧ ∃ (j : Nat) (ss : Int), j ≤ n ∧ i = .int .i64 j ∧ g + j = n + 1 ∧ s = .int .i64 ss ∧ 0 ≤ ss ∧ ss ≤ 1048576)
      case atStart => exact ⟨unhide hb1', 0, 0, by omega, rfl, by omega, rfl, by omega, by omega⟩
      case round =>
        as_aux_lemma =>
        obtain ⟨hbw, j, ss, hj, rfl, hg, rfl, s0, s1⟩ := hrel
        by_cases hlt : j < n
        · have Ar := (unhide A).below hbw
          have j0 := (Ar.at' j hlt).a0
          clear Ar
          have sm := unhide hr' trivial j hlt
          by_cases e2 : ss + (40 + (H j).client.size) ≤ 1048576
          · go_wp2
            go_roundg (gk - 1)
            case measure => omega
            case rel => exact ⟨hbw, j + 1, _, by omega, by go_num, by omega, rfl, by omega, by omega⟩
          · go_wp2
            go_ret
            exact ⟨rfl, hbw⟩
        · by_cases ht : 0 ≤ t ∧ t < n
          · obtain ⟨t0, t1⟩ := ht
            obtain ⟨t, rfl⟩ := Int.eq_ofNat_of_zero_le t0
            have t2 : t < n := by omega
            by_cases hk : 0 ≤ k ∧ k ≤ 1099511627776
            · obtain ⟨k0, k1⟩ := hk
              go_wp2_with fail
              go_loopg [9] (n + 1) (fun g i wr => Below w.heap.size w wr ∧ ∃ (j : Nat), j ≤ n ∧ i = .int .i64 j ∧ g + j = n + 1 ∧ ∀ q, q < j → CostOk H 0 q)
              case atStart => exact ⟨hbw, 0, by omega, rfl, by omega, fun q h => by omega⟩
              case round =>
                as_aux_lemma =>
                obtain ⟨hbw, j, hj, rfl, hg, hq⟩ := hrel
                have hq' := hide hq
                clear hq
                by_cases hlt : j < n
                · have Ar := (unhide A).below hbw
                  obtain ⟨j0, j1, j2, j3, j4⟩ := Ar.at' j hlt
                  clear Ar
                  have next := hide (fun (h : CostOk H 0 j) => (show ∀ q, q < j + 1 → CostOk H 0 q from fun q h2 => by rcases Nat.lt_succ_iff_lt_or_eq.1 h2 with h2 | rfl; exact unhide hq' q h2; exact h))
                  generalize hcc : (H j).cost = cc at *
                  generalize hst : (H j).st = st at *
                  have hH := hide (And.intro hcc hst)
                  clear hcc hst
                  by_cases q1 : cc < 0
                  · go_wp2
                    go_ret
                    exact ⟨rfl, hbw⟩
                  · by_cases q2 : 1099511627776 < cc
                    · go_wp2
                      go_ret
                      exact ⟨rfl, hbw⟩
                    · by_cases q3 : st < 0
                      · go_wp2
                        go_ret
                        exact ⟨rfl, hbw⟩
                      · by_cases q4 : 2 < st
                        · go_wp2
                          go_ret
                          exact ⟨rfl, hbw⟩
                        · go_wp2
                          go_roundg (gk - 1)
                          case measure => omega
                          case rel => exact ⟨hbw, j + 1, by omega, by go_num, by omega, unhide next ⟨by rw [(unhide hH).1]; omega, by rw [(unhide hH).1]; omega, by rw [(unhide hH).2]; omega, by rw [(unhide hH).2]; omega⟩⟩
                · have hall := hide (fun q (h : q < n) => unhide hq' q (by omega))
                  have hsm := hide (unhide hr' trivial)
                  clear hq' hr' hb1'
                  have hmk := run_make_row' (P := Try.prog) 36 24 (.pointer none) 8 Try.underlying36 info24 rfl .i64 .i64 n (by omega) (by omega)
                  go_wp2_with fail
                  refine (New_below _ _).mono ?_
                  rintro e w3 ⟨rfl, rfl⟩
                  have st0 := hide (fun hb cb ct => Built.start wr w.heap.size n 0 H hbw.size hb cb ct)
                  have bl0 : Below w.heap.size w (((wr.alloc (.map #[] 0)).alloc (.cells #[.int .i32 0, .int .u32 0, .int .i64 0, .int .i64 0, .int .i64 0, .int .i64 0, .map (some wr.heap.size)] 56)).alloc (.cells (madeCells #[.pointer none] n) 24)) :=
                    ((hbw.alloc hbw.size _).alloc (by rw [size_alloc]; have := hbw.size; omega) _).alloc (by rw [size_alloc, size_alloc]; have := hbw.size; omega) _
                  have bl0' := hide bl0
                  clear bl0
                  go_wp2_with fail
                  obtain ⟨bb, hbb⟩ : ∃ bb, wr.heap.size + 1 = bb := ⟨_, rfl⟩
                  obtain ⟨pb, hpb⟩ : ∃ pb, wr.heap.size + 1 + 1 = pb := ⟨_, rfl⟩
                  obtain ⟨mb, hmb⟩ : ∃ mb, wr.heap.size = mb := ⟨_, rfl⟩
                  have st1 := hide (fun hb cb ct => (show Built _ w.heap.size bb mb pb n 0 0 H hb cb ct (.map []) from by have := unhide st0 hb cb ct; rw [← hbb, ← hpb, ← hmb]; exact this))
                  rw [hpb, hbb]
                  generalize (((wr.alloc (.map #[] 0)).alloc (.cells #[.int .i32 0, .int .u32 0, .int .i64 0, .int .i64 0, .int .i64 0, .int .i64 0, .map (some wr.heap.size)] 56)).alloc (.cells (madeCells #[.pointer none] n) 24)) = w3 at st1 bl0' ⊢
                  clear st0 hbb hpb hmb hmk
                  go_loopg [12, 13] (n + 1) (fun g i h wr => Below w.heap.size w wr ∧ ∃ (j : Nat), j ≤ n ∧ i = .int .i64 j ∧ g + j = n + 1 ∧ ∃ hb cb ct D, EffTo H ct j ∧ Built wr w.heap.size bb mb pb n j j H hb cb ct D)
                  case atStart => exact ⟨unhide bl0', 0, by omega, rfl, by omega, fun _ => 0, fun _ => 0, fun _ => 0, _, fun q h => by omega, unhide st1 _ _ _⟩
                  case round =>
                    as_aux_lemma =>
                    obtain ⟨hbw, j, hj, rfl, hg, hb, cb, ct, D, hE, hB⟩ := hrel
                    have hE' := hide hE
                    have hB' := hide hB
                    clear hE hB st1 bl0'
                    by_cases hlt : j < n
                    · have Ar := (unhide A).below hbw
                      obtain ⟨j0, j1, j2, j3, j4⟩ := Ar.at' j hlt
                      clear Ar
                      have JN := hide (((unhide hB').below (w' := wr.drew) ⟨rfl, rfl, rfl, Nat.le_refl _, fun _ _ => rfl⟩).join (by omega) (Nat.le_refl _) (unhide hB').ppb.lt (by have := unhide hsm j hlt; unfold maxLen; omega))
                      have KJ := hide (fun (w5 : World) (h5 : Below w.heap.size wr.drew w5) => (show w5.cell? ⟨b, o + j * 5, none⟩ = some (.string (H j).client) ∧ w5.cell? ⟨b, o + j * 5 + 2, none⟩ = some (.int .i64 (H j).st) ∧ w5.cell? ⟨b, o + j * 5 + 3, none⟩ = some (.bool (H j).yields) ∧ w5.cell? ⟨b, o + j * 5 + 4, none⟩ = some (.bool (H j).gone) from
                        ⟨(h5.cell (p := ⟨b, o + j * 5, none⟩) (unhide A).lt).trans j0, (h5.cell (p := ⟨b, o + j * 5 + 2, none⟩) (unhide A).lt).trans j2, (h5.cell (p := ⟨b, o + j * 5 + 3, none⟩) (unhide A).lt).trans j3, (h5.cell (p := ⟨b, o + j * 5 + 4, none⟩) (unhide A).lt).trans j4⟩))
                      go_wp2_with fail
                      go_region_held3 (fun w5 => w5.cell? ⟨b, o + j * 5, none⟩ = some (.string (H j).client) ∧ w5.cell? ⟨b, o + j * 5 + 2, none⟩ = some (.int .i64 (H j).st) ∧ w5.cell? ⟨b, o + j * 5 + 3, none⟩ = some (.bool (H j).yields) ∧ w5.cell? ⟨b, o + j * 5 + 4, none⟩ = some (.bool (H j).gone)) (first | (exact unhide KJ _ (by assumption)) | go_keep)
                        (first | (go_at_call 8; refine (unhide JN).mono ?_; rintro e w4 ⟨⟨nb, cb', D', rfl, hB4⟩, hb4, hz4⟩))
                      have hbw4 : Below w.heap.size w w4 := hbw.trans (Below.trans (b := wr.drew) ⟨rfl, rfl, rfl, Nat.le_refl _, fun _ _ => rfl⟩ hb4)
                      have AD := hide (hB4.addJoined (unhide hE') ⟨by have := (unhide hall j hlt).1; omega, (unhide hall j hlt).2.1⟩)
                      rw [hbU_at] at AD
                      have i1 := (((unhide A).below hbw4).at' j hlt).a1
                      clear hB4 JN KJ j0 j1 j2 j3 j4 hb4
                      go_wp2_with fail
                      refine (unhide AD).mono ?_
                      rintro e w5 ⟨rfl, ⟨ct', hE5, hB5⟩, hb5⟩
                      have hbw5 : Below w.heap.size w w5 := hbw4.trans hb5
                      have hE5' := hide hE5
                      obtain ⟨v, hv⟩ := hB5.pex j hlt
                      have hfz := hB5.ppb.frozen j
                      have hst := hide (hB5.store hlt)
                      rw [hbU_at] at hst
                      have hpbB := hide hB5
                      clear hB5 hE5 hb5 AD i1
                      go_wp2_with fail
                      go_roundg (gk - 1)
                      case measure => omega
                      case rel => exact ⟨hbw5.setCell (by have := (unhide hpbB).base; have := (unhide hpbB).mbb; have := (unhide hpbB).bpb; simp only; omega) _, j + 1, by omega, by go_num, by omega, _, _, _, _, unhide hE5', unhide hst⟩
                    · obtain rfl : n = j := by omega
                      have Dm := hide (show DomB H n from fun q hq => unhide hall q hq)
                      have hmk2 := run_make_row' (P := Try.prog) 43 4 (.bool false) 1 Try.underlying43 info4 rfl .i64 .i64 n (by omega) (by omega)
                      have li := hide ((unhide hB').lim)
                      have bm := hide (bools_made wr n)
                      have bl2 := hide (hbw.alloc hbw.size (.cells (madeCells #[.bool false] n) 4))
                      have hB2 := hide ((unhide hB').below (w' := wr.alloc (.cells (madeCells #[.bool false] n) 4)) ((Below.refl _ _).alloc (Nat.le_refl _) _))
                      have C0 := hide (show CtE H n (fun _ => false) ct from fun q hq => by rw [unhide hE' q hq]; simp)
                      clear hB' hbw hall hE' hsm
                      go_wp2_with fail
                      obtain ⟨eb, heb⟩ : ∃ eb, wr.heap.size = eb := ⟨_, rfl⟩
                      generalize (wr.alloc (.cells (madeCells #[.bool false] n) 4)) = w3 at bm bl2 hB2 ⊢
                      rw [heb] at li bm ⊢
                      clear heb hmk2
                      have D0 := hide (show DInv H t n k (fun _ => false) from ⟨fun _ _ h => (by cases h), fun _ _ h => (by cases h)⟩)
                      go_loopg [15, 16, 17, 18] (n + 2) (fun g st v kk c wr => Below w.heap.size w wr ∧ ∃ (p : Nat) (E : Nat → Bool) (ct : Nat → Int), st = .int .i64 p ∧ g + p = n + 2 ∧ CtE H n E ct ∧ DInv H t n k E ∧ cnt E n = p ∧ Built wr w.heap.size bb mb pb n n n H hb cb ct D ∧ BoolsAt wr eb n E)
                      case atStart => exact ⟨unhide bl2, 0, fun _ => false, ct, rfl, by omega, unhide C0, unhide D0, sum_zero n fun q _ => rfl, unhide hB2, unhide bm⟩
                      case round =>
                        as_aux_lemma =>
                        obtain ⟨hbw, p, E, ct, rfl, hg, hC, hD, hcnt, hB, hE⟩ := hrel
                        have hpn : p ≤ n := by have := cnt_le E n; omega
                        have VC := hide (hB.victim t2 k (fun q hq hg2 => by rw [hC q hq, effs, hg2]; simp) (by omega) k1)
                        have pt := hB.ptr t t2
                        have hC' := hide hC
                        have hD' := hide hD
                        have hcnt' := hide hcnt
                        have hB' := hide hB
                        have hE' := hide hE
                        have hbw' := hide hbw
                        clear hC hD hcnt hB hE hbw bl2 hB2 C0 D0 bm
                        go_wp2_with fail
                        refine (unhide VC).mono ?_
                        rintro e w6 ⟨⟨r, hV, hr, rfl⟩, hb6⟩
                        have hbw6 : Below w.heap.size w w6 := (unhide hbw').trans (hb6.mono (unhide hbw').size)
                        have hB6 := hide ((unhide hB').below hb6)
                        have hE6 := hide ((unhide hE').below hb6)
                        have st6 := hide (drain_step (unhide Dm) k0 t2 (unhide hC') (unhide hD') hV)
                        clear hV hr hb6 VC pt hB' hE' hbw'
                        rcases unhide st6 with ⟨j, rfl, hj, hjt, hej, hgj, hcj, hD2⟩ | ⟨rfl, hdone⟩
                        · have hD2' := hide hD2
                          have hT1 : ((j : Int) == (t : Int)) = false := by rw [beq_eq_false_iff_ne]; omega
                          rw [show optPtr (Option.map hb (some j)) = .pointer (some ⟨hb j, 0, none⟩) from rfl]
                          have IX := hide ((unhide hB6).index hj)
                          have ec := (unhide hE6).at' j hj
                          rw [hej] at ec
                          have hfz := (unhide hE6).pl.frozen j
                          have ch3 := ((unhide hB6).hh j hj).h3
                          have cbd := (unhide hB6).cbd j hj
                          generalize hcc : ct j = cc at ch3 hcj cbd
                          have hcc' := hide hcc
                          have hej' := hide hej
                          clear hcc hej hD2 st6
                          go_wp2_with fail
                          refine (unhide IX).mono ?_
                          rintro e w7 ⟨rfl, rfl⟩
                          go_wp2_with fail
                          refine (cost_any _ _ cc ch3).mono ?_
                          rintro e w8 ⟨rfl, rfl⟩
                          have l5 := (unhide li).l4
                          have hEs := hide ((unhide hE6).set hj)
                          have hBs := hide ((unhide hB6).belowL (w' := w8.setCell ⟨eb, j, none⟩ (.bool true)) (unhide li) (fun x hx => Below.heap_setCell w8 _ _ x (by simp; omega)))
                          have hbs : Below w.heap.size w (w8.setCell ⟨eb, j, none⟩ (.bool true)) := hbw6.setCell (by have := (unhide hB6).base; have := (unhide hB6).mbb; have := (unhide li).l1; simp only; omega) _
                          have GV := hide ((unhide hBs).give hj hgj eb (unhide li).l1 (unhide li).l2 (unhide li).l3 cc (unhide hcc').symm)
                          clear IX
                          go_wp2_with fail
                          refine (unhide GV).mono ?_
                          rintro e w9 ⟨rfl, hB9, hb9, hk9, hz9⟩
                          have hE9 := hide ((unhide hEs).of_heap (hk9 eb (Nat.le_refl _)))
                          have hB9' := hide hB9
                          have hbw9 : Below w.heap.size w w9 := hbs.trans hb9
                          clear hB9 hk9 hz9 hb9 GV ec hfz ch3
                          go_wp2_with fail
                          go_roundg (gk - 1)
                          case measure => omega
                          case rel => exact ⟨hbw9, p + 1, updE E j, updC ct j 0, by go_num, by omega, fun q hq => by
                            by_cases e : q = j
                            · subst e; rw [updC_at]; simp [updE]
                            · simp only [updC, updE, e, if_false]; exact unhide hC' q hq, unhide hD2', by rw [cnt_upd hj (unhide hej'), unhide hcnt']; omega, unhide hB9', unhide hE9⟩
                        · have hdone' := hide hdone
                          clear hdone st6
                          rw [show optPtr (Option.map hb none) = .pointer none from rfl]
                          have hmk3 := run_make_row' (P := Try.prog) 43 4 (.bool false) 1 Try.underlying43 info4 rfl .i64 .i64 n (by omega) (by omega)
                          have bm2 := hide (bools_made w6 n)
                          have bl3 := hide (hbw6.alloc hbw6.size (.cells (madeCells #[.bool false] n) 4))
                          have hE7 := hide ((unhide hE6).below (w' := w6.alloc (.cells (madeCells #[.bool false] n) 4)) ((Below.refl _ _).alloc (Nat.le_refl _) _))
                          have lew := (unhide hE6).pl.lt
                          have lbw : w.heap.size ≤ eb := by have := (unhide hB6).base; have := (unhide hB6).mbb; have := (unhide li).l1; omega
                          clear hB6 hE6 hbw6 hC' hD' hcnt' hpn
                          go_wp2_with fail
                          obtain ⟨wb, hwb⟩ : ∃ wb, w6.heap.size = wb := ⟨_, rfl⟩
                          generalize (w6.alloc (.cells (madeCells #[.bool false] n) 4)) = w7 at bm2 bl3 hE7 ⊢
                          rw [hwb] at lew bm2 ⊢
                          clear hwb hmk3 li
                          go_loopg [20] (n + 1) (fun g i wr => Below w.heap.size w wr ∧ ∃ (j : Nat) (W : Nat → Bool), j ≤ n ∧ i = .int .i64 j ∧ g + j = n + 1 ∧ (∀ q, q < n → W q = (decide (q < j) && w0 H t q)) ∧ BoolsAt wr eb n E ∧ BoolsAt wr wb n W)
                          case atStart => exact ⟨unhide bl3, 0, fun _ => false, by omega, rfl, by omega, fun q hq => by simp, unhide hE7, unhide bm2⟩
                          case round =>
                            as_aux_lemma =>
                            obtain ⟨hbw, j, W, hj, rfl, hg, hW, hE, hWa⟩ := hrel
                            have hW' := hide hW
                            have hE' := hide hE
                            have hWa' := hide hWa
                            clear hW hE hWa bl3 hE7 bm2
                            by_cases hlt : j < n
                            · have Ar := (unhide A).below hbw
                              obtain ⟨j0, j1, j2, j3, j4⟩ := Ar.at' j hlt
                              clear Ar
                              have stay := hide (fun (h : w0 H t j = false) => (show ∀ q, q < n → W q = (decide (q < j + 1) && w0 H t q) from fun q hq => by
                                rw [unhide hW' q hq]
                                by_cases e : q = j
                                · subst e; simp [h]
                                · rw [show decide (q < j + 1) = decide (q < j) from by rw [decide_eq_decide]; omega]))
                              have turn := hide (fun (h : w0 H t j = true) => (show ∀ q, q < n → updE W j q = (decide (q < j + 1) && w0 H t q) from fun q hq => by
                                unfold updE
                                by_cases e : q = j
                                · subst e; simp [h]
                                · rw [if_neg e, unhide hW' q hq, show decide (q < j + 1) = decide (q < j) from by rw [decide_eq_decide]; omega]))
                              by_cases hjt : j = t
                              · have t3 : j ≤ t := by omega
                                have t4 : t ≤ j := by omega
                                have hw := hide (show w0 H t j = false by simp [w0, hjt])
                                clear hjt
                                go_wp2_with fail
                                go_roundg (gk - 1)
                                case measure => omega
                                case rel => exact ⟨hbw, j + 1, W, by omega, by go_num, by omega, unhide stay (unhide hw), unhide hE', unhide hWa'⟩
                              · have ht3 : ((j : Int) != (t : Int)) = true := by rw [bne_iff_ne]; omega
                                generalize hgn : (H j).gone = gg at j4
                                cases gg with
                                | true =>
                                  have hw := hide (show w0 H t j = false by simp [w0, hgn])
                                  clear hgn
                                  go_wp2_with fail
                                  go_roundg (gk - 1)
                                  case measure => omega
                                  case rel => exact ⟨hbw, j + 1, W, by omega, by go_num, by omega, unhide stay (unhide hw), unhide hE', unhide hWa'⟩
                                | false =>
                                  have hgn' := hide hgn
                                  clear hgn
                                  generalize hcc : (H j).cost = cc at j1
                                  have hcc' := hide hcc
                                  clear hcc
                                  by_cases hz : 0 < cc
                                  · have hval : Value.agg #[Value.string (H j).client, Value.int IntKind.i64 cc, Value.int IntKind.i64 (H j).st, Value.bool (H j).yields, Value.bool false] = Value.agg #[Value.string (H j).client, Value.int IntKind.i64 (H j).cost, Value.int IntKind.i64 (H j).st, Value.bool (H j).yields, Value.bool (H j).gone] := by rw [unhide hcc', unhide hgn']
                                    have hval' := hide hval
                                    clear hval
                                    go_wp2_with fail
                                    rw [unhide hval']
                                    refine (zstands_any wr (H j)).mono ?_
                                    rw [← unhide hval']
                                    rintro e w8 ⟨rfl, hb8⟩
                                    have hbw8 : Below w.heap.size w w8 := hbw.trans (hb8.mono hbw.size)
                                    have hE8 := hide ((unhide hE').below hb8)
                                    have hW8 := hide ((unhide hWa').below hb8)
                                    generalize hst : (H j).stands = st
                                    have hst' := hide hst
                                    clear hst hb8 hval' hE' hWa'
                                    by_cases z : st = 0
                                    · have z1 : (st == 0) = true := by simp [z]
                                      have hw := hide (show w0 H t j = true from w0_iff.2 ⟨hjt, unhide hgn', by rw [unhide hcc']; exact hz, by rw [unhide hst']; exact z⟩)
                                      have wc := (unhide hW8).at' j hlt
                                      have wf := (unhide hW8).pl.frozen j
                                      have hEs := hide ((unhide hE8).other (a := ⟨wb, j, none⟩) (by simp; omega) (.bool true))
                                      have hWs := hide ((unhide hW8).set hlt)
                                      clear z
                                      go_wp2_with fail
                                      go_roundg (gk - 1)
                                      case measure => omega
                                      case rel => exact ⟨hbw8.setCell (by simp only; omega) _, j + 1, updE W j, by omega, by go_num, by omega, unhide turn (unhide hw), unhide hEs, unhide hWs⟩
                                    · have z1 : (st == 0) = false := by simpa using z
                                      have hw := hide (show w0 H t j = false from by
                                        cases e : w0 H t j with
                                        | false => rfl
                                        | true => exact absurd ((unhide hst').symm.trans (w0_iff.1 e).2.2.2) z)
                                      go_wp2_with fail
                                      go_roundg (gk - 1)
                                      case measure => omega
                                      case rel => exact ⟨hbw8, j + 1, W, by omega, by go_num, by omega, unhide stay (unhide hw), unhide hE8, unhide hW8⟩
                                  · have hw := hide (show w0 H t j = false from by
                                      cases e : w0 H t j with
                                      | false => rfl
                                      | true => exact absurd (w0_iff.1 e).2.2.1 (by rw [unhide hcc']; exact hz))
                                    go_wp2_with fail
                                    go_roundg (gk - 1)
                                    case measure => omega
                                    case rel => exact ⟨hbw, j + 1, W, by omega, by go_num, by omega, unhide stay (unhide hw), unhide hE', unhide hWa'⟩
                            · obtain rfl : n = j := by omega
                              have hW2 := hide (show ∀ q, q < n → W q = w0 H t q from fun q hq => by rw [unhide hW' q hq]; simp [hq])
                              clear hW'
                              have Sb := hide (fun q (hq : q ≤ n) => sumF_bd' (f := rrF H t (H t).client) (B := 1099511627776) q (fun x hx => by have := (unhide Dm).eff (j := x) (by omega); unfold rrF; split <;> omega))
                              have Sn := hide (fun q (hq : q ≤ n) => sum_nn (f := rrF H t (H t).client) q (fun x hx => by have := (unhide Dm).eff (j := x) (by omega); unfold rrF; split <;> omega))
                              have hEc := hE'
                              have hWc := hWa'
                              clear hE' hWa'
                              have nb1 : ¬ wb = b := by have := (unhide A).lt; omega
                              have nb2 : ¬ b = wb := by have := (unhide A).lt; omega
                              go_wp2_with fail
                              go_loopg [21, 22] (n + 1) (fun g tt i wr => Below w.heap.size w wr ∧ ∃ (j : Nat), j ≤ n ∧ i = .int .i64 j ∧ g + j = n + 1 ∧ tt = .int .i64 (k + sumF (rrF H t (H t).client) j) ∧ BoolsAt wr eb n E ∧ BoolsAt wr wb n W)
                              case atStart => exact ⟨hbw, 0, by omega, rfl, by omega, by simp [sumF], unhide hEc, unhide hWc⟩
                              case round =>
                                as_aux_lemma =>
                                obtain ⟨hbw, j, hj, rfl, hg, rfl, hE, hWa⟩ := hrel
                                have hE' := hide hE
                                have hWa' := hide hWa
                                clear hE hWa hEc hWc
                                by_cases hlt : j < n
                                · have Ar := (unhide A).below hbw
                                  obtain ⟨j0, j1, j2, j3, j4⟩ := Ar.at' j hlt
                                  have tc := (Ar.at' t t2).a0
                                  clear Ar
                                  have s0 := unhide Sn j (by omega)
                                  have s1 := (unhide Sb j (by omega)).2
                                  have hstep := hide (show sumF (rrF H t (H t).client) (j + 1) = sumF (rrF H t (H t).client) j + rrF H t (H t).client j from rfl)
                                  generalize sumF (rrF H t (H t).client) j = S at *
                                  have q1 : S ≤ 9007199254740992 := by omega
                                  clear s1
                                  by_cases e : (H j).client = (H t).client
                                  · have e' := hide e
                                    have e2 := beq_yes e
                                    clear e
                                    have wc := (unhide hWa').at' j hlt
                                    generalize hwv : W j = wv at wc
                                    have hwv' := hide hwv
                                    clear hwv
                                    cases wv with
                                    | true =>
                                      go_wp2_with fail
                                      go_quiet (fail)
                                      go_wp2_with fail
                                      go_roundg (gk - 1)
                                      case measure => omega
                                      case rel => exact ⟨below_drewN' hbw _, j + 1, by omega, by go_num, by omega, by rw [unhide hstep]; unfold rrF; rw [if_neg (fun h => by rw [← unhide hW2 j hlt, unhide hwv'] at h; cases h.2)]; simp, (unhide hE').of_heap rfl, (unhide hWa').of_heap rfl⟩
                                    | false =>
                                      generalize hE2 : rrF H t (H t).client j = F at *
                                      have hF := hide (show (H j).eff = F from by rw [← hE2]; unfold rrF; rw [if_pos ⟨unhide e', by rw [← unhide hW2 j hlt]; exact unhide hwv'⟩])
                                      clear hE2
                                      go_wp2_with fail
                                      go_quiet (fail)
                                      go_wp2_with fail
                                      refine (eff_any _ (H j)).mono ?_
                                      rintro e w8 ⟨rfl, hb8⟩
                                      have hbw8 : Below w.heap.size w w8 := (below_drewN' hbw _).trans (hb8.mono hbw.size)
                                      have hE8 := hide (((unhide hE').of_heap (w' := wr.drewN _) rfl).below hb8)
                                      have hW8 := hide (((unhide hWa').of_heap (w' := wr.drewN _) rfl).below hb8)
                                      have ebd := (unhide Dm).eff hlt
                                      rw [unhide hF] at ebd ⊢
                                      obtain ⟨eb0, eb1⟩ := ebd
                                      clear hb8 hE' hWa'
                                      go_wp2_with fail
                                      go_roundg (gk - 1)
                                      case measure => omega
                                      case rel => exact ⟨hbw8, j + 1, by omega, by go_num, by omega, by rw [unhide hstep, Int.add_assoc], unhide hE8, unhide hW8⟩
                                  · have e' := hide e
                                    have e2 := beq_no e
                                    clear e
                                    go_wp2_with fail
                                    go_quiet (fail)
                                    go_wp2_with fail
                                    go_roundg (gk - 1)
                                    case measure => omega
                                    case rel => exact ⟨below_drewN' hbw _, j + 1, by omega, by go_num, by omega, by rw [unhide hstep]; unfold rrF; rw [if_neg (fun h => unhide e' h.1)]; simp, (unhide hE').of_heap rfl, (unhide hWa').of_heap rfl⟩
                                · obtain rfl : n = j := by omega
                                  have tb0 := unhide Sn n (Nat.le_refl _)
                                  have tb1 := (unhide Sb n (Nat.le_refl _)).2
                                  have hTT := hide (show k + sumF (rrF H t (H t).client) n = TT H t n k from rfl)
                                  generalize k + sumF (rrF H t (H t).client) n = T at *
                                  have hT0 : T ≤ 18014398509481984 ∧ -18014398509481984 ≤ T := by
                                    rw [unhide hTT]; unfold TT rr; omega
                                  obtain ⟨T1, T0⟩ := hT0
                                  have WI := hide (WInv.start (k := k) (unhide hW2))
                                  clear tb0 tb1 Sb Sn hW2
                                  go_wp2_with fail
                                  go_loopg [23, 24, 25, 26, 27] (n + 1) (fun g i a24 a25 a26 a27 wr => Below w.heap.size w wr ∧ ∃ (i' : Nat) (W : Nat → Bool), i' ≤ n ∧ i = .int .i64 i' ∧ g + i' = n + 1 ∧ WInv H t n k i' W ∧ BoolsAt wr eb n E ∧ BoolsAt wr wb n W)
                                  case atStart => exact ⟨hbw, 0, W, by omega, rfl, by omega, unhide WI, unhide hE', unhide hWa'⟩
                                  case round =>
                                    as_aux_lemma =>
                                    obtain ⟨hbw, i, W, hi, rfl, hg, hWI, hE, hWa⟩ := hrel
                                    obtain ⟨gc, hgc⟩ : ∃ x, x = gk := ⟨gk, rfl⟩
                                    have hWI' := hide hWI
                                    have hE' := hide hE
                                    have hWa' := hide hWa
                                    clear hWI hE hWa WI
                                    by_cases hlt : i < n
                                    · have Ar := (unhide A).below hbw
                                      have ic := (Ar.at' i hlt).a0
                                      have tc := (Ar.at' t t2).a0
                                      clear Ar
                                      have FI := hide (fun q => first_quiet (wr.drewN q) b o n cap i H ((unhide A).below (below_drewN' hbw q)) hlt)
                                      generalize hfb : firstB H i = fb at FI
                                      have hfb' := hide hfb
                                      clear hfb
                                      cases fb with
                                      | false =>
                                        go_wp2_with fail
                                        go_quiet ((go_at_call 20; exact Calls.quiet_of (unhide FI _)))
                                        have hbw7 := below_drewN' hbw nq
                                        have hE7 := hide ((unhide hE').of_heap (w' := wr.drewN nq) rfl)
                                        have hW7 := hide ((unhide hWa').of_heap (w' := wr.drewN nq) rfl)
                                        clear FI ic tc
                                        go_wp2_with fail
                                        go_roundg (gk - 1)
                                        case measure => omega
                                        case rel => exact ⟨hbw7, i + 1, W, by omega, by go_num, by omega, (unhide hWI').skip (Or.inl (unhide hfb')), unhide hE7, unhide hW7⟩
                                      | true =>
                                        by_cases e : (H i).client = (H t).client
                                        · have e' := hide e
                                          have e2 := beq_yes e
                                          clear e
                                          go_wp2_with fail
                                          go_quiet ((go_at_call 20; exact Calls.quiet_of (unhide FI _)))
                                          have hbw7 := below_drewN' hbw nq
                                          have hE7 := hide ((unhide hE').of_heap (w' := wr.drewN nq) rfl)
                                          have hW7 := hide ((unhide hWa').of_heap (w' := wr.drewN nq) rfl)
                                          clear FI ic tc
                                          go_wp2_with fail
                                          go_roundg (gk - 1)
                                          case measure => omega
                                          case rel => exact ⟨hbw7, i + 1, W, by omega, by go_num, by omega, (unhide hWI').skip (Or.inr (unhide e')), unhide hE7, unhide hW7⟩
                                        · have e' := hide e
                                          have e2 := beq_no e
                                          clear e
                                          go_wp2_with fail
                                          go_quiet ((go_at_call 20; exact Calls.quiet_of (unhide FI _)))
                                          have hbw7 := below_drewN' hbw nq
                                          have hE7 := hide ((unhide hE').of_heap (w' := wr.drewN nq) rfl)
                                          have hW7 := hide ((unhide hWa').of_heap (w' := wr.drewN nq) rfl)
                                          have hff := hide (firstB_iff.1 (unhide hfb'))
                                          have S0 := hide (SInv.start (unhide Dm) (unhide hWI') (unhide hfb'))
                                          have Rb := hide (fun q (hq : q ≤ n) => sumF_bd' (f := rrF H t (H i).client) (B := 1099511627776) q (fun x hx => by have := (unhide Dm).eff (j := x) (by omega); unfold rrF; split <;> omega))
                                          have Cb := hide (fun st q => sumF_bd' (f := csF H (H i).client st q) (B := 1099511627776) n (fun x hx => by have := (unhide Dm) x hx; unfold csF; split <;> omega))
                                          have Ww := hide (fun q (hq : q < n) (hc : (H q).client = (H i).client) => ((unhide hWI') q hq).2 (by rw [hc]; exact fun ⟨x, hx, hxe⟩ => unhide hff x hx hxe))
                                          have Rz := hide (show sumF (rrF H t (H i).client) i = 0 from sum_zero i fun q hq => by unfold rrF; rw [if_neg (fun h => unhide hff q hq h.1)])
                                          clear FI ic tc hWI' hE' hWa'
                                          go_wp2_with fail
                                          go_loopg [24, 25] (n + 1 - i) (fun g rm jj wr => Below w.heap.size w wr ∧ ∃ (j : Nat), i ≤ j ∧ j ≤ n ∧ jj = .int .i64 j ∧ g + j = n + 1 ∧ rm = .int .i64 (sumF (rrF H t (H i).client) j) ∧ BoolsAt wr eb n E ∧ BoolsAt wr wb n W)
                                          case atStart => exact ⟨hbw7, i, Nat.le_refl _, hi, rfl, by omega, by rw [unhide Rz], unhide hE7, unhide hW7⟩
                                          case round =>
                                            as_aux_lemma =>
                                            obtain ⟨hbw, j, hij, hj, rfl, hg2, rfl, hE, hWa⟩ := hrel
                                            have hE' := hide hE
                                            have hWa' := hide hWa
                                            clear hE hWa hE7 hW7 hbw7
                                            by_cases hltj : j < n
                                            · have Ar := (unhide A).below hbw
                                              obtain ⟨j0, j1, j2, j3, j4⟩ := Ar.at' j hltj
                                              have ic := (Ar.at' i hlt).a0
                                              clear Ar
                                              obtain ⟨s0, s1⟩ := unhide Rb j (by omega)
                                              have hstep := hide (show sumF (rrF H t (H i).client) (j + 1) = sumF (rrF H t (H i).client) j + rrF H t (H i).client j from rfl)
                                              generalize sumF (rrF H t (H i).client) j = S at *
                                              have q0 : -9007199254740992 ≤ S := by omega
                                              have q1 : S ≤ 9007199254740992 := by omega
                                              clear s0 s1
                                              by_cases e : (H j).client = (H i).client
                                              · have e3' := hide e
                                                have e3 := beq_yes e
                                                clear e
                                                have wc := (unhide hWa').at' j hltj
                                                generalize hwv : W j = wv at wc
                                                have hwv' := hide (show w0 H t j = wv from by rw [← hwv]; exact (unhide Ww j hltj (unhide e3')).symm)
                                                clear hwv
                                                cases wv with
                                                | true =>
                                                  go_wp2_with fail
                                                  go_quiet (fail)
                                                  go_wp2_with fail
                                                  go_roundg (gk - 1)
                                                  case measure => omega
                                                  case rel => exact ⟨below_drewN' hbw _, j + 1, by omega, by omega, by go_num, by omega, by rw [unhide hstep]; unfold rrF; rw [if_neg (fun h => by rw [unhide hwv'] at h; cases h.2)]; simp, (unhide hE').of_heap rfl, (unhide hWa').of_heap rfl⟩
                                                | false =>
                                                  generalize hE2 : rrF H t (H i).client j = F at *
                                                  have hF := hide (show (H j).eff = F from by rw [← hE2]; unfold rrF; rw [if_pos ⟨unhide e3', unhide hwv'⟩])
                                                  clear hE2
                                                  go_wp2_with fail
                                                  go_quiet (fail)
                                                  go_wp2_with fail
                                                  refine (eff_any _ (H j)).mono ?_
                                                  rintro e w8 ⟨rfl, hb8⟩
                                                  have hbw8 : Below w.heap.size w w8 := (below_drewN' hbw _).trans (hb8.mono hbw.size)
                                                  have hE8 := hide (((unhide hE').of_heap (w' := wr.drewN _) rfl).below hb8)
                                                  have hW8 := hide (((unhide hWa').of_heap (w' := wr.drewN _) rfl).below hb8)
                                                  have ebd := (unhide Dm).eff hltj
                                                  rw [unhide hF] at ebd ⊢
                                                  obtain ⟨eb0, eb1⟩ := ebd
                                                  clear hb8 hE' hWa'
                                                  go_wp2_with fail
                                                  go_roundg (gk - 1)
                                                  case measure => omega
                                                  case rel => exact ⟨hbw8, j + 1, by omega, by omega, by go_num, by omega, by rw [unhide hstep], unhide hE8, unhide hW8⟩
                                              · have e3' := hide e
                                                have e3 := beq_no e
                                                clear e
                                                go_wp2_with fail
                                                go_quiet (fail)
                                                go_wp2_with fail
                                                go_roundg (gk - 1)
                                                case measure => omega
                                                case rel => exact ⟨below_drewN' hbw _, j + 1, by omega, by omega, by go_num, by omega, by rw [unhide hstep]; unfold rrF; rw [if_neg (fun h => unhide e3' h.1)]; simp, (unhide hE').of_heap rfl, (unhide hWa').of_heap rfl⟩
                                            · obtain rfl : n = j := by omega
                                              have hRR := hide (show sumF (rrF H t (H i).client) n = rr H t n (H i).client from rfl)
                                              generalize sumF (rrF H t (H i).client) n = R0 at *
                                              have S1 := hide (show SInv H t n k i (H i).client ((1 : Nat) : Int) i W R0 from by rw [unhide hRR]; exact unhide S0)
                                              clear S0
                                              go_wp2_with fail
                                              go_loopg [24, 26, 27] 4 (fun g rm st jj wr => Below w.heap.size w wr ∧ ∃ (sN : Nat) (W : Nat → Bool) (rem : Int), st = .int .i64 sN ∧ 1 ≤ sN ∧ g + sN = 4 + 1 ∧ sN ≤ 3 ∧ rm = .int .i64 rem ∧ SInv H t n k i (H i).client (sN : Int) i W rem ∧ BoolsAt wr eb n E ∧ BoolsAt wr wb n W)
                                              case atStart => exact ⟨hbw, 1, W, R0, rfl, by omega, by omega, by omega, rfl, unhide S1, unhide hE', unhide hWa'⟩
                                              case round =>
                                                as_aux_lemma =>
                                                obtain ⟨hbw, sN, W, rem, rfl, s1N, hg3, s3N, rfl, hS, hE, hWa⟩ := hrel
                                                obtain ⟨gs, hgs⟩ : ∃ x, x = gk := ⟨gk, rfl⟩
                                                have hE' := hide hE
                                                have hWa' := hide hWa
                                                have hS' := hide hS
                                                clear hE hWa hS S1
                                                by_cases hs2 : sN ≤ 2
                                                · have hs3 : decide ((sN : Int) ≤ 2) = true := by simp; omega
                                                  have hs2' := hide hs2
                                                  clear hs2
                                                  go_wp2_with fail
                                                  go_loopg [24, 27] (n + 1 - i) (fun g rm jj wr => Below w.heap.size w wr ∧ ∃ (j : Nat) (W : Nat → Bool) (rem : Int), i ≤ j ∧ j ≤ n ∧ jj = .int .i64 j ∧ g + j = n + 1 ∧ rm = .int .i64 rem ∧ SInv H t n k i (H i).client (sN : Int) j W rem ∧ BoolsAt wr eb n E ∧ BoolsAt wr wb n W)
                                                  case atStart => exact ⟨hbw, i, W, rem, Nat.le_refl _, hi, rfl, by omega, rfl, unhide hS', unhide hE', unhide hWa'⟩
                                                  case round =>
                                                    as_aux_lemma =>
                                                    obtain ⟨hbw, j, W, rem, hij, hj, rfl, hg4, rfl, hS, hE, hWa⟩ := hrel
                                                    have rb1 := hS.hi
                                                    have rb2 := hS.low
                                                    have rb3 := unhide Rb n (Nat.le_refl _)
                                                    have rb4 := unhide Cb (sN : Int) j
                                                    have rbb : -18014398509481984 ≤ rem ∧ rem ≤ 18014398509481984 := by
                                                      unfold csum at rb2; unfold rr at rb1 rb2; omega
                                                    obtain ⟨rb5, rb6⟩ := rbb
                                                    clear rb1 rb2 rb3 rb4
                                                    have hE' := hide hE
                                                    have hWa' := hide hWa
                                                    have hS' := hide hS
                                                    clear hE hWa hS
                                                    by_cases hltj : j < n
                                                    · have Ar := (unhide A).below hbw
                                                      obtain ⟨j0, j1, j2, j3, j4⟩ := Ar.at' j hltj
                                                      have ic := (Ar.at' i hlt).a0
                                                      clear Ar
                                                      have wc := (unhide hWa').at' j hltj
                                                      by_cases e : (H j).client = (H i).client
                                                      · have e3' := hide e
                                                        have e3 := beq_yes e
                                                        clear e
                                                        generalize hwv : W j = wv at wc
                                                        have hwv' := hide hwv
                                                        clear hwv
                                                        cases wv with
                                                        | true =>
                                                          have hps := hide (show ¬ ((H j).client = (H i).client ∧ cand H j = true ∧ (H j).stands = (sN : Int)) from fun h => by
                                                            have z : ¬ conB H (H i).client (sN : Int) j j = true := fun c => by obtain ⟨_, _, c⟩ := conB_iff.1 c; omega
                                                            have h5 := (unhide hS').unseen j hltj h.1 z
                                                            rw [unhide hwv'] at h5
                                                            exact (cand_iff.1 h.2.1).2.2 (w0_iff.1 h5.symm).2.2.2)
                                                          go_wp2_with fail
                                                          go_quiet (fail)
                                                          go_wp2_with fail
                                                          go_roundg (gk - 1)
                                                          case measure => omega
                                                          case rel => exact ⟨below_drewN' hbw _, j + 1, W, rem, by omega, by omega, by go_num, by omega, rfl, (unhide hS').pass (unhide hps), (unhide hE').of_heap rfl, (unhide hWa').of_heap rfl⟩
                                                        | false =>
                                                          generalize hgn : (H j).gone = gg at j4
                                                          cases gg with
                                                          | true =>
                                                            have hps := hide (show ¬ ((H j).client = (H i).client ∧ cand H j = true ∧ (H j).stands = (sN : Int)) from fun h => by
                                                              have := (cand_iff.1 h.2.1).1; rw [hgn] at this; cases this)
                                                            clear hgn
                                                            go_wp2_with fail
                                                            go_quiet (fail)
                                                            go_wp2_with fail
                                                            go_roundg (gk - 1)
                                                            case measure => omega
                                                            case rel => exact ⟨below_drewN' hbw _, j + 1, W, rem, by omega, by omega, by go_num, by omega, rfl, (unhide hS').pass (unhide hps), (unhide hE').of_heap rfl, (unhide hWa').of_heap rfl⟩
                                                          | false =>
                                                            generalize hcc : (H j).cost = cc at j1
                                                            by_cases hz : 0 < cc
                                                            · have hz' := hide hz
                                                              have hc1 := ((unhide Dm) j hltj).2.1
                                                              rw [hcc] at hc1
                                                              generalize hsv : (H j).stands = sv
                                                              have ZS0 := zstands_any wr.drew (H j)
                                                              rw [hcc, hgn, hsv] at ZS0
                                                              have ZS := hide ZS0
                                                              have hsv' := hide hsv
                                                              have hcc' := hide hcc
                                                              have hgn' := hide hgn
                                                              clear ZS0 hsv hcc hgn
                                                              have KJ := hide (fun (w5 : World) (h5 : Below wr.drew.heap.size wr.drew w5) => (show Reads w5 b o wb i j cc H from by
                                                                have lb := Nat.lt_of_lt_of_le (unhide A).lt hbw.size
                                                                unfold Reads
                                                                exact ⟨(h5.cell (p := ⟨b, o + j * 5, none⟩) lb).trans j0, (h5.cell (p := ⟨b, o + i * 5, none⟩) lb).trans ic, (h5.cell (p := ⟨wb, j, none⟩) (unhide hWa').pl.lt).trans wc, (h5.cell (p := ⟨b, o + j * 5 + 1, none⟩) lb).trans j1, (h5.cell (p := ⟨b, o + j * 5 + 2, none⟩) lb).trans j2, (h5.cell (p := ⟨b, o + j * 5 + 3, none⟩) lb).trans j3, (h5.cell (p := ⟨b, o + j * 5 + 4, none⟩) lb).trans j4⟩))
                                                              by_cases hss : sv = (sN : Int)
                                                              · have hse' := hide (show (sv == (sN : Int)) = true from by simp [hss])
                                                                have hss' := hide hss
                                                                clear hss
                                                                have hcnd := hide (show cand H j = true from cand_iff.2 ⟨unhide hgn', by rw [unhide hcc']; exact hz, by rw [unhide hsv', unhide hss']; omega⟩)
                                                                by_cases hrt : T < rem
                                                                · have hrt' := hide hrt
                                                                  clear hrt
                                                                  go_wp2_with fail
                                                                  refine r256_hit wr b o n cap wb i j sN rem T cc sv H _ ?_ hltj hlt (by omega) (beq_yes (unhide e3')) (unhide hz') (unhide hse') (unhide hrt') KJ ZS ?_
                                                                  · exact fun _ _ d _ _ h => by cases d <;> exact h
                                                                  intro w7 hb7
                                                                  intros
                                                                  have hbw7 : Below w.heap.size w w7 := hbw.trans (Below.trans (b := wr.drew) ⟨rfl, rfl, rfl, Nat.le_refl _, fun _ _ => rfl⟩ (hb7.mono hbw.size))
                                                                  have hE7 := hide (((unhide hE').of_heap (w' := wr.drew) rfl).below hb7)
                                                                  have hW7 := hide (((unhide hWa').of_heap (w' := wr.drew) rfl).below hb7)
                                                                  have c7 := (((unhide A).below hbw7).at' j hltj).a1
                                                                  rw [unhide hcc'] at c7
                                                                  have w7c := (unhide hW7).at' j hltj
                                                                  have w7f := (unhide hW7).pl.frozen j
                                                                  have hEs := hide ((unhide hE7).other (a := ⟨wb, j, none⟩) (by simp; omega) (.bool true))
                                                                  have hWs := hide ((unhide hW7).set hltj)
                                                                  have hST := hide (show SInv H t n k i (H i).client (sN : Int) (j + 1) (updE W j) (rem - cc) from by
                                                                    have := (unhide hS').take hltj (unhide e') (unhide e3') (unhide hcnd) (by rw [unhide hsv', unhide hss']) (by rw [← unhide hTT]; exact unhide hrt')
                                                                    rw [unhide hcc'] at this; exact this)
                                                                  clear hb7 ZS KJ j0 j1 j2 j3 j4 ic wc
                                                                  go_wp2_with fail
                                                                  go_roundg (gk - 1)
                                                                  case measure => omega
                                                                  case rel => exact ⟨hbw7.setCell (by simp only; omega) _, j + 1, updE W j, rem - cc, by omega, by omega, by go_num, by omega, rfl, unhide hST, unhide hEs, unhide hWs⟩
                                                                · have hrt' := hide hrt
                                                                  clear hrt
                                                                  go_wp2_with fail
                                                                  refine r256_miss wr b o n cap wb i j sN rem T cc sv H _ ?_ hltj hlt (by omega) (beq_yes (unhide e3')) (unhide hz') (unhide hse') (by have := unhide hrt'; simp; omega) KJ ZS ?_
                                                                  · exact fun _ _ d _ _ h => by cases d <;> exact h
                                                                  intro w7 hb7
                                                                  intros
                                                                  have hbw7 : Below w.heap.size w w7 := hbw.trans (Below.trans (b := wr.drew) ⟨rfl, rfl, rfl, Nat.le_refl _, fun _ _ => rfl⟩ (hb7.mono hbw.size))
                                                                  have hE7 := hide (((unhide hE').of_heap (w' := wr.drew) rfl).below hb7)
                                                                  have hW7 := hide (((unhide hWa').of_heap (w' := wr.drew) rfl).below hb7)
                                                                  have hST := hide ((unhide hS').leave hltj (unhide e3') (unhide hcnd) (by rw [unhide hsv', unhide hss']) (by have := unhide hrt'; rw [← unhide hTT]; omega))
                                                                  clear hb7 ZS KJ j0 j1 j2 j3 j4 ic wc
                                                                  go_wp2_with fail
                                                                  go_roundg (gk - 1)
                                                                  case measure => omega
                                                                  case rel => exact ⟨hbw7, j + 1, W, rem, by omega, by omega, by go_num, by omega, rfl, unhide hST, unhide hE7, unhide hW7⟩
                                                              · have hse' := hide (show (sv == (sN : Int)) = false from by simpa using hss)
                                                                have hps := hide (show ¬ ((H j).client = (H i).client ∧ cand H j = true ∧ (H j).stands = (sN : Int)) from fun h => hss ((unhide hsv').symm.trans h.2.2))
                                                                clear hss
                                                                go_wp2_with fail
                                                                refine r256_no wr b o n cap wb i j sN rem T cc sv H _ ?_ hltj hlt (by omega) (beq_yes (unhide e3')) (unhide hz') (unhide hse') KJ ZS ?_
                                                                · exact fun _ _ d _ _ h => by cases d <;> exact h
                                                                intro w7 hb7
                                                                intros
                                                                have hbw7 : Below w.heap.size w w7 := hbw.trans (Below.trans (b := wr.drew) ⟨rfl, rfl, rfl, Nat.le_refl _, fun _ _ => rfl⟩ (hb7.mono hbw.size))
                                                                have hE7 := hide (((unhide hE').of_heap (w' := wr.drew) rfl).below hb7)
                                                                have hW7 := hide (((unhide hWa').of_heap (w' := wr.drew) rfl).below hb7)
                                                                clear hb7 ZS KJ j0 j1 j2 j3 j4 ic wc
                                                                go_wp2_with fail
                                                                go_roundg (gk - 1)
                                                                case measure => omega
                                                                case rel => exact ⟨hbw7, j + 1, W, rem, by omega, by omega, by go_num, by omega, rfl, (unhide hS').pass (unhide hps), unhide hE7, unhide hW7⟩
                                                            · have hps := hide (show ¬ ((H j).client = (H i).client ∧ cand H j = true ∧ (H j).stands = (sN : Int)) from fun h => by
                                                                have := (cand_iff.1 h.2.1).2.1; rw [hcc] at this; exact hz this)
                                                              have hz' := hide hz
                                                              clear hcc hgn hz
                                                              go_wp2_with fail
                                                              refine r256_zero wr b o n cap wb i j sN rem T cc H _ ?_ hltj hlt (by omega) (beq_yes (unhide e3')) (by have := unhide hz'; omega) j0 ic wc j1 j4 ?_
                                                              · exact fun _ _ d _ _ h => by cases d <;> exact h
                                                              intro nq
                                                              intros
                                                              go_wp2_with fail
                                                              go_roundg (gk - 1)
                                                              case measure => omega
                                                              case rel => exact ⟨below_drewN' hbw _, j + 1, W, rem, by omega, by omega, by go_num, by omega, rfl, (unhide hS').pass (unhide hps), (unhide hE').of_heap rfl, (unhide hWa').of_heap rfl⟩
                                                      · have hps := hide (show ¬ ((H j).client = (H i).client ∧ cand H j = true ∧ (H j).stands = (sN : Int)) from fun h => e h.1)
                                                        have e3 := beq_no e
                                                        clear e wc
                                                        go_wp2_with fail
                                                        go_quiet (fail)
                                                        go_wp2_with fail
                                                        go_roundg (gk - 1)
                                                        case measure => omega
                                                        case rel => exact ⟨below_drewN' hbw _, j + 1, W, rem, by omega, by omega, by go_num, by omega, rfl, (unhide hS').pass (unhide hps), (unhide hE').of_heap rfl, (unhide hWa').of_heap rfl⟩
                                                    · obtain rfl : n = j := by omega
                                                      have hSN := hide (show SInv H t n k i (H i).client ((sN + 1 : Nat) : Int) i W rem from by
                                                        have := (unhide hS').next (unhide hff)
                                                        rw [show ((sN + 1 : Nat) : Int) = (sN : Int) + 1 by omega]; exact this)
                                                      clear hS'
                                                      go_wp2_with fail
                                                      go_roundg (gs - 1)
                                                      case measure => omega
                                                      case rel => exact ⟨hbw, sN + 1, W, rem, by go_num, by omega, by omega, by (have := unhide hs2'; omega), rfl, unhide hSN, unhide hE', unhide hWa'⟩
                                                · obtain rfl : sN = 3 := by omega
                                                  have hWn := hide ((unhide hS').done (unhide Dm) (unhide hff))
                                                  clear hS'
                                                  go_wp2_with fail
                                                  go_roundg (gc - 1)
                                                  case measure => omega
                                                  case rel => exact ⟨hbw, i + 1, W, by omega, by go_num, by omega, unhide hWn, unhide hE', unhide hWa'⟩
                                    · obtain rfl : n = i := by omega
                                      have hEq := hide (fun q (hq : q < n) => (show E q = W q from by rw [unhide hdone' q hq, (unhide hWI').done hq]))
                                      clear hWI' hdone'
                                      go_wp2_with fail
                                      go_loopg [28] (n + 1) (fun g jj wr => Below w.heap.size w wr ∧ ∃ (j : Nat), j ≤ n ∧ jj = .int .i64 j ∧ g + j = n + 1 ∧ BoolsAt wr eb n E ∧ BoolsAt wr wb n W)
                                      case atStart => exact ⟨hbw, 0, by omega, rfl, by omega, unhide hE', unhide hWa'⟩
                                      case round =>
                                        as_aux_lemma =>
                                        obtain ⟨hbw, j, hj, rfl, hg4, hE, hWa⟩ := hrel
                                        have hE2 := hide hE
                                        have hW2 := hide hWa
                                        clear hE hWa hE' hWa'
                                        by_cases hltj : j < n
                                        · have ec := (unhide hE2).at' j hltj
                                          have wc := (unhide hW2).at' j hltj
                                          rw [unhide hEq j hltj] at ec
                                          generalize W j = bv at ec wc
                                          have bvv : (bv != bv) = false := by simp
                                          go_wp2_with fail
                                          go_quiet (fail)
                                          go_wp2_with fail
                                          go_roundg (gk - 1)
                                          case measure => omega
                                          case rel => exact ⟨below_drewN' hbw _, j + 1, by omega, by go_num, by omega, (unhide hE2).of_heap rfl, (unhide hW2).of_heap rfl⟩
                                        · go_wp2_with fail
                                          go_ret
                                          exact ⟨rfl, hbw⟩
            · go_wp2_with fail
              all_goals
                go_ret
                exact ⟨rfl, hbw⟩
          · go_wp2_with fail
            all_goals
              go_ret
              exact ⟨rfl, hbw⟩
    · go_wp2_with fail
      go_ret
      exact ⟨rfl, unhide hb1'⟩
end Go.Proofs.Qxb6618660a
