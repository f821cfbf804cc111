import Derived.Test.Qxb6618660aIsC
import Derived.Deep.RegionHeld3
namespace Go.Proofs.Qxb6618660a
open Go.RowKit Go.MuLone Go.Maps Go.WideMaps
set_option linter.unusedVariables false
set_option linter.unusedSimpArgs false

def CostOk (H : Nat → VH) (lo : Int) (j : Nat) : Prop := lo ≤ (H j).cost ∧ (H j).cost ≤ 1099511627776 ∧ 0 ≤ (H j).st ∧ (H j).st ≤ 2
theorem costOk_eff {H : Nat → VH} {q : Nat} {lo : Int} (h : CostOk H lo q) (hl : -1099511627776 ≤ lo := by omega) : -1099511627776 ≤ (H q).eff ∧ (H q).eff ≤ 1099511627776 := by
  unfold CostOk at h
  rw [effs]; split <;> omega
theorem New_below (w : World) (n : Int) : Calls Try.prog 7 #[.int .i64 n] w fun e w' => e = .returned (.pointer (some ⟨w.heap.size + 1, 0, none⟩)) ∧
    w' = (w.alloc (.map #[] 0)).alloc (.cells #[.int .i32 0, .int .u32 0, .int .i64 n, .int .i64 0, .int .i64 0, .int .i64 n, .map (some w.heap.size)] 56) := New_any w n

set_option maxRecDepth 100000 in
set_option maxHeartbeats 4000000 in
theorem lawA_any (w : World) (b o n cap : Nat) (t k : Int) (H : Nat → VH) (hA : Args w b o n H) :
    Calls Try.prog 5 #[.slice (some ⟨b, o, none⟩) n cap, .int .i64 t, .int .i64 k] w fun e w' => e = .returned (.bool true) ∧ Below w.heap.size w w' := by
  have hn := hA.small
  have A := hide hA
  clear hA
  go_enter Try.func5, Try.ntmps5
  go_wp2_with fail
  refine (bytes_any w b o n cap t k H (unhide A)).mono ?_
  rintro e w1 ⟨⟨r, hr, rfl⟩, hb1⟩
  have hb1' := hide hb1
  have hr' := hide hr
  clear hb1 hr
  cases r with
  | false =>
    go_wp2_with fail
    go_ret
    exact ⟨rfl, unhide hb1'⟩
  | true =>
    by_cases hn2 : n ≤ 4096
    · go_wp2_with fail
      go_loopg [7, 8] (n + 1) (fun g s i wr => Below w.heap.size w wr ∧ ∃ (j : Nat) (ss : Int), j ≤ n ∧ i = .int .i64 j ∧ g + j = n + 1 ∧ s = .int .i64 ss ∧ 0 ≤ ss ∧ ss ≤ 1048576)
      case atStart => exact ⟨unhide hb1', 0, 0, by omega, rfl, by omega, rfl, by omega, by omega⟩
      case round =>
        obtain ⟨hbw, j, ss, hj, rfl, hg, rfl, s0, s1⟩ := hrel
        by_cases hlt : j < n
        · have Ar := (unhide A).below hbw
          have j0 := (Ar.at' j hlt).a0
          clear Ar
          have sm := unhide hr' trivial j hlt
          by_cases e2 : ss + (40 + (H j).client.size) ≤ 1048576
          · go_wp2
            go_roundg (gk - 1)
            case measure => omega
            case rel => exact ⟨hbw, j + 1, _, by omega, by go_num, by omega, rfl, by omega, by omega⟩
          · go_wp2
            go_ret
            exact ⟨rfl, hbw⟩
        · by_cases ht : 0 ≤ t ∧ t < n
          · obtain ⟨t0, t1⟩ := ht
            obtain ⟨t, rfl⟩ := Int.eq_ofNat_of_zero_le t0
            have t2 : t < n := by omega
            by_cases hk : -1099511627776 ≤ k ∧ k ≤ 1099511627776
            · obtain ⟨k0, k1⟩ := hk
              go_wp2_with fail
              go_loopg [9] (n + 1) (fun g i wr => Below w.heap.size w wr ∧ ∃ (j : Nat), j ≤ n ∧ i = .int .i64 j ∧ g + j = n + 1 ∧ ∀ q, q < j → CostOk H (-1099511627776) q)
              case atStart => exact ⟨hbw, 0, by omega, rfl, by omega, fun q h => by omega⟩
              case round =>
                obtain ⟨hbw, j, hj, rfl, hg, hq⟩ := hrel
                have hq' := hide hq
                clear hq
                by_cases hlt : j < n
                · have Ar := (unhide A).below hbw
                  obtain ⟨j0, j1, j2, j3, j4⟩ := Ar.at' j hlt
                  clear Ar
                  have next := hide (fun (h : CostOk H (-1099511627776) j) => (show ∀ q, q < j + 1 → CostOk H (-1099511627776) q from fun q h2 => by rcases Nat.lt_succ_iff_lt_or_eq.1 h2 with h2 | rfl; exact unhide hq' q h2; exact h))
                  generalize hcc : (H j).cost = cc at *
                  generalize hst : (H j).st = st at *
                  have hH := hide (And.intro hcc hst)
                  clear hcc hst
                  by_cases q1 : cc < -1099511627776
                  · go_wp2
                    go_ret
                    exact ⟨rfl, hbw⟩
                  · by_cases q2 : 1099511627776 < cc
                    · go_wp2
                      go_ret
                      exact ⟨rfl, hbw⟩
                    · by_cases q3 : st < 0
                      · go_wp2
                        go_ret
                        exact ⟨rfl, hbw⟩
                      · by_cases q4 : 2 < st
                        · go_wp2
                          go_ret
                          exact ⟨rfl, hbw⟩
                        · go_wp2
                          go_roundg (gk - 1)
                          case measure => omega
                          case rel => exact ⟨hbw, j + 1, by omega, by go_num, by omega, unhide next ⟨by rw [(unhide hH).1]; omega, by rw [(unhide hH).1]; omega, by rw [(unhide hH).2]; omega, by rw [(unhide hH).2]; omega⟩⟩
                · have hall := hide (fun q (h : q < n) => unhide hq' q (by omega))
                  have hsm := hide (unhide hr' trivial)
                  clear hq' hr' hb1'
                  have hmk := run_make_row' (P := Try.prog) 36 24 (.pointer none) 8 Try.underlying36 info24 rfl .i64 .i64 n (by omega) (by omega)
                  go_wp2_with fail
                  refine (New_below _ _).mono ?_
                  rintro e w3 ⟨rfl, rfl⟩
                  have st0 := hide (fun hb cb ct => Built.start wr w.heap.size n 0 H hbw.size hb cb ct)
                  have bl0 : Below w.heap.size w (((wr.alloc (.map #[] 0)).alloc (.cells #[.int .i32 0, .int .u32 0, .int .i64 0, .int .i64 0, .int .i64 0, .int .i64 0, .map (some wr.heap.size)] 56)).alloc (.cells (madeCells #[.pointer none] n) 24)) :=
                    ((hbw.alloc hbw.size _).alloc (by rw [size_alloc]; have := hbw.size; omega) _).alloc (by rw [size_alloc, size_alloc]; have := hbw.size; omega) _
                  have bl0' := hide bl0
                  clear bl0
                  go_wp2_with fail
                  obtain ⟨bb, hbb⟩ : ∃ bb, wr.heap.size + 1 = bb := ⟨_, rfl⟩
                  obtain ⟨pb, hpb⟩ : ∃ pb, wr.heap.size + 1 + 1 = pb := ⟨_, rfl⟩
                  obtain ⟨mb, hmb⟩ : ∃ mb, wr.heap.size = mb := ⟨_, rfl⟩
                  have st1 := hide (fun hb cb ct => (show Built _ w.heap.size bb mb pb n 0 0 H hb cb ct (.map []) from by have := unhide st0 hb cb ct; rw [← hbb, ← hpb, ← hmb]; exact this))
                  rw [hpb, hbb]
                  generalize (((wr.alloc (.map #[] 0)).alloc (.cells #[.int .i32 0, .int .u32 0, .int .i64 0, .int .i64 0, .int .i64 0, .int .i64 0, .map (some wr.heap.size)] 56)).alloc (.cells (madeCells #[.pointer none] n) 24)) = w3 at st1 bl0' ⊢
                  clear st0 hbb hpb hmb hmk
                  go_loopg [12, 13] (n + 1) (fun g i h wr => Below w.heap.size w wr ∧ ∃ (j : Nat), j ≤ n ∧ i = .int .i64 j ∧ g + j = n + 1 ∧ ∃ hb cb ct D, EffTo H ct j ∧ Built wr w.heap.size bb mb pb n j j H hb cb ct D)
                  case atStart => exact ⟨unhide bl0', 0, by omega, rfl, by omega, fun _ => 0, fun _ => 0, fun _ => 0, _, fun q h => by omega, unhide st1 _ _ _⟩
                  case round =>
                    obtain ⟨hbw, j, hj, rfl, hg, hb, cb, ct, D, hE, hB⟩ := hrel
                    have hE' := hide hE
                    have hB' := hide hB
                    clear hE hB st1 bl0'
                    by_cases hlt : j < n
                    · have Ar := (unhide A).below hbw
                      obtain ⟨j0, j1, j2, j3, j4⟩ := Ar.at' j hlt
                      clear Ar
                      have JN := hide (((unhide hB').below (w' := wr.drew) ⟨rfl, rfl, rfl, Nat.le_refl _, fun _ _ => rfl⟩).join (by omega) (Nat.le_refl _) (unhide hB').ppb.lt (by have := unhide hsm j hlt; unfold maxLen; omega))
                      have KJ := hide (fun (w5 : World) (h5 : Below w.heap.size wr.drew w5) => (show w5.cell? ⟨b, o + j * 5, none⟩ = some (.string (H j).client) ∧ w5.cell? ⟨b, o + j * 5 + 2, none⟩ = some (.int .i64 (H j).st) ∧ w5.cell? ⟨b, o + j * 5 + 3, none⟩ = some (.bool (H j).yields) ∧ w5.cell? ⟨b, o + j * 5 + 4, none⟩ = some (.bool (H j).gone) from
                        ⟨(h5.cell (p := ⟨b, o + j * 5, none⟩) (unhide A).lt).trans j0, (h5.cell (p := ⟨b, o + j * 5 + 2, none⟩) (unhide A).lt).trans j2, (h5.cell (p := ⟨b, o + j * 5 + 3, none⟩) (unhide A).lt).trans j3, (h5.cell (p := ⟨b, o + j * 5 + 4, none⟩) (unhide A).lt).trans j4⟩))
                      go_wp2_with fail
                      go_region_held3 (fun w5 => w5.cell? ⟨b, o + j * 5, none⟩ = some (.string (H j).client) ∧ w5.cell? ⟨b, o + j * 5 + 2, none⟩ = some (.int .i64 (H j).st) ∧ w5.cell? ⟨b, o + j * 5 + 3, none⟩ = some (.bool (H j).yields) ∧ w5.cell? ⟨b, o + j * 5 + 4, none⟩ = some (.bool (H j).gone)) (first | (exact unhide KJ _ (by assumption)) | go_keep)
                        (first | (go_at_call 8; refine (unhide JN).mono ?_; rintro e w4 ⟨⟨nb, cb', D', rfl, hB4⟩, hb4, hz4⟩))
                      have hbw4 : Below w.heap.size w w4 := hbw.trans (Below.trans (b := wr.drew) ⟨rfl, rfl, rfl, Nat.le_refl _, fun _ _ => rfl⟩ hb4)
                      have AD := hide (hB4.addJoined (unhide hE') ⟨(unhide hall j hlt).1, (unhide hall j hlt).2.1⟩)
                      rw [hbU_at] at AD
                      have i1 := (((unhide A).below hbw4).at' j hlt).a1
                      clear hB4 JN KJ j0 j1 j2 j3 j4 hb4
                      go_wp2_with fail
                      refine (unhide AD).mono ?_
                      rintro e w5 ⟨rfl, ⟨ct', hE5, hB5⟩, hb5⟩
                      have hbw5 : Below w.heap.size w w5 := hbw4.trans hb5
                      have hE5' := hide hE5
                      obtain ⟨v, hv⟩ := hB5.pex j hlt
                      have hfz := hB5.ppb.frozen j
                      have hst := hide (hB5.store hlt)
                      rw [hbU_at] at hst
                      have hpbB := hide hB5
                      clear hB5 hE5 hb5 AD i1
                      go_wp2_with fail
                      go_roundg (gk - 1)
                      case measure => omega
                      case rel => exact ⟨hbw5.setCell (by have := (unhide hpbB).base; have := (unhide hpbB).mbb; have := (unhide hpbB).bpb; simp only; omega) _, j + 1, by omega, by go_num, by omega, _, _, _, _, unhide hE5', unhide hst⟩
                    · obtain rfl : n = j := by omega
                      have bl := hide hbw
                      have VC := hide ((unhide hB').victim t2 k (fun q hq hg2 => by rw [unhide hE' q hq, effs, hg2]; rfl) k0 k1)
                      have pt := (unhide hB').ptr t t2
                      have hcO := hide (fun q (hq : q < n) => (show -1099511627776 ≤ (H q).eff ∧ (H q).eff ≤ 1099511627776 from costOk_eff (unhide hall q hq)))
                      clear hbw
                      go_wp2_with fail
                      refine (unhide VC).mono ?_
                      rintro e w6 ⟨⟨r, hV, hr, rfl⟩, hb6⟩
                      have hbw6 : Below w.heap.size w w6 := (unhide bl).trans (hb6.mono (unhide bl).size)
                      have hA6 := hide (VicN.ans (unhide hE') hV)
                      have hB6 := hide ((unhide hB').below hb6)
                      have hr' := hide hr
                      clear hV hr hb6 VC pt hB' bl
                      generalize hv : optPtr (r.map hb) = v
                      have hv' := hide hv
                      clear hv
                      go_wp2_with fail
                      go_loopg [15, 16, 17, 18] (n + 1) (fun g be fo i oo wr => Below w.heap.size w wr ∧ Built wr w.heap.size bb mb pb n n n H hb cb ct D ∧ ∃ (j : Nat) (best : Int) (found : Bool), j ≤ n ∧ i = .int .i64 j ∧ g + j = n + 1 ∧ be = .int .i64 best ∧ fo = .bool found ∧ BestO4 H t n j best found)
                      case atStart => exact ⟨hbw6, unhide hB6, 0, 0, false, by omega, rfl, by omega, rfl, rfl, Or.inl ⟨rfl, rfl, fun q h => by omega⟩⟩
                      case round =>
                        obtain ⟨hbw, hB, j, best, found, hj, rfl, hg, rfl, rfl, hbo⟩ := hrel
                        have hbo' := hide hbo
                        have hB' := hide hB
                        clear hbo hB hbw6 hB6
                        by_cases hlt : j < n
                        · go_wp2_with fail
                          refine (first_any wr b o n cap j H ((unhide A).below hbw) hlt).mono ?_
                          rintro e w7 ⟨rfl, hb7⟩
                          have hb7' := hide hb7
                          clear hb7
                          generalize hfb : firstB H j = fb
                          have hfb' := hide hfb
                          clear hfb
                          cases fb with
                          | false =>
                            go_wp2_with fail
                            go_roundg (gk - 1)
                            case measure => omega
                            case rel => exact ⟨hbw.trans ((unhide hb7').mono hbw.size), (unhide hB').below (unhide hb7'), j + 1, best, found, by omega, by go_num, by omega, rfl, rfl, (unhide hbo').skip (fun h => by rw [unhide hfb'] at h; cases h)⟩
                          | true =>
                            have hbw7 : Below w.heap.size w w7 := hbw.trans ((unhide hb7').mono hbw.size)
                            have Ar := (unhide A).below hbw7
                            have j0 := (Ar.at' j hlt).a0
                            clear Ar
                            go_wp2_with fail
                            refine (open_any w7 b o n cap t H (H j).client ((unhide A).below hbw7) (unhide hcO) hn2).mono ?_
                            rintro e w8 ⟨rfl, hb8⟩
                            have hbw8 : Below w.heap.size w w8 := hbw7.trans (hb8.mono hbw7.size)
                            have hB8 := hide (((unhide hB').below (unhide hb7')).below hb8)
                            generalize hO : sumF (openF H (H j).client t) n = O
                            have hO' := hide (show OS H t n (H j).client = O from hO)
                            clear hO hb8 j0 hB' hb7'
                            by_cases z0 : 0 < O
                            · cases found with
                              | false =>
                                go_wp2_with fail
                                go_roundg (gk - 1)
                                case measure => omega
                                case rel => exact ⟨hbw8, unhide hB8, j + 1, O, true, by omega, by go_num, by omega, rfl, rfl, by rw [← unhide hO']; exact (unhide hbo').take (by rw [unhide hO']; exact z0) (fun h => by cases h)⟩
                              | true =>
                                by_cases z1 : best < O
                                · go_wp2_with fail
                                  go_roundg (gk - 1)
                                  case measure => omega
                                  case rel => exact ⟨hbw8, unhide hB8, j + 1, O, true, by omega, by go_num, by omega, rfl, rfl, by rw [← unhide hO']; exact (unhide hbo').take (by rw [unhide hO']; exact z0) (fun _ => by rw [unhide hO']; exact z1)⟩
                                · go_wp2_with fail
                                  go_roundg (gk - 1)
                                  case measure => omega
                                  case rel => exact ⟨hbw8, unhide hB8, j + 1, best, true, by omega, by go_num, by omega, rfl, rfl, (unhide hbo').skip (fun _ => Or.inr ⟨rfl, by rw [unhide hO']; omega⟩)⟩
                            · go_wp2_with fail
                              go_roundg (gk - 1)
                              case measure => omega
                              case rel => exact ⟨hbw8, unhide hB8, j + 1, best, found, by omega, by go_num, by omega, rfl, rfl, (unhide hbo').skip (fun _ => Or.inl (by rw [unhide hO']; omega))⟩
                        · obtain rfl : n = j := by omega
                          rcases unhide hA6 with hAA | hAB
                          · obtain ⟨rfl, m, hm, hfm, hom, j0, hj0, hj0n, hold⟩ := hAA.best (unhide hbo')
                            have hfm' := hide hfm
                            have hom' := hide hom
                            have hj0' := hide hj0
                            have hold' := hide hold
                            clear hfm hom hj0 hold hA6 hbo' hAA
                            go_wp2_with fail
                            go_loopg [19] (n + 1) (fun g i wr => Below w.heap.size w wr ∧ Built wr w.heap.size bb mb pb n n n H hb cb ct D ∧ ∃ (j : Nat), j ≤ m ∧ i = .int .i64 j ∧ g + j = n + 1)
                            case atStart => exact ⟨hbw, unhide hB', 0, by omega, rfl, by omega⟩
                            case round =>
                              obtain ⟨hbw, hB, j, hjm, rfl, hg⟩ := hrel
                              have hB' := hide hB
                              clear hB
                              have hlt : j < n := by omega
                              go_wp2_with fail
                              refine (first_any wr b o n cap j H ((unhide A).below hbw) hlt).mono ?_
                              rintro e w7 ⟨rfl, hb7⟩
                              have hbw7 : Below w.heap.size w w7 := hbw.trans (hb7.mono hbw.size)
                              have hB7 := hide ((unhide hB').below hb7)
                              clear hb7 hB' hbw
                              generalize hfb : firstB H j = fb
                              have hfb' := hide hfb
                              clear hfb
                              cases fb with
                              | false =>
                                have hne : ¬ j = m := fun e => by have h1 := unhide hfb'; rw [e, unhide hfm'] at h1; cases h1
                                go_wp2_with fail
                                go_roundg (gk - 1)
                                case measure => omega
                                case rel => exact ⟨hbw7, unhide hB7, j + 1, by omega, by go_num, by omega⟩
                              | true =>
                                have j0c := (((unhide A).below hbw7).at' j hlt).a0
                                go_wp2_with fail
                                refine (open_any w7 b o n cap t H (H j).client ((unhide A).below hbw7) (unhide hcO) hn2).mono ?_
                                rintro e w8 ⟨rfl, hb8⟩
                                have hbw8 : Below w.heap.size w w8 := hbw7.trans (hb8.mono hbw7.size)
                                have hB8 := hide ((unhide hB7).below hb8)
                                clear hb8 j0c hB7 hbw7
                                generalize hO : sumF (openF H (H j).client t) n = O
                                have hO' := hide (show OS H t n (H j).client = O from hO)
                                clear hO
                                by_cases z0 : O = best
                                · have z1 : (O == best) = true := by simp [z0]
                                  have z0' := hide z0
                                  clear z0
                                  have j0c := (((unhide A).below hbw8).at' j hlt).a0
                                  go_wp2_with fail
                                  refine (oldj_any w8 b o n cap t 0 H (H j).client ((unhide A).below hbw8)).mono ?_
                                  rintro e w9 ⟨⟨kk, hkk, rfl⟩, hb9⟩
                                  have hbw9 : Below w.heap.size w w9 := hbw8.trans (hb9.mono hbw8.size)
                                  have hB9 := hide ((unhide hB8).below hb9)
                                  have hkk' := hide hkk
                                  clear hb9 hkk j0c hB8 hbw8
                                  go_wp2_with fail
                                  rw [← unhide hv']
                                  refine ((unhide hB9).is (unhide hr') kk (by rcases unhide hkk' with ⟨e, _⟩ | ⟨q, hq, e, _⟩ <;> omega)).mono ?_
                                  rintro e w10 ⟨rfl, hb10⟩
                                  rw [unhide hv']
                                  have hbw10 : Below w.heap.size w w10 := hbw9.trans (hb10.mono hbw9.size)
                                  have hB10 := hide ((unhide hB9).below hb10)
                                  clear hb10 hB9 hbw9
                                  generalize hii : isAns r kk = ii
                                  have hii' := hide hii
                                  clear hii
                                  cases ii with
                                  | true =>
                                    go_wp2_with fail
                                    go_ret
                                    exact ⟨rfl, hbw10⟩
                                  | false =>
                                    have hne : ¬ j = m := fun e => by
                                      have h1 := unhide hii'
                                      have h2 := unhide hold' kk (by rw [← e]; exact unhide hkk')
                                      rw [h2, unhide hj0', isAns_self] at h1
                                      cases h1
                                    go_wp2_with fail
                                    go_roundg (gk - 1)
                                    case measure => omega
                                    case rel => exact ⟨hbw10, unhide hB10, j + 1, by omega, by go_num, by omega⟩
                                · have z1 : (O == best) = false := by simpa using z0
                                  have hne : ¬ j = m := fun e => z0 (by rw [← unhide hO', e]; exact unhide hom')
                                  go_wp2_with fail
                                  go_roundg (gk - 1)
                                  case measure => omega
                                  case rel => exact ⟨hbw8, unhide hB8, j + 1, by omega, by go_num, by omega⟩
                          · obtain rfl := hAB.best (unhide hbo')
                            have hAB' := hide hAB.2
                            clear hA6 hbo' hAB
                            go_wp2_with fail
                            go_loopg [20, 21, 22, 23] (n + 1) (fun g be ha i hd wr => Below w.heap.size w wr ∧ Built wr w.heap.size bb mb pb n n n H hb cb ct D ∧ ∃ (j : Nat) (best : Int) (hv : Bool), j ≤ n ∧ i = .int .i64 j ∧ g + j = n + 1 ∧ be = .int .i64 best ∧ ha = .bool hv ∧ BestH6 H n j best hv)
                            case atStart => exact ⟨hbw, unhide hB', 0, 0, false, by omega, rfl, by omega, rfl, rfl, Or.inl ⟨rfl, rfl⟩⟩
                            case round =>
                              obtain ⟨hbw, hB, j, bh, hvb, hj, rfl, hg, rfl, rfl, hbo⟩ := hrel
                              have hbo' := hide hbo
                              have hB' := hide hB
                              clear hbo hB
                              by_cases hlt : j < n
                              · go_wp2_with fail
                                refine (first_any wr b o n cap j H ((unhide A).below hbw) hlt).mono ?_
                                rintro e w7 ⟨rfl, hb7⟩
                                have hbw7 : Below w.heap.size w w7 := hbw.trans (hb7.mono hbw.size)
                                have hB7 := hide ((unhide hB').below hb7)
                                clear hb7 hB' hbw
                                generalize hfb : firstB H j = fb
                                have hfb' := hide hfb
                                clear hfb
                                cases fb with
                                | false =>
                                  go_wp2_with fail
                                  go_roundg (gk - 1)
                                  case measure => omega
                                  case rel => exact ⟨hbw7, unhide hB7, j + 1, bh, hvb, by omega, by go_num, by omega, rfl, rfl, (unhide hbo').skip (Or.inl (unhide hfb'))⟩
                                | true =>
                                  have j0c := (((unhide A).below hbw7).at' j hlt).a0
                                  go_wp2_with fail
                                  refine (held_any w7 b o n cap H (H j).client ((unhide A).below hbw7) (unhide hcO) hn2).mono ?_
                                  rintro e w8 ⟨rfl, hb8⟩
                                  have hbw8 : Below w.heap.size w w8 := hbw7.trans (hb8.mono hbw7.size)
                                  have hB8 := hide ((unhide hB7).below hb8)
                                  clear hb8 j0c hB7 hbw7
                                  generalize hO : sumF (heldF H (H j).client) n = O
                                  have hO' := hide (show HS H n (H j).client = O from hO)
                                  clear hO
                                  cases hvb with
                                  | false =>
                                    go_wp2_with fail
                                    go_roundg (gk - 1)
                                    case measure => omega
                                    case rel => exact ⟨hbw8, unhide hB8, j + 1, O, true, by omega, by go_num, by omega, rfl, rfl, by rw [← unhide hO']; exact (unhide hbo').take (fun h => by cases h)⟩
                                  | true =>
                                    by_cases z1 : bh < O
                                    · go_wp2_with fail
                                      go_roundg (gk - 1)
                                      case measure => omega
                                      case rel => exact ⟨hbw8, unhide hB8, j + 1, O, true, by omega, by go_num, by omega, rfl, rfl, by rw [← unhide hO']; exact (unhide hbo').take (fun _ => by rw [unhide hO']; omega)⟩
                                    · go_wp2_with fail
                                      go_roundg (gk - 1)
                                      case measure => omega
                                      case rel => exact ⟨hbw8, unhide hB8, j + 1, bh, true, by omega, by go_num, by omega, rfl, rfl, (unhide hbo').skip (Or.inr ⟨rfl, by rw [unhide hO']; omega⟩)⟩
                              · obtain rfl : n = j := by omega
                                have hdone := hide ((unhide hbo').done (by omega))
                                clear hbo'
                                have j0c := (((unhide A).below hbw).at' t t2).a0
                                go_wp2_with fail
                                refine (held_any wr b o n cap H (H t).client ((unhide A).below hbw) (unhide hcO) hn2).mono ?_
                                rintro e w8 ⟨rfl, hb8⟩
                                have hbw8 : Below w.heap.size w w8 := hbw.trans (hb8.mono hbw.size)
                                have hB8 := hide ((unhide hB').below hb8)
                                clear hb8 j0c hB' hbw
                                have hbd := HS_bd (unhide hcO) hn2 (H t).client
                                generalize hO : sumF (heldF H (H t).client) n = O
                                have hO1 : HS H n (H t).client = O := hO
                                rw [hO1] at hbd
                                obtain ⟨bd0, bd1⟩ := hbd
                                have hO' := hide hO1
                                clear hO hO1
                                have hpick := hide (show ∃ m, m < n ∧ firstB H m = true ∧ HS H n (H m).client = bh ∧ ((bh ≤ O + k ∧ r = none) ∨ (O + k < bh ∧ PickB H t n m r)) from by
                                  obtain ⟨m, hm, hf, hmax, h3⟩ := unhide hAB'
                                  obtain ⟨⟨q, hq, e⟩, hle⟩ := unhide hdone
                                  have e2 : HS H n (H m).client = bh := by have := hmax q hq; have := hle m hm; omega
                                  rw [e2, unhide hO'] at h3
                                  exact ⟨m, hm, hf, e2, h3⟩)
                                clear hdone hAB'
                                by_cases z : bh ≤ O + k
                                · have hrn : r = none := by
                                    obtain ⟨m, _, _, _, h | h⟩ := unhide hpick
                                    · exact h.2
                                    · omega
                                  have hvn := unhide hv'
                                  rw [hrn] at hvn
                                  have hvn2 : v = .pointer none := hvn.symm
                                  clear hvn hrn hv'
                                  subst hvn2
                                  go_wp2_with fail
                                  go_ret
                                  exact ⟨rfl, hbw8⟩
                                · obtain ⟨m, hm, hfm, hom, hP⟩ : ∃ m, m < n ∧ firstB H m = true ∧ HS H n (H m).client = bh ∧ PickB H t n m r := by
                                    obtain ⟨m, h1, h2, h3, h | h⟩ := unhide hpick
                                    · omega
                                    · exact ⟨m, h1, h2, h3, h.2⟩
                                  have hfm' := hide hfm
                                  have hom' := hide hom
                                  have hP' := hide hP
                                  clear hfm hom hP hpick
                                  go_wp2_with fail
                                  go_loopg [24, 25] (n + 1) (fun g i kv wr => Below w.heap.size w wr ∧ Built wr w.heap.size bb mb pb n n n H hb cb ct D ∧ ∃ (j : Nat), j ≤ m ∧ i = .int .i64 j ∧ g + j = n + 1)
                                  case atStart => exact ⟨hbw8, unhide hB8, 0, by omega, rfl, by omega⟩
                                  case round =>
                                    obtain ⟨hbw, hB, j, hjm, rfl, hg⟩ := hrel
                                    have hB' := hide hB
                                    clear hB hbw8 hB8
                                    have hlt : j < n := by omega
                                    go_wp2_with fail
                                    refine (first_any wr b o n cap j H ((unhide A).below hbw) hlt).mono ?_
                                    rintro e w7 ⟨rfl, hb7⟩
                                    have hbw7 : Below w.heap.size w w7 := hbw.trans (hb7.mono hbw.size)
                                    have hB7 := hide ((unhide hB').below hb7)
                                    clear hb7 hB' hbw
                                    generalize hfb : firstB H j = fb
                                    have hfb' := hide hfb
                                    clear hfb
                                    cases fb with
                                    | false =>
                                      have hne : ¬ j = m := fun e => by have h1 := unhide hfb'; rw [e, unhide hfm'] at h1; cases h1
                                      go_wp2_with fail
                                      go_roundg (gk - 1)
                                      case measure => omega
                                      case rel => exact ⟨hbw7, unhide hB7, j + 1, by omega, by go_num, by omega⟩
                                    | true =>
                                      have j0c := (((unhide A).below hbw7).at' j hlt).a0
                                      go_wp2_with fail
                                      refine (held_any w7 b o n cap H (H j).client ((unhide A).below hbw7) (unhide hcO) hn2).mono ?_
                                      rintro e w8 ⟨rfl, hb8⟩
                                      have hbw8 : Below w.heap.size w w8 := hbw7.trans (hb8.mono hbw7.size)
                                      have hB8 := hide ((unhide hB7).below hb8)
                                      clear hb8 j0c hB7 hbw7
                                      generalize hO2 : sumF (heldF H (H j).client) n = O2
                                      have hO2' := hide (show HS H n (H j).client = O2 from hO2)
                                      clear hO2
                                      by_cases z0 : O2 = bh
                                      · have z1 : (O2 != bh) = false := by simp [z0]
                                        have z0' := hide z0
                                        clear z0
                                        have j0c := (((unhide A).below hbw8).at' j hlt).a0
                                        go_wp2_with fail
                                        refine (oldj_any w8 b o n cap t 1 H (H j).client ((unhide A).below hbw8)).mono ?_
                                        rintro e w9 ⟨⟨kk, hkk, rfl⟩, hb9⟩
                                        have hbw9 : Below w.heap.size w w9 := hbw8.trans (hb9.mono hbw8.size)
                                        have hB9 := hide ((unhide hB8).below hb9)
                                        have hkk' := hide hkk
                                        clear hb9 hkk j0c hB8 hbw8
                                        by_cases hkneg : kk < 0
                                        · have j0c := (((unhide A).below hbw9).at' j hlt).a0
                                          go_wp2_with fail
                                          refine (oldj_any w9 b o n cap t 2 H (H j).client ((unhide A).below hbw9)).mono ?_
                                          rintro e w11 ⟨⟨k2, hk2, rfl⟩, hb11⟩
                                          have hbw11 : Below w.heap.size w w11 := hbw9.trans (hb11.mono hbw9.size)
                                          have hB11 := hide ((unhide hB9).below hb11)
                                          have hk2' := hide hk2
                                          clear hb11 hk2 j0c hB9 hbw9
                                          go_wp2_with fail
                                          rw [← unhide hv']
                                          refine ((unhide hB11).is (unhide hr') k2 (by rcases unhide hk2' with ⟨e, _⟩ | ⟨q, hq, e, _⟩ <;> omega)).mono ?_
                                          rintro e w10 ⟨rfl, hb10⟩
                                          rw [unhide hv']
                                          have hbw10 : Below w.heap.size w w10 := hbw11.trans (hb10.mono hbw11.size)
                                          have hB10 := hide ((unhide hB11).below hb10)
                                          clear hb10 hB11 hbw11
                                          generalize hii : isAns r k2 = ii
                                          have hii' := hide hii
                                          clear hii
                                          cases ii with
                                          | true =>
                                            go_wp2_with fail
                                            go_ret
                                            exact ⟨rfl, hbw10⟩
                                          | false =>
                                            have hne : ¬ j = m := fun e => pick_no2 (by rw [← e] at hP'; exact unhide hP') (unhide hkk') hkneg (unhide hk2') (unhide hii')
                                            go_wp2_with fail
                                            go_roundg (gk - 1)
                                            case measure => omega
                                            case rel => exact ⟨hbw10, unhide hB10, j + 1, by omega, by go_num, by omega⟩
                                        · go_wp2_with fail
                                          rw [← unhide hv']
                                          refine ((unhide hB9).is (unhide hr') kk (by rcases unhide hkk' with ⟨e, _⟩ | ⟨q, hq, e, _⟩ <;> omega)).mono ?_
                                          rintro e w10 ⟨rfl, hb10⟩
                                          rw [unhide hv']
                                          have hbw10 : Below w.heap.size w w10 := hbw9.trans (hb10.mono hbw9.size)
                                          have hB10 := hide ((unhide hB9).below hb10)
                                          clear hb10 hB9 hbw9
                                          generalize hii : isAns r kk = ii
                                          have hii' := hide hii
                                          clear hii
                                          cases ii with
                                          | true =>
                                            go_wp2_with fail
                                            go_ret
                                            exact ⟨rfl, hbw10⟩
                                          | false =>
                                            have hne : ¬ j = m := fun e => pick_no1 (by rw [← e] at hP'; exact unhide hP') (unhide hkk') (by omega) (unhide hii')
                                            go_wp2_with fail
                                            go_roundg (gk - 1)
                                            case measure => omega
                                            case rel => exact ⟨hbw10, unhide hB10, j + 1, by omega, by go_num, by omega⟩
                                      · have z1 : (O2 != bh) = true := by simpa using z0
                                        have hne : ¬ j = m := fun e => z0 (by rw [← unhide hO2', e]; exact unhide hom')
                                        go_wp2_with fail
                                        go_roundg (gk - 1)
                                        case measure => omega
                                        case rel => exact ⟨hbw8, unhide hB8, j + 1, by omega, by go_num, by omega⟩
            · go_wp2_with fail
              all_goals
                go_ret
                exact ⟨rfl, hbw⟩
          · go_wp2_with fail
            all_goals
              go_ret
              exact ⟨rfl, hbw⟩
    · go_wp2_with fail
      go_ret
      exact ⟨rfl, unhide hb1'⟩
end Go.Proofs.Qxb6618660a
