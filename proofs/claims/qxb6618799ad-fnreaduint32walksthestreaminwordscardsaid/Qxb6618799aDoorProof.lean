/- The row of 'FnReadUint32WalksTheStreamInWords' proved, and its card closed. -/
import Derived.Test.Qxb6618799aDoorRows
import Derived.Test.Qxb6618799aDoorTie
import Derived.Test.Qxb6618799aDoorCards
import Derived.Test.Qxb6618799aDoorLaw
import Derived.WalkKit
import Derived.ProofKit
import Derived.LaidMore
import Derived.LaidLaws
import Derived.OpenShut
import Derived.ShutString
import Derived.ChangeOld
import Derived.Below
import Derived.Deep.Slices
import Derived.Stop.Joined
import Derived.SevenTiedAt
namespace Go.Proofs.Qxb6618799aDoor.words
open Go.ChangeShapes Go.WideShapes Go.ChangeAt Go.WideMaps Go.WideElems Go.RowKit Go.Deep
open Go.ChangeMaps (open_string shut_string)
set_option linter.unusedVariables false
set_option linter.unusedSimpArgs false

def laid3 : List (String × DataW Unit) := [("io.ErrShortBuffer", Rows.laid_io_ErrShortBuffer), ("io.EOF", Rows.laid_io_EOF), ("io.ErrUnexpectedEOF", Rows.laid_io_ErrUnexpectedEOF)]

theorem own : ownKnob Tryd.prog.godebug = none := by kernel_rfl
theorem laidOut : laidOutB Tryd.prog = true := by kernel_rfl
theorem gShort : Tryd.prog.globalNamed "io.ErrShortBuffer" = some 3 := by kernel_rfl
theorem gEof : Tryd.prog.globalNamed "io.EOF" = some 1 := by kernel_rfl
theorem gUnex : Tryd.prog.globalNamed "io.ErrUnexpectedEOF" = some 2 := by kernel_rfl
theorem tShort : (Tryd.prog.globals[3]?).map (·.type) = some 43 := by kernel_rfl
theorem tEof : (Tryd.prog.globals[1]?).map (·.type) = some 43 := by kernel_rfl
theorem tUnex : (Tryd.prog.globals[2]?).map (·.type) = some 43 := by kernel_rfl
theorem cells115 : Tryd.prog.cellsOf 115 = 1 := by kernel_rfl
theorem cells9 : Tryd.prog.cellsOf 9 = 1 := by kernel_rfl
theorem cells5 : Tryd.prog.cellsOf 5 = 1 := by kernel_rfl
/-- The name that the listed values bear. -/
def nmP : String := match (Rows.laid_io_EOF : DataW Unit) with
  | .iface n _ => n
  | _ => ""
theorem row88 (u : TypeId) (h : Tryd.prog.typeName? 3 u = some nmP) : u = 88 :=
  typeName_ptr_named (nm := "errors.errorString") (by kernel_rfl) (by kernel_rfl) (by decide) u (h.trans (congrArg some (by decide)))

set_option maxRecDepth 100000 in
/-- What the listed variables give the walk. -/
theorem sents_of_laid {W : World} (h : laidMetH Tryd.prog laid3 W) : ∃ ea ua, Sents W ea ua := by
  rw [MakeChecks.laidMetH_plain _ _ _ (by kernel_rfl)] at h
  obtain ⟨ps, ⟨g0, t0, cs0, f0, p0, q0, hg0, ht0, hv0, hd0, ⟨g1, t1, cs1, f1, p1, q1, hg1, ht1, hv1, hd1, ⟨g2, t2, cs2, f2, p2, q2, hg2, ht2, hv2, hd2, hq2, e2⟩, e1⟩, e0⟩, hnd, hrows⟩ := h
  obtain rfl := Option.some.inj (gShort.symm.trans hg0)
  obtain rfl := Option.some.inj (gEof.symm.trans hg1)
  obtain rfl := Option.some.inj (gUnex.symm.trans hg2)
  obtain rfl := Option.some.inj (tShort.symm.trans ht0)
  obtain rfl := Option.some.inj (tEof.symm.trans ht1)
  obtain rfl := Option.some.inj (tUnex.symm.trans ht2)
  have hq2' : q2 = [] := hq2
  subst hq2'
  subst e2
  subst e1
  subst e0
  obtain ⟨l1⟩ := cs1
  obtain ⟨l2⟩ := cs2
  have ok1 : ∀ u v, l1 = [.iface u v] → Value.okWide Tryd.prog W .any 0 u v := fun u v e => by
    subst e
    exact (hrows 1 0 (by simp [MemPlace.row])).2 u v (World.var?_cell hg1 hv1 0)
  have ok2 : ∀ u v, l2 = [.iface u v] → Value.okWide Tryd.prog W .any 0 u v := fun u v e => by
    subst e
    exact (hrows 2 0 (by simp [MemPlace.row])).2 u v (World.var?_cell hg2 hv2 0)
  obtain ⟨a1, s1, rfl, hc1, hs1, hz1, rfl⟩ := errorString_of_trod Tryd.underlying43 row88 Tryd.underlying88 Tryd.underlying115 rfl rfl Tryd.underlying9 cells115 cells9 hd1 ok1
  obtain ⟨a2, s2, rfl, hc2, hs2, hz2, rfl⟩ := errorString_of_trod Tryd.underlying43 row88 Tryd.underlying88 Tryd.underlying115 rfl rfl Tryd.underlying9 cells115 cells9 hd2 ok2
  obtain ⟨c1, t1, hb1⟩ := (hrows a1.block a1.off (by simp [MemPlace.row])).1
  obtain ⟨c2, t2, hb2⟩ := (hrows a2.block a2.off (by simp [MemPlace.row])).1
  refine ⟨a1, a2, World.var?_cell hg1 hv1 0, World.var?_cell hg2 hv2 0, ?_, ⟨c1, t1, hb1⟩, ⟨c2, t2, hb2⟩⟩
  rintro rfl
  have es : s1 = s2 := by
    have := hc1.symm.trans hc2
    simpa using this
  rw [es, hs2] at hs1
  exact absurd hs1 (by decide)

theorem door_met (os : Os) (args : Array Value) : laidMetH Tryd.prog laid3 ((World.doorLaid Tryd.prog 85 os).forCall (fun _ _ => 0) ⟨#[], args, []⟩).memory :=
  laidMetH_of_parts3 (fuel := 8) (laidMet_of_run' 8 (by kernel_rfl) (by kernel_rfl)) (by kernel_rfl) (by kernel_rfl)

theorem u8_range {k : Int} (h : (Lit.int .u8 k).wf = true) : 0 ≤ k ∧ k < 256 := by
  simp [Lit.wf, IntKind.min, IntKind.max, IntKind.signed, IntKind.bits] at h
  omega
theorem no_spot {w : World} {a : Addr} {v : Value} (h : w.cell? (a.add 0) = some v) : ∃ b o, a = ⟨b, o, none⟩ ∧ b < w.heap.size ∧ ∀ i, a.add i = ⟨b, o + i, none⟩ := by
  obtain ⟨b, o, sp⟩ := a
  cases sp with
  | none =>
    have e : ∀ i, (⟨b, o, none⟩ : Addr).add i = ⟨b, o + i, none⟩ := fun i => by
      unfold Addr.add
      by_cases hk : i = 0
      · subst hk; simp
      · simp [hk]
    rw [e] at h
    exact ⟨b, o, rfl, World.block_lt_of_cell? w _ h, e⟩
  | some q =>
    simp [World.cell?, Addr.add] at h
    split at h <;> simp at h
theorem data_says {Hd : Type} {enc : TypeId × Value → Hd} {w : World} {spare : Nat → Bool} {held : Bool} {fuel : Nat} {a : Option Addr} {len cap : Nat} {x : DataW Hd × List MemPlace}
    (h : DataW.trod enc Tryd.prog w 0 spare held fuel 22 [.slice a len cap] = some x) : ∃ X, Data w a len X := by
  rcases open_slice1 Tryd.underlying22 cells5 h with ⟨e, _⟩ | ⟨ad, l, c, m, n, V, D, Pl, e, _, hl, hm, hmm, _, hx⟩
  · simp at e
    obtain ⟨rfl, rfl, rfl⟩ := e
    exact ⟨fun _ => 0, fun _ => rfl, fun i hi => by omega, fun i hi => by omega, by unfold maxLen; omega⟩
  · simp at e
    obtain ⟨rfl, rfl, rfl⟩ := e
    have hml : len ≤ m := by rw [hmm]; split <;> omega
    have each : ∀ i, i < len → ∃ k : Nat, V i = bv k ∧ k < 256 := fun i hi => by
      obtain ⟨k, e1, _, hw⟩ := DataW.trod_int Tryd.underlying5 (hx i (by omega)).2
      simp at e1
      obtain ⟨h0, h1⟩ := u8_range hw
      obtain ⟨k, rfl⟩ := Int.eq_ofNat_of_zero_le h0
      exact ⟨k, e1, by omega⟩
    obtain ⟨X, hX⟩ := choose_lt (α := Nat) (p := fun i k => V i = bv k ∧ k < 256) each
    refine ⟨X, fun e => (by cases e), fun i hi => ?_, fun i hi => (hX i hi).2, by omega⟩
    have hc := (hx i (by omega)).1
    rw [(hX i hi).1] at hc
    obtain ⟨b, o, rfl, hb, he⟩ := no_spot (hx 0 (by omega)).1
    rw [he] at hc
    exact ⟨b, o, rfl, hb, hc⟩

theorem law_any (W : World) (a : Option Addr) (n cap : Nat) (X : Nat → Nat) (ea ua : Addr) (hS : Sents W ea ua) (hA : Data W a n X) :
    Calls Tryd.prog 3 #[.slice a n cap] W fun e w' => e = .returned (.bool true) ∧ Below W.heap.size W w' := by
  by_cases hn : n ≤ 1048576
  · refine (law_small W W.heap.size ea ua a n cap X ⟨hS, lt_of_cell hS.g2, ?_, ?_, Nat.le_refl _⟩ hA hn).mono ?_
    · obtain ⟨c, t, h⟩ := hS.be; exact (Array.getElem?_eq_some_iff.1 h).1
    · obtain ⟨c, t, h⟩ := hS.bu; exact (Array.getElem?_eq_some_iff.1 h).1
    · rintro e w' ⟨rfl, hc⟩
      exact ⟨rfl, hc.below (Nat.le_refl _) (fun x h => h)⟩
  · refine (law_long W a n cap (by omega) hA.small).mono ?_
    rintro e w' ⟨rfl, rfl⟩
    exact ⟨rfl, Below.refl _ _⟩

set_option maxRecDepth 100000 in
theorem lifted (os : Os) (started : os.Started) (H : Type) (enc : TypeId × Value → H) :
    ReturnsInHanded {} Tryd.checked os 3 .any (fun w args => (Rows.fnReadUint32WalksTheStreamInWordsSpec.pre enc Tryd.prog Tryd.f3 [] false w args ∧ laidMetH Tryd.prog laid3 w) ∧ sizedMet enc Tryd.prog Tryd.f3 (OpenSpec.ofChange Rows.fnReadUint32WalksTheStreamInWordsSpec) false w args)
      (Rows.fnReadUint32WalksTheStreamInWordsSpec.post enc Tryd.prog Tryd.f3 false true false false) := by
  refine returnsInHanded_of_change_and (C := Tryd.checked) (X := fun w _ => laidMetH Tryd.prog laid3 w) (fun _ _ _ hh h => h.of_heap hh) own started (by kernel_rfl) Tryd.func3
    (ChangeSpec.witness_shaped (enc := enc) (C := Tryd.checked) (os := os) (X := fun w _ => laidMetH Tryd.prog laid3 w) false (World.doorLaid Tryd.prog 85 os) #[.slice none 0 0] 8 rfl (World.shaped_of_RefB (by kernel_rfl) (by kernel_rfl)) (by kernel_rfl) (by kernel_rfl) (by kernel_rfl) (door_met os _)) ?_
  intro W base args ds gs before hval0 hW _ _ hL _
  have hval : ∀ (j : Nat) t v, Tryd.f3.params[j]? = some t → args[j]? = some v → Value.okWide Tryd.prog W .any base t v := hval0
  have hW' := hW
  obtain ⟨p, q, hA0, hV, rfl, hfz, hnd⟩ := hW
  have hA : DataW.TrodAll enc Tryd.prog W 0 (fun _ => true) true Tryd.f3.params.toList args.toList ds p := hA0
  rw [Tryd.params3] at hA hval
  obtain ⟨v0, d0, rfl, rfl, h0⟩ := trodAll_one hA
  obtain ⟨rfl, rfl⟩ := trodVars_none hV
  obtain ⟨a0, len0, cap0, rfl⟩ := okWide_slice Tryd.underlying22 (hval 0 22 v0 rfl rfl)
  have k0 := h0
  have lt0 : ∀ x ∈ p, x.block < W.heap.size := by obtain ⟨m, hm⟩ := k0; exact DataW.trod_lt m _ _ _ hm
  obtain ⟨X, w0⟩ : ∃ X, Data W a0 len0 X := by
    obtain ⟨fuel, hf⟩ := h0
    exact data_says (by simpa [Value.cells] using hf)
  obtain ⟨ea, ua, hS⟩ := sents_of_laid hL
  clear hA0 hval0
  refine (law_any W a0 len0 cap0 X ea ua hS w0).mono fun e W' ⟨he, bel⟩ => ?_
  subst he
  exact ⟨_, rfl, _, _, _, [], _, [], hW', trodAll_mk1 (shut_bool Tryd.underlying4 _), (trodAll_cons_mk (Below.trod laidOut (by kernel_rfl) (of_decide_eq_true (by kernel_rfl)) k0 bel lt0) trodAll_mk0), rfl, bel.frame _, fun h => by cases h⟩

theorem over : Rows.FnReadUint32WalksTheStreamInWordsSaid :=
  OpenClaim.holds_of_wide 3 Tryd.f3 rfl rfl rfl rfl rfl rfl rfl ⟨rfl, rfl, rfl, rfl, rfl⟩ rfl rfl rfl rfl rfl (by kernel_rfl) Tryd.func3 (by kernel_rfl)
    (of_decide_eq_true (by kernel_rfl)) (by unfold Func.isWrapper; first | (rw [if_pos (by decide +kernel)]; kernel_rfl) | (rw [if_neg (by decide +kernel)]; exact ⟨rfl, rfl⟩))
    (fun os started H enc _ => lifted os started H enc)
end Go.Proofs.Qxb6618799aDoor.words

namespace Go.Proofs.Qxb6618799aDoor
theorem words_card : Rows.FnReadUint32WalksTheStreamInWordsCardSaid :=
  Claim7.holds_tied_plain_at .later [] [.sentinel, .sentinel, .sentinel] true (true, "590d60c3dc6d3dcb9e9abcc804f86a3b88348e1edc6166bab038e750c0a3cacd") true
    words.over (fun _ h => by cases h) (by kernel_rfl) (fun _ h => by cases h) fnReadUint32WalksTheStreamInWords_row_tie rfl ⟨rfl, rfl⟩ (by kernel_rfl) rfl
    (fun f fn hf hfn => by
      obtain rfl : f = 3 := Option.some.inj ((show Tryd.prog.funcNamed Rows.fnReadUint32WalksTheStreamInWordsRow.func = some 3 by kernel_rfl).symm.trans hf) |>.symm
      obtain rfl : fn = Tryd.f3 := (Option.some.inj (Tryd.func3.symm.trans hfn)).symm
      exact ⟨by kernel_rfl, fun j t ht => by
        rw [Tryd.params3] at ht
        have h3 : t = 22 := by
          rcases j with _ | j
          · simpa using ht.symm
          · simp at ht
        subst h3
        exact (show Tryd.prog.wantsStandIn 22 = false by kernel_rfl)⟩)
    (by kernel_rfl)
end Go.Proofs.Qxb6618799aDoor
