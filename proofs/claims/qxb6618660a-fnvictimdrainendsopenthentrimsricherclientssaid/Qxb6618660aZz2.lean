import Derived.Test.Qxb6618660aZz
import Derived.Test.Qxb6618660aVictim
namespace Go.Proofs.Qxb6618660a
open Go.RowKit
set_option linter.unusedVariables false
set_option linter.unusedSimpArgs false

theorem run_eql24_nil (w : World) (b : Nat) : (binOp .eql 24 (.pointer none) (.pointer (some ⟨b, 0, none⟩))).run Try.prog w = .ok (.bool false) w := by
  have h : ∀ d : Nat, (Op.equalIn (d + 1) 24 (.pointer none) (.pointer (some ⟨b, 0, none⟩))).run Try.prog w = .ok false w := fun d => by
    simp [Op.equalIn, run_underlying Try.underlying24]
  simp only [binOp]
  simp [Op.equal, Op.maxDepth, h 9999]

/-- v == p over holders' pointers. -/
theorem run_eql24_opt (w : World) (v : Option Nat) (b : Nat) (hv : ∀ x, v = some x → Plain w x) (hb : Plain w b) :
    (binOp .eql 24 (optPtr v) (.pointer (some ⟨b, 0, none⟩))).run Try.prog w = .ok (.bool (decide (v = some b))) w := by
  cases v with
  | none => rw [show optPtr none = .pointer none from rfl, run_eql24_nil]; simp
  | some x => rw [show optPtr (some x) = .pointer (some ⟨x, 0, none⟩) from rfl, run_eql24 w x b (hv x rfl) hb]; congr 2; by_cases e : x = b <;> simp [e]

theorem zIs_neg (w : World) (v : Option Nat) (pb n : Nat) (k : Int) (hk : k < 0) :
    Calls Try.prog 22 #[optPtr v, .slice (some ⟨pb, 0, none⟩) n n, .int .i64 k] w fun e w' => e = .returned (.bool v.isNone) ∧ w' = w := by
  cases v with
  | none =>
    rw [show optPtr none = .pointer none from rfl]
    go_enter Try.func22, Try.ntmps22
    go_wp2
    go_ret
    exact ⟨rfl, rfl⟩
  | some x =>
    rw [show optPtr (some x) = .pointer (some ⟨x, 0, none⟩) from rfl]
    go_enter Try.func22, Try.ntmps22
    go_wp2
    go_ret
    exact ⟨rfl, rfl⟩
theorem zIs_at (w : World) (v : Option Nat) (pb n k b : Nat) (hk : k < n) (hn : n ≤ 4096) (hc : w.cell? ⟨pb, k, none⟩ = some (.pointer (some ⟨b, 0, none⟩))) (hv : ∀ x, v = some x → Plain w x) (hb : Plain w b) :
    Calls Try.prog 22 #[optPtr v, .slice (some ⟨pb, 0, none⟩) n n, .int .i64 k] w fun e w' => e = .returned (.bool (decide (v = some b))) ∧ ∃ q, w' = w.drewN q := by
  cases v with
  | none =>
    have hrun := run_eql24_nil w b
    clear hv hb
    rw [show optPtr none = .pointer none from rfl]
    go_enter Try.func22, Try.ntmps22
    go_wp2
    go_ret
    exact ⟨by simp, 0, rfl⟩
  | some x =>
    have hrun := run_eql24_opt w (some x) b hv hb
    clear hv hb
    generalize decide (some x = some b) = R at *
    rw [show optPtr (some x) = .pointer (some ⟨x, 0, none⟩) from rfl] at hrun ⊢
    go_enter Try.func22, Try.ntmps22
    go_wp2
    go_ret
    exact ⟨rfl, 0, rfl⟩

theorem ZZVictim_any (w : World) (bb mb t tc n : Nat) (k : Int) (D : DataW Unit) (tn : ByteArray) (pres : ByteArray → Prop) (cb : ByteArray → Nat) (held opn : ByteArray → Int) (chn : ByteArray → List Nat) (hdp : ByteArray → Option Nat)
    (cst stn : Nat → Int) (yl gn : Nat → Bool) (hown : w.ownsMap Try.prog 9 ptrElem mb n D) (M : MapSays D pres cb)
    (V : View w bb mb t tc tn pres cb held opn chn hdp cst stn yl gn) (k0 : -1099511627776 ≤ k) (k1 : k ≤ 1099511627776) :
    Calls Try.prog 19 #[.pointer (some ⟨bb, 0, none⟩), .pointer (some ⟨t, 0, none⟩), .int .i64 k] w fun e w' =>
      (∃ R, VicSays t tn k pres cb held opn chn cst stn yl gn R ∧ e = .returned (optPtr R)) ∧ Below w.heap.size w w' := by
  have C := hide (victim_any w bb mb t tc n k D tn pres cb held opn chn hdp cst stn yl gn hown M V k0 k1)
  clear M V hown
  go_enter Try.func19, Try.ntmps19
  go_wp2_with fail
  refine (unhide C).mono ?_
  rintro e w1 ⟨⟨R, hR, rfl⟩, hb1⟩
  have hR' := hide hR
  have hb1' := hide hb1
  clear hR hb1 C
  generalize hv : optPtr R = v at *
  have hv' := hide hv
  clear hv
  go_wp2
  go_ret
  exact ⟨⟨R, unhide hR', by rw [unhide hv']; rfl⟩, unhide hb1'⟩

/-! ### the bound laid by program -/
def SmallNames (n : Nat) (H : Nat → VH) : Prop := ∀ j, j < n → (H j).client.size ≤ 1048576
def BytesSays (n : Nat) (H : Nat → VH) (e : Ending) : Prop := ∃ r : Bool, (r = true → SmallNames n H) ∧ e = .returned (.bool r)

set_option maxHeartbeats 1000000 in
theorem bytes_any (w : World) (b o n cap : Nat) (x y : Int) (H : Nat → VH) (hA : Args w b o n H) :
    Calls Try.prog 18 #[.slice (some ⟨b, o, none⟩) n cap, .int .i64 x, .int .i64 y] w fun e w' => BytesSays n H e ∧ Below w.heap.size w w' := by
  have hn := hA.small
  have A := hide hA
  clear hA
  go_enter Try.func18, Try.ntmps18
  go_wp2
  go_loopg [7, 8] (n + 1) (fun g z k wr => Below w.heap.size w wr ∧ ∃ (j : Nat) (zz : Int), j ≤ n ∧ k = .int .i64 j ∧ g + j = n + 1 ∧ z = .int .i64 zz ∧ 0 ≤ zz ∧ zz ≤ 1048576 ∧ SmallNames j H)
  case atStart => exact ⟨Below.refl _ _, 0, _, by omega, rfl, by omega, rfl, by omega, by omega, fun q h => by omega⟩
  case round =>
    obtain ⟨hbw, j, zz, hj, rfl, hg, rfl, z0, z1, hq⟩ := hrel
    have hq' := hide hq
    clear hq
    by_cases hlt : j < n
    · have Ar := (unhide A).below hbw
      obtain ⟨j0, j1, j2, j3, j4⟩ := Ar.at' j hlt
      clear Ar j1 j2 j3 j4
      have next := hide (fun (h : (H j).client.size ≤ 1048576) => (show SmallNames (j + 1) H from fun q h2 => by rcases Nat.lt_succ_iff_lt_or_eq.1 h2 with h2 | rfl; exact unhide hq' q h2; exact h))
      by_cases e : (H j).client.size ≤ 1048576
      · by_cases e2 : zz + (H j).client.size ≤ 1048576
        · go_wp2
          go_roundg (gk - 1)
          case measure => omega
          case rel => exact ⟨hbw, j + 1, _, by omega, by go_num, by omega, rfl, by omega, by omega, unhide next e⟩
        · go_wp2
          go_ret
          exact ⟨⟨false, fun h => (by cases h), rfl⟩, hbw⟩
      · go_wp2
        go_ret
        exact ⟨⟨false, fun h => (by cases h), rfl⟩, hbw⟩
    · go_wp2
      go_ret
      exact ⟨⟨true, fun _ q h => unhide hq' q (by omega), rfl⟩, hbw⟩
end Go.Proofs.Qxb6618660a
