import Derived.Test.Qxb6618660aPtrs
import Derived.Deep.LoopGhost
import Derived.BigQuiet
namespace Go.Proofs.Qxb6618660a
open Go.RowKit
set_option linter.unusedVariables false
set_option linter.unusedSimpArgs false

/-- One holder of the argument. -/
structure VH where
  client : ByteArray
  cost : Int
  st : Int
  yields : Bool
  gone : Bool

/-- The argument's cells. -/
structure ArgAt (w : World) (b o : Nat) (h : VH) : Prop where
  a0 : w.cell? ⟨b, o, none⟩ = some (.string h.client)
  a1 : w.cell? ⟨b, o + 1, none⟩ = some (.int .i64 h.cost)
  a2 : w.cell? ⟨b, o + 2, none⟩ = some (.int .i64 h.st)
  a3 : w.cell? ⟨b, o + 3, none⟩ = some (.bool h.yields)
  a4 : w.cell? ⟨b, o + 4, none⟩ = some (.bool h.gone)

theorem ArgAt.below {B : Nat} {w w' : World} {b o : Nat} {h : VH} (A : ArgAt w b o h) (hB : Below B w w') (hb : b < B) : ArgAt w' b o h :=
  ⟨(hB.cell (p := ⟨b, o, none⟩) hb).trans A.a0, (hB.cell (p := ⟨b, o + 1, none⟩) hb).trans A.a1, (hB.cell (p := ⟨b, o + 2, none⟩) hb).trans A.a2, (hB.cell (p := ⟨b, o + 3, none⟩) hb).trans A.a3, (hB.cell (p := ⟨b, o + 4, none⟩) hb).trans A.a4⟩
theorem below_drewN' {B : Nat} {a w : World} (h : Below B a w) (q : Nat) : Below B a (w.drewN q) := ⟨h.os, h.tape, h.output, h.size, h.block⟩

/-- The argument as a whole. -/
structure Args (w : World) (b o n : Nat) (H : Nat → VH) : Prop where
  at' : ∀ j, j < n → ArgAt w b (o + j * 5) (H j)
  lt : b < w.heap.size
  small : n ≤ 1048576
theorem Args.below {w w' : World} {b o n : Nat} {H : Nat → VH} (A : Args w b o n H) (hB : Below w.heap.size w w') : Args w' b o n H :=
  ⟨fun j h => (A.at' j h).below hB A.lt, Nat.lt_of_lt_of_le A.lt hB.size, A.small⟩

theorem toList_inj {a b : ByteArray} (h : a.toList = b.toList) : a = b := by
  rw [ByteArray.toList_eq, ByteArray.toList_eq] at h
  have : a.data = b.data := Array.ext' h
  cases a; cases b; simp_all
theorem beq_yes {a b : ByteArray} (h : a = b) : (a.toList == b.toList) = true := by simp [h]
theorem beq_no {a b : ByteArray} (h : ¬ a = b) : (a.toList == b.toList) = false := by
  rw [beq_eq_false_iff_ne]; exact fun e => h (toList_inj e)

def firstB (H : Nat → VH) (i : Nat) : Bool := (List.range i).all fun j => !(decide ((H j).client = (H i).client))
theorem firstB_true {H : Nat → VH} {i : Nat} (h : ∀ q, q < i → ¬ (H q).client = (H i).client) : firstB H i = true := by
  simp only [firstB, List.all_eq_true, List.mem_range, Bool.not_eq_true', decide_eq_false_iff_not]
  exact h
theorem firstB_iff {H : Nat → VH} {i : Nat} : firstB H i = true ↔ ∀ q, q < i → ¬ (H q).client = (H i).client := by
  simp only [firstB, List.all_eq_true, List.mem_range, Bool.not_eq_true', decide_eq_false_iff_not]
theorem firstB_false {H : Nat → VH} {i j : Nat} (hj : j < i) (h : (H j).client = (H i).client) : firstB H i = false := by
  rw [← Bool.not_eq_true, firstB_iff]
  exact fun g => g j hj h

set_option maxHeartbeats 1000000 in
theorem first_any (w : World) (b o n cap i : Nat) (H : Nat → VH) (hA : Args w b o n H) (hi : i < n) :
    Calls Try.prog 20 #[.slice (some ⟨b, o, none⟩) n cap, .int .i64 i] w fun e w' => e = .returned (.bool (firstB H i)) ∧ Below w.heap.size w w' := by
  have hn := hA.small
  have A := hide hA
  clear hA
  generalize hR : firstB H i = R
  have hR' := hide hR
  clear hR
  go_enter Try.func20, Try.ntmps20
  go_wp2
  go_loopg [5] (i + 1) (fun g k wr => Below w.heap.size w wr ∧ ∃ j : Nat, j ≤ i ∧ k = .int .i64 j ∧ g + j = i + 1 ∧ ∀ q, q < j → ¬ (H q).client = (H i).client)
  case atStart => exact ⟨Below.refl _ _, 0, by omega, rfl, by omega, fun q h => by omega⟩
  case round =>
    obtain ⟨hb, j, hj, rfl, hg, hq⟩ := hrel
    have hq' := hide hq
    clear hq
    by_cases hlt : j < i
    · have Ar := (unhide A).below hb
      have j0 := (Ar.at' j (by omega)).a0
      have i0 := (Ar.at' i hi).a0
      clear Ar
      by_cases e : (H j).client = (H i).client
      · have e' := hide e
        have e2 := beq_yes e
        clear e
        go_wp2
        go_quiet (fail)
        go_wp2
        go_ret
        exact ⟨by rw [← unhide hR', firstB_false hlt (unhide e')]; rfl, below_drewN' hb _⟩
      · have e' := hide e
        have e2 := beq_no e
        clear e
        go_wp2
        go_quiet (fail)
        go_wp2
        go_roundg (gk - 1)
        case measure => omega
        case rel => exact ⟨below_drewN' hb _, j + 1, by omega, by go_num, by omega, fun q h => by rcases Nat.lt_succ_iff_lt_or_eq.1 h with h | rfl; exact unhide hq' q h; exact unhide e'⟩
    · go_wp2
      go_ret
      exact ⟨by rw [← unhide hR', firstB_true (fun q h => unhide hq' q (by omega))]; rfl, hb⟩

/-! ### zzEff, zzStands: a struct by value, boxed -/
def VH.val (h : VH) : Value := .agg #[.string h.client, .int .i64 h.cost, .int .i64 h.st, .bool h.yields, .bool h.gone]
def VH.eff (h : VH) : Int := if h.gone then 0 else h.cost
def VH.stands (h : VH) : Int := if h.yields then 0 else h.st

theorem eff_any (w : World) (h : VH) : Calls Try.prog 28 #[.agg #[.string h.client, .int .i64 h.cost, .int .i64 h.st, .bool h.yields, .bool h.gone]] w fun e w' => e = .returned (.int .i64 h.eff) ∧ Below w.heap.size w w' := by
  obtain ⟨c, k, s, y, g⟩ := h
  cases g
  all_goals
    go_enter Try.func28, Try.ntmps28
    go_wp2
    go_ret
    exact ⟨rfl, (Below.refl _ _).alloc (Nat.le_refl _) _⟩
theorem zstands_any (w : World) (h : VH) : Calls Try.prog 27 #[.agg #[.string h.client, .int .i64 h.cost, .int .i64 h.st, .bool h.yields, .bool h.gone]] w fun e w' => e = .returned (.int .i64 h.stands) ∧ Below w.heap.size w w' := by
  obtain ⟨c, k, s, y, g⟩ := h
  cases y
  all_goals
    go_enter Try.func27, Try.ntmps27
    go_wp2
    go_ret
    exact ⟨rfl, (Below.refl _ _).alloc (Nat.le_refl _) _⟩

/-! ### zzHeldOf -/
def sumF (f : Nat → Int) : Nat → Int
  | 0 => 0
  | k + 1 => sumF f k + f k
theorem sumF_bd (f : Nat → Int) (B : Int) (h : ∀ j, -B ≤ f j ∧ f j ≤ B) (k : Nat) : -((k : Int) * B) ≤ sumF f k ∧ sumF f k ≤ (k : Int) * B := by
  induction k with
  | zero => simp [sumF]
  | succ k ih =>
    have := h k
    have e : ((k + 1 : Nat) : Int) * B = (k : Int) * B + B := by rw [Int.natCast_succ, Int.add_mul, Int.one_mul]
    rw [e]
    simp only [sumF]
    omega
theorem sumF_bd' {f : Nat → Int} {B : Int} (k : Nat) (h : ∀ j, j < k → -B ≤ f j ∧ f j ≤ B) : -((k : Int) * B) ≤ sumF f k ∧ sumF f k ≤ (k : Int) * B := by
  induction k with
  | zero => simp [sumF]
  | succ k ih =>
    have := ih (fun j hj => h j (by omega))
    have := h k (by omega)
    have e : ((k + 1 : Nat) : Int) * B = (k : Int) * B + B := by rw [Int.natCast_succ, Int.add_mul, Int.one_mul]
    rw [e]
    simp only [sumF]
    omega

def heldF (H : Nat → VH) (s : ByteArray) (j : Nat) : Int := if (H j).client = s then (H j).eff else 0

set_option maxHeartbeats 1000000 in
theorem held_any (w : World) (b o n cap : Nat) (H : Nat → VH) (s : ByteArray) (hA : Args w b o n H) (hc : ∀ j, j < n → -1099511627776 ≤ (H j).eff ∧ (H j).eff ≤ 1099511627776) (hn : n ≤ 4096) :
    Calls Try.prog 24 #[.slice (some ⟨b, o, none⟩) n cap, .string s] w fun e w' => e = .returned (.int .i64 (sumF (heldF H s) n)) ∧ Below w.heap.size w w' := by
  have A := hide hA
  have hb := hide (fun k (hk : k ≤ n) => sumF_bd' (f := heldF H s) (B := 1099511627776) k (fun j hj => by have := hc j (by omega); unfold heldF; split <;> omega))
  have hc' := hide hc
  clear hA hc
  generalize hR : sumF (heldF H s) n = R
  have hR' := hide hR
  clear hR
  go_enter Try.func24, Try.ntmps24
  go_wp2
  go_loopg [5, 6] (n + 1) (fun g t k wr => Below w.heap.size w wr ∧ ∃ j : Nat, j ≤ n ∧ k = .int .i64 j ∧ g + j = n + 1 ∧ t = .int .i64 (sumF (heldF H s) j))
  case atStart => exact ⟨Below.refl _ _, 0, by omega, rfl, by omega, rfl⟩
  case round =>
    obtain ⟨hbw, j, hj, rfl, hg, rfl⟩ := hrel
    by_cases hlt : j < n
    · have Ar := (unhide A).below hbw
      obtain ⟨j0, j1, j2, j3, j4⟩ := Ar.at' j hlt
      clear Ar
      obtain ⟨s0, s1⟩ := unhide hb j hj
      have hstep := hide (show sumF (heldF H s) (j + 1) = sumF (heldF H s) j + heldF H s j from rfl)
      generalize sumF (heldF H s) j = S at *
      have q0 : -9007199254740992 ≤ S := by omega
      have q1 : S ≤ 9007199254740992 := by omega
      clear s0 s1
      by_cases e : (H j).client = s
      · have e' := hide e
        have e2 := beq_yes e
        clear e
        generalize hE : heldF H s j = E at *
        have hE' := hide hE
        clear hE
        go_wp2_with fail
        refine (eff_any wr (H j)).mono ?_
        rintro e w' ⟨rfl, hb2⟩
        have hef := hide hb2
        generalize hv : (H j).eff = v
        have hv' := hide (show v = E by rw [← unhide hE', ← hv]; unfold heldF; rw [if_pos (unhide e')])
        have q2 : -1099511627776 ≤ v ∧ v ≤ 1099511627776 := by rw [← hv]; exact unhide hc' j hlt
        obtain ⟨q2, q3⟩ := q2
        clear hv hb2
        go_wp2_with fail
        go_roundg (gk - 1)
        case measure => omega
        case rel => exact ⟨hbw.trans ((unhide hef).mono hbw.size), j + 1, by omega, by go_num, by omega, by rw [unhide hstep, unhide hv']⟩
      · have e' := hide e
        have e2 := beq_no e
        clear e
        go_wp2_with fail
        go_roundg (gk - 1)
        case measure => omega
        case rel => exact ⟨hbw, j + 1, by omega, by go_num, by omega, by rw [unhide hstep]; unfold heldF; rw [if_neg (unhide e')]; simp⟩
    · have hjn : j = n := by omega
      have hjn' := hide hjn
      clear hjn
      go_wp2
      go_ret
      exact ⟨by rw [← unhide hR', unhide hjn']; rfl, hbw⟩

/-! ### zzOpenOfOthers -/
def openF (H : Nat → VH) (s : ByteArray) (t : Nat) (j : Nat) : Int := if (H j).client = s ∧ ¬ j = t ∧ (H j).stands = 0 then (H j).eff else 0

set_option maxHeartbeats 1000000 in
theorem open_any (w : World) (b o n cap t : Nat) (H : Nat → VH) (s : ByteArray) (hA : Args w b o n H) (hc : ∀ j, j < n → -1099511627776 ≤ (H j).eff ∧ (H j).eff ≤ 1099511627776) (hn : n ≤ 4096) :
    Calls Try.prog 21 #[.slice (some ⟨b, o, none⟩) n cap, .string s, .int .i64 t] w fun e w' => e = .returned (.int .i64 (sumF (openF H s t) n)) ∧ Below w.heap.size w w' := by
  have A := hide hA
  have hb := hide (fun k (hk : k ≤ n) => sumF_bd' (f := openF H s t) (B := 1099511627776) k (fun j hj => by have := hc j (by omega); unfold openF; split <;> omega))
  have hc' := hide hc
  clear hA hc
  generalize hR : sumF (openF H s t) n = R
  have hR' := hide hR
  clear hR
  go_enter Try.func21, Try.ntmps21
  go_wp2
  go_loopg [7, 8] (n + 1) (fun g tt k wr => Below w.heap.size w wr ∧ ∃ j : Nat, j ≤ n ∧ k = .int .i64 j ∧ g + j = n + 1 ∧ tt = .int .i64 (sumF (openF H s t) j))
  case atStart => exact ⟨Below.refl _ _, 0, by omega, rfl, by omega, rfl⟩
  case round =>
    obtain ⟨hbw, j, hj, rfl, hg, rfl⟩ := hrel
    by_cases hlt : j < n
    · have Ar := (unhide A).below hbw
      obtain ⟨j0, j1, j2, j3, j4⟩ := Ar.at' j hlt
      clear Ar
      obtain ⟨s0, s1⟩ := unhide hb j hj
      have hstep := hide (show sumF (openF H s t) (j + 1) = sumF (openF H s t) j + openF H s t j from rfl)
      generalize sumF (openF H s t) j = S at *
      have q0 : -9007199254740992 ≤ S := by omega
      have q1 : S ≤ 9007199254740992 := by omega
      clear s0 s1
      by_cases e : (H j).client = s
      · have e' := hide e
        have e2 := beq_yes e
        clear e
        by_cases ht : j = t
        · have t1 : j ≤ t := by omega
          have t2 : t ≤ j := by omega
          clear ht
          go_wp2_with fail
          go_roundg (gk - 1)
          case measure => omega
          case rel => exact ⟨hbw, j + 1, by omega, by go_num, by omega, by rw [unhide hstep]; unfold openF; rw [if_neg (fun h => h.2.1 (by omega))]; simp⟩
        · have ht2 : ((j : Int) != (t : Int)) = true := by rw [bne_iff_ne]; omega
          go_wp2_with fail
          refine (zstands_any wr (H j)).mono ?_
          rintro e w1 ⟨rfl, hb2⟩
          have hb3 := hide hb2
          have hz : Below w.heap.size w w1 := hbw.trans (hb2.mono hbw.size)
          have Ar := (unhide A).below hz
          obtain ⟨j0, j1, j2, j3, j4⟩ := Ar.at' j hlt
          clear Ar hb2
          generalize hst : (H j).stands = st
          have hst' := hide hst
          clear hst
          by_cases z : st = 0
          · subst z
            generalize hE : openF H s t j = E at *
            have hE' := hide hE
            clear hE
            go_wp2_with fail
            refine (eff_any w1 (H j)).mono ?_
            rintro e w' ⟨rfl, hb4⟩
            have hef := hide hb4
            generalize hv : (H j).eff = v
            have hv' := hide (show v = E by rw [← unhide hE', ← hv]; unfold openF; rw [if_pos ⟨unhide e', ht, unhide hst'⟩])
            have q2 : -1099511627776 ≤ v ∧ v ≤ 1099511627776 := by rw [← hv]; exact unhide hc' j hlt
            obtain ⟨q2, q3⟩ := q2
            clear hv hb4
            go_wp2_with fail
            go_roundg (gk - 1)
            case measure => omega
            case rel => exact ⟨hz.trans ((unhide hef).mono hz.size), j + 1, by omega, by go_num, by omega, by rw [unhide hstep, unhide hv']⟩
          · have z2 : (st == 0) = false := by simpa using z
            go_wp2_with fail
            go_roundg (gk - 1)
            case measure => omega
            case rel => exact ⟨hz, j + 1, by omega, by go_num, by omega, by rw [unhide hstep]; unfold openF; rw [if_neg (fun h => z (by rw [← unhide hst']; exact h.2.2))]; simp⟩
      · have e' := hide e
        have e2 := beq_no e
        clear e
        go_wp2_with fail
        go_roundg (gk - 1)
        case measure => omega
        case rel => exact ⟨hbw, j + 1, by omega, by go_num, by omega, by rw [unhide hstep]; unfold openF; rw [if_neg (fun h => unhide e' h.1)]; simp⟩
    · have hjn : j = n := by omega
      have hjn' := hide hjn
      clear hjn
      go_wp2
      go_ret
      exact ⟨by rw [← unhide hR', unhide hjn']; rfl, hbw⟩

/-! ### zzOldestOf -/
def okJ (H : Nat → VH) (s : ByteArray) (t : Nat) (st : Int) (j : Nat) : Prop := (H j).client = s ∧ ¬ j = t ∧ (H j).gone = false ∧ 0 < (H j).cost ∧ (H j).stands = st
/-- What zzOldestOf answers. -/
def OldJ (H : Nat → VH) (s : ByteArray) (t : Nat) (st : Int) (n : Nat) (k : Int) : Prop :=
  (k = -1 ∧ ∀ j, j < n → ¬ okJ H s t st j) ∨ ∃ j : Nat, j < n ∧ k = j ∧ okJ H s t st j ∧ ∀ q, q < j → ¬ okJ H s t st q

set_option maxHeartbeats 1000000 in
theorem oldj_any (w : World) (b o n cap t : Nat) (st : Int) (H : Nat → VH) (s : ByteArray) (hA : Args w b o n H) :
    Calls Try.prog 23 #[.slice (some ⟨b, o, none⟩) n cap, .string s, .int .i64 t, .int .i64 st] w fun e w' => (∃ k : Int, OldJ H s t st n k ∧ e = .returned (.int .i64 k)) ∧ Below w.heap.size w w' := by
  have hn := hA.small
  have A := hide hA
  clear hA
  go_enter Try.func23, Try.ntmps23
  go_wp2
  go_loopg [9] (n + 1) (fun g k wr => Below w.heap.size w wr ∧ ∃ j : Nat, j ≤ n ∧ k = .int .i64 j ∧ g + j = n + 1 ∧ ∀ q, q < j → ¬ okJ H s t st q)
  case atStart => exact ⟨Below.refl _ _, 0, by omega, rfl, by omega, fun q h => by omega⟩
  case round =>
    obtain ⟨hbw, j, hj, rfl, hg, hq⟩ := hrel
    have hq' := hide hq
    clear hq
    by_cases hlt : j < n
    · have next := hide (fun (h : ¬ okJ H s t st j) => (show ∀ q, q < j + 1 → ¬ okJ H s t st q from fun q h2 => by rcases Nat.lt_succ_iff_lt_or_eq.1 h2 with h2 | rfl; exact unhide hq' q h2; exact h))
      have Ar := (unhide A).below hbw
      obtain ⟨j0, j1, j2, j3, j4⟩ := Ar.at' j hlt
      clear Ar
      by_cases e : (H j).client = s
      · have e' := hide e
        have e2 := beq_yes e
        clear e
        by_cases ht : j = t
        · have t1 : j ≤ t := by omega
          have t2 : t ≤ j := by omega
          clear ht
          go_wp2_with fail
          go_roundg (gk - 1)
          case measure => omega
          case rel => exact ⟨hbw, j + 1, by omega, by go_num, by omega, unhide next (fun h => h.2.1 (by omega))⟩
        · have ht2 : ((j : Int) != (t : Int)) = true := by rw [bne_iff_ne]; omega
          generalize hgn : (H j).gone = gg at j4
          cases gg with
          | true =>
            have hgn' := hide hgn
            clear hgn
            go_wp2_with fail
            go_roundg (gk - 1)
            case measure => omega
            case rel => exact ⟨hbw, j + 1, by omega, by go_num, by omega, unhide next (fun h => by have := h.2.2.1; rw [unhide hgn'] at this; cases this)⟩
          | false =>
            have hgn' := hide hgn
            clear hgn
            generalize hcc : (H j).cost = cc at j1
            have hcc' := hide hcc
            clear hcc
            by_cases hz : 0 < cc
            · go_wp2_with fail
              have hval : Value.agg #[Value.string (H j).client, Value.int IntKind.i64 cc, Value.int IntKind.i64 (H j).st, Value.bool (H j).yields, Value.bool false] = Value.agg #[Value.string (H j).client, Value.int IntKind.i64 (H j).cost, Value.int IntKind.i64 (H j).st, Value.bool (H j).yields, Value.bool (H j).gone] := by rw [unhide hcc', unhide hgn']
              rw [hval]
              clear hval
              refine (zstands_any wr (H j)).mono ?_
              rintro e w1 ⟨rfl, hb2⟩
              have hz2 : Below w.heap.size w w1 := hbw.trans (hb2.mono hbw.size)
              clear hb2
              generalize hst : (H j).stands = s2
              have hst' := hide hst
              clear hst
              by_cases z : s2 = st
              · have z' := hide z
                have z2 : (s2 == st) = true := by simp [z]
                clear z
                go_wp2_with fail
                go_ret
                exact ⟨⟨_, Or.inr ⟨j, hlt, rfl, ⟨unhide e', ht, unhide hgn', by rw [unhide hcc']; exact hz, by rw [unhide hst', unhide z']⟩, unhide hq'⟩, rfl⟩, hz2⟩
              · have z2 : (s2 == st) = false := by simpa using z
                go_wp2_with fail
                go_roundg (gk - 1)
                case measure => omega
                case rel => exact ⟨hz2, j + 1, by omega, by go_num, by omega, unhide next (fun h => z (by rw [← unhide hst']; exact h.2.2.2.2))⟩
            · go_wp2_with fail
              go_roundg (gk - 1)
              case measure => omega
              case rel => exact ⟨hbw, j + 1, by omega, by go_num, by omega, unhide next (fun h => by have := h.2.2.2.1; rw [unhide hcc'] at this; omega)⟩
      · have e' := hide e
        have e2 := beq_no e
        clear e
        go_wp2_with fail
        go_roundg (gk - 1)
        case measure => omega
        case rel => exact ⟨hbw, j + 1, by omega, by go_num, by omega, unhide next (fun h => unhide e' h.1)⟩
    · go_wp2
      go_ret
      exact ⟨⟨_, Or.inl ⟨rfl, fun q h => unhide hq' q (by omega)⟩, rfl⟩, hbw⟩
end Go.Proofs.Qxb6618660a
