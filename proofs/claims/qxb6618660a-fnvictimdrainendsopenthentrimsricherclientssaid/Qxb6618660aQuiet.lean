import Derived.Test.Qxb6618660aKeep
namespace Go.Proofs.Qxb6618660a
open Go.RowKit
set_option linter.unusedVariables false
set_option linter.unusedSimpArgs false

set_option maxHeartbeats 1000000 in
theorem first_quiet (w : World) (b o n cap i : Nat) (H : Nat → VH) (hA : Args w b o n H) (hi : i < n) :
    Calls Try.prog 20 #[.slice (some ⟨b, o, none⟩) n cap, .int .i64 i] w fun e w' => e = .returned (.bool (firstB H i)) ∧ ∃ q, w' = w.drewN q := by
  have hn := hA.small
  have A := hide hA
  clear hA
  generalize hR : firstB H i = R
  have hR' := hide hR
  clear hR
  go_enter Try.func20, Try.ntmps20
  go_wp2
  go_loopg [5] (i + 1) (fun g k wr => (∃ q, wr = w.drewN q) ∧ ∃ j : Nat, j ≤ i ∧ k = .int .i64 j ∧ g + j = i + 1 ∧ ∀ q, q < j → ¬ (H q).client = (H i).client)
  case atStart => exact ⟨⟨0, rfl⟩, 0, by omega, rfl, by omega, fun q h => by omega⟩
  case round =>
    obtain ⟨⟨q0, rfl⟩, j, hj, rfl, hg, hq⟩ := hrel
    have hb : Below w.heap.size w (w.drewN q0) := below_drewN' (Below.refl _ _) q0
    have hq' := hide hq
    clear hq
    by_cases hlt : j < i
    · have Ar := unhide A
      have j0 := (Ar.at' j (by omega)).a0
      have i0 := (Ar.at' i hi).a0
      clear Ar
      by_cases e : (H j).client = (H i).client
      · have e' := hide e
        have e2 := beq_yes e
        clear e
        go_wp2
        go_quiet (fail)
        go_wp2
        go_ret
        exact ⟨by rw [← unhide hR', firstB_false hlt (unhide e')]; rfl, q0 + nq, by simp [World.drewN_drewN]⟩
      · have e' := hide e
        have e2 := beq_no e
        clear e
        go_wp2
        go_quiet (fail)
        go_wp2
        go_roundg (gk - 1)
        case measure => omega
        case rel => exact ⟨⟨_, rfl⟩, j + 1, by omega, by go_num, by omega, fun q h => by rcases Nat.lt_succ_iff_lt_or_eq.1 h with h | rfl; exact unhide hq' q h; exact unhide e'⟩
    · go_wp2
      go_ret
      exact ⟨by rw [← unhide hR', firstB_true (fun q h => unhide hq' q (by omega))]; rfl, _, rfl⟩


end Go.Proofs.Qxb6618660a
