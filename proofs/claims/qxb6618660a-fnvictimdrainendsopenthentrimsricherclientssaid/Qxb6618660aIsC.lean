import Derived.Test.Qxb6618660aSpecA
namespace Go.Proofs.Qxb6618660a
open Go.RowKit
set_option linter.unusedVariables false
set_option linter.unusedSimpArgs false

/-- zzIs over the state: is the answer r the holder k (nil where k is below nought)? -/
def isAns (r : Option Nat) (k : Int) : Bool := if k < 0 then r.isNone else decide (r = some k.toNat)

theorem isAns_self (j : Nat) : isAns (some j) (j : Int) = true := by unfold isAns; rw [if_neg (by omega)]; simp
theorem Built.is {w : World} {B0 bb mb pb N n : Nat} {H : Nat → VH} {hb : Nat → Nat} {cb : ByteArray → Nat} {ct : Nat → Int} {D : DataW Unit} (B : Built w B0 bb mb pb N n n H hb cb ct D)
    {r : Option Nat} (hr : ∀ j, r = some j → j < n) (k : Int) (hk : k < n) :
    Calls Try.prog 22 #[optPtr (r.map hb), .slice (some ⟨pb, 0, none⟩) n n, .int .i64 k] w fun e w' => e = .returned (.bool (isAns r k)) ∧ Below w.heap.size w w' := by
  by_cases h : k < 0
  · refine (zIs_neg w (r.map hb) pb n k h).mono ?_
    rintro e w' ⟨rfl, rfl⟩
    exact ⟨by unfold isAns; rw [if_pos h]; cases r <;> rfl, Below.refl _ _⟩
  · obtain ⟨k, rfl⟩ := Int.eq_ofNat_of_zero_le (by omega : 0 ≤ k)
    have hkn : k < n := by omega
    refine (zIs_at w (r.map hb) pb n k (hb k) hkn B.isml (B.ptr k hkn) (fun x hx => ?_) (B.hp k hkn)).mono ?_
    · cases r with
      | none => cases hx
      | some j => cases hx; exact B.hp j (hr j rfl)
    · rintro e w' ⟨rfl, q, rfl⟩
      refine ⟨?_, below_drewN' (Below.refl _ _) q⟩
      unfold isAns
      rw [if_neg h]
      congr 2
      rw [decide_eq_decide]
      cases r with
      | none => simp
      | some j =>
        simp
        exact ⟨fun e => B.hinj j k (hr j rfl) hkn e, fun e => by rw [e]⟩
theorem pick_no1 {H : Nat → VH} {t n j : Nat} {r : Option Nat} {kk : Int} (P : PickB H t n j r) (h : OldJ H (H j).client t 1 n kk) (hk : 0 ≤ kk) (hi : isAns r kk = false) : False := by
  obtain ⟨e, _⟩ := (P kk h).1 hk
  obtain ⟨q, rfl⟩ := Int.eq_ofNat_of_zero_le hk
  rw [e, Int.toNat_natCast, isAns_self] at hi
  cases hi
theorem pick_no2 {H : Nat → VH} {t n j : Nat} {r : Option Nat} {kk k2 : Int} (P : PickB H t n j r) (h : OldJ H (H j).client t 1 n kk) (hk : kk < 0) (h2 : OldJ H (H j).client t 2 n k2) (hi : isAns r k2 = false) : False := by
  have Q := (P kk h).2 hk k2 h2
  by_cases z : 0 ≤ k2
  · obtain ⟨e, _⟩ := Q.1 z
    obtain ⟨q, rfl⟩ := Int.eq_ofNat_of_zero_le z
    rw [e, Int.toNat_natCast, isAns_self] at hi
    cases hi
  · rw [Q.2 (by omega)] at hi
    unfold isAns at hi
    rw [if_pos (by omega)] at hi
    cases hi
theorem HS_bd {H : Nat → VH} {n : Nat} (hc : ∀ j, j < n → -1099511627776 ≤ (H j).eff ∧ (H j).eff ≤ 1099511627776) (hn : n ≤ 4096) (s : ByteArray) : -4503599627370496 ≤ HS H n s ∧ HS H n s ≤ 4503599627370496 := by
  have := sumF_bd' (f := heldF H s) (B := 1099511627776) n (fun j hj => by have := hc j hj; unfold heldF; split <;> omega)
  unfold HS
  omega
end Go.Proofs.Qxb6618660a
