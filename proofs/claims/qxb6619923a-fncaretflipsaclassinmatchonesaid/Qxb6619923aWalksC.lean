import Derived.Test.Qxb6619923aWalksB
namespace Go.Proofs.Qxb6619923a
open Go.RowKit

/-- matchOne at a '['. -/
theorem one_core (s : ByteArray) (p q : Nat) (c : Int) (neg : Bool) (E : Int) (R : Bool) (l0 : List UInt8) (F : Nat) (w : World) (hs : s.size ≤ 200000) (hp : p < s.size) (hb : (s[p].toNat : Int) = 91)
    (hn : (¬ p + 1 < s.size ∧ q = p + 1 ∧ neg = false) ∨ (∃ h : p + 1 < s.size, (((s[p+1].toNat : Int) == 94) = false) ∧ q = p + 1 ∧ neg = false) ∨ (∃ h : p + 1 < s.size, (s[p+1].toNat : Int) = 94 ∧ q = p + 1 + 1 ∧ neg = true))
    (hl0 : Hid (s.data.toList.drop q = l0)) (hF : Hid (l0.length = F)) (hE : Hid (E = (q : Int) + Pl.closeN l0)) (hR : Hid (R = (Pl.inL c F l0 != neg))) :
    Calls Try.prog 16 #[.string s, .int .i64 p, .int .u8 c] w fun e w' => e = .returned (.tuple #[.int .i64 E, .bool R]) ∧ w' = w := by
  have key : ∀ w, Calls Try.prog 14 #[.string s, .int .i64 ((p : Int) + 1), .int .u8 c] w fun e w' => e = .returned (.tuple #[.int .i64 E, .bool R]) ∧ w' = w := fun w => by
    have h := class_core s (p + 1) q c neg E R l0 F w hs (by omega) hn hl0 hF hE hR
    rw [show (((p + 1 : Nat) : Int)) = (p : Int) + 1 by omega] at h
    exact h
  clear hn
  go_enter Try.func16, Try.ntmps16
  go_wp2_with (go_at_call 14; refine (key _).mono ?_; rintro e w' ⟨rfl, rfl⟩)
  go_ret2
  exact ⟨rfl, rfl⟩

theorem zone_core (s : ByteArray) (p q : Nat) (c : Int) (neg : Bool) (E : Int) (R : Bool) (l0 : List UInt8) (F : Nat) (w : World) (hs : s.size ≤ 200000) (hp : p < s.size) (hb : (s[p].toNat : Int) = 91)
    (hn : (¬ p + 1 < s.size ∧ q = p + 1 ∧ neg = false) ∨ (∃ h : p + 1 < s.size, (((s[p+1].toNat : Int) == 94) = false) ∧ q = p + 1 ∧ neg = false) ∨ (∃ h : p + 1 < s.size, (s[p+1].toNat : Int) = 94 ∧ q = p + 1 + 1 ∧ neg = true))
    (hl0 : Hid (s.data.toList.drop q = l0)) (hF : Hid (l0.length = F)) (hE : Hid (E = (q : Int) + Pl.closeN l0)) (hR : Hid (R = (Pl.inL c F l0 != neg))) :
    Calls Try.prog 13 #[.string s, .int .i64 p, .int .u8 c] w fun e w' => e = .returned (.tuple #[.int .i64 E, .bool R]) ∧ w' = w := by
  have key := fun w => one_core s p q c neg E R l0 F w hs hp hb hn hl0 hF hE hR
  clear hn hb
  go_enter Try.func13, Try.ntmps13
  go_wp2_with (go_at_call 16; refine (key _).mono ?_; rintro e w' ⟨rfl, rfl⟩)
  go_ret2
  exact ⟨rfl, rfl⟩

/-- The bound laid by program. -/
theorem bytes_core (s : ByteArray) (p c : Int) (w : World) (hs : s.size ≤ maxLen) :
    Calls Try.prog 12 #[.string s, .int .i64 p, .int .u8 c] w fun e w' => e = .returned (.bool (decide ((s.size : Int) ≤ 1048576))) ∧ w' = w := by
  unfold maxLen at hs
  by_cases h : (s.size : Int) ≤ 1048576
  · have h' := hide h
    go_enter Try.func12, Try.ntmps12
    go_wp2
    go_ret
    exact ⟨by simp [unhide h'], rfl⟩
  · go_enter Try.func12, Try.ntmps12
    go_wp2
    go_ret
    exact ⟨by simp [h], rfl⟩

/-! ### the other pattern -/
theorem cut_data (s : ByteArray) (a b : Nat) : (s.extract a b).data.toList = (s.data.toList.drop a).take (b - a) := by
  simp [ByteArray.data_extract, Array.toList_extract]
end Go.Proofs.Qxb6619923a
