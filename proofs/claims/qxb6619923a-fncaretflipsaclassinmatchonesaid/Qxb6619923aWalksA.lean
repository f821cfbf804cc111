import Derived.Test.Qxb6619923aRows
import Derived.Test.Qxb6619923aPlain
import Derived.WalkKit
import Derived.WalkSpells
import Derived.WalkLawsBesides
import Derived.Below
import Derived.Outline
namespace Go.Proofs.Qxb6619923a
open Go.RowKit
theorem hide {p : Prop} (h : p) : Hid p := h
theorem unhide {p : Prop} (h : Hid p) : p := h

theorem drop_cons (s : ByteArray) (k : Nat) (h : k < s.size) : s.data.toList.drop k = s[k] :: s.data.toList.drop (k + 1) := by
  rw [List.drop_eq_getElem_cons (by simpa using h)]; rfl
theorem drop_nil (s : ByteArray) (k : Nat) (h : s.size ≤ k) : s.data.toList.drop k = [] := by
  apply List.drop_eq_nil_of_le; simpa using h
theorem u8_eq (c d : UInt8) (n : Int) (h : (d.toNat : Int) = n) : ((c.toNat : Int) = n) ↔ c = d := by
  rw [← h]
  constructor
  · intro e; exact UInt8.toNat_inj.1 (by omega)
  · rintro rfl; rfl

theorem esc_one (s : ByteArray) (p : Nat) (h1 : ¬ p + 1 < s.size) (hp : p < s.size) : Pl.escB (s.data.toList.drop p) = s[p] ∧ Pl.escN (s.data.toList.drop p) = 1 := by
  rw [drop_cons s p hp, drop_nil s (p + 1) (by omega)]; exact ⟨rfl, rfl⟩
theorem esc_plain (s : ByteArray) (p : Nat) (hp : p < s.size) (h2 : ¬ (s[p].toNat : Int) = 92) : Pl.escB (s.data.toList.drop p) = s[p] ∧ Pl.escN (s.data.toList.drop p) = 1 := by
  by_cases h1 : p + 1 < s.size
  · rw [drop_cons s p hp, drop_cons s (p + 1) h1]
    rw [u8_eq _ 92 92 rfl] at h2
    simp [Pl.escB, Pl.escN, h2]
  · exact esc_one s p h1 hp
theorem esc_slash (s : ByteArray) (p : Nat) (h1 : p + 1 < s.size) (h2 : (s[p].toNat : Int) = 92) : Pl.escB (s.data.toList.drop p) = s[p + 1] ∧ Pl.escN (s.data.toList.drop p) = 2 := by
  rw [drop_cons s p (by omega), drop_cons s (p + 1) h1]
  rw [u8_eq _ 92 92 rfl] at h2
  simp [Pl.escB, Pl.escN, h2]

set_option maxHeartbeats 400000 in
theorem esc_any (s : ByteArray) (p : Nat) (a : Int) (w : World) (hs : s.size ≤ maxLen) (ha : a = p) (hp : p < s.size) :
    Calls Try.prog 15 #[.string s, .int .i64 a] w fun e w' => e = .returned (.tuple #[.int .u8 ((Pl.escB (s.data.toList.drop p)).toNat : Int), .int .i64 (p + Pl.escN (s.data.toList.drop p))]) ∧ w' = w := by
  unfold maxLen at hs
  subst ha
  by_cases h1 : p + 1 < s.size
  · by_cases h2 : (s[p].toNat : Int) = 92
    · have hf := hide (esc_slash s p h1 h2)
      go_enter Try.func15, Try.ntmps15
      go_wp2
      go_ret2
      exact ⟨by rw [(unhide hf).1, (unhide hf).2]; rfl, rfl⟩
    · have hf := hide (esc_plain s p hp h2)
      go_enter Try.func15, Try.ntmps15
      go_wp2
      go_ret2
      exact ⟨by rw [(unhide hf).1, (unhide hf).2]; rfl, rfl⟩
  · have hf := hide (esc_one s p h1 hp)
    go_enter Try.func15, Try.ntmps15
    go_wp2
    all_goals
      go_ret2
      exact ⟨by rw [(unhide hf).1, (unhide hf).2]; first | (simp [*]; done) | rfl, rfl⟩

theorem ret_ii {k l : IntKind} {a b c d : Int} (h : a = c) (h' : b = d) : Ending.returned (.tuple #[.int k a, .int l b]) = .returned (.tuple #[.int k c, .int l d]) := by rw [h, h']

/-! ### closeOf -/
theorem close_nil (s : ByteArray) (k : Nat) (h : s.size ≤ k) : Pl.closeN (s.data.toList.drop k) = 0 := by rw [drop_nil s k h]; rfl
theorem close_slash (s : ByteArray) (k : Nat) (h : k + 1 < s.size) (h2 : (s[k].toNat : Int) = 92) : Pl.closeN (s.data.toList.drop k) = 2 + Pl.closeN (s.data.toList.drop (k + 2)) := by
  rw [drop_cons s k (by omega), drop_cons s (k + 1) h]
  rw [u8_eq _ 92 92 rfl] at h2
  simp [Pl.closeN, h2]
theorem close_free (s : ByteArray) (k : Nat) (h : k < s.size) (h2 : (s[k].toNat : Int) = 93) : Pl.closeN (s.data.toList.drop k) = 1 := by
  rw [u8_eq _ 93 93 rfl] at h2
  rw [drop_cons s k h]
  by_cases h1 : k + 1 < s.size
  · rw [drop_cons s (k + 1) h1]
    simp [Pl.closeN, h2]
  · rw [drop_nil s (k + 1) (by omega)]; rfl
theorem close_other (s : ByteArray) (k : Nat) (h : k < s.size) (h2 : ¬ (s[k].toNat : Int) = 93) (h3 : (s[k].toNat : Int) = 92 → ¬ k + 1 < s.size) : Pl.closeN (s.data.toList.drop k) = 1 + Pl.closeN (s.data.toList.drop (k + 1)) := by
  rw [u8_eq _ 93 93 rfl] at h2
  rw [u8_eq _ 92 92 rfl] at h3
  by_cases h1 : k + 1 < s.size
  · have h4 : ¬ s[k] = 92 := fun e => h3 e h1
    rw [drop_cons s k h, drop_cons s (k + 1) h1]
    simp [Pl.closeN, h2, h4]
  · rw [drop_cons s k h, drop_nil s (k + 1) (by omega)]; rfl

set_option maxHeartbeats 400000 in
theorem closeOf_any (s : ByteArray) (q : Nat) (a : Int) (w : World) (hs : s.size ≤ maxLen) (ha : a = q) (hq : q ≤ s.size) :
    Calls Try.prog 8 #[.string s, .int .i64 a] w fun e w' => (∃ i : Int, e = .returned (.tuple #[.int .i64 i, .int .i64 ((q + Pl.closeN (s.data.toList.drop q) : Nat) : Int)])) ∧ w' = w := by
  unfold maxLen at hs
  subst ha
  go_enter Try.func8, Try.ntmps8
  go_wp2
  go_loop [6] (fun i => ∃ k : Nat, k ≤ s.size ∧ i = .int .i64 k ∧ q + Pl.closeN (s.data.toList.drop q) = k + Pl.closeN (s.data.toList.drop k)) (fun i => s.size - (intOf i).toNat)
  case atStart => exact ⟨q, hq, rfl, rfl⟩
  case round =>
    obtain ⟨k, hk, rfl, hcl⟩ := hrel
    have hcl' := hide hcl
    clear hcl
    by_cases hlt : k < s.size
    · by_cases h1 : k + 1 < s.size
      · by_cases h2 : (s[k].toNat : Int) = 92
        · have hf := hide (close_slash s k h1 h2)
          go_wp2
          go_round
          case rel => exact ⟨k + 2, by omega, by go_num, by rw [unhide hcl', unhide hf]; omega⟩
          case measure => simp [intOf]; omega
        · by_cases h3 : (s[k].toNat : Int) = 93
          · have hf := hide (close_free s k hlt h3)
            go_wp2
            go_ret2
            exact ⟨⟨_, ret_ii rfl (by have e1 := unhide hcl'; have e2 := unhide hf; omega)⟩, rfl⟩
          · have hf := hide (close_other s k hlt h3 (fun e => absurd e h2))
            go_wp2
            go_round
            case rel => exact ⟨k + 1, by omega, by go_num, by rw [unhide hcl', unhide hf]; omega⟩
            case measure => simp [intOf]; omega
      · by_cases h3 : (s[k].toNat : Int) = 93
        · have hf := hide (close_free s k hlt h3)
          go_wp2
          all_goals
            go_ret2
            exact ⟨⟨_, ret_ii rfl (by have e1 := unhide hcl'; have e2 := unhide hf; omega)⟩, rfl⟩
        · have hf := hide (close_other s k hlt h3 (fun _ => h1))
          go_wp2
          all_goals
            go_round
            case rel => exact ⟨k + 1, by omega, by go_num, by rw [unhide hcl', unhide hf]; omega⟩
            case measure => simp [intOf]; omega
    · have hf := hide (close_nil s k (by omega))
      have hke : k = s.size := by omega
      have hke' := hide hke
      clear hke
      go_wp2
      go_ret2
      exact ⟨⟨_, ret_ii rfl (by have e1 := unhide hcl'; have e2 := unhide hf; have e3 := unhide hke'; omega)⟩, rfl⟩
end Go.Proofs.Qxb6619923a
