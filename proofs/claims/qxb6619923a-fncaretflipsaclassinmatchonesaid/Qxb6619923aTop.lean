import Derived.Test.Qxb6619923aWalksC
import Derived.BigQuiet
import Derived.RowKit3
namespace Go.Proofs.Qxb6619923a
open Go.RowKit

theorem bytes_yes (s : ByteArray) (p c : Int) (w : World) (hs : s.size ≤ 1048576) :
    Calls Try.prog 12 #[.string s, .int .i64 p, .int .u8 c] w fun e w' => e = .returned (.bool true) ∧ w' = w := by
  refine (bytes_core s p c w (by unfold maxLen; omega)).mono ?_
  rintro e w' ⟨rfl, rfl⟩
  exact ⟨by rw [decide_eq_true (by omega)], rfl⟩
theorem bytes_no (s : ByteArray) (p c : Int) (w : World) (hm : s.size ≤ maxLen) (hs : 1048576 < s.size) :
    Calls Try.prog 12 #[.string s, .int .i64 p, .int .u8 c] w fun e w' => e = .returned (.bool false) ∧ w' = w := by
  refine (bytes_core s p c w hm).mono ?_
  rintro e w' ⟨rfl, rfl⟩
  exact ⟨by rw [decide_eq_false (by omega)], rfl⟩

theorem get_of_list (s : ByteArray) (k : Nat) (h : k < s.size) (x : UInt8) (e : s.data.toList[k]? = some x) : s[k] = x := by
  have : s.data.toList[k]? = some s[k] := by rw [List.getElem?_eq_getElem (by simpa using h)]; rfl
  rw [this] at e; simpa using e
theorem list_of_get (s : ByteArray) (k : Nat) (h : k < s.size) : s.data.toList[k]? = some s[k] := by
  rw [List.getElem?_eq_getElem (by simpa using h)]; rfl

/-- The pattern with the '^' put in. -/
theorem put_facts (s : ByteArray) (p : Nat) (hp : p < s.size) (o : ByteArray) (ho : s.extract 0 (p + 1) ++ ⟨#[94]⟩ ++ s.extract (p + 1) s.size = o) :
    ∃ h : p + 1 < o.size, o.size = s.size + 1 ∧ o[p] = s[p] ∧ (o[p+1].toNat : Int) = 94 ∧ o.data.toList.drop (p + 1 + 1) = s.data.toList.drop (p + 1) := by
  have hl : o.data.toList = s.data.toList.take (p + 1) ++ 94 :: s.data.toList.drop (p + 1) := by
    rw [← ho]
    simp [ByteArray.data_append, ByteArray.data_extract, Array.toList_append, Array.toList_extract]
    rw [List.take_of_length_le (by simp)]
  have hsz : o.size = s.size + 1 := by
    have : o.data.toList.length = s.size + 1 := by
      rw [hl]; simp [List.length_take]; omega
    simpa using this
  have ht : (s.data.toList.take (p + 1)).length = p + 1 := by simp [List.length_take]; omega
  refine ⟨by omega, hsz, ?_, ?_, ?_⟩
  · apply get_of_list
    rw [hl, List.getElem?_append_left (by omega), List.getElem?_take_of_lt (by omega), list_of_get s p hp]
  · rw [get_of_list o (p + 1) (by omega) 94 (by rw [hl, List.getElem?_append_right (by omega), ht]; simp)]; rfl
  · rw [hl, List.drop_append, ht, List.drop_of_length_le (by omega)]; simp
/-- The pattern with the '^' taken out. -/
theorem out_facts (s : ByteArray) (p : Nat) (hp : p + 1 < s.size) (o : ByteArray) (ho : s.extract 0 (p + 1) ++ s.extract (p + 2) s.size = o) :
    ∃ h : p < o.size, o.size + 1 = s.size ∧ o[p] = s[p] ∧ o.data.toList.drop (p + 1) = s.data.toList.drop (p + 1 + 1) ∧ ∀ (h1 : p + 1 < o.size) (h2 : p + 2 < s.size), o[p+1] = s[p+2] := by
  have hl : o.data.toList = s.data.toList.take (p + 1) ++ s.data.toList.drop (p + 2) := by
    rw [← ho]
    simp [ByteArray.data_append, ByteArray.data_extract, Array.toList_append, Array.toList_extract]
    rw [List.take_of_length_le (by simp)]
  have hsz : o.size + 1 = s.size := by
    have : o.data.toList.length + 1 = s.size := by
      rw [hl]; simp [List.length_take]; omega
    simpa using this
  have ht : (s.data.toList.take (p + 1)).length = p + 1 := by simp [List.length_take]; omega
  refine ⟨by omega, hsz, ?_, ?_, ?_⟩
  · apply get_of_list
    rw [hl, List.getElem?_append_left (by omega), List.getElem?_take_of_lt (by omega), list_of_get s p (by omega)]
  · rw [hl, List.drop_append, ht, List.drop_of_length_le (by omega)]; simp
  · intro h1 h2
    apply get_of_list
    rw [hl, List.getElem?_append_right (by omega), ht, List.getElem?_drop, ← list_of_get s (p + 2) h2]
    congr 1; omega

theorem grown_drewN {W w : World} (h : Grown W w) (n : Nat) : Grown W (w.drewN n) := h

theorem close_key (s : ByteArray) (q : Nat) (a : Int) (z : Int) (hs : s.size ≤ 65536) (hq : q ≤ s.size) (ha : a = q) (hz : z = q + Pl.closeN (s.data.toList.drop q)) (w : World) :
    Calls Try.prog 8 #[.string s, .int .i64 a] w fun e w' => (∃ i : Int, e = .returned (.tuple #[.int .i64 i, .int .i64 z])) ∧ w' = w := by
  refine (closeOf_any s q a w (by unfold maxLen; omega) ha hq).mono ?_
  rintro e w' ⟨⟨i, rfl⟩, rfl⟩
  exact ⟨⟨i, by rw [hz, Int.natCast_add]⟩, rfl⟩

set_option maxHeartbeats 1000000 in
theorem top_plain (s : ByteArray) (p : Nat) (c : Int) (w : World) (hs : s.size ≤ 65536) (hp : p < s.size) (hb : (s[p].toNat : Int) = 91)
    (hn : (¬ p + 1 < s.size) ∨ (∃ h : p + 1 < s.size, (((s[p+1].toNat : Int) == 94) = false))) :
    Calls Try.prog 5 #[.string s, .int .i64 p, .int .u8 c] w fun e w' => e = .returned (.bool true) ∧ Grown w w' := by
  have hcl := Pl.close_le (s.data.toList.drop (p + 1))
  rw [drop_len] at hcl
  obtain ⟨z, hz⟩ : ∃ z : Int, z = ((p + 1 : Nat) : Int) + Pl.closeN (s.data.toList.drop (p + 1)) := ⟨_, rfl⟩
  obtain ⟨R, hR⟩ : ∃ R : Bool, R = Pl.inL c (s.data.toList.drop (p + 1)).length (s.data.toList.drop (p + 1)) := ⟨_, rfl⟩
  have hz1 : 0 ≤ z ∧ z ≤ 100000 := by omega
  obtain ⟨hz1, hz2⟩ := hz1
  have k0 := hide (close_key s (p + 1) ((p : Int) + 1) z hs (by omega) (by omega) hz)
  have k1 := hide (fun w => zone_core s p (p + 1) c false z R _ _ w (by omega) hp hb (hn.elim (fun h => Or.inl ⟨h, rfl, rfl⟩) (fun h => Or.inr (Or.inl ⟨h.1, h.2, rfl, rfl⟩))) (hide rfl) (hide rfl) (hide hz) (hide (by rw [← hR]; cases R <;> rfl)))
  have hz' := hide hz
  have hR' := hide hR
  clear hz hR hcl
  rcases hn with hn | ⟨hn, hn'⟩
  all_goals
    go_enter Try.func5, Try.ntmps5
    go_wp2_with (go_at_call 12; refine (bytes_yes _ _ _ _ (by omega)).mono ?_; rintro e w' ⟨rfl, rfl⟩)
    go_quiet (fail)
    generalize ho : s.extract 0 (p + 1) ++ ⟨#[94]⟩ ++ s.extract (p + 1) s.size = o
    obtain ⟨o1, o2, o3, o4, o5⟩ := put_facts s p hp o ho
    clear ho
    have hob : (o[p].toNat : Int) = 91 := by rw [o3]; exact hb
    have k2 := hide (fun w => zone_core o p (p + 1 + 1) c true (z + 1) (!R) _ _ w (by omega) (by omega) hob (Or.inr (Or.inr ⟨o1, o4, rfl, rfl⟩)) (hide o5) (hide rfl) (hide (by rw [unhide hz']; omega)) (hide (by rw [← unhide hR']; cases R <;> rfl)))
    clear o3 o4 o5 hob
    go_wp2_with fail
    refine (unhide k0 _).mono ?_
    rintro e w1 ⟨⟨i, rfl⟩, rfl⟩
    go_wp2_with fail
    refine (unhide k1 _).mono ?_
    rintro e w1 ⟨rfl, rfl⟩
    go_wp2_with fail
    refine (unhide k2 _).mono ?_
    rintro e w1 ⟨rfl, rfl⟩
    go_wp2
    go_ret
    exact ⟨rfl, grown_drewN (Grown.refl _) _⟩

set_option maxHeartbeats 1000000 in
theorem top_caret (s : ByteArray) (p : Nat) (c : Int) (w : World) (hs : s.size ≤ 65536) (hp : p + 1 < s.size) (hb : (s[p].toNat : Int) = 91) (hc : (s[p+1].toNat : Int) = 94)
    (hn : (¬ p + 2 < s.size) ∨ (∃ h : p + 2 < s.size, (((s[p+2].toNat : Int) == 94) = false))) :
    Calls Try.prog 5 #[.string s, .int .i64 p, .int .u8 c] w fun e w' => e = .returned (.bool true) ∧ Grown w w' := by
  have hcl := Pl.close_le (s.data.toList.drop (p + 1 + 1))
  rw [drop_len] at hcl
  obtain ⟨z, hz⟩ : ∃ z : Int, z = ((p + 1 + 1 : Nat) : Int) + Pl.closeN (s.data.toList.drop (p + 1 + 1)) := ⟨_, rfl⟩
  obtain ⟨R, hR⟩ : ∃ R : Bool, R = Pl.inL c (s.data.toList.drop (p + 1 + 1)).length (s.data.toList.drop (p + 1 + 1)) := ⟨_, rfl⟩
  have hz1 : 1 ≤ z ∧ z ≤ 100000 := by omega
  obtain ⟨hz1, hz2⟩ := hz1
  have k0 := hide (close_key s (p + 1 + 1) ((p : Int) + 2) z hs (by omega) (by omega) hz)
  have k1 := hide (fun w => zone_core s p (p + 1 + 1) c true z (!R) _ _ w (by omega) (by omega) hb (Or.inr (Or.inr ⟨hp, hc, rfl, rfl⟩)) (hide rfl) (hide rfl) (hide hz) (hide (by rw [← hR]; cases R <;> rfl)))
  have hz' := hide hz
  have hR' := hide hR
  clear hz hR hcl
  have hnn := hide hn
  rcases hn with hn | ⟨hn, hn'⟩
  all_goals
    go_enter Try.func5, Try.ntmps5
    go_wp2_with (go_at_call 12; refine (bytes_yes _ _ _ _ (by omega)).mono ?_; rintro e w' ⟨rfl, rfl⟩)
    go_quiet (fail)
    generalize ho : s.extract 0 (p + 1) ++ s.extract (p + 2) s.size = o
    obtain ⟨o1, o2, o3, o4, o5⟩ := out_facts s p hp o ho
    clear ho
    have hob : (o[p].toNat : Int) = 91 := by rw [o3]; exact hb
    have hcond : (¬ p + 1 < o.size ∧ p + 1 = p + 1 ∧ false = false) ∨ (∃ h : p + 1 < o.size, (((o[p+1].toNat : Int) == 94) = false) ∧ p + 1 = p + 1 ∧ false = false) := by
      by_cases h : p + 1 < o.size
      · rcases unhide hnn with h2 | ⟨h2, h3⟩
        · omega
        · exact Or.inr ⟨h, by rw [o5 h h2]; exact h3, rfl, rfl⟩
      · exact Or.inl ⟨h, rfl, rfl⟩
    have k2 := hide (fun w => zone_core o p (p + 1) c false (z - 1) R _ _ w (by omega) o1 hob (hcond.elim Or.inl (fun h => Or.inr (Or.inl h))) (hide o4) (hide rfl) (hide (by rw [unhide hz']; omega)) (hide (by rw [← unhide hR']; cases R <;> rfl)))
    clear o3 o4 o5 hob hcond
    go_wp2_with fail
    refine (unhide k0 _).mono ?_
    rintro e w1 ⟨⟨i, rfl⟩, rfl⟩
    go_wp2_with fail
    refine (unhide k1 _).mono ?_
    rintro e w1 ⟨rfl, rfl⟩
    go_wp2_with fail
    refine (unhide k2 _).mono ?_
    rintro e w1 ⟨rfl, rfl⟩
    go_wp2
    go_ret
    exact ⟨rfl, grown_drewN (Grown.refl _) _⟩
set_option maxHeartbeats 1000000 in
theorem top_any (s : ByteArray) (a c : Int) (w : World) (hm : s.size ≤ maxLen) :
    Calls Try.prog 5 #[.string s, .int .i64 a, .int .u8 c] w fun e w' => e = .returned (.bool true) ∧ Grown w w' := by
  by_cases h1 : s.size ≤ 1048576
  · by_cases h2 : s.size ≤ 65536
    · by_cases h3 : 0 ≤ a
      · by_cases h4 : a < s.size
        · obtain ⟨p, rfl⟩ := Int.eq_ofNat_of_zero_le h3
          have hp : p < s.size := by omega
          clear h1 h3 h4 hm
          by_cases h5 : (s[p].toNat : Int) = 91
          · by_cases h6 : p + 1 < s.size
            · by_cases h7 : (s[p+1].toNat : Int) = 94
              · by_cases h8 : p + 2 < s.size
                · by_cases h9 : (s[p+2].toNat : Int) = 94
                  · go_enter Try.func5, Try.ntmps5
                    go_wp2_with (go_at_call 12; refine (bytes_yes _ _ _ _ (by omega)).mono ?_; rintro e w' ⟨rfl, rfl⟩)
                    go_ret
                    exact ⟨rfl, Grown.refl _⟩
                  · exact top_caret s p c w h2 h6 h5 h7 (Or.inr ⟨h8, by simpa using h9⟩)
                · exact top_caret s p c w h2 h6 h5 h7 (Or.inl h8)
              · exact top_plain s p c w h2 hp h5 (Or.inr ⟨h6, by simpa using h7⟩)
            · exact top_plain s p c w h2 hp h5 (Or.inl h6)
          · go_enter Try.func5, Try.ntmps5
            go_wp2_with (go_at_call 12; refine (bytes_yes _ _ _ _ (by omega)).mono ?_; rintro e w' ⟨rfl, rfl⟩)
            go_ret
            exact ⟨rfl, Grown.refl _⟩
        · go_enter Try.func5, Try.ntmps5
          go_wp2_with (go_at_call 12; refine (bytes_yes _ _ _ _ (by omega)).mono ?_; rintro e w' ⟨rfl, rfl⟩)
          go_ret
          exact ⟨rfl, Grown.refl _⟩
      · go_enter Try.func5, Try.ntmps5
        go_wp2_with (go_at_call 12; refine (bytes_yes _ _ _ _ (by omega)).mono ?_; rintro e w' ⟨rfl, rfl⟩)
        go_ret
        exact ⟨rfl, Grown.refl _⟩
    · go_enter Try.func5, Try.ntmps5
      go_wp2_with (go_at_call 12; refine (bytes_yes _ _ _ _ (by omega)).mono ?_; rintro e w' ⟨rfl, rfl⟩)
      go_ret
      exact ⟨rfl, Grown.refl _⟩
  · go_enter Try.func5, Try.ntmps5
    go_wp2_with (go_at_call 12; refine (bytes_no _ _ _ _ (by assumption) (by omega)).mono ?_; rintro e w' ⟨rfl, rfl⟩)
    go_ret
    exact ⟨rfl, Grown.refl _⟩
end Go.Proofs.Qxb6619923a
