import Derived.Test.Qxb6619923aWalksA
namespace Go.Proofs.Qxb6619923a
open Go.RowKit

theorem esc_c (s : ByteArray) (p : Nat) (a : Int) (w : World) (hs : s.size ≤ maxLen) (ha : a = p) (hp : p < s.size) :
    Calls Try.prog 15 #[.string s, .int .i64 a] w fun e w' => (∃ (lo : Int) (m : Nat), lo = ((Pl.escB (s.data.toList.drop p)).toNat : Int) ∧ m = p + Pl.escN (s.data.toList.drop p) ∧ e = .returned (.tuple #[.int .u8 lo, .int .i64 m])) ∧ w' = w := by
  refine (esc_any s p a w hs ha hp).mono ?_
  rintro e w' ⟨rfl, rfl⟩
  exact ⟨⟨_, _, rfl, rfl, by simp⟩, rfl⟩

theorem drop_ne (s : ByteArray) (k : Nat) (h : k < s.size) : s.data.toList.drop k ≠ [] := by rw [drop_cons s k h]; simp
theorem drop_len (s : ByteArray) (k : Nat) : (s.data.toList.drop k).length = s.size - k := by rw [List.length_drop]; rfl
theorem drop_head (s : ByteArray) (k : Nat) (h : k < s.size) : (s.data.toList.drop k).head? = some s[k] := by rw [drop_cons s k h]; rfl
theorem esc_bd (s : ByteArray) (k m : Nat) (h : k < s.size) (hm : m = k + Pl.escN (s.data.toList.drop k)) : k < m ∧ m ≤ s.size := by
  have h1 := Pl.escN_pos (s.data.toList.drop k)
  have h2 := Pl.escN_le _ (drop_ne s k h)
  rw [drop_len] at h2
  omega
theorem byte_bd (x : UInt8) (lo : Int) (h : lo = (x.toNat : Int)) : 0 ≤ lo ∧ lo ≤ 255 := by
  have := x.toNat_lt; omega

/-- One round of the loop, plain. -/
theorem cls_step (s : ByteArray) (q k f F : Nat) (x : Bool) (c : Int) (l0 : List UInt8) (hlt : k < s.size) (h1 : ¬ (s[k].toNat : Int) = 93)
    (hf : (s.data.toList.drop k).length ≤ f) (hcl : q + Pl.closeN l0 = k + Pl.closeN (s.data.toList.drop k)) (hin : Pl.inL c F l0 = (x || Pl.inL c f (s.data.toList.drop k)))
    (m2 : Nat) (hm2 : m2 = k + Pl.itN (s.data.toList.drop k)) (v : Bool) (hv : v = (x || Pl.itIn c (s.data.toList.drop k))) :
    ∃ f', k < m2 ∧ m2 ≤ s.size ∧ (s.data.toList.drop m2).length ≤ f' ∧ q + Pl.closeN l0 = m2 + Pl.closeN (s.data.toList.drop m2) ∧ Pl.inL c F l0 = (v || Pl.inL c f' (s.data.toList.drop m2)) := by
  have hne := drop_ne s k hlt
  have hh : (s.data.toList.drop k).head? ≠ some 93 := by
    rw [drop_head s k hlt]; intro e; exact h1 ((u8_eq _ 93 93 rfl).2 (by simpa using e))
  have h2 := Pl.itN_pos (s.data.toList.drop k)
  have h3 := Pl.itN_le _ hne
  rw [drop_len] at h3 hf
  have h4 := Pl.close_item _ hne hh
  obtain ⟨f, rfl⟩ : ∃ g, f = g + 1 := ⟨f - 1, by omega⟩
  have h5 := Pl.inL_step c f _ (fun h => h.elim hne hh)
  rw [List.drop_drop, ← hm2] at h4 h5
  refine ⟨f, by omega, by omega, by rw [drop_len]; omega, by omega, ?_⟩
  rw [hin, h5, hv, Bool.or_assoc]

theorem rng_yes (s : ByteArray) (m : Nat) (r1 : m + 1 < s.size) (r2 : (s[m].toNat : Int) = 45) (r3 : ¬ (s[m+1].toNat : Int) = 93) : Pl.rng (s.data.toList.drop m) = true := by
  rw [drop_cons s m (by omega), drop_cons s (m + 1) r1]
  rw [u8_eq _ 45 45 rfl] at r2
  rw [u8_eq _ 93 93 rfl] at r3
  simp [Pl.rng, r2, r3]
theorem rng_no (s : ByteArray) (m : Nat) (h : ∀ r1 : m + 1 < s.size, (s[m].toNat : Int) = 45 → (s[m+1].toNat : Int) = 93) : Pl.rng (s.data.toList.drop m) = false := by
  by_cases r0 : m < s.size
  · by_cases r1 : m + 1 < s.size
    · have h := h r1
      rw [drop_cons s m r0, drop_cons s (m + 1) r1]
      rw [u8_eq _ 45 45 rfl, u8_eq _ 93 93 rfl] at h
      by_cases e : s[m] = 45
      · simp [Pl.rng, e, h e]
      · simp [Pl.rng, e]
    · rw [drop_cons s m r0, drop_nil s (m + 1) (by omega)]; rfl
  · rw [drop_nil s m (by omega)]; rfl

theorem item_yes (s : ByteArray) (k m m2 : Nat) (lo hi c : Int) (hlo : lo = ((Pl.escB (s.data.toList.drop k)).toNat : Int)) (hm : m = k + Pl.escN (s.data.toList.drop k))
    (hr : Pl.rng (s.data.toList.drop m) = true) (hhi : hi = ((Pl.escB (s.data.toList.drop (m + 1))).toNat : Int)) (hm2 : m2 = (m + 1) + Pl.escN (s.data.toList.drop (m + 1))) :
    m2 = k + Pl.itN (s.data.toList.drop k) ∧ Pl.itIn c (s.data.toList.drop k) = (decide (min lo hi ≤ c) && decide (c ≤ max lo hi)) := by
  have e1 : Pl.rng ((s.data.toList.drop k).drop (Pl.escN (s.data.toList.drop k))) = true := by rw [List.drop_drop, ← hm]; exact hr
  have e2 : (s.data.toList.drop k).drop (Pl.escN (s.data.toList.drop k) + 1) = s.data.toList.drop (m + 1) := by rw [List.drop_drop, hm]; rfl
  unfold Pl.itIn Pl.itN Pl.itHi
  rw [if_pos e1, if_pos e1, e2, ← hhi, ← hlo]
  exact ⟨by omega, rfl⟩
theorem item_no (s : ByteArray) (k m : Nat) (lo c : Int) (hlo : lo = ((Pl.escB (s.data.toList.drop k)).toNat : Int)) (hm : m = k + Pl.escN (s.data.toList.drop k))
    (hr : Pl.rng (s.data.toList.drop m) = false) :
    m = k + Pl.itN (s.data.toList.drop k) ∧ Pl.itIn c (s.data.toList.drop k) = (decide (lo ≤ c) && decide (c ≤ lo)) := by
  have e1 : ¬ Pl.rng ((s.data.toList.drop k).drop (Pl.escN (s.data.toList.drop k))) = true := by rw [List.drop_drop, ← hm, hr]; simp
  unfold Pl.itIn Pl.itN Pl.itHi
  rw [if_neg e1, if_neg e1, ← hlo, Int.min_self, Int.max_self]
  exact ⟨by omega, rfl⟩

theorem ret_ib {k : IntKind} {a c : Int} {b d : Bool} (h : a = c) (h' : b = d) : Ending.returned (.tuple #[.int k a, .bool b]) = .returned (.tuple #[.int k c, .bool d]) := by rw [h, h']

set_option maxHeartbeats 1000000 in
theorem class_core (s : ByteArray) (p q : Nat) (c : Int) (neg : Bool) (E : Int) (R : Bool) (l0 : List UInt8) (F : Nat) (w : World) (hs : s.size ≤ 200000) (hp : p ≤ s.size)
    (hn : (¬ p < s.size ∧ q = p ∧ neg = false) ∨ (∃ h : p < s.size, (((s[p].toNat : Int) == 94) = false) ∧ q = p ∧ neg = false) ∨ (∃ h : p < s.size, (s[p].toNat : Int) = 94 ∧ q = p + 1 ∧ neg = true))
    (hl0 : Hid (s.data.toList.drop q = l0)) (hF : Hid (l0.length = F)) (hE : Hid (E = (q : Int) + Pl.closeN l0)) (hR : Hid (R = (Pl.inL c F l0 != neg))) :
    Calls Try.prog 14 #[.string s, .int .i64 p, .int .u8 c] w fun e w' => e = .returned (.tuple #[.int .i64 E, .bool R]) ∧ w' = w := by
  have hq : q ≤ s.size := by rcases hn with ⟨_, rfl, _⟩ | ⟨_, _, rfl, _⟩ | ⟨_, _, rfl, _⟩ <;> omega
  rcases hn with ⟨hn, hqp, hneg⟩ | ⟨hn, hn', hqp, hneg⟩ | ⟨hn, hn', hqp, hneg⟩
  all_goals
    have hqp' := hide hqp
    have hneg' := hide hneg
    clear hqp hneg
    go_enter Try.func14, Try.ntmps14
    go_wp2
    go_loop [1, 9] (fun i b => ∃ (k f : Nat) (x : Bool), k ≤ s.size ∧ i = .int .i64 (k : Int) ∧ b = .bool x ∧ (s.data.toList.drop k).length ≤ f ∧ q + Pl.closeN l0 = k + Pl.closeN (s.data.toList.drop k) ∧ Pl.inL c F l0 = (x || Pl.inL c f (s.data.toList.drop k))) (fun i _ => s.size - (intOf i).toNat)
    case atStart => exact ⟨q, F, false, hq, by rw [unhide hqp'] <;> rfl, rfl, by rw [unhide hl0, unhide hF]; exact Nat.le_refl _, by rw [unhide hl0], by rw [unhide hl0]; simp⟩
    case round =>
      obtain ⟨k, f, x, hk, rfl, rfl, hf, hcl, hin⟩ := hrel
      have hf' := hide hf
      have hcl' := hide hcl
      have hin' := hide hin
      clear hf hcl hin
      by_cases hlt : k < s.size
      · by_cases h1 : (s[k].toNat : Int) = 93
        · go_wp2
          go_ret2
          refine ⟨ret_ib ?_ ?_, rfl⟩
          · have e1 := unhide hcl'; have e2 := close_free s k hlt h1; have e3 := unhide hE; show ((k : Int) + 1) = E; omega
          · have e4 := unhide hin'
            rw [Pl.inL_end c f _ (Or.inr (by rw [drop_head s k hlt, (u8_eq _ 93 93 rfl).1 h1]))] at e4
            rw [unhide hR, e4, unhide hneg']; cases x <;> rfl
        · go_wp2_with fail
          refine (esc_c s k _ _ (by unfold maxLen; omega) rfl hlt).mono ?_
          rintro e w' ⟨⟨lo, m, hlo, hm, rfl⟩, rfl⟩
          obtain ⟨hm0, hm1⟩ := esc_bd s k m hlt hm
          obtain ⟨lo0, lo1⟩ := byte_bd _ lo hlo
          have hlo' := hide hlo
          have hm' := hide hm
          clear hlo hm
          have step := hide (cls_step s q k f F x c l0 hlt h1 (unhide hf') (unhide hcl') (unhide hin'))
          clear hf' hcl' hin'
          by_cases hr : ∃ r1 : m + 1 < s.size, (s[m].toNat : Int) = 45 ∧ ¬ (s[m+1].toNat : Int) = 93
          · obtain ⟨r1, r2, r3⟩ := hr
            go_wp2_with fail
            refine (esc_c s (m+1) _ _ (by unfold maxLen; omega) (by omega) r1).mono ?_
            rintro e w' ⟨⟨hi, m2, hhi, hm2, rfl⟩, rfl⟩
            obtain ⟨hm3, hm4⟩ := esc_bd s (m+1) m2 r1 hm2
            obtain ⟨hi0, hi1⟩ := byte_bd _ hi hhi
            have hit := hide (item_yes s k m m2 lo hi c (unhide hlo') (unhide hm') (rng_yes s m r1 r2 r3) hhi hm2)
            clear hhi hm2 hlo' hm'
            go_wp2
            all_goals
              as_aux_lemma =>
                refine ⟨?_, by simp [intOf]; omega⟩
                obtain ⟨f2, g1, g2, g3, g4, g5⟩ := unhide step m2 (unhide hit).1 _ rfl
                refine ⟨m2, f2, _, g2, rfl, rfl, g3, g4, g5.trans ?_⟩
                congr 1
                rw [(unhide hit).2]
                rw [Bool.eq_iff_iff]
                simp [*]
                try omega
          · have hit := hide (item_no s k m lo c (unhide hlo') (unhide hm') (rng_no s m (fun r1 r2 => Classical.byContradiction fun r3 => hr ⟨r1, r2, r3⟩)))
            clear hlo' hm'
            by_cases r1 : m + 1 < s.size
            · by_cases r2 : (s[m].toNat : Int) = 45
              · have r3 : (s[m+1].toNat : Int) = 93 := Classical.byContradiction fun r3 => hr ⟨r1, r2, r3⟩
                clear hr
                go_wp2
                all_goals
                  as_aux_lemma =>
                    refine ⟨?_, by simp [intOf]; omega⟩
                    obtain ⟨f2, g1, g2, g3, g4, g5⟩ := unhide step m (unhide hit).1 _ rfl
                    refine ⟨m, f2, _, g2, rfl, rfl, g3, g4, g5.trans ?_⟩
                    congr 1
                    rw [(unhide hit).2]
                    rw [Bool.eq_iff_iff]
                    simp [*]
                    try omega
              · clear hr
                go_wp2
                all_goals
                  as_aux_lemma =>
                    refine ⟨?_, by simp [intOf]; omega⟩
                    obtain ⟨f2, g1, g2, g3, g4, g5⟩ := unhide step m (unhide hit).1 _ rfl
                    refine ⟨m, f2, _, g2, rfl, rfl, g3, g4, g5.trans ?_⟩
                    congr 1
                    rw [(unhide hit).2]
                    rw [Bool.eq_iff_iff]
                    simp [*]
                    try omega
            · clear hr
              go_wp2
              all_goals
                as_aux_lemma =>
                  refine ⟨?_, by simp [intOf]; omega⟩
                  obtain ⟨f2, g1, g2, g3, g4, g5⟩ := unhide step m (unhide hit).1 _ rfl
                  refine ⟨m, f2, _, g2, rfl, rfl, g3, g4, g5.trans ?_⟩
                  congr 1
                  rw [(unhide hit).2]
                  rw [Bool.eq_iff_iff]
                  simp [*]
                  try omega
      · have hke : Hid (k = s.size) := hide (by omega)
        go_wp2
        go_ret2
        refine ⟨ret_ib ?_ ?_, rfl⟩
        · have e1 := unhide hcl'; have e2 := close_nil s k (by omega); have e3 := unhide hE; show (k : Int) = E; omega
        · have e4 := unhide hin'
          rw [Pl.inL_end c f _ (Or.inl (drop_nil s k (by omega)))] at e4
          rw [unhide hR, e4, unhide hneg']; cases x <;> rfl
end Go.Proofs.Qxb6619923a
