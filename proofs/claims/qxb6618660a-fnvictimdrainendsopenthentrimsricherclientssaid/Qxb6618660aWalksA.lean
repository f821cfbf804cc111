import Derived.Test.Qxb6618660aLocks
import Derived.Conc.MuLone
import Derived.WalkKit
import Derived.WalkSpells
import Derived.WalkLawsBesides
import Derived.Below
import Derived.Outline
namespace Go.Proofs.Qxb6618660a
open Go.RowKit Go.MuLone
theorem hide {p : Prop} (h : p) : Hid p := h
theorem unhide {p : Prop} (h : Hid p) : p := h

/-- stands: where a holder stands. -/
theorem stands_any (b : Nat) (st : Int) (y : Bool) (w : World) (h4 : w.cell? ⟨b, 4, none⟩ = some (.int .i64 st)) (h5 : w.cell? ⟨b, 5, none⟩ = some (.bool y)) :
    Calls Try.prog 49 #[.pointer (some ⟨b, 0, none⟩)] w fun e w' => e = .returned (.int .i64 (if y then 0 else st)) ∧ w' = w := by
  cases y
  all_goals
    go_enter Try.func49, Try.ntmps49
    go_wp2
    go_ret
    exact ⟨rfl, rfl⟩

/-- Three blocks that are three. -/
structure Apart3 (b bb cb : Nat) : Prop where
  e1 : ¬ b = bb
  e2 : ¬ b = cb
  e3 : ¬ bb = cb
  e4 : ¬ bb = b
  e5 : ¬ cb = b
  e6 : ¬ cb = bb

/-- count, the way of an open holder. -/
theorem count_open (b bb cb : Nat) (st n u o h co : Int) (y : Bool) (w : World)
    (h0 : w.cell? ⟨b, 0, none⟩ = some (.pointer (some ⟨bb, 0, none⟩))) (h1 : w.cell? ⟨b, 1, none⟩ = some (.pointer (some ⟨cb, 0, none⟩)))
    (h4 : w.cell? ⟨b, 4, none⟩ = some (.int .i64 st)) (h5 : w.cell? ⟨b, 5, none⟩ = some (.bool y)) (hst : (if y then 0 else st : Int) = 0)
    (b3 : w.cell? ⟨bb, 3, none⟩ = some (.int .i64 u)) (b4 : w.cell? ⟨bb, 4, none⟩ = some (.int .i64 o))
    (c1 : w.cell? ⟨cb, 1, none⟩ = some (.int .i64 h)) (c2 : w.cell? ⟨cb, 2, none⟩ = some (.int .i64 co))
    (ap : Apart3 b bb cb) (f1 : ∀ o, w.frozen? ⟨bb, o, none⟩ = false) (f2 : ∀ o, w.frozen? ⟨cb, o, none⟩ = false) :
    Calls Try.prog 36 #[.pointer (some ⟨b, 0, none⟩), .int .i64 n] w fun e w' => e = .returned (.tuple #[]) ∧
      w' = (((w.setCell ⟨bb, 3, none⟩ (.int .i64 (wrap64 (u + n)))).setCell ⟨cb, 1, none⟩ (.int .i64 (wrap64 (h + n)))).setCell ⟨cb, 2, none⟩ (.int .i64 (wrap64 (co + n)))).setCell ⟨bb, 4, none⟩ (.int .i64 (wrap64 (o + n))) := by
  obtain ⟨e1, e2, e3, e4, e5, e6⟩ := ap
  have hst' := hide hst
  clear hst
  have key : ∀ w, w.cell? ⟨b, 4, none⟩ = some (.int .i64 st) → w.cell? ⟨b, 5, none⟩ = some (.bool y) → Calls Try.prog 49 #[.pointer (some ⟨b, 0, none⟩)] w fun e w' => e = .returned (.int .i64 0) ∧ w' = w := fun w h4 h5 => by
    have := stands_any b st y w h4 h5; rw [unhide hst'] at this; exact this
  have key' := hide key
  clear key
  go_enter Try.func36, Try.ntmps36
  go_wp2_with fail
  refine (unhide key' _ ?_ ?_).mono ?_
  · go_simp
  · go_simp
  rintro e w' ⟨rfl, rfl⟩
  go_wp2
  go_end0
  exact ⟨rfl, rfl⟩

theorem count_shut (b bb cb : Nat) (st n u h : Int) (y : Bool) (w : World)
    (h0 : w.cell? ⟨b, 0, none⟩ = some (.pointer (some ⟨bb, 0, none⟩))) (h1 : w.cell? ⟨b, 1, none⟩ = some (.pointer (some ⟨cb, 0, none⟩)))
    (h4 : w.cell? ⟨b, 4, none⟩ = some (.int .i64 st)) (h5 : w.cell? ⟨b, 5, none⟩ = some (.bool y)) (hst : ¬ (if y then 0 else st : Int) = 0)
    (b3 : w.cell? ⟨bb, 3, none⟩ = some (.int .i64 u))
    (c1 : w.cell? ⟨cb, 1, none⟩ = some (.int .i64 h))
    (ap : Apart3 b bb cb) (f1 : ∀ o, w.frozen? ⟨bb, o, none⟩ = false) (f2 : ∀ o, w.frozen? ⟨cb, o, none⟩ = false) :
    Calls Try.prog 36 #[.pointer (some ⟨b, 0, none⟩), .int .i64 n] w fun e w' => e = .returned (.tuple #[]) ∧
      w' = (w.setCell ⟨bb, 3, none⟩ (.int .i64 (wrap64 (u + n)))).setCell ⟨cb, 1, none⟩ (.int .i64 (wrap64 (h + n))) := by
  obtain ⟨e1, e2, e3, e4, e5, e6⟩ := ap
  have key : ∀ w, w.cell? ⟨b, 4, none⟩ = some (.int .i64 st) → w.cell? ⟨b, 5, none⟩ = some (.bool y) → Calls Try.prog 49 #[.pointer (some ⟨b, 0, none⟩)] w fun e w' => (∃ s : Int, ¬ s = 0 ∧ e = .returned (.int .i64 s)) ∧ w' = w := fun w h4 h5 => by
    refine (stands_any b st y w h4 h5).mono ?_
    rintro e w' ⟨rfl, rfl⟩
    exact ⟨⟨_, hst, rfl⟩, rfl⟩
  have key' := hide key
  clear key hst
  go_enter Try.func36, Try.ntmps36
  go_wp2_with fail
  refine (unhide key' _ ?_ ?_).mono ?_
  · go_simp
  · go_simp
  rintro e w' ⟨⟨s, hs, rfl⟩, rfl⟩
  go_wp2
  go_end0
  exact ⟨rfl, rfl⟩

/-- add. -/
theorem add_open (b bb cb : Nat) (st n u o h co c : Int) (y : Bool) (w : World)
    (h0 : w.cell? ⟨b, 0, none⟩ = some (.pointer (some ⟨bb, 0, none⟩))) (h1 : w.cell? ⟨b, 1, none⟩ = some (.pointer (some ⟨cb, 0, none⟩)))
    (h3 : w.cell? ⟨b, 3, none⟩ = some (.int .i64 c))
    (h4 : w.cell? ⟨b, 4, none⟩ = some (.int .i64 st)) (h5 : w.cell? ⟨b, 5, none⟩ = some (.bool y)) (hst : (if y then 0 else st : Int) = 0)
    (b3 : w.cell? ⟨bb, 3, none⟩ = some (.int .i64 u)) (b4 : w.cell? ⟨bb, 4, none⟩ = some (.int .i64 o))
    (c1 : w.cell? ⟨cb, 1, none⟩ = some (.int .i64 h)) (c2 : w.cell? ⟨cb, 2, none⟩ = some (.int .i64 co))
    (ap : Apart3 b bb cb) (f0 : ∀ o, w.frozen? ⟨b, o, none⟩ = false) (f1 : ∀ o, w.frozen? ⟨bb, o, none⟩ = false) (f2 : ∀ o, w.frozen? ⟨cb, o, none⟩ = false) :
    Calls Try.prog 31 #[.pointer (some ⟨b, 0, none⟩), .int .i64 n] w fun e w' => e = .returned (.tuple #[]) ∧
      w' = ((((w.setCell ⟨bb, 3, none⟩ (.int .i64 (wrap64 (u + n)))).setCell ⟨cb, 1, none⟩ (.int .i64 (wrap64 (h + n)))).setCell ⟨cb, 2, none⟩ (.int .i64 (wrap64 (co + n)))).setCell ⟨bb, 4, none⟩ (.int .i64 (wrap64 (o + n)))).setCell ⟨b, 3, none⟩ (.int .i64 (wrap64 (c + n))) := by
  have key := hide (count_open b bb cb st n u o h co y w h0 h1 h4 h5 hst b3 b4 c1 c2 ap f1 f2)
  clear hst
  obtain ⟨e1, e2, e3, e4, e5, e6⟩ := ap
  go_enter Try.func31, Try.ntmps31
  go_wp2_with fail
  refine (unhide key).mono ?_
  rintro e w' ⟨rfl, rfl⟩
  go_wp2
  go_end0
  exact ⟨rfl, rfl⟩

theorem add_shut (b bb cb : Nat) (st n u h c : Int) (y : Bool) (w : World)
    (h0 : w.cell? ⟨b, 0, none⟩ = some (.pointer (some ⟨bb, 0, none⟩))) (h1 : w.cell? ⟨b, 1, none⟩ = some (.pointer (some ⟨cb, 0, none⟩)))
    (h3 : w.cell? ⟨b, 3, none⟩ = some (.int .i64 c))
    (h4 : w.cell? ⟨b, 4, none⟩ = some (.int .i64 st)) (h5 : w.cell? ⟨b, 5, none⟩ = some (.bool y)) (hst : ¬ (if y then 0 else st : Int) = 0)
    (b3 : w.cell? ⟨bb, 3, none⟩ = some (.int .i64 u))
    (c1 : w.cell? ⟨cb, 1, none⟩ = some (.int .i64 h))
    (ap : Apart3 b bb cb) (f0 : ∀ o, w.frozen? ⟨b, o, none⟩ = false) (f1 : ∀ o, w.frozen? ⟨bb, o, none⟩ = false) (f2 : ∀ o, w.frozen? ⟨cb, o, none⟩ = false) :
    Calls Try.prog 31 #[.pointer (some ⟨b, 0, none⟩), .int .i64 n] w fun e w' => e = .returned (.tuple #[]) ∧
      w' = ((w.setCell ⟨bb, 3, none⟩ (.int .i64 (wrap64 (u + n)))).setCell ⟨cb, 1, none⟩ (.int .i64 (wrap64 (h + n)))).setCell ⟨b, 3, none⟩ (.int .i64 (wrap64 (c + n))) := by
  have key := hide (count_shut b bb cb st n u h y w h0 h1 h4 h5 hst b3 c1 ap f1 f2)
  clear hst
  obtain ⟨e1, e2, e3, e4, e5, e6⟩ := ap
  go_enter Try.func31, Try.ntmps31
  go_wp2_with fail
  refine (unhide key).mono ?_
  rintro e w' ⟨rfl, rfl⟩
  go_wp2
  go_end0
  exact ⟨rfl, rfl⟩

/-! ### Add, under the lock -/
theorem Add_gone (b bb : Nat) (n : Int) (w : World)
    (h0 : w.cell? ⟨b, 0, none⟩ = some (.pointer (some ⟨bb, 0, none⟩))) (h6 : w.cell? ⟨b, 6, none⟩ = some (.bool true))
    (b0 : w.cell? ⟨bb, 0, none⟩ = some (.int .i32 0)) (e1 : ¬ b = bb) (f1 : ∀ o, w.frozen? ⟨bb, o, none⟩ = false) :
    Calls Try.prog 9 #[.pointer (some ⟨b, 0, none⟩), .int .i64 n] w fun e w' => e = .returned (.tuple #[]) ∧
      w' = (w.setCell ⟨bb, 0, none⟩ (.int .i32 1)).setCell ⟨bb, 0, none⟩ (.int .i32 0) := by
  have e4 : ¬ bb = b := fun e => e1 e.symm
  go_enter_defers Try.func9, Try.ntmps9
  go_wp2_with fail
  refine (lock_free muLib ⟨bb, 0, none⟩ _ b0 (f1 0)).mono ?_
  rintro e w' ⟨rfl, rfl⟩
  go_wp2_with fail
  refine leaves_cons (f := 30) (args := #[.pointer (some ⟨bb, 0, none⟩)]) (by simp) (by simp [go_sem]) ?_
  refine (unlock_deferred muLib ⟨bb, 0, none⟩ .returning _ ?_ ?_).mono ?_
  · exact World.cell?_setCell_same w ⟨bb, 0, none⟩ (.int .i32 1) b0
  · simp [f1]
  rintro e u' w'' ⟨rfl, rfl, rfl⟩
  exact ⟨_, results_none rfl _ _ _, rfl, rfl⟩

theorem Add_open (b bb cb : Nat) (st n u o h co c : Int) (y : Bool) (w : World)
    (h0 : w.cell? ⟨b, 0, none⟩ = some (.pointer (some ⟨bb, 0, none⟩))) (h1 : w.cell? ⟨b, 1, none⟩ = some (.pointer (some ⟨cb, 0, none⟩)))
    (h3 : w.cell? ⟨b, 3, none⟩ = some (.int .i64 c))
    (h4 : w.cell? ⟨b, 4, none⟩ = some (.int .i64 st)) (h5 : w.cell? ⟨b, 5, none⟩ = some (.bool y)) (h6 : w.cell? ⟨b, 6, none⟩ = some (.bool false)) (hst : (if y then 0 else st : Int) = 0)
    (b0 : w.cell? ⟨bb, 0, none⟩ = some (.int .i32 0)) (b3 : w.cell? ⟨bb, 3, none⟩ = some (.int .i64 u)) (b4 : w.cell? ⟨bb, 4, none⟩ = some (.int .i64 o))
    (c1 : w.cell? ⟨cb, 1, none⟩ = some (.int .i64 h)) (c2 : w.cell? ⟨cb, 2, none⟩ = some (.int .i64 co))
    (ap : Apart3 b bb cb) (f0 : ∀ o, w.frozen? ⟨b, o, none⟩ = false) (f1 : ∀ o, w.frozen? ⟨bb, o, none⟩ = false) (f2 : ∀ o, w.frozen? ⟨cb, o, none⟩ = false) :
    Calls Try.prog 9 #[.pointer (some ⟨b, 0, none⟩), .int .i64 n] w fun e w' => e = .returned (.tuple #[]) ∧
      w' = ((((((w.setCell ⟨bb, 0, none⟩ (.int .i32 1)).setCell ⟨bb, 3, none⟩ (.int .i64 (wrap64 (u + n)))).setCell ⟨cb, 1, none⟩ (.int .i64 (wrap64 (h + n)))).setCell ⟨cb, 2, none⟩ (.int .i64 (wrap64 (co + n)))).setCell ⟨bb, 4, none⟩ (.int .i64 (wrap64 (o + n)))).setCell ⟨b, 3, none⟩ (.int .i64 (wrap64 (c + n)))).setCell ⟨bb, 0, none⟩ (.int .i32 0) := by
  have key := hide (add_open b bb cb st n u o h co c y (w.setCell ⟨bb, 0, none⟩ (.int .i32 1)))
  have hst' := hide hst
  clear hst
  have ap' := hide ap
  obtain ⟨e1, e2, e3, e4, e5, e6⟩ := ap
  go_enter_defers Try.func9, Try.ntmps9
  go_wp2_with fail
  refine (lock_free muLib ⟨bb, 0, none⟩ _ b0 (f1 0)).mono ?_
  rintro e w' ⟨rfl, rfl⟩
  go_wp2_with fail
  refine (unhide key (by go_simp) (by go_simp) (by go_simp) (by go_simp) (by go_simp) (unhide hst') (by go_simp) (by go_simp) (by go_simp) (by go_simp) (unhide ap') (by go_simp) (by go_simp) (by go_simp)).mono ?_
  rintro e w' ⟨rfl, rfl⟩
  go_wp2_with fail
  refine leaves_cons (f := 30) (args := #[.pointer (some ⟨bb, 0, none⟩)]) (by simp) (by simp [go_sem]) ?_
  refine (unlock_deferred muLib ⟨bb, 0, none⟩ .returning _ ?_ ?_).mono ?_
  · go_simp
  · go_simp
  rintro e u' w'' ⟨rfl, rfl, rfl⟩
  exact ⟨_, results_none rfl _ _ _, rfl, rfl⟩

theorem Add_shut (b bb cb : Nat) (st n u h c : Int) (y : Bool) (w : World)
    (h0 : w.cell? ⟨b, 0, none⟩ = some (.pointer (some ⟨bb, 0, none⟩))) (h1 : w.cell? ⟨b, 1, none⟩ = some (.pointer (some ⟨cb, 0, none⟩)))
    (h3 : w.cell? ⟨b, 3, none⟩ = some (.int .i64 c))
    (h4 : w.cell? ⟨b, 4, none⟩ = some (.int .i64 st)) (h5 : w.cell? ⟨b, 5, none⟩ = some (.bool y)) (h6 : w.cell? ⟨b, 6, none⟩ = some (.bool false)) (hst : ¬ (if y then 0 else st : Int) = 0)
    (b0 : w.cell? ⟨bb, 0, none⟩ = some (.int .i32 0)) (b3 : w.cell? ⟨bb, 3, none⟩ = some (.int .i64 u))
    (c1 : w.cell? ⟨cb, 1, none⟩ = some (.int .i64 h))
    (ap : Apart3 b bb cb) (f0 : ∀ o, w.frozen? ⟨b, o, none⟩ = false) (f1 : ∀ o, w.frozen? ⟨bb, o, none⟩ = false) (f2 : ∀ o, w.frozen? ⟨cb, o, none⟩ = false) :
    Calls Try.prog 9 #[.pointer (some ⟨b, 0, none⟩), .int .i64 n] w fun e w' => e = .returned (.tuple #[]) ∧
      w' = ((((w.setCell ⟨bb, 0, none⟩ (.int .i32 1)).setCell ⟨bb, 3, none⟩ (.int .i64 (wrap64 (u + n)))).setCell ⟨cb, 1, none⟩ (.int .i64 (wrap64 (h + n)))).setCell ⟨b, 3, none⟩ (.int .i64 (wrap64 (c + n)))).setCell ⟨bb, 0, none⟩ (.int .i32 0) := by
  have key := hide (add_shut b bb cb st n u h c y (w.setCell ⟨bb, 0, none⟩ (.int .i32 1)))
  have hst' := hide hst
  clear hst
  have ap' := hide ap
  obtain ⟨e1, e2, e3, e4, e5, e6⟩ := ap
  go_enter_defers Try.func9, Try.ntmps9
  go_wp2_with fail
  refine (lock_free muLib ⟨bb, 0, none⟩ _ b0 (f1 0)).mono ?_
  rintro e w' ⟨rfl, rfl⟩
  go_wp2_with fail
  refine (unhide key (by go_simp) (by go_simp) (by go_simp) (by go_simp) (by go_simp) (unhide hst') (by go_simp) (by go_simp) (unhide ap') (by go_simp) (by go_simp) (by go_simp)).mono ?_
  rintro e w' ⟨rfl, rfl⟩
  go_wp2_with fail
  refine leaves_cons (f := 30) (args := #[.pointer (some ⟨bb, 0, none⟩)]) (by simp) (by simp [go_sem]) ?_
  refine (unlock_deferred muLib ⟨bb, 0, none⟩ .returning _ ?_ ?_).mono ?_
  · go_simp
  · go_simp
  rintro e u' w'' ⟨rfl, rfl, rfl⟩
  exact ⟨_, results_none rfl _ _ _, rfl, rfl⟩
end Go.Proofs.Qxb6618660a
