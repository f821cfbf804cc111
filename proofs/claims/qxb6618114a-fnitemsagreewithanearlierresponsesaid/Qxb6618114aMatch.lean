import Derived.Test.Qxb6618114aFlat
import Derived.Deep.RegionHeld3
namespace Go.Proofs.Qxb6618114a
open Go.RowKit
set_option linter.unusedVariables false
set_option linter.unusedSimpArgs false

theorem id_any (w : World) (kind id : ByteArray) :
    Calls Try.prog 50 #[.agg #[.slice none 0 0, .string kind, .string id, .string { data := #[] }, .string { data := #[] }, .string { data := #[] }, .string { data := #[] }, .string { data := #[] }]] w fun e w' => e = .returned (.string id) ∧ Below w.heap.size w w' := by
  go_enter Try.func50, Try.ntmps50
  go_wp2_with fail
  go_ret
  exact ⟨rfl, (Below.refl _ _).alloc (Nat.le_refl _) _⟩
theorem kind_any (w : World) (kind id : ByteArray) :
    Calls Try.prog 51 #[.agg #[.slice none 0 0, .string kind, .string id, .string { data := #[] }, .string { data := #[] }, .string { data := #[] }, .string { data := #[] }, .string { data := #[] }]] w fun e w' => e = .returned (.string kind) ∧ Below w.heap.size w w' := by
  go_enter Try.func51, Try.ntmps51
  go_wp2_with fail
  go_ret
  exact ⟨rfl, (Below.refl _ _).alloc (Nat.le_refl _) _⟩

/-- ZZItems. -/
theorem zitems_any (w : World) (n : Nat) (rb ib ob M1 M2 : Nat → Nat) (S1 S2 : Nat → Nat → ByteArray) (K : Nat → Int) (FK FI : Nat → ByteArray) (h : Rd w n rb ib ob M1 M2 S1 S2 K) (hF : Flat n M1 M2 S1 S2 FK FI) (hw : Well n n n K)
    (hs : fi M1 M2 n ≤ 131072) (jr f t : Nat) (hj : jr < n) (hft : f ≤ t) (ht : t ≤ fi M1 M2 (jr + 1)) :
    Calls Try.prog 20 #[.pointer (some ⟨rb jr, 0, none⟩), .int .i64 f, .int .i64 t] w fun e w' => (∃ L, Hid (w.heap.size ≤ L ∧ Plain w' L ∧ Filled w' L f f t FK FI) ∧ e = .returned (.slice (some ⟨L, 0, none⟩) (t - f) (t - f))) ∧ Below w.heap.size w w' := by
  have G := hide (items_any w n rb ib ob M1 M2 S1 S2 K FK FI h hF hw hs jr f t hj hft ht)
  clear h hF hw hs ht
  go_enter Try.func20, Try.ntmps20
  go_wp2_with fail
  refine (unhide G).mono ?_
  rintro e w2 ⟨rfl, hb, hp, hf⟩
  have hb' := hide hb
  have hh := hide (And.intro (Nat.le_refl w.heap.size) (And.intro hp hf))
  clear hb hp hf G
  go_wp2_with fail
  go_ret
  exact ⟨⟨_, hh, rfl⟩, unhide hb'⟩

/-- The flat conversation in memory. -/
structure FlatAt (w : World) (ga : Option Addr) (N : Nat) (FK FI : Nat → ByteArray) : Prop where
  at' : ∀ p, p < N → ∃ g, ga = some ⟨g, 0, none⟩ ∧ g < w.heap.size ∧ w.cell? ⟨g, p * 2, none⟩ = some (.string (FI p)) ∧ w.cell? ⟨g, p * 2 + 1, none⟩ = some (.string (FK p))
theorem FlatAt.below {w w' : World} {ga : Option Addr} {N : Nat} {FK FI : Nat → ByteArray} (h : FlatAt w ga N FK FI) (hB : Below w.heap.size w w') : FlatAt w' ga N FK FI := ⟨fun p hp => by
  obtain ⟨g, e, hg, h1, h2⟩ := h.at' p hp
  exact ⟨g, e, Nat.lt_of_lt_of_le hg hB.size, (hB.cell (p := ⟨g, p * 2, none⟩) hg).trans h1, (hB.cell (p := ⟨g, p * 2 + 1, none⟩) hg).trans h2⟩⟩
theorem flatAt_of {w : World} {B : Nat} {v : Value} {N : Nat} {FK FI : Nat → ByteArray} (h : w.ownsRow B 96 2 v N (fc FK FI N)) : ∃ ga cap, v = .slice ga N cap ∧ FlatAt w ga N FK FI := by
  rcases h.2 with ⟨rfl, rfl⟩ | ⟨g, cap, cur, rfl, hb, hg, _⟩
  · exact ⟨none, 0, rfl, ⟨fun p hp => by omega⟩⟩
  · refine ⟨_, cap, rfl, ⟨fun p hp => ⟨g, rfl, (Array.getElem?_eq_some_iff.1 hg).1, ?_, ?_⟩⟩⟩
    · rw [h.cellAt (p * 2) (by omega)]; exact (fc_at FK FI hp).1
    · rw [h.cellAt (p * 2 + 1) (by omega)]; exact (fc_at FK FI hp).2

def SReads (w : World) (L g q p : Nat) (kind id : ByteArray) : Prop :=
  w.cell? ⟨L, q * 8, none⟩ = some (.slice none 0 0) ∧ w.cell? ⟨L, q * 8 + 1, none⟩ = some (.string kind) ∧ w.cell? ⟨L, q * 8 + 2, none⟩ = some (.string id) ∧ w.cell? ⟨L, q * 8 + 3, none⟩ = some (.string { data := #[] }) ∧
  w.cell? ⟨L, q * 8 + 4, none⟩ = some (.string { data := #[] }) ∧ w.cell? ⟨L, q * 8 + 5, none⟩ = some (.string { data := #[] }) ∧ w.cell? ⟨L, q * 8 + 6, none⟩ = some (.string { data := #[] }) ∧ w.cell? ⟨L, q * 8 + 7, none⟩ = some (.string { data := #[] }) ∧
  w.cell? ⟨g, p * 2, none⟩ = some (.string id) ∧ w.cell? ⟨g, p * 2 + 1, none⟩ = some (.string kind)

set_option maxRecDepth 100000 in
set_option maxHeartbeats 4000000 in
theorem matches_any (w : World) (L f t N cap : Nat) (ga : Option Addr) (FK FI : Nat → ByteArray) (hp : Plain w L) (hF : Filled w L f f t FK FI) (hA : FlatAt w ga N FK FI) (hft : f ≤ t) (htN : t ≤ N) (hN : N ≤ 131072) :
    Calls Try.prog 21 #[.slice (some ⟨L, 0, none⟩) (t - f) (t - f), .slice ga N cap, .int .i64 f, .int .i64 t] w fun e w' => e = .returned (.bool true) ∧ Below w.heap.size w w' := by
  obtain ⟨d, rfl⟩ : ∃ d, t = f + d := ⟨t - f, by omega⟩
  have HF := hide hF
  have HA := hide hA
  have HP := hide hp
  rw [show f + d - f = d by omega]
  clear hF hA hp
  have e1 : (d : Int) + (f : Int) = (f : Int) + d := by omega
  have e2 : ((f : Int) + (d : Int) - (f : Int)) = (d : Int) := by omega
  clear e1
  go_enter Try.func21, Try.ntmps21
  go_wp2_with fail
  go_loopg [9] (d + 1) (fun g k wr => Below w.heap.size w wr ∧ ∃ q : Nat, q ≤ d ∧ k = .int .i64 q ∧ g + q = d + 1)
  case atStart => exact ⟨Below.refl _ _, 0, by omega, rfl, by omega⟩
  case round =>
    obtain ⟨hbw, q, hq, rfl, hg⟩ := hrel
    by_cases hlt : q < d
    · have lp := (unhide HP).lt
      obtain ⟨i0, i1, i2, i3, i4, i5, i6, i7⟩ := ((unhide HF) (f + q) (by omega) (by omega) (by omega)).below hbw lp
      obtain ⟨g, rfl, hgl, j0, j1⟩ := ((unhide HA).below hbw).at' (f + q) (by omega)
      rw [show f + q - f = q by omega] at i0 i1 i2 i3 i4 i5 i6 i7
      have lL : L < wr.drew.heap.size := Nat.lt_of_lt_of_le lp hbw.size
      have lG : g < wr.drew.heap.size := hgl
      have KJ := hide (fun (w5 : World) (h5 : Below wr.drew.heap.size wr.drew w5) => (show SReads w5 L g q (f + q) (FK (f + q)) (FI (f + q)) from
        ⟨(h5.cell (p := ⟨L, q * 8, none⟩) lL).trans i0, (h5.cell (p := ⟨L, q * 8 + 1, none⟩) lL).trans i1, (h5.cell (p := ⟨L, q * 8 + 2, none⟩) lL).trans i2, (h5.cell (p := ⟨L, q * 8 + 3, none⟩) lL).trans i3,
          (h5.cell (p := ⟨L, q * 8 + 4, none⟩) lL).trans i4, (h5.cell (p := ⟨L, q * 8 + 5, none⟩) lL).trans i5, (h5.cell (p := ⟨L, q * 8 + 6, none⟩) lL).trans i6, (h5.cell (p := ⟨L, q * 8 + 7, none⟩) lL).trans i7,
          (h5.cell (p := ⟨g, (f + q) * 2, none⟩) lG).trans j0, (h5.cell (p := ⟨g, (f + q) * 2 + 1, none⟩) lG).trans j1⟩))
      clear lp lL lG hgl
      obtain ⟨p, hp⟩ : ∃ p, p = f + q := ⟨_, rfl⟩
      have x2 : (p : Int) < (N : Int) := by omega
      have x3 : p < N := by omega
      have x4 : IntKind.i64.wrap ((f : Int) + (q : Int)) = (p : Int) := by rw [IntKind.wrap_i64]; omega
      rw [← hp] at KJ j0 j1 i1 i2
      clear hp
      generalize FK p = kind at *
      generalize FI p = id at *
      go_wp2_with fail
      go_region_held3 (fun w5 => w5.cell? ⟨L, q * 8, none⟩ = some (.slice none 0 0) ∧ w5.cell? ⟨L, q * 8 + 1, none⟩ = some (.string kind) ∧ w5.cell? ⟨L, q * 8 + 2, none⟩ = some (.string id) ∧ w5.cell? ⟨L, q * 8 + 3, none⟩ = some (.string { data := #[] }) ∧ w5.cell? ⟨L, q * 8 + 4, none⟩ = some (.string { data := #[] }) ∧ w5.cell? ⟨L, q * 8 + 5, none⟩ = some (.string { data := #[] }) ∧ w5.cell? ⟨L, q * 8 + 6, none⟩ = some (.string { data := #[] }) ∧ w5.cell? ⟨L, q * 8 + 7, none⟩ = some (.string { data := #[] }) ∧ w5.cell? ⟨g, p * 2, none⟩ = some (.string id) ∧ w5.cell? ⟨g, p * 2 + 1, none⟩ = some (.string kind))
        (first | (exact unhide KJ _ (by assumption)) | go_keep)
        (first | (go_at_call 50; refine (id_any _ kind id).mono ?_; rintro e w4 ⟨rfl, hb4⟩) | (go_at_call 51; refine (kind_any _ kind id).mono ?_; rintro e w5 ⟨rfl, hb5⟩; have hb6 := hb4.trans (hb5.mono hb4.size)))
      go_wp2_with fail
      go_roundg (gk - 1)
      case measure => omega
      case rel => exact ⟨hbw.drew.trans (hb6.mono hbw.size), q + 1, by omega, by go_num, by omega⟩
    · go_wp2_with fail
      go_ret
      exact ⟨rfl, hbw⟩
end Go.Proofs.Qxb6618114a
