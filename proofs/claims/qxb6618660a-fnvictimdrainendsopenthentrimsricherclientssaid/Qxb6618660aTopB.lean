import Derived.Test.Qxb6618660aLawB
import Derived.Test.Qxb6618660aOpen
namespace Go.Proofs.Qxb6618660a
open Go.RowKit
set_option linter.unusedVariables false
set_option linter.unusedSimpArgs false

set_option maxRecDepth 100000 in
set_option maxHeartbeats 1000000 in
theorem lawB_zero (w : World) (a : Option Addr) (cap : Nat) (x y : Int) :
    Calls Try.prog 6 #[.slice a 0 cap, .int .i64 x, .int .i64 y] w fun e w' => e = .returned (.bool true) ∧ Below w.heap.size w w' := by
  go_enter Try.func6, Try.ntmps6
  go_wp2_with fail
  refine (bytes25_zero w a cap x y).mono ?_
  rintro e w1 ⟨rfl, rfl⟩
  go_wp2_with fail
  go_loopg [7, 8] 1 (fun g z k wr => wr = w1 ∧ k = .int .i64 0)
  case atStart => exact ⟨rfl, rfl⟩
  case round =>
    obtain ⟨rfl, rfl⟩ := hrel
    by_cases h : x < 0
    · go_wp2_with fail
      go_ret
      exact ⟨rfl, Below.refl _ _⟩
    · go_wp2_with fail
      go_ret
      exact ⟨rfl, Below.refl _ _⟩
set_option maxRecDepth 100000 in
theorem lawB_long (w : World) (a : Option Addr) (len cap : Nat) (x y : Int) (h : 1048576 < len) (hm : len ≤ maxLen) :
    Calls Try.prog 6 #[.slice a len cap, .int .i64 x, .int .i64 y] w fun e w' => e = .returned (.bool true) ∧ Below w.heap.size w w' := by
  have C := hide (bytes25_long w a len cap x y h hm)
  clear h hm
  go_enter Try.func6, Try.ntmps6
  go_wp2_with fail
  refine (unhide C).mono ?_
  rintro e w1 ⟨rfl, rfl⟩
  go_wp2_with fail
  go_ret
  exact ⟨rfl, Below.refl _ _⟩

theorem lawB_top (w : World) (a : Option Addr) (len cap : Nat) (x y : Int) (h : SliceSays w a len) :
    Calls Try.prog 6 #[.slice a len cap, .int .i64 x, .int .i64 y] w fun e w' => e = .returned (.bool true) ∧ Below w.heap.size w w' := by
  rcases h with rfl | ⟨h1, h2⟩ | ⟨b, o, H, rfl, h0, hA⟩
  · exact lawB_zero w a cap x y
  · exact lawB_long w a len cap x y h1 h2
  · exact lawB_any w b o len cap x y H hA
end Go.Proofs.Qxb6618660a
