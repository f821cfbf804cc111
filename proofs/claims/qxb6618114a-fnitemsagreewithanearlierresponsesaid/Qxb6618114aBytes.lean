import Derived.Test.Qxb6618114aGuards
namespace Go.Proofs.Qxb6618114a
open Go.RowKit
set_option linter.unusedVariables false
set_option linter.unusedSimpArgs false

/-- Some bool. -/
def AnyB (e : Ending) : Prop := ∃ r : Bool, e = .returned (.bool r)

set_option maxRecDepth 100000 in
set_option maxHeartbeats 4000000 in
theorem bytesA_any (w : World) (a1 a2 a3 : Option Addr) (n1 n2 n c1 c2 c3 : Nat) (x y : Int) (M1 M2 : Nat → Nat) (S1 S2 : Nat → Nat → ByteArray) (h1 : Outer w a1 n1 M1 S1) (h2 : Outer w a2 n2 M2 S2) (hn : n ≤ maxLen) :
    Calls Try.prog 15 #[.slice a1 n1 c1, .slice a2 n2 c2, .slice a3 n c3, .int .i64 x, .int .i64 y] w fun e w' => AnyB e ∧ w' = w := by
  have H1 := hide h1
  have H2 := hide h2
  have s1 := h1.small
  have s2 := h2.small
  unfold maxLen at hn s1 s2
  clear h1 h2
  by_cases b1 : n1 ≤ 1048576
  · go_enter Try.func15, Try.ntmps15
    go_wp2_with fail
    go_loopg [11, 12] (n1 + 1) (fun g l k wr => w = wr ∧ ∃ (i : Nat) (zz : Int), i ≤ n1 ∧ k = .int .i64 i ∧ g + i = n1 + 1 ∧ l = .int .i64 zz ∧ 0 ≤ zz ∧ zz ≤ 1048576)
    case atStart => exact ⟨rfl, 0, _, by omega, rfl, by omega, rfl, by omega, by omega⟩
    case round =>
      obtain ⟨rfl, i, zz, hi, rfl, hg, rfl, z0, z1⟩ := hrel
      by_cases hlt : i < n1
      · obtain ⟨b, o, ia, ic, rfl, hb, hc, hI⟩ := (unhide H1).at' i hlt
        have hm := hI.small
        have hI' := hide hI
        unfold maxLen at hm
        clear hI
        generalize M1 i = m at *
        by_cases q1 : m ≤ 1048576
        · by_cases q2 : zz + m ≤ 1048576
          · obtain ⟨gc, hgc⟩ : ∃ x, x = gk := ⟨_, rfl⟩
            go_wp2_with fail
            go_loopg [11, 13] (m + 1) (fun g l k wr => w = wr ∧ ∃ (j : Nat) (zz : Int), j ≤ m ∧ k = .int .i64 j ∧ g + j = m + 1 ∧ l = .int .i64 zz ∧ 0 ≤ zz ∧ zz ≤ 1048576)
            case atStart => exact ⟨rfl, 0, _, by omega, rfl, by omega, rfl, by omega, by omega⟩
            case round =>
              obtain ⟨rfl, j, zz, hj, rfl, hg2, rfl, z0, z1⟩ := hrel
              by_cases hlt2 : j < m
              · obtain ⟨b', o', rfl, hb', hc'⟩ := (unhide hI').at' j hlt2
                generalize hS : S1 i j = s at *
                clear hS
                by_cases q3 : s.size ≤ 1048576
                · by_cases q4 : zz + s.size ≤ 1048576
                  · go_wp2_with fail
                    go_roundg (gk - 1)
                    case measure => omega
                    case rel => exact ⟨rfl, j + 1, _, by omega, by go_num, by omega, rfl, by omega, by omega⟩
                  · go_wp2_with fail
                    go_ret
                    exact ⟨⟨_, rfl⟩, rfl⟩
                · go_wp2_with fail
                  go_ret
                  exact ⟨⟨_, rfl⟩, rfl⟩
              · go_wp2_with fail
                go_roundg (gc - 1)
                case measure => omega
                case rel => exact ⟨rfl, i + 1, _, by omega, by go_num, by omega, rfl, by omega, by omega⟩
          · go_wp2_with fail
            go_ret
            exact ⟨⟨_, rfl⟩, rfl⟩
        · go_wp2_with fail
          go_ret
          exact ⟨⟨_, rfl⟩, rfl⟩
      · by_cases b2 : n2 ≤ 1048576
        · by_cases b3 : zz + n2 ≤ 1048576
          · go_wp2_with fail
            go_loopg [11, 14] (n2 + 1) (fun g l k wr => w = wr ∧ ∃ (i : Nat) (zz : Int), i ≤ n2 ∧ k = .int .i64 i ∧ g + i = n2 + 1 ∧ l = .int .i64 zz ∧ 0 ≤ zz ∧ zz ≤ 1048576)
            case atStart => exact ⟨rfl, 0, _, by omega, rfl, by omega, rfl, by omega, by omega⟩
            case round =>
              obtain ⟨rfl, i, zz, hi, rfl, hg, rfl, z0, z1⟩ := hrel
              by_cases hlt : i < n2
              · obtain ⟨b, o, ia, ic, rfl, hb, hc, hI⟩ := (unhide H2).at' i hlt
                have hm := hI.small
                have hI' := hide hI
                unfold maxLen at hm
                clear hI
                generalize M2 i = m at *
                by_cases q1 : m ≤ 1048576
                · by_cases q2 : zz + m ≤ 1048576
                  · obtain ⟨gc, hgc⟩ : ∃ x, x = gk := ⟨_, rfl⟩
                    go_wp2_with fail
                    go_loopg [11, 15] (m + 1) (fun g l k wr => w = wr ∧ ∃ (j : Nat) (zz : Int), j ≤ m ∧ k = .int .i64 j ∧ g + j = m + 1 ∧ l = .int .i64 zz ∧ 0 ≤ zz ∧ zz ≤ 1048576)
                    case atStart => exact ⟨rfl, 0, _, by omega, rfl, by omega, rfl, by omega, by omega⟩
                    case round =>
                      obtain ⟨rfl, j, zz, hj, rfl, hg2, rfl, z0, z1⟩ := hrel
                      by_cases hlt2 : j < m
                      · obtain ⟨b', o', rfl, hb', hc'⟩ := (unhide hI').at' j hlt2
                        generalize hS : S2 i j = s at *
                        clear hS
                        by_cases q3 : s.size ≤ 1048576
                        · by_cases q4 : zz + s.size ≤ 1048576
                          · go_wp2_with fail
                            go_roundg (gk - 1)
                            case measure => omega
                            case rel => exact ⟨rfl, j + 1, _, by omega, by go_num, by omega, rfl, by omega, by omega⟩
                          · go_wp2_with fail
                            go_ret
                            exact ⟨⟨_, rfl⟩, rfl⟩
                        · go_wp2_with fail
                          go_ret
                          exact ⟨⟨_, rfl⟩, rfl⟩
                      · go_wp2_with fail
                        go_roundg (gc - 1)
                        case measure => omega
                        case rel => exact ⟨rfl, i + 1, _, by omega, by go_num, by omega, rfl, by omega, by omega⟩
                  · go_wp2_with fail
                    go_ret
                    exact ⟨⟨_, rfl⟩, rfl⟩
                · go_wp2_with fail
                  go_ret
                  exact ⟨⟨_, rfl⟩, rfl⟩
              · by_cases b4 : n ≤ 1048576
                · by_cases b5 : zz + n ≤ 1048576
                  · go_wp2_with fail
                    go_ret
                    exact ⟨⟨_, rfl⟩, rfl⟩
                  · go_wp2_with fail
                    go_ret
                    exact ⟨⟨_, rfl⟩, rfl⟩
                · go_wp2_with fail
                  go_ret
                  exact ⟨⟨_, rfl⟩, rfl⟩
          · go_wp2_with fail
            go_ret
            exact ⟨⟨_, rfl⟩, rfl⟩
        · go_wp2_with fail
          go_ret
          exact ⟨⟨_, rfl⟩, rfl⟩
  · go_enter Try.func15, Try.ntmps15
    go_wp2_with fail
    go_ret
    exact ⟨⟨_, rfl⟩, rfl⟩

set_option maxRecDepth 100000 in
set_option maxHeartbeats 4000000 in
theorem bytesB_any (w : World) (a1 a2 a3 : Option Addr) (n1 n2 n c1 c2 c3 : Nat) (x y z : Int) (M1 M2 : Nat → Nat) (S1 S2 : Nat → Nat → ByteArray) (h1 : Outer w a1 n1 M1 S1) (h2 : Outer w a2 n2 M2 S2) (hn : n ≤ maxLen) :
    Calls Try.prog 23 #[.slice a1 n1 c1, .slice a2 n2 c2, .slice a3 n c3, .int .i64 x, .int .i64 y, .int .i64 z] w fun e w' => AnyB e ∧ w' = w := by
  have H1 := hide h1
  have H2 := hide h2
  have s1 := h1.small
  have s2 := h2.small
  unfold maxLen at hn s1 s2
  clear h1 h2
  by_cases b1 : n1 ≤ 1048576
  · go_enter Try.func23, Try.ntmps23
    go_wp2_with fail
    go_loopg [13, 14] (n1 + 1) (fun g l k wr => w = wr ∧ ∃ (i : Nat) (zz : Int), i ≤ n1 ∧ k = .int .i64 i ∧ g + i = n1 + 1 ∧ l = .int .i64 zz ∧ 0 ≤ zz ∧ zz ≤ 1048576)
    case atStart => exact ⟨rfl, 0, _, by omega, rfl, by omega, rfl, by omega, by omega⟩
    case round =>
      obtain ⟨rfl, i, zz, hi, rfl, hg, rfl, z0, z1⟩ := hrel
      by_cases hlt : i < n1
      · obtain ⟨b, o, ia, ic, rfl, hb, hc, hI⟩ := (unhide H1).at' i hlt
        have hm := hI.small
        have hI' := hide hI
        unfold maxLen at hm
        clear hI
        generalize M1 i = m at *
        by_cases q1 : m ≤ 1048576
        · by_cases q2 : zz + m ≤ 1048576
          · obtain ⟨gc, hgc⟩ : ∃ x, x = gk := ⟨_, rfl⟩
            go_wp2_with fail
            go_loopg [13, 15] (m + 1) (fun g l k wr => w = wr ∧ ∃ (j : Nat) (zz : Int), j ≤ m ∧ k = .int .i64 j ∧ g + j = m + 1 ∧ l = .int .i64 zz ∧ 0 ≤ zz ∧ zz ≤ 1048576)
            case atStart => exact ⟨rfl, 0, _, by omega, rfl, by omega, rfl, by omega, by omega⟩
            case round =>
              obtain ⟨rfl, j, zz, hj, rfl, hg2, rfl, z0, z1⟩ := hrel
              by_cases hlt2 : j < m
              · obtain ⟨b', o', rfl, hb', hc'⟩ := (unhide hI').at' j hlt2
                generalize hS : S1 i j = s at *
                clear hS
                by_cases q3 : s.size ≤ 1048576
                · by_cases q4 : zz + s.size ≤ 1048576
                  · go_wp2_with fail
                    go_roundg (gk - 1)
                    case measure => omega
                    case rel => exact ⟨rfl, j + 1, _, by omega, by go_num, by omega, rfl, by omega, by omega⟩
                  · go_wp2_with fail
                    go_ret
                    exact ⟨⟨_, rfl⟩, rfl⟩
                · go_wp2_with fail
                  go_ret
                  exact ⟨⟨_, rfl⟩, rfl⟩
              · go_wp2_with fail
                go_roundg (gc - 1)
                case measure => omega
                case rel => exact ⟨rfl, i + 1, _, by omega, by go_num, by omega, rfl, by omega, by omega⟩
          · go_wp2_with fail
            go_ret
            exact ⟨⟨_, rfl⟩, rfl⟩
        · go_wp2_with fail
          go_ret
          exact ⟨⟨_, rfl⟩, rfl⟩
      · by_cases b2 : n2 ≤ 1048576
        · by_cases b3 : zz + n2 ≤ 1048576
          · go_wp2_with fail
            go_loopg [13, 16] (n2 + 1) (fun g l k wr => w = wr ∧ ∃ (i : Nat) (zz : Int), i ≤ n2 ∧ k = .int .i64 i ∧ g + i = n2 + 1 ∧ l = .int .i64 zz ∧ 0 ≤ zz ∧ zz ≤ 1048576)
            case atStart => exact ⟨rfl, 0, _, by omega, rfl, by omega, rfl, by omega, by omega⟩
            case round =>
              obtain ⟨rfl, i, zz, hi, rfl, hg, rfl, z0, z1⟩ := hrel
              by_cases hlt : i < n2
              · obtain ⟨b, o, ia, ic, rfl, hb, hc, hI⟩ := (unhide H2).at' i hlt
                have hm := hI.small
                have hI' := hide hI
                unfold maxLen at hm
                clear hI
                generalize M2 i = m at *
                by_cases q1 : m ≤ 1048576
                · by_cases q2 : zz + m ≤ 1048576
                  · obtain ⟨gc, hgc⟩ : ∃ x, x = gk := ⟨_, rfl⟩
                    go_wp2_with fail
                    go_loopg [13, 17] (m + 1) (fun g l k wr => w = wr ∧ ∃ (j : Nat) (zz : Int), j ≤ m ∧ k = .int .i64 j ∧ g + j = m + 1 ∧ l = .int .i64 zz ∧ 0 ≤ zz ∧ zz ≤ 1048576)
                    case atStart => exact ⟨rfl, 0, _, by omega, rfl, by omega, rfl, by omega, by omega⟩
                    case round =>
                      obtain ⟨rfl, j, zz, hj, rfl, hg2, rfl, z0, z1⟩ := hrel
                      by_cases hlt2 : j < m
                      · obtain ⟨b', o', rfl, hb', hc'⟩ := (unhide hI').at' j hlt2
                        generalize hS : S2 i j = s at *
                        clear hS
                        by_cases q3 : s.size ≤ 1048576
                        · by_cases q4 : zz + s.size ≤ 1048576
                          · go_wp2_with fail
                            go_roundg (gk - 1)
                            case measure => omega
                            case rel => exact ⟨rfl, j + 1, _, by omega, by go_num, by omega, rfl, by omega, by omega⟩
                          · go_wp2_with fail
                            go_ret
                            exact ⟨⟨_, rfl⟩, rfl⟩
                        · go_wp2_with fail
                          go_ret
                          exact ⟨⟨_, rfl⟩, rfl⟩
                      · go_wp2_with fail
                        go_roundg (gc - 1)
                        case measure => omega
                        case rel => exact ⟨rfl, i + 1, _, by omega, by go_num, by omega, rfl, by omega, by omega⟩
                  · go_wp2_with fail
                    go_ret
                    exact ⟨⟨_, rfl⟩, rfl⟩
                · go_wp2_with fail
                  go_ret
                  exact ⟨⟨_, rfl⟩, rfl⟩
              · by_cases b4 : n ≤ 1048576
                · by_cases b5 : zz + n ≤ 1048576
                  · go_wp2_with fail
                    go_ret
                    exact ⟨⟨_, rfl⟩, rfl⟩
                  · go_wp2_with fail
                    go_ret
                    exact ⟨⟨_, rfl⟩, rfl⟩
                · go_wp2_with fail
                  go_ret
                  exact ⟨⟨_, rfl⟩, rfl⟩
          · go_wp2_with fail
            go_ret
            exact ⟨⟨_, rfl⟩, rfl⟩
        · go_wp2_with fail
          go_ret
          exact ⟨⟨_, rfl⟩, rfl⟩
  · go_enter Try.func23, Try.ntmps23
    go_wp2_with fail
    go_ret
    exact ⟨⟨_, rfl⟩, rfl⟩
end Go.Proofs.Qxb6618114a
