import Derived.Test.Qxb6618799aDoorChecked
import Derived.WalkKit
import Derived.LaidEql
import Derived.Stop.Asserts
import Derived.RowKitTokens
import Derived.BigQuiet
namespace Go.Proofs.Qxb6618799aDoor
open Go.RowKit Go.Extern.Stop Go.Stop Go.Extern
set_option linter.unusedVariables false
set_option linter.unusedSimpArgs false

theorem isTypeOf (v : Value) (w : World) : (Extern.ReflectliteType.typeOf #[.iface 88 v]).run Tryd.prog w = .ok (.iface 78 (.agg #[.pointer (some ⟨5, 88, none⟩)])) w := by kernel_rfl
def cmpF (t : TypeId) : Sem Value := do Extern.Rtype.noPackHeld "Comparable" t; pure (.bool (← typeInfo t).comparable)
theorem isComparable (w : World) : (Extern.ReflectliteType.method cmpF #[.agg #[.pointer (some ⟨5, 88, none⟩)]]).run Tryd.prog w = .ok (.bool true) w := by kernel_rfl
theorem isMethodComparable (v : Value) (w : World) : (Go.method 231 78 v "Comparable").run Tryd.prog w = .ok (56, v) w := by kernel_rfl
theorem isComp : (Tryd.prog.info? 88).map (·.comparable) = some true := by kernel_rfl
theorem isSize : (Tryd.prog.info? 115).map (·.size) = some 1 := by kernel_rfl

theorem results_tmp4 {fn : Func} {t u v x : Tmp} (h : fn.results = #[.tmp t, .tmp u, .tmp v, .tmp x]) (tmps : Array Value) (P : Program) (w : World) :
    (results fn tmps).run P w = .ok (.tuple #[tmps.getD t undef, tmps.getD u undef, tmps.getD v undef, tmps.getD x undef]) w := by
  simp [results, h]
theorem results_tmp5 {fn : Func} {t u v x y : Tmp} (h : fn.results = #[.tmp t, .tmp u, .tmp v, .tmp x, .tmp y]) (tmps : Array Value) (P : Program) (w : World) :
    (results fn tmps).run P w = .ok (.tuple #[tmps.getD t undef, tmps.getD u undef, tmps.getD v undef, tmps.getD x undef, tmps.getD y undef]) w := by
  simp [results, h]
theorem assert_format (v : Value) (xT : TypeId) (w : World) : (Instr.typeAssert (.iface 64 v) xT 64 true).run Tryd.prog w = .ok (.tuple #[v, .bool true]) w := by
  simp [Instr.typeAssert, run_underlying Tryd.underlying64, go_sem, Result.andThen]
theorem assert_bufio (v : Value) (xT : TypeId) (w : World) : (Instr.typeAssert (.iface 38 v) xT 36 true).run Tryd.prog w = .ok (.tuple #[.pointer none, .bool false]) w := by kernel_rfl

/-- errors.Is(x, x), x a pointer to an errors.errorString. -/
theorem is_same (a : Addr) (w : World) :
    Calls Tryd.prog 23 #[.iface 88 (.pointer (some a)), .iface 88 (.pointer (some a))] w fun e w' => e = .returned (.bool true) ∧ w' = w := by
  obtain ⟨i, hi, hcmp⟩ := Option.map_eq_some_iff.1 isComp
  obtain ⟨j, hj, hjs⟩ := Option.map_eq_some_iff.1 isSize
  have h8 := @run_callFunc_extern Tryd.prog 26 _ Extern.ReflectliteType.typeOf Tryd.func26 (by kernel_rfl) (by kernel_rfl) (by kernel_rfl) (by kernel_rfl)
  have h32 := @run_callFunc_extern Tryd.prog 56 _ (Extern.ReflectliteType.method cmpF) Tryd.func56 (by kernel_rfl) (by kernel_rfl) (by kernel_rfl) (by kernel_rfl)
  have tT := isTypeOf
  have cT := isComparable
  have mR := isMethodComparable
  have heq := run_eql_iface_ptr_same (P := Tryd.prog) w a Tryd.underlying43 Tryd.underlying88 hi hcmp hj
  go_enter Tryd.func23, Tryd.ntmps23
  go_wp2
  refine wp_loop_rounds 1 ?_
  rw [rounds_succ]
  go_wp2
  go_ret
  exact ⟨rfl, rfl⟩

/-- errors.Is(nil, x). -/
theorem is_nil (b : Addr) (w : World) :
    Calls Tryd.prog 23 #[.nilIface, .iface 88 (.pointer (some b))] w fun e w' => e = .returned (.bool false) ∧ w' = w := by
  have hn := run_eql_iface_nil_left (P := Tryd.prog) w 88 (.pointer (some b)) Tryd.underlying43
  go_enter Tryd.func23, Tryd.ntmps23
  go_wp2
  go_ret
  exact ⟨rfl, rfl⟩

/-- What is known of the two sentinels. -/
structure Sents (w : World) (e u : Addr) : Prop where
  g1 : w.cell? ⟨1, 0, none⟩ = some (.iface 88 (.pointer (some e)))
  g2 : w.cell? ⟨2, 0, none⟩ = some (.iface 88 (.pointer (some u)))
  ne : u ≠ e
  be : ∃ c t, w.heap[e.block]? = some (.cells c t (0, 0))
  bu : ∃ c t, w.heap[u.block]? = some (.cells c t (0, 0))

/-- zzErrKind. -/
theorem kind_nil (w : World) :
    Calls Tryd.prog 18 #[.nilIface] w fun e w' => e = .returned (.tuple #[.bool true, .bool false, .bool false, .int .i64 0]) ∧ w' = w := by
  go_enter Tryd.func18, Tryd.ntmps18
  go_wp2
  refine bodyPost_ret (results_tmp4 rfl _ _ _) rfl ?_
  exact ⟨rfl, rfl⟩
theorem kind_eof (w : World) (a u : Addr) (S : Sents w a u) :
    Calls Tryd.prog 18 #[.iface 88 (.pointer (some a))] w fun e w' => e = .returned (.tuple #[.bool false, .bool true, .bool false, .int .i64 0]) ∧ w' = w := by
  obtain ⟨i, hi, hcmp⟩ := Option.map_eq_some_iff.1 isComp
  obtain ⟨j, hj, hjs⟩ := Option.map_eq_some_iff.1 isSize
  have heq := run_eql_iface_ptr_same (P := Tryd.prog) w a Tryd.underlying43 Tryd.underlying88 hi hcmp hj
  have h1 := S.g1
  go_enter Tryd.func18, Tryd.ntmps18
  go_wp2
  refine bodyPost_ret (results_tmp4 rfl _ _ _) rfl ?_
  exact ⟨rfl, rfl⟩
theorem kind_format (w : World) (a u : Addr) (S : Sents w a u) (o : Int) (s : ByteArray) :
    Calls Tryd.prog 18 #[.iface 64 (.agg #[.int .i64 o, .string s])] w fun e w' => e = .returned (.tuple #[.bool false, .bool false, .bool true, .int .i64 o]) ∧ ∃ q, w' = (w.alloc (.cells #[.int .i64 o, .string s] 64)).drewN q := by
  have hty := run_eql_iface_types (P := Tryd.prog) 64 88 (.agg #[.int .i64 o, .string s]) (.pointer (some a)) Tryd.underlying43 (by decide) w
  have h1 := S.g1
  have hA := assert_format
  go_enter Tryd.func18, Tryd.ntmps18
  go_wp2_with fail
  go_quiet (fail)
  go_wp2_with fail
  refine bodyPost_ret (results_tmp4 rfl _ _ _) rfl ?_
  exact ⟨rfl, _, rfl⟩
end Go.Proofs.Qxb6618799aDoor
