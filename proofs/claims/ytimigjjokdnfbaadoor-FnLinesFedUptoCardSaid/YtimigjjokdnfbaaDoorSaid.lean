/- errors.New, errors.Is by its contracts (lines turned from the worked proof SentryIs), impl.said. -/
import Derived.Test.YtimigjjokdnfbaaDoorMemB
import Derived.Test.YtimigjjokdnfbaaDoorProg
import Derived.WalkKit
import Derived.LaidEql
import Derived.Stop.Asserts
import Derived.RowKitTokens
namespace Go.Proofs.YtimigjjokdnfbaaDoor
open Go Go.RowKit Go.Extern.Stop Go.Stop Go.Extern

theorem is_typeOf (v : Value) (w : World) : (Extern.ReflectliteType.typeOf #[.iface 119 v]).run Tryd.prog w = .ok (.iface 123 (.agg #[.pointer (some ⟨9, 119, none⟩)])) w := by kernel_rfl
/-- What the model says of Comparable. -/
def compExt : Array Value → Sem Value := Extern.ReflectliteType.method fun t => do Extern.Rtype.noPackHeld "Comparable" t; pure (.bool (← typeInfo t).comparable)
theorem is_comparable (w : World) : (compExt #[.agg #[.pointer (some ⟨9, 119, none⟩)]]).run Tryd.prog w = .ok (.bool true) w := by kernel_rfl
theorem is_methodComparable (v : Value) (w : World) : (Go.method 269 123 v "Comparable").run Tryd.prog w = .ok (96, v) w := by kernel_rfl
theorem is_comp : (Tryd.prog.info? 119).map (·.comparable) = some true := by kernel_rfl
theorem is_size : (Tryd.prog.info? 121).map (·.size) = some 1 := by kernel_rfl
theorem noIsE (v : Value) (xT : TypeId) (w : World) : (Instr.typeAssert (.iface 119 v) xT 125 true).run Tryd.prog w = .ok (.tuple #[.nilIface, .bool false]) w := run_typeAssert_lacksB Tryd.underlying125 (by kernel_rfl) (by kernel_rfl) v xT w
theorem noUnwrapE (v : Value) (xT : TypeId) (w : World) : (Instr.typeAssert (.iface 119 v) xT 128 true).run Tryd.prog w = .ok (.tuple #[.nilIface, .bool false]) w := run_typeAssert_lacksB Tryd.underlying128 (by kernel_rfl) (by kernel_rfl) v xT w
theorem noUnwrapsE (v : Value) (xT : TypeId) (w : World) : (Instr.typeAssert (.iface 119 v) xT 129 true).run Tryd.prog w = .ok (.tuple #[.nilIface, .bool false]) w := run_typeAssert_lacksB Tryd.underlying129 (by kernel_rfl) (by kernel_rfl) v xT w

set_option maxRecDepth 100000 in
/-- errors.Is(x, x), x a pointer to an errors.errorString. -/
theorem is_same (a : Addr) (w : World) :
    Calls Tryd.prog 57 #[.iface 119 (.pointer (some a)), .iface 119 (.pointer (some a))] w fun e w' => e = .returned (.bool true) ∧ w' = w := by
  obtain ⟨i, hi, hcmp⟩ := Option.map_eq_some_iff.1 is_comp
  obtain ⟨j, hj, hjs⟩ := Option.map_eq_some_iff.1 is_size
  have h8 := @run_callFunc_extern Tryd.prog 66 _ Extern.ReflectliteType.typeOf Tryd.func66 (by kernel_rfl) (by kernel_rfl) (by kernel_rfl) (by kernel_rfl)
  have h32 := @run_callFunc_extern Tryd.prog 96 _ compExt Tryd.func96 (by kernel_rfl) (by kernel_rfl) (by kernel_rfl) (by kernel_rfl)
  have tT := is_typeOf
  have cT := is_comparable
  have mR := is_methodComparable
  have heq := run_eql_iface_ptr_same (P := Tryd.prog) w a Tryd.underlying65 Tryd.underlying119 hi hcmp hj
  go_enter Tryd.func57, Tryd.ntmps57
  go_wp2
  refine wp_loop_rounds 1 ?_
  rw [rounds_succ]
  go_wp2
  go_ret
  exact ⟨rfl, rfl⟩

set_option maxRecDepth 100000 in
/-- errors.Is(x, y), two different pointers to errors.errorString: false. -/
theorem is_other (a b : Addr) (ca cb : Array Value) (ta tb : TypeId) (w : World) (hne : a ≠ b) (ha : w.heap[a.block]? = some (.cells ca ta (0, 0))) (hb : w.heap[b.block]? = some (.cells cb tb (0, 0))) :
    Calls Tryd.prog 57 #[.iface 119 (.pointer (some a)), .iface 119 (.pointer (some b))] w fun e w' => e = .returned (.bool false) ∧ w' = w := by
  obtain ⟨i, hi, hcmp⟩ := Option.map_eq_some_iff.1 is_comp
  obtain ⟨j, hj, hjs⟩ := Option.map_eq_some_iff.1 is_size
  have h8 := @run_callFunc_extern Tryd.prog 66 _ Extern.ReflectliteType.typeOf Tryd.func66 (by kernel_rfl) (by kernel_rfl) (by kernel_rfl) (by kernel_rfl)
  have h32 := @run_callFunc_extern Tryd.prog 96 _ compExt Tryd.func96 (by kernel_rfl) (by kernel_rfl) (by kernel_rfl) (by kernel_rfl)
  have tT := is_typeOf
  have cT := is_comparable
  have mR := is_methodComparable
  have nE := noIsE
  have uE := noUnwrapE
  have vE := noUnwrapsE
  have heq := run_eql_iface_ptr_other (P := Tryd.prog) w Tryd.underlying65 Tryd.underlying119 hi hcmp hj (by rw [hjs]; decide) hne ha hb
  go_enter Tryd.func57, Tryd.ntmps57
  go_wp2
  refine wp_loop_rounds 1 ?_
  rw [rounds_succ]
  go_wp2
  go_ret
  exact ⟨rfl, rfl⟩

set_option maxRecDepth 100000 in
/-- What an error says. -/
theorem said_nil (w : World) : Calls Tryd.prog 25 #[.nilIface] w fun e w' => e = .returned (.int .i64 0) ∧ w' = w := by
  go_enter Tryd.func25, Tryd.ntmps25
  go_wp2
  go_ret
  exact ⟨rfl, rfl⟩
set_option maxRecDepth 100000 in
theorem said_eof (w : World) (ea : Addr) (he : w.cell? ⟨0, 0, none⟩ = some (.iface 119 (.pointer (some ea)))) :
    Calls Tryd.prog 25 #[.iface 119 (.pointer (some ea))] w fun e w' => e = .returned (.int .i64 1) ∧ w' = w := by
  go_enter Tryd.func25, Tryd.ntmps25
  go_wp2_with fail
  refine (is_same ea w).mono ?_
  rintro e w' ⟨rfl, rfl⟩
  go_wp2
  go_ret
  exact ⟨rfl, rfl⟩
set_option maxRecDepth 100000 in
theorem said_other (w : World) (ea eb : Addr) (ca cb : Array Value) (ta tb : TypeId) (he : w.cell? ⟨0, 0, none⟩ = some (.iface 119 (.pointer (some eb)))) (hne : ea ≠ eb) (ha : w.heap[ea.block]? = some (.cells ca ta (0, 0))) (hb : w.heap[eb.block]? = some (.cells cb tb (0, 0))) :
    Calls Tryd.prog 25 #[.iface 119 (.pointer (some ea))] w fun e w' => e = .returned (.int .i64 2) ∧ w' = w := by
  go_enter Tryd.func25, Tryd.ntmps25
  go_wp2_with fail
  refine (is_other ea eb ca cb ta tb w hne ha hb).mono ?_
  rintro e w' ⟨rfl, rfl⟩
  go_wp2
  go_ret
  exact ⟨rfl, rfl⟩

set_option maxRecDepth 100000 in
theorem errors_new (w : World) (s : ByteArray) : Calls Tryd.prog 63 #[.string s] w fun e w' => e = .returned (.iface 119 (.pointer (some ⟨w.heap.size, 0, none⟩))) ∧ w' = w.alloc (.cells #[.string s] 121) := by
  go_enter Tryd.func63, Tryd.ntmps63
  go_wp2
  go_ret
  exact ⟨rfl, rfl⟩
end Go.Proofs.YtimigjjokdnfbaaDoor
