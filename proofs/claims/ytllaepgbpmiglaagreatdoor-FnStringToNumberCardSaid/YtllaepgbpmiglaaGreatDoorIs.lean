/- Walks: errors.Is of a *strconv.NumError that wraps another sentinel than the one asked for: false. After the kit's worked SentryIs. -/
import Derived.Test.YtllaepgbpmiglaaGreatDoorProg
import Derived.WalkKit
import Derived.LaidEql
import Derived.Stop.Asserts
import Derived.RowKitTokens
namespace Go.Proofs.YtllaepgbpmiglaaGreatDoor
open Go.RowKit Go.Extern.Stop Go.Stop Go.Extern
theorem isTypeOf (v : Value) (w : World) : (Extern.ReflectliteType.typeOf #[.iface 111 v]).run Tryz.prog w = .ok (.iface 60 (.agg #[.pointer (some ⟨16, 111, none⟩)])) w := by kernel_rfl
theorem isComparable (w : World) : (callFunc 113 #[.agg #[.pointer (some ⟨16, 111, none⟩)]]).run Tryz.prog w = .ok (.value (.bool true)) w := by
  rw [run_callFunc_extern (e := Extern.ReflectliteType.method fun t => do Extern.Rtype.noPackHeld "Comparable" t; pure (.bool (← typeInfo t).comparable)) Tryz.func113 (by kernel_rfl) (by kernel_rfl) (by kernel_rfl) (by kernel_rfl)]
  kernel_rfl
theorem isMethodComparable (v : Value) (w : World) : (Go.method 290 60 v "Comparable").run Tryz.prog w = .ok (113, v) w := by kernel_rfl
theorem isComp : (Tryz.prog.info? 111).map (·.comparable) = some true := by kernel_rfl
theorem isSize : (Tryz.prog.info? 113).map (·.size) = some 1 := by kernel_rfl
theorem noIsE (v : Value) (xT : TypeId) (w : World) : (Instr.typeAssert (.iface 111 v) xT 62 true).run Tryz.prog w = .ok (.tuple #[.nilIface, .bool false]) w := run_typeAssert_lacksB Tryz.underlying62 (by kernel_rfl) (by kernel_rfl) v xT w
theorem noUnwrapE (v : Value) (xT : TypeId) (w : World) : (Instr.typeAssert (.iface 111 v) xT 65 true).run Tryz.prog w = .ok (.tuple #[.nilIface, .bool false]) w := run_typeAssert_lacksB Tryz.underlying65 (by kernel_rfl) (by kernel_rfl) v xT w
theorem noUnwrapsE (v : Value) (xT : TypeId) (w : World) : (Instr.typeAssert (.iface 111 v) xT 67 true).run Tryz.prog w = .ok (.tuple #[.nilIface, .bool false]) w := run_typeAssert_lacksB Tryz.underlying67 (by kernel_rfl) (by kernel_rfl) v xT w
theorem noIsW (v : Value) (xT : TypeId) (w : World) : (Instr.typeAssert (.iface 56 v) xT 62 true).run Tryz.prog w = .ok (.tuple #[.nilIface, .bool false]) w := run_typeAssert_lacksB Tryz.underlying62 (by kernel_rfl) (by kernel_rfl) v xT w
theorem hasUnwrapW (v : Value) (xT : TypeId) (w : World) : (Instr.typeAssert (.iface 56 v) xT 65 true).run Tryz.prog w = .ok (.tuple #[.iface 56 v, .bool true]) w := run_typeAssert_hasB Tryz.underlying65 (by kernel_rfl) v xT w
theorem methodUnwrap (v : Value) (w : World) : (Go.method 290 56 v "Unwrap").run Tryz.prog w = .ok (109, v) w := by kernel_rfl
set_option maxRecDepth 1000000 in
theorem is_num_other (N : Nat) (a b : Addr) (ca cb : Array Value) (ta tb : TypeId) (x0 x1 : Value) (w : World) (h1 : w.heap[N]? = some (.cells #[x0, x1, .iface 111 (.pointer (some a))] 78 (0, 0))) (hne : a ≠ b)
    (ha : w.heap[a.block]? = some (.cells ca ta (0, 0))) (hb : w.heap[b.block]? = some (.cells cb tb (0, 0))) :
    Calls Tryz.prog 21 #[.iface 56 (.pointer (some ⟨N, 0, none⟩)), .iface 111 (.pointer (some b))] w fun e w' => e = .returned (.bool false) ∧ w' = w := by
  obtain ⟨i, hi, hcmp⟩ := Option.map_eq_some_iff.1 isComp
  obtain ⟨j, hj, hjs⟩ := Option.map_eq_some_iff.1 isSize
  have hcell : w.cell? ⟨N, 2, none⟩ = some (.iface 111 (.pointer (some a))) := by simp [World.cell?, h1]
  clear h1
  have h8 := @run_callFunc_extern Tryz.prog 27 _ Extern.ReflectliteType.typeOf Tryz.func27 (by kernel_rfl) (by kernel_rfl) (by kernel_rfl) (by kernel_rfl)
  have tT := isTypeOf
  have cT := isComparable
  have mR := isMethodComparable
  have nE := noIsE
  have uE := noUnwrapE
  have vE := noUnwrapsE
  have nW := noIsW
  have uW := hasUnwrapW
  have mU := methodUnwrap
  have heq := run_eql_iface_ptr_other (P := Tryz.prog) w Tryz.underlying38 Tryz.underlying111 hi hcmp hj (by rw [hjs]; decide) hne ha hb
  have hty := run_eql_iface_types (P := Tryz.prog) 56 111 (.pointer (some ⟨N, 0, none⟩)) (.pointer (some b)) Tryz.underlying38 (by decide) w
  go_enter Tryz.func21, Tryz.ntmps21
  go_wp2
  refine wp_loop_rounds 2 ?_
  rw [rounds_succ]
  go_wp2
  rw [rounds_succ]
  go_wp2
  go_ret
  exact ⟨rfl, rfl⟩
end Go.Proofs.YtllaepgbpmiglaaGreatDoor
