/-
  errors.Is at what the token laws hand it: an error of the package's own number type that wraps a sentinel, held against that sentinel or another one.
-/
import Derived.Test.YtmocaapfbpefpaaGreatDoorProg
import Derived.WalkKit
import Derived.Below
import Derived.Outline
import Derived.WalkLawsBesides
import Derived.WalkSpells
import Derived.Lib.Hide
import Derived.LaidEql
import Derived.Stop.Asserts
import Derived.RowKitTokens
namespace Go.Proofs.YtmocaapfbpefpaaGreatDoor.Own
open Go.RowKit Go.Extern.Stop Go.Stop Go.Extern
theorem isTypeOf (v : Value) (w : World) : (Extern.ReflectliteType.typeOf #[.iface 159 v]).run Tryz.prog w = .ok (.iface 95 (.agg #[.pointer (some ⟨20, 159, none⟩)])) w := by kernel_rfl
theorem isComparable (w : World) : ((Extern.ReflectliteType.method fun t => do Extern.Rtype.noPackHeld "Comparable" t; (fun a => Value.bool a.comparable) <$> typeInfo t) #[.agg #[.pointer (some ⟨20, 159, none⟩)]]).run Tryz.prog w = .ok (.bool true) w := by kernel_rfl
theorem isMethodComparable (v : Value) (w : World) : (Go.method 356 95 v "Comparable").run Tryz.prog w = .ok (166, v) w := by kernel_rfl
theorem isComp : (Tryz.prog.info? 159).map (·.comparable) = some true := by kernel_rfl
theorem isSize : (Tryz.prog.info? 161).map (·.size) = some 1 := by kernel_rfl
theorem noIsE (v : Value) (xT : TypeId) (w : World) : (Instr.typeAssert (.iface 159 v) xT 97 true).run Tryz.prog w = .ok (.tuple #[.nilIface, .bool false]) w := run_typeAssert_lacksB Tryz.underlying97 (by kernel_rfl) (by kernel_rfl) v xT w
theorem noUnwrapE (v : Value) (xT : TypeId) (w : World) : (Instr.typeAssert (.iface 159 v) xT 100 true).run Tryz.prog w = .ok (.tuple #[.nilIface, .bool false]) w := run_typeAssert_lacksB Tryz.underlying100 (by kernel_rfl) (by kernel_rfl) v xT w
theorem noUnwrapsE (v : Value) (xT : TypeId) (w : World) : (Instr.typeAssert (.iface 159 v) xT 102 true).run Tryz.prog w = .ok (.tuple #[.nilIface, .bool false]) w := run_typeAssert_lacksB Tryz.underlying102 (by kernel_rfl) (by kernel_rfl) v xT w
theorem noIsW (v : Value) (xT : TypeId) (w : World) : (Instr.typeAssert (.iface 49 v) xT 97 true).run Tryz.prog w = .ok (.tuple #[.nilIface, .bool false]) w := run_typeAssert_lacksB Tryz.underlying97 (by kernel_rfl) (by kernel_rfl) v xT w
theorem hasUnwrapW (v : Value) (xT : TypeId) (w : World) : (Instr.typeAssert (.iface 49 v) xT 100 true).run Tryz.prog w = .ok (.tuple #[.iface 49 v, .bool true]) w := run_typeAssert_hasB Tryz.underlying100 (by kernel_rfl) v xT w
theorem methodUnwrap (v : Value) (w : World) : (Go.method 356 49 v "Unwrap").run Tryz.prog w = .ok (159, v) w := by kernel_rfl
set_option maxRecDepth 100000 in
/-- errors.Is(e, x), e a number's error that wraps x itself: one Unwrap, then equal. -/
theorem is_num_same (pb : Nat) (b : Addr) (w : World) (h1 : w.cell? ⟨pb, 2, none⟩ = some (.iface 159 (.pointer (some b)))) :
    Calls Tryz.prog 27 #[.iface 49 (.pointer (some ⟨pb, 0, none⟩)), .iface 159 (.pointer (some b))] w fun e w' => e = .returned (.bool true) ∧ w' = w := by
  obtain ⟨i, hi, hcmp⟩ := Option.map_eq_some_iff.1 isComp
  obtain ⟨j, hj, hjs⟩ := Option.map_eq_some_iff.1 isSize
  have h8 := @run_callFunc_extern Tryz.prog 36 _ Extern.ReflectliteType.typeOf Tryz.func36 (by kernel_rfl) (by kernel_rfl) (by kernel_rfl) (by kernel_rfl)
  have h32 := @run_callFunc_extern Tryz.prog 166 _ (Extern.ReflectliteType.method fun t => do Extern.Rtype.noPackHeld "Comparable" t; pure (.bool (← typeInfo t).comparable)) Tryz.func166 (by kernel_rfl) (by kernel_rfl) (by kernel_rfl) (by kernel_rfl)
  have tT := isTypeOf
  have cT := isComparable
  have mR := isMethodComparable
  have nE := noIsE
  have uE := noUnwrapE
  have vE := noUnwrapsE
  have nW := noIsW
  have uW := hasUnwrapW
  have mU := methodUnwrap
  have heq := run_eql_iface_ptr_same (P := Tryz.prog) w b Tryz.underlying30 Tryz.underlying159 hi hcmp hj
  have hty := run_eql_iface_types (P := Tryz.prog) 49 159 (.pointer (some ⟨pb, 0, none⟩)) (.pointer (some b)) Tryz.underlying30 (by decide) w
  go_enter Tryz.func27, Tryz.ntmps27
  go_wp2
  refine wp_loop_rounds 2 ?_
  rw [rounds_succ]
  go_wp2
  rw [rounds_succ]
  go_wp2
  go_ret
  exact ⟨rfl, rfl⟩
set_option maxRecDepth 100000 in
/-- errors.Is(e, x), e a number's error that wraps another sentinel. -/
theorem is_num_other (pb : Nat) (b a : Addr) (ca cb : Array Value) (ta tb : TypeId) (w : World) (h1 : w.cell? ⟨pb, 2, none⟩ = some (.iface 159 (.pointer (some a)))) (hne : a ≠ b) (ha : w.heap[a.block]? = some (.cells ca ta (0, 0))) (hb : w.heap[b.block]? = some (.cells cb tb (0, 0))) :
    Calls Tryz.prog 27 #[.iface 49 (.pointer (some ⟨pb, 0, none⟩)), .iface 159 (.pointer (some b))] w fun e w' => e = .returned (.bool false) ∧ w' = w := by
  obtain ⟨i, hi, hcmp⟩ := Option.map_eq_some_iff.1 isComp
  obtain ⟨j, hj, hjs⟩ := Option.map_eq_some_iff.1 isSize
  have h8 := @run_callFunc_extern Tryz.prog 36 _ Extern.ReflectliteType.typeOf Tryz.func36 (by kernel_rfl) (by kernel_rfl) (by kernel_rfl) (by kernel_rfl)
  have h32 := @run_callFunc_extern Tryz.prog 166 _ (Extern.ReflectliteType.method fun t => do Extern.Rtype.noPackHeld "Comparable" t; pure (.bool (← typeInfo t).comparable)) Tryz.func166 (by kernel_rfl) (by kernel_rfl) (by kernel_rfl) (by kernel_rfl)
  have tT := isTypeOf
  have cT := isComparable
  have mR := isMethodComparable
  have nE := noIsE
  have uE := noUnwrapE
  have vE := noUnwrapsE
  have nW := noIsW
  have uW := hasUnwrapW
  have mU := methodUnwrap
  have heq := run_eql_iface_ptr_other (P := Tryz.prog) w Tryz.underlying30 Tryz.underlying159 hi hcmp hj (by rw [hjs]; decide) hne ha hb
  have hty := run_eql_iface_types (P := Tryz.prog) 49 159 (.pointer (some ⟨pb, 0, none⟩)) (.pointer (some b)) Tryz.underlying30 (by decide) w
  go_enter Tryz.func27, Tryz.ntmps27
  go_wp2
  refine wp_loop_rounds 2 ?_
  rw [rounds_succ]
  go_wp2
  rw [rounds_succ]
  go_wp2
  go_ret
  exact ⟨rfl, rfl⟩
end Go.Proofs.YtmocaapfbpefpaaGreatDoor.Own
