import Derived.Test.YbulkcqceFmtRows
import Derived.WalkKit
import Derived.LaidEql
import Derived.Stop.Asserts
import Derived.Stop.CallBack
import Derived.Stop.IfaceNil
import Derived.RowKitTokens
import GoSem.ClaimData
namespace Go.Proofs.YbulkcqceFmt
open Go.RowKit Go.Extern.Stop Go.Stop Go.Extern

/-! ### Closed facts for a walk over fmt.errorf -/
theorem call9 (args : Array Value) (w : World) : (callFunc 9 args).run Ybaf.prog w = ((FmtStop.errorf #[9, 77] #[35] args).run Ybaf.prog w).andThen fun v w' => .ok (.value v) w' :=
  run_callFunc_extern Ybaf.func9 (by kernel_rfl) (by kernel_rfl) (by kernel_rfl) (by kernel_rfl) args w
theorem guardF (name : String) (w : World) : (FmtStop.guard name).run Ybaf.prog w = .ok () w := by kernel_rfl
theorem fmt0 : FmtStop.printed? ⟨#[37, 119, 58, 32, 116, 104, 101, 32, 111, 116, 104, 101, 114, 32, 112, 101, 101, 114, 32, 104, 111, 108, 100, 115, 32, 37, 100, 32, 101, 108, 101, 109, 101, 110, 116, 115, 44, 32, 102, 101, 119, 101, 114, 32, 116, 104, 97, 110, 32, 37, 100]⟩ 3 = some [(0, 119, false), (1, 100, false), (2, 100, false)] := by kernel_rfl
theorem fmt0r (w : World) : (FmtDoors.printed ⟨#[37, 119, 58, 32, 116, 104, 101, 32, 111, 116, 104, 101, 114, 32, 112, 101, 101, 114, 32, 104, 111, 108, 100, 115, 32, 37, 100, 32, 101, 108, 101, 109, 101, 110, 116, 115, 44, 32, 102, 101, 119, 101, 114, 32, 116, 104, 97, 110, 32, 37, 100]⟩ 3).run Ybaf.prog w = .ok [(0, 119, false), (1, 100, false), (2, 100, false)] w := by kernel_rfl
theorem fmt1 : FmtStop.printed? ⟨#[37, 119, 58, 32, 116, 104, 101, 32, 111, 116, 104, 101, 114, 32, 112, 101, 101, 114, 32, 104, 111, 108, 100, 115, 32, 37, 100, 32, 101, 108, 101, 109, 101, 110, 116, 115, 44, 32, 109, 111, 114, 101, 32, 116, 104, 97, 110, 32, 116, 104, 101, 32, 37, 100, 32, 116, 104, 105, 115, 32, 112, 101, 101, 114, 32, 109, 97, 121, 32, 104, 111, 108, 100]⟩ 3 = some [(0, 119, false), (1, 100, false), (2, 100, false)] := by kernel_rfl
theorem fmt1r (w : World) : (FmtDoors.printed ⟨#[37, 119, 58, 32, 116, 104, 101, 32, 111, 116, 104, 101, 114, 32, 112, 101, 101, 114, 32, 104, 111, 108, 100, 115, 32, 37, 100, 32, 101, 108, 101, 109, 101, 110, 116, 115, 44, 32, 109, 111, 114, 101, 32, 116, 104, 97, 110, 32, 116, 104, 101, 32, 37, 100, 32, 116, 104, 105, 115, 32, 112, 101, 101, 114, 32, 109, 97, 121, 32, 104, 111, 108, 100]⟩ 3).run Ybaf.prog w = .ok [(0, 119, false), (1, 100, false), (2, 100, false)] w := by kernel_rfl
def shape2 : List UInt8 := [5, 5, 0, 0, 0, 0, 0, 0, 0, 105, 110, 116, 54, 52]
def shape3 : List UInt8 := [5, 3, 0, 0, 0, 0, 0, 0, 0, 105, 110, 116]
theorem op3_100w (name : String) (x : Int) (w : World) : (FmtStop.operand name true 100 false (.iface 3 (.int .i64 x))).run Ybaf.prog w = .ok (shape3, Go.Extern.Stop.digits 8 (x % 2 ^ 64).toNat) w := by kernel_rfl
theorem op2_100w (name : String) (x : Int) (w : World) : (FmtStop.operand name true 100 false (.iface 2 (.int .i64 x))).run Ybaf.prog w = .ok (shape2, Go.Extern.Stop.digits 8 (x % 2 ^ 64).toNat) w := by kernel_rfl
theorem ptr91 (w : World) : (FmtStop.ptrTo "errors.errorString").run Ybaf.prog w = .ok 91 w := by kernel_rfl
theorem elem91 (w : World) : (elemOf 91).run Ybaf.prog w = .ok 93 w := by kernel_rfl
theorem isError91 (w : World) : (FmtDoors.textMethod 91 "Error").run Ybaf.prog w = .ok true w := by kernel_rfl
theorem opPlain91_119w : ∃ P : List UInt8, ∀ (name : String) (a : Addr) (s : ByteArray) (w : World), w.cell? a = some (.string s) →
    (FmtStop.operand name true 119 false (.iface 91 (.pointer (some a)))).run Ybaf.prog w = .ok (P, s.data.toList) w := by
  refine ⟨14 :: FmtStop.pack Ybaf.t91.str.toUTF8.data.toList, fun name a s w hc => ?_⟩
  have h1 : (typeStr 91).run Ybaf.prog w = .ok Ybaf.t91.str w := by kernel_rfl
  have d2 : Ybaf.t91.desc = .pointer 93 := rfl
  have d3 : Ybaf.t93.desc = .named "errors.errorString" 92 := rfl
  simp [FmtStop.operand, h1, d2, d3, run_load, hc]
theorem ptr79 (w : World) : (FmtStop.ptrTo "fmt.wrapError").run Ybaf.prog w = .ok 79 w := by kernel_rfl
theorem elem79 (w : World) : (elemOf 79).run Ybaf.prog w = .ok 145 w := by kernel_rfl
theorem isError79 (w : World) : (FmtDoors.textMethod 79 "Error").run Ybaf.prog w = .ok true w := by kernel_rfl

/-! ### Closed facts for errors.Is -/
theorem isTypeOf (v : Value) (w : World) : (Extern.ReflectliteType.typeOf #[.iface 91 v]).run Ybaf.prog w = .ok (.iface 81 (.agg #[.pointer (some ⟨2, 91, none⟩)])) w := by kernel_rfl
theorem isComparable (w : World) : ((Extern.ReflectliteType.method fun t => do Extern.Rtype.noPackHeld "Comparable" t; pure (.bool (← typeInfo t).comparable)) #[.agg #[.pointer (some ⟨2, 91, none⟩)]]).run Ybaf.prog w = .ok (.bool true) w := by kernel_rfl
theorem call40 (w : World) : (callFunc 40 #[.agg #[.pointer (some ⟨2, 91, none⟩)]]).run Ybaf.prog w = .ok (.value (.bool true)) w := by
  have h := @run_callFunc_extern Ybaf.prog 40 _ (Extern.ReflectliteType.method fun t => do Extern.Rtype.noPackHeld "Comparable" t; pure (.bool (← typeInfo t).comparable)) Ybaf.func40 (by kernel_rfl) (by kernel_rfl) (by kernel_rfl) (by kernel_rfl) #[.agg #[.pointer (some ⟨2, 91, none⟩)]] w
  rw [h, isComparable]
  rfl
theorem call7 (v : Value) (w : World) : (callFunc 7 #[.iface 91 v]).run Ybaf.prog w = .ok (.value (.iface 81 (.agg #[.pointer (some ⟨2, 91, none⟩)]))) w := by
  have h := @run_callFunc_extern Ybaf.prog 7 _ Extern.ReflectliteType.typeOf Ybaf.func7 (by kernel_rfl) (by kernel_rfl) (by kernel_rfl) (by kernel_rfl) #[.iface 91 v] w
  rw [h, isTypeOf]
  rfl
theorem isMethodComparable (v : Value) (w : World) : (Go.method 266 81 v "Comparable").run Ybaf.prog w = .ok (40, v) w := by kernel_rfl
theorem methodUnwrap (v : Value) (w : World) : (Go.method 266 79 v "Unwrap").run Ybaf.prog w = .ok (36, v) w := by kernel_rfl
theorem isComp : (Ybaf.prog.info? 91).map (·.comparable) = some true := by kernel_rfl
theorem isSize : (Ybaf.prog.info? 93).map (·.size) = some 1 := by kernel_rfl
theorem noIsE (v : Value) (xT : TypeId) (w : World) : (Instr.typeAssert (.iface 91 v) xT 83 true).run Ybaf.prog w = .ok (.tuple #[.nilIface, .bool false]) w := run_typeAssert_lacksB Ybaf.underlying83 (by kernel_rfl) (by kernel_rfl) v xT w
theorem noUnwrapE (v : Value) (xT : TypeId) (w : World) : (Instr.typeAssert (.iface 91 v) xT 86 true).run Ybaf.prog w = .ok (.tuple #[.nilIface, .bool false]) w := run_typeAssert_lacksB Ybaf.underlying86 (by kernel_rfl) (by kernel_rfl) v xT w
theorem noUnwrapsE (v : Value) (xT : TypeId) (w : World) : (Instr.typeAssert (.iface 91 v) xT 88 true).run Ybaf.prog w = .ok (.tuple #[.nilIface, .bool false]) w := run_typeAssert_lacksB Ybaf.underlying88 (by kernel_rfl) (by kernel_rfl) v xT w
theorem noIsW (v : Value) (xT : TypeId) (w : World) : (Instr.typeAssert (.iface 79 v) xT 83 true).run Ybaf.prog w = .ok (.tuple #[.nilIface, .bool false]) w := run_typeAssert_lacksB Ybaf.underlying83 (by kernel_rfl) (by kernel_rfl) v xT w
theorem hasUnwrapW (v : Value) (xT : TypeId) (w : World) : (Instr.typeAssert (.iface 79 v) xT 86 true).run Ybaf.prog w = .ok (.tuple #[.iface 79 v, .bool true]) w := run_typeAssert_hasB Ybaf.underlying86 (by kernel_rfl) v xT w

theorem is_wrap_same (pb po : Nat) (b : Addr) (w : World) (h1 : w.cell? ⟨pb, po + 1, none⟩ = some (.iface 91 (.pointer (some b)))) :
    Calls Ybaf.prog 5 #[.iface 79 (.pointer (some ⟨pb, po, none⟩)), .iface 91 (.pointer (some b))] w fun e w' => e = .returned (.bool true) ∧ w' = w := by
  obtain ⟨i, hi, hcmp⟩ := Option.map_eq_some_iff.1 isComp
  obtain ⟨j, hj, hjs⟩ := Option.map_eq_some_iff.1 isSize
  have tT := call7
  have cT := call40
  have mR := isMethodComparable
  have mU := methodUnwrap
  have nE := noIsE
  have uE := noUnwrapE
  have vE := noUnwrapsE
  have nW := noIsW
  have uW := hasUnwrapW
  have heq := run_eql_iface_ptr_same (P := Ybaf.prog) w b Ybaf.underlying35 Ybaf.underlying91 hi hcmp hj
  have hty := run_eql_iface_types (P := Ybaf.prog) 79 91 (.pointer (some ⟨pb, po, none⟩)) (.pointer (some b)) Ybaf.underlying35 (by decide) w
  go_enter Ybaf.func5, Ybaf.ntmps5
  go_wp2
  refine wp_loop_rounds 2 ?_
  rw [rounds_succ]
  go_wp2
  rw [rounds_succ]
  go_wp2
  go_ret
  exact ⟨rfl, rfl⟩

theorem is_wrap_other (pb po : Nat) (b a : Addr) (ca cb : Array Value) (ta tb : TypeId) (w : World) (h1 : w.cell? ⟨pb, po + 1, none⟩ = some (.iface 91 (.pointer (some a)))) (hne : a ≠ b) (ha : w.heap[a.block]? = some (.cells ca ta (0, 0))) (hb : w.heap[b.block]? = some (.cells cb tb (0, 0))) :
    Calls Ybaf.prog 5 #[.iface 79 (.pointer (some ⟨pb, po, none⟩)), .iface 91 (.pointer (some b))] w fun e w' => e = .returned (.bool false) ∧ w' = w := by
  obtain ⟨i, hi, hcmp⟩ := Option.map_eq_some_iff.1 isComp
  obtain ⟨j, hj, hjs⟩ := Option.map_eq_some_iff.1 isSize
  have tT := call7
  have cT := call40
  have mR := isMethodComparable
  have mU := methodUnwrap
  have nE := noIsE
  have uE := noUnwrapE
  have vE := noUnwrapsE
  have nW := noIsW
  have uW := hasUnwrapW
  have heq := run_eql_iface_ptr_other (P := Ybaf.prog) w Ybaf.underlying35 Ybaf.underlying91 hi hcmp hj (by rw [hjs]; decide) hne ha hb
  have hty := run_eql_iface_types (P := Ybaf.prog) 79 91 (.pointer (some ⟨pb, po, none⟩)) (.pointer (some b)) Ybaf.underlying35 (by decide) w
  go_enter Ybaf.func5, Ybaf.ntmps5
  go_wp2
  refine wp_loop_rounds 2 ?_
  rw [rounds_succ]
  go_wp2
  rw [rounds_succ]
  go_wp2
  go_ret
  exact ⟨rfl, rfl⟩
end Go.Proofs.YbulkcqceFmt
