/-
  The errors of the law's road: errors.New, the wrapped error of fmt.Errorf (fmt's text is whatever the tape answers), cmp.Or, errors.Is through one wrap. Turned from the worked texts SentryFmt, SentryIs.
-/
import Derived.Test.YbulkdxxmFmtRows
import Derived.WalkKit
import Derived.LaidEql
import Derived.Stop.Asserts
import Derived.Stop.CallBack
import Derived.Stop.IfaceNil
import Derived.RowKitTokens
import GoSem.ClaimData
namespace Go.Proofs.YbulkdxxmFmt
open Go.RowKit Go.Extern.Stop Go.Stop Go.Extern

/-! fmt.errorf, the stop -/
@[go_sem] theorem Ybaf.call24 (args : Array Value) (w : World) : (callFunc 24 args).run Ybaf.prog w = ((FmtStop.errorf #[9, 99] #[28] args).run Ybaf.prog w).andThen fun v w' => .ok (.value v) w' :=
  run_callFunc_extern Ybaf.func24 (by kernel_rfl) (by kernel_rfl) (by kernel_rfl) (by kernel_rfl) args w
@[go_sem] theorem Ybaf.guard (name : String) (w : World) : (FmtStop.guard name).run Ybaf.prog w = .ok () w := by kernel_rfl
@[go_sem] theorem Ybaf.fmt0 : FmtStop.printed? ⟨#[114, 101, 97, 100, 105, 110, 103, 32, 37, 115, 58, 32, 37, 119]⟩ 2 = some [(0, 115, false), (1, 119, false)] := by kernel_rfl
@[go_sem] theorem Ybaf.fmt0r (w : World) : (FmtDoors.printed ⟨#[114, 101, 97, 100, 105, 110, 103, 32, 37, 115, 58, 32, 37, 119]⟩ 2).run Ybaf.prog w = .ok [(0, 115, false), (1, 119, false)] w := by kernel_rfl
def Ybaf.shape9 : List UInt8 := [12, 6, 0, 0, 0, 0, 0, 0, 0, 115, 116, 114, 105, 110, 103]
@[go_sem] theorem Ybaf.op9_115w (name : String) (x : ByteArray) (w : World) : (FmtStop.operand name true 115 false (.iface 9 (.string x))).run Ybaf.prog w = .ok (Ybaf.shape9, FmtStop.pack x.data.toList) w := by kernel_rfl
@[go_sem] theorem Ybaf.ptr67 (w : World) : (FmtStop.ptrTo "errors.errorString").run Ybaf.prog w = .ok 67 w := by kernel_rfl
@[go_sem] theorem Ybaf.elem67 (w : World) : (elemOf 67).run Ybaf.prog w = .ok 69 w := by kernel_rfl
@[go_sem] theorem Ybaf.isError67' (w : World) : (FmtDoors.textMethod 67 "Error").run Ybaf.prog w = .ok true w := by kernel_rfl
def Ybaf.plain67 : List UInt8 := 14 :: FmtStop.pack "*errors.errorString".toUTF8.data.toList
theorem Ybaf.opPlain67_119w (name : String) (a : Addr) (s : ByteArray) (w : World) (hc : w.cell? a = some (.string s)) :
    (FmtStop.operand name true 119 false (.iface 67 (.pointer (some a)))).run Ybaf.prog w = .ok (Ybaf.plain67, s.data.toList) w := by
  have h1 : (typeStr 67).run Ybaf.prog w = .ok "*errors.errorString" w := by kernel_rfl
  have d2 : Ybaf.t67.desc = .pointer 69 := rfl
  have d3 : Ybaf.t69.desc = .named "errors.errorString" 68 := rfl
  simp [FmtStop.operand, h1, d2, d3, run_load, hc, Ybaf.plain67]
@[go_sem] theorem Ybaf.ptr100 (w : World) : (FmtStop.ptrTo "fmt.wrapError").run Ybaf.prog w = .ok 100 w := by kernel_rfl
@[go_sem] theorem Ybaf.elem100 (w : World) : (elemOf 100).run Ybaf.prog w = .ok 159 w := by kernel_rfl
@[go_sem] theorem Ybaf.isError100' (w : World) : (FmtDoors.textMethod 100 "Error").run Ybaf.prog w = .ok true w := by kernel_rfl

/-! errors.Is -/
theorem Ybaf.isTypeOf (v : Value) (w : World) : (Extern.ReflectliteType.typeOf #[.iface 67 v]).run Ybaf.prog w = .ok (.iface 82 (.agg #[.pointer (some ⟨3, 67, none⟩)])) w := by kernel_rfl
/-- reflectlite's entry for Comparable. -/
def comparableEntry : Array Value → Sem Value := Extern.ReflectliteType.method fun t => do Extern.Rtype.noPackHeld "Comparable" t; pure (.bool (← typeInfo t).comparable)
theorem Ybaf.isComparable (w : World) : (comparableEntry #[.agg #[.pointer (some ⟨3, 67, none⟩)]]).run Ybaf.prog w = .ok (.bool true) w := by kernel_rfl
theorem Ybaf.isComp : (Ybaf.prog.info? 67).map (·.comparable) = some true := by kernel_rfl
theorem Ybaf.isSize : (Ybaf.prog.info? 69).map (·.size) = some 1 := by kernel_rfl
theorem Ybaf.noIsW (v : Value) (xT : TypeId) (w : World) : (Instr.typeAssert (.iface 100 v) xT 84 true).run Ybaf.prog w = .ok (.tuple #[.nilIface, .bool false]) w := run_typeAssert_lacksB Ybaf.underlying84 (by kernel_rfl) (by kernel_rfl) v xT w
theorem Ybaf.hasUnwrapW (v : Value) (xT : TypeId) (w : World) : (Instr.typeAssert (.iface 100 v) xT 87 true).run Ybaf.prog w = .ok (.tuple #[.iface 100 v, .bool true]) w := run_typeAssert_hasB Ybaf.underlying87 (by kernel_rfl) v xT w
theorem Ybaf.isMethodComparable (v : Value) (w : World) : (Go.method 283 82 v "Comparable").run Ybaf.prog w = .ok (66, v) w := by kernel_rfl
theorem Ybaf.methodUnwrap (v : Value) (w : World) : (Go.method 283 100 v "Unwrap").run Ybaf.prog w = .ok (76, v) w := by kernel_rfl

set_option maxRecDepth 100000 in
/-- errors.Is(e, x), e a *fmt.wrapError that wraps x itself. -/
theorem is_wrap_same (pb po : Nat) (b : Addr) (w : World) (h1 : w.cell? ⟨pb, po + 1, none⟩ = some (.iface 67 (.pointer (some b)))) :
    Calls Ybaf.prog 8 #[.iface 100 (.pointer (some ⟨pb, po, none⟩)), .iface 67 (.pointer (some b))] w fun e w' => e = .returned (.bool true) ∧ w' = w := by
  obtain ⟨i, hi, hcmp⟩ := Option.map_eq_some_iff.1 Ybaf.isComp
  obtain ⟨j, hj, hjs⟩ := Option.map_eq_some_iff.1 Ybaf.isSize
  have h8 := @run_callFunc_extern Ybaf.prog 13 _ Extern.ReflectliteType.typeOf Ybaf.func13 (by kernel_rfl) (by kernel_rfl) (by kernel_rfl) (by kernel_rfl)
  have h32 := @run_callFunc_extern Ybaf.prog 66 _ comparableEntry Ybaf.func66 (by kernel_rfl) (by kernel_rfl) (by kernel_rfl) (by kernel_rfl)
  have tT := Ybaf.isTypeOf
  have cT := Ybaf.isComparable
  have mR := Ybaf.isMethodComparable
  have nW := Ybaf.noIsW
  have uW := Ybaf.hasUnwrapW
  have mU := Ybaf.methodUnwrap
  have heq := run_eql_iface_ptr_same (P := Ybaf.prog) w b Ybaf.underlying28 Ybaf.underlying67 hi hcmp hj
  have hty := run_eql_iface_types (P := Ybaf.prog) 100 67 (.pointer (some ⟨pb, po, none⟩)) (.pointer (some b)) Ybaf.underlying28 (by decide) w
  go_enter Ybaf.func8, Ybaf.ntmps8
  go_wp2
  refine wp_loop_rounds 2 ?_
  rw [rounds_succ]
  go_wp2
  rw [rounds_succ]
  go_wp2
  go_ret
  exact ⟨rfl, rfl⟩

end Go.Proofs.YbulkdxxmFmt
