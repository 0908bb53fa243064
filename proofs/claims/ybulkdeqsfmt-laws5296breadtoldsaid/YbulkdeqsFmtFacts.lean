/-
  THE CLOSED FACTS FOR A WALK OVER fmt's STOPPED FRONT AND OVER errors.Is, at this dump's numbers.
-/
import Derived.Test.YbulkdeqsFmtCards
import Derived.WalkKit
import Derived.WalkSpells
import Derived.Stop.CallBack
import Derived.Stop.IfaceNil
import Derived.Stop.Asserts
import Derived.LaidEql
import GoSem.ClaimData
namespace Go.Proofs.YbulkdeqsFmt
open Go.RowKit Go.Extern.Stop Go.Stop Go.Extern

theorem call12 (args : Array Value) (w : World) : (callFunc 12 args).run Ybaf.prog w = ((FmtStop.errorf #[9, 47] #[24] args).run Ybaf.prog w).andThen fun v w' => .ok (.value v) w' :=
  run_callFunc_extern Ybaf.func12 (by kernel_rfl) (by kernel_rfl) (by kernel_rfl) (by kernel_rfl) args w
theorem guardF (name : String) (w : World) : (FmtStop.guard name).run Ybaf.prog w = .ok () w := by kernel_rfl
theorem fmt0 : FmtStop.printed? ⟨#[114, 101, 97, 100, 105, 110, 103, 32, 37, 115, 58, 32, 37, 119]⟩ 2 = some [(0, 115, false), (1, 119, false)] := by kernel_rfl
theorem fmt0r (w : World) : (FmtDoors.printed ⟨#[114, 101, 97, 100, 105, 110, 103, 32, 37, 115, 58, 32, 37, 119]⟩ 2).run Ybaf.prog w = .ok [(0, 115, false), (1, 119, false)] w := by kernel_rfl
def shape9 : List UInt8 := [12, 6, 0, 0, 0, 0, 0, 0, 0, 115, 116, 114, 105, 110, 103]
theorem op9_115w (name : String) (x : ByteArray) (w : World) : (FmtStop.operand name true 115 false (.iface 9 (.string x))).run Ybaf.prog w = .ok (shape9, FmtStop.pack x.data.toList) w := by kernel_rfl
theorem ptr33 (w : World) : (FmtStop.ptrTo "errors.errorString").run Ybaf.prog w = .ok 33 w := by kernel_rfl
theorem elem33 (w : World) : (elemOf 33).run Ybaf.prog w = .ok 35 w := by kernel_rfl
theorem isError33 (w : World) : (FmtDoors.textMethod 33 "Error").run Ybaf.prog w = .ok true w := by kernel_rfl
theorem ptr48 (w : World) : (FmtStop.ptrTo "fmt.wrapError").run Ybaf.prog w = .ok 48 w := by kernel_rfl
theorem elem48 (w : World) : (elemOf 48).run Ybaf.prog w = .ok 85 w := by kernel_rfl
theorem isError48 (w : World) : (FmtDoors.textMethod 48 "Error").run Ybaf.prog w = .ok true w := by kernel_rfl

/-- the name under which an error of errors.New's make is read. -/
def nameIn (d : DataW Unit) : String :=
  match d with
  | .iface n _ => n
  | _ => "none"
def plain33 : List UInt8 := 14 :: FmtStop.pack (nameIn Rows.laid_io_EOF).toUTF8.data.toList
theorem opPlain33_119w (name : String) (a : Addr) (s : ByteArray) (w : World) (hc : w.cell? a = some (.string s)) :
    (FmtStop.operand name true 119 false (.iface 33 (.pointer (some a)))).run Ybaf.prog w = .ok (plain33, s.data.toList) w := by
  have h1 : (typeStr 33).run Ybaf.prog w = .ok (nameIn Rows.laid_io_EOF) w := by kernel_rfl
  have d2 : Ybaf.t33.desc = .pointer 35 := rfl
  have d3 : Ybaf.t35.desc = .named "errors.errorString" 34 := rfl
  simp [FmtStop.operand, h1, d2, d3, run_load, hc, plain33]

/-! ### errors.Is -/
theorem callType (v : Value) (w : World) : (callFunc 9 #[.iface 33 v]).run Ybaf.prog w = .ok (.value (.iface 50 (.agg #[.pointer (some ⟨3, 33, none⟩)]))) w := by
  rw [@run_callFunc_extern Ybaf.prog 9 _ Extern.ReflectliteType.typeOf Ybaf.func9 (by kernel_rfl) (by kernel_rfl) (by kernel_rfl) (by kernel_rfl)]
  kernel_rfl
theorem callComp (w : World) : (callFunc 35 #[.agg #[.pointer (some ⟨3, 33, none⟩)]]).run Ybaf.prog w = .ok (.value (.bool true)) w := by
  rw [@run_callFunc_extern Ybaf.prog 35 _ (Extern.ReflectliteType.method fun t => do Extern.Rtype.noPackHeld "Comparable" t; pure (.bool (← typeInfo t).comparable)) Ybaf.func35 (by kernel_rfl) (by kernel_rfl) (by kernel_rfl) (by kernel_rfl)]
  kernel_rfl
theorem isMethodComparable (v : Value) (w : World) : (Go.method 200 50 v "Comparable").run Ybaf.prog w = .ok (35, v) w := by kernel_rfl
theorem noIsW (v : Value) (xT : TypeId) (w : World) : (Instr.typeAssert (.iface 48 v) xT 52 true).run Ybaf.prog w = .ok (.tuple #[.nilIface, .bool false]) w := run_typeAssert_lacksB Ybaf.underlying52 (by kernel_rfl) (by kernel_rfl) v xT w
theorem hasUnwrapW (v : Value) (xT : TypeId) (w : World) : (Instr.typeAssert (.iface 48 v) xT 55 true).run Ybaf.prog w = .ok (.tuple #[.iface 48 v, .bool true]) w := run_typeAssert_hasB Ybaf.underlying55 (by kernel_rfl) v xT w
theorem methodUnwrap (v : Value) (w : World) : (Go.method 200 48 v "Unwrap").run Ybaf.prog w = .ok (31, v) w := by kernel_rfl
theorem comp33 : (Ybaf.prog.info? 33).map (·.comparable) = some true := by kernel_rfl
theorem sz35 : (Ybaf.prog.info? 35).map (·.size) = some 1 := by kernel_rfl

set_option maxHeartbeats 1000000 in
/-- errors.Is(e, x), e a fmt.wrapError that wraps x itself: one Unwrap, then equal. -/
theorem is_wrap_same (pb po : Nat) (b : Addr) (w : World) (h1 : w.cell? ⟨pb, po + 1, none⟩ = some (.iface 33 (.pointer (some b)))) :
    Calls Ybaf.prog 6 #[.iface 48 (.pointer (some ⟨pb, po, none⟩)), .iface 33 (.pointer (some b))] w fun e w' => e = .returned (.bool true) ∧ w' = w := by
  obtain ⟨i, hi, hcmp⟩ := Option.map_eq_some_iff.1 comp33
  obtain ⟨j, hj, hjs⟩ := Option.map_eq_some_iff.1 sz35
  have tT := callType
  have cT := callComp
  have mR := isMethodComparable
  have nW := noIsW
  have uW := hasUnwrapW
  have mU := methodUnwrap
  have heq := run_eql_iface_ptr_same (P := Ybaf.prog) w b Ybaf.underlying24 Ybaf.underlying33 hi hcmp hj
  have hty := run_eql_iface_types (P := Ybaf.prog) 48 33 (.pointer (some ⟨pb, po, none⟩)) (.pointer (some b)) Ybaf.underlying24 (by decide) w
  go_enter Ybaf.func6, Ybaf.ntmps6
  go_wp2
  refine wp_loop_rounds 2 ?_
  rw [rounds_succ]
  go_wp2
  rw [rounds_succ]
  go_wp2
  go_ret
  exact ⟨rfl, rfl⟩

end Go.Proofs.YbulkdeqsFmt
