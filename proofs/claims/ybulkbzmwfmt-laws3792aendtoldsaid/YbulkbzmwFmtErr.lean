/- fmt.Errorf("%w: %q", sentinel, id) over the stop, and errors.Is of what it makes, at this dump's numbers. -/
import Derived.Test.YbulkbzmwFmtRows
import Derived.WalkKit
import Derived.WalkSpells
import Derived.LaidEql
import Derived.Stop.Asserts
import Derived.Stop.CallBack
import Derived.Stop.IfaceNil
import Derived.RowKitTokens
import GoSem.ClaimData
namespace Go.Proofs.YbulkbzmwFmt.Err
open Go.RowKit Go.Extern.Stop Go.Stop Go.Extern

theorem call33 (args : Array Value) (w : World) : (callFunc 33 args).run Ybaf.prog w = ((FmtStop.errorf #[9, 97] #[58] args).run Ybaf.prog w).andThen fun v w' => .ok (.value v) w' :=
  run_callFunc_extern Ybaf.func33 (by kernel_rfl) (by kernel_rfl) (by kernel_rfl) (by kernel_rfl) args w
theorem guard (name : String) (w : World) : (FmtStop.guard name).run Ybaf.prog w = .ok () w := by kernel_rfl
theorem fmt0 : FmtStop.printed? ⟨#[37, 119, 58, 32, 37, 113]⟩ 2 = some [(0, 119, false), (1, 113, false)] := by kernel_rfl
theorem fmt0r (w : World) : (FmtDoors.printed ⟨#[37, 119, 58, 32, 37, 113]⟩ 2).run Ybaf.prog w = .ok [(0, 119, false), (1, 113, false)] w := by kernel_rfl
def shape9 : List UInt8 := [12, 6, 0, 0, 0, 0, 0, 0, 0, 115, 116, 114, 105, 110, 103]
theorem op9_113w (name : String) (x : ByteArray) (w : World) : (FmtStop.operand name true 113 false (.iface 9 (.string x))).run Ybaf.prog w = .ok (shape9, FmtStop.pack x.data.toList) w := by kernel_rfl
theorem ptr109 (w : World) : (FmtStop.ptrTo "errors.errorString").run Ybaf.prog w = .ok 109 w := by kernel_rfl
theorem elem109 (w : World) : (elemOf 109).run Ybaf.prog w = .ok 111 w := by kernel_rfl
theorem isError109' (w : World) : (FmtDoors.textMethod 109 "Error").run Ybaf.prog w = .ok true w := by kernel_rfl
def plain109 : List UInt8 := 14 :: FmtStop.pack "*errors.errorString".toUTF8.data.toList
theorem opPlain109_119w (name : String) (a : Addr) (s : ByteArray) (w : World) (hc : w.cell? a = some (.string s)) :
    (FmtStop.operand name true 119 false (.iface 109 (.pointer (some a)))).run Ybaf.prog w = .ok (plain109, s.data.toList) w := by
  have h1 : (typeStr 109).run Ybaf.prog w = .ok "*errors.errorString" w := by kernel_rfl
  have d2 : Ybaf.t109.desc = .pointer 111 := rfl
  have d3 : Ybaf.t111.desc = .named "errors.errorString" 110 := rfl
  simp [FmtStop.operand, h1, d2, d3, run_load, hc, plain109]
theorem ptr99 (w : World) : (FmtStop.ptrTo "fmt.wrapError").run Ybaf.prog w = .ok 99 w := by kernel_rfl
theorem elem99 (w : World) : (elemOf 99).run Ybaf.prog w = .ok 148 w := by kernel_rfl

/-! ### errors.Is -/
theorem isTypeOf (v : Value) (w : World) : (callFunc 16 #[.iface 109 v]).run Ybaf.prog w = .ok (.value (.iface 79 (.agg #[.pointer (some ⟨1, 109, none⟩)]))) w := by kernel_rfl
theorem isComparable (w : World) : (callFunc 76 #[.agg #[.pointer (some ⟨1, 109, none⟩)]]).run Ybaf.prog w = .ok (.value (.bool true)) w := by kernel_rfl
theorem isMethodComparable (v : Value) (w : World) : (Go.method 296 79 v "Comparable").run Ybaf.prog w = .ok (76, v) w := by kernel_rfl
theorem methodUnwrap (v : Value) (w : World) : (Go.method 296 99 v "Unwrap").run Ybaf.prog w = .ok (86, v) w := by kernel_rfl
theorem isComp : (Ybaf.prog.info? 109).map (·.comparable) = some true := by kernel_rfl
theorem isSize : (Ybaf.prog.info? 111).map (·.size) = some 1 := by kernel_rfl
theorem noIsW (v : Value) (xT : TypeId) (w : World) : (Instr.typeAssert (.iface 99 v) xT 81 true).run Ybaf.prog w = .ok (.tuple #[.nilIface, .bool false]) w := run_typeAssert_lacksB Ybaf.underlying81 (by kernel_rfl) (by kernel_rfl) v xT w
theorem hasUnwrapW (v : Value) (xT : TypeId) (w : World) : (Instr.typeAssert (.iface 99 v) xT 84 true).run Ybaf.prog w = .ok (.tuple #[.iface 99 v, .bool true]) w := run_typeAssert_hasB Ybaf.underlying84 (by kernel_rfl) v xT w

set_option maxRecDepth 100000 in
set_option maxHeartbeats 1000000 in
/-- errors.Is(e, x), e a *fmt.wrapError that wraps x itself. -/
theorem is_wrap_same (pb : Nat) (b : Addr) (w : World) (h1 : w.cell? ⟨pb, 1, none⟩ = some (.iface 109 (.pointer (some b)))) :
    Calls Ybaf.prog 7 #[.iface 99 (.pointer (some ⟨pb, 0, none⟩)), .iface 109 (.pointer (some b))] w fun e w' => e = .returned (.bool true) ∧ w' = w := by
  obtain ⟨i, hi, hcmp⟩ := Option.map_eq_some_iff.1 isComp
  obtain ⟨j, hj, hjs⟩ := Option.map_eq_some_iff.1 isSize
  have tT := isTypeOf
  have cT := isComparable
  have mR := isMethodComparable
  have mU := methodUnwrap
  have nW := noIsW
  have uW := hasUnwrapW
  have heq := run_eql_iface_ptr_same (P := Ybaf.prog) w b Ybaf.underlying58 Ybaf.underlying109 hi hcmp hj
  have hty := run_eql_iface_types (P := Ybaf.prog) 99 109 (.pointer (some ⟨pb, 0, none⟩)) (.pointer (some b)) Ybaf.underlying58 (by decide) w
  go_enter Ybaf.func7, Ybaf.ntmps7
  go_wp2
  refine wp_loop_rounds 2 ?_
  rw [rounds_succ]
  go_wp2
  rw [rounds_succ]
  go_wp2
  go_ret
  exact ⟨rfl, rfl⟩

set_option maxRecDepth 100000 in
set_option maxHeartbeats 1000000 in
/-- fmt.Errorf("%w: %q", x, id): a new *fmt.wrapError that holds x. -/
theorem errorf_any (F : Interp) (vb : Nat) (a : Addr) (s : ByteArray) (id : ByteArray) (w : World) (hF : F.answers w.tape) (c0 : w.cell? ⟨vb, 0, none⟩ = some (.iface 109 (.pointer (some a)))) (c1 : w.cell? ⟨vb, 1, none⟩ = some (.iface 9 (.string id))) (hs : w.cell? a = some (.string s)) :
    Calls Ybaf.prog 22 #[.string ⟨#[37, 119, 58, 32, 37, 113]⟩, .slice (some ⟨vb, 0, none⟩) 2 2] w fun e w' => e = .returned (.iface 99 (.pointer (some ⟨w.heap.size, 0, none⟩))) ∧ Below w.heap.size w w' ∧ w'.cell? ⟨w.heap.size, 1, none⟩ = some (.iface 109 (.pointer (some a))) := by
  have hF' : ∀ i name reading k range, w.tape i (.extern (word name reading k) range) = F name reading k := hF
  have hop := opPlain109_119w "fmt.errorf" a s _ hs
  have q33 := call33
  have qg := guard
  have q0 := fmt0
  have q1 := fmt0r
  have q2 := op9_113w
  have q3 := ptr109
  have q4 := elem109
  have q5 := isError109'
  have q6 := ptr99
  have q7 := elem99
  go_enter Ybaf.func22, Ybaf.ntmps22
  go_wp2
  go_ret
  exact ⟨rfl, ((Below.refl _ _).alloc (Nat.le_refl _) _).drew, by simp [go_sem]⟩
end Go.Proofs.YbulkbzmwFmt.Err
