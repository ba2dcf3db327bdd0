/- The map of sessions, block by block: its entries are known. -/
import Derived.Test.YbulkbzmwFmtRows
import Derived.WalkKit
import Derived.WalkSpells
import Derived.Laws.StructEq
import Derived.ChangeMaps4
import Derived.MapKept
namespace Go.Proofs.YbulkbzmwFmt.Map
open Go.RowKit Go.ChangeMaps

/-- An entry of the map: the key, the session's block, the entry's stamp. -/
structure E where
  id : ByteArray
  blk : Nat
  born : Nat

def ptr (e : E) : Value := .pointer (some ⟨e.blk, 0, none⟩)
def ent (e : E) : MapEntry := { key := .string e.id, val := ptr e, born := e.born }
def obj (es : List E) (clock : Nat) : Obj := .map (es.map ent).toArray clock

def look (k : ByteArray) : List E → Nat → Option (Nat × Value)
  | [], _ => none
  | e :: es, i => if (k.toList == e.id.toList) = true then some (i, ptr e) else look k es (i + 1)

theorem findNow_eq (k : ByteArray) : ∀ (es : List E) (i : Nat), Instr.findNow .string (.string k) (es.map ent) i = some (look k es i)
  | [], _ => rfl
  | e :: es, i => by
    have ih := findNow_eq k es (i + 1)
    simp only [List.map_cons, Instr.findNow, ent, Instr.sameNow, look, beq_toListBytes]
    cases h : (k.toList == e.id.toList)
    · simpa [ent] using ih
    · rfl

theorem look_none {k : ByteArray} : ∀ {es : List E} (i : Nat), (∀ e ∈ es, k.toList ≠ e.id.toList) → look k es i = none
  | [], _, _ => rfl
  | e :: es, i, h => by
    have h1 : (k.toList == e.id.toList) = false := by simpa using h e (by simp)
    simp only [look, h1, Bool.false_eq_true, if_false]
    exact look_none (i + 1) fun x hx => h x (by simp [hx])

theorem look_some {k : ByteArray} {e : E} {r : List E} (he : k.toList = e.id.toList) : ∀ {l : List E} (i : Nat), (∀ x ∈ l, k.toList ≠ x.id.toList) → look k (l ++ e :: r) i = some (i + l.length, ptr e)
  | [], i, _ => by simp [look, he]
  | x :: l, i, h => by
    have h1 : (k.toList == x.id.toList) = false := by simpa using h x (by simp)
    simp only [List.cons_append, look, h1, Bool.false_eq_true, if_false]
    rw [look_some he (i + 1) fun y hy => h y (by simp [hy])]
    simp; omega

theorem zero52 (w : World) : (zeroValue 52).run Ybaf.prog w = .ok (.pointer none) w := by kernel_rfl

theorem check9 (e : Bool) (k : ByteArray) (w : World) : (Instr.checkKey e 10000 9 (.string k)).run Ybaf.prog w = .ok () w := by
  rw [show (10000 : Nat) = 9999 + 1 from rfl]
  unfold Instr.checkKey
  simp [run_underlying Ybaf.underlying9]

theorem findKey_run (k : ByteArray) (es : List E) (w : World) : (Instr.findKey 9 (.string k) (es.map ent)).run Ybaf.prog w = .ok (look k es 0) w := by
  unfold Instr.findKey
  simp [run_underlying Ybaf.underlying9, findNow_eq]

theorem run_lookup {w : World} {m clock : Nat} {es : List E} (hb : w.heap[m]? = some (obj es clock)) (k : ByteArray) :
    (Instr.lookup 28 (.map (some m)) (.string k) false).run Ybaf.prog w = .ok (((look k es 0).map (·.2)).getD (.pointer none)) w := by
  unfold Instr.lookup
  simp [run_underlying Ybaf.underlying28, MapKept.run_getObj_map hb, check9, findKey_run]
  cases h : look k es 0 with
  | none => simp
  | some x => simp

theorem run_lookup_ok {w : World} {m clock : Nat} {es : List E} (hb : w.heap[m]? = some (obj es clock)) (k : ByteArray) (hl : look k es 0 = none) :
    (Instr.lookup 28 (.map (some m)) (.string k) true).run Ybaf.prog w = .ok (.tuple #[.pointer none, .bool false]) w := by
  unfold Instr.lookup
  simp [run_underlying Ybaf.underlying28, MapKept.run_getObj_map hb, check9, findKey_run, hl]

theorem run_update {w : World} {m clock : Nat} {es : List E} (hb : w.heap[m]? = some (obj es clock)) (k : ByteArray) (blk : Nat) (hl : look k es 0 = none) :
    (Instr.mapUpdate 28 (.map (some m)) (.string k) (.pointer (some ⟨blk, 0, none⟩))).run Ybaf.prog w = .ok () (setBlock w m (obj (es ++ [⟨k, blk, clock⟩]) (clock + 1))) := by
  unfold Instr.mapUpdate
  simp [run_underlying Ybaf.underlying28, MapKept.run_getObj_map hb, check9, findKey_run, hl, MapKept.run_setObj_map _ hb, setBlock, obj, ent, ptr]

theorem run_delete_at {w : World} {m clock i : Nat} {es : List E} {v : Value} (hb : w.heap[m]? = some (obj es clock)) (k : ByteArray) (hl : look k es 0 = some (i, v)) (ty : TypeId) :
    (Builtin.delete_ #[28, 9] ty #[.map (some m), .string k]).run Ybaf.prog w = .ok (.tuple #[]) (setBlock w m (.map ((es.map ent).toArray.eraseIdxIfInBounds i) clock)) := by
  unfold Builtin.delete_
  simp [run_underlying Ybaf.underlying28, MapKept.run_getObj_map hb, check9, findKey_run, hl, MapKept.run_setObj_map _ hb, setBlock]

theorem run_delete {w : World} {m clock : Nat} {l r : List E} {e : E} (hb : w.heap[m]? = some (obj (l ++ e :: r) clock)) (k : ByteArray) (he : k.toList = e.id.toList) (hl : ∀ x ∈ l, k.toList ≠ x.id.toList) (ty : TypeId) :
    (Builtin.delete_ #[28, 9] ty #[.map (some m), .string k]).run Ybaf.prog w = .ok (.tuple #[]) (setBlock w m (obj (l ++ r) clock)) := by
  have hi : ((l ++ e :: r).map ent).toArray.eraseIdxIfInBounds (0 + l.length) = ((l ++ r).map ent).toArray := by
    apply Array.ext'
    rw [Array.toList_eraseIdxIfInBounds]
    simp [List.eraseIdx_append_of_length_le]
  rw [run_delete_at hb k (look_some he 0 hl) ty, hi]
  rfl

theorem run_len {w : World} {m clock : Nat} {es : List E} (hb : w.heap[m]? = some (obj es clock)) (ty : TypeId) :
    (Builtin.len_ #[28] ty #[.map (some m)]).run Ybaf.prog w = .ok (.int .i64 es.length) w := by
  simp [Builtin.len_, run_underlying Ybaf.underlying28, MapKept.run_getObj_map hb, goInt]
end Go.Proofs.YbulkbzmwFmt.Map
