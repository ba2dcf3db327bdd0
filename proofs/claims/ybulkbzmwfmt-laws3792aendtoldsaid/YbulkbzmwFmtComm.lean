/- Communication inside a plain region, as a law on Code.wp: each operation one step of the machine of one. -/
import Derived.Test.YbulkbzmwFmtRows
import Derived.WalkKit
import Derived.Conc.LoneCalls
import Derived.Conc.LoneSelectN
namespace Go.Proofs.YbulkbzmwFmt.Comm
open Go.RowKit Go.Conc

/-- What is asked where a region stands with the operations 'l' still to come. -/
def RegAt (P : Program) (ops : Array Oper) (Q : Exit → Act → World → Prop) (l : List Nat) (a : Act) (w : World) : Prop :=
  ∀ (b : Frame) (k : List Item) (cs : List Frame), ∃ e a' w', Q e a' w' ∧ Arrives P (lone (b.at a (.inRegion ops l :: k)) cs w) b k cs e a' w'

section
variable {P : Program} {ops : Array Oper} {Q : Exit → Act → World → Prop} {a : Act} {w w' : World} {i : Nat} {rest : List Nat} {o : Oper}

theorem regAt_start {id : Nat} (h : RegAt P ops Q (List.range ops.size) a w) : (Code.region id ops false).wp P Q a w :=
  fun b k cs => let ⟨e, a', w', q, r⟩ := h b k cs; ⟨e, a', w', q, .of_steps (.one step_region) r⟩

theorem regAt_plain {l : List Nat} (h : wpOps P ops Q l a w) : RegAt P ops Q l a w := wp_ops l a w h

theorem regAt_end (h : Q .normal a w) : RegAt P ops Q [] a w := fun _ _ _ => ⟨.normal, a, w, h, .one step_region_end⟩

/-- An operation that yields a value. -/
theorem regAt_val {v : Value} (ho : ops[i]? = some o) (hw : Region.wanted o (yielded ops a.tmps) = true) (hr : (execOp a.eval o).run P w = .ok (.value v) w')
    (h : RegAt P ops Q rest (a.put o.dst v) w') : RegAt P ops Q (i :: rest) a w := by
  intro b k cs
  have hg := stepG_op (P := P) (b := b) (k := k) (cs := cs) (w := w) (rest := rest) ho hw
  have hfin : ∀ v, (b.at a (.inRegion ops (i :: rest) :: k)).finish v = b.at (a.put o.dst v) (.inRegion ops rest :: k) := by
    intro v; rw [Frame.finish_at, ho]; rfl
  obtain ⟨e, a', w'', hq, harr⟩ := h b k cs
  refine ⟨e, a', w'', hq, .of_steps (.one (step_lone_go ?_)) harr⟩
  rw [hg, ← hfin]; simp [stepG.apply, hr]

theorem regAt_start' {id : Nat} {l : List Nat} (hl : List.range ops.size = l) (h : RegAt P ops Q l a w) : (Code.region id ops false).wp P Q a w := by
  subst hl; exact regAt_start h

/-- The rest of the region, from operation k on, by the walk's own list. -/
theorem regAt_list {l : List Nat} {os : List Oper} (k : Nat) (hl : List.range' k (ops.toList.drop k).length = l) (ho : ops.toList.drop k = os) (h : wpList P ops Q os a w) : RegAt P ops Q l a w := by
  subst hl; subst ho
  exact regAt_plain (by rw [wpOps_eq_wpList _ k (fun j => by simp)]; exact h)

/-- An operation that yields a value, what follows behind a variable. -/
theorem regAt_oper (ho : ops[i]? = some o) (hw : Region.wanted o (yielded ops a.tmps) = true)
    (h : ∀ K : Act → World → Prop, (∀ a w, RegAt P ops Q rest a w → K a w) → ∃ v w', (execOp a.eval o).run P w = .ok (.value v) w' ∧ K (a.put o.dst v) w') : RegAt P ops Q (i :: rest) a w := by
  obtain ⟨v, w', hr, hk⟩ := h _ (fun _ _ h => h)
  exact regAt_val ho hw hr hk

/-- An operation that communicates: the machine's step is that communication, in whatever frame. -/
theorem comm_step {cases : Array CommCase} {blocking : Bool} {shape : CommShape} (ho : ops[i]? = some o) (hw : Region.wanted o (yielded ops a.tmps) = true)
    (hr : (execOp a.eval o).run P w = .ok (.comm cases blocking shape) w') (b : Frame) (k : List Item) (cs : List Frame) :
    ∃ es, stepG P true (G (b.at a (.inRegion ops (i :: rest) :: k)) cs) w = .comm (G (b.at a (.inRegion ops (i :: rest) :: k)) cs) cases blocking shape w' es := by
  have hg := stepG_op (P := P) (b := b) (k := k) (cs := cs) (w := w) (rest := rest) ho hw
  have hg' : stepG P true (G (b.at a (.inRegion ops (i :: rest) :: k)) cs) w = stepG.apply P true (b.at a (.inRegion ops (i :: rest) :: k)) cs none (execOp a.eval o) w := hg
  rw [hg']
  simp only [stepG.apply, Sem.runT_eq, hr, if_true]
  exact ⟨_, rfl⟩

theorem regAt_send {c cap s r : Nat} {buf : Array Value} {tm : Bool} {v z : Value} (ho : ops[i]? = some o) (hw : Region.wanted o (yielded ops a.tmps) = true)
    (hr : (execOp a.eval o).run P w = .ok (.comm #[scase c v z] true .send) w') (hc : w'.heap[c]? = some (.chan cap buf false s r tm)) (hroom : buf.size < cap)
    (h : RegAt P ops Q rest (a.put o.dst undef) (w'.setChan c cap (buf.push v) false (s + 1) r tm)) : RegAt P ops Q (i :: rest) a w := by
  intro b k cs
  obtain ⟨es, hs⟩ := comm_step (rest := rest) ho hw hr b k cs
  have hst := step_lone_send_room hs hc hroom
  rw [Frame.finish_at, ho] at hst
  obtain ⟨e, a', w'', hq, harr⟩ := h b k cs
  exact ⟨e, a', w'', hq, .of_steps (.one hst) harr⟩

theorem regAt_sel_send {cases : Array CommCase} {n c cap s r : Nat} {buf : Array Value} {tm blocking : Bool} {v z : Value} (ho : ops[i]? = some o) (hw : Region.wanted o (yielded ops a.tmps) = true)
    (hr : (execOp a.eval o).run P w = .ok (.comm cases blocking .select) w') (hk : cases[n]? = some (scase c v z)) (hno : ∀ (m : Nat) (c' : CommCase), m ≠ n → cases[m]? = some c' → NoWay w' c')
    (hc : w'.heap[c]? = some (.chan cap buf false s r tm)) (hroom : buf.size < cap)
    (h : RegAt P ops Q rest (a.put o.dst (commResult cases .select n undef false)) (w'.setChan c cap (buf.push v) false (s + 1) r tm)) : RegAt P ops Q (i :: rest) a w := by
  intro b k cs
  obtain ⟨es, hs⟩ := comm_step (rest := rest) ho hw hr b k cs
  have hst := step_lone_sel_send_room hs hk hno hc hroom
  rw [Frame.finish_at, ho] at hst
  obtain ⟨e, a', w'', hq, harr⟩ := h b k cs
  exact ⟨e, a', w'', hq, .of_steps (.one hst) harr⟩

theorem regAt_sel_default {cases : Array CommCase} (ho : ops[i]? = some o) (hw : Region.wanted o (yielded ops a.tmps) = true)
    (hr : (execOp a.eval o).run P w = .ok (.comm cases false .select) w') (hno : ∀ cc ∈ cases, NoWay w' cc)
    (h : RegAt P ops Q rest (a.put o.dst (commResult cases .select (-1) undef false)) w') : RegAt P ops Q (i :: rest) a w := by
  intro b k cs
  obtain ⟨es, hs⟩ := comm_step (rest := rest) ho hw hr b k cs
  have hst := step_lone_sel_default hs hno
  rw [Frame.finish_at, ho] at hst
  obtain ⟨e, a', w'', hq, harr⟩ := h b k cs
  exact ⟨e, a', w'', hq, .of_steps (.one hst) harr⟩
end
end Go.Proofs.YbulkbzmwFmt.Comm
