/- The call of 'end' in the law's world. -/
import Derived.Test.YbulkbzmwFmtInv
namespace Go.Proofs.YbulkbzmwFmt.Call
open Go.RowKit Go.Conc Go.ChangeMaps Go.Extern Go.Extern.Stop Go.Stop Go.Proofs.YbulkbzmwFmt.Map Go.Proofs.YbulkbzmwFmt.Lim Go.Proofs.YbulkbzmwFmt.Sess Go.Proofs.YbulkbzmwFmt.End Go.Proofs.YbulkbzmwFmt.Inv

/-- What the search has found among the first k. -/
def SeekIs (rs : List Rec) (id : ByteArray) (k : Nat) (z : Int) : Prop :=
  (z = -1 ∧ ∀ j x, j < k → rs[j]? = some x → x.e.id.toList ≠ id.toList) ∨ ∃ (j : Nat) (x : Rec), z = (j : Int) ∧ j < k ∧ rs[j]? = some x ∧ x.e.id.toList = id.toList

theorem SeekIs.hit {rs : List Rec} {id : ByteArray} {k : Nat} {x : Rec} (hx : rs[k]? = some x) (he : x.e.id.toList = id.toList) : SeekIs rs id (k + 1) k := .inr ⟨k, x, rfl, Nat.lt_succ_self k, hx, he⟩
theorem SeekIs.miss {rs : List Rec} {id : ByteArray} {k : Nat} {z : Int} {x : Rec} (h : SeekIs rs id k z) (hx : rs[k]? = some x) (he : x.e.id.toList ≠ id.toList) : SeekIs rs id (k + 1) z := by
  rcases h with ⟨hz, h⟩ | ⟨j, y, hz, hj, hy, h⟩
  · refine .inl ⟨hz, fun j y hj hy => ?_⟩
    by_cases e : j = k
    · subst e; rw [hx] at hy; cases hy; exact he
    · exact h j y (by omega) hy
  · exact .inr ⟨j, y, hz, by omega, hy, h⟩

/-- Is the session found, and not expired? -/
def LiveIs (rs : List Rec) (z : Int) : Prop := ∃ (j : Nat) (x : Rec), z = (j : Int) ∧ rs[j]? = some x ∧ ¬ x.ttl < -x.rep

theorem part {rs : List Rec} {j : Nat} {x : Rec} (h : rs[j]? = some x) : rs = rs.take j ++ x :: rs.drop (j + 1) := by
  obtain ⟨hj, hx⟩ := List.getElem?_eq_some_iff.1 h
  rw [← hx, List.getElem_cons_drop]
  exact (List.take_append_drop j rs).symm

section
variable {w W : World} {G : Gs} {B n : Nat} {owed : Int} {buf : Array Value} {s : Nat} {rs : List Rec} {clock : Nat} {id : ByteArray} {z : Int}

theorem apart (h : (rs.map (·.e.id.toList)).Nodup) {j : Nat} {x : Rec} (hx : rs[j]? = some x) (he : x.e.id.toList = id.toList) :
    (∀ y ∈ (rs.take j).map Rec.e, id.toList ≠ y.id.toList) ∧ (∀ y ∈ (rs.drop (j + 1)).map Rec.e, id.toList ≠ y.id.toList) := by
  have hp := part hx
  rw [hp] at h
  simp only [List.map_append, List.map_cons] at h
  rw [List.nodup_append] at h
  obtain ⟨_, h2, h3⟩ := h
  rw [List.nodup_cons] at h2
  refine ⟨fun y hy e => ?_, fun y hy e => ?_⟩
  · obtain ⟨v, hv, rfl⟩ := List.mem_map.1 hy
    exact h3 v.e.id.toList (List.mem_map_of_mem (f := fun x : Rec => x.e.id.toList) hv) x.e.id.toList (by simp) (e.symm.trans he.symm)
  · obtain ⟨v, hv, rfl⟩ := List.mem_map.1 hy
    exact h2.1 (by rw [he, e]; exact List.mem_map_of_mem (f := fun x : Rec => x.e.id.toList) hv)

theorem clock_of (h : Inv w W G B n owed buf s rs clock) : Clock W (B + 3) B :=
  ⟨h.st.c17, cell_of_row W B 0 _ 26 (0, 0) h.bb, cell_of_row W B 1 _ 26 (0, 0) h.bb, cell_of_row W B 2 _ 26 (0, 0) h.bb⟩

theorem end_no (F : Interp) (a : Addr) (s0 : ByteArray) (h : Inv w W G B n owed buf s rs clock) (hB : B = w.heap.size) (hF : F.answers w.tape) (hg : w.cell? ⟨0, 0, none⟩ = some (.iface 109 (.pointer (some a)))) (hs : w.cell? a = some (.string s0))
    (hf : SeekIs rs id rs.length z) (hno : ¬ LiveIs rs z) :
    Calls Ybaf.prog 6 #[.pointer (some ⟨B + 3, 0, none⟩), .string id] W fun e w' => ∃ m, e = .returned (.tuple #[.pointer none, .iface 99 (.pointer (some ⟨m, 0, none⟩))]) ∧ w'.cell? ⟨m, 1, none⟩ = some (.iface 109 (.pointer (some a))) ∧ Ended W w' (B + 3) (B + 1) (B + 2) clock (rs.map Rec.e) buf.size := by
  have hsz := h.size
  obtain ⟨q1, q2, q3, q4, q5⟩ := h.ok
  have h0B : 0 < B := by have := World.block_lt_of_cell? _ _ hg; rw [hB]; exact this
  have haB : a.block < B := by have := World.block_lt_of_cell? _ _ hs; rw [hB]; exact this
  have hblk : ∀ k, k ≠ B + 3 → (W.setCell ⟨B + 3, 1, none⟩ (.int .i32 1)).heap[k]? = W.heap[k]? := fun k hk => heap_setCell hk
  have c4 : (W.setCell ⟨B + 3, 1, none⟩ (.int .i32 1)).cell? ⟨B + 3, 4, none⟩ = some (.map (some (B + 1))) := by rw [World.cell?_setCell_other _ _ _ _ (by simp)]; exact h.st.c4
  have hm : (W.setCell ⟨B + 3, 1, none⟩ (.int .i32 1)).heap[B + 1]? = some (obj (rs.map Rec.e) clock) := (hblk _ (by omega)).trans h.map
  have hg' : (W.setCell ⟨B + 3, 1, none⟩ (.int .i32 1)).cell? ⟨0, 0, none⟩ = some (.iface 109 (.pointer (some a))) := (World.cell?_of_block (w := W) (hblk 0 (by omega))).trans ((h.below.cell (p := ⟨0, 0, none⟩) h0B).trans hg)
  have hs' : (W.setCell ⟨B + 3, 1, none⟩ (.int .i32 1)).cell? a = some (.string s0) := (World.cell?_of_block (w := W) (hblk a.block (by omega))).trans ((h.below.cell haB).trans hs)
  have hF' : F.answers (W.setCell ⟨B + 3, 1, none⟩ (.int .i32 1)).tape := by
    have : (W.setCell ⟨B + 3, 1, none⟩ (.int .i32 1)).tape = w.tape := h.below.tape
    rw [this]; exact hF
  refine end_refused (B + 3) (B + 1) (B + 2) clock s 0 (rs.map Rec.e) id a buf W (by omega) (by omega) (by omega) (by omega) h.st.c1 h.st.f1 h.map h.chan ?_
  rcases hf with ⟨_, hf⟩ | ⟨j, x, hz, _, hx, he⟩
  · refine session_none F (B + 3) (B + 1) clock (rs.map Rec.e) id a s0 _ hF' c4 hm ?_ hg' hs'
    intro y hy
    obtain ⟨v, hv, rfl⟩ := List.mem_map.1 hy
    obtain ⟨j, hj, hjv⟩ := List.mem_iff_getElem.1 hv
    exact Ne.symm (hf j v hj (by rw [List.getElem?_eq_getElem hj, hjv]))
  · have hmem : x ∈ rs := List.mem_of_getElem? hx
    have hexp : x.ttl < -x.rep := Classical.byContradiction fun hn => hno ⟨j, x, hz, hx, hn⟩
    have hes : rs.map Rec.e = (rs.take j).map Rec.e ++ x.e :: (rs.drop (j + 1)).map Rec.e := by
      have := congrArg (List.map Rec.e) (part hx)
      simpa only [List.map_append, List.map_cons] using this
    rw [hes] at hm
    obtain ⟨hl, _⟩ := apart h.ids hx he
    obtain ⟨h9, hse⟩ := h.sess x hmem
    obtain ⟨r1, r2⟩ := h.reps x hmem
    exact session_shut F (B + 3) (B + 1) clock B _ _ x.e id x.rep x.ttl a s0 _ hF' c4 hm he.symm hl (Clock.of (clock_of h) (by rw [World.cell?_setCell_other _ _ _ _ (by simp)]) (hblk B (by omega))) (Life.of (hse.life r1 r2) (hblk _ (by omega))) hexp hg' hs'

/-- The limit that a session's block holds. -/
def lims (rs : List Rec) (b : Nat) : Int := ((rs.find? fun x => x.e.blk == b).map Rec.lm).getD 0
theorem lims_of (hn : (rs.map (·.e.blk)).Nodup) {x : Rec} (hx : x ∈ rs) : lims rs x.e.blk = x.lm := by
  induction rs with
  | nil => cases hx
  | cons y ys ih =>
    simp only [List.map_cons, List.nodup_cons] at hn
    rcases List.mem_cons.1 hx with rfl | hx
    · simp [lims]
    · have hne : y.e.blk ≠ x.e.blk := fun e => hn.1 (by rw [e]; exact List.mem_map_of_mem (f := fun x : Rec => x.e.blk) hx)
      have := ih hn.2 hx
      simp only [lims, List.find?_cons, beq_eq_false_iff_ne.2 hne] at this ⊢
      exact this

theorem end_yes (h : Inv w W G B n owed buf s rs clock) (hbuf : buf.size ≤ 1) {j : Nat} {x : Rec} (hx : rs[j]? = some x) (he : x.e.id.toList = id.toList) (hop : ¬ x.ttl < -x.rep) (kk : Nat)
    (hkk : ((owed = 0 ∨ ∃ y ∈ rs.take j ++ rs.drop (j + 1), y.lm < owed) ∧ kk = buf.size) ∨ ((owed ≠ 0 ∧ ∀ y ∈ rs.take j ++ rs.drop (j + 1), owed ≤ y.lm) ∧ kk = 1)) :
    Calls Ybaf.prog 6 #[.pointer (some ⟨B + 3, 0, none⟩), .string id] W fun e w' => e = .returned (.tuple #[ptr x.e, .nilIface]) ∧ Ended W w' (B + 3) (B + 1) (B + 2) clock ((rs.take j ++ rs.drop (j + 1)).map Rec.e) kk := by
  have hsz := h.size
  obtain ⟨q1, q2, q3, q4, q5⟩ := h.ok
  have hmem : x ∈ rs := List.mem_of_getElem? hx
  have hsub : ∀ y ∈ rs.take j ++ rs.drop (j + 1), y ∈ rs := fun y hy => by
    rcases List.mem_append.1 hy with hy | hy
    · exact List.mem_of_mem_take hy
    · exact List.mem_of_mem_drop hy
  have hes : rs.map Rec.e = (rs.take j).map Rec.e ++ x.e :: (rs.drop (j + 1)).map Rec.e := by
    have := congrArg (List.map Rec.e) (part hx)
    simpa only [List.map_append, List.map_cons] using this
  have hm := h.map
  rw [hes] at hm
  obtain ⟨hl, _⟩ := apart h.ids hx he
  obtain ⟨h9, hse⟩ := h.sess x hmem
  obtain ⟨r1, r2⟩ := h.reps x hmem
  have hof : ∀ y ∈ (rs.take j).map Rec.e ++ (rs.drop (j + 1)).map Rec.e, ∃ v ∈ rs.take j ++ rs.drop (j + 1), v.e = y := fun y hy => by
    rw [← List.map_append] at hy
    obtain ⟨v, hv, rfl⟩ := List.mem_map.1 hy
    exact ⟨v, hv, rfl⟩
  have hnd : (((rs.take j).map Rec.e ++ (rs.drop (j + 1)).map Rec.e).map (·.born)).Nodup := by
    have := h.nd
    rw [part hx] at this
    simp only [List.map_append, List.map_cons, List.map_map] at this ⊢
    rw [List.nodup_append] at this ⊢
    obtain ⟨t1, t2, t3⟩ := this
    exact ⟨t1, (List.nodup_cons.1 t2).2, fun a ha b hb => t3 a ha b (List.mem_cons_of_mem _ hb)⟩
  have key := end_open (B + 3) (B + 1) (B + 2) clock s 0 B kk owed ((rs.take j).map Rec.e) ((rs.drop (j + 1)).map Rec.e) x.e id x.rep x.ttl (lims rs) buf W (by omega) (by omega) (by omega) (by omega) h.st.c1 h.st.f1 h.st.c3 h.st.c4 h.st.c8 h.st.c9 (clock_of h) h.chan hbuf hm he.symm hl
    (fun y hy => by obtain ⟨v, hv, rfl⟩ := hof y hy; exact h.old v (hsub v hv)) hnd (fun y hy => by obtain ⟨v, hv, rfl⟩ := hof y hy; exact (h.sess v (hsub v hv)).2.has (lims_of h.bl (hsub v hv)))
    (fun y hy => by obtain ⟨v, hv, rfl⟩ := hof y hy; have := (h.sess v (hsub v hv)).1; omega) (by omega) (hse.life r1 r2) hop ?_
  · rw [List.map_append]; exact key
  · rcases hkk with ⟨hk, rfl⟩ | ⟨⟨h0, hk⟩, rfl⟩
    · refine .inl ⟨?_, rfl⟩
      rcases hk with hk | ⟨v, hv, hk⟩
      · exact .inl hk
      · refine .inr ⟨v.e, by rw [← List.map_append]; exact List.mem_map_of_mem hv, ?_⟩
        rw [lims_of h.bl (hsub v hv)]; exact hk
    · refine .inr ⟨⟨h0, fun y hy => ?_⟩, rfl⟩
      obtain ⟨v, hv, rfl⟩ := hof y hy
      rw [lims_of h.bl (hsub v hv)]; exact hk v hv
end
end Go.Proofs.YbulkbzmwFmt.Call
