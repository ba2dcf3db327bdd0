/- The law's world behind 'end'. -/
import Derived.Test.YbulkbzmwFmtCall
import Derived.LaidEql
namespace Go.Proofs.YbulkbzmwFmt.After
open Go.RowKit Go.Conc Go.ChangeMaps Go.Proofs.YbulkbzmwFmt.Map Go.Proofs.YbulkbzmwFmt.Lim Go.Proofs.YbulkbzmwFmt.Sess Go.Proofs.YbulkbzmwFmt.End Go.Proofs.YbulkbzmwFmt.Inv Go.Proofs.YbulkbzmwFmt.Call

theorem info56 : (Ybaf.prog.info? 56).map (·.size) = some 9 := by kernel_rfl
theorem equalIn_same (d : Nat) (a : Addr) (w : World) : (Op.equalIn (d + 1) 52 (.pointer (some a)) (.pointer (some a))).run Ybaf.prog w = .ok true w := by
  obtain ⟨j, hj, _⟩ := Option.map_eq_some_iff.1 info56
  simp [Op.equalIn, run_underlying Ybaf.underlying52, sizeOf, typeInfo, run_sameAddr_same, hj]
theorem equal_same (a : Addr) (w : World) : (Op.equal 52 (.pointer (some a)) (.pointer (some a))).run Ybaf.prog w = .ok true w := equalIn_same 9999 a w
/-- The same pointer twice. -/
theorem neq_same (a : Addr) (w : World) : (binOp .neq 52 (.pointer (some a)) (.pointer (some a))).run Ybaf.prog w = .ok (.bool false) w := by
  simp only [binOp]
  simp [equal_same a w]

/-- What the law reads behind 'end': 'es' is what the map holds, 'k' how many values the channel. -/
structure After (w W : World) (G : Gs) (B n : Nat) (a : Addr) (rs : List Rec) (es : List E) (clock k : Nat) : Prop where
  bel : Bel w.heap.size w W
  g : W.cell? ⟨0, 0, none⟩ = some (.iface 109 (.pointer (some a)))
  s4 : W.cell? ⟨B + 3, 4, none⟩ = some (.map (some (B + 1)))
  s9 : W.cell? ⟨B + 3, 9, none⟩ = some (.chan (some (B + 2)))
  size : G.g5 < W.heap.size
  ok : G.ok B
  map : W.heap[B + 1]? = some (obj es clock)
  chan : ∃ buf s r, W.heap[B + 2]? = some (.chan 1 buf false s r false) ∧ buf.size = k
  r1 : row W B 9 G.g1 rs.length n (rs.map fun x => .string x.e.id)
  r2 : row W B 52 G.g2 rs.length n (rs.map fun x => ptr x.e)
  r5 : row W B 23 G.g5 rs.length n (rs.map fun x => .int .u64 x.lm)

section
variable {w W W' : World} {G : Gs} {B n : Nat} {owed : Int} {buf : Array Value} {s : Nat} {rs : List Rec} {es : List E} {clock k : Nat} {a : Addr}

theorem after (h : Inv w W G B n owed buf s rs clock) (hB : B = w.heap.size) (hg : w.cell? ⟨0, 0, none⟩ = some (.iface 109 (.pointer (some a)))) (he : Ended W W' (B + 3) (B + 1) (B + 2) clock es k) : After w W' G B n a rs es clock k := by
  have hsz := h.size
  obtain ⟨q1, q2, q3, q4, q5⟩ := h.ok
  have h0B : 0 < B := by have := World.block_lt_of_cell? _ _ hg; rw [hB]; exact this
  have hlow : ∀ j, j < B → W'.heap[j]? = w.heap[j]? := fun j hj => (he.block j (by omega) (by omega) (by omega) (by omega)).trans (h.below.block j hj)
  have hs1 := he.size
  have hs2 := h.below.size
  refine ⟨⟨he.os.trans h.below.os, he.output.trans h.below.output, by omega, fun j hj => hlow j (by rw [hB]; exact hj)⟩, (World.cell?_of_block (w := w) (hlow 0 h0B)).trans hg, (he.cells 4 (by decide)).trans h.st.c4, (he.cells 9 (by decide)).trans h.st.c9, by omega, h.ok, he.map, he.chan, ?_, ?_, ?_⟩
  · exact row_of h.r1 (he.block _ (by omega) (by omega) (by omega) (by omega))
  · exact row_of h.r2 (he.block _ (by omega) (by omega) (by omega) (by omega))
  · exact row_of h.r5 (he.block _ (by omega) (by omega) (by omega) (by omega))

theorem After.new (h : After w W G B n a rs es clock k) (hB : B = w.heap.size) (hc : Chg W W' []) : After w W' G B n a rs es clock k := by
  have hsz := h.size
  obtain ⟨q1, q2, q3, q4, q5⟩ := h.ok
  have hb : ∀ j, j < W.heap.size → W'.heap[j]? = W.heap[j]? := fun j hj => hc.block j hj (by simp)
  have h0 := World.block_lt_of_cell? _ _ h.g
  obtain ⟨buf, s, r, hch, hk⟩ := h.chan
  have hs := hc.size
  refine ⟨⟨hc.os.trans h.bel.os, hc.output.trans h.bel.output, Nat.le_trans h.bel.size hs, fun j hj => (hb j (by omega)).trans (h.bel.block j hj)⟩, (World.cell?_of_block (w := W) (hb 0 h0)).trans h.g, (World.cell?_of_block (w := W) (hb (B + 3) (by omega))).trans h.s4, (World.cell?_of_block (w := W) (hb (B + 3) (by omega))).trans h.s9, by omega, h.ok, (hb _ (by omega)).trans h.map, ⟨buf, s, r, (hb _ (by omega)).trans hch, hk⟩, ?_, ?_, ?_⟩
  · exact row_of h.r1 (hb _ (by omega))
  · exact row_of h.r2 (hb _ (by omega))
  · exact row_of h.r5 (hb _ (by omega))

/-- The k-th id is looked up where nothing was taken out. -/
theorem look_all (hid : (rs.map (·.e.id.toList)).Nodup) {j : Nat} {x : Rec} (hx : rs[j]? = some x) : ∃ i, Map.look x.e.id (rs.map Rec.e) 0 = some (i, ptr x.e) := by
  have hes : rs.map Rec.e = (rs.take j).map Rec.e ++ x.e :: (rs.drop (j + 1)).map Rec.e := by
    have := congrArg (List.map Rec.e) (Call.part hx)
    simpa only [List.map_append, List.map_cons] using this
  rw [hes]
  exact ⟨_, look_some rfl 0 (Call.apart (id := x.e.id) hid hx rfl).1⟩

theorem look_in {l : List Rec} (hid : (l.map (·.e.id.toList)).Nodup) {x : Rec} (hx : x ∈ l) : ∃ i, Map.look x.e.id (l.map Rec.e) 0 = some (i, ptr x.e) := by
  obtain ⟨j, hj, hjx⟩ := List.mem_iff_getElem.1 hx
  exact look_all hid (j := j) (by rw [List.getElem?_eq_getElem hj, hjx])

theorem rest_nodup (hid : (rs.map (·.e.id.toList)).Nodup) {j : Nat} {x : Rec} (hx : rs[j]? = some x) : ((rs.take j ++ rs.drop (j + 1)).map (·.e.id.toList)).Nodup := by
  have hsub : (rs.take j ++ rs.drop (j + 1)).Sublist (rs.take j ++ x :: rs.drop (j + 1)) := List.Sublist.append (List.Sublist.refl _) (List.sublist_cons_self _ _)
  rw [← Call.part hx] at hsub
  exact List.Nodup.sublist (hsub.map _) hid

theorem rest_mem {i j : Nat} {y : Rec} (hy : rs[i]? = some y) (hne : i ≠ j) : y ∈ rs.take j ++ rs.drop (j + 1) := by
  rcases Nat.lt_or_gt_of_ne hne with h | h
  · exact List.mem_append.2 (.inl (List.mem_of_getElem? (i := i) (by rw [List.getElem?_take]; simp [h, hy])))
  · exact List.mem_append.2 (.inr (List.mem_of_getElem? (i := i - (j + 1)) (by rw [List.getElem?_drop, show j + 1 + (i - (j + 1)) = i by omega]; exact hy)))

theorem mem_rest {j : Nat} {y : Rec} (h : y ∈ rs.take j ++ rs.drop (j + 1)) : ∃ i, i ≠ j ∧ rs[i]? = some y := by
  rcases List.mem_append.1 h with h | h
  · obtain ⟨i, hi, he⟩ := List.mem_iff_getElem.1 h
    have hi' : i < j := by simp at hi; omega
    refine ⟨i, by omega, ?_⟩
    rw [← he, List.getElem_take]
    exact List.getElem?_eq_getElem _
  · obtain ⟨i, hi, he⟩ := List.mem_iff_getElem.1 h
    refine ⟨j + 1 + i, by omega, ?_⟩
    rw [← he, List.getElem_drop]
    exact List.getElem?_eq_getElem _

theorem rest_length {j : Nat} {x : Rec} (hx : rs[j]? = some x) : ((rs.take j ++ rs.drop (j + 1)).map Rec.e).length + 1 = rs.length := by
  have hj := (List.getElem?_eq_some_iff.1 hx).1
  simp
  omega
end
end Go.Proofs.YbulkbzmwFmt.After
