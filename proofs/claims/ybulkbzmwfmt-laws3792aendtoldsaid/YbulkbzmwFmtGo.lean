/- (*stamper).letGo. -/
import Derived.Test.YbulkbzmwFmtLim
import Derived.Test.YbulkbzmwFmtComm
import Derived.Deep.Cut
import Derived.Deep.RegionHeld3
import Derived.Deep.DrawnRows
import Derived.Deep.QuietTactic
import Derived.BigQuiet
namespace Go.Proofs.YbulkbzmwFmt.LetGo
open Go.RowKit Go.Conc Go.ChangeMaps Go.Proofs.YbulkbzmwFmt.Map Go.Proofs.YbulkbzmwFmt.Lim Go.Proofs.YbulkbzmwFmt.Comm

/-- The world behind letGo: the channel D holds 'k' values; all else below is as it was. -/
structure Went (w w' : World) (D k : Nat) : Prop where
  os : w'.os = w.os
  output : w'.output = w.output
  size : w.heap.size ≤ w'.heap.size
  block : ∀ j, j < w.heap.size → j ≠ D → w'.heap[j]? = w.heap[j]?
  chan : ∃ buf s r, w'.heap[D]? = some (.chan 1 buf false s r false) ∧ buf.size = k

theorem went_same {w w' : World} {D s r : Nat} {buf : Array Value} (hb : Bel w.heap.size w w') (hD : w.heap[D]? = some (.chan 1 buf false s r false)) : Went w w' D buf.size := by
  have hlt : D < w.heap.size := by
    rcases Nat.lt_or_ge D w.heap.size with h | h
    · exact h
    · rw [Array.getElem?_eq_none h] at hD; cases hD
  exact ⟨hb.os, hb.output, hb.size, fun j hj _ => hb.block j hj, buf, s, r, (hb.block D hlt).trans hD, rfl⟩

theorem went_sent {w w' : World} {D s r : Nat} {v : Value} (hb : Bel w.heap.size w w') (hlt : D < w.heap.size) : Went w (w'.setChan D 1 (#[].push v) false (s + 1) r false) D 1 := by
  refine ⟨hb.os, hb.output, by rw [size_setChan]; exact hb.size, fun j hj hne => ?_, _, _, _, heap_setChan _ _ _ _ _ _ _ _ (Nat.lt_of_lt_of_le hlt hb.size), rfl⟩
  simp only [World.setChan]
  rw [Array.getElem?_setIfInBounds_ne (Ne.symm hne)]
  exact hb.block j hj

set_option maxRecDepth 100000 in
set_option maxHeartbeats 2000000 in
theorem letGo_any (S m clock D s r : Nat) (owed : Int) (es : List E) (L : Nat → Int) (buf : Array Value) (w : World) (h3 : w.cell? ⟨S, 3, none⟩ = some (.slice none 0 0)) (h4 : w.cell? ⟨S, 4, none⟩ = some (.map (some m)))
    (h8 : w.cell? ⟨S, 8, none⟩ = some (.int .u64 owed)) (h9 : w.cell? ⟨S, 9, none⟩ = some (.chan (some D))) (hD : w.heap[D]? = some (.chan 1 buf false s r false)) (hbuf : buf.size ≤ 1)
    (hb : w.heap[m]? = some (obj es clock)) (hold : ∀ e ∈ es, e.born < clock) (hnd : (es.map (·.born)).Nodup) (hL : ∀ e ∈ es, Has w L e.blk) :
    Calls Ybaf.prog 15 #[.pointer (some ⟨S, 0, none⟩)] w fun e w' => e = .returned (.tuple #[]) ∧ ((owed = 0 ∨ ∃ e ∈ es, L e.blk < owed) → Went w w' D buf.size) ∧ ((owed ≠ 0 ∧ ∀ e ∈ es, owed ≤ L e.blk) → Went w w' D 1) := by
  have hltS : S < w.heap.size := World.block_lt_of_cell? _ _ h8
  have hltD : D < w.heap.size := by
    rcases Nat.lt_or_ge D w.heap.size with h | h
    · exact h
    · rw [Array.getElem?_eq_none h] at hD; cases hD
  by_cases h0 : owed = 0
  · subst h0
    have HW : Hid (∀ n, Went w (w.drewN n) D buf.size) := fun n => went_same ⟨rfl, rfl, Nat.le_refl _, fun _ _ => rfl⟩ hD
    clear hb hold hnd hL hD h3 h4
    go_enter Ybaf.func15, Ybaf.ntmps15
    go_wp2_with fail
    go_quiet (fail)
    go_wp2
    go_end0
    exact ⟨rfl, fun _ => HW.out _, fun h => absurd rfl h.1⟩
  · have hne : (owed != 0) = true := by rw [bne_iff_ne]; exact h0
    have HLm : Hid (Calls Ybaf.prog 23 #[.pointer (some ⟨S, 0, none⟩), .int .u64 owed] w.drew fun e w' => (∃ c, e = .returned (.int .u64 c) ∧ (c = owed ↔ ∀ e ∈ es, owed ≤ L e.blk)) ∧ Bel w.heap.size w w') := by
      refine Calls.mono (limit_any S m clock owed es L w.drew h3 h4 hb hold hnd hL) ?_
      rintro e w' ⟨hc, hbel⟩
      exact ⟨hc, hbel.os, hbel.output, hbel.size, hbel.block⟩
    have HD : Hid (w.heap[D]? = some (.chan 1 buf false s r false)) := hD
    clear hb hold hnd hL hD h3 h4
    go_enter Ybaf.func15, Ybaf.ntmps15
    go_wp2_with fail
    go_region_held3 (fun w' => w'.cell? ⟨S, 8, none⟩ = some (.int .u64 owed)) (go_keep) (first | (go_at_call 23; refine HLm.out.mono ?_; rintro e w' ⟨⟨c, rfl, hc⟩, hbel⟩; have c8 : w'.cell? ⟨S, 8, none⟩ = some (.int .u64 owed) := (hbel.cell hltS).trans h8; have HC : Hid (c = owed ↔ ∀ e ∈ es, owed ≤ L e.blk) := hc; clear hc))
    by_cases hco : c = owed
    · have HX : Hid (∀ e ∈ es, owed ≤ L e.blk) := HC.out.1 hco
      subst hco
      have c9 := (hbel.cell hltS).trans h9
      have hDw : w'.heap[D]? = some (.chan 1 buf false s r false) := (hbel.block D hltD).trans HD.out
      have HDW : Hid (w'.heap[D]? = some (.chan 1 buf false s r false)) := hDw
      clear hDw HC
      go_upto_region 3 with fail
      refine regAt_start' (l := [0, 1, 2]) rfl ?_
      by_cases hz : buf.size = 0
      · obtain rfl : buf = #[] := Array.eq_empty_of_size_eq_zero hz
        refine regAt_sel_send (w' := w') (cases := #[scase D (.agg #[]) (.agg #[])]) (n := 0) (c := D) (cap := 1) (buf := #[]) (s := s) (r := r) (tm := false) (v := .agg #[]) (z := .agg #[]) (blocking := false) rfl rfl (by simp [go_sem, execOp, scase, Act.eval]) rfl (fun m c' hm hc' => ?_) HDW.out (by simp) ?_
        · rcases m with _ | m
          · exact absurd rfl hm
          · simp at hc'
        rw [show commResult #[scase D (.agg #[]) (.agg #[])] .select ((0 : Nat) : Int) undef false = .tuple #[goInt 0, .bool false] from by simp [commResult, scase, List.zipIdx_cons]]
        refine regAt_list 1 rfl rfl ?_
        go_wp2
        go_end0
        refine ⟨rfl, fun h => ?_, fun _ => went_sent hbel hltD⟩
        rcases h with h | ⟨e, he, hl⟩
        · exact absurd h h0
        · have := HX.out e he; omega
      · have h1 : buf.size = 1 := by omega
        refine regAt_sel_default (w' := w') (cases := #[scase D (.agg #[]) (.agg #[])]) rfl rfl (by simp [go_sem, execOp, scase, Act.eval]) (fun cc hcc => ?_) ?_
        · simp only [List.mem_toArray, List.mem_cons, List.not_mem_nil, or_false] at hcc
          subst hcc
          exact noWay_send HDW.out (by omega)
        rw [show commResult #[scase D (.agg #[]) (.agg #[])] .select (-1) undef false = .tuple #[goInt (-1), .bool false] from by simp [commResult, scase, List.zipIdx_cons]]
        refine regAt_list 1 rfl rfl ?_
        have HW := went_same hbel HD.out
        go_wp2
        go_end0
        exact ⟨rfl, fun _ => HW, fun _ => h1 ▸ HW⟩
    · have hcb : (c == owed) = false := by rw [beq_eq_false_iff_ne]; exact hco
      have HX : Hid (∃ e ∈ es, L e.blk < owed) := by
        show ∃ e ∈ es, L e.blk < owed
        apply Classical.byContradiction
        intro hx
        exact hco (HC.out.2 fun e he => by
          by_cases h : L e.blk < owed
          · exact absurd ⟨e, he, h⟩ hx
          · omega)
      clear hco
      go_wp2
      go_end0
      refine ⟨rfl, fun _ => went_same hbel HD.out, fun h => ?_⟩
      obtain ⟨e, he, hl⟩ := HX.out
      have := h.2 e he
      omega
end Go.Proofs.YbulkbzmwFmt.LetGo
