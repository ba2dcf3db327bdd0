/- (*session).limit and (*stamper).limit: over the map in whatever order. -/
import Derived.Test.YbulkbzmwFmtMap
import Derived.Laws.IdiomRangeMap
import Derived.Deep.LoopGhost
namespace Go.Proofs.YbulkbzmwFmt.Lim
open Go.RowKit Go.ChangeMaps Go.Proofs.YbulkbzmwFmt.Map

/-- Below block B the world is as it was (nothing is said of the tape). -/
structure Bel (B : Nat) (w w' : World) : Prop where
  os : w'.os = w.os
  output : w'.output = w.output
  size : w.heap.size ≤ w'.heap.size
  block : ∀ k, k < B → w'.heap[k]? = w.heap[k]?

theorem Bel.of {B : Nat} {w w' : World} (h : Below B w w') : Bel B w w' := ⟨h.os, h.output, h.size, h.block⟩
theorem Bel.trans {B : Nat} {a b c : World} (h : Bel B a b) (k : Bel B b c) : Bel B a c :=
  ⟨k.os.trans h.os, k.output.trans h.output, Nat.le_trans h.size k.size, fun i hi => (k.block i hi).trans (h.block i hi)⟩
theorem Bel.mono {B B' : Nat} {w w' : World} (h : Bel B w w') (hB : B' ≤ B) : Bel B' w w' := ⟨h.os, h.output, h.size, fun k hk => h.block k (Nat.lt_of_lt_of_le hk hB)⟩
theorem Bel.cell {B : Nat} {w w' : World} (h : Bel B w w') {b o : Nat} (hp : b < B) : w'.cell? ⟨b, o, none⟩ = w.cell? ⟨b, o, none⟩ := World.cell?_of_block (w := w) (h.block b hp)
theorem Bel.frozen {B : Nat} {w w' : World} (h : Bel B w w') {b o : Nat} (hp : b < B) : w'.frozen? ⟨b, o, none⟩ = w.frozen? ⟨b, o, none⟩ := World.frozen?_of_block (w := w) (h.block b hp)

def lim (b v : Int) : Int := if b < v then v else b

set_option maxRecDepth 100000 in
set_option maxHeartbeats 1000000 in
theorem slimit_any (p : Nat) (b v : Int) (w : World) (h5 : w.cell? ⟨p, 5, none⟩ = some (.int .u64 b)) (h6 : w.cell? ⟨p, 6, none⟩ = some (.int .u64 v)) (h8 : w.cell? ⟨p, 8, none⟩ = some (.slice none 0 0)) :
    Calls Ybaf.prog 35 #[.pointer (some ⟨p, 0, none⟩)] w fun e w' => e = .returned (.int .u64 (lim b v)) ∧ w' = w := by
  by_cases h : b < v
  · have hl : lim b v = v := by simp [lim, h]
    rw [hl]
    clear hl
    go_enter Ybaf.func35, Ybaf.ntmps35
    go_wp2
    go_ret
    exact ⟨rfl, rfl⟩
  · have hl : lim b v = b := by simp [lim, h]
    rw [hl]
    clear hl
    go_enter Ybaf.func35, Ybaf.ntmps35
    go_wp2
    go_ret
    exact ⟨rfl, rfl⟩

/-- A session's block holds these limits. -/
def Has (w : World) (L : Nat → Int) (p : Nat) : Prop :=
  ∃ b v, w.cell? ⟨p, 5, none⟩ = some (.int .u64 b) ∧ w.cell? ⟨p, 6, none⟩ = some (.int .u64 v) ∧ w.cell? ⟨p, 8, none⟩ = some (.slice none 0 0) ∧ L p = lim b v

/-- What has been reckoned when the entries with the stamps 'seen' have come. -/
structure Seen (es : List E) (L : Nat → Int) (ts c : Int) (seen : Array Nat) : Prop where
  le : c ≤ ts
  all : ∀ e ∈ es, seen.contains e.born = true → c ≤ L e.blk
  one : c = ts ∨ ∃ e ∈ es, c = L e.blk

theorem Seen.next {es : List E} {L : Nat → Int} {ts c : Int} {seen : Array Nat} (h : Seen es L ts c seen) {e : E} (he : e ∈ es) (hn : (es.map (·.born)).Nodup) : Seen es L ts (if L e.blk < c then L e.blk else c) (seen.push e.born) := by
  have huniq : ∀ x ∈ es, x.born = e.born → x = e := by
    intro x hx hb
    have hp := List.pairwise_map.1 hn
    rcases Classical.em (x = e) with h | h
    · exact h
    · rcases List.getElem_of_mem hx with ⟨i, hi, rfl⟩
      rcases List.getElem_of_mem he with ⟨j, hj, rfl⟩
      have hpi := List.pairwise_iff_getElem.1 hp
      rcases Nat.lt_trichotomy i j with c | c | c
      · exact absurd hb (hpi i j hi hj c)
      · subst c; rfl
      · exact absurd hb.symm (hpi j i hj hi c)
  refine ⟨?_, fun x hx hs => ?_, ?_⟩
  · split
    · have := h.le; omega
    · exact h.le
  · rw [contains_push] at hs
    rw [Bool.or_eq_true] at hs
    rcases hs with hs | hs
    · have := h.all x hx hs
      split <;> omega
    · have := huniq x hx (by simpa using hs)
      subst this
      split <;> omega
  · split
    · exact .inr ⟨e, he, rfl⟩
    · exact h.one

theorem Seen.done {es : List E} {L : Nat → Int} {ts c : Int} {seen : Array Nat} (h : Seen es L ts c seen) (hall : ∀ e ∈ es, seen.contains e.born = true) : c = ts ↔ ∀ e ∈ es, ts ≤ L e.blk := by
  constructor
  · intro hc e he
    have := h.all e he (hall e he)
    omega
  · intro ha
    rcases h.one with h1 | ⟨e, he, h1⟩
    · exact h1
    · have := ha e he
      have := h.le
      omega

theorem all_seen {es : List E} {seen : Array Nat} (h : (leftOf (es.map ent).toArray seen).size = 0) : ∀ e ∈ es, seen.contains e.born = true := by
  intro e he
  cases hc : seen.contains e.born
  · have hm : ent e ∈ leftOf (es.map ent).toArray seen := by
      unfold leftOf
      rw [Array.mem_filter]
      refine ⟨?_, by simpa [ent] using hc⟩
      simp; exact ⟨e, he, rfl⟩
    rw [Array.eq_empty_of_size_eq_zero h] at hm
    simp at hm
  · rfl

theorem below_iter {w w1 : World} (hal : w1.Alike w) (o : Obj) : Bel w.heap.size w (w1.alloc o) := by
  obtain ⟨h1, h2, h3⟩ := hal
  refine ⟨h2, h3, by simp [h1], fun k hk => ?_⟩
  rw [Below.heap_alloc _ _ _ (by rw [h1]; exact hk), h1]

set_option maxRecDepth 100000 in
set_option maxHeartbeats 2000000 in
theorem limit_any (S m clock : Nat) (ts : Int) (es : List E) (L : Nat → Int) (w : World) (h3 : w.cell? ⟨S, 3, none⟩ = some (.slice none 0 0)) (h4 : w.cell? ⟨S, 4, none⟩ = some (.map (some m)))
    (hb : w.heap[m]? = some (obj es clock)) (hold : ∀ e ∈ es, e.born < clock) (hnd : (es.map (·.born)).Nodup) (hL : ∀ e ∈ es, Has w L e.blk) :
    Calls Ybaf.prog 23 #[.pointer (some ⟨S, 0, none⟩), .int .u64 ts] w fun e w' => (∃ c, e = .returned (.int .u64 c) ∧ (c = ts ↔ ∀ e ∈ es, ts ≤ L e.blk)) ∧ Bel w.heap.size w w' := by
  have hrg := run_range_map (P := Ybaf.prog) w 28 9 52 m (es.map ent).toArray clock Ybaf.underlying28 hb
  have HB : Hid (w.heap[m]? = some (obj es clock)) := hb
  have HO : Hid (∀ e ∈ es, e.born < clock) := hold
  have HND : Hid ((es.map (·.born)).Nodup) := hnd
  have HL : Hid (∀ e ∈ es, Has w L e.blk) := hL
  clear hb hold hnd hL
  go_enter Ybaf.func23, Ybaf.ntmps23
  go_wp2
  go_loopw [1] (fun s w' => ∃ (w1 : World) (seen : Array Nat) (c : Int), w1.Alike w ∧ w' = w1.alloc (.mapIter (some m) clock seen clock) ∧ s = .int .u64 c ∧ Seen es L ts c seen) (fun _ w' => (leftOf (es.map ent).toArray (w'.iterSeen w.heap.size)).size)
  case atStart => exact ⟨w, #[], ts, ⟨rfl, rfl, rfl⟩, rfl, rfl, ⟨Int.le_refl _, fun e _ h => by simp at h, .inl rfl⟩⟩
  case round =>
    obtain ⟨w1, seen, c, hal, rfl, rfl, hseen⟩ := hrel
    have HS : Hid (Seen es L ts c seen) := hseen
    have HAL : Hid (w1.Alike w) := hal
    have hsz : w1.heap.size = w.heap.size := by rw [hal.1]
    have hb1 : w1.heap[m]? = some (obj es clock) := by rw [hal.1]; exact HB.out
    have law := run_next_map (P := Ybaf.prog) w1 0 m clock clock seen (es.map ent).toArray clock hb1 (fun x hx => by
      simp at hx; obtain ⟨e, he, rfl⟩ := hx; exact HO.out e he) (Nat.le_refl _)
    rw [hsz] at law
    clear hal hseen hb1
    rcases law with ⟨h0, hrun⟩ | ⟨e, he, w2, hal2, hrun⟩
    · have hnx : ∀ ty, (Instr.next (.pointer (some ⟨w.heap.size, 0, none⟩)) false ty).run Ybaf.prog (w1.alloc (.mapIter (some m) clock seen clock)) = _ := fun _ => hrun
      have HF : Hid (c = ts ↔ ∀ e ∈ es, ts ≤ L e.blk) := HS.out.done (all_seen h0)
      clear h0 hrun
      go_wp2
      go_ret
      exact ⟨⟨c, rfl, HF.out⟩, below_iter HAL.out _⟩
    · obtain ⟨hm, hns⟩ := mem_left he
      obtain ⟨x, hx, rfl⟩ : ∃ x ∈ es, ent x = e := by simpa using hm
      have hnx : ∀ ty, (Instr.next (.pointer (some ⟨w.heap.size, 0, none⟩)) false ty).run Ybaf.prog (w1.alloc (.mapIter (some m) clock seen clock)) = _ := fun _ => hrun
      have hsz2 : w2.heap.size = w.heap.size := by rw [hal2.1, HAL.out.1]
      have hb2 : w2.heap[m]? = some (obj es clock) := by rw [hal2.1, HAL.out.1]; exact HB.out
      have hen := run_entry_map (P := Ybaf.prog) w2 m clock seen (es.map ent).toArray clock (ent x) hb2 hm (by show ((es.map ent).map (·.born)).Nodup; rw [List.map_map]; exact HND.out)
      rw [hsz2] at hen
      have hal3 : w2.Alike w := ⟨hal2.1.trans HAL.out.1, hal2.2.1.trans HAL.out.2.1, hal2.2.2.trans HAL.out.2.2⟩
      have HAL3 : Hid (w2.Alike w) := hal3
      have HM : Hid ((leftOf (es.map ent).toArray (seen.push (ent x).born)).size < (leftOf (es.map ent).toArray seen).size) := left_shrinks _ seen (ent x) he
      have HLim : Hid (Calls Ybaf.prog 35 #[.pointer (some ⟨x.blk, 0, none⟩)] (w2.alloc (.mapIter (some m) clock (seen.push (ent x).born) clock)) fun e w' => e = .returned (.int .u64 (L x.blk)) ∧ w' = w2.alloc (.mapIter (some m) clock (seen.push (ent x).born) clock)) := by
        obtain ⟨b, v, c5, c6, c8, hl⟩ := HL.out x hx
        have hlt : x.blk < w.heap.size := World.block_lt_of_cell? w ⟨x.blk, 5, none⟩ c5
        have hbel := below_iter hal3 (.mapIter (some m) clock (seen.push (ent x).born) clock)
        have := slimit_any x.blk b v (w2.alloc (.mapIter (some m) clock (seen.push (ent x).born) clock)) ((hbel.cell hlt).trans c5) ((hbel.cell hlt).trans c6) ((hbel.cell hlt).trans c8)
        rwa [← hl] at this
      have HSN : Hid (Seen es L ts (if L x.blk < c then L x.blk else c) (seen.push (ent x).born)) := HS.out.next hx HND.out
      simp only [ent, ptr] at hnx hen
      simp only [ent] at HLim HM HSN
      clear he hm hns hrun hb2 hal2 hal3 HL HB HO HND HS
      by_cases hlt : L x.blk < c
      · rw [if_pos hlt] at HSN
        go_wp2_with (go_at_call 35; refine HLim.out.mono ?_; rintro e w' ⟨rfl, rfl⟩)
        go_roundw
        case rel => exact ⟨w2, seen.push x.born, _, HAL3.out, rfl, rfl, HSN.out⟩
        case measure => rw [← hsz2, World.iterSeen_alloc, hsz2, ← hsz, World.iterSeen_alloc]; exact HM.out
      · rw [if_neg hlt] at HSN
        go_wp2_with (go_at_call 35; refine HLim.out.mono ?_; rintro e w' ⟨rfl, rfl⟩)
        go_roundw
        case rel => exact ⟨w2, seen.push x.born, _, HAL3.out, rfl, rfl, HSN.out⟩
        case measure => rw [← hsz2, World.iterSeen_alloc, hsz2, ← hsz, World.iterSeen_alloc]; exact HM.out
end Go.Proofs.YbulkbzmwFmt.Lim
