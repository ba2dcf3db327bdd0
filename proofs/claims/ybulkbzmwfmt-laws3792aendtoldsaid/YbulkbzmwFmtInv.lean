/- What the law's world holds: the stamper, the map, the five rows, the sessions. -/
import Derived.Test.YbulkbzmwFmtEnd
import Derived.OwnWalk
import Derived.Laws.OwnMore
namespace Go.Proofs.YbulkbzmwFmt.Inv
open Go.RowKit Go.Conc Go.ChangeMaps Go.Proofs.YbulkbzmwFmt.Map Go.Proofs.YbulkbzmwFmt.Lim Go.Proofs.YbulkbzmwFmt.Sess Go.Proofs.YbulkbzmwFmt.End

structure Rec where
  e : E
  rep : Int
  ttl : Int
  bd : Int
  vc : Int

def Rec.lm (x : Rec) : Int := lim x.bd x.vc

/-- The session's block. -/
def Sess (w : World) (x : Rec) : Prop := ∃ mb : Value, w.heap[x.e.blk]? = some (.cells #[.string x.e.id, .int .i64 x.ttl, .int .u64 (x.rep % 1000000000), .int .i64 (x.rep / 1000000000), .pointer none, .int .u64 x.bd, .int .u64 x.vc, mb, .slice none 0 0] 56 (0, 0))

/-- The stamper's cells. -/
structure St (w : World) (B : Nat) (owed : Int) : Prop where
  c1 : w.cell? ⟨B + 3, 1, none⟩ = some (.int .i32 0)
  f1 : w.frozen? ⟨B + 3, 1, none⟩ = false
  c3 : w.cell? ⟨B + 3, 3, none⟩ = some (.slice none 0 0)
  c4 : w.cell? ⟨B + 3, 4, none⟩ = some (.map (some (B + 1)))
  c8 : w.cell? ⟨B + 3, 8, none⟩ = some (.int .u64 owed)
  c9 : w.cell? ⟨B + 3, 9, none⟩ = some (.chan (some (B + 2)))
  c17 : w.cell? ⟨B + 3, 17, none⟩ = some (.func (.func 4) #[] #[.pointer (some ⟨B, 0, none⟩)])

theorem St.of {w w' : World} {B : Nat} {owed : Int} (h : St w B owed) (hb : w'.heap[B + 3]? = w.heap[B + 3]?) : St w' B owed := by
  have hc : ∀ o, w'.cell? ⟨B + 3, o, none⟩ = w.cell? ⟨B + 3, o, none⟩ := fun o => World.cell?_of_block (w := w) hb
  exact ⟨(hc 1).trans h.c1, (World.frozen?_of_block (w := w) hb).trans h.f1, (hc 3).trans h.c3, (hc 4).trans h.c4, (hc 8).trans h.c8, (hc 9).trans h.c9, (hc 17).trans h.c17⟩

/-- From w to w' only new blocks, and those of the list. -/
structure Chg (w w' : World) (T : List Nat) : Prop where
  os : w'.os = w.os
  tape : w'.tape = w.tape
  output : w'.output = w.output
  size : w.heap.size ≤ w'.heap.size
  block : ∀ k, k < w.heap.size → k ∉ T → w'.heap[k]? = w.heap[k]?

theorem Chg.refl (w : World) (T : List Nat) : Chg w w T := ⟨rfl, rfl, rfl, Nat.le_refl _, fun _ _ _ => rfl⟩
theorem Chg.trans {a b c : World} {T T' : List Nat} (h : Chg a b T) (k : Chg b c T') : Chg a c (T ++ T') :=
  ⟨k.os.trans h.os, k.tape.trans h.tape, k.output.trans h.output, Nat.le_trans h.size k.size, fun j hj hn => by
    simp only [List.mem_append, not_or] at hn
    exact (k.block j (Nat.lt_of_lt_of_le hj h.size) hn.2).trans (h.block j hj hn.1)⟩
theorem Chg.of_below {w w' : World} (h : Below w.heap.size w w') : Chg w w' [] := ⟨h.os, h.tape, h.output, h.size, fun k hk _ => h.block k hk⟩
theorem Chg.of_grown {w w' : World} {g : Nat} (h : w.grownBy w' (some g)) : Chg w w' [g] := ⟨h.os, h.tape, h.output, h.size, fun k hk hn => h.block k hk (by simpa using hn)⟩
theorem Chg.of_set (w : World) (m : Nat) (o : Obj) : Chg w (setBlock w m o) [m] := ⟨rfl, rfl, rfl, by simp [setBlock], fun k _ hn => by
  simp only [setBlock]; rw [Array.getElem?_setIfInBounds_ne (by simpa using fun e => hn (by simp [e]))]⟩
theorem Chg.drew {w w' : World} {T : List Nat} (h : Chg w w' T) : Chg w w'.drew T := ⟨h.os, h.tape, h.output, h.size, h.block⟩
theorem Chg.alloc {w w' : World} {T : List Nat} (h : Chg w w' T) (o : Obj) : Chg w (w'.alloc o) T :=
  ⟨h.os, h.tape, h.output, Nat.le_trans h.size (by simp), fun k hk hn => (Below.heap_alloc _ _ _ (Nat.lt_of_lt_of_le hk h.size)).trans (h.block k hk hn)⟩

theorem row_of {w w' : World} {base e size g k cap : Nat} {xs : List Value} (h : w.ownsRow base e size (.slice (some ⟨g, 0, none⟩) k cap) k xs) (hb : w'.heap[g]? = w.heap[g]?) : w'.ownsRow base e size (.slice (some ⟨g, 0, none⟩) k cap) k xs := by
  refine ⟨h.1, ?_⟩
  rcases h.2 with ⟨h0, _⟩ | ⟨g', cap', cur, hv, hbase, hg, rest⟩
  · cases h0
  · simp only [Value.slice.injEq, Option.some.injEq, Addr.mk.injEq] at hv
    obtain ⟨⟨rfl, _, _⟩, _, rfl⟩ := hv
    exact .inr ⟨g, cap, cur, rfl, hbase, hb.trans hg, rest⟩

abbrev row (w : World) (B : Nat) (e : TypeId) (g k n : Nat) (xs : List Value) : Prop := w.ownsRow B e 1 (.slice (some ⟨g, 0, none⟩) k n) k xs

/-- The five rows' blocks. -/
structure Gs where
  g1 : Nat
  g2 : Nat
  g3 : Nat
  g4 : Nat
  g5 : Nat

def Gs.ok (G : Gs) (B : Nat) : Prop := B + 4 ≤ G.g1 ∧ G.g1 < G.g2 ∧ G.g2 < G.g3 ∧ G.g3 < G.g4 ∧ G.g4 < G.g5

structure Inv (w wr : World) (G : Gs) (B n : Nat) (owed : Int) (buf : Array Value) (s : Nat) (rs : List Rec) (clock : Nat) : Prop where
  below : Below B w wr
  ok : G.ok B
  size : G.g5 < wr.heap.size
  bb : wr.heap[B]? = some (.cells #[.int .u64 0, .int .i64 0, .pointer none] 26 (0, 0))
  chan : wr.heap[B + 2]? = some (.chan 1 buf false s 0 false)
  st : St wr B owed
  map : wr.heap[B + 1]? = some (obj (rs.map Rec.e) clock)
  r1 : row wr B 9 (G.g1) rs.length n (rs.map fun x => .string x.e.id)
  r2 : row wr B 52 (G.g2) rs.length n (rs.map fun x => ptr x.e)
  r3 : row wr B 2 (G.g3) rs.length n (rs.map fun x => .int .i64 x.rep)
  r4 : row wr B 2 (G.g4) rs.length n (rs.map fun x => .int .i64 x.ttl)
  r5 : row wr B 23 (G.g5) rs.length n (rs.map fun x => .int .u64 x.lm)
  old : ∀ x ∈ rs, x.e.born < clock
  nd : (rs.map (·.e.born)).Nodup
  ids : (rs.map (·.e.id.toList)).Nodup
  sess : ∀ x ∈ rs, G.g5 < x.e.blk ∧ Sess wr x
  bl : (rs.map (·.e.blk)).Nodup
  reps : ∀ x ∈ rs, -2147483648 ≤ x.rep ∧ x.rep ≤ 2147483647

/-- Only new blocks. -/
theorem Inv.new {w wr w' : World} {G : Gs} {B n : Nat} {owed : Int} {buf : Array Value} {s : Nat} {rs : List Rec} {clock : Nat} (h : Inv w wr G B n owed buf s rs clock) (hc : Chg wr w' []) : Inv w w' G B n owed buf s rs clock := by
  have hs := h.size
  obtain ⟨q1, q2, q3, q4, q5⟩ := h.ok
  have hb : ∀ k, k < wr.heap.size → w'.heap[k]? = wr.heap[k]? := fun k hk => hc.block k hk (by simp)
  refine ⟨⟨hc.os.trans h.below.os, hc.tape.trans h.below.tape, hc.output.trans h.below.output, Nat.le_trans h.below.size hc.size, fun k hk => (hb k (by omega)).trans (h.below.block k hk)⟩, h.ok, Nat.lt_of_lt_of_le hs hc.size, (hb _ (by omega)).trans h.bb, (hb _ (by omega)).trans h.chan, h.st.of (hb _ (by omega)), (hb _ (by omega)).trans h.map,
    row_of h.r1 (hb _ (by omega)), row_of h.r2 (hb _ (by omega)), row_of h.r3 (hb _ (by omega)), row_of h.r4 (hb _ (by omega)), row_of h.r5 (hb _ (by omega)), h.old, h.nd, h.ids, fun x hx => ⟨(h.sess x hx).1, ?_⟩, h.bl, h.reps⟩
  obtain ⟨mb, hm⟩ := (h.sess x hx).2
  exact ⟨mb, (hb _ ((Array.getElem?_eq_some_iff.1 hm).1)).trans hm⟩

/-- A round that opens a session. -/
theorem Inv.next {w wr w1 w2 w3 w4 w5 w6 w7 : World} {G : Gs} {B n : Nat} {owed : Int} {buf : Array Value} {s : Nat} {rs : List Rec} {clock : Nat} {x : Rec} (h : Inv w wr G B n owed buf s rs clock)
    (h1 : Chg wr w1 []) (hp : wr.heap.size ≤ x.e.blk) (hx : Sess w1 x) (hborn : x.e.born = clock) (hid : ∀ y ∈ rs, x.e.id.toList ≠ y.e.id.toList) (hr1 : -2147483648 ≤ x.rep) (hr2 : x.rep ≤ 2147483647)
    (h2 : Chg w1 w2 [B + 1]) (hm : w2.heap[B + 1]? = some (obj (rs.map Rec.e ++ [x.e]) (clock + 1)))
    (h3 : Chg w2 w3 [G.g1]) (o3 : row w3 B 9 (G.g1) (rs.length + 1) n (rs.map (fun x => .string x.e.id) ++ [.string x.e.id]))
    (h4 : Chg w3 w4 [G.g2]) (o4 : row w4 B 52 (G.g2) (rs.length + 1) n (rs.map (fun x => ptr x.e) ++ [ptr x.e]))
    (h5 : Chg w4 w5 [G.g3]) (o5 : row w5 B 2 (G.g3) (rs.length + 1) n (rs.map (fun x => .int .i64 x.rep) ++ [.int .i64 x.rep]))
    (h6 : Chg w5 w6 [G.g4]) (o6 : row w6 B 2 (G.g4) (rs.length + 1) n (rs.map (fun x => .int .i64 x.ttl) ++ [.int .i64 x.ttl]))
    (h7 : Chg w6 w7 [G.g5]) (o7 : row w7 B 23 (G.g5) (rs.length + 1) n (rs.map (fun x => .int .u64 x.lm) ++ [.int .u64 x.lm])) :
    Inv w w7 G B n owed buf s (rs ++ [x]) (clock + 1) := by
  have hs := h.size
  obtain ⟨q1, q2, q3, q4, q5⟩ := h.ok
  have s1 := h1.size
  have s2 := h2.size
  have s3 := h3.size
  have s4 := h4.size
  have s5 := h5.size
  have s6 := h6.size
  have s7 := h7.size
  have t47 := (((h4.trans h5).trans h6).trans h7)
  have t27 := h3.trans t47
  have t17 := h2.trans t27
  have t07 := h1.trans t17
  have hb : ∀ k, k < wr.heap.size → (k ≠ B + 1 ∧ k ≠ G.g1 ∧ k ≠ G.g2 ∧ k ≠ G.g3 ∧ k ≠ G.g4 ∧ k ≠ G.g5) → w7.heap[k]? = wr.heap[k]? := fun k hk hn => t07.block k hk (by simp; omega)
  have hlen : (rs ++ [x]).length = rs.length + 1 := by simp
  refine ⟨⟨t07.os.trans h.below.os, t07.tape.trans h.below.tape, t07.output.trans h.below.output, by have := h.below.size; omega, fun k hk => (hb k (by omega) (by omega)).trans (h.below.block k hk)⟩, h.ok, by omega, (hb _ (by omega) (by omega)).trans h.bb, (hb _ (by omega) (by omega)).trans h.chan, h.st.of (hb _ (by omega) (by omega)), ?_, ?_, ?_, ?_, ?_, ?_, ?_, ?_, ?_, ?_, ?_, ?_⟩
  · rw [t27.block _ (by omega) (by simp; omega), hm]; simp
  · rw [hlen, List.map_append]; exact row_of o3 (t47.block _ (by omega) (by simp; omega))
  · rw [hlen, List.map_append]; exact row_of o4 (((h5.trans h6).trans h7).block _ (by omega) (by simp; omega))
  · rw [hlen, List.map_append]; exact row_of o5 ((h6.trans h7).block _ (by omega) (by simp; omega))
  · rw [hlen, List.map_append]; exact row_of o6 (h7.block _ (by omega) (by simp; omega))
  · rw [hlen, List.map_append]; exact o7
  · intro y hy
    rcases List.mem_append.1 hy with hy | hy
    · have := h.old y hy; omega
    · obtain rfl := List.mem_singleton.1 hy; omega
  · rw [List.map_append, List.nodup_append]
    refine ⟨h.nd, by simp, fun a ha b hb => ?_⟩
    obtain ⟨y, hy, rfl⟩ := List.mem_map.1 ha
    simp only [List.map_cons, List.map_nil, List.mem_singleton] at hb
    have := h.old y hy
    omega
  · rw [List.map_append, List.nodup_append]
    refine ⟨h.ids, by simp, fun a ha b hb => ?_⟩
    obtain ⟨y, hy, rfl⟩ := List.mem_map.1 ha
    simp only [List.map_cons, List.map_nil, List.mem_singleton] at hb
    subst hb
    exact Ne.symm (hid y hy)
  · intro y hy
    rcases List.mem_append.1 hy with hy | hy
    · obtain ⟨h9, mb, hm'⟩ := h.sess y hy
      exact ⟨h9, mb, (hb _ ((Array.getElem?_eq_some_iff.1 hm').1) (by omega)).trans hm'⟩
    · obtain rfl := List.mem_singleton.1 hy
      obtain ⟨mb, hm'⟩ := hx
      have hlt := (Array.getElem?_eq_some_iff.1 hm').1
      exact ⟨by omega, mb, (t17.block _ hlt (by simp; omega)).trans hm'⟩
  · rw [List.map_append, List.nodup_append]
    refine ⟨h.bl, by simp, fun a ha b hb => ?_⟩
    obtain ⟨y, hy, rfl⟩ := List.mem_map.1 ha
    simp only [List.map_cons, List.map_nil, List.mem_singleton] at hb
    subst hb
    obtain ⟨_, mb, hm'⟩ := h.sess y hy
    have hlt := (Array.getElem?_eq_some_iff.1 hm').1
    intro e
    rw [e] at hlt
    omega
  · intro y hy
    rcases List.mem_append.1 hy with hy | hy
    · exact h.reps y hy
    · obtain rfl := List.mem_singleton.1 hy
      exact ⟨hr1, hr2⟩

theorem Sess.life {w : World} {x : Rec} (h : Sess w x) (h1 : -2147483648 ≤ x.rep) (h2 : x.rep ≤ 2147483647) : Life w x.e.blk x.rep x.ttl := by
  obtain ⟨mb, hm⟩ := h
  have hc : ∀ o, w.cell? ⟨x.e.blk, o, none⟩ = _ := fun o => cell_of_row w x.e.blk o _ 56 (0, 0) hm
  exact ⟨h1, h2, hc 1, hc 2, hc 3, hc 4⟩
theorem Sess.has {w : World} {x : Rec} {L : Nat → Int} (h : Sess w x) (hL : L x.e.blk = x.lm) : Has w L x.e.blk := by
  obtain ⟨mb, hm⟩ := h
  have hc : ∀ o, w.cell? ⟨x.e.blk, o, none⟩ = _ := fun o => cell_of_row w x.e.blk o _ 56 (0, 0) hm
  exact ⟨x.bd, x.vc, hc 5, hc 6, hc 8, hL⟩
end Go.Proofs.YbulkbzmwFmt.Inv
