/- The walk of the law. -/
import Derived.Test.YbulkbzmwGive
import Derived.Deep.LoopGhost
namespace Go.Proofs.Ybulkbzmw.Law
open Go.RowKit Go.Conc Go.Proofs.Ybulkbzmw.Comm Go.Proofs.Ybulkbzmw.Once Go.Proofs.Ybulkbzmw.Give

def connAt (base j : Nat) : Value := .iface 24 (.pointer (some ⟨base + j, 0, none⟩))
/-- What waits in the queue: the conns from i up to n. -/
def bufFrom (base i n : Nat) : Array Value := ((List.range' i (n - i)).map (connAt base)).toArray
theorem size_bufFrom (base i n : Nat) : (bufFrom base i n).size = n - i := by simp [bufFrom]
theorem bufFrom_zero (base : Nat) : bufFrom base 0 0 = #[] := rfl
theorem push_bufFrom (base n : Nat) : (bufFrom base 0 n).push (connAt base n) = bufFrom base 0 (n + 1) := by
  simp only [bufFrom, Nat.sub_zero, List.push_toArray]
  rw [← List.range_eq_range', ← List.range_eq_range', List.range_succ, List.map_append]; rfl
theorem head_bufFrom {base i n : Nat} (h : i < n) : (bufFrom base i n).getD 0 undef = connAt base i := by
  obtain ⟨m, hm⟩ : ∃ m, n - i = m + 1 := ⟨n - i - 1, by omega⟩
  simp [bufFrom, hm, List.range'_succ]
theorem tail_bufFrom {base i n : Nat} (h : i < n) : (bufFrom base i n).extract 1 (bufFrom base i n).size = bufFrom base (i + 1) n := by
  obtain ⟨m, hm⟩ : ∃ m, n - i = m + 1 := ⟨n - i - 1, by omega⟩
  have hm' : n - (i + 1) = m := by omega
  rw [size_bufFrom, hm]
  simp [bufFrom, hm, hm', List.range'_succ]
  exact List.take_of_length_le (by simp)

theorem mk_conns (n : Nat) (hn : n < 300) (w : World) : (Instr.makeChan 23 (.int .i64 n)).run Yba.prog w = .ok (.chan (some w.heap.size)) (w.alloc (.chan n #[] false 0 0 false)) := by
  have h : (Yba.prog.info? 51).map (·.bytes) = some 16 := by kernel_rfl
  obtain ⟨i, hi, hb⟩ := Option.map_eq_some_iff.1 h
  exact run_makeChan (P := Yba.prog) (w := w) Yba.underlying23 hi .i64 n (by omega) (by rw [hb]; omega)
theorem mk_closed (w : World) : (Instr.makeChan 29 (.int .i64 0)).run Yba.prog w = .ok (.chan (some w.heap.size)) (w.alloc (.chan 0 #[] false 0 0 false)) := by
  have h : (Yba.prog.info? 32).map (·.bytes) = some 0 := by kernel_rfl
  obtain ⟨i, hi, hb⟩ := Option.map_eq_some_iff.1 h
  exact run_makeChan (P := Yba.prog) (w := w) Yba.underlying29 hi .i64 0 (by omega) (by rw [hb]; omega)

/-- Behind i sends. -/
structure Sent (w wr : World) (n i : Nat) : Prop where
  size : wr.heap.size = w.heap.size + 3 + i
  chan : wr.heap[w.heap.size + 2]? = some (.chan n (bufFrom (w.heap.size + 3) 0 i) false i 0 false)
  others : wr.heap[w.heap.size]? = some (.cells #[.int .i64 0] 3 (0, 0))
  closes : wr.heap[w.heap.size + 1]? = some (.cells #[.int .i64 0] 3 (0, 0))
  conns : ∀ j, j < i → wr.heap[w.heap.size + 3 + j]? = some (.cells #[.int .i64 j, .pointer (some ⟨w.heap.size, 0, none⟩)] 27 (0, 0))
  below : Below w.heap.size w wr

theorem sent_start (w : World) (n : Nat) : Sent w (((w.alloc (.cells #[.int .i64 0] 3)).alloc (.cells #[.int .i64 0] 3)).alloc (.chan n #[] false 0 0 false)) n 0 := by
  have h1 := (MapKept.heap_alloc ((w.alloc (.cells #[.int .i64 0] 3)).alloc (.cells #[.int .i64 0] 3)) (.chan n #[] false 0 0 false)).1
  have h2 := (MapKept.heap_alloc (w.alloc (.cells #[.int .i64 0] 3)) (.cells #[.int .i64 0] 3)).1
  have h3 := (MapKept.heap_alloc w (.cells #[.int .i64 0] 3)).1
  simp only [World.size_alloc] at h1 h2
  refine ⟨by simp, h1, ?_, ?_, fun j hj => by omega, ?_⟩
  · rw [Below.heap_alloc _ _ _ (by simp; omega), Below.heap_alloc _ _ _ (by simp)]; exact h3
  · rw [Below.heap_alloc _ _ _ (by simp)]; exact h2
  · exact ((((Below.refl _ w).alloc (Nat.le_refl _) _).alloc (by simp) _).alloc (by simp; omega) _)

theorem sent_next {w wr : World} {n i : Nat} (h : Sent w wr n i) :
    Sent w ((wr.alloc (.cells #[.int .i64 i, .pointer (some ⟨w.heap.size, 0, none⟩)] 27)).setChan (w.heap.size + 2) n ((bufFrom (w.heap.size + 3) 0 i).push (.iface 24 (.pointer (some ⟨wr.heap.size, 0, none⟩)))) false (i + 1) 0 false) n (i + 1) := by
  have hs := h.size
  have hold : ∀ k, k < wr.heap.size → k ≠ w.heap.size + 2 → ((wr.alloc (.cells #[.int .i64 i, .pointer (some ⟨w.heap.size, 0, none⟩)] 27)).setChan (w.heap.size + 2) n ((bufFrom (w.heap.size + 3) 0 i).push (.iface 24 (.pointer (some ⟨wr.heap.size, 0, none⟩)))) false (i + 1) 0 false).heap[k]? = wr.heap[k]? := fun k hk hne => by
    simp only [World.setChan]
    rw [Array.getElem?_setIfInBounds_ne (Ne.symm hne), Below.heap_alloc _ _ _ hk]
  refine ⟨?_, ?_, ?_, ?_, ?_, ?_⟩
  · rw [size_setChan]; simp; omega
  · rw [heap_setChan _ _ _ _ _ _ _ _ (by simp; omega), hs, ← push_bufFrom]; rfl
  · rw [hold _ (by omega) (by omega)]; exact h.others
  · rw [hold _ (by omega) (by omega)]; exact h.closes
  · intro j hj
    by_cases e : j = i
    · subst e
      simp only [World.setChan]
      rw [Array.getElem?_setIfInBounds_ne (by omega), ← hs]
      exact (MapKept.heap_alloc wr _).1
    · rw [hold _ (by omega) (by omega)]; exact h.conns j (by omega)
  · exact below_setChan (h.below.alloc (by omega) _) (by omega) _ _ _ _ _ _

theorem assert_conn (a : Addr) (w : World) : (Instr.typeAssert (.iface 24 (.pointer (some a))) 51 24 true).run Yba.prog w = .ok (.tuple #[.pointer (some a), .bool true]) w := by kernel_rfl

/-- The world in which Close is called. -/
def W4 (w wr : World) : World := (wr.alloc (.chan 0 #[] false 0 0 false)).alloc (.cells #[.nilIface, .chan (some (w.heap.size + 1 + 1)), .chan (some wr.heap.size), .int .u32 0, .int .i32 0, .int .u32 0] 45)

theorem size_W4 (w wr : World) : (W4 w wr).heap.size = wr.heap.size + 2 := by simp [W4]
theorem W4_old {w wr : World} {k : Nat} (h : k < wr.heap.size) : (W4 w wr).heap[k]? = wr.heap[k]? := by
  unfold W4; rw [Below.heap_alloc _ _ _ (by simp; omega), Below.heap_alloc _ _ _ h]
theorem W4_C (w wr : World) : (W4 w wr).heap[wr.heap.size]? = some (.chan 0 #[] false 0 0 false) := by
  unfold W4; rw [Below.heap_alloc _ _ _ (by simp)]; exact (MapKept.heap_alloc wr _).1
theorem W4_cell (w wr : World) : (W4 w wr).cell? ⟨wr.heap.size + 1, 1, none⟩ = some (.chan (some (w.heap.size + 1 + 1))) ∧ (W4 w wr).cell? ⟨wr.heap.size + 1, 2, none⟩ = some (.chan (some wr.heap.size)) ∧ (W4 w wr).cell? ⟨wr.heap.size + 1, 3, none⟩ = some (.int .u32 0) ∧ (W4 w wr).cell? ⟨wr.heap.size + 1, 4, none⟩ = some (.int .i32 0) ∧ (W4 w wr).frozen? ⟨wr.heap.size + 1, 3, none⟩ = false ∧ (W4 w wr).frozen? ⟨wr.heap.size + 1, 4, none⟩ = false := by
  unfold W4; simp [go_sem]

/-- What the law's second half stands on. -/
structure Taken (w wr : World) (n i : Nat) : Prop where
  chan : wr.heap[w.heap.size + 2]? = some (.chan n (bufFrom (w.heap.size + 3) i n) false n i false)
  conns : ∀ j, j < n → wr.cell? ⟨w.heap.size + 3 + j, 0, none⟩ = some (.int .i64 j)
  below : Below w.heap.size w wr

structure Ready (w W : World) (n B C p : Nat) : Prop where
  one : W.cell? ⟨B, 1, none⟩ = some (.chan (some (w.heap.size + 1 + 1)))
  two : W.cell? ⟨B, 2, none⟩ = some (.chan (some C))
  shut : W.heap[C]? = some (.chan 0 #[] true 0 0 false)
  p1 : W.cell? ⟨p, 1, none⟩ = some (.pointer (some ⟨w.heap.size + 1, 0, none⟩))
  closes : W.heap[w.heap.size + 1]? = some (.cells #[.int .i64 0] 3 (0, 0))
  others : W.heap[w.heap.size]? = some (.cells #[.int .i64 0] 3 (0, 0))
  taken : Taken w W n 0

theorem cell_of_heap {W : World} {b : Nat} {cs : Array Value} {t : TypeId} (h : W.heap[b]? = some (.cells cs t (0, 0))) (o : Nat) : W.cell? ⟨b, o, none⟩ = cs[o]? := by
  simp [World.cell?, h]
theorem frozen_of_heap {W : World} {b : Nat} {cs : Array Value} {t : TypeId} (h : W.heap[b]? = some (.cells cs t (0, 0))) (o : Nat) : W.frozen? ⟨b, o, none⟩ = false := by
  simp [World.frozen?, h]

theorem ready {w wr w5 : World} {n : Nat} {id : Int} (hs : Sent w wr n n) (hc : Closed (W4 w wr) w5 (wr.heap.size + 1) wr.heap.size) :
    Ready w (w5.alloc (.cells #[.int .i64 id, .pointer (some ⟨w.heap.size + 1, 0, none⟩)] 27)) n (wr.heap.size + 1) wr.heap.size w5.heap.size := by
  have h4 := size_W4 w wr
  have h5 := hc.size
  have hz := hs.size
  have hold : ∀ k, k < wr.heap.size → (w5.alloc (.cells #[.int .i64 id, .pointer (some ⟨w.heap.size + 1, 0, none⟩)] 27)).heap[k]? = wr.heap[k]? := fun k hk => by
    rw [Below.heap_alloc _ _ _ (by omega), hc.block k (by omega) (by omega) (by omega), W4_old hk]
  refine ⟨?_, ?_, ?_, ?_, ?_, ?_, ?_, ?_, ?_⟩
  · rw [World.cell?_alloc_lt _ _ _ (by show wr.heap.size + 1 < _; omega), hc.one]; exact (W4_cell w wr).1
  · rw [World.cell?_alloc_lt _ _ _ (by show wr.heap.size + 1 < _; omega), hc.two]; exact (W4_cell w wr).2.1
  · rw [Below.heap_alloc _ _ _ (by omega)]; exact hc.shut
  · simp [go_sem]
  · rw [hold _ (by omega)]; exact hs.closes
  · rw [hold _ (by omega)]; exact hs.others
  · rw [hold _ (by omega)]; exact hs.chan
  · intro j hj
    rw [cell_of_heap ((hold _ (by omega)).trans (hs.conns j hj))]; rfl
  · refine Below.alloc ?_ (by omega) _
    refine ⟨hc.os.trans hs.below.os, hc.tape.trans hs.below.tape, hc.output.trans hs.below.output, by omega, fun k hk => ?_⟩
    rw [hc.block k (by omega) (by omega) (by omega), W4_old (by omega)]
    exact hs.below.block k hk

/-- Behind give: one close counted. -/
theorem after_give {w W : World} {n B C p : Nat} (h : Ready w W n B C p) :
    Taken w ((W.setCell ⟨w.heap.size + 1, 0, none⟩ (.int .i64 1)).drew) n 0 ∧ ((W.setCell ⟨w.heap.size + 1, 0, none⟩ (.int .i64 1)).drew).cell? ⟨w.heap.size + 1, 0, none⟩ = some (.int .i64 1) ∧ ((W.setCell ⟨w.heap.size + 1, 0, none⟩ (.int .i64 1)).drew).cell? ⟨w.heap.size, 0, none⟩ = some (.int .i64 0) := by
  refine ⟨⟨?_, fun j hj => ?_, ?_⟩, ?_, ?_⟩
  · show (W.setCell ⟨w.heap.size + 1, 0, none⟩ (.int .i64 1)).heap[w.heap.size + 2]? = _
    rw [Once.heap_setCell_other (p := ⟨w.heap.size + 1, 0, none⟩) (k := w.heap.size + 2) (by simp)]; exact h.taken.chan
  · rw [World.cell?_drew, World.cell?_setCell_other _ _ _ _ (by intro e; have := congrArg Addr.block e; simp at this; omega)]; exact h.taken.conns j hj
  · exact (h.taken.below.setCell (by show w.heap.size ≤ w.heap.size + 1; omega) _).drew
  · rw [World.cell?_drew]; exact World.cell?_setCell_same _ _ _ ((cell_of_heap h.closes 0).trans rfl)
  · rw [World.cell?_drew, World.cell?_setCell_other _ _ _ _ (by simp)]; exact (cell_of_heap h.others 0).trans rfl

theorem taken_next {w wr : World} {n i : Nat} (h : Taken w wr n i) (hsz : w.heap.size + 2 < wr.heap.size) : Taken w (wr.setChan (w.heap.size + 2) n (bufFrom (w.heap.size + 3) (i + 1) n) false n (i + 1) false) n (i + 1) := by
  refine ⟨heap_setChan _ _ _ _ _ _ _ _ hsz, fun j hj => ?_, below_setChan h.below (by omega) _ _ _ _ _ _⟩
  rw [cell_setChan (by omega)]; exact h.conns j hj

theorem taken_lt {w wr : World} {n i : Nat} (h : Taken w wr n i) : w.heap.size + 2 < wr.heap.size := by
  rcases Nat.lt_or_ge (w.heap.size + 2) wr.heap.size with h' | h'
  · exact h'
  · have := h.chan
    rw [Array.getElem?_eq_none h'] at this; cases this

set_option maxHeartbeats 1000000 in
set_option maxRecDepth 100000 in
theorem law_any (pre : Int) (id : Int) (w : World) (h0 : 0 ≤ pre) (h1 : pre ≤ 65535) :
    Calls Yba.prog 3 #[.int .u16 pre, .int .i64 id] w fun e w' => e = .returned (.bool true) ∧ Below w.heap.size w w' := by
  obtain ⟨n, hpn⟩ : ∃ n : Nat, pre % 300 = (n : Int) := Int.eq_ofNat_of_zero_le (Int.emod_nonneg _ (by omega))
  have hn : n < 300 := by omega
  have hmc := mk_conns n hn
  have hmd := mk_closed
  go_enter Yba.func3, Yba.ntmps3
  go_wp2_with fail
  simp only [hpn]
  go_loopg [9] (n + 1) (fun gk i wr => ∃ k : Nat, gk = n + 1 - k ∧ k ≤ n ∧ i = .int .i64 k ∧ Sent w wr n k)
  case atStart => exact ⟨0, rfl, Nat.zero_le _, rfl, sent_start w n⟩
  case round =>
    obtain ⟨k, rfl, hk, rfl, hs⟩ := hrel
    have HS : Hid (Sent w wr n k) := hs
    clear hs
    by_cases hlt : k < n
    · go_upto_region 8 with fail
      refine regAt_start' (l := [0, 1, 2, 3, 4, 5]) rfl ?_
      refine regAt_oper rfl rfl (fun K hK => ?_); go_simp; refine ⟨_, _, ⟨rfl, rfl⟩, hK _ _ ?_⟩; clear hK K
      refine regAt_oper rfl rfl (fun K hK => ?_); go_simp; refine ⟨_, _, ⟨rfl, rfl⟩, hK _ _ ?_⟩; clear hK K
      refine regAt_oper rfl rfl (fun K hK => ?_); go_simp; refine ⟨_, _, ⟨rfl, rfl⟩, hK _ _ ?_⟩; clear hK K
      refine regAt_oper rfl rfl (fun K hK => ?_); go_simp; refine ⟨_, _, ⟨rfl, rfl⟩, hK _ _ ?_⟩; clear hK K
      refine regAt_oper rfl rfl (fun K hK => ?_); go_simp; refine ⟨_, _, ⟨rfl, rfl⟩, hK _ _ ?_⟩; clear hK K
      refine regAt_send (c := w.heap.size + 2) (cap := n) (buf := bufFrom (w.heap.size + 3) 0 k) (s := k) (r := 0) (tm := false) (v := .iface 24 (.pointer (some ⟨wr.heap.size, 0, none⟩))) (z := .tuple #[]) (w' := wr.alloc (.cells #[.int .i64 k, .pointer (some ⟨w.heap.size, 0, none⟩)] 27)) rfl rfl (by simp [execOp, scase, Act.eval]) ?_ (by rw [size_bufFrom]; omega) ?_
      · have hsz := HS.out.size
        rw [Below.heap_alloc _ _ _ (by omega)]; exact HS.out.chan
      refine regAt_end ?_
      go_wp2
      go_roundg (n + 1 - (k + 1))
      case measure => omega
      case rel => exact ⟨k + 1, rfl, by omega, by go_num, sent_next HS.out⟩
    · obtain rfl : k = n := by omega
      go_wp2_with fail
      have hc4 := W4_cell w wr
      refine (close_any (wr.heap.size + 1) wr.heap.size (by omega) (W4 w wr) hc4.2.2.1 hc4.2.2.2.1 hc4.2.1 hc4.2.2.2.2.1 hc4.2.2.2.2.2 (W4_C w wr)).mono ?_
      rintro e w5 ⟨rfl, hcl⟩
      have HR := ready (id := id) HS.out hcl
      clear hc4 hcl HS
      go_wp2_with fail
      refine (give_shut (wr.heap.size + 1) (w.heap.size + 2) wr.heap.size w5.heap.size (w.heap.size + 1) k k 0 (bufFrom (w.heap.size + 3) 0 k) 0 _ HR.one HR.two HR.taken.chan (by rw [size_bufFrom]; omega) HR.shut HR.p1 (cell_of_heap HR.closes 0) (frozen_of_heap HR.closes 0) (by omega) (by omega)).mono ?_
      rintro e W7 ⟨rfl, hW7⟩
      obtain ⟨HT, c1, c2⟩ := after_give HR
      rw [show (0 : Int) + 1 = 1 from rfl] at hW7
      rw [← hW7] at HT c1 c2
      clear hW7 HR
      have hlen : ∀ ty, (Builtin.len_ #[23] ty #[.chan (some (w.heap.size + 1 + 1))]).run Yba.prog W7 = .ok (.int .i64 k) W7 := fun ty => by
        have := run_len_chan (P := Yba.prog) 23 ty Yba.underlying23 HT.chan
        rw [size_bufFrom] at this
        exact this
      have HTT : Hid (Taken w W7 k 0) := HT
      clear HT
      go_wp2_with fail
      go_loopg [12] (k + 1) (fun gk i wx => ∃ j : Nat, gk = k + 1 - j ∧ j ≤ k ∧ i = .int .i64 j ∧ Taken w wx k j)
      case atStart => exact ⟨0, rfl, Nat.zero_le _, rfl, HTT.out⟩
      case round =>
        obtain ⟨j, rfl, hj, rfl, ht⟩ := hrel
        have HT : Hid (Taken w wr k j) := ht
        clear ht HTT c1 c2 hlen
        by_cases hlt2 : j < k
        · go_upto_region 18 with fail
          refine regAt_start' (l := [0, 1, 2]) rfl ?_
          refine regAt_oper rfl rfl (fun K hK => ?_); go_simp; refine ⟨_, _, ⟨rfl, rfl⟩, hK _ _ ?_⟩; clear hK K
          refine regAt_recv false (c := w.heap.size + 2) (cap := k) (buf := bufFrom (w.heap.size + 3) j k) (s := k) (r := j) (tm := false) (closed := false) (z := .nilIface) (w' := wr) rfl rfl (by simp [go_sem, execOp, rcase, Act.eval]) HT.out.chan (by rw [size_bufFrom]; omega) ?_
          rw [head_bufFrom hlt2, tail_bufFrom hlt2]
          simp only [got, connAt, Bool.false_eq_true, if_false]
          have HT8 := taken_next HT.out (taken_lt HT.out)
          generalize wr.setChan (w.heap.size + 2) k (bufFrom (w.heap.size + 3) (j + 1) k) false k (j + 1) false = W8 at HT8 ⊢
          have hcell := HT8.conns j hlt2
          have H8 : Hid (Taken w W8 k (j + 1)) := HT8
          clear HT8 HT
          have hta := assert_conn
          have hnot : ∀ (x : Bool) (w : World), (Op.unary .not (.bool x)).run Yba.prog w = .ok (.bool (!x)) w := fun _ _ => rfl
          refine regAt_list 2 rfl rfl ?_
          go_wp2
          go_roundg (k + 1 - (j + 1))
          case measure => omega
          case rel => exact ⟨j + 1, rfl, by omega, by go_num, H8.out⟩
        · go_wp2
          go_ret
          exact ⟨rfl, HT.out.below⟩
end Go.Proofs.Ybulkbzmw.Law
