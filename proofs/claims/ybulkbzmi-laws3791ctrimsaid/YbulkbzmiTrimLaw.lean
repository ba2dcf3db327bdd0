/- The walk of the law over trim. -/
import Derived.Test.YbulkbzmiTrimWalk
import Derived.Deep.OwnRows
import Derived.Laws.CopyOwn
namespace Go.Proofs.Ybulkbzmi.Trim
open Go.RowKit

theorem info21s : (Yba.prog.info? 21).map (·.size) = some 1 := by kernel_rfl

def cellsOf (zs : List Int) : List Value := zs.map (Value.int .i32)
theorem cellsOf_length (zs : List Int) : (cellsOf zs).length = zs.length := by simp [cellsOf]
theorem cellsOf_one (zs : List Int) : ∀ u ∈ cellsOf zs, u.oneCell' = true := by
  intro u hu
  obtain ⟨x, _, rfl⟩ := List.mem_map.1 hu
  rfl
theorem cellsOf_get {zs : List Int} {j : Nat} (hj : j < zs.length) : (cellsOf zs)[j]? = some (.int .i32 (zs.getD j 0)) := by
  simp [cellsOf, List.getD, hj]

/-- Behind the copy and the box: the list in memory. -/
theorem at_made {w2 : World} {g n : Nat} {h : Int} {zs : List Int} {cur : List Value} {t t' : TypeId} (hz : zs.length = n) (hcur : cur.length = n) (hg : w2.heap[g]? = some (.cells (splice cur 0 (cellsOf zs)).toArray t (0, 0))) :
    At (w2.alloc (.cells #[.slice (some ⟨g, 0, none⟩) n n, .int .i64 h] t')) w2.heap.size g n n h zs := by
  have hlt : g < w2.heap.size := by
    rcases Nat.lt_or_ge g w2.heap.size with h | h
    · exact h
    · rw [Array.getElem?_eq_none h] at hg; cases hg
  have hsp : splice cur 0 (cellsOf zs) = cellsOf zs := by
    simp only [splice, List.take_zero, List.nil_append, Nat.zero_add]
    rw [List.drop_eq_nil_of_le (by rw [cellsOf_length]; omega), List.append_nil]
  rw [hsp] at hg
  refine ⟨?_, ?_, ?_, ?_, ?_, ?_⟩
  · simp [go_sem]
  · simp [go_sem]
  · simp [go_sem]
  · simp [go_sem]
  · intro j hj
    rw [World.cell?_alloc_lt _ _ _ hlt]
    simp only [World.cell?, hg]
    simp
    exact cellsOf_get hj
  · intro j hj
    rw [World.frozen?_alloc_old _ _ _ (by simp; omega)]
    simp [World.frozen?, hg]

theorem made_row (w : World) (n : Nat) : (w.alloc (Obj.cells (madeCells #[Value.int .i32 0] n) 21)).heap[w.heap.size]? = some (.cells (List.replicate n (Value.int .i32 0)).toArray 21 (0, 0)) := by
  have hmc : madeCells #[Value.int .i32 0] n = (List.replicate n (Value.int .i32 0)).toArray := by
    rw [← toList_madeCells_one]
  rw [hmc]; exact (MapKept.heap_alloc w _).1

theorem copied {a0 : Option Addr} {b off n cap : Nat} {zs : List Int} {w : World} (ha : n = 0 ∨ a0 = some ⟨b, off, none⟩) (hz : zs.length = n)
    (hc : ∀ i, i < n → w.cell? ⟨b, off + i, none⟩ = some (.int .i32 (zs.getD i 0))) (hb : b < w.heap.size ∨ n = 0) :
    ∃ w2, (Builtin.copy_ #[45, 45] 3 #[.slice (some ⟨w.heap.size, 0, none⟩) n n, .slice a0 n cap]).run Yba.prog (w.alloc (Obj.cells (madeCells #[Value.int .i32 0] n) 21)) = .ok (goInt n) w2 ∧
      Hid (w2.heap[w.heap.size]? = some (.cells (splice (List.replicate n (Value.int .i32 0)) 0 (cellsOf zs)).toArray 21 (0, 0))) ∧ Hid (Below w.heap.size w w2) ∧ w.heap.size < w2.heap.size := by
  have hw := Below.alloc (Below.refl w.heap.size w) (Nat.le_refl _) (Obj.cells (madeCells #[Value.int .i32 0] n) 21)
  have hs : w.heap.size < (w.alloc (Obj.cells (madeCells #[Value.int .i32 0] n) 21)).heap.size := by simp
  have hg := made_row w n
  by_cases h0 : n = 0
  · refine ⟨_, run_copy_none _ 45 45 3 21 _ a0 n n n cap Yba.underlying45 info21s (by simp [h0]) |>.trans (by rw [h0]; rfl), ?_, hw, hs⟩
    have : zs = [] := List.eq_nil_of_length_eq_zero (by omega)
    rw [this]
    show _ = _
    rw [hg]; simp [splice, cellsOf]
  · obtain rfl : a0 = some ⟨b, off, none⟩ := by rcases ha with h | h; omega; exact h
    have hl : (cellsOf zs).length = n := by rw [cellsOf_length, hz]
    have hrun := run_copy_row (P := Yba.prog) (w.alloc (Obj.cells (madeCells #[Value.int .i32 0] n) 21)) 45 45 3 21 w.heap.size 0 n n ⟨b, off, none⟩ n cap _ 21 (cellsOf zs) Yba.underlying45 info21s hg (by rw [hl]; simp) (fun j v hv => by
      have hj : j < zs.length := by
        have := (List.getElem?_eq_some_iff.1 hv).1
        rwa [cellsOf_length] at this
      rw [cellsOf_get hj] at hv
      rw [Addr.add_lit, World.cell?_alloc_lt _ _ _ (by show b < _; omega), hc j (by omega)]
      exact hv) (by simp [hl]) (cellsOf_one zs)
    rw [hl] at hrun
    refine ⟨_, hrun, ?_, below_setRow hw (Nat.le_refl _) _, by simp [World.setRow]⟩
    show _ = _
    have := setRow_heap (w.alloc (Obj.cells (madeCells #[Value.int .i32 0] n) 21)) w.heap.size _ ((List.replicate n (Value.int .i32 0)).toArray.toList.take 0 ++ cellsOf zs ++ (List.replicate n (Value.int .i32 0)).toArray.toList.drop (0 + n)).toArray 21 _ hg
    rw [this]
    simp [splice, hl]

set_option maxHeartbeats 2000000 in
set_option maxRecDepth 100000 in
theorem law_any (a0 : Option Addr) (b off n cap : Nat) (zs : List Int) (hd first : Int) (w : World) (ha : Hid (n = 0 ∨ a0 = some ⟨b, off, none⟩)) (hn : n ≤ 1024) (hz : zs.length = n)
    (hc : ∀ i, i < n → w.cell? ⟨b, off + i, none⟩ = some (.int .i32 (zs.getD i 0))) (hb : b < w.heap.size ∨ n = 0) (h1 : 0 ≤ hd) (h2 : hd ≤ 65535) :
    Calls Yba.prog 5 #[.slice a0 n cap, .int .u16 hd, .int .i32 first] w fun e w' => e = .returned (.bool true) ∧ Below w.heap.size w w' := by
  have hmk := run_make_row' (P := Yba.prog) 45 21 (.int .i32 0) 4 Yba.underlying45 info21 rfl .i64 .i64 n (by omega) (by omega)
  obtain ⟨h, hh⟩ : ∃ h : Nat, hd % ((n : Int) + 1) = (h : Int) := Int.eq_ofNat_of_zero_le (Int.emod_nonneg _ (by omega))
  have hhn : h ≤ n := by have := Int.emod_lt_of_pos hd (show (0 : Int) < (n : Int) + 1 by omega); omega
  have HZ : Hid (zs.length = n) := hz
  have HC : Hid (∀ i, i < n → w.cell? ⟨b, off + i, none⟩ = some (.int .i32 (zs.getD i 0))) := hc
  clear hz hc
  obtain ⟨w2, hcp, HG2, HB2, hsz2⟩ := copied (cap := cap) ha.out HZ.out HC.out hb
  go_enter Yba.func5, Yba.ntmps5
  go_wp2_with fail
  refine (trim_any w2.heap.size w.heap.size n h zs first _ (by omega) hn hhn HZ.out (at_made HZ.out (by simp) HG2.out)).mono ?_
  rintro e w3 ⟨rfl, k, hk1, hk2, hlt, hge, hb3, hcase⟩
  have HB3 : Hid (Below w.heap.size w w3) := (HB2.out.alloc (by omega) _).trans (hb3.mono (by omega))
  have HLT : Hid (∀ j, h ≤ j → j < k → zs.getD j 0 < first) := hlt
  have HGE : Hid (k < n → first ≤ zs.getD k 0) := hge
  have HC3 : Hid (∀ i, i < n → w3.cell? ⟨b, off + i, none⟩ = some (.int .i32 (zs.getD i 0))) := fun i hi => (HB3.out.cell (p := ⟨b, off + i, none⟩) (by show b < _; omega)).trans (HC.out i hi)
  clear hlt hge hb3 HC HB2 HG2 hcp hb
  rcases hcase with ⟨hA, i0, i1, _, _, i4, _⟩ | ⟨hB, i0, i1, _, _, i4, _⟩
  · have HI4 : Hid (∀ j, j < n - k → w3.cell? ⟨w.heap.size, j, none⟩ = some (.int .i32 (zs.getD (k + j) 0))) := fun j hj => by
      have := i4 j (by rw [List.length_drop, HZ.out]; exact hj)
      rw [this]; simp [List.getD]
    clear i4
    go_wp2_with fail
    go_loop [11] (fun i => ∃ c : Nat, h ≤ c ∧ c ≤ k ∧ i = .int .i64 c) (fun i => k - (intOf i).toNat)
    case atStart => exact ⟨h, Nat.le_refl _, hk1, rfl⟩
    case round =>
      obtain ⟨c, hc1, hc2, rfl⟩ := hrel
      by_cases hck : c < k
      · obtain ⟨z, hzc⟩ : ∃ z, zs.getD c 0 = z := ⟨_, rfl⟩
        have hzf : z < first := by rw [← hzc]; exact HLT.out c hc1 hck
        have hcell := HC3.out c (by omega)
        rw [hzc] at hcell
        obtain rfl : a0 = some ⟨b, off, none⟩ := by rcases ha.out with h | h; omega; exact h
        clear hzc
        go_wp2
        go_round
        case rel => exact ⟨c + 1, by omega, by omega, by go_num⟩
        case measure => simp [intOf]; omega
      · obtain rfl : c = k := by omega
        by_cases HKN : c < n
        · obtain ⟨z, hzc⟩ : ∃ z, zs.getD c 0 = z := ⟨_, rfl⟩
          have hzf : first ≤ z := by rw [← hzc]; exact HGE.out HKN
          have hcell := HC3.out c (by omega)
          rw [hzc] at hcell
          obtain rfl : a0 = some ⟨b, off, none⟩ := by rcases ha.out with h | h; omega; exact h
          clear hzc
          go_wp2
          clear hcell
          go_quiet (fail)
          go_wp2
          go_quiet (fail)
          go_wp2

          go_loopg [13] (n - c) (fun gk i wr => ∃ j q : Nat, gk = n - c - j ∧ j ≤ n - c ∧ i = .int .i64 j ∧ wr = w3.drewN q)
          case atStart => exact ⟨0, _, rfl, by omega, rfl, rfl⟩
          case round =>
            obtain ⟨j, q, rfl, hj1, rfl, rfl⟩ := hrel
            by_cases hj : j < n - c
            · obtain ⟨z2, hzc⟩ : ∃ z2, zs.getD (c + j) 0 = z2 := ⟨_, rfl⟩
              have hcell := HC3.out (c + j) (by omega)
              rw [hzc] at hcell
              have hcell2 := HI4.out j (by omega)
              rw [hzc] at hcell2
              have b1 : (0 : Int) ≤ (j : Int) := by omega
              have b2 : (j : Int) < ((n - c : Nat) : Int) := by omega
              have b3 : (0 : Int) ≤ (c : Int) + (j : Int) := by omega
              have b4 : (c : Int) + (j : Int) < (n : Int) := by omega
              clear hzc
              go_wp2_with fail
              go_quiet (fail)
              go_wp2
              go_roundg (n - c - (j + 1))
              case measure => omega
              case rel => exact ⟨j + 1, _, rfl, by omega, by go_num, rfl⟩
            · obtain rfl : j = n - c := by omega
              go_wp2
              go_ret
              exact ⟨by simp; omega, below_drewN HB3.out _⟩
        · obtain rfl : c = n := by omega
          go_wp2
          go_quiet (fail)
          go_wp2
          go_quiet (fail)
          go_wp2

          go_loopg [13] (c - c) (fun gk i wr => ∃ j q : Nat, gk = c - c - j ∧ j ≤ c - c ∧ i = .int .i64 j ∧ wr = w3.drewN q)
          case atStart => exact ⟨0, _, rfl, by omega, rfl, rfl⟩
          case round =>
            obtain ⟨j, q, rfl, hj1, rfl, rfl⟩ := hrel
            by_cases hj : j < c - c
            · omega
            · obtain rfl : j = c - c := by omega
              go_wp2
              go_ret
              exact ⟨by simp, below_drewN HB3.out _⟩
  · have HI4 : Hid (∀ j, j < n → w3.cell? ⟨w.heap.size, j, none⟩ = some (.int .i32 (zs.getD j 0))) := fun j hj => i4 j (by rw [HZ.out]; exact hj)
    clear i4
    go_wp2_with fail
    go_loop [11] (fun i => ∃ c : Nat, h ≤ c ∧ c ≤ k ∧ i = .int .i64 c) (fun i => k - (intOf i).toNat)
    case atStart => exact ⟨h, Nat.le_refl _, hk1, rfl⟩
    case round =>
      obtain ⟨c, hc1, hc2, rfl⟩ := hrel
      by_cases hck : c < k
      · obtain ⟨z, hzc⟩ : ∃ z, zs.getD c 0 = z := ⟨_, rfl⟩
        have hzf : z < first := by rw [← hzc]; exact HLT.out c hc1 hck
        have hcell := HC3.out c (by omega)
        rw [hzc] at hcell
        obtain rfl : a0 = some ⟨b, off, none⟩ := by rcases ha.out with h | h; omega; exact h
        clear hzc
        go_wp2
        go_round
        case rel => exact ⟨c + 1, by omega, by omega, by go_num⟩
        case measure => simp [intOf]; omega
      · obtain rfl : c = k := by omega
        by_cases HKN : c < n
        · obtain ⟨z, hzc⟩ : ∃ z, zs.getD c 0 = z := ⟨_, rfl⟩
          have hzf : first ≤ z := by rw [← hzc]; exact HGE.out HKN
          have hcell := HC3.out c (by omega)
          rw [hzc] at hcell
          obtain rfl : a0 = some ⟨b, off, none⟩ := by rcases ha.out with h | h; omega; exact h
          clear hzc
          go_wp2
          clear hcell
          have hneg : decide ((c : Int) < 0) = false := by simp
          have hnc : ¬ n = c := by omega
          have hp1 : (c : Int) ≤ (n : Int) := by omega
          have hp0 : (0 : Int) ≤ (c : Int) := by omega
          go_quiet (fail)
          go_wp2
          go_quiet (fail)
          go_wp2

          go_loopg [13] (n - c) (fun gk i wr => ∃ j q : Nat, gk = n - c - j ∧ j ≤ n - c ∧ i = .int .i64 j ∧ wr = w3.drewN q)
          case atStart => exact ⟨0, _, rfl, by omega, rfl, rfl⟩
          case round =>
            obtain ⟨j, q, rfl, hj1, rfl, rfl⟩ := hrel
            by_cases hj : j < n - c
            · obtain ⟨z2, hzc⟩ : ∃ z2, zs.getD (c + j) 0 = z2 := ⟨_, rfl⟩
              have hcell := HC3.out (c + j) (by omega)
              rw [hzc] at hcell
              have hcell2 := HI4.out (c + j) (by omega)
              rw [hzc] at hcell2
              have b1 : (0 : Int) ≤ (j : Int) := by omega
              have b2 : (j : Int) < ((n - c : Nat) : Int) := by omega
              have b3 : (0 : Int) ≤ (c : Int) + (j : Int) := by omega
              have b4 : (c : Int) + (j : Int) < (n : Int) := by omega
              clear hzc
              go_wp2_with fail
              go_quiet (fail)
              go_wp2
              go_roundg (n - c - (j + 1))
              case measure => omega
              case rel => exact ⟨j + 1, _, rfl, by omega, by go_num, rfl⟩
            · obtain rfl : j = n - c := by omega
              go_wp2_with fail
              go_loopg [14] n (fun gk i wr => ∃ j q : Nat, gk = n - j ∧ j ≤ n ∧ i = .int .i64 j ∧ wr = w3.drewN q)
              case atStart => exact ⟨0, _, rfl, by omega, rfl, rfl⟩
              case round =>
                obtain ⟨j, q, rfl, hj1, rfl, rfl⟩ := hrel
                by_cases hj : j < n
                · obtain ⟨z2, hzc⟩ : ∃ z2, zs.getD j 0 = z2 := ⟨_, rfl⟩
                  have hcell := HC3.out j (by omega)
                  rw [hzc] at hcell
                  have hcell2 := HI4.out j (by omega)
                  rw [hzc] at hcell2
                  have b1 : (0 : Int) ≤ (j : Int) := by omega
                  have b2 : (j : Int) < (n : Int) := by omega
                  clear hzc
                  go_wp2_with fail
                  go_quiet (fail)
                  go_wp2
                  go_roundg (n - (j + 1))
                  case measure => omega
                  case rel => exact ⟨j + 1, _, rfl, by omega, by go_num, rfl⟩
                · go_wp2
                  go_ret
                  exact ⟨rfl, below_drewN HB3.out _⟩
        · obtain rfl : c = 0 := by omega
          obtain rfl : n = 0 := by omega
          go_wp2
          go_quiet (fail)
          go_wp2
          go_quiet (fail)
          go_wp2

          go_loopg [13] 0 (fun gk i wr => ∃ q : Nat, gk = 0 ∧ i = .int .i64 0 ∧ wr = w3.drewN q)
          case atStart => exact ⟨_, rfl, rfl, rfl⟩
          case round =>
            obtain ⟨q, rfl, rfl, rfl⟩ := hrel
            go_wp2_with fail
            go_loopg [14] 0 (fun gk i wr => ∃ q : Nat, gk = 0 ∧ i = .int .i64 0 ∧ wr = w3.drewN q)
            case atStart => exact ⟨_, rfl, rfl, rfl⟩
            case round =>
              obtain ⟨q, rfl, rfl, rfl⟩ := hrel
              go_wp2
              go_ret
              exact ⟨rfl, below_drewN HB3.out _⟩

end Go.Proofs.Ybulkbzmi.Trim
