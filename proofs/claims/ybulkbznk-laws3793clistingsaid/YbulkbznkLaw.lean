/- The walk of the law. -/
import Derived.Test.YbulkbznkGet
namespace Go.Proofs.Ybulkbznk.Law
open Go.RowKit Go.Proofs.Ybulkbznk.Uv Go.Proofs.Ybulkbznk.Get

set_option maxRecDepth 100000 in
theorem mk_slots (w : World) : (Instr.makeSlice 26 (.int .i64 4) (.int .i64 4)).run Yba.prog w = .ok (.slice (some ⟨w.heap.size, 0, none⟩) 4 4) (w.alloc (.cells (Array.replicate 32 (.int .u32 0)) 30)) := by kernel_rfl

theorem uv_len (x : Nat) : 1 ≤ (uv x).length ∧ (uv x).length ≤ 2 := by unfold uv; split <;> simp
theorem ints_one (zs : List Int) : ∀ u ∈ zs.map (Value.int .u8), u.oneCell' = true := by
  intro u hu
  obtain ⟨x, _, rfl⟩ := List.mem_map.1 hu
  rfl

set_option maxRecDepth 100000 in
/-- The zero Registry: 270 cells; what they hold is not asked. -/
theorem zero_registry : ∃ Z : Array Value, Z.size = 270 ∧ ∀ w, (zeroValue 49).run Yba.prog w = .ok (.agg Z) w := by
  have h : ((Yba.prog.info? 49).bind (·.zero)).map (fun v => match v with | .agg cs => cs.size | _ => 0) = some 270 := by kernel_rfl
  obtain ⟨v, hv, hs⟩ := Option.map_eq_some_iff.1 h
  obtain ⟨i, hi, hz⟩ := Option.bind_eq_some_iff.1 hv
  cases v with
  | agg cs => exact ⟨cs, hs, fun w => by simp [zeroValue, typeInfo, hi, hz]⟩
  | _ => simp at hs

/-- What the block holds from n on: the key's length, then the key. -/
theorem row_cells {w6 : World} {base g C L n : Nat} {zs : List Int} {key : ByteArray} {xs rest : List Value} (ho : w6.ownsRow base 5 1 (.slice (some ⟨g, 0, none⟩) L C) L xs)
    (hxs : xs = zs.map (Value.int .u8) ++ (u8s (uv key.size) ++ (Lib.strCells key ++ rest))) (hz : zs.length = n) (hL : n + (uv key.size).length + key.size ≤ L) (_h : n ≤ L) :
    g < w6.heap.size ∧ (∀ j, j < (uv key.size).length → w6.cell? ⟨g, n + j, none⟩ = some (.int .u8 (((uv key.size).getD j 0 : Nat) : Int))) ∧
      (∀ j, j < key.size → w6.cell? ⟨g, n + (uv key.size).length + j, none⟩ = some (.int .u8 ((key.data.toList.map fun b : UInt8 => (b.toNat : Int)).getD j 0))) := by
  refine ⟨(ho.lt g rfl).2, fun j hj => ?_, fun j hj => ?_⟩
  · rw [ho.cellAt (n + j) (by omega), hxs, List.getElem?_append_right (by simp [hz]), List.getElem?_append_left (by simp [u8s, hz]; omega)]
    simp [u8s, hz, List.getD, hj]
  · have hl : (Lib.strCells key).length = key.size := Lib.strCells_length key
    have hd : key.data.toList.length = key.size := by rw [Array.length_toList]; rfl
    rw [ho.cellAt (n + (uv key.size).length + j) (by omega), hxs, List.getElem?_append_right (by simp [hz]; omega), List.getElem?_append_right (by simp [u8s, hz]; omega), List.getElem?_append_left (by simp [u8s, hz, hl]; omega)]
    have e : n + (uv key.size).length + j - (zs.map (Value.int .u8)).length - (u8s (uv key.size)).length = j := by simp [u8s, hz]; omega
    rw [e]
    have hj' : j < key.data.toList.length := by omega
    simp only [Lib.strCells, List.getElem?_map, List.getD, List.getElem?_eq_getElem hj', Option.map_some, Option.getD_some]

/-- The four slots: those below i are written. -/
structure Chunk (W wr : World) (ck i : Nat) (off2 : Int) : Prop where
  below : Below ck W wr
  size : wr.heap.size = ck + 1
  row : ∃ cur, wr.heap[ck]? = some (.cells cur 30 (0, 0)) ∧ cur.size = 32 ∧ ∀ j, j < i → cur[j * 8]? = some (.int .u32 0) ∧ cur[j * 8 + 1]? = some (.int .u32 off2)

theorem chunk_start (W : World) (off2 : Int) : Chunk W (W.alloc (.cells (Array.replicate 32 (.int .u32 0)) 30)) W.heap.size 0 off2 :=
  ⟨(Below.refl _ _).alloc (Nat.le_refl _) _, by simp, _, (MapKept.heap_alloc W _).1, by simp, fun j hj => by omega⟩

theorem Chunk.cellAt {W wr : World} {ck i : Nat} {off2 : Int} (h : Chunk W wr ck i off2) {o : Nat} (ho : o < 32) : ∃ v, wr.cell? ⟨ck, o, none⟩ = some v ∧ wr.frozen? ⟨ck, o, none⟩ = false := by
  obtain ⟨cur, hg, hs, _⟩ := h.row
  exact ⟨cur[o], by simp [World.cell?, hg, hs, ho], by simp [World.frozen?, hg]⟩

theorem heap_two {wr : World} {ck : Nat} {cur : Array Value} {t : TypeId} (h : wr.heap[ck]? = some (.cells cur t (0, 0))) (o p : Nat) (u v : Value) :
    ((wr.setCell ⟨ck, o, none⟩ u).setCell ⟨ck, p, none⟩ v).heap[ck]? = some (.cells ((cur.setIfInBounds o u).setIfInBounds p v) t (0, 0)) :=
  heap_setCell_same _ _ _ _ _ _ (heap_setCell_same _ _ _ _ _ _ h)

theorem Chunk.next {W wr : World} {ck i : Nat} {off2 : Int} (h : Chunk W wr ck i off2) (hi : i < 4) : Chunk W ((wr.setCell ⟨ck, i * 8, none⟩ (.int .u32 0)).setCell ⟨ck, i * 8 + 1, none⟩ (.int .u32 off2)) ck (i + 1) off2 := by
  obtain ⟨cur, hg, hs, hj⟩ := h.row
  refine ⟨(h.below.setCell (Nat.le_refl _) _).setCell (Nat.le_refl _) _, by simpa [World.setCell] using h.size, _, heap_two hg _ _ _ _, by simp [hs], fun j hji => ?_⟩
  by_cases e : j = i
  · subst e
    constructor
    · rw [Array.getElem?_setIfInBounds_ne (by omega), Array.getElem?_setIfInBounds_self_of_lt (by omega)]
    · rw [Array.getElem?_setIfInBounds_self_of_lt (by simp [hs]; omega)]
  · obtain ⟨h1, h2⟩ := hj j (by omega)
    constructor
    · rw [Array.getElem?_setIfInBounds_ne (by omega), Array.getElem?_setIfInBounds_ne (by omega)]; exact h1
    · rw [Array.getElem?_setIfInBounds_ne (by omega), Array.getElem?_setIfInBounds_ne (by omega)]; exact h2

/-- The world in which listingOf is called. -/
def Wc (wr : World) (ck g L C t : Nat) (n o2 ln : Int) (Z : Array Value) : World :=
  ((((((wr.setCell ⟨ck, t * 8, none⟩ (.int .u32 0)).setCell ⟨ck, t * 8 + 1, none⟩ (.int .u32 n)).alloc (.cells #[.slice (some ⟨ck, 0, none⟩) 4 4] 26)).alloc (.cells #[.slice (some ⟨g, 0, none⟩) L C] 22)).alloc
    (.cells ((((Z.setIfInBounds 0 (.slice (some ⟨wr.heap.size, 0, none⟩) 1 1)).setIfInBounds 1 (.int .u32 4)).setIfInBounds 2 (.slice (some ⟨wr.heap.size + 1, 0, none⟩) 1 1)).setIfInBounds 3 (.int .i64 0)) 49)).alloc
    (.cells #[.int .u32 0, .int .u32 o2, .int .u32 0, .int .u32 0, .int .u32 0, .int .u32 0, .int .u32 ln, .int .u32 0] 30))

structure Ready (w6 W : World) (m ck g L C t : Nat) (n o2 ln : Int) : Prop where
  hS : W.cell? ⟨m + 3, 6, none⟩ = some (.int .u32 ln)
  r0 : W.cell? ⟨m + 2, 0, none⟩ = some (.slice (some ⟨m, 0, none⟩) 1 1)
  c1 : W.cell? ⟨m, 0, none⟩ = some (.slice (some ⟨ck, 0, none⟩) 4 4)
  k0 : W.cell? ⟨ck, t * 8, none⟩ = some (.int .u32 0)
  k1 : W.cell? ⟨ck, t * 8 + 1, none⟩ = some (.int .u32 n)
  z0 : W.cell? ⟨ck, 0, none⟩ = some (.int .u32 0)
  z1 : W.cell? ⟨ck, 1, none⟩ = some (.int .u32 o2)
  r2 : W.cell? ⟨m + 2, 2, none⟩ = some (.slice (some ⟨m + 1, 0, none⟩) 1 1)
  r3 : W.cell? ⟨m + 1, 0, none⟩ = some (.slice (some ⟨g, 0, none⟩) L C)
  old : Below ck w6 W
  lt : ck < m ∧ W.heap.size = m + 4

theorem cell_row {W : World} {b : Nat} {cs : Array Value} {t : TypeId} (h : W.heap[b]? = some (.cells cs t (0, 0))) (o : Nat) : W.cell? ⟨b, o, none⟩ = cs[o]? := by
  simp [World.cell?, h]

theorem ready {w6 wr : World} {ck g L C t : Nat} {n o2 ln : Int} {Z : Array Value} (h : Chunk w6 wr ck 4 o2) (hZ : Z.size = 270) (ht1 : 1 ≤ t) (ht2 : t < 4) :
    Ready w6 (Wc wr ck g L C t n o2 ln Z) wr.heap.size ck g L C t n o2 ln := by
  obtain ⟨cur, hg, hs, hj⟩ := h.row
  have hsz := h.size
  have e2 := heap_two hg (t * 8) (t * 8 + 1) (.int .u32 0) (.int .u32 n)
  obtain ⟨V, hV⟩ : ∃ V, V = (wr.setCell ⟨ck, t * 8, none⟩ (.int .u32 0)).setCell ⟨ck, t * 8 + 1, none⟩ (.int .u32 n) := ⟨_, rfl⟩
  have hVs : V.heap.size = wr.heap.size := by rw [hV]; simp [World.setCell]
  rw [← hV] at e2
  have hb : Below ck w6 V := by rw [hV]; exact (h.below.setCell (Nat.le_refl _) _).setCell (Nat.le_refl _) _
  unfold Wc
  rw [← hV]
  obtain ⟨j1, hj1⟩ : ∃ o, o = Obj.cells #[Value.slice (some ⟨ck, 0, none⟩) 4 4] 26 := ⟨_, rfl⟩
  obtain ⟨j2, hj2⟩ : ∃ o, o = Obj.cells #[Value.slice (some ⟨g, 0, none⟩) L C] 22 := ⟨_, rfl⟩
  obtain ⟨j3, hj3⟩ : ∃ o, o = Obj.cells ((((Z.setIfInBounds 0 (.slice (some ⟨wr.heap.size, 0, none⟩) 1 1)).setIfInBounds 1 (.int .u32 4)).setIfInBounds 2 (.slice (some ⟨wr.heap.size + 1, 0, none⟩) 1 1)).setIfInBounds 3 (.int .i64 0)) 49 := ⟨_, rfl⟩
  obtain ⟨j4, hj4⟩ : ∃ o, o = Obj.cells #[.int .u32 0, .int .u32 o2, .int .u32 0, .int .u32 0, .int .u32 0, .int .u32 0, .int .u32 ln, .int .u32 0] 30 := ⟨_, rfl⟩
  rw [← hj1, ← hj2, ← hj3, ← hj4]
  have hold : ∀ k, k < V.heap.size → ((((V.alloc j1).alloc j2).alloc j3).alloc j4).heap[k]? = V.heap[k]? := fun k hk => by
    rw [Below.heap_alloc _ _ _ (by simp; omega), Below.heap_alloc _ _ _ (by simp; omega), Below.heap_alloc _ _ _ (by simp; omega), Below.heap_alloc _ _ _ hk]
  have m1 : ((((V.alloc j1).alloc j2).alloc j3).alloc j4).heap[wr.heap.size]? = some j1 := by
    rw [Below.heap_alloc _ _ _ (by simp; omega), Below.heap_alloc _ _ _ (by simp; omega), Below.heap_alloc _ _ _ (by simp; omega), ← hVs]; exact (MapKept.heap_alloc V _).1
  have m2 : ((((V.alloc j1).alloc j2).alloc j3).alloc j4).heap[wr.heap.size + 1]? = some j2 := by
    rw [Below.heap_alloc _ _ _ (by simp; omega), Below.heap_alloc _ _ _ (by simp; omega), ← hVs]
    have := (MapKept.heap_alloc (V.alloc j1) j2).1
    simpa only [World.size_alloc] using this
  have m3 : ((((V.alloc j1).alloc j2).alloc j3).alloc j4).heap[wr.heap.size + 2]? = some j3 := by
    rw [Below.heap_alloc _ _ _ (by simp; omega), ← hVs]
    have := (MapKept.heap_alloc ((V.alloc j1).alloc j2) j3).1
    simpa only [World.size_alloc] using this
  have m4 : ((((V.alloc j1).alloc j2).alloc j3).alloc j4).heap[wr.heap.size + 3]? = some j4 := by
    rw [← hVs]
    have := (MapKept.heap_alloc (((V.alloc j1).alloc j2).alloc j3) j4).1
    simpa only [World.size_alloc] using this
  have mck := (hold ck (by omega)).trans e2
  have hsz4 : ((((V.alloc j1).alloc j2).alloc j3).alloc j4).heap.size = wr.heap.size + 4 := by simp; omega
  have hbel : Below ck w6 ((((V.alloc j1).alloc j2).alloc j3).alloc j4) := (((hb.alloc (by omega) _).alloc (by simp; omega) _).alloc (by simp; omega) _).alloc (by simp; omega) _
  generalize ((((V.alloc j1).alloc j2).alloc j3).alloc j4) = W at *
  subst hj1 hj2 hj3 hj4
  refine ⟨?_, ?_, ?_, ?_, ?_, ?_, ?_, ?_, ?_, hbel, by omega, hsz4⟩
  · rw [cell_row m4]; rfl
  · rw [cell_row m3]; simp [hZ]
  · rw [cell_row m1]; rfl
  · rw [cell_row mck, Array.getElem?_setIfInBounds_ne (by omega), Array.getElem?_setIfInBounds_self_of_lt (by omega)]
  · rw [cell_row mck, Array.getElem?_setIfInBounds_self_of_lt (by simp [hs]; omega)]
  · rw [cell_row mck, Array.getElem?_setIfInBounds_ne (by omega), Array.getElem?_setIfInBounds_ne (by omega)]; exact (hj 0 (by omega)).1
  · rw [cell_row mck, Array.getElem?_setIfInBounds_ne (by omega), Array.getElem?_setIfInBounds_ne (by omega)]; exact (hj 0 (by omega)).2
  · rw [cell_row m3]; simp [hZ]
  · rw [cell_row m2]; rfl

set_option maxRecDepth 100000 in
set_option maxHeartbeats 2000000 in
theorem law_any (a0 : Option Addr) (n cap0 : Nat) (zs : List Int) (key : ByteArray) (sel : Int) (listed : Bool) (w : World) (hn : n ≤ 1024) (hm : key.size ≤ 1024) (h1 : 0 ≤ sel) (h2 : sel ≤ 255)
    (hz : zs.length = n) (hnone : a0 = none → n = 0 ∧ cap0 = 0) (hc : ∀ ad, a0 = some ad → ∀ j u, (zs.map (Value.int .u8))[j]? = some u → w.cell? (ad.add j) = some u) :
    Calls Yba.prog 3 #[.slice a0 n cap0, .string key, .int .u8 sel, .bool listed] w fun e w' => e = .returned (.bool true) ∧ Below w.heap.size w w' := by
  obtain ⟨ti, hi0, hz0, hz1, hz2⟩ := info_parts info5
  have hms := mk_slots
  have HN : Hid (a0 = none → n = 0 ∧ cap0 = 0) := hnone
  have HC : Hid (∀ ad, a0 = some ad → ∀ j u, (zs.map (Value.int .u8))[j]? = some u → w.cell? (ad.add j) = some u) := hc
  have HZ : Hid (zs.length = n) := hz
  clear hnone hc hz
  obtain ⟨C, hC⟩ : ∃ C : Nat, C = n + 2 * key.size + 24 := ⟨_, rfl⟩
  have hC1 : n + 2 * key.size + 24 ≤ C := by omega
  have hC2 : C ≤ 4000 := by omega
  have HCC : Hid (C = n + 2 * key.size + 24) := hC
  clear hC
  have hu1 := uv_len key.size
  have hu2 := uv_len (key.size + 1)
  go_enter Yba.func3, Yba.ntmps3
  go_wp2_with (at_make; refine wpList_make_own _ rfl (.const (.int .i64 0)) (.tmp 35) 22 rfl w.heap.size 5 ti (.int .u8 0) 1 Yba.underlying22 hi0 hz0 hz1 .i64 .i64 _ C rfl rfl (by rw [HCC.out]; omega) (by rw [hz2]; omega) (by unfold maxLen; omega) (Nat.le_refl _) ?_)
  intro w1 ho1 hg1
  have HB1 : Hid (Below w.heap.size w w1) := (Below.refl _ _).grown hg1 (Nat.le_refl _) (by simp)
  have HC1 : Hid (∀ ad, a0 = some ad → ∀ j u, (zs.map (Value.int .u8))[j]? = some u → w1.cell? (ad.add j) = some u) := fun ad had j u hu => hg1.cell (HC.out ad had j u hu) (by simp)
  have HO1 : Hid (w1.ownsRow w.heap.size 5 1 (.slice (some ⟨w.heap.size, 0, none⟩) 0 C) 0 []) := ho1
  clear ho1 hg1
  go_wp2_with (at_builtin; refine wpList_append_fits_any _ rfl (.tmp 37) (.tmp 38) 22 rfl w.heap.size 5 ti 1 Yba.underlying22 hi0 hz1 w.heap.size 0 C [] rfl HO1.out a0 n cap0 (zs.map (Value.int .u8)) rfl (by simp [HZ.out]) HN.out HC1.out (ints_one zs) (by omega) ?_)
  intro w2 ho2 hg2
  have HB2 : Hid (Below w.heap.size w w2) := HB1.out.grown hg2 HB1.out.size (by simp)
  have HO2 : Hid (w2.ownsRow w.heap.size 5 1 (.slice (some ⟨w.heap.size, 0, none⟩) n C) n (zs.map (Value.int .u8))) := ho2
  clear ho2 hg2 HO1 HC1 HB1
  go_wp2_with fail
  refine (append_uv w.heap.size w.heap.size n C _ key.size (by omega) w2 HO2.out HB2.out.size (by omega)).mono ?_
  rintro e w3 ⟨rfl, ho3, hg3⟩
  have HB3 : Hid (Below w.heap.size w w3) := HB2.out.grown hg3 HB2.out.size (by simp)
  obtain ⟨l1, hl1⟩ : ∃ l1, (uv key.size).length = l1 := ⟨_, rfl⟩
  rw [hl1] at ho3 hu1 ⊢
  have HL1 : Hid ((uv key.size).length = l1) := hl1
  have HO3 : Hid (w3.ownsRow w.heap.size 5 1 (.slice (some ⟨w.heap.size, 0, none⟩) (n + l1) C) (n + l1) (zs.map (Value.int .u8) ++ u8s (uv key.size))) := ho3
  clear ho3 hg3 hl1 HO2 HB2
  go_wp2_with (at_builtin; refine Lib.wpList_append_fits_string _ rfl (.tmp 48) (.tmp 49) 22 9 rfl w.heap.size 5 ti Yba.underlying22 Yba.underlying9 hi0 hz1 (some ⟨w.heap.size, 0, none⟩) (n + l1) C _ rfl HO3.out key rfl (by omega) (by omega) ?_)
  intro w4 ho4 hg4
  have HB4 : Hid (Below w.heap.size w w4) := HB3.out.grown hg4 HB3.out.size (by simp [Value.ownBlock])
  have HO4 : Hid (w4.ownsRow w.heap.size 5 1 (.slice (some ⟨w.heap.size, 0, none⟩) (n + l1 + key.size) C) (n + l1 + key.size) (zs.map (Value.int .u8) ++ (u8s (uv key.size) ++ Lib.strCells key))) := ho4
  clear ho4 hg4 HO3 HB3
  go_wp2_with fail
  have hcall := append_uv w.heap.size w.heap.size (n + l1 + key.size) C _ (key.size + 1) (by omega) w4 HO4.out HB4.out.size (by omega)
  rw [show ((key.size + 1 : Nat) : Int) = (key.size : Int) + 1 from rfl] at hcall
  refine hcall.mono ?_
  clear hcall
  rintro e w5 ⟨rfl, ho5, hg5⟩
  have HB5 : Hid (Below w.heap.size w w5) := HB4.out.grown hg5 HB4.out.size (by simp)
  obtain ⟨l2, hl2⟩ : ∃ l2, (uv (key.size + 1)).length = l2 := ⟨_, rfl⟩
  rw [hl2] at ho5 hu2 ⊢
  have HO5 : Hid (w5.ownsRow w.heap.size 5 1 (.slice (some ⟨w.heap.size, 0, none⟩) (n + l1 + key.size + l2) C) (n + l1 + key.size + l2) ((zs.map (Value.int .u8) ++ (u8s (uv key.size) ++ Lib.strCells key)) ++ u8s (uv (key.size + 1)))) := ho5
  clear ho5 hg5 hl2 HO4 HB4
  go_wp2_with (at_builtin; go_must (refine Lib.wpList_append_fits_string _ rfl (.tmp 61) (.tmp 62) 22 9 rfl w.heap.size 5 ti Yba.underlying22 Yba.underlying9 hi0 hz1 (some ⟨w.heap.size, 0, none⟩) (n + l1 + key.size + l2) C _ rfl HO5.out _ rfl (by omega) ?_ ?_))
  · rw [ByteArray.size_append]
    show n + l1 + key.size + l2 + (key.size + 1) ≤ C
    omega
  intro w6 ho6 hg6
  have HB6 : Hid (Below w.heap.size w w6) := HB5.out.grown hg6 HB5.out.size (by simp [Value.ownBlock])
  have HR := row_cells (n := n) (zs := zs) (key := key) (rest := u8s (uv (key.size + 1)) ++ Lib.strCells (key ++ ⟨#[120]⟩)) ho6 rfl HZ.out (by rw [HL1.out]; omega) (by omega)
  obtain ⟨hw6, HRR⟩ := HR
  have HR6 : Hid _ := HRR
  obtain ⟨L, hL⟩ : ∃ L, L = n + l1 + key.size + l2 + (key.size + 1) := ⟨_, rfl⟩
  have hL1 : n + l1 + key.size ≤ L := by omega
  have hL2 : L < C := by omega
  rw [← hL]
  clear hL ho6 hg6 HRR HO5 HB5 HC HN
  obtain ⟨t, hht⟩ : ∃ t : Nat, 1 + sel % 3 = (t : Int) := Int.eq_ofNat_of_zero_le (by omega)
  have ht1 : 1 ≤ t := by omega
  have ht2 : t < 4 := by omega
  go_wp2_with fail
  obtain ⟨o2, ho2⟩ : ∃ o2 : Nat, (n : Int) + (l1 : Int) + (key.size : Int) = (o2 : Int) := ⟨n + l1 + key.size, by omega⟩
  simp only [ho2]
  have ho2' : o2 ≤ 4000 := by omega
  clear ho2
  go_loopg [15, 72] 5 (fun gk _ b wr => ∃ i : Nat, gk = 5 - i ∧ i ≤ 4 ∧ b = .int .i64 i ∧ Chunk w6 wr w6.heap.size i o2)
  case atStart => exact ⟨0, rfl, Nat.zero_le _, rfl, chunk_start w6 _⟩
  case round =>
    obtain ⟨i, rfl, hi, rfl, hch⟩ := hrel
    have HCH : Hid (Chunk w6 wr w6.heap.size i o2) := hch
    by_cases hi4 : i < 4
    · obtain ⟨v0, c0, f0⟩ := hch.cellAt (o := i * 8) (by omega)
      obtain ⟨v1, c1, f1⟩ := hch.cellAt (o := i * 8 + 1) (by omega)
      clear hch
      have b0 : (0 : Int) ≤ (i : Int) := by omega
      have b1 : (i : Int) < 4 := by omega
      go_wp2
      go_roundg (5 - (i + 1))
      case measure => omega
      case rel => exact ⟨i + 1, rfl, by omega, by go_num, HCH.out.next hi4⟩
    · obtain rfl : i = 4 := by omega
      obtain ⟨v0, c0, f0⟩ := hch.cellAt (o := t * 8) (by omega)
      obtain ⟨v1, c1, f1⟩ := hch.cellAt (o := t * 8 + 1) (by omega)
      clear hch
      have b0 : (0 : Int) ≤ (t : Int) := by omega
      have b1 : (t : Int) < 4 := by omega
      obtain ⟨Z, hZ, hzv⟩ := zero_registry
      have he := eq_ref
      cases listed
      · have HR : Hid (Ready w6 (Wc wr w6.heap.size w.heap.size L C t n o2 0 Z) wr.heap.size w6.heap.size w.heap.size L C t n o2 0) := ready HCH.out hZ ht1 ht2
        have HL : Hid (Calls Yba.prog 5 #[.pointer (some ⟨wr.heap.size + 2, 0, none⟩), .pointer (some ⟨wr.heap.size + 3, 0, none⟩)] (Wc wr w6.heap.size w.heap.size L C t n o2 0 Z) fun e w' => e = .returned (.string ByteArray.empty) ∧ Below (Wc wr w6.heap.size w.heap.size L C t n o2 0 Z).heap.size (Wc wr w6.heap.size w.heap.size L C t n o2 0 Z) w') := listing_none _ _ _ HR.out.hS
        go_wp2_with fail
        refine HL.out.mono ?_
        rintro e W8 ⟨rfl, hb8⟩
        have hlt := HR.out.lt
        have cS : W8.cell? ⟨wr.heap.size + 1 + 1 + 1, 6, none⟩ = some (.int .u32 0) := (hb8.cell (p := ⟨wr.heap.size + 3, 6, none⟩) (by show wr.heap.size + 3 < _; omega)).trans HR.out.hS
        have ck0 : W8.cell? ⟨w6.heap.size, t * 8, none⟩ = some (.int .u32 0) := (hb8.cell (p := ⟨w6.heap.size, t * 8, none⟩) (by show w6.heap.size < _; omega)).trans HR.out.k0
        have ck1 : W8.cell? ⟨w6.heap.size, t * 8 + 1, none⟩ = some (.int .u32 n) := (hb8.cell (p := ⟨w6.heap.size, t * 8 + 1, none⟩) (by show w6.heap.size < _; omega)).trans HR.out.k1
        have cz0 : W8.cell? ⟨w6.heap.size, 0, none⟩ = some (.int .u32 0) := (hb8.cell (p := ⟨w6.heap.size, 0, none⟩) (by show w6.heap.size < _; omega)).trans HR.out.z0
        have cz1 : W8.cell? ⟨w6.heap.size, 1, none⟩ = some (.int .u32 o2) := (hb8.cell (p := ⟨w6.heap.size, 1, none⟩) (by show w6.heap.size < _; omega)).trans HR.out.z1
        have HB8 : Hid (Below w.heap.size w W8) := (HB6.out.trans (HR.out.old.mono HB6.out.size)).trans (hb8.mono (by have := HB6.out.size; omega))
        clear hb8 HR HL hlt HCH c0 c1 f0 f1
        go_wp2
        go_ret
        exact ⟨by simp, HB8.out⟩
      · by_cases hn0 : n = 0
        · subst hn0
          have HR : Hid (Ready w6 (Wc wr w6.heap.size w.heap.size L C t ((0 : Nat) : Int) o2 t Z) wr.heap.size w6.heap.size w.heap.size L C t ((0 : Nat) : Int) o2 t) := ready HCH.out hZ ht1 ht2
          have HL : Hid (Calls Yba.prog 5 #[.pointer (some ⟨wr.heap.size + 2, 0, none⟩), .pointer (some ⟨wr.heap.size + 3, 0, none⟩)] (Wc wr w6.heap.size w.heap.size L C t ((0 : Nat) : Int) o2 t Z) fun e w' => e = .returned (.string ByteArray.empty) ∧ Below (Wc wr w6.heap.size w.heap.size L C t ((0 : Nat) : Int) o2 t Z).heap.size (Wc wr w6.heap.size w.heap.size L C t ((0 : Nat) : Int) o2 t Z) w') := listing_zero _ _ wr.heap.size w6.heap.size t _ ht2 (by omega) HR.out.hS HR.out.r0 HR.out.c1 HR.out.k0 HR.out.k1
          go_wp2_with fail
          refine HL.out.mono ?_
          rintro e W8 ⟨rfl, hb8⟩
          have hlt := HR.out.lt
          have cS : W8.cell? ⟨wr.heap.size + 1 + 1 + 1, 6, none⟩ = some (.int .u32 t) := (hb8.cell (p := ⟨wr.heap.size + 3, 6, none⟩) (by show wr.heap.size + 3 < _; omega)).trans HR.out.hS
          have ck0 : W8.cell? ⟨w6.heap.size, t * 8, none⟩ = some (.int .u32 0) := (hb8.cell (p := ⟨w6.heap.size, t * 8, none⟩) (by show w6.heap.size < _; omega)).trans HR.out.k0
          have ck1 : W8.cell? ⟨w6.heap.size, t * 8 + 1, none⟩ = some (.int .u32 0) := (hb8.cell (p := ⟨w6.heap.size, t * 8 + 1, none⟩) (by show w6.heap.size < _; omega)).trans HR.out.k1
          have cz0 : W8.cell? ⟨w6.heap.size, 0, none⟩ = some (.int .u32 0) := (hb8.cell (p := ⟨w6.heap.size, 0, none⟩) (by show w6.heap.size < _; omega)).trans HR.out.z0
          have cz1 : W8.cell? ⟨w6.heap.size, 1, none⟩ = some (.int .u32 o2) := (hb8.cell (p := ⟨w6.heap.size, 1, none⟩) (by show w6.heap.size < _; omega)).trans HR.out.z1
          have HB8 : Hid (Below w.heap.size w W8) := (HB6.out.trans (HR.out.old.mono HB6.out.size)).trans (hb8.mono (by have := HB6.out.size; omega))
          clear hb8 HR HL hlt HCH c0 c1 f0 f1
          go_wp2
          go_ret
          exact ⟨by simp, HB8.out⟩
        · have hn0' : ((n : Int) != 0) = true := by rw [bne_iff_ne]; omega
          have HR : Hid (Ready w6 (Wc wr w6.heap.size w.heap.size L C t n o2 t Z) wr.heap.size w6.heap.size w.heap.size L C t n o2 t) := ready HCH.out hZ ht1 ht2
          have HL : Hid (Calls Yba.prog 5 #[.pointer (some ⟨wr.heap.size + 2, 0, none⟩), .pointer (some ⟨wr.heap.size + 3, 0, none⟩)] (Wc wr w6.heap.size w.heap.size L C t n o2 t Z) fun e w' => e = .returned (.string key) ∧ Below (Wc wr w6.heap.size w.heap.size L C t n o2 t Z).heap.size (Wc wr w6.heap.size w.heap.size L C t n o2 t Z) w') := listing_key _ _ wr.heap.size w6.heap.size t (wr.heap.size + 1) w.heap.size n L C key _ ht2 (by omega) HR.out.hS HR.out.r0 HR.out.c1 HR.out.k0 HR.out.k1 (by omega) (by omega) (by rw [HL1.out]; omega) hL2 (by omega) HR.out.r2 HR.out.r3 (fun j hj => (HR.out.old.cell (p := ⟨w.heap.size, n + j, none⟩) hw6).trans (HR6.out.1 j hj)) (fun j hj => (HR.out.old.cell (p := ⟨w.heap.size, n + (uv key.size).length + j, none⟩) hw6).trans (HR6.out.2 j hj))
          go_wp2_with fail
          refine HL.out.mono ?_
          rintro e W8 ⟨rfl, hb8⟩
          have hlt := HR.out.lt
          have cS : W8.cell? ⟨wr.heap.size + 1 + 1 + 1, 6, none⟩ = some (.int .u32 t) := (hb8.cell (p := ⟨wr.heap.size + 3, 6, none⟩) (by show wr.heap.size + 3 < _; omega)).trans HR.out.hS
          have ck0 : W8.cell? ⟨w6.heap.size, t * 8, none⟩ = some (.int .u32 0) := (hb8.cell (p := ⟨w6.heap.size, t * 8, none⟩) (by show w6.heap.size < _; omega)).trans HR.out.k0
          have ck1 : W8.cell? ⟨w6.heap.size, t * 8 + 1, none⟩ = some (.int .u32 n) := (hb8.cell (p := ⟨w6.heap.size, t * 8 + 1, none⟩) (by show w6.heap.size < _; omega)).trans HR.out.k1
          have cz0 : W8.cell? ⟨w6.heap.size, 0, none⟩ = some (.int .u32 0) := (hb8.cell (p := ⟨w6.heap.size, 0, none⟩) (by show w6.heap.size < _; omega)).trans HR.out.z0
          have cz1 : W8.cell? ⟨w6.heap.size, 1, none⟩ = some (.int .u32 o2) := (hb8.cell (p := ⟨w6.heap.size, 1, none⟩) (by show w6.heap.size < _; omega)).trans HR.out.z1
          have HB8 : Hid (Below w.heap.size w W8) := (HB6.out.trans (HR.out.old.mono HB6.out.size)).trans (hb8.mono (by have := HB6.out.size; omega))
          clear hb8 HR HL hlt HCH c0 c1 f0 f1
          go_wp2
          go_ret
          exact ⟨by simp, HB8.out⟩
end Go.Proofs.Ybulkbznk.Law
