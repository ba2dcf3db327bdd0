/- (*slotStore).at, (*byteArena).get, (*Registry).listingOf. -/
import Derived.Test.YbulkbznkUv
import Derived.Laws.StructEq
import Derived.Laws.BytesArg
import Derived.Deep.QuietTactic
import Derived.BigQuiet
import Derived.Deep.RegionWith
namespace Go.Proofs.Ybulkbznk.Get
open Go.RowKit Go.Proofs.Ybulkbznk.Uv

set_option maxRecDepth 100000 in
set_option maxHeartbeats 1000000 in
theorem at_any (R ch ck t : Nat) (ht : t < 4) (w : World) (h0 : w.cell? ⟨R, 0, none⟩ = some (.slice (some ⟨ch, 0, none⟩) 1 1)) (h1 : w.cell? ⟨ch, 0, none⟩ = some (.slice (some ⟨ck, 0, none⟩) 4 4)) :
    Calls Yba.prog 7 #[.pointer (some ⟨R, 0, none⟩), .int .u32 t] w fun e w' => e = .returned (.pointer (some ⟨ck, t * 8, none⟩)) ∧ w' = w := by
  have e1 : (t : Int) / 65536 = 0 := by omega
  have e2 : (t : Int) % 65536 = t := by omega
  go_enter Yba.func7, Yba.ntmps7
  go_wp2
  go_ret
  exact ⟨rfl, rfl⟩

theorem eq_ref (a b : Int) (w : World) : (binOp .eql 28 (.agg #[.int .u32 0, .int .u32 a]) (.agg #[.int .u32 0, .int .u32 b])).run Yba.prog w = .ok (.bool (a == b)) w := by
  have h1 : Yba.prog.stoodInHeld 28 = false := by kernel_rfl
  have h2 := Yba.underlying28
  have h3 := Yba.underlying23
  simp [go_sem, h1, h2, h3]
  by_cases h : a = b <;> simp [h]

set_option maxRecDepth 100000 in
set_option maxHeartbeats 1000000 in
theorem get_zero (R : Nat) (w : World) :
    Calls Yba.prog 6 #[.pointer (some ⟨R, 2, none⟩), .agg #[.int .u32 0, .int .u32 0]] w fun e w' => e = .returned (.slice none 0 0) ∧ Below w.heap.size w w' := by
  have he := eq_ref
  go_enter Yba.func6, Yba.ntmps6
  go_wp2
  go_ret
  exact ⟨rfl, (Below.refl _ _).alloc (Nat.le_refl _) _⟩

theorem below_drewN {B : Nat} {a w : World} (h : Below B a w) (n : Nat) : Below B a (w.drewN n) := h.trans ⟨rfl, rfl, rfl, Nat.le_refl _, fun _ _ => rfl⟩

set_option maxRecDepth 100000 in
set_option maxHeartbeats 1000000 in
theorem get_any (R bl g off x len cap : Nat) (w : World) (hoff : 0 < off) (hx : x < 2048) (hlen : off + (uv x).length + x ≤ len) (hcap : len < cap) (hcap2 : cap ≤ 65536)
    (h0 : w.cell? ⟨R, 2, none⟩ = some (.slice (some ⟨bl, 0, none⟩) 1 1)) (h1 : w.cell? ⟨bl, 0, none⟩ = some (.slice (some ⟨g, 0, none⟩) len cap))
    (hc : ∀ j, j < (uv x).length → w.cell? ⟨g, off + j, none⟩ = some (.int .u8 (((uv x).getD j 0 : Nat) : Int))) :
    Calls Yba.prog 6 #[.pointer (some ⟨R, 2, none⟩), .agg #[.int .u32 0, .int .u32 off]] w fun e w' => e = .returned (.slice (some ⟨g, off + (uv x).length, none⟩) x (cap - off - (uv x).length)) ∧ Below w.heap.size w w' := by
  have he := eq_ref
  have hoff1 : ((off : Int) == 0) = false := by rw [beq_eq_false_iff_ne]; omega
  have lt0 := World.block_lt_of_cell? _ _ h0
  have lt1 := World.block_lt_of_cell? _ _ h1
  have hs0 : 0 < (uv x).length := by unfold uv; split <;> simp
  have ltg : g < w.heap.size := World.block_lt_of_cell? w ⟨g, off + 0, none⟩ (hc 0 hs0)
  obtain ⟨sz, hsz⟩ : ∃ sz, (uv x).length = sz := ⟨_, rfl⟩
  have HU : Hid (∀ W : World, Below w.heap.size w W → Calls Yba.prog 8 #[.slice (some ⟨g, off, none⟩) (len - off) (cap - off)] W fun e w' => e = .returned (.tuple #[.int .u64 x, .int .i64 (sz : Nat)]) ∧ w' = W) := by
    intro W hb
    have := uvarint_any g off (len - off) (cap - off) x hx W (by omega) (by omega) (fun j hj => (hb.cell (p := ⟨g, off + j, none⟩) ltg).trans (hc j hj))
    rwa [hsz] at this
  rw [hsz] at hlen ⊢
  clear hc hsz
  have hsl : sz + x ≤ len - off := by omega
  go_enter Yba.func6, Yba.ntmps6
  go_wp2
  go_quiet (fail)
  go_wp2_with fail
  refine (HU.out _ (below_drewN ((Below.refl _ _).alloc (Nat.le_refl _) _) _)).mono ?_
  rintro e w1 ⟨rfl, rfl⟩
  go_wp2
  go_ret
  exact ⟨by simp, below_drewN ((Below.refl _ _).alloc (Nat.le_refl _) _) _⟩

set_option maxRecDepth 100000 in
set_option maxHeartbeats 1000000 in
theorem listing_none (R S : Nat) (w : World) (hS : w.cell? ⟨S, 6, none⟩ = some (.int .u32 0)) :
    Calls Yba.prog 5 #[.pointer (some ⟨R, 0, none⟩), .pointer (some ⟨S, 0, none⟩)] w fun e w' => e = .returned (.string ByteArray.empty) ∧ Below w.heap.size w w' := by
  go_enter Yba.func5, Yba.ntmps5
  go_wp2
  go_ret
  exact ⟨rfl, Below.refl _ _⟩

set_option maxRecDepth 100000 in
set_option maxHeartbeats 1000000 in
theorem listing_zero (R S ch ck t : Nat) (w : World) (ht : t < 4) (ht0 : 0 < t) (hS : w.cell? ⟨S, 6, none⟩ = some (.int .u32 t))
    (h0 : w.cell? ⟨R, 0, none⟩ = some (.slice (some ⟨ch, 0, none⟩) 1 1)) (h1 : w.cell? ⟨ch, 0, none⟩ = some (.slice (some ⟨ck, 0, none⟩) 4 4))
    (k0 : w.cell? ⟨ck, t * 8, none⟩ = some (.int .u32 0)) (k1 : w.cell? ⟨ck, t * 8 + 1, none⟩ = some (.int .u32 0)) :
    Calls Yba.prog 5 #[.pointer (some ⟨R, 0, none⟩), .pointer (some ⟨S, 0, none⟩)] w fun e w' => e = .returned (.string ByteArray.empty) ∧ Below w.heap.size w w' := by
  have ht1 : ((t : Int) == 0) = false := by rw [beq_eq_false_iff_ne]; omega
  have HA : Hid (∀ n, Calls Yba.prog 7 #[.pointer (some ⟨R, 0, none⟩), .int .u32 t] (w.drewN n) fun e w' => e = .returned (.pointer (some ⟨ck, t * 8, none⟩)) ∧ w' = w.drewN n) := fun n => at_any R ch ck t ht (w.drewN n) h0 h1
  have hcv := fun w' => run_convert_bytes_nil (P := Yba.prog) w' 22 5 Yba.underlying22 Yba.underlying5 0 0 9 Yba.underlying9
  clear h0 h1
  go_enter Yba.func5, Yba.ntmps5
  go_wp2_with fail
  go_region_with (first | (go_at_call 7; refine (HA.out 1).mono ?_; rintro e w' ⟨rfl, rfl⟩) | (go_at_call 6; refine (get_zero R _).mono ?_; rintro e w' ⟨rfl, hb⟩))
  all_goals go_wp2
  all_goals go_ret
  all_goals exact ⟨rfl, (below_drewN (Below.refl _ w) 1).trans hb⟩

theorem string_back (s : ByteArray) : strOfNums (s.data.toList.map fun b : UInt8 => (b.toNat : Int)) = s := by
  apply ByteArray.ext
  apply Array.ext'
  rw [strOfNums_data, List.map_map]
  conv => rhs; rw [← List.map_id s.data.toList]
  apply List.map_congr_left
  intro b _
  simp

set_option maxRecDepth 100000 in
set_option maxHeartbeats 1000000 in
theorem listing_key (R S ch ck t bl g off len cap : Nat) (key : ByteArray) (w : World) (ht : t < 4) (ht0 : 0 < t) (hS : w.cell? ⟨S, 6, none⟩ = some (.int .u32 t))
    (h0 : w.cell? ⟨R, 0, none⟩ = some (.slice (some ⟨ch, 0, none⟩) 1 1)) (h1 : w.cell? ⟨ch, 0, none⟩ = some (.slice (some ⟨ck, 0, none⟩) 4 4))
    (k0 : w.cell? ⟨ck, t * 8, none⟩ = some (.int .u32 0)) (k1 : w.cell? ⟨ck, t * 8 + 1, none⟩ = some (.int .u32 off))
    (hoff : 0 < off) (hx : key.size < 2048) (hlen : off + (uv key.size).length + key.size ≤ len) (hcap : len < cap) (hcap2 : cap ≤ 65536)
    (r2 : w.cell? ⟨R, 2, none⟩ = some (.slice (some ⟨bl, 0, none⟩) 1 1)) (r3 : w.cell? ⟨bl, 0, none⟩ = some (.slice (some ⟨g, 0, none⟩) len cap))
    (hc : ∀ j, j < (uv key.size).length → w.cell? ⟨g, off + j, none⟩ = some (.int .u8 (((uv key.size).getD j 0 : Nat) : Int)))
    (hk : ∀ j, j < key.size → w.cell? ⟨g, off + (uv key.size).length + j, none⟩ = some (.int .u8 ((key.data.toList.map fun b : UInt8 => (b.toNat : Int)).getD j 0))) :
    Calls Yba.prog 5 #[.pointer (some ⟨R, 0, none⟩), .pointer (some ⟨S, 0, none⟩)] w fun e w' => e = .returned (.string key) ∧ Below w.heap.size w w' := by
  have ht1 : ((t : Int) == 0) = false := by rw [beq_eq_false_iff_ne]; omega
  have HA : Hid (∀ n, Calls Yba.prog 7 #[.pointer (some ⟨R, 0, none⟩), .int .u32 t] (w.drewN n) fun e w' => e = .returned (.pointer (some ⟨ck, t * 8, none⟩)) ∧ w' = w.drewN n) := fun n => at_any R ch ck t ht (w.drewN n) h0 h1
  have HG : Hid (Calls Yba.prog 6 #[.pointer (some ⟨R, 2, none⟩), .agg #[.int .u32 0, .int .u32 off]] (w.drewN 1) fun e w' => e = .returned (.slice (some ⟨g, off + (uv key.size).length, none⟩) key.size (cap - off - (uv key.size).length)) ∧ Below w.heap.size (w.drewN 1) w') := get_any R bl g off key.size len cap (w.drewN 1) hoff hx hlen hcap hcap2 r2 r3 hc
  have hs0 : 0 < (uv key.size).length := by unfold uv; split <;> simp
  have ltg : g < w.heap.size := World.block_lt_of_cell? w ⟨g, off + 0, none⟩ (hc 0 hs0)
  have HC : Hid (∀ w', Below w.heap.size (w.drewN 1) w' → (convert 22 9 (.slice (some ⟨g, off + (uv key.size).length, none⟩) key.size (cap - off - (uv key.size).length))).run Yba.prog w' = .ok (.string key) w') := by
    intro w' hb
    have := run_convert_bytes_arg (P := Yba.prog) w' 22 5 Yba.underlying22 Yba.underlying5 g (off + (uv key.size).length) key.size (cap - off - (uv key.size).length) (key.data.toList.map fun b : UInt8 => (b.toNat : Int)) (by rw [List.length_map, Array.length_toList]; rfl) (fun i hi => (hb.cell (p := ⟨g, off + (uv key.size).length + i, none⟩) ltg).trans (hk i hi)) 9 Yba.underlying9
    rwa [string_back] at this
  obtain ⟨sz, hsz⟩ : ∃ sz, (uv key.size).length = sz := ⟨_, rfl⟩
  rw [hsz] at HG HC
  clear h0 h1 hc hk hsz r2 r3 hlen
  go_enter Yba.func5, Yba.ntmps5
  go_wp2_with fail
  go_region_with (first | (go_at_call 7; refine (HA.out 1).mono ?_; rintro e w' ⟨rfl, rfl⟩) | (go_at_call 6; refine HG.out.mono ?_; rintro e w' ⟨rfl, hb⟩; have hcv := HC.out w' hb))
  all_goals go_wp2
  all_goals go_ret
  all_goals exact ⟨rfl, (below_drewN (Below.refl _ w) 1).trans hb⟩
end Go.Proofs.Ybulkbznk.Get
