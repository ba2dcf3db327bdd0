/- encoding/binary.AppendUvarint and Uvarint at this dump, for numbers below 2048. -/
import Derived.Test.YbulkbznkRows
import Derived.WalkKit
import Derived.WalkSpells
import Derived.Deep.LoopGhost
import Derived.Room.AppendFits
import Derived.Maps.AppendAt
namespace Go.Proofs.Ybulkbznk.Uv
open Go.RowKit

theorem info5 : (Yba.prog.info? 5).map (fun i => (i.zero, i.size, i.bytes)) = some (some (.int .u8 0), 1, 1) := by kernel_rfl

/-- The bytes of a number below 2^14. -/
def uv (x : Nat) : List Nat := if x < 128 then [x] else [x % 128 + 128, x / 128]
def u8s (l : List Nat) : List Value := l.map fun n : Nat => Value.int .u8 (n : Int)

theorem or_low_all : ∀ x : Fin 2048, bits BinOp.or IntKind.u8 (((x : Nat) : Int) % 256) 128 = (((x : Nat) % 128 + 128 : Nat) : Int) := by decide +kernel
theorem or_low (x : Nat) (h : x < 2048) : bits BinOp.or IntKind.u8 ((x : Int) % 256) 128 = ((x % 128 + 128 : Nat) : Int) := or_low_all ⟨x, h⟩

set_option maxRecDepth 100000 in
set_option maxHeartbeats 1000000 in
theorem append_uv (base g k cap : Nat) (xs : List Value) (x : Nat) (hx : x < 2048) (w : World) (hown : w.ownsRow base 5 1 (.slice (some ⟨g, 0, none⟩) k cap) k xs) (hbase : base ≤ w.heap.size) (hroom : k + 2 ≤ cap) :
    Calls Yba.prog 4 #[.slice (some ⟨g, 0, none⟩) k cap, .int .u64 x] w fun e w' =>
      e = .returned (.slice (some ⟨g, 0, none⟩) (k + (uv x).length) cap) ∧ w'.ownsRow base 5 1 (.slice (some ⟨g, 0, none⟩) (k + (uv x).length) cap) (k + (uv x).length) (xs ++ u8s (uv x)) ∧ w.grownBy w' (some g) := by
  obtain ⟨ti, hi0, hz0, hz1, hz2⟩ := info_parts info5
  have HO : Hid (w.ownsRow base 5 1 (.slice (some ⟨g, 0, none⟩) k cap) k xs) := hown
  clear hown
  by_cases h : x < 128
  · go_enter Yba.func4, Yba.ntmps4
    go_wp2
    go_loopg [0, 1] 0 (fun gk s v wr => gk = 0 ∧ s = .slice (some ⟨g, 0, none⟩) k cap ∧ v = .int .u64 x ∧ wr = w)
    case atStart => exact ⟨rfl, rfl, rfl, rfl⟩
    case round =>
      obtain ⟨rfl, rfl, rfl, rfl⟩ := hrel
      have HU : Hid (uv x = [x]) := by show uv x = [x]; simp [uv, h]
      go_wp2_with (at_builtin; refine wpList_append_fits _ rfl (.tmp 15) (.tmp 18) 22 rfl base 5 ti 1 Yba.underlying22 hi0 hz1 g k cap xs rfl (HO.out.alloc _) ⟨wr.heap.size, 0, none⟩ 1 1 [.int .u8 x] rfl rfl (cell_one_new _ _ _) (fun u hu => by rw [List.mem_singleton.1 hu]; rfl) (by omega) ?_)
      intro w2 ho2 hg2
      go_wp2
      go_ret
      rw [HU.out]
      exact ⟨rfl, ho2, (World.grownBy_alloc _ _ _).trans hg2⟩
  · go_enter Yba.func4, Yba.ntmps4
    go_wp2
    go_loopg [0, 1] 1 (fun gk s v wr => (gk = 1 ∧ s = .slice (some ⟨g, 0, none⟩) k cap ∧ v = .int .u64 x ∧ wr = w) ∨
      (gk = 0 ∧ s = .slice (some ⟨g, 0, none⟩) (k + 1) cap ∧ v = .int .u64 ((x / 128 : Nat) : Int) ∧ wr.ownsRow base 5 1 (.slice (some ⟨g, 0, none⟩) (k + 1) cap) (k + 1) (xs ++ u8s [x % 128 + 128]) ∧ w.grownBy wr (some g)))
    case atStart => exact .inl ⟨rfl, rfl, rfl, rfl⟩
    case round =>
      rcases hrel with ⟨rfl, rfl, rfl, rfl⟩ | ⟨rfl, rfl, rfl, ho, hg⟩
      · obtain ⟨y, hy⟩ : ∃ y : Nat, y = x % 128 + 128 := ⟨_, rfl⟩
        have hor : bits BinOp.or IntKind.u8 ((x : Int) % 256) 128 = (y : Int) := by rw [hy]; exact or_low x hx
        have HY : Hid (y = x % 128 + 128) := hy
        clear hy
        go_wp2_with (at_builtin; refine wpList_append_fits _ rfl (.tmp 7) (.tmp 11) 22 rfl base 5 ti 1 Yba.underlying22 hi0 hz1 g k cap xs rfl (HO.out.alloc _) ⟨wr.heap.size, 0, none⟩ 1 1 [.int .u8 y] rfl rfl (cell_one_new _ _ _) (fun u hu => by rw [List.mem_singleton.1 hu]; rfl) (by omega) ?_)
        intro w2 ho2 hg2
        go_wp2
        go_roundg 0
        case measure => omega
        case rel => exact .inr ⟨rfl, rfl, by rw [Int.natCast_ediv]; rfl, by rw [← HY.out]; exact ho2, (World.grownBy_alloc _ _ _).trans hg2⟩
      · have HU : Hid (uv x = [x % 128 + 128, x / 128]) := by show uv x = _; simp [uv, h]
        obtain ⟨q, hq⟩ : ∃ q : Nat, q = x / 128 := ⟨_, rfl⟩
        have hq1 : q < 128 := by omega
        rw [← hq]
        have HQ : Hid (q = x / 128) := hq
        have HO2 : Hid (wr.ownsRow base 5 1 (.slice (some ⟨g, 0, none⟩) (k + 1) cap) (k + 1) (xs ++ u8s [x % 128 + 128])) := ho
        clear hq ho
        go_wp2_with (at_builtin; refine wpList_append_fits _ rfl (.tmp 15) (.tmp 18) 22 rfl base 5 ti 1 Yba.underlying22 hi0 hz1 g (k + 1) cap _ rfl (HO2.out.alloc _) ⟨wr.heap.size, 0, none⟩ 1 1 [.int .u8 q] rfl rfl (cell_one_new _ _ _) (fun u hu => by rw [List.mem_singleton.1 hu]; rfl) (by omega) ?_)
        intro w2 ho2 hg2
        go_wp2
        go_ret
        rw [HU.out, ← HQ.out]
        refine ⟨rfl, ?_, (hg.trans (World.grownBy_alloc _ _ _)).trans hg2⟩
        exact ho2

theorem or_zero_all : ∀ x : Fin 2048, bits BinOp.or IntKind.u64 0 ((x : Nat) : Int) = ((x : Nat) : Int) := by decide +kernel
theorem and_low_all : ∀ x : Fin 2048, bits BinOp.and IntKind.u8 ((((x : Nat) % 128 + 128 : Nat)) : Int) 127 = (((x : Nat) % 128 : Nat) : Int) := by decide +kernel
theorem or_high_all : ∀ x : Fin 2048, bits BinOp.or IntKind.u64 (((x : Nat) % 128 : Nat) : Int) ((((x : Nat) / 128 : Nat) : Int) * 128) = ((x : Nat) : Int) := by decide +kernel

set_option maxRecDepth 100000 in
set_option maxHeartbeats 1000000 in
theorem uvarint_any (g o len cap x : Nat) (hx : x < 2048) (w : World) (hlen : (uv x).length ≤ len) (hcap : len ≤ 65536) (hc : ∀ j, j < (uv x).length → w.cell? ⟨g, o + j, none⟩ = some (.int .u8 (((uv x).getD j 0 : Nat) : Int))) :
    Calls Yba.prog 8 #[.slice (some ⟨g, o, none⟩) len cap] w fun e w' => e = .returned (.tuple #[.int .u64 x, .int .i64 ((uv x).length : Nat)]) ∧ w' = w := by
  by_cases h : x < 128
  · have hu : uv x = [x] := by simp [uv, h]
    rw [hu] at hc hlen ⊢
    have c0 := hc 0 (by simp)
    simp only [List.getD_cons_zero, Nat.add_zero] at c0
    clear hc
    simp only [List.length_singleton] at hlen
    go_enter Yba.func8, Yba.ntmps8
    go_wp2
    go_loopg [4, 5, 10] 0 (fun gk a b c wr => gk = 0 ∧ a = .int .u64 0 ∧ b = .int .u64 0 ∧ c = .int .i64 0 ∧ wr = w)
    case atStart => exact ⟨rfl, rfl, rfl, rfl, rfl⟩
    case round =>
      obtain ⟨rfl, rfl, rfl, rfl, rfl⟩ := hrel
      have h0 := or_zero_all ⟨x, hx⟩
      simp only at h0
      go_wp2
      go_ret2
      exact ⟨rfl, rfl⟩
  · have hu : uv x = [x % 128 + 128, x / 128] := by simp [uv, h]
    rw [hu] at hc hlen ⊢
    have c0 := hc 0 (by simp)
    have c1 := hc 1 (by simp)
    simp only [List.getD_cons_zero, List.getD_cons_succ, Nat.add_zero] at c0 c1
    clear hc
    simp only [List.length_cons, List.length_nil] at hlen
    obtain ⟨y, hy⟩ : ∃ y : Nat, y = x % 128 + 128 := ⟨_, rfl⟩
    obtain ⟨q, hq⟩ : ∃ q : Nat, q = x / 128 := ⟨_, rfl⟩
    rw [← hy] at c0
    rw [← hq] at c1
    have hy1 : 128 ≤ y := by omega
    have hy2 : y < 256 := by omega
    have hq1 : q < 128 := by omega
    obtain ⟨m, hm⟩ : ∃ m : Nat, m = x % 128 := ⟨_, rfl⟩
    have hm1 : m < 128 := by omega
    have hand : bits BinOp.and IntKind.u8 (y : Int) 127 = (m : Int) := by rw [hy, hm]; exact and_low_all ⟨x, hx⟩
    have hor0 : bits BinOp.or IntKind.u64 0 (m : Int) = (m : Int) := or_zero_all ⟨m, by omega⟩
    have hor2 : bits BinOp.or IntKind.u64 (m : Int) ((q : Int) * 128) = (x : Int) := by rw [hm, hq]; exact or_high_all ⟨x, hx⟩
    clear hy hq hu hm
    go_enter Yba.func8, Yba.ntmps8
    go_wp2
    go_loopg [4, 5, 10] 1 (fun gk a b c wr => wr = w ∧ ((gk = 1 ∧ a = .int .u64 0 ∧ b = .int .u64 0 ∧ c = .int .i64 0) ∨ (gk = 0 ∧ a = .int .u64 (m : Int) ∧ b = .int .u64 7 ∧ c = .int .i64 1)))
    case atStart => exact ⟨rfl, .inl ⟨rfl, rfl, rfl, rfl⟩⟩
    case round =>
      obtain ⟨rfl, ⟨rfl, rfl, rfl, rfl⟩ | ⟨rfl, rfl, rfl, rfl⟩⟩ := hrel
      · go_wp2
        go_roundg 0
        case measure => omega
        case rel => exact ⟨rfl, .inr ⟨rfl, rfl, rfl, rfl⟩⟩
      · go_wp2
        go_ret2
        exact ⟨rfl, rfl⟩
end Go.Proofs.Ybulkbznk.Uv
