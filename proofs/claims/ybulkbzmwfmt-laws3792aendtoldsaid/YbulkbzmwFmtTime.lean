/- The few functions of package time on the road, at times without the monotonic mark. -/
import Derived.Test.YbulkbzmwFmtRows
import Derived.WalkKit
import Derived.WalkSpells
import Derived.WalkLawsBesides
import Derived.Deep.RegionWith
import Derived.Laws.BitsAllLaws
namespace Go.Proofs.YbulkbzmwFmt.Time
open Go.RowKit

theorem and_high (x k : Nat) (h : x < 1073741824) : x &&& (k * 2 ^ 30) = 0 := by
  apply Nat.eq_of_testBit_eq
  intro i
  rw [Nat.testBit_and, Nat.zero_testBit]
  by_cases hi : i < 30
  · rw [Nat.testBit_mul_two_pow]
    simp; omega
  · have h30 : (2 : Nat) ^ 30 ≤ 2 ^ i := Nat.pow_le_pow_right (by decide) (by omega)
    have : x.testBit i = false := Nat.testBit_lt_two_pow (Nat.lt_of_lt_of_le h h30)
    simp [this]
theorem and_mono (x : Nat) (h : x < 1073741824) : bits BinOp.and IntKind.u64 (x : Int) 9223372036854775808 = 0 := by
  have := u64_and_nat x 9223372036854775808 (by omega) (by decide)
  rw [show ((9223372036854775808 : Nat) : Int) = 9223372036854775808 from rfl] at this
  rw [this, show (9223372036854775808 : Nat) = 8589934592 * 2 ^ 30 from by decide, and_high x _ h]; rfl
theorem and_nsec (x : Nat) (h : x < 1073741824) : bits BinOp.and IntKind.u64 (x : Int) 1073741823 = (x : Int) := by
  have := u64_and_nat x 1073741823 (by omega) (by decide)
  rw [show ((1073741823 : Nat) : Int) = 1073741823 from rfl] at this
  rw [this, show 1073741823 = 2 ^ 30 - 1 from rfl, Nat.and_two_pow_sub_one_eq_mod, Nat.mod_eq_of_lt h]
theorem andNot_nsec (x : Nat) (h : x < 1073741824) : bits BinOp.andNot IntKind.u64 (x : Int) 1073741823 = 0 := by
  have := u64_andNot_nat x 1073741823 (by omega) (by decide)
  rw [show ((1073741823 : Nat) : Int) = 1073741823 from rfl] at this
  rw [this]
  rw [show (18446744073709551615 - 1073741823 : Nat) = 17179869183 * 2 ^ 30 from by decide, and_high x _ h]; rfl
theorem or_zero (x : Nat) (h : x < 1073741824) : bits BinOp.or IntKind.u64 0 (x : Int) = (x : Int) := by
  have := u64_or_nat 0 x (by decide) (by omega)
  rw [show ((0 : Nat) : Int) = 0 from rfl] at this
  rw [this, Nat.zero_or]

set_option maxHeartbeats 400000 in
theorem nsec_any (b x : Nat) (hx : x < 1073741824) (w : World) (h0 : w.cell? ⟨b, 0, none⟩ = some (.int .u64 x)) :
    Calls Ybaf.prog 9 #[.pointer (some ⟨b, 0, none⟩)] w fun e w' => e = .returned (.int .i32 x) ∧ w' = w := by
  have h1 := and_nsec x hx
  go_enter Ybaf.func9, Ybaf.ntmps9
  go_wp2
  go_ret
  exact ⟨rfl, rfl⟩

set_option maxHeartbeats 400000 in
theorem sec_any (b x : Nat) (ext : Int) (hx : x < 1073741824) (w : World) (h0 : w.cell? ⟨b, 0, none⟩ = some (.int .u64 x)) (h1 : w.cell? ⟨b, 1, none⟩ = some (.int .i64 ext)) :
    Calls Ybaf.prog 18 #[.pointer (some ⟨b, 0, none⟩)] w fun e w' => e = .returned (.int .i64 ext) ∧ w' = w := by
  have hm := and_mono x hx
  go_enter Ybaf.func18, Ybaf.ntmps18
  go_wp2
  go_ret
  exact ⟨rfl, rfl⟩

set_option maxHeartbeats 400000 in
theorem addSec_any (b x : Nat) (ext d : Int) (hx : x < 1073741824) (w : World) (h0 : w.cell? ⟨b, 0, none⟩ = some (.int .u64 x)) (h1 : w.cell? ⟨b, 1, none⟩ = some (.int .i64 ext)) (f1 : w.frozen? ⟨b, 1, none⟩ = false)
    (e1 : -100 ≤ ext) (e2 : ext ≤ 100) (d1 : -100 ≤ d) (d2 : d ≤ 100) :
    Calls Ybaf.prog 10 #[.pointer (some ⟨b, 0, none⟩), .int .i64 d] w fun e w' => e = .returned (.tuple #[]) ∧ w' = w.setCell ⟨b, 1, none⟩ (.int .i64 (ext + d)) := by
  have hm := and_mono x hx
  by_cases hd : 0 < d
  · have t1 : decide (ext < ext + d) = true := by simp; omega
    have t2 : decide (0 < d) = true := by simp; omega
    go_enter Ybaf.func10, Ybaf.ntmps10
    go_wp2
    go_end0
    exact ⟨rfl, rfl⟩
  · have t1 : decide (ext < ext + d) = false := by simp; omega
    have t2 : decide (0 < d) = false := by simp; omega
    go_enter Ybaf.func10, Ybaf.ntmps10
    go_wp2
    go_end0
    exact ⟨rfl, rfl⟩

/-- A time as a value: so many nanoseconds since the zero time. -/
def tm (d : Int) : Value := .agg #[.int .u64 (d % 1000000000), .int .i64 (d / 1000000000), .pointer none]

set_option maxHeartbeats 1000000 in
set_option maxRecDepth 100000 in
/-- t.Add(d): small t, small d. -/
theorem add_any (t d : Int) (w : World) (t1 : -5000000000 ≤ t) (t2 : t ≤ 5000000000) (d1 : -5000000000 ≤ d) (d2 : d ≤ 5000000000) :
    Calls Ybaf.prog 5 #[tm t, .int .i64 d] w fun e w' => e = .returned (tm (t + d)) ∧ Below w.heap.size w w' := by
  obtain ⟨x, hx⟩ : ∃ x : Nat, t % 1000000000 = (x : Int) := Int.eq_ofNat_of_zero_le (by omega)
  obtain ⟨s, hs⟩ : ∃ s : Int, t / 1000000000 = s := ⟨_, rfl⟩
  have hx1 : x < 1000000000 := by omega
  have hs1 : -10 ≤ s := by omega
  have hs2 : s ≤ 10 := by omega
  unfold tm
  rw [hx, hs]
  obtain ⟨q, hq⟩ : ∃ q : Int, d.tdiv 1000000000 = q := ⟨_, rfl⟩
  obtain ⟨r, hr⟩ : ∃ r : Int, d.tmod 1000000000 = r := ⟨_, rfl⟩
  have hd : d = q * 1000000000 + r := by rw [← hq, ← hr]; have := Int.tdiv_mul_add_tmod d 1000000000; omega
  have hr1 : -999999999 ≤ r ∧ r ≤ 999999999 := by
    rw [← hr]
    have a := Int.tmod_lt_of_pos d (show (0 : Int) < 1000000000 by decide)
    have b := Int.lt_tmod_of_pos d (show (0 : Int) < 1000000000 by decide)
    omega
  have hq1 : -10 ≤ q ∧ q ≤ 10 := by omega
  have hs1' : -100 ≤ s := by omega
  have hs2' : s ≤ 100 := by omega
  have han := andNot_nsec x (by omega)
  by_cases h0 : 1000000000 ≤ (x : Int) + r
  · obtain ⟨y, hy⟩ : ∃ y : Nat, (x : Int) + r - 1000000000 = (y : Int) := Int.eq_ofNat_of_zero_le (by omega)
    have hy1 : y < 1073741824 := by omega
    have hor := or_zero y hy1
    have hmo := and_mono y hy1
    have e0 : (t + d) % 1000000000 = (y : Int) := by omega
    have e1 : (t + d) / 1000000000 = s + (q + 1) := by omega
    rw [e0, e1]
    clear hx hs e0 e1 hd t1 t2 d1 d2
    go_enter Ybaf.func5, Ybaf.ntmps5
    go_wp2_with (go_at_call 9; refine (nsec_any _ x (by omega) _ ?_).mono ?_; (simp [go_sem]); rintro e w' ⟨rfl, rfl⟩)
    refine (addSec_any w.heap.size y s (q + 1) hy1 _ (by simp [go_sem]) (by simp [go_sem]) (by simp [go_sem]) hs1' hs2' (by omega) (by omega)).mono ?_
    rintro e w' ⟨rfl, rfl⟩
    go_wp2
    exact bodyPost_ret (v := .agg #[.int .u64 y, .int .i64 (s + (q + 1)), .pointer none]) (by simp [results, Ybaf.results5, go_sem]) rfl ⟨rfl, by
      repeat (first | exact Below.refl _ _ | refine Below.setCell ?_ (by simp) _ | refine Below.alloc ?_ (by simp) _)⟩
  by_cases h1 : (x : Int) + r < 0
  · obtain ⟨y, hy⟩ : ∃ y : Nat, (x : Int) + r + 1000000000 = (y : Int) := Int.eq_ofNat_of_zero_le (by omega)
    have hy1 : y < 1073741824 := by omega
    have hor := or_zero y hy1
    have hmo := and_mono y hy1
    have e0 : (t + d) % 1000000000 = (y : Int) := by omega
    have e1 : (t + d) / 1000000000 = s + (q - 1) := by omega
    rw [e0, e1]
    clear hx hs e0 e1 hd t1 t2 d1 d2
    go_enter Ybaf.func5, Ybaf.ntmps5
    go_wp2_with (go_at_call 9; refine (nsec_any _ x (by omega) _ ?_).mono ?_; (simp [go_sem]); rintro e w' ⟨rfl, rfl⟩)
    refine (addSec_any w.heap.size y s (q - 1) hy1 _ (by simp [go_sem]) (by simp [go_sem]) (by simp [go_sem]) hs1' hs2' (by omega) (by omega)).mono ?_
    rintro e w' ⟨rfl, rfl⟩
    go_wp2
    exact bodyPost_ret (v := .agg #[.int .u64 y, .int .i64 (s + (q - 1)), .pointer none]) (by simp [results, Ybaf.results5, go_sem]) rfl ⟨rfl, by
      repeat (first | exact Below.refl _ _ | refine Below.setCell ?_ (by simp) _ | refine Below.alloc ?_ (by simp) _)⟩
  · obtain ⟨y, hy⟩ : ∃ y : Nat, (x : Int) + r = (y : Int) := Int.eq_ofNat_of_zero_le (by omega)
    have hy1 : y < 1073741824 := by omega
    have hor : bits BinOp.or IntKind.u64 0 ((x : Int) + r) = (x : Int) + r := by rw [hy]; exact or_zero y hy1
    have HY : Hid ((x : Int) + r = (y : Int)) := hy
    have HM := and_mono y hy1
    have HMO : Hid (bits BinOp.and IntKind.u64 (y : Int) 9223372036854775808 = 0) := HM
    have e0 : (t + d) % 1000000000 = (y : Int) := by omega
    have e1 : (t + d) / 1000000000 = s + q := by omega
    rw [e0, e1]
    clear hx hs e0 e1 hd t1 t2 d1 d2 hy HM
    go_enter Ybaf.func5, Ybaf.ntmps5
    go_wp2_with (go_at_call 9; refine (nsec_any _ x (by omega) _ ?_).mono ?_; (simp [go_sem]); rintro e w' ⟨rfl, rfl⟩)
    rw [HY.out]
    have hmo := HMO.out
    refine (addSec_any w.heap.size y s q hy1 _ (by simp [go_sem]) (by simp [go_sem]) (by simp [go_sem]) hs1' hs2' (by omega) (by omega)).mono ?_
    rintro e w' ⟨rfl, rfl⟩
    go_wp2
    exact bodyPost_ret (v := .agg #[.int .u64 y, .int .i64 (s + q), .pointer none]) (by simp [results, Ybaf.results5, go_sem]) rfl ⟨rfl, by
      repeat (first | exact Below.refl _ _ | refine Below.setCell ?_ (by simp) _ | refine Below.alloc ?_ (by simp) _)⟩

def t0 : Value := .agg #[.int .u64 0, .int .i64 0, .pointer none]
theorem t0_eq : tm 0 = t0 := rfl
theorem and_zero (x : Nat) (h : x < 1073741824) : bits BinOp.and IntKind.u64 0 (x : Int) = 0 := by
  have := u64_and_nat 0 x (by decide) (by omega)
  rw [show ((0 : Nat) : Int) = 0 from rfl] at this
  rw [this, Nat.zero_and]; rfl
theorem and_zero_mono : bits BinOp.and IntKind.u64 0 9223372036854775808 = 0 := by decide +kernel
theorem and_zero_zero : bits BinOp.and IntKind.u64 0 0 = 0 := by decide +kernel

set_option maxHeartbeats 1000000 in
theorem equal_zero (w : World) : Calls Ybaf.prog 44 #[t0, t0] w fun e w' => e = .returned (.bool true) ∧ Below w.heap.size w w' := by
  have a0 := and_zero_zero
  have a1 := and_zero_mono
  unfold t0
  go_enter Ybaf.func44, Ybaf.ntmps44
  go_wp2_with (first
    | (go_at_call 18; refine (sec_any _ 0 0 (by omega) _ ?_ ?_).mono ?_; (simp [go_sem]); (simp [go_sem]); rintro e w' ⟨rfl, rfl⟩)
    | (go_at_call 9; refine (nsec_any _ 0 (by omega) _ ?_).mono ?_; (simp [go_sem]); rintro e w' ⟨rfl, rfl⟩))
  go_ret
  exact ⟨rfl, by repeat (first | exact Below.refl _ _ | refine Below.alloc ?_ (by simp) _)⟩

theorem two_boxes (w : World) (a b c d : Value) : Below w.heap.size w ((w.alloc (.cells #[a, b, .pointer none] 26)).alloc (.cells #[c, d, .pointer none] 26)) ∧ ((w.alloc (.cells #[a, b, .pointer none] 26)).alloc (.cells #[c, d, .pointer none] 26)).heap.size = w.heap.size + 2 ∧
    ((w.alloc (.cells #[a, b, .pointer none] 26)).alloc (.cells #[c, d, .pointer none] 26)).cell? ⟨w.heap.size, 0, none⟩ = some a ∧ ((w.alloc (.cells #[a, b, .pointer none] 26)).alloc (.cells #[c, d, .pointer none] 26)).cell? ⟨w.heap.size, 1, none⟩ = some b ∧ ((w.alloc (.cells #[a, b, .pointer none] 26)).alloc (.cells #[c, d, .pointer none] 26)).cell? ⟨w.heap.size, 2, none⟩ = some (.pointer none) ∧
    ((w.alloc (.cells #[a, b, .pointer none] 26)).alloc (.cells #[c, d, .pointer none] 26)).cell? ⟨w.heap.size + 1, 0, none⟩ = some c ∧ ((w.alloc (.cells #[a, b, .pointer none] 26)).alloc (.cells #[c, d, .pointer none] 26)).cell? ⟨w.heap.size + 1, 1, none⟩ = some d ∧ ((w.alloc (.cells #[a, b, .pointer none] 26)).alloc (.cells #[c, d, .pointer none] 26)).cell? ⟨w.heap.size + 1, 2, none⟩ = some (.pointer none) := by
  refine ⟨((Below.refl _ _).alloc (Nat.le_refl _) _).alloc (by simp) _, by simp, ?_, ?_, ?_, ?_, ?_, ?_⟩ <;> simp [go_sem]

set_option maxHeartbeats 1000000 in
set_option maxRecDepth 100000 in
/-- The zero time, less a time near it. -/
theorem sub_any (u : Int) (w : World) (u1 : -2147483648 ≤ u) (u2 : u ≤ 2147483647) :
    Calls Ybaf.prog 32 #[t0, tm u] w fun e w' => e = .returned (.int .i64 (-u)) ∧ Below w.heap.size w w' := by
  have HA : Hid (∀ W : World, Calls Ybaf.prog 5 #[tm u, .int .i64 (-u)] W fun e w' => e = .returned t0 ∧ Below W.heap.size W w') := fun W => by
    have := add_any u (-u) W (by omega) (by omega) (by omega) (by omega)
    rwa [show u + -u = 0 by omega, t0_eq] at this
  have HE : Hid (∀ W : World, Calls Ybaf.prog 44 #[t0, t0] W fun e w' => e = .returned (.bool true) ∧ Below W.heap.size W w') := equal_zero
  obtain ⟨x, hx⟩ : ∃ x : Nat, u % 1000000000 = (x : Int) := Int.eq_ofNat_of_zero_le (by omega)
  obtain ⟨s, hs⟩ : ∃ s : Int, u / 1000000000 = s := ⟨_, rfl⟩
  have hx1 : x < 1000000000 := by omega
  have hs1 : -10 ≤ s := by omega
  have hs2 : s ≤ 10 := by omega
  have hu : u = s * 1000000000 + x := by omega
  have a0 := and_zero x (by omega)
  have a1 := and_zero_mono
  have HU : Hid (-s * 1000000000 + -(x : Int) = -u) := by show _ = _; omega
  unfold tm t0 at HA HE ⊢
  rw [hx, hs] at HA ⊢
  clear hx hs hu u1 u2
  go_enter Ybaf.func32, Ybaf.ntmps32
  go_wp2_with fail
  refine (sec_any w.heap.size 0 0 (by omega) _ (by simp [go_sem]) (by simp [go_sem])).mono ?_
  rintro e w' ⟨rfl, rfl⟩
  go_wp2_with fail
  refine (sec_any (w.heap.size + 1) x s (by omega) _ (by simp [go_sem]) (by simp [go_sem])).mono ?_
  rintro e w' ⟨rfl, rfl⟩
  go_wp2_with fail
  refine (nsec_any w.heap.size 0 (by omega) _ (by simp [go_sem])).mono ?_
  rintro e w' ⟨rfl, rfl⟩
  go_wp2_with fail
  refine (nsec_any (w.heap.size + 1) x (by omega) _ (by simp [go_sem])).mono ?_
  rintro e w' ⟨rfl, rfl⟩
  go_wp2_with fail
  rw [HU.out]
  have hW := two_boxes w (.int .u64 0) (.int .i64 0) (.int .u64 x) (.int .i64 s)
  generalize (w.alloc (.cells #[.int .u64 0, .int .i64 0, .pointer none] 26)).alloc (.cells #[.int .u64 x, .int .i64 s, .pointer none] 26) = W2 at hW ⊢
  obtain ⟨hb2, hsz2, c0, c1, c2, d0, d1, d2⟩ := hW
  have HB2 : Hid (Below w.heap.size w W2) := hb2
  have lt0 : w.heap.size < W2.heap.size := by omega
  clear hb2
  go_region_with (first
    | (go_at_call 5; refine (HA.out _).mono ?_; rintro e w1 ⟨rfl, hb1⟩; have k0 := (hb1.cell (p := ⟨w.heap.size, 0, none⟩) lt0).trans c0; have k1 := (hb1.cell (p := ⟨w.heap.size, 1, none⟩) lt0).trans c1; have k2 := (hb1.cell (p := ⟨w.heap.size, 2, none⟩) lt0).trans c2)
    | (go_at_call 44; refine (HE.out _).mono ?_; rintro e w2 ⟨rfl, hb2⟩))
  all_goals go_wp2
  all_goals go_ret
  all_goals exact ⟨rfl, (HB2.out.drew.trans (hb1.mono (by show w.heap.size ≤ W2.heap.size; omega))).trans (hb2.mono (by have := hb1.size; have h : W2.drew.heap.size = W2.heap.size := rfl; omega))⟩

set_option maxHeartbeats 1000000 in
/-- The stamper's clock: the zero time, whenever it is asked. -/
theorem now_any (bb : Nat) (w : World) (h0 : w.cell? ⟨bb, 0, none⟩ = some (.int .u64 0)) (h1 : w.cell? ⟨bb, 1, none⟩ = some (.int .i64 0)) (h2 : w.cell? ⟨bb, 2, none⟩ = some (.pointer none)) :
    Calls Ybaf.prog 4 #[.pointer (some ⟨bb, 0, none⟩)] w fun e w' => e = .returned t0 ∧ Below w.heap.size w w' := by
  have lt0 := World.block_lt_of_cell? _ _ h0
  unfold t0
  go_enter Ybaf.func4, Ybaf.ntmps4
  go_wp2
  exact bodyPost_ret (v := .agg #[.int .u64 0, .int .i64 0, .pointer none]) (by simp [results, Ybaf.results4, go_sem]) rfl ⟨rfl, by
    repeat (first | exact Below.refl _ _ | refine Below.setCell ?_ (by simp) _ | refine Below.alloc ?_ (by simp) _)⟩

set_option maxHeartbeats 1000000 in
set_option maxRecDepth 100000 in
theorem expired_any (p : Nat) (rep ttl : Int) (w : World) (r1 : -2147483648 ≤ rep) (r2 : rep ≤ 2147483647) (h1 : w.cell? ⟨p, 1, none⟩ = some (.int .i64 ttl))
    (h2 : w.cell? ⟨p, 2, none⟩ = some (.int .u64 (rep % 1000000000))) (h3 : w.cell? ⟨p, 3, none⟩ = some (.int .i64 (rep / 1000000000))) (h4 : w.cell? ⟨p, 4, none⟩ = some (.pointer none)) :
    Calls Ybaf.prog 21 #[.pointer (some ⟨p, 0, none⟩), t0] w fun e w' => e = .returned (.bool (decide (ttl < -rep))) ∧ Below w.heap.size w w' := by
  have lt0 : p < w.heap.size := World.block_lt_of_cell? _ _ h1
  have HS : Hid (∀ W : World, Calls Ybaf.prog 32 #[t0, tm rep] W fun e w' => e = .returned (.int .i64 (-rep)) ∧ Below W.heap.size W w') := fun W => sub_any rep W r1 r2
  obtain ⟨x, hx⟩ : ∃ x : Int, rep % 1000000000 = x := ⟨_, rfl⟩
  obtain ⟨s, hs⟩ : ∃ s : Int, rep / 1000000000 = s := ⟨_, rfl⟩
  unfold tm t0 at HS
  unfold t0
  rw [hx] at h2 HS
  rw [hs] at h3 HS
  have hW : ((w.alloc (.cells #[.int .u64 0, .int .i64 0, .pointer none] 26)).cell? ⟨p, 1, none⟩ = some (.int .i64 ttl)) := by rw [World.cell?_alloc_lt _ _ _ lt0]; exact h1
  have HB : Hid (Below w.heap.size w (w.alloc (.cells #[.int .u64 0, .int .i64 0, .pointer none] 26))) := (Below.refl _ _).alloc (Nat.le_refl _) _
  have hsz : (w.alloc (.cells #[.int .u64 0, .int .i64 0, .pointer none] 26)).heap.size = w.heap.size + 1 := by simp
  clear hx hs r1 r2
  go_enter Ybaf.func21, Ybaf.ntmps21
  go_wp2_with fail
  go_region_with (go_at_call 32; refine (HS.out _).mono ?_; rintro e w1 ⟨rfl, hb1⟩; have k1 : w1.cell? ⟨p, 1, none⟩ = some (.int .i64 ttl) := (hb1.cell (p := ⟨p, 1, none⟩) (by show p < _; simp; omega)).trans (by simpa [go_sem] using hW))
  all_goals go_wp2
  all_goals go_ret
  all_goals exact ⟨rfl, HB.out.drew.trans (hb1.mono (by simp))⟩
end Go.Proofs.YbulkbzmwFmt.Time
