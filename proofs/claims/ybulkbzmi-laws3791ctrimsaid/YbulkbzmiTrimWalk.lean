/- The walk of (list).trim. -/
import Derived.Test.YbulkbzmiRows
import Derived.WalkKit
import Derived.WalkSpells
import Derived.Deep.LoopGhost
import Derived.Deep.RegionLaw
import Derived.Deep.QuietTactic
import Derived.BigQuiet
namespace Go.Proofs.Ybulkbzmi.Trim
open Go.RowKit

theorem info21 : (Yba.prog.info? 21).map (fun i => (i.zero, i.size, i.bytes)) = some (some (.int .i32 0), 1, 4) := by kernel_rfl

/-- What is known of the list in memory: its struct in block B, its row in block g. -/
structure At (w : World) (B g n len : Nat) (head : Int) (zs : List Int) : Prop where
  items : w.cell? ⟨B, 0, none⟩ = some (.slice (some ⟨g, 0, none⟩) len n)
  hd : w.cell? ⟨B, 1, none⟩ = some (.int .i64 head)
  f0 : w.frozen? ⟨B, 0, none⟩ = false
  f1 : w.frozen? ⟨B, 1, none⟩ = false
  cells : ∀ j, j < zs.length → w.cell? ⟨g, j, none⟩ = some (.int .i32 (zs.getD j 0))
  fz : ∀ j, j < zs.length → w.frozen? ⟨g, j, none⟩ = false

theorem At.drewN {w : World} {B g n len : Nat} {head : Int} {zs : List Int} (h : At w B g n len head zs) (q : Nat) : At (w.drewN q) B g n len head zs :=
  ⟨h.items, h.hd, h.f0, h.f1, h.cells, h.fz⟩

theorem below_drewN {B : Nat} {a w : World} (h : Below B a w) (n : Nat) : Below B a (w.drewN n) := h.trans ⟨rfl, rfl, rfl, Nat.le_refl _, fun _ _ => rfl⟩

theorem cell_set_other {w : World} {a : Addr} {b o : Nat} (v : Value) (h : a ≠ ⟨b, o, none⟩) : (w.setCell ⟨b, o, none⟩ v).cell? a = w.cell? a := by
  exact World.cell?_setCell_other _ _ _ _ (Ne.symm h)

/-- The head is written. -/
theorem At.setHead {w : World} {B g n len : Nat} {head : Int} {zs : List Int} (h : At w B g n len head zs) (hBg : B ≠ g) (v : Int) : At (w.setCell ⟨B, 1, none⟩ (.int .i64 v)) B g n len v zs := by
  refine ⟨?_, ?_, ?_, ?_, ?_, ?_⟩
  · rw [cell_set_other _ (by simp)]; exact h.items
  · exact World.cell?_setCell_same' _ _ _ (by rw [h.hd]; rfl)
  · rw [World.frozen?_setCell]; exact h.f0
  · rw [World.frozen?_setCell]; exact h.f1
  · intro j hj; rw [cell_set_other _ (by simp)]; exact h.cells j hj
  · intro j hj; rw [World.frozen?_setCell]; exact h.fz j hj

/-- The cells that are moved to the front. -/
def moved (zs : List Int) (c : Nat) : List Value := (zs.drop c).map (Value.int .i32)
theorem moved_length (zs : List Int) (c : Nat) : (moved zs c).length = zs.length - c := by simp [moved]
theorem moved_get {zs : List Int} {c j : Nat} (hj : j < zs.length - c) : (moved zs c)[j]? = some (.int .i32 (zs.getD (c + j) 0)) := by
  simp [moved, List.getD, show c + j < zs.length by omega]

theorem below_setCells {B b : Nat} {a : World} (hb : B ≤ b) : ∀ (vs : List Value) (o : Nat) (w : World), Below B a w → Below B a (w.setCells b o vs)
  | [], _, _, h => h
  | v :: vs, o, _, h => below_setCells hb vs (o + 1) _ (h.setCell (p := ⟨b, o, none⟩) hb v)

theorem moved_one (zs : List Int) (c : Nat) : ∀ u ∈ moved zs c, u.oneCell' = true := by
  intro u hu
  obtain ⟨x, _, rfl⟩ := List.mem_map.1 hu
  rfl

/-- Where 'items[c:]' begins, and what lies there. -/
theorem start_at {W : World} {B g n c : Nat} {zs : List Int} (hz : zs.length = n) (h : At W B g n n c zs) (hc : c ≤ n) :
    ∃ A : Addr, (if n = c then some (⟨g, 0, none⟩ : Addr) else some ⟨g, c, none⟩) = some A ∧ Hid (∀ j u, (moved zs c)[j]? = some u → W.drew.cell? (A.add j) = some u) := by
  by_cases e : n = c
  · refine ⟨⟨g, 0, none⟩, by simp [e], fun j u hu => ?_⟩
    have h0 : (moved zs c).length = 0 := by rw [moved_length]; omega
    rw [List.length_eq_zero_iff.1 h0] at hu
    simp at hu
  · refine ⟨⟨g, c, none⟩, by simp [e], fun j u hu => ?_⟩
    have hj : j < zs.length - c := by
      have := (List.getElem?_eq_some_iff.1 hu).1
      rwa [moved_length] at this
    rw [moved_get hj] at hu
    rw [Addr.add_lit]
    exact (h.cells (c + j) (by omega)).trans hu

theorem room_at {W : World} {B g n : Nat} {zs : List Int} {hd : Int} (h : At W B g n n hd zs) (c : Nat) :
    Hid (∀ j, j < (moved zs c).length → (W.drew.cell? ⟨g, 0 + 0 * 1 + j, none⟩).isSome = true ∧ W.drew.frozen? ⟨g, 0 + 0 * 1 + j, none⟩ = false) := by
  intro j hj
  rw [moved_length] at hj
  rw [show 0 + 0 * 1 + j = j by omega]
  exact ⟨by show (W.cell? _).isSome = true; rw [h.cells j (by omega)]; rfl, h.fz j (by omega)⟩

/-- Behind the moved cells: the struct as it was, the row with its head moved. -/
theorem keep_at {W : World} {B g n : Nat} {zs : List Int} {hd : Int} (h : At W B g n n hd zs) (hBg : B ≠ g) (c : Nat) :
    At (W.drew.setCells g 0 (moved zs c)) B g n n hd (zs.drop c) := by
  have ho : ∀ o, (W.drew.setCells g 0 (moved zs c)).cell? ⟨B, o, none⟩ = W.cell? ⟨B, o, none⟩ := fun o => by
    rw [World.cell?_setCells_out g _ _ _ _ (fun e _ => absurd e hBg)]; rfl
  have hf : ∀ x, (W.drew.setCells g 0 (moved zs c)).frozen? x = W.frozen? x := fun x => World.frozen?_setCells g _ _ _ _
  refine ⟨(ho 0).trans h.items, (ho 1).trans h.hd, (hf _).trans h.f0, (hf _).trans h.f1, fun j hj => ?_, fun j hj => (hf _).trans (h.fz j ?_)⟩
  · have hl : j < (moved zs c).length := by rw [moved_length]; simpa using hj
    have hin := World.cell?_setCells_in g (moved zs c) 0 W.drew (fun i hi => by
      rw [moved_length] at hi
      show (W.cell? ⟨g, 0 + i, none⟩).isSome = true
      rw [Nat.zero_add, h.cells i (by omega)]; rfl) j hl
    rw [Nat.zero_add] at hin
    rw [hin]
    have hg := moved_get (zs := zs) (c := c) (j := j) (by simpa using hj)
    rw [List.getElem?_eq_getElem hl] at hg
    rw [hg]
    simp [List.getD]
  · simp at hj; omega

theorem at_after {W : World} {B g n c : Nat} {zs : List Int} (_hz : zs.length = n) (h : At W B g n n c zs) (hBg : B ≠ g) (_hc : c ≤ n) :
    At (((W.drew.setCells g 0 (moved zs c)).setCell ⟨B, 0, none⟩ (.slice (some ⟨g, 0, none⟩) (n - c) n)).setCell ⟨B, 1, none⟩ (.int .i64 0)) B g n (n - c) 0 (zs.drop c) := by
  have k := keep_at h hBg c
  have k2 : At ((W.drew.setCells g 0 (moved zs c)).setCell ⟨B, 0, none⟩ (.slice (some ⟨g, 0, none⟩) (n - c) n)) B g n (n - c) c (zs.drop c) := by
    refine ⟨World.cell?_setCell_same' _ _ _ (by rw [k.items]; rfl), ?_, ?_, ?_, ?_, ?_⟩
    · rw [cell_set_other _ (by simp)]; exact k.hd
    · rw [World.frozen?_setCell]; exact k.f0
    · rw [World.frozen?_setCell]; exact k.f1
    · intro j hj; rw [cell_set_other _ (by simp)]; exact k.cells j hj
    · intro j hj; rw [World.frozen?_setCell]; exact k.fz j hj
  exact k2.setHead hBg 0

set_option maxHeartbeats 1000000 in
set_option maxRecDepth 100000 in
theorem trim_any (B g n h : Nat) (zs : List Int) (first : Int) (w : World) (hBg : B ≠ g) (hn : n ≤ 1024) (hh : h ≤ n) (hz : zs.length = n) (hat : At w B g n n h zs) :
    Calls Yba.prog 9 #[.pointer (some ⟨B, 0, none⟩), .int .i32 first] w fun e w' => e = .returned (.tuple #[]) ∧ ∃ k, h ≤ k ∧ k ≤ n ∧ (∀ j, h ≤ j → j < k → zs.getD j 0 < first) ∧ (k < n → first ≤ zs.getD k 0) ∧ Below (min B g) w w' ∧
      ((n / 2 < k ∧ At w' B g n (n - k) 0 (zs.drop k)) ∨ (k ≤ n / 2 ∧ At w' B g n n k zs)) := by
  obtain ⟨ti, hi0, hz0, hz1, hz2⟩ := info_parts info21
  have HZ : Hid (zs.length = n) := hz
  have HA : Hid (At w B g n n h zs) := hat
  clear hz hat
  go_enter Yba.func9, Yba.ntmps9
  go_wp2
  go_loopg [] (n - h) (fun gk wr => ∃ c : Nat, gk = n - c ∧ h ≤ c ∧ c ≤ n ∧ (∀ j, h ≤ j → j < c → zs.getD j 0 < first) ∧ Below (min B g) w wr ∧ At wr B g n n c zs)
  case atStart => exact ⟨h, rfl, Nat.le_refl _, hh, fun j a b => by omega, Below.refl _ _, HA.out⟩
  case round =>
    obtain ⟨c, rfl, hc1, hc2, hlt, hb, hc⟩ := hrel
    have H1 : Hid (∀ j, h ≤ j → j < c → zs.getD j 0 < first) := hlt
    have H2 : Hid (At wr B g n n c zs) := hc
    have H3 : Hid (Below (min B g) w wr) := hb
    obtain ⟨i0, i1, i2, i3, i4, i5⟩ := hc
    clear hlt hb
    by_cases hcn : c < n
    · have hcell := i4 c (by have := HZ.out; omega)
      obtain ⟨z, hzc⟩ : ∃ z, zs.getD c 0 = z := ⟨_, rfl⟩
      rw [hzc] at hcell
      have HC : Hid (zs.getD c 0 = z) := hzc
      have hd : decide ((c : Int) < (n : Int)) = true := by simpa using hcn
      clear i4 i5 hzc
      by_cases hf : z < first
      · go_wp2_with fail; go_quiet (fail)
        go_wp2
        go_roundg (n - (c + 1))
        case measure => omega
        case rel => exact ⟨c + 1, rfl, by omega, by omega, fun j a b => by
          by_cases e : j = c
          · subst e; rw [HC.out]; exact hf
          · exact H1.out j a (by omega), (below_drewN H3.out _).setCell (Nat.min_le_left _ _) _, (H2.out.drewN _).setHead hBg _⟩
      · have HF : Hid (c < n → first ≤ zs.getD c 0) := by intro _; rw [HC.out]; omega
        clear HC
        go_wp2_with fail; go_quiet (fail)
        go_wp2
        clear hcell
        by_cases hk : n / 2 < c
        · go_quiet (fail)
          go_wp2
          generalize hW : World.drewN _ nq = W
          have HW : Hid (At W B g n n c zs) := by rw [← hW]; exact (H2.out.drewN _).drewN _
          have HB : Hid (Below (min B g) w W) := by rw [← hW]; exact below_drewN (below_drewN H3.out _) _
          clear hW i0 i1 i2 i3 H2 H3
          obtain ⟨AD, hAD, hnews⟩ := start_at HZ.out HW.out hc2
          have s1 : Hid ((moved zs c).length = (n - c) * 1) := by rw [Nat.mul_one]; show _ = _; rw [moved_length, HZ.out]
          have s2 : Hid (∀ u ∈ moved zs c, u.oneCell' = true) := moved_one zs c
          have s3 := room_at HW.out c
          have k0 := (keep_at HW.out hBg c).items
          have k1 := (keep_at HW.out hBg c).hd
          have e0 := (keep_at HW.out hBg c).f0
          have e1 := (keep_at HW.out hBg c).f1
          obtain ⟨j0, j1, g0, g1, _, _⟩ := HW.out
          have hp0 : (0 : Int) ≤ (c : Int) := by omega
          have hp1 : (c : Int) ≤ (n : Int) := by omega
          go_region_law (refine step_append_room rfl (.tmp 51) (.tmp 60) 45 rfl 21 ti 1 Yba.underlying45 hi0 hz1 g 0 0 n (by simp [Act.eval, Act.put]) AD (n - c) (n - c) (moved zs c) (by simp [Act.eval, Act.put]) s1.out hnews.out s2.out (by omega) s3.out ?_)
          all_goals go_wp2
          all_goals go_end0
          all_goals exact ⟨rfl, c, hc1, hc2, H1.out, HF.out, ((below_setCells (Nat.min_le_right _ _) _ _ _ HB.out.drew).setCell (Nat.min_le_left _ _) _).setCell (Nat.min_le_left _ _) _, Or.inl ⟨hk, at_after HZ.out HW.out hBg hc2⟩⟩
        · go_quiet (fail)
          go_wp2
          go_end0
          exact ⟨rfl, c, hc1, hc2, H1.out, HF.out, below_drewN (below_drewN H3.out _) _, Or.inr ⟨by omega, (H2.out.drewN _).drewN _⟩⟩
    · have HF : Hid (c < n → first ≤ zs.getD c 0) := fun h => absurd h hcn
      have hd : decide ((c : Int) < (n : Int)) = false := by simpa using hcn
      clear i4 i5
      go_wp2_with fail; go_quiet (fail)
      go_wp2
      by_cases hk : n / 2 < c
      · go_quiet (fail)
        go_wp2
        generalize hW : World.drewN _ nq = W
        have HW : Hid (At W B g n n c zs) := by rw [← hW]; exact (H2.out.drewN _).drewN _
        have HB : Hid (Below (min B g) w W) := by rw [← hW]; exact below_drewN (below_drewN H3.out _) _
        clear hW i0 i1 i2 i3 H2 H3
        obtain ⟨AD, hAD, hnews⟩ := start_at HZ.out HW.out hc2
        have s1 : Hid ((moved zs c).length = (n - c) * 1) := by rw [Nat.mul_one]; show _ = _; rw [moved_length, HZ.out]
        have s2 : Hid (∀ u ∈ moved zs c, u.oneCell' = true) := moved_one zs c
        have s3 := room_at HW.out c
        have k0 := (keep_at HW.out hBg c).items
        have k1 := (keep_at HW.out hBg c).hd
        have e0 := (keep_at HW.out hBg c).f0
        have e1 := (keep_at HW.out hBg c).f1
        obtain ⟨j0, j1, g0, g1, _, _⟩ := HW.out
        have hp0 : (0 : Int) ≤ (c : Int) := by omega
        have hp1 : (c : Int) ≤ (n : Int) := by omega
        go_region_law (refine step_append_room rfl (.tmp 51) (.tmp 60) 45 rfl 21 ti 1 Yba.underlying45 hi0 hz1 g 0 0 n (by simp [Act.eval, Act.put]) AD (n - c) (n - c) (moved zs c) (by simp [Act.eval, Act.put]) s1.out hnews.out s2.out (by omega) s3.out ?_)
        all_goals go_wp2
        all_goals go_end0
        all_goals exact ⟨rfl, c, hc1, hc2, H1.out, HF.out, ((below_setCells (Nat.min_le_right _ _) _ _ _ HB.out.drew).setCell (Nat.min_le_left _ _) _).setCell (Nat.min_le_left _ _) _, Or.inl ⟨hk, at_after HZ.out HW.out hBg hc2⟩⟩
      · go_quiet (fail)
        go_wp2
        go_end0
        exact ⟨rfl, c, hc1, hc2, H1.out, HF.out, below_drewN (below_drewN H3.out _) _, Or.inr ⟨by omega, (H2.out.drewN _).drewN _⟩⟩
end Go.Proofs.Ybulkbzmi.Trim
