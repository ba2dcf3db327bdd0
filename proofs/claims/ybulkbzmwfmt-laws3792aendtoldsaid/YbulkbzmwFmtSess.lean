/- (*stamper).session: the open session, or the error. -/
import Derived.Test.YbulkbzmwFmtTime
import Derived.Test.YbulkbzmwFmtErr
import Derived.Test.YbulkbzmwFmtMap
import Derived.Test.YbulkbzmwFmtLim
namespace Go.Proofs.YbulkbzmwFmt.Sess
open Go.RowKit Go.ChangeMaps Go.Extern Go.Extern.Stop Go.Stop Go.Proofs.YbulkbzmwFmt.Map Go.Proofs.YbulkbzmwFmt.Lim Go.Proofs.YbulkbzmwFmt.Time Go.Proofs.YbulkbzmwFmt.Err

/-- The stamper's clock in the world: the function value and the captured zero time. -/
structure Clock (w : World) (S bb : Nat) : Prop where
  fn : w.cell? ⟨S, 17, none⟩ = some (.func (.func 4) #[] #[.pointer (some ⟨bb, 0, none⟩)])
  c0 : w.cell? ⟨bb, 0, none⟩ = some (.int .u64 0)
  c1 : w.cell? ⟨bb, 1, none⟩ = some (.int .i64 0)
  c2 : w.cell? ⟨bb, 2, none⟩ = some (.pointer none)

/-- A session's life in the world: its ttl, and the time it last reported. -/
structure Life (w : World) (p : Nat) (rep ttl : Int) : Prop where
  r1 : -2147483648 ≤ rep
  r2 : rep ≤ 2147483647
  c1 : w.cell? ⟨p, 1, none⟩ = some (.int .i64 ttl)
  c2 : w.cell? ⟨p, 2, none⟩ = some (.int .u64 (rep % 1000000000))
  c3 : w.cell? ⟨p, 3, none⟩ = some (.int .i64 (rep / 1000000000))
  c4 : w.cell? ⟨p, 4, none⟩ = some (.pointer none)

/-- The two calls of a session's question, in whatever world agrees below. -/
theorem asked (S bb p : Nat) (rep ttl : Int) (w : World) (hC : Clock w S bb) (hL : Life w p rep ttl) :
    (∀ W, Below w.heap.size w W → Calls Ybaf.prog 4 #[.pointer (some ⟨bb, 0, none⟩)] W fun e w' => e = .returned t0 ∧ Below w.heap.size w w') ∧
    (∀ W, Below w.heap.size w W → Calls Ybaf.prog 21 #[.pointer (some ⟨p, 0, none⟩), t0] W fun e w' => e = .returned (.bool (decide (ttl < -rep))) ∧ Below w.heap.size w w') := by
  have lb := World.block_lt_of_cell? _ _ hC.c0
  have lp := World.block_lt_of_cell? _ _ hL.c1
  refine ⟨fun W hW => ?_, fun W hW => ?_⟩
  · have hc : ∀ o, W.cell? ⟨bb, o, none⟩ = w.cell? ⟨bb, o, none⟩ := fun o => hW.cell (p := ⟨bb, o, none⟩) lb
    exact (now_any bb W ((hc 0).trans hC.c0) ((hc 1).trans hC.c1) ((hc 2).trans hC.c2)).mono fun e w' ⟨he, hb⟩ => ⟨he, hW.trans (hb.mono hW.size)⟩
  · have hc : ∀ o, W.cell? ⟨p, o, none⟩ = w.cell? ⟨p, o, none⟩ := fun o => hW.cell (p := ⟨p, o, none⟩) lp
    exact (expired_any p rep ttl W hL.r1 hL.r2 ((hc 1).trans hL.c1) ((hc 2).trans hL.c2) ((hc 3).trans hL.c3) ((hc 4).trans hL.c4)).mono fun e w' ⟨he, hb⟩ => ⟨he, hW.trans (hb.mono hW.size)⟩

set_option maxRecDepth 100000 in
set_option maxHeartbeats 2000000 in
theorem session_open (S m clock bb : Nat) (l r : List E) (x : E) (k : ByteArray) (rep ttl : Int) (w : World) (h4 : w.cell? ⟨S, 4, none⟩ = some (.map (some m))) (hb : w.heap[m]? = some (obj (l ++ x :: r) clock))
    (hk : k.toList = x.id.toList) (hl : ∀ y ∈ l, k.toList ≠ y.id.toList) (hC : Clock w S bb) (hL : Life w x.blk rep ttl) (hx : ¬ ttl < -rep) :
    Calls Ybaf.prog 14 #[.pointer (some ⟨S, 0, none⟩), .string k] w fun e w' => e = .returned (.tuple #[ptr x, .nilIface]) ∧ Below w.heap.size w w' := by
  have hlk := run_lookup hb k
  rw [look_some hk 0 hl] at hlk
  simp only [Option.map_some, Option.getD_some, ptr] at hlk
  obtain ⟨a1, a2⟩ := asked S bb x.blk rep ttl w hC hL
  rw [decide_eq_false hx] at a2
  have H1 : Hid (∀ W, Below w.heap.size w W → Calls Ybaf.prog 4 #[.pointer (some ⟨bb, 0, none⟩)] W fun e w' => e = .returned t0 ∧ Below w.heap.size w w') := a1
  have H2 : Hid (∀ W, Below w.heap.size w W → Calls Ybaf.prog 21 #[.pointer (some ⟨x.blk, 0, none⟩), t0] W fun e w' => e = .returned (.bool false) ∧ Below w.heap.size w w') := a2
  have hfn := hC.fn
  unfold t0 at H1 H2
  clear hb hC hL a1 a2 hk hl
  unfold ptr
  go_enter Ybaf.func14, Ybaf.ntmps14
  go_wp2_with (first
    | (go_at_call 4; refine (H1.out _ (Below.refl _ _)).mono ?_; rintro e w1 ⟨rfl, hb1⟩)
    | (go_at_call 21; refine (H2.out _ hb1).mono ?_; rintro e w2 ⟨rfl, hb2⟩))
  go_wp2
  exact bodyPost_ret (v := .tuple #[.pointer (some ⟨x.blk, 0, none⟩), .nilIface]) (by simp [results, Ybaf.results14, go_sem]) rfl ⟨rfl, hb2⟩

/-- What the error of a session's question is: a new *fmt.wrapError that wraps ErrNoSession. -/
structure Refused (w w' : World) (a : Addr) (n : Nat) : Prop where
  below : Below w.heap.size w w'
  new : w.heap.size ≤ n
  cell : w'.cell? ⟨n, 1, none⟩ = some (.iface 109 (.pointer (some a)))

set_option maxRecDepth 100000 in
set_option maxHeartbeats 2000000 in
theorem session_none (F : Interp) (S m clock : Nat) (es : List E) (k : ByteArray) (a : Addr) (s : ByteArray) (w : World) (hF : F.answers w.tape) (h4 : w.cell? ⟨S, 4, none⟩ = some (.map (some m))) (hb : w.heap[m]? = some (obj es clock))
    (hl : ∀ y ∈ es, k.toList ≠ y.id.toList) (hg : w.cell? ⟨0, 0, none⟩ = some (.iface 109 (.pointer (some a)))) (hs : w.cell? a = some (.string s)) :
    Calls Ybaf.prog 14 #[.pointer (some ⟨S, 0, none⟩), .string k] w fun e w' => ∃ n, e = .returned (.tuple #[.pointer none, .iface 99 (.pointer (some ⟨n, 0, none⟩))]) ∧ Refused w w' a n := by
  have hlk := run_lookup hb k
  rw [look_none 0 hl] at hlk
  simp only [Option.map_none, Option.getD_none] at hlk
  have lta : a.block < w.heap.size := World.block_lt_of_cell? _ _ hs
  have HE : Hid (∀ W, Below w.heap.size w W → ∀ vb, W.cell? ⟨vb, 0, none⟩ = some (.iface 109 (.pointer (some a))) → W.cell? ⟨vb, 1, none⟩ = some (.iface 9 (.string k)) →
      Calls Ybaf.prog 22 #[.string ⟨#[37, 119, 58, 32, 37, 113]⟩, .slice (some ⟨vb, 0, none⟩) 2 2] W fun e w' => ∃ n, e = .returned (.iface 99 (.pointer (some ⟨n, 0, none⟩))) ∧ Refused w w' a n) := by
    intro W hW vb c0 c1
    refine (errorf_any F vb a s k W (hW.tape ▸ hF) c0 c1 ((hW.cell lta).trans hs)).mono ?_
    rintro e w' ⟨he, hb', hc⟩
    exact ⟨_, he, hW.trans (hb'.mono hW.size), hW.size, hc⟩
  clear hb hl hF
  go_enter Ybaf.func14, Ybaf.ntmps14
  go_wp2_with (first | (go_at_call 22; refine (HE.out _ ((Below.refl _ _).alloc (Nat.le_refl _) _) _ (by simp [go_sem]) (by simp [go_sem])).mono ?_; rintro e w2 ⟨n, rfl, hr⟩))
  go_wp2
  exact bodyPost_ret (v := .tuple #[.pointer none, .iface 99 (.pointer (some ⟨n, 0, none⟩))]) (by simp [results, Ybaf.results14, go_sem]) rfl ⟨n, rfl, hr⟩

set_option maxRecDepth 100000 in
set_option maxHeartbeats 2000000 in
theorem session_shut (F : Interp) (S m clock bb : Nat) (l r : List E) (x : E) (k : ByteArray) (rep ttl : Int) (a : Addr) (s : ByteArray) (w : World) (hF : F.answers w.tape) (h4 : w.cell? ⟨S, 4, none⟩ = some (.map (some m))) (hb : w.heap[m]? = some (obj (l ++ x :: r) clock))
    (hk : k.toList = x.id.toList) (hl : ∀ y ∈ l, k.toList ≠ y.id.toList) (hC : Clock w S bb) (hL : Life w x.blk rep ttl) (hx : ttl < -rep) (hg : w.cell? ⟨0, 0, none⟩ = some (.iface 109 (.pointer (some a)))) (hs : w.cell? a = some (.string s)) :
    Calls Ybaf.prog 14 #[.pointer (some ⟨S, 0, none⟩), .string k] w fun e w' => ∃ n, e = .returned (.tuple #[.pointer none, .iface 99 (.pointer (some ⟨n, 0, none⟩))]) ∧ Refused w w' a n := by
  have hlk := run_lookup hb k
  rw [look_some hk 0 hl] at hlk
  simp only [Option.map_some, Option.getD_some, ptr] at hlk
  obtain ⟨a1, a2⟩ := asked S bb x.blk rep ttl w hC hL
  rw [decide_eq_true hx] at a2
  have H1 : Hid (∀ W, Below w.heap.size w W → Calls Ybaf.prog 4 #[.pointer (some ⟨bb, 0, none⟩)] W fun e w' => e = .returned t0 ∧ Below w.heap.size w w') := a1
  have lt0 : 0 < w.heap.size := World.block_lt_of_cell? _ _ hg
  have H2 : Hid (∀ W, Below w.heap.size w W → Calls Ybaf.prog 21 #[.pointer (some ⟨x.blk, 0, none⟩), t0] W fun e w' => e = .returned (.bool true) ∧ Below w.heap.size w w') := a2
  have lta : a.block < w.heap.size := World.block_lt_of_cell? _ _ hs
  have HE : Hid (∀ W, Below w.heap.size w W → ∀ vb, W.cell? ⟨vb, 0, none⟩ = some (.iface 109 (.pointer (some a))) → W.cell? ⟨vb, 1, none⟩ = some (.iface 9 (.string k)) →
      Calls Ybaf.prog 22 #[.string ⟨#[37, 119, 58, 32, 37, 113]⟩, .slice (some ⟨vb, 0, none⟩) 2 2] W fun e w' => ∃ n, e = .returned (.iface 99 (.pointer (some ⟨n, 0, none⟩))) ∧ Refused w w' a n) := by
    intro W hW vb c0 c1
    refine (errorf_any F vb a s k W (hW.tape ▸ hF) c0 c1 ((hW.cell lta).trans hs)).mono ?_
    rintro e w' ⟨he, hb', hc⟩
    exact ⟨_, he, hW.trans (hb'.mono hW.size), hW.size, hc⟩
  have hfn := hC.fn
  unfold t0 at H1 H2
  clear hb hC hL a1 a2 hk hl hF
  go_enter Ybaf.func14, Ybaf.ntmps14
  go_wp2_with (first
    | (go_at_call 4; refine (H1.out _ (Below.refl _ _)).mono ?_; rintro e w1 ⟨rfl, hb1⟩)
    | (go_at_call 21; refine (H2.out _ hb1).mono ?_; rintro e w2 ⟨rfl, hb2⟩; have g2 : w2.cell? ⟨0, 0, none⟩ = some (.iface 109 (.pointer (some a))) := (hb2.cell (p := ⟨0, 0, none⟩) lt0).trans hg)
    | (go_at_call 22; refine (HE.out _ (hb2.alloc hb2.size _) _ (by simp [go_sem]) (by simp [go_sem])).mono ?_; rintro e w3 ⟨n, rfl, hr⟩))
  go_wp2
  exact bodyPost_ret (v := .tuple #[.pointer none, .iface 99 (.pointer (some ⟨n, 0, none⟩))]) (by simp [results, Ybaf.results14, go_sem]) rfl ⟨n, rfl, hr⟩
end Go.Proofs.YbulkbzmwFmt.Sess
