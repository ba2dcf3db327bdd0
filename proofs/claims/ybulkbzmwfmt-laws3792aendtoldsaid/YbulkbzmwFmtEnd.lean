/- (*stamper).end: the lock, the session, the delete, letGo, the door. -/
import Derived.Test.YbulkbzmwFmtSess
import Derived.Test.YbulkbzmwFmtGo
import Derived.Defers
import Derived.Laws.Pointers
import Derived.Laws.LoneSync
import Derived.RegionTactic
import Derived.RegionCalls
namespace Go.Proofs.YbulkbzmwFmt.End
open Go.RowKit Go.Conc Go.ChangeMaps Go.Extern Go.Extern.Stop Go.Stop Go.Proofs.YbulkbzmwFmt.Map Go.Proofs.YbulkbzmwFmt.Lim Go.Proofs.YbulkbzmwFmt.LetGo Go.Proofs.YbulkbzmwFmt.Sess

theorem disable (w : World) : (callFunc 24 #[]).run Ybaf.prog w = .ok (.value (.tuple #[])) w := run_call_mark0 Ybaf.func24 (by kernel_rfl) (by kernel_rfl) (by kernel_rfl) .disable (by kernel_rfl) w
theorem enable (w : World) : (callFunc 26 #[]).run Ybaf.prog w = .ok (.value (.tuple #[])) w := run_call_mark0 Ybaf.func26 (by kernel_rfl) (by kernel_rfl) (by kernel_rfl) .enable (by kernel_rfl) w
theorem acquire (a : Addr) (w : World) : (callFunc 27 #[.pointer (some a)]).run Ybaf.prog w = .ok (.value (.tuple #[])) w := run_call_marked Ybaf.func27 (by kernel_rfl) (by kernel_rfl) (by kernel_rfl) .acquire (by kernel_rfl) a w
theorem releaseMerge (a : Addr) (w : World) : (callFunc 29 #[.pointer (some a)]).run Ybaf.prog w = .ok (.value (.tuple #[])) w := run_call_marked Ybaf.func29 (by kernel_rfl) (by kernel_rfl) (by kernel_rfl) .releaseMerge (by kernel_rfl) a w

set_option maxRecDepth 100000 in
/-- '(*sync.Mutex).Unlock', entered as a deferred call, the lock held and nobody waiting (state 1): state 0. -/
theorem unlock_deferred (a : Addr) (u : FrameMode) (w : World) (hc : w.cell? a = some (.int .i32 1)) (hz : w.frozen? a = false) :
    CallsD Ybaf.prog 13 #[.pointer (some a)] u w fun e u' w' => u' = u ∧ (e = .returned (.tuple #[]) ∧ w' = w.setCell a (.int .i32 0)) := by
  have hd := disable
  have he := enable
  have hr := releaseMerge
  have hadd := run_call_add (P := Ybaf.prog) Ybaf.func30 (by kernel_rfl) (by kernel_rfl) (by kernel_rfl) .i32 (by kernel_rfl) (y := -1) (s := 0) hc hz (by simp [go_sem]; rfl)
  have hcv := run_convert_to_unsafe (P := Ybaf.prog) (src := 89) (dst := 93) Ybaf.underlying89 Ybaf.underlying93 (by kernel_rfl) hc
  go_enter_d Ybaf.func13, Ybaf.ntmps13
  go_wp2
  go_end0
  go_wp2
  go_end0
  exact ⟨rfl, rfl⟩

set_option maxRecDepth 100000 in
/-- '(*sync.Mutex).Lock', the lock free (state 0): state 1. -/
theorem lock_free (a : Addr) (w : World) (hc : w.cell? a = some (.int .i32 0)) (hz : w.frozen? a = false) :
    Calls Ybaf.prog 12 #[.pointer (some a)] w fun e w' => e = .returned (.tuple #[]) ∧ w' = w.setCell a (.int .i32 1) := by
  have hd := disable
  have he := enable
  have ha := acquire
  have hcas := run_call_cas_hit (P := Ybaf.prog) Ybaf.func25 (by kernel_rfl) (by kernel_rfl) (by kernel_rfl) .i32 (by kernel_rfl) (y := 1) hc hz
  have hc' : (w.setCell a (.int .i32 1)).cell? a = some (.int .i32 1) := World.cell?_setCell_same w a _ hc
  have hcv := run_convert_to_unsafe (P := Ybaf.prog) (src := 89) (dst := 93) Ybaf.underlying89 Ybaf.underlying93 (by kernel_rfl) hc'
  go_enter Ybaf.func12, Ybaf.ntmps12
  go_wp2
  first | go_end0 | (simp only [Exit.inBlock, Exit.then]; refine bodyPost_ret (results_none rfl _ _ _) rfl ?_) | refine bodyPost_ret (results_none rfl _ _ _) rfl ?_
  go_wp2
  go_end0
  exact ⟨rfl, rfl⟩

/-- The world behind 'end': the lock is free again, the map holds 'es', the channel 'k' values. -/
structure Ended (w w' : World) (S m D clock : Nat) (es : List E) (k : Nat) : Prop where
  os : w'.os = w.os
  output : w'.output = w.output
  size : w.heap.size ≤ w'.heap.size
  block : ∀ j, j < w.heap.size → j ≠ S → j ≠ m → j ≠ D → w'.heap[j]? = w.heap[j]?
  cells : ∀ o, o ≠ 1 → w'.cell? ⟨S, o, none⟩ = w.cell? ⟨S, o, none⟩
  map : w'.heap[m]? = some (obj es clock)
  chan : ∃ buf s r, w'.heap[D]? = some (.chan 1 buf false s r false) ∧ buf.size = k

theorem heap_setCell {w : World} {p : Addr} {v : Value} {k : Nat} (h : k ≠ p.block) : (w.setCell p v).heap[k]? = w.heap[k]? := Below.heap_setCell w p v k h
theorem size_setCell (w : World) (p : Addr) (v : Value) : (w.setCell p v).heap.size = w.heap.size := by simp
theorem cell_other {w : World} {b o : Nat} {p : Addr} {v : Value} (h : (⟨b, o, none⟩ : Addr) ≠ p) : (w.setCell p v).cell? ⟨b, o, none⟩ = w.cell? ⟨b, o, none⟩ := World.cell?_setCell_other _ _ _ _ (Ne.symm h)

theorem Clock.of {w w' : World} {S bb : Nat} (h : Clock w S bb) (hS : w'.cell? ⟨S, 17, none⟩ = w.cell? ⟨S, 17, none⟩) (hb : w'.heap[bb]? = w.heap[bb]?) : Clock w' S bb := by
  have hc : ∀ o, w'.cell? ⟨bb, o, none⟩ = w.cell? ⟨bb, o, none⟩ := fun o => World.cell?_of_block (w := w) hb
  exact ⟨hS.trans h.fn, (hc 0).trans h.c0, (hc 1).trans h.c1, (hc 2).trans h.c2⟩
theorem Life.of {w w' : World} {p : Nat} {rep ttl : Int} (h : Life w p rep ttl) (hb : w'.heap[p]? = w.heap[p]?) : Life w' p rep ttl := by
  have hc : ∀ o, w'.cell? ⟨p, o, none⟩ = w.cell? ⟨p, o, none⟩ := fun o => World.cell?_of_block (w := w) hb
  exact ⟨h.r1, h.r2, (hc 1).trans h.c1, (hc 2).trans h.c2, (hc 3).trans h.c3, (hc 4).trans h.c4⟩

set_option maxRecDepth 100000 in
set_option maxHeartbeats 2000000 in
/-- 'end' where the session's question is refused. -/
theorem end_refused (S m D clock s r : Nat) (es : List E) (k : ByteArray) (a : Addr) (buf : Array Value) (w : World) (hSm : m ≠ S) (hSD : D ≠ S) (ltm : m < w.heap.size) (ltD : D < w.heap.size)
    (h1 : w.cell? ⟨S, 1, none⟩ = some (.int .i32 0)) (f1 : w.frozen? ⟨S, 1, none⟩ = false) (hb : w.heap[m]? = some (obj es clock)) (hD : w.heap[D]? = some (.chan 1 buf false s r false))
    (hq : Calls Ybaf.prog 14 #[.pointer (some ⟨S, 0, none⟩), .string k] (w.setCell ⟨S, 1, none⟩ (.int .i32 1)) fun e w' => ∃ n, e = .returned (.tuple #[.pointer none, .iface 99 (.pointer (some ⟨n, 0, none⟩))]) ∧ Refused (w.setCell ⟨S, 1, none⟩ (.int .i32 1)) w' a n) :
    Calls Ybaf.prog 6 #[.pointer (some ⟨S, 0, none⟩), .string k] w fun e w' => ∃ n, e = .returned (.tuple #[.pointer none, .iface 99 (.pointer (some ⟨n, 0, none⟩))]) ∧ w'.cell? ⟨n, 1, none⟩ = some (.iface 109 (.pointer (some a))) ∧ Ended w w' S m D clock es buf.size := by
  have ltS := World.block_lt_of_cell? _ _ h1
  have HL : Hid (Calls Ybaf.prog 12 #[.pointer (some ⟨S, 1, none⟩)] w fun e w' => e = .returned (.tuple #[]) ∧ w' = w.setCell ⟨S, 1, none⟩ (.int .i32 1)) := lock_free _ w h1 f1
  obtain ⟨W1, hW1⟩ : ∃ W1, W1 = w.setCell ⟨S, 1, none⟩ (.int .i32 1) := ⟨_, rfl⟩
  have k1 : W1.cell? ⟨S, 1, none⟩ = some (.int .i32 1) := by rw [hW1]; exact World.cell?_setCell_same _ _ _ h1
  have g1 : W1.frozen? ⟨S, 1, none⟩ = false := by rw [hW1, World.frozen?_setCell]; exact f1
  rw [← hW1] at hq HL
  have HQ : Hid (Calls Ybaf.prog 14 #[.pointer (some ⟨S, 0, none⟩), .string k] W1 fun e w' => ∃ n, e = .returned (.tuple #[.pointer none, .iface 99 (.pointer (some ⟨n, 0, none⟩))]) ∧ Refused W1 w' a n) := hq
  have HP : Hid (∀ n w', Refused W1 w' a n → w'.cell? ⟨S, 1, none⟩ = some (.int .i32 1) ∧ w'.frozen? ⟨S, 1, none⟩ = false ∧ (w'.setCell ⟨S, 1, none⟩ (.int .i32 0)).cell? ⟨n, 1, none⟩ = some (.iface 109 (.pointer (some a))) ∧ Ended w (w'.setCell ⟨S, 1, none⟩ (.int .i32 0)) S m D clock es buf.size) := by
    intro n w' hr
    have e1 : W1.heap.size = w.heap.size := by rw [hW1]; simp
    have lS1 : S < W1.heap.size := by rw [e1]; exact ltS
    have hn : n ≠ S := by have := hr.new; omega
    have hblk : ∀ j, j < w.heap.size → j ≠ S → (w'.setCell ⟨S, 1, none⟩ (.int .i32 0)).heap[j]? = w.heap[j]? := fun j hj hne => by
      rw [heap_setCell hne, hr.below.block j (by rw [e1]; exact hj), hW1, heap_setCell hne]
    refine ⟨(hr.below.cell (p := ⟨S, 1, none⟩) lS1).trans k1, (hr.below.frozen (p := ⟨S, 1, none⟩) lS1).trans g1, ?_, ?_, ?_, ?_, fun j hj hne _ _ => hblk j hj hne, fun o ho => ?_, (hblk m ltm hSm).trans hb, buf, s, r, (hblk D ltD hSD).trans hD, rfl⟩
    · rw [cell_other (by simp)]; exact hr.cell
    · exact hr.below.os.trans (by rw [hW1]; rfl)
    · exact hr.below.output.trans (by rw [hW1]; rfl)
    · rw [size_setCell, ← e1]; exact hr.below.size
    · rw [cell_other (by simp), hr.below.cell (p := ⟨S, o, none⟩) lS1, hW1, cell_other (by simp)]
  clear hW1 hq hb hD
  go_enter_defers Ybaf.func6, Ybaf.ntmps6
  go_wp2_with (first
    | (go_at_call 12; refine HL.out.mono ?_; rintro e W2 ⟨rfl, rfl⟩)
    | (go_at_call 14; refine HQ.out.mono ?_; rintro e W3 ⟨n, rfl, hr⟩))
  obtain ⟨q1, q2, q3, q4⟩ := HP.out n W3 hr
  refine leaves_cons (f := 13) (args := #[.pointer (some ⟨S, 1, none⟩)]) (by simp) (by simp [go_sem]) ?_
  refine (unlock_deferred ⟨S, 1, none⟩ _ _ q1 q2).mono ?_
  rintro e u' w'' ⟨rfl, rfl, rfl⟩
  simp [Leaves, settle, results, Ybaf.results6]
  exact ⟨q3, q4⟩

set_option maxRecDepth 100000 in
set_option maxHeartbeats 2000000 in
/-- 'end' of an open session: she is taken out of the map; the channel is told where nobody holds the stamp back. -/
theorem end_open (S m D clock s r bb kk : Nat) (owed : Int) (l r' : List E) (x : E) (k : ByteArray) (rep ttl : Int) (L : Nat → Int) (buf : Array Value) (w : World) (hSm : m ≠ S) (hSD : D ≠ S) (hmD : D ≠ m) (hbS : bb ≠ S)
    (h1 : w.cell? ⟨S, 1, none⟩ = some (.int .i32 0)) (f1 : w.frozen? ⟨S, 1, none⟩ = false) (h3 : w.cell? ⟨S, 3, none⟩ = some (.slice none 0 0)) (h4 : w.cell? ⟨S, 4, none⟩ = some (.map (some m)))
    (h8 : w.cell? ⟨S, 8, none⟩ = some (.int .u64 owed)) (h9 : w.cell? ⟨S, 9, none⟩ = some (.chan (some D))) (hC : Clock w S bb) (hD : w.heap[D]? = some (.chan 1 buf false s r false)) (hbuf : buf.size ≤ 1)
    (hb : w.heap[m]? = some (obj (l ++ x :: r') clock)) (hk : k.toList = x.id.toList) (hl : ∀ y ∈ l, k.toList ≠ y.id.toList) (hold : ∀ e ∈ l ++ r', e.born < clock) (hnd : ((l ++ r').map (·.born)).Nodup)
    (hL : ∀ e ∈ l ++ r', Has w L e.blk) (hbl : ∀ e ∈ l ++ r', e.blk ≠ S ∧ e.blk ≠ m) (hxS : x.blk ≠ S) (hlife : Life w x.blk rep ttl) (hx : ¬ ttl < -rep)
    (hkk : ((owed = 0 ∨ ∃ e ∈ l ++ r', L e.blk < owed) ∧ kk = buf.size) ∨ ((owed ≠ 0 ∧ ∀ e ∈ l ++ r', owed ≤ L e.blk) ∧ kk = 1)) :
    Calls Ybaf.prog 6 #[.pointer (some ⟨S, 0, none⟩), .string k] w fun e w' => e = .returned (.tuple #[ptr x, .nilIface]) ∧ Ended w w' S m D clock (l ++ r') kk := by
  have ltS := World.block_lt_of_cell? _ _ h1
  have lt_of : ∀ {j : Nat} {o : Obj}, w.heap[j]? = some o → j < w.heap.size := fun {j o} h => by
    rcases Nat.lt_or_ge j w.heap.size with h' | h'
    · exact h'
    · rw [Array.getElem?_eq_none h'] at h; cases h
  have ltm := lt_of hb
  have ltD := lt_of hD
  have ltbb := World.block_lt_of_cell? _ _ hC.c0
  have ltx := World.block_lt_of_cell? _ _ hlife.c1
  have HL : Hid (Calls Ybaf.prog 12 #[.pointer (some ⟨S, 1, none⟩)] w fun e w' => e = .returned (.tuple #[]) ∧ w' = w.setCell ⟨S, 1, none⟩ (.int .i32 1)) := lock_free _ w h1 f1
  obtain ⟨W1, hW1⟩ : ∃ W1, W1 = w.setCell ⟨S, 1, none⟩ (.int .i32 1) := ⟨_, rfl⟩
  rw [← hW1] at HL
  have e1 : W1.heap.size = w.heap.size := by rw [hW1]; simp
  have blk1 : ∀ j, j ≠ S → W1.heap[j]? = w.heap[j]? := fun j hj => by rw [hW1, heap_setCell hj]
  have cel1 : ∀ o, o ≠ 1 → W1.cell? ⟨S, o, none⟩ = w.cell? ⟨S, o, none⟩ := fun o ho => by rw [hW1, cell_other (by simp)]
  have k1 : W1.cell? ⟨S, 1, none⟩ = some (.int .i32 1) := by rw [hW1]; exact World.cell?_setCell_same _ _ _ h1
  have g1 : W1.frozen? ⟨S, 1, none⟩ = false := by rw [hW1, World.frozen?_setCell]; exact f1
  have os1 : W1.os = w.os := by rw [hW1]; rfl
  have out1 : W1.output = w.output := by rw [hW1]; rfl
  clear hW1
  have k4 := (cel1 4 (by decide)).trans h4
  have HQ : Hid (Calls Ybaf.prog 14 #[.pointer (some ⟨S, 0, none⟩), .string k] W1 fun e w' => e = .returned (.tuple #[.pointer (some ⟨x.blk, 0, none⟩), .nilIface]) ∧ Below W1.heap.size W1 w') :=
    session_open S m clock bb l r' x k rep ttl W1 k4 ((blk1 m hSm).trans hb) hk hl (Clock.of hC (cel1 17 (by decide)) (blk1 bb hbS)) (Life.of hlife (blk1 x.blk hxS)) hx
  have lS1 : S < W1.heap.size := by rw [e1]; exact ltS
  -- behind the session's question: the delete and letGo
  have HR : Hid (∀ W2, Below W1.heap.size W1 W2 → W2.cell? ⟨S, 4, none⟩ = some (.map (some m)) ∧ ∀ ty, (Builtin.delete_ #[28, 9] ty #[.map (some m), .string k]).run Ybaf.prog W2 = .ok (.tuple #[]) (setBlock W2 m (obj (l ++ r') clock))) := by
    intro W2 hb2
    exact ⟨(hb2.cell (p := ⟨S, 4, none⟩) lS1).trans k4, run_delete ((hb2.block m (by rw [e1]; exact ltm)).trans ((blk1 m hSm).trans hb)) k hk hl⟩
  have HG : Hid (∀ W2, Below W1.heap.size W1 W2 → Calls Ybaf.prog 15 #[.pointer (some ⟨S, 0, none⟩)] (setBlock W2 m (obj (l ++ r') clock)) fun e w' => e = .returned (.tuple #[]) ∧
      (w'.cell? ⟨S, 1, none⟩ = some (.int .i32 1) ∧ w'.frozen? ⟨S, 1, none⟩ = false ∧ Ended w (w'.setCell ⟨S, 1, none⟩ (.int .i32 0)) S m D clock (l ++ r') kk)) := by
    intro W2 hb2
    obtain ⟨W3, hW3⟩ : ∃ W3, W3 = setBlock W2 m (obj (l ++ r') clock) := ⟨_, rfl⟩
    rw [← hW3]
    have ltm2 : m < W2.heap.size := by have := hb2.size; omega
    have e3 : W3.heap.size = W2.heap.size := by rw [hW3]; simp [setBlock]
    have blk3 : ∀ j, j < w.heap.size → j ≠ S → j ≠ m → W3.heap[j]? = w.heap[j]? := fun j hj h1 h2 => by
      rw [hW3]; simp only [setBlock]; rw [Array.getElem?_setIfInBounds_ne (Ne.symm h2), hb2.block j (by rw [e1]; exact hj), blk1 j h1]
    have map3 : W3.heap[m]? = some (obj (l ++ r') clock) := by rw [hW3]; simp only [setBlock]; exact Array.getElem?_setIfInBounds_self_of_lt ltm2
    have cel3 : ∀ o, W3.cell? ⟨S, o, none⟩ = W1.cell? ⟨S, o, none⟩ := fun o => World.cell?_of_block (w := W1) (by
      rw [hW3]; simp only [setBlock]; rw [Array.getElem?_setIfInBounds_ne hSm, hb2.block S lS1])
    have fro3 : W3.frozen? ⟨S, 1, none⟩ = false := (World.frozen?_of_block (w := W1) (by
      rw [hW3]; simp only [setBlock]; rw [Array.getElem?_setIfInBounds_ne hSm, hb2.block S lS1])).trans g1
    have os3 : W3.os = w.os := by rw [hW3]; exact hb2.os.trans os1
    have out3 : W3.output = w.output := by rw [hW3]; exact hb2.output.trans out1
    have hL3 : ∀ e ∈ l ++ r', Has W3 L e.blk := fun e he => by
      obtain ⟨b, v, c5, c6, c8, hv⟩ := hL e he
      have lt5 := World.block_lt_of_cell? _ _ c5
      have hc : ∀ o, W3.cell? ⟨e.blk, o, none⟩ = w.cell? ⟨e.blk, o, none⟩ := fun o => World.cell?_of_block (w := w) (blk3 _ lt5 (hbl e he).1 (hbl e he).2)
      exact ⟨b, v, (hc 5).trans c5, (hc 6).trans c6, (hc 8).trans c8, hv⟩
    refine (letGo_any S m clock D s r owed (l ++ r') L buf W3 ((cel3 3).trans ((cel1 3 (by decide)).trans h3)) ((cel3 4).trans k4) ((cel3 8).trans ((cel1 8 (by decide)).trans h8)) ((cel3 9).trans ((cel1 9 (by decide)).trans h9)) ((blk3 D ltD hSD hmD).trans hD) hbuf map3 hold hnd hL3).mono ?_
    rintro e w' ⟨he, hA, hB⟩
    have hw : Went W3 w' D kk := by
      rcases hkk with ⟨h, rfl⟩ | ⟨h, rfl⟩
      · exact hA h
      · exact hB h
    have lS3 : S < W3.heap.size := by have := hb2.size; omega
    have blk4 : ∀ j, j < w.heap.size → j ≠ S → j ≠ D → (w'.setCell ⟨S, 1, none⟩ (.int .i32 0)).heap[j]? = W3.heap[j]? := fun j hj h1 h2 => by
      rw [heap_setCell h1]; exact hw.block j (by have := hb2.size; omega) h2
    obtain ⟨buf', s', r'', hch, hsz⟩ := hw.chan
    refine ⟨he, (World.cell?_of_block (w := W3) (hw.block S lS3 (Ne.symm hSD))).trans ((cel3 1).trans k1), (World.frozen?_of_block (w := W3) (hw.block S lS3 (Ne.symm hSD))).trans fro3, ?_, ?_, ?_, ?_, fun o ho => ?_, ?_, buf', s', r'', ?_, hsz⟩
    · exact hw.os.trans os3
    · exact hw.output.trans out3
    · rw [size_setCell]; have := hw.size; have := hb2.size; omega
    · exact fun j hj h1 h2 h3 => (blk4 j hj h1 h3).trans (blk3 j hj h1 h2)
    · rw [cell_other (by simp), World.cell?_of_block (w := W3) (hw.block S lS3 (Ne.symm hSD)), cel3 o, cel1 o ho]
    · exact (blk4 m ltm hSm (Ne.symm hmD)).trans map3
    · rw [heap_setCell hSD]; exact hch
  clear hb hD hold hnd hL hlife hC hkk k4
  unfold ptr
  go_enter_defers Ybaf.func6, Ybaf.ntmps6
  go_wp2_with (first
    | (go_at_call 12; refine HL.out.mono ?_; rintro e W2 ⟨rfl, rfl⟩)
    | (go_at_call 14; refine HQ.out.mono ?_; rintro e W3 ⟨rfl, hr⟩; obtain ⟨c4, hdel⟩ := HR.out W3 hr)
    | (go_at_call 15; refine (HG.out _ hr).mono ?_; rintro e W4 ⟨rfl, q1, q2, q3⟩))
  refine leaves_cons (f := 13) (args := #[.pointer (some ⟨S, 1, none⟩)]) (by simp) (by simp [go_sem]) ?_
  refine (unlock_deferred ⟨S, 1, none⟩ _ _ q1 q2).mono ?_
  rintro e u' w'' ⟨rfl, rfl, rfl⟩
  simp [Leaves, settle, results, Ybaf.results6]
  exact q3
end Go.Proofs.YbulkbzmwFmt.End
