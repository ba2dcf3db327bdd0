/- sync.Once at this dump, one goroutine: the parts, doSlow, Do; then (handoff).Close. -/
import Derived.Test.YbulkbzmwComm
import Derived.Defers
import Derived.Laws.Pointers
import Derived.Laws.LoneSync
import Derived.RegionTactic
import Derived.RegionCalls
import Derived.ChangeAlike
import Derived.Laws.NewBlocks
namespace Go.Proofs.Ybulkbzmw.Once
open Go.RowKit Go.Conc

theorem disable (w : World) : (callFunc 18 #[]).run Yba.prog w = .ok (.value (.tuple #[])) w := run_call_mark0 Yba.func18 (by kernel_rfl) (by kernel_rfl) (by kernel_rfl) .disable (by kernel_rfl) w
theorem enable (w : World) : (callFunc 20 #[]).run Yba.prog w = .ok (.value (.tuple #[])) w := run_call_mark0 Yba.func20 (by kernel_rfl) (by kernel_rfl) (by kernel_rfl) .enable (by kernel_rfl) w
theorem acquire (a : Addr) (w : World) : (callFunc 21 #[.pointer (some a)]).run Yba.prog w = .ok (.value (.tuple #[])) w := run_call_marked Yba.func21 (by kernel_rfl) (by kernel_rfl) (by kernel_rfl) .acquire (by kernel_rfl) a w
theorem releaseMerge (a : Addr) (w : World) : (callFunc 23 #[.pointer (some a)]).run Yba.prog w = .ok (.value (.tuple #[])) w := run_call_marked Yba.func23 (by kernel_rfl) (by kernel_rfl) (by kernel_rfl) .releaseMerge (by kernel_rfl) a w

/-- '(*sync/atomic.Bool).Store(true)', entered as a deferred call: the cell holds 1. -/
theorem store_deferred (a : Addr) (x : Value) (u : FrameMode) (w : World) (hc : w.cell? a = some x) (hz : w.frozen? a = false) :
    CallsD Yba.prog 13 #[.pointer (some a), .bool true] u w fun e u' w' => u' = u ∧ (e = .returned (.tuple #[]) ∧ w' = (w.setCell a (.int .u32 1)).drew) := by
  have hc' : w.drew.cell? a = some x := by go_simp
  have hz' : w.drew.frozen? a = false := by go_simp
  have hst := run_call_store (P := Yba.prog) Yba.func16 (by kernel_rfl) (by kernel_rfl) (by kernel_rfl) (by kernel_rfl) (k := .u32) (y := 1) hc' hz'
  go_enter_d Yba.func13, Yba.ntmps13
  go_wp2
  go_region_calls
  all_goals (go_end0; exact ⟨rfl, rfl⟩)

/-- '(*sync.Mutex).Unlock', entered as a deferred call, the lock held and nobody waiting (state 1): state 0. -/
theorem unlock_deferred (a : Addr) (u : FrameMode) (w : World) (hc : w.cell? a = some (.int .i32 1)) (hz : w.frozen? a = false) :
    CallsD Yba.prog 12 #[.pointer (some a)] u w fun e u' w' => u' = u ∧ (e = .returned (.tuple #[]) ∧ w' = w.setCell a (.int .i32 0)) := by
  have hd := disable
  have he := enable
  have hr := releaseMerge
  have hadd := run_call_add (P := Yba.prog) Yba.func24 (by kernel_rfl) (by kernel_rfl) (by kernel_rfl) .i32 (by kernel_rfl) (y := -1) (s := 0) hc hz (by simp [go_sem]; rfl)
  have hcv := run_convert_to_unsafe (P := Yba.prog) (src := 64) (dst := 68) Yba.underlying64 Yba.underlying68 (by kernel_rfl) hc
  go_enter_d Yba.func12, Yba.ntmps12
  go_wp2
  go_end0
  go_wp2
  go_end0
  exact ⟨rfl, rfl⟩

/-- '(*sync.Mutex).Lock', the lock free (state 0): state 1. -/
theorem lock_free (a : Addr) (w : World) (hc : w.cell? a = some (.int .i32 0)) (hz : w.frozen? a = false) :
    Calls Yba.prog 11 #[.pointer (some a)] w fun e w' => e = .returned (.tuple #[]) ∧ w' = w.setCell a (.int .i32 1) := by
  have hd := disable
  have he := enable
  have ha := acquire
  have hcas := run_call_cas_hit (P := Yba.prog) Yba.func19 (by kernel_rfl) (by kernel_rfl) (by kernel_rfl) .i32 (by kernel_rfl) (y := 1) hc hz
  have hc' : (w.setCell a (.int .i32 1)).cell? a = some (.int .i32 1) := World.cell?_setCell_same w a _ hc
  have hcv := run_convert_to_unsafe (P := Yba.prog) (src := 64) (dst := 68) Yba.underlying64 Yba.underlying68 (by kernel_rfl) hc'
  go_enter Yba.func11, Yba.ntmps11
  go_wp2
  first | go_end0 | (simp only [Exit.inBlock, Exit.then]; refine bodyPost_ret (results_none rfl _ _ _) rfl ?_) | refine bodyPost_ret (results_none rfl _ _ _) rfl ?_
  go_wp2
  go_end0
  exact ⟨rfl, rfl⟩

theorem cell_setChan {w : World} {c cap : Nat} {buf : Array Value} {cl : Bool} {s r : Nat} {tm : Bool} {b o : Nat} (h : b ≠ c) : (w.setChan c cap buf cl s r tm).cell? ⟨b, o, none⟩ = w.cell? ⟨b, o, none⟩ :=
  World.cell?_of_block (w := w) (by simp only [World.setChan]; rw [Array.getElem?_setIfInBounds_ne (by simpa using fun e => h e.symm)])
theorem frozen_setChan {w : World} {c cap : Nat} {buf : Array Value} {cl : Bool} {s r : Nat} {tm : Bool} {b o : Nat} (h : b ≠ c) : (w.setChan c cap buf cl s r tm).frozen? ⟨b, o, none⟩ = w.frozen? ⟨b, o, none⟩ :=
  World.frozen?_of_block (w := w) (by simp only [World.setChan]; rw [Array.getElem?_setIfInBounds_ne (by simpa using fun e => h e.symm)])

theorem heap_setCell_other {w : World} {p : Addr} {v : Value} {k : Nat} (h : k ≠ p.block) : (w.setCell p v).heap[k]? = w.heap[k]? := Below.heap_setCell w p v k h

set_option maxRecDepth 100000 in
set_option maxHeartbeats 1600000 in
theorem slow_any (B C : Nat) (pb : Nat) (_hpB : pb ≠ B) (_hpC : pb ≠ C) (hBC : B ≠ C) (w : World) (hp : w.cell? ⟨pb, 0, none⟩ = some (.pointer (some ⟨B, 0, none⟩)))
    (h3 : w.cell? ⟨B, 3, none⟩ = some (.int .u32 0)) (h4 : w.cell? ⟨B, 4, none⟩ = some (.int .i32 0)) (h2 : w.cell? ⟨B, 2, none⟩ = some (.chan (some C)))
    (f3 : w.frozen? ⟨B, 3, none⟩ = false) (f4 : w.frozen? ⟨B, 4, none⟩ = false) (hC : w.heap[C]? = some (.chan 0 #[] false 0 0 false)) :
    Calls Yba.prog 9 #[.pointer (some ⟨B, 3, none⟩), .func (.func 7) #[] #[.pointer (some ⟨pb, 0, none⟩)]] w fun e w' => e = .returned (.tuple #[]) ∧
      w' = ((((w.setCell ⟨B, 4, none⟩ (.int .i32 1)).setChan C 0 #[] true 0 0 false).setCell ⟨B, 3, none⟩ (.int .u32 1)).drew).setCell ⟨B, 4, none⟩ (.int .i32 0) := by
  obtain ⟨W1, hW1⟩ : ∃ W1, W1 = w.setCell ⟨B, 4, none⟩ (.int .i32 1) := ⟨_, rfl⟩
  have k3 : W1.cell? ⟨B, 3, none⟩ = some (.int .u32 0) := by rw [hW1, World.cell?_setCell_other _ _ _ _ (by simp)]; exact h3
  have k2 : W1.cell? ⟨B, 2, none⟩ = some (.chan (some C)) := by rw [hW1, World.cell?_setCell_other _ _ _ _ (by simp)]; exact h2
  have k4 : W1.cell? ⟨B, 4, none⟩ = some (.int .i32 1) := by rw [hW1]; exact World.cell?_setCell_same _ _ _ h4
  have kp : W1.cell? ⟨pb, 0, none⟩ = some (.pointer (some ⟨B, 0, none⟩)) := by rw [hW1, World.cell?_setCell_other _ _ _ _ (by simp)]; exact hp
  have kC : W1.heap[C]? = some (.chan 0 #[] false 0 0 false) := by rw [hW1, heap_setCell_other (Ne.symm hBC)]; exact hC
  have g3 : W1.frozen? ⟨B, 3, none⟩ = false := by rw [hW1, World.frozen?_setCell]; exact f3
  have g4 : W1.frozen? ⟨B, 4, none⟩ = false := by rw [hW1, World.frozen?_setCell]; exact f4
  have hl := run_call_load (P := Yba.prog) Yba.func10 (by kernel_rfl) (by kernel_rfl) (by kernel_rfl) .u32 (by kernel_rfl) (w := W1) (a := ⟨B, 3, none⟩) (x := 0) k3
  have hcl : ∀ ats ty, (Builtin.close_ ats ty #[.chan (some C)]).run Yba.prog W1 = .ok (.tuple #[]) (W1.setChan C 0 #[] true 0 0 false) := fun ats ty => by
    have := run_close_open (P := Yba.prog) (w := W1) ats ty kC
    simpa only [World.setChan] using this
  have hnot : ∀ (x : Bool) (w : World), (Op.unary .not (.bool x)).run Yba.prog w = .ok (.bool (!x)) w := fun _ _ => rfl
  rw [← hW1]
  have HL : Hid (Calls Yba.prog 11 #[.pointer (some ⟨B, 4, none⟩)] w fun e w' => e = .returned (.tuple #[]) ∧ w' = W1) := by rw [hW1]; exact lock_free _ w h4 f4
  clear hW1 hC h3 h2 h4 hp f3 f4
  go_enter_defers Yba.func9, Yba.ntmps9
  go_wp2_with (go_at_call 11; refine HL.out.mono ?_; rintro e W2 ⟨rfl, rfl⟩)
  go_wp2
  go_end0
  go_wp2
  refine leaves_cons (f := 13) (args := #[.pointer (some ⟨B, 3, none⟩), .bool true]) (by simp) (by simp [go_sem]) ?_
  refine (store_deferred ⟨B, 3, none⟩ (.int .u32 0) .returning _ ((cell_setChan hBC).trans k3) ((frozen_setChan hBC).trans g3)).mono ?_
  rintro e u' w'' ⟨rfl, rfl, rfl⟩
  refine leaves_cons (f := 12) (args := #[.pointer (some ⟨B, 4, none⟩)]) (by simp [settle]) (by simp [go_sem]) ?_
  refine (unlock_deferred ⟨B, 4, none⟩ _ _ ?_ ?_).mono ?_
  · rw [World.cell?_drew, World.cell?_setCell_other _ _ _ _ (by simp), cell_setChan hBC]; exact k4
  · rw [World.frozen?_drew, World.frozen?_setCell, frozen_setChan hBC]; exact g4
  rintro e u' w'' ⟨rfl, rfl, rfl⟩
  simp [Leaves, settle, results, Yba.results9]

/-- The world behind Do. A definition of its own, so that the walk leaves it standing. -/
def onceEnd (w : World) (B C : Nat) : World := ((((w.setCell ⟨B, 4, none⟩ (.int .i32 1)).setChan C 0 #[] true 0 0 false).setCell ⟨B, 3, none⟩ (.int .u32 1)).drew).setCell ⟨B, 4, none⟩ (.int .i32 0)

set_option maxRecDepth 100000 in
set_option maxHeartbeats 1600000 in
/-- '(*sync.Once).Do', not yet done, the lock free. -/
theorem do_first (B C : Nat) (pb : Nat) (hpB : pb ≠ B) (hpC : pb ≠ C) (hBC : B ≠ C) (w : World) (hp : w.cell? ⟨pb, 0, none⟩ = some (.pointer (some ⟨B, 0, none⟩)))
    (h3 : w.cell? ⟨B, 3, none⟩ = some (.int .u32 0)) (h4 : w.cell? ⟨B, 4, none⟩ = some (.int .i32 0)) (h2 : w.cell? ⟨B, 2, none⟩ = some (.chan (some C)))
    (f3 : w.frozen? ⟨B, 3, none⟩ = false) (f4 : w.frozen? ⟨B, 4, none⟩ = false) (hC : w.heap[C]? = some (.chan 0 #[] false 0 0 false)) :
    Calls Yba.prog 6 #[.pointer (some ⟨B, 3, none⟩), .func (.func 7) #[] #[.pointer (some ⟨pb, 0, none⟩)]] w fun e w' => e = .returned (.tuple #[]) ∧ w' = onceEnd w B C := by
  have hl := run_call_load (P := Yba.prog) Yba.func10 (by kernel_rfl) (by kernel_rfl) (by kernel_rfl) .u32 (by kernel_rfl) h3
  have hnot : ∀ (x : Bool) (w : World), (Op.unary .not (.bool x)).run Yba.prog w = .ok (.bool (!x)) w := fun _ _ => rfl
  have HH : Hid (Calls Yba.prog 9 #[.pointer (some ⟨B, 3, none⟩), .func (.func 7) #[] #[.pointer (some ⟨pb, 0, none⟩)]] w fun e w' => e = .returned (.tuple #[]) ∧ w' = onceEnd w B C) := slow_any B C pb hpB hpC hBC w hp h3 h4 h2 f3 f4 hC
  clear hC hp h4 h2 f3 f4
  go_enter Yba.func6, Yba.ntmps6
  go_wp2_with (first | (go_at_call 9; refine HH.out.mono ?_; rintro e w' ⟨rfl, rfl⟩) | (go_at_call 8; go_in))
  go_end0
  exact ⟨rfl, rfl⟩

/-- What Close leaves: the channel is closed, the handoff's two channels stand, all other blocks are as they were. -/
structure Closed (w w' : World) (B C : Nat) : Prop where
  os : w'.os = w.os
  tape : w'.tape = w.tape
  output : w'.output = w.output
  size : w.heap.size ≤ w'.heap.size
  block : ∀ k, k < w.heap.size → k ≠ B → k ≠ C → w'.heap[k]? = w.heap[k]?
  shut : w'.heap[C]? = some (.chan 0 #[] true 0 0 false)
  one : w'.cell? ⟨B, 1, none⟩ = w.cell? ⟨B, 1, none⟩
  two : w'.cell? ⟨B, 2, none⟩ = w.cell? ⟨B, 2, none⟩

set_option maxRecDepth 100000 in
set_option maxHeartbeats 1600000 in
/-- '(*handoff).Close', the first time. -/
theorem close_any (B C : Nat) (hBC : B ≠ C) (w : World)
    (h3 : w.cell? ⟨B, 3, none⟩ = some (.int .u32 0)) (h4 : w.cell? ⟨B, 4, none⟩ = some (.int .i32 0)) (h2 : w.cell? ⟨B, 2, none⟩ = some (.chan (some C)))
    (f3 : w.frozen? ⟨B, 3, none⟩ = false) (f4 : w.frozen? ⟨B, 4, none⟩ = false) (hC : w.heap[C]? = some (.chan 0 #[] false 0 0 false)) :
    Calls Yba.prog 4 #[.pointer (some ⟨B, 0, none⟩)] w fun e w' => e = .returned .nilIface ∧ Closed w w' B C := by
  have hmf : ∀ (fn : Fn) (first cap : Array Value) (w : World), (Instr.makeFunc fn first cap).run Yba.prog w = .ok (.func fn first cap) w := fun _ _ _ _ => rfl
  have hB : B < w.heap.size := World.block_lt_of_cell? w ⟨B, 3, none⟩ h3
  have hCl : C < w.heap.size := by
    rcases Nat.lt_or_ge C w.heap.size with h | h
    · exact h
    · rw [Array.getElem?_eq_none h] at hC; cases hC
  obtain ⟨W, hW⟩ : ∃ W, W = w.alloc (.cells #[.pointer (some ⟨B, 0, none⟩)] 28) := ⟨_, rfl⟩
  have hc : ∀ o, W.cell? ⟨B, o, none⟩ = w.cell? ⟨B, o, none⟩ := fun o => by rw [hW, World.cell?_alloc_past _ _ _ hB]
  have hf : ∀ o, W.frozen? ⟨B, o, none⟩ = w.frozen? ⟨B, o, none⟩ := fun o => by rw [hW, World.frozen?_alloc_past _ _ _ hB]
  have hp : W.cell? ⟨w.heap.size, 0, none⟩ = some (.pointer (some ⟨B, 0, none⟩)) := by rw [hW]; simp
  have hWC : W.heap[C]? = some (.chan 0 #[] false 0 0 false) := by rw [hW, Below.heap_alloc _ _ _ hCl]; exact hC
  have HD : Hid (Calls Yba.prog 6 #[.pointer (some ⟨B, 3, none⟩), .func (.func 7) #[] #[.pointer (some ⟨w.heap.size, 0, none⟩)]] W fun e w' => e = .returned (.tuple #[]) ∧ w' = onceEnd W B C) := do_first B C w.heap.size (by omega) (by omega) hBC W hp ((hc 3).trans h3) ((hc 4).trans h4) ((hc 2).trans h2) ((hf 3).trans f3) ((hf 4).trans f4) hWC
  have hk : ∀ k, k < w.heap.size → W.heap[k]? = w.heap[k]? := fun k hk => by rw [hW, Below.heap_alloc _ _ _ hk]
  have hsz : W.heap.size = w.heap.size + 1 := by rw [hW]; simp
  have hCW : C < W.heap.size := by omega
  have HF : Hid (Closed w (onceEnd W B C) B C) := by
    show Closed w (onceEnd W B C) B C
    unfold onceEnd
    refine ⟨by rw [hW]; rfl, by rw [hW]; rfl, by rw [hW]; rfl, by simp [World.setCell, World.setChan, World.drew]; omega, fun k h1 h2 h3 => ?_, ?_, ?_, ?_⟩
    · rw [heap_setCell_other h2]
      show (((W.setCell ⟨B, 4, none⟩ (.int .i32 1)).setChan C 0 #[] true 0 0 false).setCell ⟨B, 3, none⟩ (.int .u32 1)).heap[k]? = _
      rw [heap_setCell_other h2]
      simp only [World.setChan]
      rw [Array.getElem?_setIfInBounds_ne (Ne.symm h3), heap_setCell_other h2, hk k h1]
    · rw [heap_setCell_other (Ne.symm hBC)]
      show (((W.setCell ⟨B, 4, none⟩ (.int .i32 1)).setChan C 0 #[] true 0 0 false).setCell ⟨B, 3, none⟩ (.int .u32 1)).heap[C]? = _
      rw [heap_setCell_other (Ne.symm hBC)]
      exact heap_setChan _ _ _ _ _ _ _ _ (by simpa [World.setCell] using hCW)
    · rw [World.cell?_setCell_other _ _ _ _ (by simp), World.cell?_drew, World.cell?_setCell_other _ _ _ _ (by simp), cell_setChan hBC, World.cell?_setCell_other _ _ _ _ (by simp), hc]
    · rw [World.cell?_setCell_other _ _ _ _ (by simp), World.cell?_drew, World.cell?_setCell_other _ _ _ _ (by simp), cell_setChan hBC, World.cell?_setCell_other _ _ _ _ (by simp), hc]
  subst hW
  clear hc hf hp hWC hk hsz hCW h3 h4 h2 f3 f4 hC
  go_enter Yba.func4, Yba.ntmps4
  go_wp2_with (go_at_call 6; refine HD.out.mono ?_; rintro e w' ⟨rfl, rfl⟩)
  go_ret
  exact ⟨rfl, HF.out⟩
end Go.Proofs.Ybulkbzmw.Once
