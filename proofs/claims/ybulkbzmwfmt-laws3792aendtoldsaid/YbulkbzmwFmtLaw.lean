/- The walk of the law. -/
import Derived.Test.YbulkbzmwFmtOpen
import Derived.Deep.LoopGhost
import Derived.Deep.DeepMust
import Derived.Deep.CutRange
import Derived.Deep.DeepCutAuto
import Derived.Deep.RegionHeld3
import Derived.Deep.QuietTactic
import Derived.BigQuiet
import Derived.Deep.Light
namespace Go.Proofs.YbulkbzmwFmt.Law
open Go.RowKit Go.Conc Go.ChangeMaps Go.Extern Go.Extern.Stop Go.Stop Go.Proofs.YbulkbzmwFmt.Map Go.Proofs.YbulkbzmwFmt.Lim Go.Proofs.YbulkbzmwFmt.Sess Go.Proofs.YbulkbzmwFmt.End Go.Proofs.YbulkbzmwFmt.Inv Go.Proofs.YbulkbzmwFmt.Call Go.Proofs.YbulkbzmwFmt.After Go.Proofs.YbulkbzmwFmt.Comm

theorem mk_map (t : TypeId) (w : World) : (Instr.makeMap t none).run Ybaf.prog w = .ok (.map (some w.heap.size)) (w.alloc (.map #[] 0)) := rfl
theorem mk_due (w : World) : (Instr.makeChan 29 (.int .i64 1)).run Ybaf.prog w = .ok (.chan (some w.heap.size)) (w.alloc (.chan 1 #[] false 0 0 false)) := by
  have h : (Ybaf.prog.info? 34).map (·.bytes) = some 0 := by kernel_rfl
  obtain ⟨i, hi, hb⟩ := Option.map_eq_some_iff.1 h
  exact run_makeChan (P := Ybaf.prog) (w := w) Ybaf.underlying29 hi .i64 1 (by omega) (by rw [hb]; omega)

/-- The world in which the stamper stands. -/
def W0 (w : World) (owed : Int) : World :=
  (((w.alloc (.cells #[.int .u64 0, .int .i64 0, .pointer none] 26)).alloc (.map #[] 0)).alloc (.chan 1 #[] false 0 0 false)).alloc
    (.cells #[.nilIface, .int .i32 0, .int .u32 0, .slice none 0 0, .map (some (w.heap.size + 1)), .int .i64 0, .int .u64 0, .int .u64 0, .int .u64 owed, .chan (some (w.heap.size + 1 + 1)), .int .u64 0, .int .i64 0, .pointer none, .int .u64 0, .int .i64 0, .pointer none, .int .i64 0,
      .func (.func 4) #[] #[.pointer (some ⟨w.heap.size, 0, none⟩)]] 45)

structure Start (w W : World) (B : Nat) (owed : Int) (buf : Array Value) (s : Nat) : Prop where
  below : Below B w W
  size : W.heap.size = B + 4
  bb : W.heap[B]? = some (.cells #[.int .u64 0, .int .i64 0, .pointer none] 26 (0, 0))
  chan : W.heap[B + 2]? = some (.chan 1 buf false s 0 false)
  st : St W B owed
  map : W.heap[B + 1]? = some (obj [] 0)

theorem start (w : World) (owed : Int) : Start w (W0 w owed) w.heap.size owed #[] 0 := by
  unfold W0
  obtain ⟨j1, hj1⟩ : ∃ o, o = Obj.cells #[.int .u64 0, .int .i64 0, .pointer none] 26 := ⟨_, rfl⟩
  obtain ⟨j2, hj2⟩ : ∃ o, o = Obj.map #[] 0 := ⟨_, rfl⟩
  obtain ⟨j3, hj3⟩ : ∃ o, o = Obj.chan 1 #[] false 0 0 false := ⟨_, rfl⟩
  obtain ⟨j4, hj4⟩ : ∃ o, o = Obj.cells #[.nilIface, .int .i32 0, .int .u32 0, .slice none 0 0, .map (some (w.heap.size + 1)), .int .i64 0, .int .u64 0, .int .u64 0, .int .u64 owed, .chan (some (w.heap.size + 1 + 1)), .int .u64 0, .int .i64 0, .pointer none, .int .u64 0, .int .i64 0, .pointer none, .int .i64 0,
      .func (.func 4) #[] #[.pointer (some ⟨w.heap.size, 0, none⟩)]] 45 := ⟨_, rfl⟩
  rw [← hj1, ← hj2, ← hj3, ← hj4]
  have hbel : Below w.heap.size w ((((w.alloc j1).alloc j2).alloc j3).alloc j4) := ((((Below.refl _ _).alloc (Nat.le_refl _) _).alloc (by simp) _).alloc (by simp; omega) _).alloc (by simp; omega) _
  have hsz : ((((w.alloc j1).alloc j2).alloc j3).alloc j4).heap.size = w.heap.size + 4 := by simp
  have m1 : ((((w.alloc j1).alloc j2).alloc j3).alloc j4).heap[w.heap.size]? = some j1 := by
    rw [Below.heap_alloc _ _ _ (by simp; omega), Below.heap_alloc _ _ _ (by simp; omega), Below.heap_alloc _ _ _ (by simp)]; exact (MapKept.heap_alloc w _).1
  have m2 : ((((w.alloc j1).alloc j2).alloc j3).alloc j4).heap[w.heap.size + 1]? = some j2 := by
    rw [Below.heap_alloc _ _ _ (by simp), Below.heap_alloc _ _ _ (by simp)]
    simpa only [World.size_alloc] using (MapKept.heap_alloc (w.alloc j1) j2).1
  have m3 : ((((w.alloc j1).alloc j2).alloc j3).alloc j4).heap[w.heap.size + 2]? = some j3 := by
    rw [Below.heap_alloc _ _ _ (by simp)]
    simpa only [World.size_alloc] using (MapKept.heap_alloc ((w.alloc j1).alloc j2) j3).1
  have m4 : ((((w.alloc j1).alloc j2).alloc j3).alloc j4).heap[w.heap.size + 3]? = some j4 := by
    simpa only [World.size_alloc] using (MapKept.heap_alloc (((w.alloc j1).alloc j2).alloc j3) j4).1
  generalize ((((w.alloc j1).alloc j2).alloc j3).alloc j4) = W at *
  subst hj1 hj2 hj3 hj4
  have hc : ∀ o, W.cell? ⟨w.heap.size + 3, o, none⟩ = _ := fun o => cell_of_row W (w.heap.size + 3) o _ 45 (0, 0) m4
  exact ⟨hbel, hsz, m1, m3, ⟨hc 1, by simp [World.frozen?, m4], hc 3, hc 4, hc 8, hc 9, hc 17⟩, m2⟩

theorem start_sent {w W : World} {B : Nat} {owed : Int} {v : Value} (h : Start w W B owed #[] 0) : Start w (W.setChan (B + 2) 1 (#[].push v) false (0 + 1) 0 false) B owed #[v] 1 := by
  have hs := h.size
  have hb : ∀ k, k ≠ B + 2 → (W.setChan (B + 2) 1 (#[].push v) false (0 + 1) 0 false).heap[k]? = W.heap[k]? := fun k hk => by
    simp only [World.setChan]; rw [Array.getElem?_setIfInBounds_ne (Ne.symm hk)]
  exact ⟨⟨h.below.os, h.below.tape, h.below.output, by rw [size_setChan]; exact h.below.size, fun k hk => (hb k (by omega)).trans (h.below.block k hk)⟩, by rw [size_setChan]; exact hs, (hb _ (by omega)).trans h.bb, heap_setChan _ _ _ _ _ _ _ _ (by omega), h.st.of (hb _ (by omega)), (hb _ (by omega)).trans h.map⟩

theorem info_parts {P : Program} {t : TypeId} {z : Value} {s b : Nat} (h : (P.info? t).map (fun i => (i.zero, i.size, i.bytes)) = some (some z, s, b)) : ∃ i, P.info? t = some i ∧ i.zero = some z ∧ i.size = s ∧ i.bytes = b := by
  obtain ⟨i, hi, he⟩ := Option.map_eq_some_iff.1 h
  simp only [Prod.mk.injEq] at he
  exact ⟨i, hi, he.1, he.2.1, he.2.2⟩
theorem info9 : (Ybaf.prog.info? 9).map (fun i => (i.zero, i.size, i.bytes)) = some (some (.string ByteArray.empty), 1, 16) := by kernel_rfl
theorem info52 : (Ybaf.prog.info? 52).map (fun i => (i.zero, i.size, i.bytes)) = some (some (.pointer none), 1, 8) := by kernel_rfl
theorem info2 : (Ybaf.prog.info? 2).map (fun i => (i.zero, i.size, i.bytes)) = some (some (.int .i64 0), 1, 8) := by kernel_rfl
theorem info23 : (Ybaf.prog.info? 23).map (fun i => (i.zero, i.size, i.bytes)) = some (some (.int .u64 0), 1, 8) := by kernel_rfl

theorem inv0 {w V w1 w2 w3 w4 w5 : World} {B n : Nat} {owed : Int} {buf : Array Value} {s : Nat} (h : Start w V B owed buf s)
    (c1 : V.grownBy w1 none) (o1 : row w1 B 9 V.heap.size 0 n []) (c2 : w1.grownBy w2 none) (o2 : row w2 B 52 w1.heap.size 0 n []) (c3 : w2.grownBy w3 none) (o3 : row w3 B 2 w2.heap.size 0 n [])
    (c4 : w3.grownBy w4 none) (o4 : row w4 B 2 w3.heap.size 0 n []) (c5 : w4.grownBy w5 none) (o5 : row w5 B 23 w4.heap.size 0 n []) :
    Inv w w5 ⟨V.heap.size, w1.heap.size, w2.heap.size, w3.heap.size, w4.heap.size⟩ B n owed buf s [] 0 := by
  have hs := h.size
  have l1 : V.heap.size < w1.heap.size := (o1.lt _ rfl).2
  have l2 : w1.heap.size < w2.heap.size := (o2.lt _ rfl).2
  have l3 : w2.heap.size < w3.heap.size := (o3.lt _ rfl).2
  have l4 : w3.heap.size < w4.heap.size := (o4.lt _ rfl).2
  have l5 : w4.heap.size < w5.heap.size := (o5.lt _ rfl).2
  have hb : ∀ k, k < V.heap.size → w5.heap[k]? = V.heap[k]? := fun k hk => by
    rw [c5.block k (by omega) (by simp), c4.block k (by omega) (by simp), c3.block k (by omega) (by simp), c2.block k (by omega) (by simp), c1.block k hk (by simp)]
  refine ⟨((((h.below.grown c1 (by omega) (by simp)).grown c2 (by omega) (by simp)).grown c3 (by omega) (by simp)).grown c4 (by omega) (by simp)).grown c5 (by omega) (by simp), ⟨by show B + 4 ≤ V.heap.size; omega, l1, l2, l3, l4⟩, l5, (hb _ (by omega)).trans h.bb, (hb _ (by omega)).trans h.chan, h.st.of (hb _ (by omega)), (hb _ (by omega)).trans h.map,
    (((o1.kept c2 (by simp [Value.ownBlock])).kept c3 (by simp [Value.ownBlock])).kept c4 (by simp [Value.ownBlock])).kept c5 (by simp [Value.ownBlock]), ((o2.kept c3 (by simp [Value.ownBlock])).kept c4 (by simp [Value.ownBlock])).kept c5 (by simp [Value.ownBlock]), (o3.kept c4 (by simp [Value.ownBlock])).kept c5 (by simp [Value.ownBlock]), o4.kept c5 (by simp [Value.ownBlock]), o5, ?_, ?_, ?_, ?_, ?_, ?_⟩ <;> simp

/-- What the caller's slice holds: element i's five cells. -/
def Elem (w : World) (a0 : Option Addr) (i : Nat) (id : ByteArray) (rep ttl bd vc : Int) : Prop :=
  ∃ ad, a0 = some ad ∧ w.cell? (ad.add (i * 5)) = some (.string id) ∧ w.cell? ⟨(ad.add (i * 5)).block, (ad.add (i * 5)).off + 1, none⟩ = some (.int .i32 rep) ∧ w.cell? ⟨(ad.add (i * 5)).block, (ad.add (i * 5)).off + 2, none⟩ = some (.int .i64 ttl) ∧
    w.cell? ⟨(ad.add (i * 5)).block, (ad.add (i * 5)).off + 3, none⟩ = some (.int .u64 bd) ∧ w.cell? ⟨(ad.add (i * 5)).block, (ad.add (i * 5)).off + 4, none⟩ = some (.int .u64 vc)

theorem look_ex {k : ByteArray} : ∀ {es : List E} (i : Nat), (∃ e ∈ es, k.toList = e.id.toList) → ∃ j e, Map.look k es i = some (j, ptr e)
  | [], _, h => by obtain ⟨_, h, _⟩ := h; cases h
  | e :: es, i, h => by
    by_cases h1 : k.toList = e.id.toList
    · exact ⟨i, e, by simp [Map.look, h1]⟩
    · obtain ⟨x, hx, hk⟩ := h
      have : ∃ e ∈ es, k.toList = e.id.toList := by
        rcases List.mem_cons.1 hx with rfl | hx
        · exact absurd hk h1
        · exact ⟨x, hx, hk⟩
      obtain ⟨j, e', h'⟩ := look_ex (i + 1) this
      have h2 : (k.toList == e.id.toList) = false := by simpa using h1
      exact ⟨j, e', by simp only [Map.look, h2, Bool.false_eq_true, if_false]; exact h'⟩

/-- time.Time{}.Add, in whatever world agrees below. -/
theorem added (rep : Int) (w : World) (h1 : -2147483648 ≤ rep) (h2 : rep ≤ 2147483647) : ∀ W, Below w.heap.size w W →
    Calls Ybaf.prog 5 #[.agg #[.int .u64 0, .int .i64 0, .pointer none], .int .i64 rep] W fun e w' => e = .returned (.agg #[.int .u64 (rep % 1000000000), .int .i64 (rep / 1000000000), .pointer none]) ∧ Below w.heap.size w w' := by
  intro W hW
  refine (Time.add_any 0 rep W (by decide) (by decide) (by omega) (by omega)).mono ?_
  rintro e w' ⟨he, hb⟩
  refine ⟨?_, hW.trans (hb.mono hW.size)⟩
  rw [he, Int.zero_add]
  rfl

theorem wrap_rep {rep : Int} (h1 : -2147483648 ≤ rep) (h2 : rep ≤ 2147483647) : IntKind.i64.wrap rep = rep := by
  rw [IntKind.wrap_i64]; omega

theorem g1 {G : Gs} {B : Nat} (h : G.ok B) : G.g1 ≤ G.g5 := by unfold Gs.ok at h; omega
theorem g2 {G : Gs} {B : Nat} (h : G.ok B) : G.g2 ≤ G.g5 := by unfold Gs.ok at h; omega
theorem g3 {G : Gs} {B : Nat} (h : G.ok B) : G.g3 ≤ G.g5 := by unfold Gs.ok at h; omega
theorem g4 {G : Gs} {B : Nat} (h : G.ok B) : G.g4 ≤ G.g5 := by unfold Gs.ok at h; omega
theorem g5 {G : Gs} {B : Nat} (_ : G.ok B) : G.g5 ≤ G.g5 := Nat.le_refl _

theorem one_new (X : World) (v : Value) (t : TypeId) : ∀ j u, [v][j]? = some u → (X.alloc (.cells #[v] t)).cell? ((⟨X.heap.size, 0, none⟩ : Addr).add j) = some u := by
  intro j u hu
  cases j with
  | zero => simp at hu; subst hu; simp [Addr.add]
  | succ j => simp at hu

section
variable {w w1 wk : World} {G : Gs} {B n : Nat} {owed : Int} {buf : Array Value} {s : Nat} {rs : List Rec} {clock : Nat}
theorem rowAt1 (h : Inv w w1 G B n owed buf s rs clock) (hc : Chg w1 wk [B + 1]) : row wk B 9 G.g1 rs.length n (rs.map fun x => .string x.e.id) := by
  have h1 := h.size
  obtain ⟨q1, q2, q3, q4, q5⟩ := h.ok
  exact row_of h.r1 (hc.block _ (by omega) (by simp; omega))
theorem rowAt2 (h : Inv w w1 G B n owed buf s rs clock) (hc : Chg w1 wk [B + 1, G.g1]) : row wk B 52 G.g2 rs.length n (rs.map fun x => ptr x.e) := by
  have h1 := h.size
  obtain ⟨q1, q2, q3, q4, q5⟩ := h.ok
  exact row_of h.r2 (hc.block _ (by omega) (by simp; omega))
theorem rowAt3 (h : Inv w w1 G B n owed buf s rs clock) (hc : Chg w1 wk [B + 1, G.g1, G.g2]) : row wk B 2 G.g3 rs.length n (rs.map fun x => .int .i64 x.rep) := by
  have h1 := h.size
  obtain ⟨q1, q2, q3, q4, q5⟩ := h.ok
  exact row_of h.r3 (hc.block _ (by omega) (by simp; omega))
theorem rowAt4 (h : Inv w w1 G B n owed buf s rs clock) (hc : Chg w1 wk [B + 1, G.g1, G.g2, G.g3]) : row wk B 2 G.g4 rs.length n (rs.map fun x => .int .i64 x.ttl) := by
  have h1 := h.size
  obtain ⟨q1, q2, q3, q4, q5⟩ := h.ok
  exact row_of h.r4 (hc.block _ (by omega) (by simp; omega))
theorem rowAt5 (h : Inv w w1 G B n owed buf s rs clock) (hc : Chg w1 wk [B + 1, G.g1, G.g2, G.g3, G.g4]) : row wk B 23 G.g5 rs.length n (rs.map fun x => .int .u64 x.lm) := by
  have h1 := h.size
  obtain ⟨q1, q2, q3, q4, q5⟩ := h.ok
  exact row_of h.r5 (hc.block _ (by omega) (by simp; omega))
/-- A cell behind the rows stands through an append. -/
theorem past {q g : Nat} (hq : G.g5 < q) (hlt : q < w1.heap.size) (hc : Chg w1 wk [g]) (hg : g ≤ G.g5) (o : Nat) : wk.cell? ⟨q, o, none⟩ = w1.cell? ⟨q, o, none⟩ :=
  World.cell?_of_block (w := w1) (hc.block q hlt (by simp; omega))
end

/-- The session that region 17 makes. -/
structure Made (w w' : World) (p : Nat) (id : ByteArray) (rep ttl bd vc : Int) : Prop where
  chg : Chg w w' []
  new : w.heap.size ≤ p
  sess : Sess w' ⟨⟨id, p, 0⟩, rep, ttl, bd, vc⟩

theorem made_new {wd wx : World} {id : ByteArray} {rep ttl bd vc : Int} (h : Below wd.heap.size wd wx) : ∃ p, Value.pointer (some ⟨wx.heap.size + 1, 0, none⟩) = .pointer (some ⟨p, 0, none⟩) ∧
    Made wd ((wx.alloc (.map #[] 0)).alloc (.cells #[.string id, .int .i64 ttl, .int .u64 (rep % 1000000000), .int .i64 (rep / 1000000000), .pointer none, .int .u64 bd, .int .u64 vc, .map (some wx.heap.size), .slice none 0 0] 56)) p id rep ttl bd vc :=
  ⟨_, rfl, ((Chg.of_below h).alloc _).alloc _, Nat.le_succ_of_le h.size, .map (some wx.heap.size), by simpa only [World.size_alloc] using (MapKept.heap_alloc (wx.alloc (.map #[] 0)) _).1⟩
theorem made_old {wd wx : World} {id : ByteArray} {rep ttl bd vc : Int} (mb : Value) (h : Below wd.heap.size wd wx) : ∃ p, Value.pointer (some ⟨wx.heap.size, 0, none⟩) = .pointer (some ⟨p, 0, none⟩) ∧
    Made wd (wx.alloc (.cells #[.string id, .int .i64 ttl, .int .u64 (rep % 1000000000), .int .i64 (rep / 1000000000), .pointer none, .int .u64 bd, .int .u64 vc, mb, .slice none 0 0] 56)) p id rep ttl bd vc :=
  ⟨_, rfl, (Chg.of_below h).alloc _, h.size, mb, (MapKept.heap_alloc wx _).1⟩

set_option maxRecDepth 100000 in
set_option maxHeartbeats 40000000 in
theorem law_any (F : Interp) (a0 : Option Addr) (n cap0 : Nat) (pick : Int) (target : ByteArray) (useT : Bool) (owed : Int) (full : Bool) (a : Addr) (s0 : ByteArray) (w : World) (hp1 : 0 ≤ pick) (hp2 : pick ≤ 255) (hF : F.answers w.tape) (hn : n ≤ 1024)
    (hg : w.cell? ⟨0, 0, none⟩ = some (.iface 109 (.pointer (some a)))) (hs : w.cell? a = some (.string s0))
    (hin : ∀ i, i < n → ∃ id rep ttl bd vc, Elem w a0 i id rep ttl bd vc ∧ -2147483648 ≤ rep ∧ rep ≤ 2147483647) :
    Calls Ybaf.prog 3 #[.slice a0 n cap0, .int .u8 pick, .string target, .bool useT, .int .u64 owed, .bool full] w fun e w' => e = .returned (.bool true) ∧ Bel w.heap.size w w' := by
  have HIN : Hid (∀ i, i < n → ∃ id rep ttl bd vc, Elem w a0 i id rep ttl bd vc ∧ -2147483648 ≤ rep ∧ rep ≤ 2147483647) := hin
  clear hin
  have HA : Hid (F.answers w.tape ∧ w.cell? ⟨0, 0, none⟩ = some (.iface 109 (.pointer (some a))) ∧ w.cell? a = some (.string s0)) := ⟨hF, hg, hs⟩
  clear hF hg hs
  have hmm := mk_map
  have hmd := mk_due
  have hmf : ∀ (fn : Fn) (first cap : Array Value) (w : World), (Instr.makeFunc fn first cap).run Ybaf.prog w = .ok (.func fn first cap) w := fun _ _ _ _ => rfl
  go_enter Ybaf.func3, Ybaf.ntmps3
  go_upto_if 47 with fail
  clear hmm hmd hmf
  have HS : Hid (Start w (W0 w owed) w.heap.size owed #[] 0) := start w owed
  show Code.wp _ _ _ _ (W0 w owed)
  generalize W0 w owed = V at HS ⊢
  go_cut [] (fun wc => Start w wc w.heap.size owed (if full then #[.agg #[]] else #[]) (if full then 1 else 0))
  case first =>
    as_aux_lemma =>
      cases full
      · go_wp2
        go_meet
        case rel => exact HS.out
      · go_upto_region 6 with fail
        have c9 := HS.out.st.c9
        refine regAt_start' (l := [0, 1, 2, 3, 4, 5]) rfl ?_
        refine regAt_oper rfl rfl (fun K hK => ?_); go_simp; refine ⟨_, _, ⟨rfl, rfl⟩, hK _ _ ?_⟩; clear hK K
        refine regAt_oper rfl rfl (fun K hK => ?_); go_simp; refine ⟨_, _, ⟨rfl, rfl⟩, hK _ _ ?_⟩; clear hK K
        refine regAt_oper rfl rfl (fun K hK => ?_); go_simp; refine ⟨_, _, ⟨rfl, rfl⟩, hK _ _ ?_⟩; clear hK K
        refine regAt_oper rfl rfl (fun K hK => ?_); go_simp; refine ⟨_, _, ⟨rfl, rfl⟩, hK _ _ ?_⟩; clear hK K
        refine regAt_oper rfl rfl (fun K hK => ?_); go_simp; refine ⟨_, _, ⟨rfl, rfl⟩, hK _ _ ?_⟩; clear hK K
        refine regAt_send (c := w.heap.size + 2) (cap := 1) (buf := #[]) (s := 0) (r := 0) (tm := false) (v := .agg #[]) (z := .tuple #[]) (w' := V) rfl rfl (by simp [execOp, scase, Act.eval]) HS.out.chan (by simp) ?_
        refine regAt_end ?_
        go_wp2
        go_meet
        case rel => exact start_sent HS.out
  case rest =>
    clear HS
    clear V
    obtain ⟨t9, i9, z9, s9, b9⟩ := info_parts info9
    obtain ⟨t52, i52, z52, s52, b52⟩ := info_parts info52
    obtain ⟨t2, i2, z2, s2, b2⟩ := info_parts info2
    obtain ⟨t23, i23, z23, s23, b23⟩ := info_parts info23
    obtain ⟨B, hB⟩ : ∃ B, B = w.heap.size := ⟨_, rfl⟩
    have HB : Hid (B = w.heap.size) := hB
    rw [← hB] at hcut ⊢
    have HS : Hid _ := hcut
    have hBw : B ≤ wc.heap.size := by have := HS.out.size; omega
    clear hcut hB
    go_wp2_with (at_make; refine wpList_make_own _ rfl (.const (.int .i64 0)) (.tmp 54) 46 rfl B 9 t9 _ 1 Ybaf.underlying46 i9 z9 s9 .i64 .i64 _ n rfl rfl rfl (by rw [b9]; omega) (by unfold maxLen; omega) hBw ?_)
    intro w1 o1 c1
    have e1 : B ≤ w1.heap.size := Nat.le_trans hBw c1.size
    have H1 : Hid (wc.grownBy w1 none ∧ row w1 B 9 wc.heap.size 0 n []) := ⟨c1, o1⟩
    clear o1 c1
    go_wp2_with (at_make; refine wpList_make_own _ rfl (.const (.int .i64 0)) (.tmp 57) 47 rfl B 52 t52 _ 1 Ybaf.underlying47 i52 z52 s52 .i64 .i64 _ n rfl rfl rfl (by rw [b52]; omega) (by unfold maxLen; omega) e1 ?_)
    intro w2 o2 c2
    have e2 : B ≤ w2.heap.size := Nat.le_trans e1 c2.size
    have H2 : Hid (w1.grownBy w2 none ∧ row w2 B 52 w1.heap.size 0 n []) := ⟨c2, o2⟩
    clear o2 c2
    go_wp2_with (at_make; refine wpList_make_own _ rfl (.const (.int .i64 0)) (.tmp 60) 48 rfl B 2 t2 _ 1 Ybaf.underlying48 i2 z2 s2 .i64 .i64 _ n rfl rfl rfl (by rw [b2]; omega) (by unfold maxLen; omega) e2 ?_)
    intro w3 o3 c3
    have e3 : B ≤ w3.heap.size := Nat.le_trans e2 c3.size
    have H3 : Hid (w2.grownBy w3 none ∧ row w3 B 2 w2.heap.size 0 n []) := ⟨c3, o3⟩
    clear o3 c3
    go_wp2_with (at_make; refine wpList_make_own _ rfl (.const (.int .i64 0)) (.tmp 63) 48 rfl B 2 t2 _ 1 Ybaf.underlying48 i2 z2 s2 .i64 .i64 _ n rfl rfl rfl (by rw [b2]; omega) (by unfold maxLen; omega) e3 ?_)
    intro w4 o4 c4
    have e4 : B ≤ w4.heap.size := Nat.le_trans e3 c4.size
    have H4 : Hid (w3.grownBy w4 none ∧ row w4 B 2 w3.heap.size 0 n []) := ⟨c4, o4⟩
    clear o4 c4
    go_wp2_with (at_make; refine wpList_make_own _ rfl (.const (.int .i64 0)) (.tmp 66) 49 rfl B 23 t23 _ 1 Ybaf.underlying49 i23 z23 s23 .i64 .i64 _ n rfl rfl rfl (by rw [b23]; omega) (by unfold maxLen; omega) e4 ?_)
    intro w5 o5 c5
    obtain ⟨G, hG⟩ : ∃ G : Gs, G = ⟨wc.heap.size, w1.heap.size, w2.heap.size, w3.heap.size, w4.heap.size⟩ := ⟨_, rfl⟩
    have HI0 : Hid _ := inv0 HS.out H1.out.1 H1.out.2 H2.out.1 H2.out.2 H3.out.1 H3.out.2 H4.out.1 H4.out.2 c5 o5
    rw [← hG] at HI0
    have q1 : wc.heap.size = G.g1 := by rw [hG]
    have q2 : w1.heap.size = G.g2 := by rw [hG]
    have q3 : w2.heap.size = G.g3 := by rw [hG]
    have q4 : w3.heap.size = G.g4 := by rw [hG]
    have q5 : w4.heap.size = G.g5 := by rw [hG]
    rw [q1, q2, q3, q4, q5]
    clear o5 c5 H1 H2 H3 H4 HS hG q1 q2 q3 q4 q5 e1 e2 e3 e4 hBw
    clear w1 w2 w3 w4 wc
    obtain ⟨S, hS⟩ : ∃ S, B + 1 + 1 + 1 = S := ⟨_, rfl⟩
    rw [hS]
    have HSS : Hid (B + 3 = S) := hS
    clear hS
    obtain ⟨buf, hbuf⟩ : ∃ buf : Array Value, (if full = true then #[.agg #[]] else #[]) = buf := ⟨_, rfl⟩
    obtain ⟨sn, hsn⟩ : ∃ sn : Nat, (if full = true then 1 else 0) = sn := ⟨_, rfl⟩
    rw [hbuf, hsn] at HI0
    have HBU : Hid (buf.size = if full then 1 else 0) := by rw [← hbuf]; cases full <;> rfl
    clear hbuf hsn
    go_wp2_with fail
    go_loopg [15, 16, 17, 18, 19, 70] n (fun gk u15 u16 u17 u18 u19 u70 wr => ∃ (i : Nat) (rs : List Rec) (clock : Nat), gk = n - i ∧ i ≤ n ∧ rs.length ≤ i ∧ u70 = .int .i64 i ∧ u15 = .slice (some ⟨G.g1, 0, none⟩) rs.length n ∧ u16 = .slice (some ⟨G.g2, 0, none⟩) rs.length n ∧ u17 = .slice (some ⟨G.g3, 0, none⟩) rs.length n ∧ u18 = .slice (some ⟨G.g4, 0, none⟩) rs.length n ∧ u19 = .slice (some ⟨G.g5, 0, none⟩) rs.length n ∧ Inv w wr G B n owed buf sn rs clock)
    case atStart => exact ⟨0, [], 0, rfl, Nat.zero_le _, Nat.le_refl _, rfl, rfl, rfl, rfl, rfl, rfl, HI0.out⟩
    case round =>
      obtain ⟨i, rs, clock, rfl, hi, hri, rfl, rfl, rfl, rfl, rfl, rfl, hI⟩ := hrel
      have HI : Hid (Inv w wr G B n owed buf sn rs clock) := hI
      clear hI HI0
      by_cases hlt : i < n
      · obtain ⟨id, rep, ttl, bd, vc, ⟨ad, rfl, k0, k1, k2, k3, k4⟩, hr1, hr2⟩ := HIN.out i hlt
        have lti : ((i : Nat) : Int) < n := by omega
        have hcell : ∀ o v, w.cell? o = some v → wr.cell? o = some v := fun o v h => (HI.out.below.cell (HB.out ▸ World.block_lt_of_cell? _ _ h)).trans h
        have c0 := hcell _ _ k0
        have c1 := hcell _ _ k1
        have c2 := hcell _ _ k2
        have c3 := hcell _ _ k3
        have c4 := hcell _ _ k4
        clear k0 k1 k2 k3 k4 hcell
        go_upto_region 16 with fail
        clear c0 c1 c2 c3 c4
        obtain ⟨q, hq⟩ : ∃ q, q = wr.heap.size := ⟨_, rfl⟩
        obtain ⟨wq, hwq⟩ : ∃ wq, wq = wr.alloc (.cells #[.string id, .int .i32 rep, .int .i64 ttl, .int .u64 bd, .int .u64 vc] 51) := ⟨_, rfl⟩
        rw [← hwq, ← hq]
        have mq : wq.heap[q]? = some (.cells #[.string id, .int .i32 rep, .int .i64 ttl, .int .u64 bd, .int .u64 vc] 51 (0, 0)) := by rw [hwq, hq]; exact (MapKept.heap_alloc wr _).1
        have hcq : ∀ o, wq.cell? ⟨q, o, none⟩ = _ := fun o => cell_of_row wq q o _ 51 (0, 0) mq
        have x0 : wq.cell? ⟨q, 0, none⟩ = some (.string id) := hcq 0
        have x1 : wq.cell? ⟨q, 1, none⟩ = some (.int .i32 rep) := hcq 1
        have x2 : wq.cell? ⟨q, 2, none⟩ = some (.int .i64 ttl) := hcq 2
        have x3 : wq.cell? ⟨q, 3, none⟩ = some (.int .u64 bd) := hcq 3
        have x4 : wq.cell? ⟨q, 4, none⟩ = some (.int .u64 vc) := hcq 4
        have HX : Hid (Inv w wq G B n owed buf sn rs clock ∧ G.g5 < q ∧ q < wq.heap.size) := by
          refine ⟨HI.out.new ?_, ?_, ?_⟩
          · rw [hwq]; exact (Chg.refl _ _).alloc _
          · rw [hq]; exact HI.out.size
          · rw [hwq, hq]; simp
        clear hcq mq hwq hq HI
        have hS4 : wq.cell? ⟨S, 4, none⟩ = some (.map (some (B + 1))) := HSS.out ▸ HX.out.1.st.c4
        have hqlt : q < wq.heap.size := HX.out.2.2
        have hdec : Decidable (∃ y ∈ rs, id.toList = y.e.id.toList) := Classical.propDecidable _
        go_cut [84] (fun u84 wd => u84 = .bool (decide (∃ y ∈ rs, id.toList = y.e.id.toList)) ∧ Chg wq wd [])
        case first =>
          as_aux_lemma =>
            rename_i J K' hJ hK; have hK2 : ∀ a' w', J a' w' → K' a' w' := fun a' w' h => hK a' w' (Met.intro h); have HJ : Hid _ := hJ; clear hK hJ; go_light
            by_cases hex : ∃ y ∈ rs, id.toList = y.e.id.toList
            · have HE : Hid (∃ y ∈ rs, id.toList = y.e.id.toList) := hex
              obtain ⟨j, e', hle⟩ := look_ex (es := rs.map Rec.e) 0 (k := id) (by obtain ⟨y, hy, hk⟩ := hex; exact ⟨y.e, List.mem_map_of_mem hy, hk⟩)
              have hlk : ∀ j, (Instr.lookup 28 (.map (some (B + 1))) (.string id) false).run Ybaf.prog (wq.drewN j) = .ok (.pointer (some ⟨e'.blk, 0, none⟩)) (wq.drewN j) := fun j => by
                have := run_lookup (w := wq.drewN j) HX.out.1.map id
                rw [hle] at this
                exact this
              clear hle hex
              go_quiet (fail)
              (refine hK2 _ _ (HJ.out _ _ ?_); (repeat apply Exists.intro); refine ⟨?rel, rfl⟩)
              case rel => exact ⟨congrArg Value.bool (decide_eq_true HE.out).symm, rfl, rfl, rfl, Nat.le_refl _, fun _ _ _ => rfl⟩
            · have HE : Hid (¬ ∃ y ∈ rs, id.toList = y.e.id.toList) := hex
              have hlk : ∀ j, (Instr.lookup 28 (.map (some (B + 1))) (.string id) false).run Ybaf.prog (wq.drewN j) = .ok (.pointer none) (wq.drewN j) := fun j => by
                have := run_lookup (w := wq.drewN j) HX.out.1.map id
                rw [look_none 0 (by intro e he; obtain ⟨y, hy, rfl⟩ := List.mem_map.1 he; exact fun h => hex ⟨y, hy, h⟩)] at this
                exact this
              clear hex
              go_quiet (fail)
              (refine hK2 _ _ (HJ.out _ _ ?_); (repeat apply Exists.intro); refine ⟨?rel, rfl⟩)
              case rel => exact ⟨congrArg Value.bool (decide_eq_false HE.out).symm, rfl, rfl, rfl, Nat.le_refl _, fun _ _ _ => rfl⟩
        case rest =>
          obtain ⟨rfl, hdd⟩ := hcut
          have HX2 : Hid (Inv w wc G B n owed buf sn rs clock ∧ G.g5 < q ∧ q < wc.heap.size) := ⟨HX.out.1.new hdd, HX.out.2.1, Nat.lt_of_lt_of_le HX.out.2.2 hdd.size⟩
          have hcq : ∀ o, wc.cell? ⟨q, o, none⟩ = wq.cell? ⟨q, o, none⟩ := fun o => World.cell?_of_block (w := wq) (hdd.block q hqlt (by simp))
          replace x0 := (hcq 0).trans x0
          replace x1 := (hcq 1).trans x1
          replace x2 := (hcq 2).trans x2
          replace x3 := (hcq 3).trans x3
          replace x4 := (hcq 4).trans x4
          clear hcq hdd HX hS4 hqlt
          clear wq
          generalize wc = wd at x0 x1 x2 x3 x4 HX2 ⊢
          by_cases hex : ∃ y ∈ rs, id.toList = y.e.id.toList
          · rw [decide_eq_true hex]
            clear hex hdec x0 x1 x2 x3 x4
            go_wp2
            go_roundg (n - (i + 1))
            case measure => go_light; omega
            case rel => go_light; exact ⟨i + 1, rs, clock, rfl, by omega, by omega, by go_num, rfl, rfl, rfl, rfl, rfl, HX2.out.1⟩
          · rw [decide_eq_false hex]
            have HN : Hid (∀ y ∈ rs, id.toList ≠ y.e.id.toList) := fun y hy h => hex ⟨y, hy, h⟩
            clear hex hdec
            go_upto_region 17 with fail
            have HADD : Hid _ := added rep wd hr1 hr2
            have hqlt : q < wd.heap.size := HX2.out.2.2
            have hBlt : B < wd.heap.size := by have := HX2.out.1.size; have := HX2.out.1.ok; unfold Gs.ok at this; omega
            go_cut [22] (fun u22 wz => ∃ p, u22 = .pointer (some ⟨p, 0, none⟩) ∧ Made wd wz p id rep ttl bd vc)
            case first =>
              rename_i J K' hJ hK; have hK2 : ∀ a' w', J a' w' → K' a' w' := fun a' w' h => hK a' w' (Met.intro h); have HJ : Hid _ := hJ; clear hK hJ; go_light
              have y0 : wd.cell? ⟨B, 0, none⟩ = some (.int .u64 0) := cell_of_row wd B 0 _ 26 (0, 0) HX2.out.1.bb
              have y1 : wd.cell? ⟨B, 1, none⟩ = some (.int .i64 0) := cell_of_row wd B 1 _ 26 (0, 0) HX2.out.1.bb
              have y2 : wd.cell? ⟨B, 2, none⟩ = some (.pointer none) := cell_of_row wd B 2 _ 26 (0, 0) HX2.out.1.bb
              have hmm := mk_map
              have hwr : IntKind.i64.wrap rep = rep := wrap_rep hr1 hr2
              clear HX2 HN HIN HA HB HSS HBU i9 z9 s9 b9 i52 z52 s52 b52 i2 z2 s2 b2 i23 z23 s23 b23
              go_region_held3 (fun w' => w'.cell? ⟨q, 0, none⟩ = some (.string id) ∧ w'.cell? ⟨q, 1, none⟩ = some (.int .i32 rep) ∧ w'.cell? ⟨q, 2, none⟩ = some (.int .i64 ttl) ∧ w'.cell? ⟨q, 3, none⟩ = some (.int .u64 bd) ∧ w'.cell? ⟨q, 4, none⟩ = some (.int .u64 vc) ∧ w'.cell? ⟨B, 0, none⟩ = some (.int .u64 0) ∧ w'.cell? ⟨B, 1, none⟩ = some (.int .i64 0) ∧ w'.cell? ⟨B, 2, none⟩ = some (.pointer none)) (go_keep)
                (first | (go_at_call 5; refine (HADD.out _ (by first | exact (Below.refl _ _).drew | exact (Below.refl _ _).drew.alloc (Nat.le_refl _) _)).mono ?_; rintro e wx ⟨rfl, hbx⟩; have e0 := (hbx.cell (p := ⟨q, 0, none⟩) hqlt).trans x0; have e1 := (hbx.cell (p := ⟨q, 1, none⟩) hqlt).trans x1; have e2 := (hbx.cell (p := ⟨q, 2, none⟩) hqlt).trans x2; have e3 := (hbx.cell (p := ⟨q, 3, none⟩) hqlt).trans x3; have e4 := (hbx.cell (p := ⟨q, 4, none⟩) hqlt).trans x4; have e5 := (hbx.cell (p := ⟨B, 0, none⟩) hBlt).trans y0; have e6 := (hbx.cell (p := ⟨B, 1, none⟩) hBlt).trans y1; have e7 := (hbx.cell (p := ⟨B, 2, none⟩) hBlt).trans y2))
              all_goals (refine hK2 _ _ (HJ.out _ _ ?_); (repeat apply Exists.intro); refine ⟨?_, rfl⟩)
              all_goals (first | with_reducible exact made_old _ hbx | with_reducible exact made_new hbx)
            case rest =>
              as_aux_lemma =>
                obtain ⟨p, rfl, hM⟩ := hcut
                generalize wc = w1 at hM ⊢
                have hcq : ∀ o, w1.cell? ⟨q, o, none⟩ = wd.cell? ⟨q, o, none⟩ := fun o => World.cell?_of_block (w := wd) (hM.chg.block q hqlt (by simp))
                replace x0 := (hcq 0).trans x0
                replace x1 := (hcq 1).trans x1
                replace x2 := (hcq 2).trans x2
                replace x3 := (hcq 3).trans x3
                replace x4 := (hcq 4).trans x4
                have HI1 : Hid (Inv w w1 G B n owed buf sn rs clock) := HX2.out.1.new hM.chg
                have HM : Hid (Made wd w1 p id rep ttl bd vc) := hM
                clear hcq hM HADD
                have hqm : q ≠ B + 1 := by have := HX2.out.2.1; have := HX2.out.1.ok; unfold Gs.ok at this; omega
                have hSm : S ≠ B + 1 := by have := HSS.out; omega
                obtain ⟨wu, hwu⟩ : ∃ wu, wu = setBlock w1.drew (B + 1) (obj (rs.map Rec.e ++ [⟨id, p, clock⟩]) (clock + 1)) := ⟨_, rfl⟩
                have hup : (Instr.mapUpdate 28 (.map (some (B + 1))) (.string id) (.pointer (some ⟨p, 0, none⟩))).run Ybaf.prog w1.drew = .ok () wu := by
                  rw [hwu]; exact run_update (w := w1.drew) HI1.out.map id p (look_none 0 (by intro e he; obtain ⟨y, hy, rfl⟩ := List.mem_map.1 he; exact HN.out y hy))
                have HCU : Hid (Chg w1 wu [B + 1] ∧ wu.heap[B + 1]? = some (obj (rs.map Rec.e ++ [⟨id, p, clock⟩]) (clock + 1))) := by
                  rw [hwu]; exact ⟨(Chg.refl w1 []).drew.trans (Chg.of_set w1.drew _ _), heap_setBlock_same (w := w1.drew) HI1.out.map _⟩
                have hqc : q < w1.heap.size := Nat.lt_of_lt_of_le hqlt HM.out.chg.size
                have hSc : S < w1.heap.size := by have := HSS.out; have := HI1.out.size; have := HI1.out.ok; unfold Gs.ok at this; omega
                have hcu : ∀ o, wu.cell? ⟨q, o, none⟩ = w1.cell? ⟨q, o, none⟩ := fun o => World.cell?_of_block (w := w1) (HCU.out.1.block q hqc (by simp [hqm]))
                have v0 := (hcu 0).trans x0
                have v1 := (hcu 1).trans x1
                have v2 := (hcu 2).trans x2
                have v3 := (hcu 3).trans x3
                have v4 := (hcu 4).trans x4
                have s4 : w1.cell? ⟨S, 4, none⟩ = some (.map (some (B + 1))) := HSS.out ▸ HI1.out.st.c4
                have s4u : wu.cell? ⟨S, 4, none⟩ = some (.map (some (B + 1))) := (World.cell?_of_block (w := w1) (HCU.out.1.block S hSc (by simp [hSm]))).trans s4
                clear hcu hwu hqm hSm
                go_upto_region 18 with fail
                go_cut [] (fun wz => wz = wu)
                case first =>
                  as_aux_lemma =>
                    rename_i J K' hJ hK; have hK2 : ∀ a' w', J a' w' → K' a' w' := fun a' w' h => hK a' w' (Met.intro h); have HJ : Hid _ := hJ; clear hK hJ; go_light
                    clear HX2 HN HIN HA HB HSS HBU i9 z9 s9 b9 i52 z52 s52 b52 i2 z2 s2 b2 i23 z23 s23 b23 x1 x2 x3 x4 v1 v2 v3 v4
                    go_region_held3 (fun w' => w'.cell? ⟨q, 0, none⟩ = some (.string id) ∧ w'.cell? ⟨S, 4, none⟩ = some (.map (some (B + 1)))) (go_keep) (fail)
                    all_goals (refine hK2 _ _ (HJ.out _ _ ?_); (repeat apply Exists.intro); refine ⟨?_, rfl⟩)
                    all_goals rfl
                case rest =>
                  as_aux_lemma =>
                    rw [hcut]
                    clear hcut wc
                    have hroom : rs.length + 1 ≤ n := by go_light; omega
                    have hwr : IntKind.i64.wrap rep = rep := wrap_rep hr1 hr2
                    have l0 : q < wu.heap.size := Nat.lt_of_lt_of_le hqc HCU.out.1.size
                    have z00 := v0
                    have z01 := v1
                    have z02 := v2
                    have z03 := v3
                    have z04 := v4
                    clear x0 x1 x2 x3 x4 s4 s4u hup v0 v1 v2 v3 v4
                    go_wp2_with (at_builtin; refine wpList_append_fits _ rfl (.tmp 108) (.tmp 111) 46 rfl B 9 t9 1 Ybaf.underlying46 i9 s9 G.g1 rs.length n _ rfl ((rowAt1 HI1.out (HCU.out.1)).alloc _) ⟨wu.heap.size, 0, none⟩ 1 1 [.string id] rfl rfl (one_new wu _ _) (by simp [Value.oneCell']) hroom ?_)
                    intro w3 o1 c1
                    have A1 : Hid (Chg wu w3 [G.g1] ∧ row w3 B 9 G.g1 (rs.length + 1) n (rs.map (fun x => .string x.e.id) ++ [.string id])) := ⟨((Chg.refl wu []).alloc _).trans (Chg.of_grown c1), o1⟩
                    have l1 : q < w3.heap.size := Nat.lt_of_lt_of_le l0 A1.out.1.size
                    have z10 := (past HX2.out.2.1 l0 A1.out.1 (g1 HI1.out.ok) 0).trans z00
                    have z11 := (past HX2.out.2.1 l0 A1.out.1 (g1 HI1.out.ok) 1).trans z01
                    have z12 := (past HX2.out.2.1 l0 A1.out.1 (g1 HI1.out.ok) 2).trans z02
                    have z13 := (past HX2.out.2.1 l0 A1.out.1 (g1 HI1.out.ok) 3).trans z03
                    have z14 := (past HX2.out.2.1 l0 A1.out.1 (g1 HI1.out.ok) 4).trans z04
                    clear o1 c1 z00 z01 z02 z03 z04
                    go_wp2_with (at_builtin; refine wpList_append_fits _ rfl (.tmp 113) (.tmp 115) 47 rfl B 52 t52 1 Ybaf.underlying47 i52 s52 G.g2 rs.length n _ rfl ((rowAt2 HI1.out (HCU.out.1.trans A1.out.1)).alloc _) ⟨w3.heap.size, 0, none⟩ 1 1 [ptr ⟨id, p, clock⟩] rfl rfl (one_new w3 _ _) (by simp [ptr, Value.oneCell']) hroom ?_)
                    intro w4 o2 c2
                    have A2 : Hid (Chg w3 w4 [G.g2] ∧ row w4 B 52 G.g2 (rs.length + 1) n (rs.map (fun x => ptr x.e) ++ [ptr ⟨id, p, clock⟩])) := ⟨((Chg.refl w3 []).alloc _).trans (Chg.of_grown c2), o2⟩
                    have l2 : q < w4.heap.size := Nat.lt_of_lt_of_le l1 A2.out.1.size
                    have z20 := (past HX2.out.2.1 l1 A2.out.1 (g2 HI1.out.ok) 0).trans z10
                    have z21 := (past HX2.out.2.1 l1 A2.out.1 (g2 HI1.out.ok) 1).trans z11
                    have z22 := (past HX2.out.2.1 l1 A2.out.1 (g2 HI1.out.ok) 2).trans z12
                    have z23 := (past HX2.out.2.1 l1 A2.out.1 (g2 HI1.out.ok) 3).trans z13
                    have z24 := (past HX2.out.2.1 l1 A2.out.1 (g2 HI1.out.ok) 4).trans z14
                    clear o2 c2 z10 z11 z12 z13 z14
                    go_wp2_with (at_builtin; refine wpList_append_fits _ rfl (.tmp 117) (.tmp 121) 48 rfl B 2 t2 1 Ybaf.underlying48 i2 s2 G.g3 rs.length n _ rfl ((rowAt3 HI1.out ((HCU.out.1.trans A1.out.1).trans A2.out.1)).alloc _) ⟨w4.heap.size, 0, none⟩ 1 1 [.int .i64 rep] rfl rfl (one_new w4 _ _) (by simp [Value.oneCell']) hroom ?_)
                    intro w5 o3 c3
                    have A3 : Hid (Chg w4 w5 [G.g3] ∧ row w5 B 2 G.g3 (rs.length + 1) n (rs.map (fun x => .int .i64 x.rep) ++ [.int .i64 rep])) := ⟨((Chg.refl w4 []).alloc _).trans (Chg.of_grown c3), o3⟩
                    have l3 : q < w5.heap.size := Nat.lt_of_lt_of_le l2 A3.out.1.size
                    have z30 := (past HX2.out.2.1 l2 A3.out.1 (g3 HI1.out.ok) 0).trans z20
                    have z31 := (past HX2.out.2.1 l2 A3.out.1 (g3 HI1.out.ok) 1).trans z21
                    have z32 := (past HX2.out.2.1 l2 A3.out.1 (g3 HI1.out.ok) 2).trans z22
                    have z33 := (past HX2.out.2.1 l2 A3.out.1 (g3 HI1.out.ok) 3).trans z23
                    have z34 := (past HX2.out.2.1 l2 A3.out.1 (g3 HI1.out.ok) 4).trans z24
                    clear o3 c3 z20 z21 z22 z23 z24
                    go_wp2_with (at_builtin; refine wpList_append_fits _ rfl (.tmp 123) (.tmp 126) 48 rfl B 2 t2 1 Ybaf.underlying48 i2 s2 G.g4 rs.length n _ rfl ((rowAt4 HI1.out (((HCU.out.1.trans A1.out.1).trans A2.out.1).trans A3.out.1)).alloc _) ⟨w5.heap.size, 0, none⟩ 1 1 [.int .i64 ttl] rfl rfl (one_new w5 _ _) (by simp [Value.oneCell']) hroom ?_)
                    intro w6 o4 c4
                    have A4 : Hid (Chg w5 w6 [G.g4] ∧ row w6 B 2 G.g4 (rs.length + 1) n (rs.map (fun x => .int .i64 x.ttl) ++ [.int .i64 ttl])) := ⟨((Chg.refl w5 []).alloc _).trans (Chg.of_grown c4), o4⟩
                    have l4 : q < w6.heap.size := Nat.lt_of_lt_of_le l3 A4.out.1.size
                    have z40 := (past HX2.out.2.1 l3 A4.out.1 (g4 HI1.out.ok) 0).trans z30
                    have z41 := (past HX2.out.2.1 l3 A4.out.1 (g4 HI1.out.ok) 1).trans z31
                    have z42 := (past HX2.out.2.1 l3 A4.out.1 (g4 HI1.out.ok) 2).trans z32
                    have z43 := (past HX2.out.2.1 l3 A4.out.1 (g4 HI1.out.ok) 3).trans z33
                    have z44 := (past HX2.out.2.1 l3 A4.out.1 (g4 HI1.out.ok) 4).trans z34
                    clear o4 c4 z30 z31 z32 z33 z34
                    go_upto_if 133 with fail
                    go_cut [23] (fun u23 wz => u23 = .int .u64 (lim bd vc) ∧ wz = w6)
                    case first =>
                      as_aux_lemma =>
                        by_cases hv : bd < vc
                        · have hlm : lim bd vc = vc := by simp [lim, hv]
                          go_wp2
                          go_meet
                          case rel => exact ⟨by rw [hlm], rfl⟩
                        · have hlm : lim bd vc = bd := by simp [lim, hv]
                          go_wp2
                          go_meet
                          case rel => exact ⟨by rw [hlm], rfl⟩
                    case rest =>
                      as_aux_lemma =>
                        obtain ⟨rfl, hcw⟩ := hcut
                        rw [hcw]
                        clear hcw wc
                        go_wp2_with (at_builtin; refine wpList_append_fits _ rfl (.tmp 136) (.tmp 138) 49 rfl B 23 t23 1 Ybaf.underlying49 i23 s23 G.g5 rs.length n _ rfl ((rowAt5 HI1.out ((((HCU.out.1.trans A1.out.1).trans A2.out.1).trans A3.out.1).trans A4.out.1)).alloc _) ⟨w6.heap.size, 0, none⟩ 1 1 [.int .u64 (lim bd vc)] rfl rfl (one_new w6 _ _) (by simp [Value.oneCell']) hroom ?_)
                        intro w7 o5 c5
                        have A5 : Hid (Chg w6 w7 [G.g5] ∧ row w7 B 23 G.g5 (rs.length + 1) n (rs.map (fun x => .int .u64 x.lm) ++ [.int .u64 (lim bd vc)])) := ⟨((Chg.refl w6 []).alloc _).trans (Chg.of_grown c5), o5⟩
                        have l5 : q < w7.heap.size := Nat.lt_of_lt_of_le l4 A5.out.1.size
                        have z50 := (past HX2.out.2.1 l4 A5.out.1 (g5 HI1.out.ok) 0).trans z40
                        have z51 := (past HX2.out.2.1 l4 A5.out.1 (g5 HI1.out.ok) 1).trans z41
                        have z52 := (past HX2.out.2.1 l4 A5.out.1 (g5 HI1.out.ok) 2).trans z42
                        have z53 := (past HX2.out.2.1 l4 A5.out.1 (g5 HI1.out.ok) 3).trans z43
                        have z54 := (past HX2.out.2.1 l4 A5.out.1 (g5 HI1.out.ok) 4).trans z44
                        clear o5 c5 z40 z41 z42 z43 z44
                        go_wp2
                        go_roundg (n - (i + 1))
                        case measure => go_light; omega
                        case rel =>
                          go_light
                          have HF := HX2.out.1.next (x := ⟨⟨id, p, clock⟩, rep, ttl, bd, vc⟩) HM.out.chg HM.out.new HM.out.sess rfl HN.out hr1 hr2 HCU.out.1 HCU.out.2 A1.out.1 A1.out.2 A2.out.1 A2.out.2 A3.out.1 A3.out.2 A4.out.1 A4.out.2 A5.out.1 A5.out.2
                          have hlen : (rs ++ [(⟨⟨id, p, clock⟩, rep, ttl, bd, vc⟩ : Rec)]).length = rs.length + 1 := by simp
                          exact ⟨i + 1, rs ++ [⟨⟨id, p, clock⟩, rep, ttl, bd, vc⟩], clock + 1, rfl, by omega, by rw [hlen]; omega, by go_num, by rw [hlen], by rw [hlen], by rw [hlen], by rw [hlen], by rw [hlen], HF⟩
      · as_aux_lemma =>
          have hlt' : ¬ ((i : Nat) : Int) < n := by omega
          clear hlt HIN
          obtain ⟨c, hc⟩ : ∃ c, rs.length = c := ⟨_, rfl⟩
          have HL : Hid (rs.length = c) := hc
          have hcn : c ≤ 1024 := by omega
          rw [hc]
          clear hc hri
          go_upto_region 29 with fail
          go_cut [148] (fun u148 wz => u148 = .bool (!useT && decide (0 < c)) ∧ wz = wr)
          case first =>
            as_aux_lemma =>
              rename_i J K' hJ hK; have hK2 : ∀ a' w', J a' w' → K' a' w' := fun a' w' h => hK a' w' (Met.intro h); have HJ : Hid _ := hJ; clear hK hJ; go_light
              cases useT
              · go_wp2
                (refine HJ.out _ _ ?_; (repeat apply Exists.intro); refine ⟨?_, rfl⟩)
                exact ⟨by simp, rfl⟩
              · go_wp2
                (refine HJ.out _ _ ?_; (repeat apply Exists.intro); refine ⟨?_, rfl⟩)
                exact ⟨by simp, rfl⟩
          case rest =>
            as_aux_lemma =>
              obtain ⟨rfl, hw⟩ := hcut
              rw [hw]
              clear hw wc
              go_upto_if 148 with fail
              obtain ⟨b, hb⟩ : ∃ b, (!useT && decide (0 < c)) = b := ⟨_, rfl⟩
              rw [hb]
              go_cut [24] (fun u24 wz => (∃ id, u24 = .string id) ∧ wz = wr)
              case first =>
                as_aux_lemma =>
                  rename_i J K' hJ hK; have hK2 : ∀ a' w', J a' w' → K' a' w' := fun a' w' h => hK a' w' (Met.intro h); have HJ : Hid _ := hJ; clear hK hJ; go_light
                  cases b
                  · go_wp2
                    (refine HJ.out _ _ ?_; (repeat apply Exists.intro); refine ⟨?_, rfl⟩)
                    exact ⟨⟨_, rfl⟩, rfl⟩
                  · have hc0 : 0 < c := by simp at hb; omega
                    have hcc : ((c : Int) == 0) = false := by rw [beq_eq_false_iff_ne]; omega
                    obtain ⟨k, hk⟩ : ∃ k : Nat, Int.tmod pick c = k := Int.eq_ofNat_of_zero_le (Int.tmod_nonneg _ hp1)
                    have hk1 : (k : Int) < c := by rw [← hk]; exact Int.tmod_lt_of_pos _ (by omega)
                    have hk0 : (0 : Int) ≤ k := by omega
                    have ck : ∃ id, wr.cell? ⟨G.g1, k, none⟩ = some (.string id) := by
                      have hkl : k < rs.length := by rw [HL.out]; omega
                      exact ⟨rs[k].e.id, by rw [HI.out.r1.cellAt k (by omega)]; simp [hkl]⟩
                    obtain ⟨id, hid⟩ := ck
                    go_wp2
                    (refine HJ.out _ _ ?_; (repeat apply Exists.intro); refine ⟨?_, rfl⟩)
                    exact ⟨⟨_, rfl⟩, rfl⟩
              case rest =>
                as_aux_lemma =>
                  obtain ⟨⟨id, rfl⟩, hw⟩ := hcut
                  rw [hw]
                  clear hw wc hb b hlt'
                  go_wp2_with fail
                  go_loopg [25, 159] c (fun gk u25 u159 wz => ∃ (k : Nat) (z : Int), gk = c - k ∧ k ≤ c ∧ u159 = .int .i64 k ∧ u25 = .int .i64 z ∧ wz = wr ∧ SeekIs rs id k z)
                  case atStart => go_light; exact ⟨0, -1, rfl, Nat.zero_le _, rfl, rfl, rfl, .inl ⟨rfl, fun j x hj => by omega⟩⟩
                  case round =>
                    obtain ⟨k, z, rfl, hk, rfl, rfl, hw, hfd⟩ := hrel
                    have HF : Hid (SeekIs rs id k z) := hfd
                    clear hfd
                    rename_i wz
                    subst hw
                    by_cases hkc : k < c
                    · have hkl : k < rs.length := by rw [HL.out]; exact hkc
                      have k0 : (0 : Int) ≤ k := Int.natCast_nonneg k
                      have k1 : (k : Int) < c := by exact_mod_cast hkc
                      have ck : wr.cell? ⟨G.g1, k, none⟩ = some (.string rs[k].e.id) := by rw [HI.out.r1.cellAt k (by go_light; omega)]; simp [hkl]
                      obtain ⟨x, hx⟩ : ∃ x, rs[k]? = some x := ⟨_, List.getElem?_eq_getElem hkl⟩
                      have hxe : rs[k] = x := by rw [List.getElem?_eq_getElem hkl] at hx; exact Option.some.inj hx
                      rw [hxe] at ck
                      have HXX : Hid (rs[k]? = some x) := hx
                      clear hxe hx hkl
                      by_cases he : x.e.id.toList = id.toList
                      · have hbe : (x.e.id.toList == id.toList) = true := by simp [he]
                        have HE : Hid (x.e.id.toList = id.toList) := he
                        clear he
                        go_wp2
                        go_roundg (c - (k + 1))
                        case measure => go_light; omega
                        case rel => go_light; exact ⟨k + 1, k, rfl, by omega, by go_num, rfl, rfl, SeekIs.hit HXX.out HE.out⟩
                      · have hbe : (x.e.id.toList == id.toList) = false := by simp [he]
                        have HE : Hid (x.e.id.toList ≠ id.toList) := he
                        clear he
                        go_wp2
                        go_roundg (c - (k + 1))
                        case measure => go_light; omega
                        case rel => go_light; exact ⟨k + 1, z, rfl, by omega, by go_num, rfl, rfl, HF.out.miss HXX.out HE.out⟩
                    · have hkc' : ¬ (k : Int) < c := by omega
                      have hke : k = rs.length := by rw [HL.out]; omega
                      have HF2 : Hid (SeekIs rs id rs.length z) := hke ▸ HF.out
                      clear HF hke hkc
                      go_upto_region 38 with fail
                      have hdec2 : Decidable (LiveIs rs z) := Classical.propDecidable _
                      go_cut [27] (fun u27 wz => u27 = .bool (decide (LiveIs rs z)) ∧ Chg wr wz [])
                      case first =>
                        as_aux_lemma =>
                          rename_i J K' hJ hK; have hK2 : ∀ a' w', J a' w' → K' a' w' := fun a' w' h => hK a' w' (Met.intro h); have HJ : Hid _ := hJ; clear hK hJ; go_light
                          rcases HF2.out with ⟨rfl, _⟩ | ⟨j, x, rfl, hj, hx, _⟩
                          · go_quiet (fail)
                            (refine hK2 _ _ (HJ.out _ _ ?_); (repeat apply Exists.intro); refine ⟨?_, rfl⟩)
                            refine ⟨congrArg Value.bool (decide_eq_false ?_).symm, rfl, rfl, rfl, Nat.le_refl _, fun _ _ _ => rfl⟩
                            rintro ⟨j, x, h, _⟩
                            omega
                          · have hxe : rs[j] = x := (List.getElem?_eq_some_iff.1 hx).2
                            have j0 : (0 : Int) ≤ j := Int.natCast_nonneg j
                            have j1 : (j : Int) < c := by rw [← HL.out]; exact_mod_cast hj
                            have c3 : wr.cell? ⟨G.g3, j, none⟩ = some (.int .i64 x.rep) := by rw [HI.out.r3.cellAt j (by omega)]; simp [hj, hxe]
                            have c4 : wr.cell? ⟨G.g4, j, none⟩ = some (.int .i64 x.ttl) := by rw [HI.out.r4.cellAt j (by omega)]; simp [hj, hxe]
                            have hr := HI.out.reps x (List.mem_of_getElem? hx)
                            have hwn : IntKind.i64.wrap (-x.rep) = -x.rep := by rw [IntKind.wrap_i64]; omega
                            have hd : LiveIs rs (j : Int) ↔ ¬ x.ttl < -x.rep := by
                              constructor
                              · rintro ⟨j', x', e, hx', hn⟩
                                obtain rfl : j = j' := by omega
                                rw [hx] at hx'; cases hx'; exact hn
                              · exact fun hn => ⟨j, x, rfl, hx, hn⟩
                            have HD : Hid (LiveIs rs (j : Int) ↔ ¬ x.ttl < -x.rep) := hd
                            have jd : decide ((j : Int) ≥ 0) = true := by simp
                            clear hd hr hx hxe hj
                            go_quiet (fail)
                            (refine hK2 _ _ (HJ.out _ _ ?_); (repeat apply Exists.intro); refine ⟨?_, rfl⟩)
                            refine ⟨?_, rfl, rfl, rfl, Nat.le_refl _, fun _ _ _ => rfl⟩
                            by_cases ht : x.ttl < -x.rep
                            · rw [decide_eq_true ht, decide_eq_false (fun h => HD.out.1 h ht)]; rfl
                            · rw [decide_eq_false ht, decide_eq_true (HD.out.2 ht)]; rfl
                      case rest =>
                        as_aux_lemma =>
                          obtain ⟨rfl, hdd⟩ := hcut
                          generalize wc = W2 at hdd ⊢
                          have HI2 : Hid (Inv w W2 G B n owed buf sn rs clock) := HI.out.new hdd
                          clear hdd HI
                          by_cases hop : LiveIs rs z
                          · rw [decide_eq_true hop]
                            obtain ⟨j, x, hz, hx, hnx⟩ := hop
                            have he : x.e.id.toList = id.toList := by
                              rcases HF2.out with ⟨hz2, _⟩ | ⟨j', x', hz2, _, hx', he'⟩
                              · omega
                              · obtain rfl : j = j' := by omega
                                rw [hx] at hx'; cases hx'; exact he'
                            have hjl := (List.getElem?_eq_some_iff.1 hx).1
                            have hjx := (List.getElem?_eq_some_iff.1 hx).2
                            subst hz
                            obtain ⟨kk, hkk⟩ := Open.due rs j owed buf.size
                            obtain ⟨es, hes⟩ : ∃ es, es = (rs.take j ++ rs.drop (j + 1)).map Rec.e := ⟨_, rfl⟩
                            have HE : Hid (Calls Ybaf.prog 6 #[.pointer (some ⟨S, 0, none⟩), .string id] W2 fun e w' => e = .returned (.tuple #[.pointer (some ⟨x.e.blk, 0, none⟩), .nilIface]) ∧ After w w' G B n a rs es clock kk) := by
                              rw [← HSS.out, hes]
                              refine (end_yes HI2.out (by rw [HBU.out]; cases full <;> simp) hx he hnx kk hkk).mono ?_
                              rintro e w' ⟨he, hE⟩
                              exact ⟨he, after HI2.out HB.out HA.out.2.1 hE⟩
                            have HNO : Hid (Map.look id es 0 = none) := by rw [hes]; exact Open.no_look HI2.out.ids hx he
                            have HLEN : Hid (es.length + 1 = c) := by rw [← HL.out, hes]; exact rest_length hx
                            have HLK : Hid (∀ (i : Nat) (y : Rec), rs[i]? = some y → i ≠ j → ∃ i', Map.look y.e.id es 0 = some (i', ptr y.e)) := by
                              intro i y hy hne
                              rw [hes]
                              exact look_in (rest_nodup HI2.out.ids hx) (rest_mem hy hne)
                            have HDU : Hid (Open.Due rs j owed buf.size kk) := hkk
                            have j0 : (0 : Int) ≤ j := Int.natCast_nonneg j
                            have j1 : (j : Int) < c := by rw [← HL.out]; exact_mod_cast hjl
                            have HDJ : Hid (∀ W', After w W' G B n a rs es clock kk → W'.cell? ⟨G.g2, j, none⟩ = some (.pointer (some ⟨x.e.blk, 0, none⟩))) := by
                              intro W' hW'
                              rw [hW'.r2.cellAt j (by omega)]; simp [hjl, hjx, ptr]
                            obtain ⟨blk, hblk⟩ : ∃ blk, x.e.blk = blk := ⟨_, rfl⟩
                            rw [hblk] at HE HDJ
                            have hpp := neq_same
                            have hcw : IntKind.i64.wrap ((c : Int) - 1) = (c : Int) - 1 := by rw [IntKind.wrap_i64]; omega
                            clear hdec2 HI2 HF2 hx hnx he hjl hjx hkk hes hblk x
                            go_wp2_with (first
                              | (go_at_call 6; refine HE.out.mono ?_; rintro e W3 ⟨rfl, hAf⟩; have s4 : W3.cell? ⟨S, 4, none⟩ = some (.map (some (B + 1))) := HSS.out ▸ hAf.s4; have dj := HDJ.out W3 hAf; have hlen : ∀ ty, (Builtin.len_ #[28] ty #[.map (some (B + 1))]).run Ybaf.prog W3 = .ok (.int .i64 ((c : Int) - 1)) W3 := (fun ty => by have := run_len hAf.map ty; rw [show ((es.length : Nat) : Int) = (c : Int) - 1 by have := HLEN.out; omega] at this; exact this); have hlo : (Instr.lookup 28 (.map (some (B + 1))) (.string id) true).run Ybaf.prog W3 = .ok (.tuple #[.pointer none, .bool false]) W3 := run_lookup_ok hAf.map id HNO.out; have HAf : Hid (After w W3 G B n a rs es clock kk) := hAf; clear hAf))
                            go_loopg [34, 272] c (fun gk u34 u272 wz => ∃ (k : Nat) (b : Bool), gk = c - k ∧ k ≤ c ∧ u272 = .int .i64 k ∧ u34 = .bool b ∧ Open.AllIs rs j owed k b ∧ After w wz G B n a rs es clock kk)
                            case atStart => exact ⟨0, true, rfl, Nat.zero_le _, rfl, rfl, Open.AllIs.zero, HAf.out⟩
                            case round =>
                              obtain ⟨k, b, rfl, hk, rfl, rfl, hall, hA3⟩ := hrel
                              have HALL : Hid (Open.AllIs rs j owed k b) := hall
                              have HA3 : Hid (After w wr G B n a rs es clock kk) := hA3
                              have s4 : wr.cell? ⟨S, 4, none⟩ = some (.map (some (B + 1))) := HSS.out ▸ hA3.s4
                              have s9 : wr.cell? ⟨S, 9, none⟩ = some (.chan (some (B + 2))) := HSS.out ▸ hA3.s9
                              clear hA3 HAf hall
                              by_cases hkc : k < c
                              · by_cases hkj : k = j
                                · have hkj2 : ((k : Int) == (j : Int)) = true := by simp [hkj]
                                  have HKJ : Hid (Open.AllIs rs j owed (k + 1) b) := by have := HALL.out; rw [hkj] at this ⊢; exact this.skip
                                  have k1 : (k : Int) < c := by exact_mod_cast hkc
                                  clear hkj
                                  go_wp2
                                  go_roundg (c - (k + 1))
                                  case measure => go_light; omega
                                  case rel => go_light; exact ⟨k + 1, b, rfl, by omega, by go_num, rfl, HKJ.out, HA3.out⟩
                                · have hkj2 : ((k : Int) == (j : Int)) = false := by simp; omega
                                  have hkl : k < rs.length := by rw [HL.out]; exact hkc
                                  have k0 : (0 : Int) ≤ k := Int.natCast_nonneg k
                                  have k1 : (k : Int) < c := by exact_mod_cast hkc
                                  obtain ⟨y, hy⟩ : ∃ y, rs[k]? = some y := ⟨_, List.getElem?_eq_getElem hkl⟩
                                  have hye : rs[k] = y := (List.getElem?_eq_some_iff.1 hy).2
                                  have d1 : wr.cell? ⟨G.g1, k, none⟩ = some (.string y.e.id) := by rw [HA3.out.r1.cellAt k (by go_light; omega)]; simp [hkl, hye]
                                  have d2 : wr.cell? ⟨G.g2, k, none⟩ = some (.pointer (some ⟨y.e.blk, 0, none⟩)) := by rw [HA3.out.r2.cellAt k (by go_light; omega)]; simp [hkl, hye, ptr]
                                  obtain ⟨lm, hlm⟩ : ∃ lm, y.lm = lm := ⟨_, rfl⟩
                                  have HD5 : Hid (∀ W', After w W' G B n a rs es clock kk → W'.cell? ⟨G.g5, k, none⟩ = some (.int .u64 lm)) := by
                                    intro W' hW'
                                    rw [hW'.r5.cellAt k (by go_light; omega)]; simp [hkl, hye, hlm]
                                  have hlk : ∀ j, (Instr.lookup 28 (.map (some (B + 1))) (.string y.e.id) false).run Ybaf.prog (wr.drewN j) = .ok (.pointer (some ⟨y.e.blk, 0, none⟩)) (wr.drewN j) := fun j => by
                                    have := run_lookup (w := wr.drewN j) HA3.out.map y.e.id
                                    obtain ⟨i', hl⟩ := HLK.out k y hy hkj
                                    rw [hl] at this
                                    exact this
                                  have HKEEP : Hid (¬ lm < owed → Open.AllIs rs j owed (k + 1) b) := fun h => HALL.out.keep hy (hlm ▸ h)
                                  have HFALL : Hid (lm < owed → Open.AllIs rs j owed (k + 1) false) := fun h => Open.AllIs.fall hy hkj (hlm ▸ h)
                                  clear hy hye hkl hlm hkj HALL
                                  go_upto_region 67 with fail
                                  go_cut [291] (fun u291 wz => u291 = .bool false ∧ Chg wr wz [])
                                  case first =>
                                    as_aux_lemma =>
                                      rename_i J K' hJ hK; have hK2 : ∀ a' w', J a' w' → K' a' w' := fun a' w' h => hK a' w' (Met.intro h); have HJ : Hid _ := hJ; clear hK hJ; go_light
                                      go_quiet (fail)
                                      (refine hK2 _ _ (HJ.out _ _ ?_); (repeat apply Exists.intro); refine ⟨?_, rfl⟩)
                                      exact ⟨by simp, rfl, rfl, rfl, Nat.le_refl _, fun _ _ _ => rfl⟩
                                  case rest =>
                                    as_aux_lemma =>
                                      obtain ⟨rfl, hdd⟩ := hcut
                                      have HA4 : Hid (After w wc G B n a rs es clock kk) := HA3.out.new HB.out hdd
                                      have d5 := HD5.out wc HA4.out
                                      clear hdd hlk d1 d2 s4 s9
                                      by_cases hl : lm < owed
                                      · have HK1 : Hid (Open.AllIs rs j owed (k + 1) false) := HFALL.out hl
                                        go_wp2
                                        go_roundg (c - (k + 1))
                                        case measure => go_light; omega
                                        case rel => go_light; exact ⟨k + 1, false, rfl, by omega, by go_num, rfl, HK1.out, HA4.out⟩
                                      · have HK1 : Hid (Open.AllIs rs j owed (k + 1) b) := HKEEP.out hl
                                        go_wp2
                                        go_roundg (c - (k + 1))
                                        case measure => go_light; omega
                                        case rel => go_light; exact ⟨k + 1, b, rfl, by omega, by go_num, rfl, HK1.out, HA4.out⟩
                              · have hkc' : ¬ (k : Int) < c := by omega
                                have hke : k = rs.length := by rw [HL.out]; omega
                                have hcnt := (hke ▸ HALL.out : Open.AllIs rs j owed rs.length b).count HDU.out full HBU.out
                                have hlc : ∀ ty, (Builtin.len_ #[29] ty #[.chan (some (B + 2))]).run Ybaf.prog wr = .ok (.int .i64 kk) wr := fun ty => by
                                  obtain ⟨buf', s', r', hch, hbk⟩ := HA3.out.chan
                                  have := run_len_chan (P := Ybaf.prog) 29 ty Ybaf.underlying29 hch
                                  rw [hbk] at this
                                  exact this
                                clear hkc hke HALL
                                cases full
                                · by_cases h0 : owed = 0
                                  · have h0' : (owed == 0) = true := by simp [h0]
                                    have hc0 : kk = 0 := by rw [hcnt, h0']; rfl
                                    rw [hc0] at hlc
                                    clear hcnt hc0
                                    subst h0
                                    go_wp2
                                    go_ret
                                    exact ⟨rfl, HA3.out.bel⟩
                                  · have h0' : (owed == 0) = false := by simpa using h0
                                    have h0n : (owed != 0) = true := by simpa using h0
                                    cases b
                                    · have hc0 : kk = 0 := by rw [hcnt, h0']; rfl
                                      rw [hc0] at hlc
                                      clear hcnt hc0
                                      go_wp2
                                      go_ret
                                      exact ⟨rfl, HA3.out.bel⟩
                                    · have hc0 : kk = 1 := by rw [hcnt, h0']; rfl
                                      rw [hc0] at hlc
                                      clear hcnt hc0
                                      go_wp2
                                      go_ret
                                      exact ⟨rfl, HA3.out.bel⟩
                                · have hc0 : kk = 1 := by rw [hcnt]; rfl
                                  rw [hc0] at hlc
                                  clear hcnt hc0
                                  go_wp2
                                  go_ret
                                  exact ⟨rfl, HA3.out.bel⟩
                          · rw [decide_eq_false hop]
                            have HE : Hid (Calls Ybaf.prog 6 #[.pointer (some ⟨S, 0, none⟩), .string id] W2 fun e w' => ∃ m, e = .returned (.tuple #[.pointer none, .iface 99 (.pointer (some ⟨m, 0, none⟩))]) ∧ w'.cell? ⟨m, 1, none⟩ = some (.iface 109 (.pointer (some a))) ∧ After w w' G B n a rs (rs.map Rec.e) clock buf.size) := by
                              rw [← HSS.out]
                              refine (end_no F a s0 HI2.out HB.out HA.out.1 HA.out.2.1 HA.out.2.2 HF2.out hop).mono ?_
                              rintro e w' ⟨m, he, hc, hE⟩
                              exact ⟨m, he, hc, after HI2.out HB.out HA.out.2.1 hE⟩
                            have HID : Hid ((rs.map (·.e.id.toList)).Nodup) := HI2.out.ids
                            clear hop hdec2 HI2 HF2
                            go_wp2_with (first
                              | (go_at_call 6; refine HE.out.mono ?_; rintro e W3 ⟨m, rfl, hc1, hAf⟩; have g3 := hAf.g; have s4 : W3.cell? ⟨S, 4, none⟩ = some (.map (some (B + 1))) := HSS.out ▸ hAf.s4; have hlen : ∀ ty, (Builtin.len_ #[28] ty #[.map (some (B + 1))]).run Ybaf.prog W3 = .ok (.int .i64 c) W3 := (fun ty => by have := run_len hAf.map ty; rw [List.length_map, HL.out] at this; exact this); have HAf : Hid (After w W3 G B n a rs (rs.map Rec.e) clock buf.size) := hAf; clear hAf)
                              | (go_at_call 7; refine (Err.is_wrap_same m a W3 hc1).mono ?_; rintro e W4 ⟨rfl, rfl⟩))
                            go_loopg [215] c (fun gk u215 wz => ∃ k : Nat, gk = c - k ∧ k ≤ c ∧ u215 = .int .i64 k ∧ After w wz G B n a rs (rs.map Rec.e) clock buf.size)
                            case atStart => exact ⟨0, rfl, Nat.zero_le _, rfl, HAf.out⟩
                            case round =>
                              obtain ⟨k, rfl, hk, rfl, hA3⟩ := hrel
                              have HA3 : Hid (After w wr G B n a rs (rs.map Rec.e) clock buf.size) := hA3
                              have s4 : wr.cell? ⟨S, 4, none⟩ = some (.map (some (B + 1))) := HSS.out ▸ hA3.s4
                              have s9 : wr.cell? ⟨S, 9, none⟩ = some (.chan (some (B + 2))) := HSS.out ▸ hA3.s9
                              clear hA3 HAf
                              by_cases hkc : k < c
                              · have hkl : k < rs.length := by rw [HL.out]; exact hkc
                                have k0 : (0 : Int) ≤ k := Int.natCast_nonneg k
                                have k1 : (k : Int) < c := by exact_mod_cast hkc
                                obtain ⟨x, hx⟩ : ∃ x, rs[k]? = some x := ⟨_, List.getElem?_eq_getElem hkl⟩
                                have hxe : rs[k] = x := (List.getElem?_eq_some_iff.1 hx).2
                                have d1 : wr.cell? ⟨G.g1, k, none⟩ = some (.string x.e.id) := by rw [HA3.out.r1.cellAt k (by go_light; omega)]; simp [hkl, hxe]
                                have d2 : wr.cell? ⟨G.g2, k, none⟩ = some (.pointer (some ⟨x.e.blk, 0, none⟩)) := by rw [HA3.out.r2.cellAt k (by go_light; omega)]; simp [hkl, hxe, ptr]
                                have hlk : ∀ j, (Instr.lookup 28 (.map (some (B + 1))) (.string x.e.id) false).run Ybaf.prog (wr.drewN j) = .ok (.pointer (some ⟨x.e.blk, 0, none⟩)) (wr.drewN j) := fun j => by
                                  have := run_lookup (w := wr.drewN j) HA3.out.map x.e.id
                                  obtain ⟨i', hl⟩ := look_all HID.out hx
                                  rw [hl] at this
                                  exact this
                                clear hx hxe hkl
                                have hpp := neq_same
                                go_upto_region 48 with fail
                                go_cut [231] (fun u231 wz => u231 = .bool false ∧ Chg wr wz [])
                                case first =>
                                  as_aux_lemma =>
                                    rename_i J K' hJ hK; have hK2 : ∀ a' w', J a' w' → K' a' w' := fun a' w' h => hK a' w' (Met.intro h); have HJ : Hid _ := hJ; clear hK hJ; go_light
                                    go_quiet (fail)
                                    (refine hK2 _ _ (HJ.out _ _ ?_); (repeat apply Exists.intro); refine ⟨?_, rfl⟩)
                                    exact ⟨by simp, rfl, rfl, rfl, Nat.le_refl _, fun _ _ _ => rfl⟩
                                case rest =>
                                  as_aux_lemma =>
                                    obtain ⟨rfl, hdd⟩ := hcut
                                    have HA4 : Hid (After w wc G B n a rs (rs.map Rec.e) clock buf.size) := HA3.out.new HB.out hdd
                                    clear hdd hlk d1 d2 s4 s9
                                    go_wp2
                                    go_roundg (c - (k + 1))
                                    case measure => go_light; omega
                                    case rel => go_light; exact ⟨k + 1, rfl, by omega, by go_num, HA4.out⟩
                              · have hkc' : ¬ (k : Int) < c := by omega
                                have hlc : ∀ ty, (Builtin.len_ #[29] ty #[.chan (some (B + 2))]).run Ybaf.prog wr = .ok (.int .i64 buf.size) wr := fun ty => by
                                  obtain ⟨buf', s', r', hch, hbk⟩ := HA3.out.chan
                                  have := run_len_chan (P := Ybaf.prog) 29 ty Ybaf.underlying29 hch
                                  rw [hbk] at this
                                  exact this
                                have hbs := HBU.out
                                clear hkc
                                cases full
                                · simp only [Bool.false_eq_true, if_false] at hbs
                                  rw [hbs] at hlc
                                  go_wp2
                                  go_ret
                                  exact ⟨rfl, HA3.out.bel⟩
                                · simp only [if_true] at hbs
                                  rw [hbs] at hlc
                                  go_wp2
                                  go_ret
                                  exact ⟨rfl, HA3.out.bel⟩
end Go.Proofs.YbulkbzmwFmt.Law
