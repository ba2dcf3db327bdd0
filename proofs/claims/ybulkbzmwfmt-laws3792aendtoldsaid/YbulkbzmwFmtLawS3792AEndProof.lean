/- The row's step and the card. -/
import Derived.Test.YbulkbzmwFmtRows
import Derived.Test.YbulkbzmwFmtTie
import Derived.Test.YbulkbzmwFmtCards
import Derived.Test.YbulkbzmwFmtLaw
import Derived.ProofKit
import Derived.OpenShut
import Derived.ShutString
import Derived.Carry
import Derived.Deep.Slices
import Derived.Stop.JoinedAt
import Derived.Stop.JoinedTold
import Derived.Stop.LaidErr
import Derived.SevenTiedAt
namespace Go.Proofs.YbulkbzmwFmt.lawS3792AEnd
open Go.ChangeShapes Go.WideShapes Go.ChangeAt Go.RowKit Go.Kit
open Go.ChangeMaps (open_string shut_string)
open Go.Extern.Stop Go.Stop Go.Extern
open Go.Proofs.YbulkbzmwFmt.Lim Go.Proofs.YbulkbzmwFmt.Law

theorem own : ownKnob Ybaf.prog.godebug = none := by kernel_rfl
theorem laidOut : laidOutB Ybaf.prog = true := by kernel_rfl
theorem laidOut' : laidOutB Ybaf.pinned.checked.prog = true := by kernel_rfl
theorem stops : Ybaf.pinned.checked.prog.stops = ["fmt.errorf"] := by kernel_rfl
theorem stopKnobs : Ybaf.pinned.checked.prog.stopKnobs = [] := by kernel_rfl
theorem quiet (os : Os) : Stop.quiet Ybaf.pinned.checked.prog os := by
  intro k hk
  rw [stopKnobs] at hk
  cases hk
theorem gN : Ybaf.prog.globalNamed "example.com/tidemark/tidemark/pkg/chanlog.ErrNoSession" = some 0 := by kernel_rfl
theorem gNType : (Ybaf.prog.globals[0]?).map (·.type) = some 58 := by kernel_rfl
theorem cells111 : Ybaf.prog.cellsOf 111 = 1 := by kernel_rfl
theorem cells9 : Ybaf.prog.cellsOf 9 = 1 := by kernel_rfl
theorem cells21 : Ybaf.prog.cellsOf 21 = 1 := by kernel_rfl
theorem cells2 : Ybaf.prog.cellsOf 2 = 1 := by kernel_rfl
theorem cells23 : Ybaf.prog.cellsOf 23 = 1 := by kernel_rfl
theorem cells51 : Ybaf.prog.cellsOf 51 = 5 := by kernel_rfl
theorem star : "*" ++ "errors.errorString" = "*errors.errorString" := by decide
theorem row109 (u : TypeId) (h : Ybaf.prog.typeName? 3 u = some "*errors.errorString") : u = 109 :=
  typeName_ptr_named (nm := "errors.errorString") (by rw [star]; kernel_rfl) (by kernel_rfl) (by decide) u (by rw [star]; exact h)

/-! ### One start that fits: the sentinel as its initialiser lays it -/
abbrev textS : ByteArray := { data := #[110, 111, 32, 111, 112, 101, 110, 32, 115, 101, 115, 115, 105, 111, 110] }
noncomputable def low : Nat := (World.holding Ybaf.prog default ⟨#[], #[], []⟩).heap.size
noncomputable def laidWorld (os : Os) : World :=
  let w0 := World.holding Ybaf.prog os ⟨#[.cells #[.string textS] 111], #[], []⟩
  { w0 with heap := w0.heap.modify 0 fun
      | .cells _ t frozen => .cells #[.iface 109 (.pointer (some ⟨low, 0, none⟩))] t frozen
      | o => o }
theorem laid_met (os : Os) (args : Array Value) : laidMet Ybaf.prog Rows.lawS3792AEndRow.laid ((laidWorld os).forCall (fun _ _ => 0) ⟨#[], args, []⟩).memory :=
  laidMet_of_run (ps := [.cell 0 0, .cell low 0]) 8 (by kernel_rfl) (by kernel_rfl) (by kernel_rfl)

/-! ### What 'Bel' gives the row -/
theorem bel_below {w w' : World} (h : Bel w.heap.size w w') : Below w.heap.size w { w' with tape := w.tape } := ⟨h.os, rfl, h.output, h.size, h.block⟩
theorem bel_frame {w w' : World} (h : Bel w.heap.size w w') (may : MemPlace → Prop) : w.keptBut w' may := by
  refine ⟨h.os, h.output, fun i hi => ?_⟩
  rw [h.block i hi]
  split <;> simp_all
theorem bel_trod {H : Type} {enc : TypeId × Value → H} {t : TypeId} (hr : Ybaf.prog.readableRec t = true) (hrow : t < Ybaf.prog.types.size) {w w' : World} {v : Value} {d : DataW H} {ps : List MemPlace}
    (h : DataW.Trod enc Ybaf.prog w 0 (fun _ => true) true t v d ps) (hb : Bel w.heap.size w w') (hlt : ∀ x ∈ ps, x.block < w.heap.size) :
    DataW.Trod enc Ybaf.prog w' 0 (fun b => decide (b < w.heap.size)) true t v d ps :=
  DataW.Trod.of_heap (w := { w' with tape := w.tape }) (w' := w') rfl (Below.trod laidOut hr hrow h (bel_below hb) hlt)

theorem var_bel {w w' : World} {cs : Array Value} (h0 : 0 < w.heap.size) (bel : Bel w.heap.size w w') (hv : w.var? Ybaf.prog "example.com/tidemark/tidemark/pkg/chanlog.ErrNoSession" = some cs) :
    w'.var? Ybaf.prog "example.com/tidemark/tidemark/pkg/chanlog.ErrNoSession" = some cs := by
  unfold World.var? at hv ⊢
  rw [gN] at hv ⊢
  simp only [Option.bind_some] at hv ⊢
  rw [bel.block 0 h0]
  exact hv

/-! ### The argument: a slice of structs of five cells -/
set_option maxRecDepth 100000 in
theorem elem_of {H : Type} {enc : TypeId × Value → H} {w : World} {ad : Addr} {i n : Nat} {cs : List Value} {y : DataW H × List MemPlace} (h1 : w.cells? 0 (ad.add (i * 5)) 5 = some cs)
    (h2 : DataW.trod enc Ybaf.prog w 0 (fun _ => true) true n 51 cs = some y) : ∃ id rep ttl bd vc, Elem w (some ad) i id rep ttl bd vc ∧ -2147483648 ≤ rep ∧ rep ≤ 2147483647 := by
  obtain ⟨_, hlen, hcell⟩ := World.cells?_some h1
  obtain ⟨xs, k, hk, hxy, _, hxl, hf⟩ := DataW.trod_struct Ybaf.underlying51 h2
  match xs, hxl, cs, hlen with
  | [y0, y1, y2, y3, y4], _, [v0, v1, v2, v3, v4], _ =>
    have g0 : DataW.trod enc Ybaf.prog w 0 (fun _ => true) true k 9 (List.take (Ybaf.prog.cellsOf 9) [v0, v1, v2, v3, v4]) = some y0 := hf 0 _ rfl
    have g1 : DataW.trod enc Ybaf.prog w 0 (fun _ => true) true k 21 (List.take (Ybaf.prog.cellsOf 21) [v1, v2, v3, v4]) = some y1 := hf 1 _ rfl
    have g2 : DataW.trod enc Ybaf.prog w 0 (fun _ => true) true k 2 (List.take (Ybaf.prog.cellsOf 2) [v2, v3, v4]) = some y2 := hf 2 _ rfl
    have g3 : DataW.trod enc Ybaf.prog w 0 (fun _ => true) true k 23 (List.take (Ybaf.prog.cellsOf 23) [v3, v4]) = some y3 := hf 3 _ rfl
    have g4 : DataW.trod enc Ybaf.prog w 0 (fun _ => true) true k 23 (List.take (Ybaf.prog.cellsOf 23) [v4]) = some y4 := hf 4 _ rfl
    rw [cells9] at g0
    rw [cells21] at g1
    rw [cells2] at g2
    rw [cells23] at g3 g4
    obtain ⟨id, e0, _, _⟩ := DataW.trod_string Ybaf.underlying9 g0
    obtain ⟨rep, e1, _, wr⟩ := DataW.trod_int Ybaf.underlying21 g1
    obtain ⟨ttl, e2, _, _⟩ := DataW.trod_int Ybaf.underlying2 g2
    obtain ⟨bd, e3, _, _⟩ := DataW.trod_int Ybaf.underlying23 g3
    obtain ⟨vc, e4, _, _⟩ := DataW.trod_int Ybaf.underlying23 g4
    obtain rfl : v0 = .string id := (List.cons.inj e0).1
    obtain rfl : v1 = .int .i32 rep := (List.cons.inj e1).1
    obtain rfl : v2 = .int .i64 ttl := (List.cons.inj e2).1
    obtain rfl : v3 = .int .u64 bd := (List.cons.inj e3).1
    obtain rfl : v4 = .int .u64 vc := (List.cons.inj e4).1
    have c0 := hcell 0 (by omega)
    have c1 := hcell 1 (by omega)
    have c2 := hcell 2 (by omega)
    have c3 := hcell 3 (by omega)
    have c4 := hcell 4 (by omega)
    have hb := bounds_i32 wr
    refine ⟨id, rep, ttl, bd, vc, ⟨ad, rfl, ?_⟩, hb.1, hb.2⟩
    clear h1 h2 hf hxy g0 g1 g2 g3 g4 hcell
    generalize ad.add (i * 5) = q at c0 c1 c2 c3 c4 ⊢
    have hsp : q.spot = none := by
      have := World.cell?_spot c0
      simpa [Addr.add] using this
    obtain ⟨b, o, sp⟩ := q
    subst hsp
    exact ⟨c0, c1, c2, c3, c4⟩

set_option maxRecDepth 100000 in
/-- A slice of more elements than the law looks at. -/
theorem law_big (a0 : Option Addr) (n cap0 : Nat) (pick : Int) (target : ByteArray) (useT : Bool) (owed : Int) (full : Bool) (w : World) (hn : ¬ n ≤ 1024) (hlen : n ≤ 9223372036854775807) :
    Calls Ybaf.prog 3 #[.slice a0 n cap0, .int .u8 pick, .string target, .bool useT, .int .u64 owed, .bool full] w fun e w' => e = .returned (.bool true) ∧ Bel w.heap.size w w' := by
  go_enter Ybaf.func3, Ybaf.ntmps3
  go_wp2
  go_ret
  exact ⟨rfl, Bel.of (Below.refl _ _)⟩

set_option maxRecDepth 100000 in
theorem lifted (os : Os) (started : os.Started) (H : Type) (enc : TypeId × Value → H) :
    ReturnsInTold none {} Ybaf.checked os 3 .any Input.okWide ((OpenSpec.ofChange Rows.lawS3792AEndSpec).preRow enc Ybaf.prog Ybaf.f3 [] false Rows.lawS3792AEndRow.laid) (fun F => ((OpenSpec.ofChange Rows.lawS3792AEndSpec).at F).post enc Ybaf.prog Ybaf.f3 false true false false) (aloneAtReturn Ybaf.prog) nothingAlways := by
  refine returnsInTold_of_row (C := Ybaf.checked) (s := OpenSpec.ofChange Rows.lawS3792AEndSpec) (by kernel_rfl) own started (by kernel_rfl) Ybaf.func3
    (OpenSpec.witness_stopped_at (enc := enc) (C := Ybaf.checked) false (laidWorld os) #[.slice none 0 0, .int .u8 0, .string ByteArray.empty, .bool false, .int .u64 0, .bool false] rfl (by kernel_rfl) (by kernel_rfl) (by kernel_rfl)
      (OpenSpec.preRow_of_B rfl 8 (by kernel_rfl) (by kernel_rfl) (laid_met os _))) ?_
  intro F W base args ds gs before _ hF hval0 hW _ _ _ hL _
  have hval : ∀ (j : Nat) t v, Ybaf.f3.params[j]? = some t → args[j]? = some v → Value.okWide Ybaf.prog W .any base t v := hval0
  have hW' := hW
  obtain ⟨p, q, hA0, hV0, rfl, hfz, hnd⟩ := hW
  have hA : DataW.TrodAll enc Ybaf.prog W 0 (fun _ => true) true Ybaf.f3.params.toList args.toList ds p := hA0
  have hV : DataW.TrodVars enc Ybaf.prog W (fun _ => true) ["example.com/tidemark/tidemark/pkg/chanlog.ErrNoSession"] gs q := hV0
  rw [Ybaf.params3] at hA hval
  obtain ⟨v0, vs0, d0, ds0, p0, q0, hargs, rfl, rfl, h0, r0⟩ := trodAll_cons hA
  obtain ⟨v1, vs1, d1, ds1, p1, q1, rfl, rfl, rfl, h1, r1⟩ := trodAll_cons r0
  obtain ⟨v2, vs2, d2, ds2, p2, q2, rfl, rfl, rfl, h2, r2⟩ := trodAll_cons r1
  obtain ⟨v3, vs3, d3, ds3, p3, q3, rfl, rfl, rfl, h3, r3⟩ := trodAll_cons r2
  obtain ⟨v4, vs4, d4, ds4, p4, q4, rfl, rfl, rfl, h4, r4⟩ := trodAll_cons r3
  obtain ⟨v5, vs5, d5, ds5, p5, q5, rfl, rfl, rfl, h5, r5⟩ := trodAll_cons r4
  obtain ⟨rfl, rfl, rfl⟩ := trodAll_nil r5
  obtain rfl : args = #[v0, v1, v2, v3, v4, v5] := by cases args; simp_all
  obtain ⟨a0, n, cap0, rfl⟩ := okWide_slice Ybaf.underlying22 (hval 0 22 v0 rfl rfl)
  have lt0 : ∀ x ∈ p0, x.block < W.heap.size := by obtain ⟨m, hm⟩ := h0; exact DataW.trod_lt m _ _ _ hm
  obtain ⟨hlen, hin⟩ : n ≤ maxLen ∧ ∀ i, i < n → ∃ id rep ttl bd vc, Elem W a0 i id rep ttl bd vc ∧ -2147483648 ≤ rep ∧ rep ≤ 2147483647 := by
    obtain ⟨fuel, hf⟩ := h0
    rcases Deep.open_slice Ybaf.underlying22 hf with ⟨hcs, _⟩ | ⟨x, l, c, m, k, D, Pl, hcs, _, hl, hm, hmm, _, hx⟩
    · simp [Value.cells] at hcs
      obtain ⟨rfl, rfl, rfl⟩ := hcs
      exact ⟨Nat.zero_le _, fun i hi => absurd hi (Nat.not_lt_zero i)⟩
    · simp [Value.cells] at hcs
      obtain ⟨rfl, rfl, rfl⟩ := hcs
      refine ⟨Nat.le_trans hl hm, fun i hi => ?_⟩
      obtain ⟨cs', g1, g2⟩ := hx i (by simp at hmm; omega)
      rw [cells51] at g1
      exact elem_of g1 g2
  obtain ⟨pick, rfl, rfl, rfl, w1⟩ := open_int Ybaf.underlying5 (hval 1 5 v1 rfl rfl) h1
  obtain ⟨target, rfl, rfl, rfl, w2⟩ := open_string Ybaf.underlying9 (hval 2 9 v2 rfl rfl) h2
  obtain ⟨useT, rfl, rfl, rfl⟩ := open_bool Ybaf.underlying4 (hval 3 4 v3 rfl rfl) h3
  obtain ⟨owed, rfl, rfl, rfl, w4⟩ := open_int Ybaf.underlying23 (hval 4 23 v4 rfl rfl) h4
  obtain ⟨full, rfl, rfl, rfl⟩ := open_bool Ybaf.underlying4 (hval 5 4 v5 rfl rfl) h5
  obtain ⟨a, s, hv, hc, _, _⟩ := laid_sentinel hL gN gNType Ybaf.underlying58 row109 Ybaf.underlying109 Ybaf.underlying111 rfl rfl Ybaf.underlying9 cells111 cells9
  obtain ⟨rfl, rfl⟩ := hV.unique (vars_read1 enc gN gNType Ybaf.underlying58 hv trivial _)
  clear hA0 hV0 hval0
  have hg : W.cell? ⟨0, 0, none⟩ = some (.iface 109 (.pointer (some a))) := by simpa using World.var?_cell gN hv 0
  have hb1 := bounds_u8 w1
  have key : Calls Ybaf.prog 3 #[.slice a0 n cap0, .int .u8 pick, .string target, .bool useT, .int .u64 owed, .bool full] W fun e w' => e = .returned (.bool true) ∧ Bel W.heap.size W w' := by
    by_cases hn : n ≤ 1024
    · exact law_any F.told a0 n cap0 pick target useT owed full a s W hb1.1 hb1.2 hF hn hg hc hin
    · exact law_big a0 n cap0 pick target useT owed full W hn (by unfold maxLen at hlen; omega)
  refine key.mono fun e W' ⟨he, bel⟩ => ?_
  subst he
  have hv' : W'.var? Ybaf.prog "example.com/tidemark/tidemark/pkg/chanlog.ErrNoSession" = some #[.iface 109 (.pointer (some a))] := var_bel (World.block_lt_of_cell? _ _ hg) bel hv
  exact ⟨_, rfl, _, _, _, [], _, _, hW', trodAll_mk1 (shut_bool Ybaf.underlying4 _), (trodAll_cons_mk (bel_trod (by kernel_rfl) (of_decide_eq_true (by kernel_rfl)) h0 bel lt0) (trodAll_cons_mk (shut_int Ybaf.underlying5 w1) (trodAll_cons_mk (shut_string Ybaf.underlying9 w2) (trodAll_cons_mk (shut_bool Ybaf.underlying4 _) (trodAll_cons_mk (shut_int Ybaf.underlying23 w4) (trodAll_cons_mk (shut_bool Ybaf.underlying4 _) trodAll_mk0)))))),
    vars_read1 enc gN gNType Ybaf.underlying58 hv' trivial _, bel_frame bel _, fun h => by cases h⟩

/-- THE STATEMENT -/
theorem proved : Rows.LawS3792AEndToldSaid :=
  Claim7.holds_of_told_tied_any_at .later 3 Ybaf.f3 "fmt.errorf" [] [] _ _ _ _ _ (by kernel_rfl) rfl rfl rfl laidOut' (by kernel_rfl) rfl ⟨rfl, rfl, rfl, rfl, rfl, rfl, rfl⟩ rfl rfl (by kernel_rfl) (by kernel_rfl) Ybaf.func3 (by kernel_rfl)
    (of_decide_eq_true (by kernel_rfl)) (of_decide_eq_true (by kernel_rfl)) stops.symm rfl stopKnobs.symm (by kernel_rfl)
    (by kernel_rfl) (by kernel_rfl) (by kernel_rfl) (by kernel_rfl) (by kernel_rfl) (by kernel_rfl) (by kernel_rfl) (by kernel_rfl) (by kernel_rfl) rfl (by kernel_rfl) rfl rfl
    rfl rfl
    rfl (by kernel_rfl) (by kernel_rfl) (by kernel_rfl) (by decide) (by kernel_rfl) lawS3792AEnd_row_tie
    (OpenClaim.moreEntering_of (by kernel_rfl) (by kernel_rfl) (by kernel_rfl) (by kernel_rfl) (by kernel_rfl) (by kernel_rfl) (by kernel_rfl) (by kernel_rfl) (by kernel_rfl) (by kernel_rfl))
    ⟨_, WideRow.started_initial, quiet _⟩
    (fun os started _ H enc _ => lifted os started H enc)
end Go.Proofs.YbulkbzmwFmt.lawS3792AEnd
