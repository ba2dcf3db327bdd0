/- (*zzs3792cconn).Close and (*handoff).give where the queue is full and the handoff closed. -/
import Derived.Test.YbulkbzmwOnce
import Derived.Deep.Cut
namespace Go.Proofs.Ybulkbzmw.Give
open Go.RowKit Go.Conc Go.Proofs.Ybulkbzmw.Comm

set_option maxHeartbeats 1000000 in
theorem conn_close (p q : Nat) (n : Int) (w : World) (h1 : w.cell? ⟨p, 1, none⟩ = some (.pointer (some ⟨q, 0, none⟩))) (hq : w.cell? ⟨q, 0, none⟩ = some (.int .i64 n)) (fq : w.frozen? ⟨q, 0, none⟩ = false) (hn0 : 0 ≤ n) (hn1 : n ≤ 1000) :
    Calls Yba.prog 48 #[.pointer (some ⟨p, 0, none⟩)] w fun e w' => e = .returned .nilIface ∧ w' = (w.setCell ⟨q, 0, none⟩ (.int .i64 (n + 1))).drew := by
  go_enter Yba.func48, Yba.ntmps48
  go_wp2
  go_region
  all_goals go_wp2
  all_goals go_ret
  all_goals exact ⟨rfl, rfl⟩

theorem method_close (a : Addr) (w : World) : (method 208 24 (.pointer (some a)) "Close").run Yba.prog w = .ok (48, .pointer (some a)) w := by kernel_rfl

theorem res_sr1 (a b : Nat) (u z z' v : Value) (ok : Bool) : commResult #[scase a u z, rcase b z'] .select ((1 : Nat) : Int) v ok = .tuple #[goInt 1, .bool ok, v] := by
  simp [commResult, rcase, scase, List.zipIdx_cons]

set_option maxHeartbeats 1000000 in
theorem give_shut (B K C p q cap s r : Nat) (buf : Array Value) (n : Int) (w : World) (hK : w.cell? ⟨B, 1, none⟩ = some (.chan (some K))) (hC : w.cell? ⟨B, 2, none⟩ = some (.chan (some C)))
    (bK : w.heap[K]? = some (.chan cap buf false s r false)) (hfull : cap ≤ buf.size) (bC : w.heap[C]? = some (.chan 0 #[] true 0 0 false))
    (h1 : w.cell? ⟨p, 1, none⟩ = some (.pointer (some ⟨q, 0, none⟩))) (hq : w.cell? ⟨q, 0, none⟩ = some (.int .i64 n)) (fq : w.frozen? ⟨q, 0, none⟩ = false) (hn0 : 0 ≤ n) (hn1 : n ≤ 1000) :
    Calls Yba.prog 5 #[.pointer (some ⟨B, 0, none⟩), .iface 24 (.pointer (some ⟨p, 0, none⟩))] w fun e w' => e = .returned (.tuple #[]) ∧ w' = (w.setCell ⟨q, 0, none⟩ (.int .i64 (n + 1))).drew := by
  go_enter Yba.func5, Yba.ntmps5
  go_upto_region 3 with fail
  refine regAt_start' (l := [0, 1, 2, 3]) rfl ?_
  refine regAt_sel_shut (cases := #[scase K (.iface 24 (.pointer (some ⟨p, 0, none⟩))) .nilIface, rcase C (.agg #[])]) (n := 1) (c := C) (z := .agg #[]) (cap := 0) (s := 0) (r := 0) (tm := false) (blocking := true) rfl rfl (by simp [go_sem, execOp, rcase, scase, Act.eval]) rfl (fun m c' hm hc' => ?_) bC ?_
  · rcases m with _ | _ | m
    · simp only [List.getElem?_toArray, List.getElem?_cons_zero, Option.some.injEq] at hc'
      subst hc'
      exact noWay_send bK hfull
    · exact absurd rfl hm
    · simp at hc'
  rw [res_sr1]
  refine regAt_list 1 rfl rfl ?_
  have hm := method_close
  go_wp2_with (go_at_call 48; refine (conn_close p q n _ h1 hq fq hn0 hn1).mono ?_; rintro e w' ⟨rfl, rfl⟩)
  go_end0
  exact ⟨rfl, rfl⟩
end Go.Proofs.Ybulkbzmw.Give
