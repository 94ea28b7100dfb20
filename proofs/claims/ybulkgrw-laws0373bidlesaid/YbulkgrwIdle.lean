/-
  handLocked, newWorker, addIdleLocked, idleLocked, by their contracts.
-/
import Derived.Test.YbulkgrwChan
import Derived.Conc.SmallLaws
namespace Go.Proofs.Ybulkgrw
open Go.RowKit Go.Conc

set_option maxRecDepth 100000 in
theorem hand_c (sb wb c s r : Nat) (tm : Bool) (nh : Int) (p : Option Addr) (w : World) (hn : w.cell? ⟨sb, 25, none⟩ = some (.int .i32 nh)) (hz : w.frozen? ⟨sb, 25, none⟩ = false) (hwk : w.cell? ⟨wb, 2, none⟩ = some (.chan (some c))) (hcs : ¬ c = sb)
    (hc : w.heap[c]? = some (.chan 1 #[] false s r tm)) :
    Calls Yba.prog 31 #[.pointer (some ⟨sb, 0, none⟩), .pointer (some ⟨wb, 0, none⟩), .pointer p] w fun e w' => e = .returned (.tuple #[]) ∧ w' = (w.setCell ⟨sb, 25, none⟩ (.int .i32 (wrap32 (nh + 1)))).setChan c 1 #[.pointer p] false (s + 1) r tm := by
  refine calls_of_wpN Yba.func31 rfl ?_
  simp only [Yba.ntmps31, List.size_toArray, List.length_cons, List.length_nil, Nat.reduceAdd, Nat.reduceSub, Array.replicate_succ, Array.replicate_zero, List.push_toArray, List.append_toArray, List.nil_append, List.cons_append]
  refine wpN_seq_k fun K hK => ?_
  go_wp2_with (go_at_call 30; refine (addI32_c ⟨sb, 25, none⟩ nh 1 _ hn hz).mono ?_; rintro e w' ⟨rfl, rfl⟩)
  refine wpN_of_rest ?_
  have k1 : (w.setCell ⟨sb, 25, none⟩ (.int .i32 (wrap32 (nh + 1)))).cell? ⟨wb, 2, none⟩ = some (.chan (some c)) := by
    rw [World.cell?_setCell_other _ _ _ _ (by simp)]; exact hwk
  have k2 : (w.setCell ⟨sb, 25, none⟩ (.int .i32 (wrap32 (nh + 1)))).heap[c]? = some (.chan 1 #[] false s r tm) := by
    rw [Below.heap_setCell _ _ _ _ hcs]; exact hc
  obtain ⟨w1, hw1⟩ : ∃ w1, w1 = w.setCell ⟨sb, 25, none⟩ (.int .i32 (wrap32 (nh + 1))) := ⟨_, rfl⟩
  rw [← hw1] at k1 k2 ⊢
  show Rest Yba.prog _ _ [0, 1, 2, 3, 4, 5] _ _
  refine rest_value (.pointer (some ⟨wb, 0, none⟩)) w1 rfl rfl (by simp [go_sem, Act.eval]) ?_
  refine rest_value (.pointer (some ⟨wb, 0, none⟩)) w1 rfl rfl (by simp [go_sem, Act.eval, Act.put]) ?_
  refine rest_value (.pointer (some ⟨wb, 2, none⟩)) w1 rfl rfl (by simp [go_sem, Act.eval, Act.put]) ?_
  refine rest_value (.chan (some c)) w1 rfl rfl (by simp [go_sem, Act.eval, Act.put, k1]) ?_
  refine rest_value (.pointer p) w1 rfl rfl (by simp [go_sem, Act.eval, Act.put]) ?_
  refine rest_send (c := c) (v := .pointer p) (z := .tuple #[]) rfl rfl (by simp [go_sem, scase, Act.eval, Act.put, execOp]) k2 (by simp) ?_
  refine rest_nil ?_
  refine ⟨rfl, .tuple #[], ?_, rfl, rfl⟩
  exact results_none rfl _ _ _

theorem mkc (w : World) : (Instr.makeChan 85 (.int .i64 1)).run Yba.prog w = .ok (.chan (some w.heap.size)) (w.alloc (.chan 1 #[] false 0 0 false)) := by
  have h : (Yba.prog.info? 68).map (·.bytes) = some 8 := by kernel_rfl
  obtain ⟨i, hi, hb⟩ := Option.map_eq_some_iff.1 h
  simpa using run_makeChan (P := Yba.prog) (w := w) Yba.underlying85 hi .i64 1 (by omega) (by rw [hb]; omega)

/-- A worker's twelve cells. -/
def wkCells (p : Value) (c : Nat) (at_ : Int) (spare : Bool) : Array Value :=
  #[p, .int .u64 0, .chan (some c), .bool false, .int .u64 0, .int .i64 0, .pointer none, .slice none 0 0, .int .i64 0, .int .i64 at_, .bool spare, .pointer none]
set_option maxRecDepth 100000 in
theorem newWorker_c (p : Option Addr) (w : World) : Calls Yba.prog 12 #[.pointer p] w fun e w' => e = .returned (.pointer (some ⟨w.heap.size + 1, 0, none⟩)) ∧
    w' = (w.alloc (.chan 1 #[] false 0 0 false)).alloc (.cells (wkCells (.pointer p) w.heap.size (-1) false) 91) := by
  have hm := mkc
  go_enter Yba.func12, Yba.ntmps12
  go_wp2
  go_ret
  exact ⟨rfl, rfl⟩
end Go.Proofs.Ybulkgrw
