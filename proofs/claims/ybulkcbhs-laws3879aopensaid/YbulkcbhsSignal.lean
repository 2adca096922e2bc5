/- seat b3879a: (*wait).signal: a select of one send with a default, in one goroutine -/
import Derived.Test.YbulkcbhsWpN
import Derived.Test.YbulkcbhsProg
import Derived.KernelRfl
namespace Go.Proofs.Ybulkcbhs
open Go Go.Conc Go.RowKit

set_option maxRecDepth 100000 in
set_option maxHeartbeats 400000 in
theorem signal_room (wb c s r : Nat) (w : World) (hw : w.cell? ⟨wb, 3, none⟩ = some (.chan (some c))) (hc : w.heap[c]? = some (.chan 1 #[] false s r false)) :
    Calls Yba.prog 11 #[.pointer (some ⟨wb, 0, none⟩)] w fun e w' => e = .returned (.tuple #[]) ∧ w' = w.setChan c 1 #[.agg #[]] false (s + 1) r false := by
  refine calls_of_wpN Yba.func11 rfl (by rintro _ ⟨h, _⟩; cases h) ?_
  simp only [Yba.ntmps11, List.size_toArray, List.length_cons, List.length_nil, Nat.reduceAdd, Nat.reduceSub, Array.replicate_succ, Array.replicate_zero, List.push_toArray, List.append_toArray, List.nil_append, List.cons_append]
  refine wpN_seq_k fun K hK => ?_
  go_wp2

  refine wpN_seqN_k fun K hK => ?_
  refine wpN_region_head (v := .tuple #[goInt 0, .bool false]) (w' := w.setChan c 1 #[.agg #[]] false (s + 1) r false) rfl rfl (fun b k cs hb => ?_) ?_
  · exact step_lone_select_send_room (stepG_comm (cases := #[scase c (.agg #[]) (.agg #[])]) (blocking := false) (shape := .select) (w' := w) rfl rfl hb (by simp [go_sem, execOp, scase, Act.eval])) hc (by simp)
  · simp [wpOps, Oper.wp, go_sem, Region.wanted, Exit.then]
    refine Or.inl (Or.inl (hK _ _ ?_))
    clear hK K
    refine wpN_of_wp ?_
    go_wp2
    go_end0
    exact ⟨rfl, rfl⟩

set_option maxRecDepth 100000 in
set_option maxHeartbeats 400000 in
theorem signal_full (wb c s r : Nat) (buf : Array Value) (w : World) (hw : w.cell? ⟨wb, 3, none⟩ = some (.chan (some c))) (hc : w.heap[c]? = some (.chan 1 buf false s r false)) (hfull : 1 ≤ buf.size) :
    Calls Yba.prog 11 #[.pointer (some ⟨wb, 0, none⟩)] w fun e w' => e = .returned (.tuple #[]) ∧ w' = w := by
  refine calls_of_wpN Yba.func11 rfl (by rintro _ ⟨h, _⟩; cases h) ?_
  simp only [Yba.ntmps11, List.size_toArray, List.length_cons, List.length_nil, Nat.reduceAdd, Nat.reduceSub, Array.replicate_succ, Array.replicate_zero, List.push_toArray, List.append_toArray, List.nil_append, List.cons_append]
  refine wpN_seq_k fun K hK => ?_
  go_wp2

  refine wpN_seqN_k fun K hK => ?_
  refine wpN_region_head (v := .tuple #[goInt (-1), .bool false]) (w' := w) rfl rfl (fun b k cs hb => ?_) ?_
  · exact step_lone_select_send_full (stepG_comm (cases := #[scase c (.agg #[]) (.agg #[])]) (blocking := false) (shape := .select) (w' := w) rfl rfl hb (by simp [go_sem, execOp, scase, Act.eval])) hc hfull
  · simp [wpOps, Oper.wp, go_sem, Region.wanted, Exit.then]
    refine Or.inl (Or.inl (hK _ _ ?_))
    clear hK K
    refine wpN_of_wp ?_
    go_wp2
    go_end0
    exact ⟨rfl, rfl⟩
end Go.Proofs.Ybulkcbhs
