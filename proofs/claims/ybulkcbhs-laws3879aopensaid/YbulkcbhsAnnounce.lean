/- seat b3879a: (*feed).announce; (*Mutex).TryLock at a free lock -/
import Derived.Test.YbulkcbhsSignal
import Derived.WalkLawsBesides
import Derived.Conc.LoneSelectN
namespace Go.Proofs.Ybulkcbhs
open Go Go.Conc Go.RowKit

theorem bytes29 : ∃ i, Yba.prog.info? 29 = some i ∧ i.bytes = 0 := by
  have h : (Yba.prog.info? 29).map (·.bytes) = some 0 := by kernel_rfl
  obtain ⟨i, hi, hb⟩ := Option.map_eq_some_iff.1 h
  exact ⟨i, hi, hb⟩
theorem mk1 (w : World) : (Instr.makeChan 38 (.int .i64 1)).run Yba.prog w = .ok (.chan (some w.heap.size)) (w.alloc (.chan 1 #[] false 0 0 false)) := by
  obtain ⟨i, hi, hb⟩ := bytes29
  simpa using run_makeChan (P := Yba.prog) (w := w) Yba.underlying38 hi .i64 1 (by omega) (by rw [hb]; omega)
theorem mk0 (w : World) : (Instr.makeChan 38 (.int .i64 0)).run Yba.prog w = .ok (.chan (some w.heap.size)) (w.alloc (.chan 0 #[] false 0 0 false)) := by
  obtain ⟨i, hi, hb⟩ := bytes29
  simpa using run_makeChan (P := Yba.prog) (w := w) Yba.underlying38 hi .i64 0 (by omega) (by rw [hb]; omega)
theorem eqlIn_chan (d : Nat) (x y : Option Nat) (w : World) : (Op.equalIn (d + 1) 38 (.chan x) (.chan y)).run Yba.prog w = .ok (x == y) w := by
  simp [Op.equalIn, run_underlying Yba.underlying38]
theorem neq_chan (x y : Option Nat) (w : World) : (binOp .neq 38 (.chan x) (.chan y)).run Yba.prog w = .ok (.bool (!(x == y))) w := by
  simp only [binOp]
  simp [Op.equal, Op.maxDepth, eqlIn_chan 9999 x y w]
theorem eql_chan (x y : Option Nat) (w : World) : (binOp .eql 38 (.chan x) (.chan y)).run Yba.prog w = .ok (.bool (x == y)) w := by
  simp only [binOp]
  simp [Op.equal, Op.maxDepth, eqlIn_chan 9999 x y w]

/-- A channel's block holds no cells: what is done to it turns none. -/
theorem cell_setChan {w : World} {c cap s r : Nat} {buf : Array Value} {cl tm : Bool} (h : w.heap[c]? = some (.chan cap buf cl s r tm)) (cap' : Nat) (buf' : Array Value) (cl' : Bool) (s' r' : Nat) (tm' : Bool) (p : Addr) :
    (w.setChan c cap' buf' cl' s' r' tm').cell? p = w.cell? p := by
  simp only [World.setChan, World.cell?]
  by_cases e : c = p.block
  · subst e
    rw [h]
    rw [Array.getElem?_setIfInBounds_self_of_lt (by rcases Nat.lt_or_ge p.block w.heap.size with h' | h'; exact h'; rw [Array.getElem?_eq_none h'] at h; cases h)]
  · rw [Array.getElem?_setIfInBounds_ne e]
theorem frozen_setChan {w : World} {c cap s r : Nat} {buf : Array Value} {cl tm : Bool} (h : w.heap[c]? = some (.chan cap buf cl s r tm)) (cap' : Nat) (buf' : Array Value) (cl' : Bool) (s' r' : Nat) (tm' : Bool) (p : Addr) :
    (w.setChan c cap' buf' cl' s' r' tm').frozen? p = w.frozen? p := by
  simp only [World.setChan, World.frozen?]
  by_cases e : c = p.block
  · subst e
    rw [h]
    rw [Array.getElem?_setIfInBounds_self_of_lt (by rcases Nat.lt_or_ge p.block w.heap.size with h' | h'; exact h'; rw [Array.getElem?_eq_none h'] at h; cases h)]
  · rw [Array.getElem?_setIfInBounds_ne e]

set_option maxRecDepth 100000 in
set_option maxHeartbeats 400000 in
theorem announce_nil (fb : Nat) (w : World) (h5 : w.cell? ⟨fb, 5, none⟩ = some (.chan none)) (hz : w.frozen? ⟨fb, 5, none⟩ = false) :
    Calls Yba.prog 12 #[.pointer (some ⟨fb, 0, none⟩)] w fun e w' => e = .returned (.tuple #[]) ∧ w' = (w.setCell ⟨fb, 5, none⟩ (.chan (some w.heap.size))).alloc (.chan 0 #[] false 0 0 false) := by
  have hmk := mk0
  have hne := neq_chan
  have hb := World.block_lt_of_cell? w _ h5
  simp only at hb
  go_enter Yba.func12, Yba.ntmps12
  go_wp2
  go_end0
  exact ⟨rfl, rfl⟩
set_option maxRecDepth 100000 in
set_option maxHeartbeats 400000 in
theorem announce_some (fb c s r : Nat) (w : World) (h5 : w.cell? ⟨fb, 5, none⟩ = some (.chan (some c))) (hz : w.frozen? ⟨fb, 5, none⟩ = false) (hc : w.heap[c]? = some (.chan 0 #[] false s r false)) :
    Calls Yba.prog 12 #[.pointer (some ⟨fb, 0, none⟩)] w fun e w' => e = .returned (.tuple #[]) ∧ w' = ((w.setChan c 0 #[] true s r false).setCell ⟨fb, 5, none⟩ (.chan (some w.heap.size))).alloc (.chan 0 #[] false 0 0 false) := by
  have hmk := mk0
  have hne := neq_chan
  have hb := World.block_lt_of_cell? w _ h5
  simp only at hb
  have hcl : ∀ ats ty, (Builtin.close_ ats ty #[.chan (some c)]).run Yba.prog w = .ok (.tuple #[]) (w.setChan c 0 #[] true s r false) := fun ats ty => run_close_open (P := Yba.prog) (w := w) ats ty hc
  have hcc := cell_setChan hc 0 #[] true s r false
  have hcf := frozen_setChan hc 0 #[] true s r false
  have hcz := size_setChan w c 0 #[] true s r false
  go_enter Yba.func12, Yba.ntmps12
  go_wp2
  go_end0
  exact ⟨rfl, rfl⟩
end Go.Proofs.Ybulkcbhs
