/- seat b3879a: a map keyed by pointers to blocks of the call's own: a store at a new key -/
import Derived.Test.YbulkcbhsProg
import Derived.WalkKit
import Derived.LaidEql
import Derived.MapKept
namespace Go.Proofs.Ybulkcbhs
open Go Go.RowKit

/-- 'block b is a plain row of cells' -/
def Plain (w : World) (b : Nat) : Prop := ∃ c t, w.heap[b]? = some (.cells c t (0, 0))

theorem eqlIn_ptr47 (d : Nat) {a b : Addr} {w : World} (hne : a ≠ b) (ha : Plain w a.block) (hb : Plain w b.block) :
    (Op.equalIn (d + 1) 47 (.pointer (some a)) (.pointer (some b))).run Yba.prog w = .ok false w := by
  obtain ⟨ca, ta, ha⟩ := ha
  obtain ⟨cb, tb, hb⟩ := hb
  simp [Op.equalIn, run_underlying Yba.underlying47, run_sameAddr_other w hne ha hb]
theorem eqlIn_ptr23 (d : Nat) {a b : Addr} {w : World} (hne : a ≠ b) (ha : Plain w a.block) (hb : Plain w b.block) :
    (Op.equalIn (d + 1) 23 (.pointer (some a)) (.pointer (some b))).run Yba.prog w = .ok false w := by
  obtain ⟨ca, ta, ha⟩ := ha
  obtain ⟨cb, tb, hb⟩ := hb
  simp [Op.equalIn, run_underlying Yba.underlying23, run_sameAddr_other w hne ha hb]
theorem neq_ptr23 {a b : Addr} {w : World} (hne : a ≠ b) (ha : Plain w a.block) (hb : Plain w b.block) :
    (binOp .neq 23 (.pointer (some a)) (.pointer (some b))).run Yba.prog w = .ok (.bool true) w := by
  simp only [binOp]
  simp [Op.equal, Op.maxDepth, eqlIn_ptr23 9999 hne ha hb]
theorem eqlIn_ptr23_same (d : Nat) (a : Addr) (w : World) : (Op.equalIn (d + 1) 23 (.pointer (some a)) (.pointer (some a))).run Yba.prog w = .ok true w := by
  simp [Op.equalIn, run_underlying Yba.underlying23, run_sameAddr_same]
theorem neq_ptr23_same (a : Addr) (w : World) : (binOp .neq 23 (.pointer (some a)) (.pointer (some a))).run Yba.prog w = .ok (.bool false) w := by
  simp only [binOp]
  simp [Op.equal, Op.maxDepth, eqlIn_ptr23_same 9999 a w]

theorem findAsking_none (a : Addr) (w : World) (ha : Plain w a.block) : ∀ (l : List MapEntry) (i : Nat), (∀ e ∈ l, ∃ b, e.key = .pointer (some b) ∧ a ≠ b ∧ Plain w b.block) →
    (Instr.findAsking 47 (.pointer (some a)) l i).run Yba.prog w = .ok none w
  | [], _, _ => rfl
  | e :: l, i, h => by
    obtain ⟨b, hk, hne, hb⟩ := h e (by simp)
    have ih := findAsking_none a w ha l (i + 1) (fun e' he' => h e' (by simp [he']))
    simp only [Instr.findAsking]
    simp [hk, Op.equal, Op.maxDepth, eqlIn_ptr47 9999 hne ha hb, ih]

theorem findKey_none (a : Addr) (w : World) (ha : Plain w a.block) (l : List MapEntry) (h : ∀ e ∈ l, ∃ b, e.key = .pointer (some b) ∧ a ≠ b ∧ Plain w b.block) :
    (Instr.findKey 47 (.pointer (some a)) l).run Yba.prog w = .ok none w := by
  cases l with
  | nil => simp [Instr.findKey, run_underlying Yba.underlying47, Instr.findNow]
  | cons e l =>
    have := findAsking_none a w ha (e :: l) 0 h
    obtain ⟨b, hk, _, _⟩ := h e (by simp)
    simp [Instr.findKey, run_underlying Yba.underlying47, Instr.findNow, hk, Instr.sameNow, this]

/-- the world with a map's block turned -/
def setMap (w : World) (r : Nat) (es : Array MapEntry) (clock : Nat) : World := { w with heap := w.heap.setIfInBounds r (.map es clock) }

theorem checkKey_ptr (d : Nat) (a : Addr) (w : World) : (Instr.checkKey false (d + 1) 47 (.pointer (some a))).run Yba.prog w = .ok () w := by
  simp [Instr.checkKey, run_underlying Yba.underlying47]
theorem update_new (a : Addr) (v : Value) (w : World) (r clock : Nat) (es : Array MapEntry) (hb : w.heap[r]? = some (.map es clock)) (ha : Plain w a.block) (h : ∀ e ∈ es.toList, ∃ b, e.key = .pointer (some b) ∧ a ≠ b ∧ Plain w b.block) :
    (Instr.mapUpdate 36 (.map (some r)) (.pointer (some a)) v).run Yba.prog w = .ok () (setMap w r (es.push { key := .pointer (some a), val := v, born := clock }) (clock + 1)) := by
  have hc : (Instr.checkKey false 10000 47 (.pointer (some a))).run Yba.prog w = .ok () w := checkKey_ptr 9999 a w
  simp [Instr.mapUpdate, run_underlying Yba.underlying36, MapKept.run_getObj_map hb, hc, findKey_none a w ha es.toList h, MapKept.run_setObj_map _ hb, Result.andThen, setMap]
end Go.Proofs.Ybulkcbhs
