/- seat b3879a: (*feed).setOpen: what its parts do to memory -/
import Derived.Test.YbulkcbhsAnnounce
import Derived.Test.YbulkcbhsTry
import Derived.Test.YbulkcbhsPtrMap
import Derived.ChangeAlike
import Derived.Laws.IdiomRangeMap
namespace Go.Proofs.Ybulkcbhs
open Go Go.Conc Go.RowKit

/-- a wait's wake channel: of capacity one, open; it holds nothing or one signal -/
def Wake (w : World) (c : Nat) : Prop := ∃ (buf : Array Value) (s r : Nat), w.heap[c]? = some (.chan 1 buf false s r false) ∧ buf.size ≤ 1
def Full (w : World) (c : Nat) : Prop := ∃ (buf : Array Value) (s r : Nat), w.heap[c]? = some (.chan 1 buf false s r false) ∧ buf.size = 1
theorem Full.wake {w : World} {c : Nat} (h : Full w c) : Wake w c := by
  obtain ⟨b, s, r, h1, h2⟩ := h
  exact ⟨b, s, r, h1, by omega⟩

/-- v is w but for the n channels C 0 .. C (n - 1) -/
structure Chd (n : Nat) (C : Nat → Nat) (w v : World) : Prop where
  os : v.os = w.os
  output : v.output = w.output
  size : v.heap.size = w.heap.size
  cell : ∀ p, v.cell? p = w.cell? p
  frozen : ∀ p, v.frozen? p = w.frozen? p
  block : ∀ k, (∀ j, j < n → k ≠ C j) → v.heap[k]? = w.heap[k]?

theorem Chd.refl (n : Nat) (C : Nat → Nat) (w : World) : Chd n C w w := ⟨rfl, rfl, rfl, fun _ => rfl, fun _ => rfl, fun _ _ => rfl⟩

theorem Chd.alike {n : Nat} {C : Nat → Nat} {w v v' : World} (h : Chd n C w v) (ha : v'.Alike v) : Chd n C w v' := by
  obtain ⟨a1, a2, a3⟩ := ha
  refine ⟨a2.trans h.os, a3.trans h.output, by rw [a1]; exact h.size, fun p => ?_, fun p => ?_, fun k hk => by rw [a1]; exact h.block k hk⟩
  · rw [← h.cell p]; simp only [World.cell?, a1]
  · rw [← h.frozen p]; simp only [World.frozen?, a1]

theorem Chd.setChan {n : Nat} {C : Nat → Nat} {w v : World} (h : Chd n C w v) {j : Nat} (hj : j < n) {cap s r : Nat} {buf : Array Value} {cl tm : Bool} (hc : v.heap[C j]? = some (.chan cap buf cl s r tm)) (cap' : Nat) (buf' : Array Value) (cl' : Bool) (s' r' : Nat) (tm' : Bool) :
    Chd n C w (v.setChan (C j) cap' buf' cl' s' r' tm') := by
  refine ⟨h.os, h.output, by rw [size_setChan]; exact h.size, fun p => (cell_setChan hc _ _ _ _ _ _ p).trans (h.cell p), fun p => (frozen_setChan hc _ _ _ _ _ _ p).trans (h.frozen p), fun k hk => ?_⟩
  rw [← h.block k hk]
  simp only [World.setChan]
  rw [Array.getElem?_setIfInBounds_ne (Ne.symm (hk j hj))]

theorem setChan_alloc (w : World) (o : Obj) (c cap : Nat) (buf : Array Value) (cl : Bool) (s r : Nat) (tm : Bool) (h : c < w.heap.size) : (w.alloc o).setChan c cap buf cl s r tm = (w.setChan c cap buf cl s r tm).alloc o := by
  unfold World.setChan World.alloc
  simp only
  congr 1
  rw [Array.setIfInBounds_def, Array.setIfInBounds_def]
  simp [h, Nat.lt_succ_of_lt h, Array.set_push]

theorem setChan_heap_other (w : World) (c c' cap : Nat) (buf : Array Value) (closed : Bool) (s r : Nat) (tm : Bool) (h : c ≠ c') : (w.setChan c cap buf closed s r tm).heap[c']? = w.heap[c']? := by
  simp [World.setChan, Array.getElem?_setIfInBounds_ne h]
end Go.Proofs.Ybulkcbhs
