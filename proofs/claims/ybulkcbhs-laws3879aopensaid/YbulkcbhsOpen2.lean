/- seat b3879a: (*feed).setOpen -/
import Derived.Test.YbulkcbhsOpen1
import Derived.Defers
namespace Go.Proofs.Ybulkcbhs
open Go Go.Conc Go.RowKit Go.MuLone

theorem lock8 (b : Nat) (w : World) (hc : w.cell? ⟨b, 0, none⟩ = some (.int .i32 0)) (hz : w.frozen? ⟨b, 0, none⟩ = false) :
    Calls Yba.prog 10 #[.pointer (some ⟨b, 0, none⟩)] w fun e w' => e = .returned (.tuple #[]) ∧ w' = w.setCell ⟨b, 0, none⟩ (.int .i32 1) := lock_free Yba.muLib ⟨b, 0, none⟩ w hc hz
theorem unlock8 (b : Nat) (u : FrameMode) (w : World) (hc : w.cell? ⟨b, 0, none⟩ = some (.int .i32 1)) (hz : w.frozen? ⟨b, 0, none⟩ = false) :
    CallsD Yba.prog 8 #[.pointer (some ⟨b, 0, none⟩)] u w fun e u' w' => u' = u ∧ (e = .returned (.tuple #[]) ∧ w' = w.setCell ⟨b, 0, none⟩ (.int .i32 0)) := unlock_deferred Yba.muLib ⟨b, 0, none⟩ u w hc hz

set_option maxRecDepth 100000 in
set_option maxHeartbeats 800000 in
/-- the feed's run is another, or none: nothing is done -/
theorem setOpen_other (fb rb : Nat) (rv : Option Addr) (ss : ByteArray) (w : World) (h0 : w.cell? ⟨fb, 0, none⟩ = some (.int .i32 0)) (z0 : w.frozen? ⟨fb, 0, none⟩ = false)
    (h4 : w.cell? ⟨fb, 4, none⟩ = some (.pointer rv)) (hne : ∀ w1 : World, w1.heap[rb]? = w.heap[rb]? → (∀ a, rv = some a → w1.heap[a.block]? = w.heap[a.block]?) → (binOp .neq 23 (.pointer rv) (.pointer (some ⟨rb, 0, none⟩))).run Yba.prog w1 = .ok (.bool true) w1)
    (hb1 : rb ≠ fb) (hb2 : ∀ a, rv = some a → a.block ≠ fb) :
    Calls Yba.prog 6 #[.pointer (some ⟨fb, 0, none⟩), .pointer (some ⟨rb, 0, none⟩), .string ss] w fun e w' => e = .returned (.tuple #[]) ∧ w' = (w.setCell ⟨fb, 0, none⟩ (.int .i32 1)).setCell ⟨fb, 0, none⟩ (.int .i32 0) := by
  have hne1 := hne (w.setCell ⟨fb, 0, none⟩ (.int .i32 1)) (Below.heap_setCell _ _ _ _ hb1) (fun a ha => Below.heap_setCell _ _ _ _ (hb2 a ha))
  clear hne
  go_enter_defers Yba.func6, Yba.ntmps6
  go_wp2_with (go_at_call 10; refine (lock8 fb w h0 z0).mono ?_; rintro e w' ⟨rfl, rfl⟩)
  refine leaves_cons (f := 8) (args := #[.pointer (some ⟨fb, 0, none⟩)]) (by simp) (by simp [go_sem]) ?_
  refine (unlock8 fb .returning _ ?_ ?_).mono ?_
  · exact World.cell?_setCell_same _ _ _ h0
  · simp [go_sem, z0]
  rintro e u' w'' ⟨rfl, rfl, rfl⟩
  exact ⟨_, results_none rfl _ _ _, rfl, rfl⟩

theorem setCell_back {w : World} {a : Addr} {v x : Value} (h : w.cell? a = some v) : (w.setCell a x).setCell a v = w := by
  unfold World.cell? at h
  split at h
  · rename_i c t f hb
    split at h
    · cases h
    · rename_i hsp
      have hcc : (c.setIfInBounds a.off x).setIfInBounds a.off v = c := by
        apply Array.ext_getElem?
        intro j
        have hlt : a.off < c.size := (Array.getElem?_eq_some_iff.1 h).1
        by_cases e : a.off = j
        · subst e
          rw [Array.getElem?_setIfInBounds_self_of_lt (by simpa using hlt), h]
        · rw [Array.getElem?_setIfInBounds_ne e, Array.getElem?_setIfInBounds_ne e]
      have hheap : ((w.setCell a x).setCell a v).heap = w.heap := by
        apply Array.ext_getElem?
        intro i
        simp only [World.setCell, Array.getElem?_modify]
        by_cases e : a.block = i
        · subst e
          simp [hb, hsp, hcc]
        · simp [e]
      cases w
      simp only [World.setCell] at hheap ⊢
      simp [hheap]
  · cases h

structure Waits (w : World) (n : Nat) (C W : Nat → Nat) (mb : Nat) (es : Array MapEntry) (clock : Nat) : Prop where
  map : w.heap[mb]? = some (.map es clock)
  old : ∀ e ∈ es.toList, e.born < clock
  nodup : (es.toList.map (·.born)).Nodup
  keys : ∀ e ∈ es.toList, ∃ j, j < n ∧ e.key = .pointer (some ⟨W j, 0, none⟩)
  all : ∀ j, j < n → ∃ e ∈ es.toList, e.key = .pointer (some ⟨W j, 0, none⟩)
  wake : ∀ j, j < n → w.cell? ⟨W j, 3, none⟩ = some (.chan (some (C j)))
  chan : ∀ j, j < n → Wake w (C j)
  winj : ∀ i j, i < n → j < n → W i = W j → i = j

theorem full_set {u : World} {c : Nat} (hlt : c < u.heap.size) (v : Value) (s r : Nat) : Full (u.setChan c 1 #[v] false s r false) c := ⟨#[v], s, r, heap_setChan _ _ _ _ _ _ _ _ hlt, rfl⟩
theorem full_keep {u : World} {c c' : Nat} (hlt : c < u.heap.size) (v : Value) (s r : Nat) (h : Full u c') : Full (u.setChan c 1 #[v] false s r false) c' := by
  by_cases e : c = c'
  · subst e; exact full_set hlt v s r
  · obtain ⟨b, s', r', h1, h2⟩ := h
    exact ⟨b, s', r', (setChan_heap_other _ _ _ _ _ _ _ _ _ e).trans h1, h2⟩
theorem wake_keep {u : World} {c c' : Nat} (hlt : c < u.heap.size) (v : Value) (s r : Nat) (h : Wake u c') : Wake (u.setChan c 1 #[v] false s r false) c' := by
  by_cases e : c = c'
  · subst e; exact (full_set hlt v s r).wake
  · obtain ⟨b, s', r', h1, h2⟩ := h
    exact ⟨b, s', r', (setChan_heap_other _ _ _ _ _ _ _ _ _ e).trans h1, h2⟩

theorem wake_lt {u : World} {c : Nat} (h : Wake u c) : c < u.heap.size := by
  obtain ⟨b, s, r, h1, _⟩ := h
  exact (Array.getElem?_eq_some_iff.1 h1).1

/-- signal, called while the iterator is the last block: afterwards the wait's channel holds a signal. -/
theorem signal_iter {n : Nat} {C : Nat → Nat} {w2 : World} (wb j : Nat) (hj : j < n) (u : World) (it : Obj) (hw : u.cell? ⟨wb, 3, none⟩ = some (.chan (some (C j)))) (hch : Chd n C w2 u) (hwk : ∀ i, i < n → Wake u (C i)) :
    Calls Yba.prog 11 #[.pointer (some ⟨wb, 0, none⟩)] (u.alloc it) fun e w' => e = .returned (.tuple #[]) ∧ ∃ u', w' = u'.alloc it ∧ Chd n C w2 u' ∧ (∀ i, i < n → Wake u' (C i)) ∧ Full u' (C j) ∧ (∀ i, Full u (C i) → Full u' (C i)) := by
  have hlt := wake_lt (hwk j hj)
  have hwb := World.block_lt_of_cell? u _ hw
  have hw' : (u.alloc it).cell? ⟨wb, 3, none⟩ = some (.chan (some (C j))) := (World.cell?_alloc_past _ _ _ hwb).trans hw
  obtain ⟨buf, s, r, hc, hsz⟩ := hwk j hj
  have hc' : (u.alloc it).heap[C j]? = some (.chan 1 buf false s r false) := by rw [heap_alloc_old u it hlt]; exact hc
  rcases Nat.eq_zero_or_pos buf.size with h0 | hp
  · obtain rfl : buf = #[] := Array.size_eq_zero_iff.1 h0
    refine (signal_room wb (C j) s r _ hw' hc').mono ?_
    rintro e w' ⟨rfl, rfl⟩
    refine ⟨rfl, u.setChan (C j) 1 #[.agg #[]] false (s + 1) r false, setChan_alloc _ _ _ _ _ _ _ _ _ hlt, hch.setChan hj hc _ _ _ _ _ _, fun i hi => wake_keep hlt _ _ _ (hwk i hi), full_set hlt _ _ _, fun i hi => full_keep hlt _ _ _ hi⟩
  · refine (signal_full wb (C j) s r buf _ hw' hc' hp).mono ?_
    rintro e w' ⟨rfl, rfl⟩
    exact ⟨rfl, u, rfl, hch, hwk, ⟨buf, s, r, hc, by omega⟩, fun _ h => h⟩
end Go.Proofs.Ybulkcbhs
