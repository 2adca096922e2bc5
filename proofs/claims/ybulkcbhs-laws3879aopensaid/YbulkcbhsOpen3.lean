/- seat b3879a: (*feed).setOpen where the run is the feed's -/
import Derived.Test.YbulkcbhsOpen2
namespace Go.Proofs.Ybulkcbhs
open Go Go.Conc Go.RowKit Go.MuLone

/-- what setOpen leaves -/
structure Opened (w w' : World) (fb rb n : Nat) (C : Nat → Nat) (ch : Option Nat) (ss : ByteArray) : Prop where
  os : w'.os = w.os
  output : w'.output = w.output
  size : w'.heap.size = w.heap.size + 2
  lock : w'.cell? ⟨fb, 0, none⟩ = some (.int .i32 0)
  chg : w'.cell? ⟨fb, 5, none⟩ = some (.chan (some (w.heap.size + 1)))
  ses : w'.cell? ⟨rb, 1, none⟩ = some (.string ss)
  cell : ∀ p : Addr, p.block < w.heap.size → p ≠ ⟨fb, 0, none⟩ → p ≠ ⟨fb, 5, none⟩ → p ≠ ⟨rb, 1, none⟩ → w'.cell? p = w.cell? p
  frozen : ∀ p : Addr, p.block < w.heap.size → w'.frozen? p = w.frozen? p
  block : ∀ k, k < w.heap.size → k ≠ fb → k ≠ rb → (∀ j, j < n → k ≠ C j) → ch ≠ some k → w'.heap[k]? = w.heap[k]?
  full : ∀ j, j < n → Full w' (C j)
  new : w'.heap[w.heap.size + 1]? = some (.chan 0 #[] false 0 0 false)
  old : ∀ c, ch = some c → w'.heap[c]? = some (.chan 0 #[] true 0 0 false)

theorem heap_setCell_chan {w : World} {a : Addr} {u : Value} {k cap s r : Nat} {buf : Array Value} {cl tm : Bool} (h : w.heap[k]? = some (.chan cap buf cl s r tm)) : (w.setCell a u).heap[k]? = some (.chan cap buf cl s r tm) := by
  simp only [World.setCell, Array.getElem?_modify]
  by_cases e : a.block = k
  · subst e; simp [h]
  · simp [e, h]
theorem heap_setCell_map {w : World} {a : Addr} {u : Value} {k clock : Nat} {es : Array MapEntry} (h : w.heap[k]? = some (.map es clock)) : (w.setCell a u).heap[k]? = some (.map es clock) := by
  simp only [World.setCell, Array.getElem?_modify]
  by_cases e : a.block = k
  · subst e; simp [h]
  · simp [e, h]
theorem frozen_setCell (w : World) (a p : Addr) (u : Value) : (w.setCell a u).frozen? p = w.frozen? p := by simp [go_sem]

/-- the world ahead of the loop -/
def w2of (w : World) (fb rb : Nat) (ss : ByteArray) : World := (w.setCell ⟨fb, 0, none⟩ (.int .i32 1)).setCell ⟨rb, 1, none⟩ (.string ss)

theorem w2_size (w : World) (fb rb : Nat) (ss : ByteArray) : (w2of w fb rb ss).heap.size = w.heap.size := by simp [w2of]
theorem w2_frozen (w : World) (fb rb : Nat) (ss : ByteArray) (p : Addr) : (w2of w fb rb ss).frozen? p = w.frozen? p := by rw [w2of, frozen_setCell, frozen_setCell]
theorem w2_cell (w : World) (fb rb : Nat) (ss : ByteArray) (p : Addr) (h1 : p ≠ ⟨fb, 0, none⟩) (h2 : p ≠ ⟨rb, 1, none⟩) : (w2of w fb rb ss).cell? p = w.cell? p := by
  rw [w2of, World.cell?_setCell_other _ _ _ _ (Ne.symm h2), World.cell?_setCell_other _ _ _ _ (Ne.symm h1)]
theorem w2_block (w : World) (fb rb : Nat) (ss : ByteArray) (k : Nat) (h1 : k ≠ fb) (h2 : k ≠ rb) : (w2of w fb rb ss).heap[k]? = w.heap[k]? := by
  rw [w2of, Below.heap_setCell _ _ _ _ h2, Below.heap_setCell _ _ _ _ h1]

theorem cell_alloc_lt {w : World} {o : Obj} {p : Addr} (h : p.block < w.heap.size) : (w.alloc o).cell? p = w.cell? p := World.cell?_of_block (w := w) (a := p) (heap_alloc_old w o h)
theorem frozen_alloc_lt {w : World} {o : Obj} {p : Addr} (h : p.block < w.heap.size) : (w.alloc o).frozen? p = w.frozen? p := World.frozen?_of_block (w := w) (a := p) (heap_alloc_old w o h)

/-- V: the world at announce's store -/
theorem opened_gen {w V : World} {fb rb n : Nat} {C : Nat → Nat} {ss : ByteArray} {ch : Option Nat} {m : Nat} (hm : m = w.heap.size + 1) (hbf : fb < w.heap.size) (hbr : rb < w.heap.size) (hrf : rb ≠ fb)
    (h0 : w.cell? ⟨fb, 0, none⟩ = some (.int .i32 0)) (h5 : w.cell? ⟨fb, 5, none⟩ = some (.chan ch)) {s0 : ByteArray} (hr : w.cell? ⟨rb, 1, none⟩ = some (.string s0))
    (hos : V.os = w.os) (hout : V.output = w.output) (hsz : V.heap.size = w.heap.size + 1) (hcell : ∀ p : Addr, p.block < w.heap.size → V.cell? p = (w2of w fb rb ss).cell? p) (hfr : ∀ p : Addr, p.block < w.heap.size → V.frozen? p = w.frozen? p)
    (hblk : ∀ k, k < w.heap.size → (∀ j, j < n → k ≠ C j) → ch ≠ some k → V.heap[k]? = (w2of w fb rb ss).heap[k]?) (hfull : ∀ j, j < n → Full V (C j)) (hold : ∀ c, ch = some c → V.heap[c]? = some (.chan 0 #[] true 0 0 false)) :
    Opened w (((V.setCell ⟨fb, 5, none⟩ (.chan (some m))).alloc (.chan 0 #[] false 0 0 false)).setCell ⟨fb, 0, none⟩ (.int .i32 0)) fb rb n C ch ss := by
  subst hm
  have hV5 : V.cell? ⟨fb, 5, none⟩ = some (.chan ch) := by rw [hcell _ hbf, w2_cell _ _ _ _ _ (by simp) (by simp)]; exact h5
  have hV0 : V.cell? ⟨fb, 0, none⟩ = some (.int .i32 1) := by
    rw [hcell _ hbf, w2of, World.cell?_setCell_other _ _ _ _ (by intro e; cases e)]
    exact World.cell?_setCell_same _ _ _ h0
  have hVr : V.cell? ⟨rb, 1, none⟩ = some (.string ss) := by
    rw [hcell _ hbr, w2of]
    exact World.cell?_setCell_same _ _ _ ((World.cell?_setCell_other _ _ _ _ (by intro e; cases e)).trans hr)
  have hX : ∀ p : Addr, p.block < w.heap.size → ((V.setCell ⟨fb, 5, none⟩ (.chan (some (w.heap.size + 1)))).alloc (.chan 0 #[] false 0 0 false)).cell? p = (V.setCell ⟨fb, 5, none⟩ (.chan (some (w.heap.size + 1)))).cell? p :=
    fun p hp => cell_alloc_lt (by simp [hsz]; omega)
  refine ⟨hos, hout, by simp [hsz], ?_, ?_, ?_, ?_, ?_, ?_, ?_, ?_, ?_⟩
  · refine World.cell?_setCell_same _ _ _ (u := .int .i32 1) ?_
    rw [hX _ hbf, World.cell?_setCell_other _ _ _ _ (by simp)]; exact hV0
  · rw [World.cell?_setCell_other _ _ _ _ (by simp), hX _ hbf]
    exact World.cell?_setCell_same _ _ _ hV5
  · rw [World.cell?_setCell_other _ _ _ _ (by intro e; cases e), hX _ hbr, World.cell?_setCell_other _ _ _ _ (by intro e; cases e)]
    exact hVr
  · intro p hp h1 h2 h3
    rw [World.cell?_setCell_other _ _ _ _ (Ne.symm h1), hX _ hp, World.cell?_setCell_other _ _ _ _ (Ne.symm h2), hcell _ hp, w2_cell _ _ _ _ _ h1 h3]
  · intro p hp
    rw [frozen_setCell, frozen_alloc_lt (by simp [hsz]; omega), frozen_setCell, hfr p hp]
  · intro k hk h1 h2 h3 h4
    rw [Below.heap_setCell _ _ _ _ h1, heap_alloc_old _ _ (by simp [hsz]; omega), Below.heap_setCell _ _ _ _ h1, hblk k hk h3 h4, w2_block _ _ _ _ _ h1 h2]
  · intro j hj
    obtain ⟨b, s, r, e1, e2⟩ := hfull j hj
    have hlt : C j < V.heap.size := (Array.getElem?_eq_some_iff.1 e1).1
    exact ⟨b, s, r, heap_setCell_chan (by rw [heap_alloc_old _ _ (by simpa using hlt)]; exact heap_setCell_chan e1), e2⟩
  · refine heap_setCell_chan ?_
    have := heap_alloc_new (V.setCell ⟨fb, 5, none⟩ (.chan (some (w.heap.size + 1)))) (.chan 0 #[] false 0 0 false)
    simpa [hsz] using this
  · intro c hc
    have e1 := hold c hc
    have hlt : c < V.heap.size := (Array.getElem?_eq_some_iff.1 e1).1
    exact heap_setCell_chan (by rw [heap_alloc_old _ _ (by simpa using hlt)]; exact heap_setCell_chan e1)

set_option maxRecDepth 100000 in
set_option maxHeartbeats 1600000 in
theorem setOpen_run (fb rb mb n : Nat) (C W : Nat → Nat) (es : Array MapEntry) (clock : Nat) (ch : Option Nat) (s0 ss : ByteArray) (w : World)
    (h0 : w.cell? ⟨fb, 0, none⟩ = some (.int .i32 0)) (z0 : w.frozen? ⟨fb, 0, none⟩ = false) (h2 : w.cell? ⟨fb, 2, none⟩ = some (.map (some mb)))
    (h4 : w.cell? ⟨fb, 4, none⟩ = some (.pointer (some ⟨rb, 0, none⟩))) (h5 : w.cell? ⟨fb, 5, none⟩ = some (.chan ch)) (z5 : w.frozen? ⟨fb, 5, none⟩ = false)
    (hr : w.cell? ⟨rb, 1, none⟩ = some (.string s0)) (zr : w.frozen? ⟨rb, 1, none⟩ = false) (hrf : rb ≠ fb) (hW : Waits w n C W mb es clock)
    (hold : ∀ c, ch = some c → w.heap[c]? = some (.chan 0 #[] false 0 0 false)) :
    Calls Yba.prog 6 #[.pointer (some ⟨fb, 0, none⟩), .pointer (some ⟨rb, 0, none⟩), .string ss] w fun e w' => e = .returned (.tuple #[]) ∧ Opened w w' fb rb n C ch ss := by
  have hnp := neq_ptr23_same ⟨rb, 0, none⟩
  have hbf := World.block_lt_of_cell? w _ h0
  have hbr := World.block_lt_of_cell? w _ hr
  have hmb : mb < w.heap.size := (Array.getElem?_eq_some_iff.1 hW.map).1
  simp only at hbf hbr
  have hw2m : (w2of w fb rb ss).heap[mb]? = some (.map es clock) := heap_setCell_map (heap_setCell_map hW.map)
  have hrg := run_range_map (P := Yba.prog) (w2of w fb rb ss) 36 47 4 mb es clock Yba.underlying36 hw2m
  simp only [w2of] at hrg
  go_enter_defers Yba.func6, Yba.ntmps6
  go_wp2_with (go_at_call 10; refine (lock8 fb w h0 z0).mono ?_; rintro e w' ⟨rfl, rfl⟩)
  clear hrg
  have e2 : (w.setCell ⟨fb, 0, none⟩ (.int .i32 1)).setCell ⟨rb, 1, none⟩ (.string ss) = w2of w fb rb ss := rfl
  rw [e2]
  clear e2
  go_loopw [6] (fun _ wr => ∃ (v : World) (seen : Array Nat), wr = v.alloc (.mapIter (some mb) clock seen clock) ∧ Chd n C (w2of w fb rb ss) v ∧ (∀ i, i < n → Wake v (C i)) ∧
      (∀ e ∈ es.toList, seen.contains e.born = true → ∀ j, j < n → e.key = .pointer (some ⟨W j, 0, none⟩) → Full v (C j))) (fun _ wr => (leftOf es (wr.iterSeen w.heap.size)).size)
  case atStart =>
    refine ⟨_, #[], rfl, Chd.refl _ _ _, fun i hi => ?_, fun e _ hs => by simp at hs⟩
    obtain ⟨b, s, r, e1, e2⟩ := hW.chan i hi
    exact ⟨b, s, r, heap_setCell_chan (heap_setCell_chan e1), e2⟩
  case round =>
    obtain ⟨v, seen, rfl, hch, hwk, hseen⟩ := hrel
    have hvs : v.heap.size = w.heap.size := by rw [hch.size, w2_size]
    have hvm : v.heap[mb]? = some (.map es clock) := by
      rw [hch.block mb (fun j hj e => ?_)]
      · exact hw2m
      · obtain ⟨b, s, r, e1, _⟩ := hW.chan j hj
        rw [← e, hW.map] at e1
        cases e1
    have hn := run_next_map (P := Yba.prog) v 0 mb clock clock seen es clock hvm hW.old (Nat.le_refl _)
    rw [hvs] at hn
    rcases hn with ⟨hz, hrun⟩ | ⟨en, hen, v1, hal, hrun⟩
    · have hfull : ∀ j, j < n → Full v (C j) := fun j hj => by
        obtain ⟨e, he, hk⟩ := hW.all j hj
        refine hseen e he ?_ j hj hk
        cases hs : seen.contains e.born with
        | true => rfl
        | false =>
          have hm : e ∈ leftOf es seen := by
            simp only [leftOf, Array.mem_filter]
            exact ⟨Array.mem_toList_iff.1 he, by rw [hs]; rfl⟩
          rw [Array.size_eq_zero_iff.1 hz] at hm
          simp at hm
      clear hseen hwk
      have hA5 : (v.alloc (.mapIter (some mb) clock seen clock)).cell? ⟨fb, 5, none⟩ = some (.chan ch) := by
        rw [cell_alloc_lt (by simp [hvs, hbf]), hch.cell, w2_cell _ _ _ _ _ (by simp) (by simp)]; exact h5
      have hAz : (v.alloc (.mapIter (some mb) clock seen clock)).frozen? ⟨fb, 5, none⟩ = false := by
        rw [frozen_alloc_lt (by simp [hvs, hbf]), hch.frozen, w2_frozen]; exact z5
      have hVc : ∀ p : Addr, p.block < w.heap.size → (v.alloc (.mapIter (some mb) clock seen clock)).cell? p = (w2of w fb rb ss).cell? p := fun p hp => by
        rw [cell_alloc_lt (by rw [hvs]; exact hp), hch.cell]
      have hVf : ∀ p : Addr, p.block < w.heap.size → (v.alloc (.mapIter (some mb) clock seen clock)).frozen? p = w.frozen? p := fun p hp => by
        rw [frozen_alloc_lt (by rw [hvs]; exact hp), hch.frozen, w2_frozen]
      have hVb : ∀ k, k < w.heap.size → (∀ j, j < n → k ≠ C j) → (v.alloc (.mapIter (some mb) clock seen clock)).heap[k]? = (w2of w fb rb ss).heap[k]? := fun k hk h => by
        rw [heap_alloc_old _ _ (by rw [hvs]; exact hk), hch.block k h]
      have hVF : ∀ j, j < n → Full (v.alloc (.mapIter (some mb) clock seen clock)) (C j) := fun j hj => by
        obtain ⟨b, s, r, e1, e2⟩ := hfull j hj
        exact ⟨b, s, r, by rw [heap_alloc_old _ _ (Array.getElem?_eq_some_iff.1 e1).1]; exact e1, e2⟩
      have hVs : (v.alloc (.mapIter (some mb) clock seen clock)).heap.size = w.heap.size + 1 := by simp [hvs]
      have hV1 : (w2of w fb rb ss).cell? ⟨fb, 0, none⟩ = some (.int .i32 1) := by
        rw [w2of, World.cell?_setCell_other _ _ _ _ (by intro e; cases e)]
        exact World.cell?_setCell_same _ _ _ h0
      have HAN : Hid (Calls Yba.prog 12 #[.pointer (some ⟨fb, 0, none⟩)] (v.alloc (.mapIter (some mb) clock seen clock)) fun e w' => e = .returned (.tuple #[]) ∧ w'.cell? ⟨fb, 0, none⟩ = some (.int .i32 1) ∧ w'.frozen? ⟨fb, 0, none⟩ = false ∧ Opened w (w'.setCell ⟨fb, 0, none⟩ (.int .i32 0)) fb rb n C ch ss) := by
        cases ch with
        | none =>
          refine (announce_nil fb _ hA5 hAz).mono ?_
          rintro e w' ⟨rfl, rfl⟩
          refine ⟨rfl, ?_, ?_, opened_gen hVs hbf hbr hrf h0 h5 hr hch.os hch.output hVs hVc hVf (fun k hk h1 _ => hVb k hk h1) hVF (fun c hc => by cases hc)⟩
          · rw [cell_alloc_lt (by simp; omega), World.cell?_setCell_other _ _ _ _ (by simp), hVc _ hbf]; exact hV1
          · rw [frozen_alloc_lt (by simp; omega), frozen_setCell, hVf _ hbf]; exact z0
        | some c =>
          have hc0 := hold c rfl
          have hcl : c < w.heap.size := (Array.getElem?_eq_some_iff.1 hc0).1
          have hcj : ∀ j, j < n → C j ≠ c := fun j hj e => by
            obtain ⟨b, s, r, e1, _⟩ := hW.chan j hj
            rw [e, hc0] at e1
            cases e1
          have hvc : (v.alloc (.mapIter (some mb) clock seen clock)).heap[c]? = some (.chan 0 #[] false 0 0 false) := by
            rw [hVb c hcl (fun j hj => Ne.symm (hcj j hj))]
            exact heap_setCell_chan (heap_setCell_chan hc0)
          refine (announce_some fb c 0 0 _ hA5 hAz hvc).mono ?_
          rintro e w' ⟨rfl, rfl⟩
          have q1 := cell_setChan hvc 0 #[] true 0 0 false
          have q2 := frozen_setChan hvc 0 #[] true 0 0 false
          have q3 := size_setChan (v.alloc (.mapIter (some mb) clock seen clock)) c 0 #[] true 0 0 false
          refine ⟨rfl, ?_, ?_, opened_gen hVs hbf hbr hrf h0 h5 hr hch.os hch.output (q3.trans hVs) (fun p hp => (q1 p).trans (hVc p hp)) (fun p hp => (q2 p).trans (hVf p hp)) (fun k hk h1 h2 => ?_) (fun j hj => ?_) (fun c' hc' => ?_)⟩
          · rw [cell_alloc_lt (by simp [size_setChan]; omega), World.cell?_setCell_other _ _ _ _ (by simp), q1, hVc _ hbf]; exact hV1
          · rw [frozen_alloc_lt (by simp [size_setChan]; omega), frozen_setCell, q2, hVf _ hbf]; exact z0
          · rw [setChan_heap_other _ _ _ _ _ _ _ _ _ (by intro e; exact h2 (by rw [e]))]
            exact hVb k hk h1
          · obtain ⟨b, s, r, e1, e2⟩ := hVF j hj
            exact ⟨b, s, r, (setChan_heap_other _ _ _ _ _ _ _ _ _ (Ne.symm (hcj j hj))).trans e1, e2⟩
          · cases hc'
            exact heap_setChan _ _ _ _ _ _ _ _ (by rw [hVs]; omega)
      clear hVF hVb hVf hVc hAz hA5 hfull hch
      go_wp2_with (go_at_call 12; refine HAN.out.mono ?_; rintro e w' ⟨rfl, hl1, hlz, hop⟩)
      refine leaves_cons (f := 8) (args := #[.pointer (some ⟨fb, 0, none⟩)]) (by simp) (by simp [go_sem]) ?_
      refine (unlock8 fb .returning _ hl1 hlz).mono ?_
      rintro e u' w'' ⟨rfl, rfl, rfl⟩
      exact ⟨_, results_none rfl _ _ _, rfl, hop⟩
    · obtain ⟨hin, hns⟩ := mem_left hen
      have hch1 := hch.alike hal
      have hv1s : v1.heap.size = w.heap.size := by rw [hal.1]; exact hvs
      have hv1m : v1.heap[mb]? = some (.map es clock) := by rw [hal.1]; exact hvm
      have hent := run_entry_map (P := Yba.prog) v1 mb clock seen es clock en hv1m hin hW.nodup
      rw [hv1s] at hent
      obtain ⟨j, hj, hkey⟩ := hW.keys en hin
      rw [hkey] at hrun hent
      have hwk1 : ∀ i, i < n → Wake v1 (C i) := fun i hi => by
        obtain ⟨b, s, r, e1, e2⟩ := hwk i hi
        exact ⟨b, s, r, by rw [hal.1]; exact e1, e2⟩
      have hwc : v1.cell? ⟨W j, 3, none⟩ = some (.chan (some (C j))) := by
        rw [hch1.cell, w2_cell _ _ _ _ _ (by simp) (by simp)]
        exact hW.wake j hj
      have HS : Hid (Calls Yba.prog 11 #[.pointer (some ⟨W j, 0, none⟩)] (v1.alloc (.mapIter (some mb) clock (seen.push en.born) clock)) fun e w' => e = .returned (.tuple #[]) ∧ ∃ u', w' = u'.alloc (.mapIter (some mb) clock (seen.push en.born) clock) ∧ Chd n C (w2of w fb rb ss) u' ∧ (∀ i, i < n → Wake u' (C i)) ∧ Full u' (C j) ∧ (∀ i, Full v1 (C i) → Full u' (C i))) :=
        signal_iter (W j) j hj v1 _ hwc hch1 hwk1
      go_wp2_with (go_at_call 11; refine HS.out.mono ?_; rintro e w' ⟨rfl, u', rfl, hch2, hwk2, hf2, hk2⟩)
      go_roundw
      case rel =>
        refine ⟨u', seen.push en.born, rfl, hch2, hwk2, fun e he hs j' hj' hk => ?_⟩
        rw [contains_push] at hs
        rcases Bool.or_eq_true _ _ |>.mp hs with hs | hs
        · obtain ⟨b, s, r, e1, e2⟩ := hseen e he hs j' hj' hk
          exact hk2 _ ⟨b, s, r, by rw [hal.1]; exact e1, e2⟩
        · have h1 := find_born e es.toList hW.nodup he
          have h2 := find_born en es.toList hW.nodup hin
          rw [beq_iff_eq.1 hs, h2] at h1
          cases h1
          rw [hkey] at hk
          have : j = j' := hW.winj j j' hj hj' (by simpa using hk)
          subst this
          exact hf2
      case measure =>
        have m1 : (v.alloc (.mapIter (some mb) clock seen clock)).iterSeen w.heap.size = seen := by rw [← hvs]; exact World.iterSeen_alloc ..
        have m2 : (u'.alloc (.mapIter (some mb) clock (seen.push en.born) clock)).iterSeen w.heap.size = seen.push en.born := by rw [← w2_size w fb rb ss, ← hch2.size]; exact World.iterSeen_alloc ..
        rw [m1, m2]
        exact left_shrinks es seen en hen
end Go.Proofs.Ybulkcbhs
