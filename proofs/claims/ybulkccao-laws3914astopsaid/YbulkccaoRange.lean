/- seat b3914a: a range over an iterator that itself ranges over iterators -/
import Derived.Test.YbulkccaoRecords
namespace Go.Proofs.Ybulkccao
open Go Go.RowKit Go.Shelf

theorem range_records {g : Operand} {ps : Array Tmp} {assign body : Code} {Q : Exit → Act → World → Prop} {a : Act} {w : World} {n n₀ : Nat} {lb : Array Value} {T : List Rec}
    (hg : a.eval g = .func (.func 32) #[] lb) (hps : ps.size = 1) (hn₀ : n₀ ≤ w.heap.size)
    (hseq : ∀ (l : Nat) (J Jx : List Rec → World → Prop) (W : World), Below w.heap.size w W → OwnFrom W.heap.size J → OwnFrom W.heap.size Jx → RoundOk n₀ W.heap.size J Jx l → J [] W →
      CallsIn Fence.wide (n - 1) Yba.prog 32 (#[.func (.yield l) #[] #[]] ++ lb) W fun e W' => (∃ v, e = .returned v) ∧ (J T W' ∨ ∃ pre, pre <+: T ∧ Jx pre W'))
    (I Ix : List Rec → World → Prop) (hI : OwnFrom w.heap.size I) (hIx : OwnFrom w.heap.size Ix) (h0 : I [] w)
    (Ax : Rec → Act → World → Prop) (hAx : ∀ x a', OwnFrom w.heap.size (fun (_ : Unit) W => Ax x a' W))
    (hassign : ∀ (m l : Nat) (pre : List Rec) (x : Rec) (W : World) (K : Act → World → Prop), I pre W → w.heap.size ≤ W.heap.size → (∀ a' W', KeepsFrom w.heap.size W W' → KpC n₀ W W' → I pre W' → Ax x a' W' → K a' W') →
      assign.wpIn (Fence.wide.inRound l) m Yba.prog (Exit.then K (fun _ _ _ => False)) { tmps := (ps.zip x.enc).foldl (fun t (p, v) => t.setIfInBounds p v) a.tmps, defers := [] } W)
    (hbody : ∀ (m l : Nat) (pre : List Rec) (x : Rec) (a' : Act) (W : World), I pre W → Ax x a' W → w.heap.size ≤ W.heap.size → body.wpIn (Fence.wide.inRound l) m Yba.prog (fun e _ W' => match e with
      | .normal => KeepsFrom w.heap.size W W' ∧ KpC n₀ W W' ∧ I (pre ++ [x]) W'
      | .exit id => id = 0 ∧ KeepsFrom w.heap.size W W' ∧ KpC n₀ W W' ∧ Ix (pre ++ [x]) W'
      | _ => False) a' W)
    (hdone : ∀ (D : Nat) (W : World), w.heap.size ≤ D → I T W → W.heap[D]? = some (.deferred (some [])) → Q .normal { a with defers := { target := .collected D, args := #[] } :: a.defers } W)
    (hstop : ∀ (D : Nat) (pre : List Rec) (W : World), w.heap.size ≤ D → pre <+: T → Ix pre W → W.heap[D]? = some (.deferred (some [])) → (Code.exit 0).wpIn Fence.wide n Yba.prog Q { a with defers := { target := .collected D, args := #[] } :: a.defers } W) :
    (Code.rangeFunc g ps assign body).wpIn Fence.wide n Yba.prog Q a w := by
  refine wpIn_rangeFunc fun fn hfn => ?_
  let lo : LoopState → Option Code → Loop := fun st pe => { state := st, pending := pe, fn, tmps := a.tmps, params := ps, assign, body, defers := w.heap.size }
  obtain ⟨V, hV⟩ : ∃ V, V = (w.alloc (.deferred (some []))).alloc (.loop (lo .ready none)) := ⟨_, rfl⟩
  have hVs : V.heap.size = w.heap.size + 2 := by rw [hV]; simp
  have hVl : V.heap[w.heap.size + 1]? = some (.loop (lo .ready none)) := by
    rw [hV]
    have := World.alloc_heap_new (w.alloc (.deferred (some []))) (.loop (lo .ready none))
    rwa [World.size_alloc] at this
  have hVd : V.heap[w.heap.size]? = some (.deferred (some [])) := by
    rw [hV]
    exact (Below.heap_alloc _ _ _ (by simp)).trans (World.alloc_heap_new w _)
  have hVb : Below w.heap.size w V := by rw [hV]; exact ((Below.refl _ w).alloc (Nat.le_refl _) _).alloc (by simp) _
  have hVI : I [] V := by rw [hV]; exact hI.alloc _ (hI.alloc _ h0)
  refine ⟨w.heap.size + 1, [{ target := .collected w.heap.size, args := #[] }], V, { target := .fn (.func 32) lb, args := #[.func (.yield (w.heap.size + 1)) #[] #[]] }, V, 32, #[.func (.yield (w.heap.size + 1)) #[] #[]] ++ lb, V, ?_, ?_, fun _ _ => trivial, ?_, (fun h => by cases h), ?_⟩
  · rw [hV]; exact run_enterLoop_outer _ _ _ _ _
  · simp only [resolve, hg]
    simp [go_sem]
  · simp [invoke, go_sem]
  · refine (hseq (w.heap.size + 1) (fun pre W => I pre W ∧ W.heap[w.heap.size + 1]? = some (.loop (lo .ready none)) ∧ W.heap[w.heap.size]? = some (.deferred (some [])))
      (fun pre W => Ix pre W ∧ W.heap[w.heap.size + 1]? = some (.loop (lo .done (some (.exit 0)))) ∧ W.heap[w.heap.size]? = some (.deferred (some []))) V hVb ?_ ?_ ?_ ⟨hVI, hVl, hVd⟩).mono ?_
    · rintro s A B row ⟨h1, h2, h3⟩ hgr hr
      exact ⟨hI s A B row h1 hgr (fun r e => ⟨by have := (hr r e).1; omega, (hr r e).2⟩), (hgr.block _ (Array.getElem?_eq_some_iff.1 h2).1 (fun e => by have := (hr _ e.symm).1; omega)).trans h2, (hgr.block _ (Array.getElem?_eq_some_iff.1 h3).1 (fun e => by have := (hr _ e.symm).1; omega)).trans h3⟩
    · rintro s A B row ⟨h1, h2, h3⟩ hgr hr
      exact ⟨hIx s A B row h1 hgr (fun r e => ⟨by have := (hr r e).1; omega, (hr r e).2⟩), (hgr.block _ (Array.getElem?_eq_some_iff.1 h2).1 (fun e => by have := (hr _ e.symm).1; omega)).trans h2, (hgr.block _ (Array.getElem?_eq_some_iff.1 h3).1 (fun e => by have := (hr _ e.symm).1; omega)).trans h3⟩
    · intro m pre x W1 ⟨h1, h2, h3⟩ hb hn
      have hl : w.heap.size + 1 < W1.heap.size := by omega
      have hy := run_yield (P := Yba.prog) (args := x.enc) h2 (by simp [lo, hps, Rec.enc])
      refine ⟨fn, _, assign, body, hy, roundIn_of_wpIn hfn (hassign m (w.heap.size + 1) pre x W1 _ h1 (by omega) ?_)⟩
      intro a' W2 hk2 hp2 hi2 hx2
      have h22 : W2.heap[w.heap.size + 1]? = some (.loop (lo .ready none)) := hk2.same _ _ (by omega) h2 rfl
      have h23 : W2.heap[w.heap.size]? = some (.deferred (some [])) := hk2.same _ _ (by omega) h3 rfl
      refine ⟨_, run_beginRound h22 rfl, ?_⟩
      obtain ⟨W3, hW3⟩ : ∃ W3, W3 = W2.putObj (w.heap.size + 1) (.loop { lo .ready none with state := .busy }) := ⟨_, rfl⟩
      have h2l := (Array.getElem?_eq_some_iff.1 h22).1
      have h32 : W3.heap[w.heap.size + 1]? = some (.loop { lo .ready none with state := .busy }) := by rw [hW3]; exact World.putObj_heap_same h2l
      have h33 : W3.heap[w.heap.size]? = some (.deferred (some [])) := by rw [hW3]; exact (World.putObj_heap_other (by omega)).trans h23
      have hi3 : I pre W3 := by rw [hW3]; exact hI.putObj _ hi2 (by omega) h22 rfl
      have hx3 : Ax x a' W3 := by rw [hW3]; exact (hAx x a').putObj (s := ()) _ hx2 (by omega) h22 rfl
      have hp3 : KpC n₀ W2 W3 := by rw [hW3]; exact KpC.put (B := w.heap.size) hn₀ W2 (w.heap.size + 1) _ _ (by omega) h22 rfl
      have hk3 : KeepsFrom (w.heap.size + 2) W2 W3 := ⟨by rw [hW3]; simp, fun k o hk ho _ => by rw [hW3]; exact (World.putObj_heap_other (by omega)).trans ho⟩
      have hs3 : w.heap.size ≤ W3.heap.size := by have := hk3.size; omega
      rw [← hW3]
      refine wpIn_mono (hbody m (w.heap.size + 1) pre x a' W3 hi3 hx3 hs3) ?_
      intro e a4 W4 hq
      cases e with
      | normal =>
        obtain ⟨hk4, hp4, hi4⟩ := hq
        have h42 := hk4.same _ _ (by omega) h32 rfl
        have h43 := hk4.same _ _ (by omega) h33 rfl
        refine ⟨_, _, run_endRound none h42, true, rfl, (fun _ => ⟨hI.putObj _ hi4 (by omega) h42 rfl, World.putObj_heap_same (Array.getElem?_eq_some_iff.1 h42).1, (World.putObj_heap_other (by omega)).trans h43⟩), (fun h => by cases h), ((hp2.trans hp3).trans hp4).trans (KpC.put (B := w.heap.size) hn₀ W4 (w.heap.size + 1) _ _ (by omega) h42 rfl), ?_⟩
        refine (KeepsFrom.trans (KeepsFrom.trans ⟨hk2.size, fun k o hk => hk2.same k o (by omega)⟩ ?_) ⟨hk4.size, fun k o hk => hk4.same k o (by omega)⟩).trans ⟨by simp, fun k o hk ho _ => (World.putObj_heap_other (by omega)).trans ho⟩
        exact ⟨hk3.size, fun k o hk => hk3.same k o (by omega)⟩
      | exit id =>
        obtain ⟨rfl, hk4, hp4, hi4⟩ := hq
        have h42 := hk4.same _ _ (by omega) h32 rfl
        have h43 := hk4.same _ _ (by omega) h33 rfl
        refine ⟨_, _, run_endRound (some (.exit 0)) h42, false, rfl, (fun h => by cases h), (fun _ => ⟨hIx.putObj _ hi4 (by omega) h42 rfl, World.putObj_heap_same (Array.getElem?_eq_some_iff.1 h42).1, (World.putObj_heap_other (by omega)).trans h43⟩), ((hp2.trans hp3).trans hp4).trans (KpC.put (B := w.heap.size) hn₀ W4 (w.heap.size + 1) _ _ (by omega) h42 rfl), ?_⟩
        refine (KeepsFrom.trans (KeepsFrom.trans ⟨hk2.size, fun k o hk => hk2.same k o (by omega)⟩ ?_) ⟨hk4.size, fun k o hk => hk4.same k o (by omega)⟩).trans ⟨by simp, fun k o hk ho _ => (World.putObj_heap_other (by omega)).trans ho⟩
        exact ⟨hk3.size, fun k o hk => hk3.same k o (by omega)⟩
      | ret => exact hq.elim
      | goto _ => exact hq.elim
      | panic _ => exact hq.elim
      | outgrown => exact hq.elim
    · rintro e W2 ⟨⟨v, rfl⟩, ⟨hi, h2, h3⟩ | ⟨pre, hpre, hi, h2, h3⟩⟩
      · exact ⟨none, _, run_endLoop h2 (by simp [lo]), hdone w.heap.size _ (Nat.le_refl _) (hI.putObj _ hi (by omega) h2 rfl) ((World.putObj_heap_other (by omega)).trans h3)⟩
      · exact ⟨some (.exit 0), _, run_endLoop h2 (by simp [lo]), hstop w.heap.size pre _ (Nat.le_refl _) hpre (hIx.putObj _ hi (by omega) h2 rfl) ((World.putObj_heap_other (by omega)).trans h3)⟩
end Go.Proofs.Ybulkccao
