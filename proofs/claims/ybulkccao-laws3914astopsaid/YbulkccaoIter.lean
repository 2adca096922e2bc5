/- seat b3914a: the iterators -/
import Derived.RangeFuncNested
import Derived.RangeFuncBound
import Derived.RangeFuncCalls
import Derived.RangeFuncLeaves
import Derived.Shelf.Abstract
import Derived.Shelf.RegionOpen
import Derived.WalkKit
import Derived.OwnWalkIn
import Derived.TacticsInMore
import Derived.LoopNIn
import Derived.LoopIn
import Derived.Test.YbulkccaoRecs
import Derived.Test.YbulkccaoSorted
namespace Go.Proofs.Ybulkccao
open Go Go.RowKit Go.Shelf
attribute [local go_sem] Oper.semAt_some

/-- what a round of the law's loop leaves as it was: what lies below n₀, and every row of cells that is neither the list's box nor a row of records -/
structure KpC (n₀ : Nat) (W W' : World) : Prop where
  size : W.heap.size ≤ W'.heap.size
  low : ∀ k, k < n₀ → W'.heap[k]? = W.heap[k]?
  same : ∀ (k : Nat) (c : Array Value) (t : TypeId) (f : Nat × Nat), W.heap[k]? = some (.cells c t f) → t ≠ 26 → t ≠ 38 → W'.heap[k]? = some (.cells c t f)
theorem KpC.refl (n₀ : Nat) (W : World) : KpC n₀ W W := ⟨Nat.le_refl _, fun _ _ => rfl, fun _ _ _ _ h _ _ => h⟩
theorem KpC.trans {n₀ : Nat} {A B C : World} (h : KpC n₀ A B) (k : KpC n₀ B C) : KpC n₀ A C :=
  ⟨Nat.le_trans h.size k.size, fun q hq => (k.low q hq).trans (h.low q hq), fun q c t f hq h1 h2 => k.same q c t f (h.same q c t f hq h1 h2) h1 h2⟩
theorem KpC.put {n₀ B : Nat} (hB : n₀ ≤ B) (W : World) (l : Nat) (o o' : Obj) (hl : B ≤ l) (ho : W.heap[l]? = some o) (hc : o.isCells = false) : KpC n₀ W (W.putObj l o') := by
  have hg := grownBy_putObj' W l o'
  refine ⟨hg.size, fun k hk => ?_, fun k c t f hk _ _ => ?_⟩
  · by_cases e : k < W.heap.size
    · exact hg.block k e (by simp; omega)
    · have h2 : (W.putObj l o').heap.size = W.heap.size := by simp
      rw [Array.getElem?_eq_none (by omega), Array.getElem?_eq_none (by omega)]
  · refine (hg.block k (Array.getElem?_eq_some_iff.1 hk).1 ?_).trans hk
    intro e
    cases e
    rw [ho] at hk
    cases hk
    simp [Obj.isCells] at hc
theorem KpC.alloc (n₀ : Nat) (W : World) (hn : n₀ ≤ W.heap.size) (o : Obj) : KpC n₀ W (W.alloc o) :=
  ⟨by simp, fun k hk => Below.heap_alloc _ _ k (by omega), fun k c t f hk _ _ => (Below.heap_alloc _ _ k (Array.getElem?_eq_some_iff.1 hk).1).trans hk⟩

/-- the sorted nodes: a box that holds the slice, and the slice's row -/
structure SortedAt (W : World) (Bs g cap : Nat) (ss : List Nd) : Prop where
  box : W.heap[Bs]? = some (.cells #[.slice (some ⟨g, 0, none⟩) ss.length cap] 68 (0, 0))
  row : ∃ cur : Array Value, W.heap[g]? = some (.cells cur 74 (0, 0)) ∧ ∀ j (h : j < ss.length), (∃ s, cur[j * 2]? = some (.string s)) ∧ cur[j * 2 + 1]? = some (nptr ss[j])
theorem SortedAt.kept {W W' : World} {Bs g cap : Nat} {ss : List Nd} {n₀ : Nat} (h : SortedAt W Bs g cap ss) (hk : KpC n₀ W W') : SortedAt W' Bs g cap ss := by
  obtain ⟨cur, hg, hc⟩ := h.row
  exact ⟨hk.same _ _ _ _ h.box (by decide) (by decide), cur, hk.same _ _ _ _ hg (by decide) (by decide), hc⟩
theorem SortedAt.grown {W W' : World} {Bs g cap : Nat} {ss : List Nd} (h : SortedAt W Bs g cap ss) (hk : ∀ k, k < W.heap.size → W'.heap[k]? = W.heap[k]?) : SortedAt W' Bs g cap ss := by
  obtain ⟨cur, hg, hc⟩ := h.row
  exact ⟨(hk _ (Array.getElem?_eq_some_iff.1 h.box).1).trans h.box, cur, (hk _ (Array.getElem?_eq_some_iff.1 hg).1).trans hg, hc⟩

set_option maxRecDepth 100000 in
set_option maxHeartbeats 2000000 in
theorem seq17_in (F : Fence) (n : Nat) (h17 : F.fn 17) (hro : F.round = none) (hn : 1 ≤ n) (l Bs g cap n₀ : Nat) (ss : List Nd) (hss : ss.length ≤ 1000) (J Jx : List { n : Nd // n ∈ ss } → World → Prop)
    (W : World) (hJ : AbidesFrom W.heap.size J)
    (hY : ∀ pre x W1, J pre W1 → pre.length < ss.length → YieldAt F (n - 1) Yba.prog l #[nptr x.1] W1 fun e W' =>
      (e = .returned (.bool true) ∧ J (pre ++ [x]) W' ∧ KpC n₀ W1 W') ∨ (e = .returned (.bool false) ∧ Jx (pre ++ [x]) W'))
    (hS : SortedAt W Bs g cap ss) (h0 : J [] W) :
    CallsIn F n Yba.prog 17 #[.func (.yield l) #[] #[], .pointer (some ⟨Bs, 0, none⟩)] W fun e W' => (∃ v, e = .returned v) ∧
      ((∃ xs : List { n : Nd // n ∈ ss }, xs.map (·.1) = ss ∧ J xs W') ∨ (∃ pre : List { n : Nd // n ∈ ss }, pre.map (·.1) <+: ss ∧ Jx pre W')) := by
  refine callsIn_of_wp Yba.func17 rfl h17 ?_ hro
  simp only [Yba.ntmps17, List.size_toArray, List.length_cons, List.length_nil, Nat.reduceAdd, Nat.reduceSub, Array.replicate_succ, Array.replicate_zero, List.push_toArray, List.append_toArray, List.nil_append, List.cons_append]
  have cB : W.cell? ⟨Bs, 0, none⟩ = some (.slice (some ⟨g, 0, none⟩) ss.length cap) := cell_blk hS.box rfl
  gi_wp2
  gi_loopw [7] (fun i wr => ∃ (k : Nat) (pre : List { n : Nd // n ∈ ss }), k ≤ ss.length ∧ i = .int .i64 k ∧ SortedAt wr Bs g cap ss ∧ pre.map (·.1) = ss.take k ∧ J pre wr) (fun i _ => ss.length - (RowKit.intOf i).toNat)
  case atStart => exact ⟨0, [], by omega, rfl, hS, by simp, h0⟩
  case round =>
    obtain ⟨k, pre, hk, rfl, hSk, hpre, hJk⟩ := hrel
    rcases Nat.lt_or_ge k ss.length with hkl | hkl
    · obtain ⟨x, hx⟩ : ∃ x, ss[k] = x := ⟨_, rfl⟩
      obtain ⟨cur, hg, hc⟩ := hSk.row
      obtain ⟨⟨s, hc0⟩, hc1⟩ := hc k hkl
      rw [hx] at hc1
      have c0 : wr.cell? ⟨g, k * 2, none⟩ = some (.string s) := cell_blk hg hc0
      have c1 : wr.cell? ⟨g, k * 2 + 1, none⟩ = some (.pointer (some ⟨x.1, 0, none⟩)) := cell_blk hg hc1
      have hJ2 : J pre (wr.alloc (Obj.cells #[.string s, .pointer (some ⟨x.1, 0, none⟩)] 74)) := hJ _ wr _ none hJk (World.grownBy_alloc _ _ _) (fun r e => by cases e)
      have htk : ss.take (k + 1) = ss.take k ++ [x] := by rw [List.take_succ_eq_append_getElem hkl, hx]
      have hS2 := hSk.grown (W' := wr.alloc (Obj.cells #[.string s, .pointer (some ⟨x.1, 0, none⟩)] 74)) (fun k hk => Below.heap_alloc _ _ k hk)
      have hxs : x ∈ ss := by rw [← hx]; exact List.getElem_mem hkl
      have hpl : pre.length < ss.length := by have := congrArg List.length hpre; simp at this; omega
      obtain ⟨fn, tmps, assign, body, hy, hR⟩ := hY pre ⟨x, hxs⟩ _ hJ2 hpl
      simp only [nptr] at hy
      clear hx hc hc0 hc1 hg
      gi_wp2
      refine hR.mono ?_
      rintro e W3 (⟨rfl, hJ3, hk3⟩ | ⟨rfl, hJx3⟩)
      · gi_wp2
        go_roundw
        case rel => exact ⟨k + 1, pre ++ [⟨x, hxs⟩], by omega, rfl, hS2.kept hk3, by rw [htk]; simp [hpre], hJ3⟩
        case measure =>
          simp [RowKit.intOf]
          omega
      · gi_wp2
        refine bodyPost_ret (results_none rfl _ _ _) rfl ?_
        exact ⟨⟨_, rfl⟩, .inr ⟨_, by simp only [List.map_append, hpre, List.map_cons, List.map_nil]; rw [← htk]; exact List.take_prefix _ _, hJx3⟩⟩
    · gi_wp2
      go_end0
      exact ⟨⟨_, rfl⟩, .inl ⟨pre, by rw [hpre, List.take_of_length_le hkl], hJk⟩⟩
end Go.Proofs.Ybulkccao
