/- seat b3914a: New (7) -/
import Derived.Test.YbulkccaoZone
namespace Go.Proofs.Ybulkccao
open Go Go.RowKit

/-- a zone's cells: its apex, its map, its SOA record's four cells -/
def zcells (x : Value) (M : Nat) (s : Array Value) : Array Value := #[.string (bs (encL [com])), x, .map (some M), s.getD 0 .nilIface, s.getD 1 .nilIface, s.getD 2 .nilIface, s.getD 3 .nilIface, .int .i64 0, .map none, .slice none 0 0, .slice none 0 0]
def noSoa : Array Value := #[.string ⟨#[]⟩, .int .u16 0, .int .u32 0, .nilIface]
theorem com_bs : (⟨#[3, 99, 111, 109, 0]⟩ : ByteArray) = bs (encL [com]) := by decide +kernel

theorem Zn.setZ {w : World} {B Z M : Nat} {zc : Array Value} {ns : List Nd} (h : Zn w B Z M zc ns) (o : Nat) (v : Value) (h0 : o ≠ 0) (h2 : o ≠ 2) : Zn (w.setCell ⟨Z, o, none⟩ v) B Z M (zc.setIfInBounds o v) ns := by
  have hne : ∀ {k : Nat} {x : Obj}, w.heap[k]? = some x → (∀ c f, x ≠ .cells c 48 f) → (w.setCell ⟨Z, o, none⟩ v).heap[k]? = some x := by
    intro k x hk hx
    rw [Below.heap_setCell _ _ _ _ (by
      show k ≠ Z
      rintro rfl
      rw [h.zone.1] at hk
      cases hk
      exact hx _ _ rfl)]
    exact hk
  obtain ⟨es, clock, hm, hi⟩ := h.map
  refine ⟨⟨heap_setCell_own h.zone.1, ?_, ?_⟩, ⟨es, clock, hne hm (by simp), hi⟩, h.wf, h.keys, fun n hn => hne (h.node n hn) (by simp), h.ptrs, h.ge⟩
  · rw [Array.getElem?_setIfInBounds_ne h0]; exact h.zone.2.1
  · rw [Array.getElem?_setIfInBounds_ne h2]; exact h.zone.2.2

set_option maxRecDepth 100000 in
set_option maxHeartbeats 1600000 in
theorem new_run (w : World) : Calls Yba.prog 7 #[.string (bs (encL [com]))] w fun e w' => ∃ (Z M : Nat) (p : Nd) (ns : List Nd), e = .returned (.pointer (some ⟨Z, 0, none⟩)) ∧ Zn w' w.heap.size Z M (zcells (.pointer (some ⟨p.1, 0, none⟩)) M noSoa) ns ∧ p ∈ ns ∧ nkey p.2 = nkey [com] ∧ ns.length ≤ 1 ∧ Below w.heap.size w w' := by
  have hcom : WFL [com] := ⟨by simp, by simp [com]⟩
  have hz0 : Zn ((w.alloc (Obj.map #[] 0)).alloc (Obj.cells (zcells (.pointer none) w.heap.size noSoa) 48)) w.heap.size (w.heap.size + 1) w.heap.size (zcells (.pointer none) w.heap.size noSoa) [] := by
    refine ⟨⟨by rw [show w.heap.size + 1 = (w.alloc (Obj.map #[] 0)).heap.size by simp]; exact heap_alloc_new _ _, rfl, rfl⟩, ⟨#[], 0, by rw [heap_alloc_old _ _ (by simp)]; exact heap_alloc_new _ _, ⟨rfl, by simp [MapKept.Stamped]⟩⟩, by simp, by simp, by simp, by simp, by omega, by omega, by simp⟩
  have hN := node_run w.heap.size (w.heap.size + 1) w.heap.size _ [com] hcom ⟨[], rfl⟩ [] _ hz0 (by simp; omega)
  simp only [zcells, noSoa, Array.getD, List.size_toArray, List.length_cons, List.length_nil, Nat.reduceAdd, Nat.reduceLT, dite_true, List.getElem_toArray, List.getElem_cons_zero, List.getElem_cons_succ, Array.getInternal_eq_getElem] at hN
  have hB0 : Below w.heap.size w ((w.alloc (Obj.map #[] 0)).alloc (Obj.cells (zcells (.pointer none) w.heap.size noSoa) 48)) := ((Below.refl _ w).alloc (Nat.le_refl _) _).alloc (by simp) _
  simp only [zcells, noSoa, Array.getD, List.size_toArray, List.length_cons, List.length_nil, Nat.reduceAdd, Nat.reduceLT, dite_true, List.getElem_toArray, List.getElem_cons_zero, List.getElem_cons_succ, Array.getInternal_eq_getElem] at hB0
  clear hz0 hcom
  obtain ⟨t, ht⟩ : ∃ t, encL [com] = t := ⟨_, rfl⟩
  rw [ht] at hN hB0 ⊢
  go_enter Yba.func7, Yba.ntmps7
  have hmm := @run_makeMap Yba.prog
  go_wp2_with (go_at_call 8; refine hN.mono ?_; clear hN; rintro e w3 ⟨n, ns, rfl, hn, hk, hz, hg, hl, hm⟩; have hzc := hz.zone.1; have f1 := frozen_blk (o := 1) hzc; have c1 : w3.cell? ⟨w.heap.size + 1, 1, none⟩ = some (.pointer none) := cell_blk hzc rfl)
  go_ret
  simp only [List.nil_append] at hn hz
  refine ⟨w.heap.size + 1, w.heap.size, n, ns, rfl, ?_, hn, hk, by simpa using hl, ?_⟩
  · have := hz.setZ 1 (.pointer (some ⟨n.1, 0, none⟩)) (by decide) (by decide)
    simpa [zcells, noSoa, ← ht] using this
  · refine (hB0.trans ⟨hg.os, hg.tape, hg.output, hg.size, fun k hk => hg.block k (by simp; omega) (by simp; omega)⟩).setCell (p := ⟨w.heap.size + 1, 1, none⟩) (by simp) _
end Go.Proofs.Ybulkccao
