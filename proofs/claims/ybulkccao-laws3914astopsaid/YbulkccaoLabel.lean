/- seat b3914a: zzs3914alabel, zzs3914aname -/
import Derived.Test.YbulkccaoKey
import Derived.Deep.OwnRows
namespace Go.Proofs.Ybulkccao
open Go Go.RowKit Go.Lib

theorem made4 : madeCells (Value.int .u8 0).cells 4 = #[.int .u8 0, .int .u8 0, .int .u8 0, .int .u8 0] := by
  apply Array.ext (by simp [madeCells])
  intro i h1 h2
  simp at h2
  obtain rfl | rfl | rfl | rfl : i = 0 ∨ i = 1 ∨ i = 2 ∨ i = 3 := by omega
  all_goals simp [madeCells, Value.cells]
theorem mk4 (w : World) : (Instr.makeSlice 45 (.int .i64 0) (.int .i64 4)).run Yba.prog w = .ok (.slice (some ⟨w.heap.size, 0, none⟩) 0 4) (w.alloc (.cells #[.int .u8 0, .int .u8 0, .int .u8 0, .int .u8 0] 5)) := by
  obtain ⟨i, hi, hzz⟩ := Option.map_eq_some_iff.1 (show (Yba.prog.info? 5).map (fun i => (i.zero, i.size, i.bytes)) = some (some (.int .u8 0), 1, 1) by kernel_rfl)
  simp only [Prod.mk.injEq] at hzz
  obtain ⟨hz, hs, hb⟩ := hzz
  have h := run_make (P := Yba.prog) w 45 5 i (.int .u8 0) Yba.underlying45 hi hz .i64 .i64 0 4 (by omega) (by omega) (by rw [hb]; omega) (by omega)
  simpa [hs, made4] using h

/-- a label's row under way: its bytes behind the length's place -/
def LabRow (w : World) (g : Nat) (l : Bytes) : Prop := ∃ cs : Array Value, w.heap[g]? = some (.cells cs 5 (0, 0)) ∧ cs.size = 4 ∧ (∃ x, cs[0]? = some (.int .u8 x)) ∧ ∀ j (h : j < l.length), cs[j + 1]? = some (.int .u8 l[j].toNat)

theorem LabRow.push {w : World} {g : Nat} {l : Bytes} (h : LabRow w g l) (hl : l.length < 3) (b : UInt8) : LabRow (w.setCell ⟨g, l.length + 1, none⟩ (.int .u8 b.toNat)) g (l ++ [b]) := by
  obtain ⟨cs, hg, h4, ⟨x, hx⟩, hc⟩ := h
  refine ⟨cs.setIfInBounds (l.length + 1) (.int .u8 b.toNat), heap_setCell_own hg, by simp [h4], ⟨x, ?_⟩, fun j hj => ?_⟩
  · rw [Array.getElem?_setIfInBounds_ne (by omega)]; exact hx
  · simp at hj
    by_cases e : j = l.length
    · subst e
      rw [Array.getElem?_setIfInBounds_self_of_lt (by omega)]
      simp
    · rw [Array.getElem?_setIfInBounds_ne (by omega), hc j (by omega)]
      simp [List.getElem_append_left (show j < l.length by omega)]

theorem LabRow.set0 {w : World} {g : Nat} {l : Bytes} (h : LabRow w g l) (x : Int) : LabRow (w.setCell ⟨g, 0, none⟩ (.int .u8 x)) g l ∧ (w.setCell ⟨g, 0, none⟩ (.int .u8 x)).cell? ⟨g, 0, none⟩ = some (.int .u8 x) := by
  obtain ⟨cs, hg, h4, _, hc⟩ := h
  have e : (cs.setIfInBounds 0 (.int .u8 x))[0]? = some (.int .u8 x) := Array.getElem?_setIfInBounds_self_of_lt (by omega)
  refine ⟨⟨cs.setIfInBounds 0 (.int .u8 x), heap_setCell_own hg, by simp [h4], ⟨x, e⟩, fun j hj => ?_⟩, cell_blk (heap_setCell_own hg) e⟩
  rw [Array.getElem?_setIfInBounds_ne (by omega)]; exact hc j hj

theorem LabRow.conv {w : World} {g : Nat} {l : Bytes} (h : LabRow w g l) (hl : l.length ≤ 3) (h0 : w.cell? ⟨g, 0, none⟩ = some (.int .u8 l.length)) :
    (convert 45 9 (.slice (some ⟨g, 0, none⟩) (l.length + 1) 4)).run Yba.prog w = .ok (.string (bs (UInt8.ofNat l.length :: l))) w := by
  obtain ⟨cs, hg, h4, ⟨x, hx⟩, hc⟩ := h
  refine run_convert_bytes_back (P := Yba.prog) _ 45 9 5 ⟨g, 0, none⟩ 4 (UInt8.ofNat l.length :: l) Yba.underlying45 Yba.underlying5 Yba.underlying9 (fun j hj => ?_)
  rw [Go.WideShapes.add_plain, Nat.zero_add]
  cases j with
  | zero =>
    rw [h0]
    simp; omega
  | succ j =>
    simp at hj
    rw [cell_blk hg (hc j hj)]
    simp
theorem labRow_alloc {w : World} {g : Nat} {l : Bytes} {o : Obj} (h : LabRow w g l) : LabRow (w.alloc o) g l := by
  obtain ⟨cs, hg, r⟩ := h
  exact ⟨cs, (heap_alloc_old _ _ (Array.getElem?_eq_some_iff.1 hg).1).trans hg, r⟩

set_option maxRecDepth 100000 in
set_option maxHeartbeats 1600000 in
theorem label_run (s : ByteArray) (w : World) :
    Calls Yba.prog 21 #[.string s] w fun e w' => ∃ l : Bytes, 1 ≤ l.length ∧ l.length ≤ 3 ∧ e = .returned (.string (bs (UInt8.ofNat l.length :: l))) ∧ Below w.heap.size w w' := by
  have hmk := mk4
  have hw8 : ∀ b : UInt8, wrap64 (b.toNat : Int) = b.toNat := fun b => by have := b.toNat_lt; unfold wrap64; omega
  have ht8 : ∀ b : UInt8, ((b.toNat : Int)).tmod 8 = ((b.toNat % 8 : Nat) : Int) := fun b => by rw [Int.tmod_eq_emod_of_nonneg (by omega)]; omega
  have hm8 : ∀ b : UInt8, b.toNat % 8 < 8 := fun b => by omega
  go_enter Yba.func21, Yba.ntmps21
  go_wp2
  clear hmk
  go_loopw [3, 4] (fun b i wr => ∃ l : Bytes, l.length ≤ 3 ∧ b = .slice (some ⟨w.heap.size, 0, none⟩) (l.length + 1) 4 ∧ i = .int .i64 l.length ∧ LabRow wr w.heap.size l ∧ Below w.heap.size w wr) (fun _ i _ => 3 - (intOf i).toNat)
  case atStart =>
    refine ⟨[], by simp, rfl, rfl, labRow_alloc ⟨#[.int .u8 0, .int .u8 0, .int .u8 0, .int .u8 0], heap_alloc_new _ _, rfl, ⟨0, rfl⟩, fun j hj => by simp at hj⟩, ((Below.refl _ w).alloc (Nat.le_refl _) _).alloc (by simp) _⟩
  case round =>
    obtain ⟨l, hl, rfl, rfl, hrow, hB⟩ := hrel
    have hgl : w.heap.size < wr.heap.size := by
      obtain ⟨cs, h, _⟩ := hrow
      exact (Array.getElem?_eq_some_iff.1 h).1
    have hf : ∀ j, wr.frozen? ⟨w.heap.size, j, none⟩ = false := by
      obtain ⟨cs, h, _⟩ := hrow
      exact fun j => frozen_blk h
    obtain ⟨x0, hx0⟩ : ∃ y, wr.cell? ⟨w.heap.size, 0, none⟩ = some y := by
      obtain ⟨cs, h, h4, _⟩ := hrow
      exact ⟨_, cell_blk h (Array.getElem?_eq_getElem (by omega))⟩
    by_cases hgo : l.length < 3 ∧ l.length < s.size
    · obtain ⟨hl3, hls⟩ := hgo
      obtain ⟨y, hy⟩ : ∃ y, wr.cell? ⟨w.heap.size, l.length + 1, none⟩ = some y := by
        obtain ⟨cs, h, h4, _⟩ := hrow
        exact ⟨_, cell_blk h (Array.getElem?_eq_getElem (by omega))⟩
      go_wp2
      go_roundw
      case rel =>
        refine ⟨l ++ [_], by simp; omega, by simp, by simp, labRow_alloc (hrow.push hl3 _), (hB.setCell (p := ⟨w.heap.size, l.length + 1, none⟩) (Nat.le_refl _) _).alloc (by simp; omega) _⟩
      case measure => simp [intOf]; omega
    · have hex : s.size ≤ l.length ∨ 3 ≤ l.length := by omega
      rcases l with _ | ⟨c, l⟩
      · obtain ⟨y, hy⟩ : ∃ y, wr.cell? ⟨w.heap.size, 1, none⟩ = some y := by
          obtain ⟨cs, h, h4, _⟩ := hrow
          exact ⟨_, cell_blk h (Array.getElem?_eq_getElem (by omega))⟩
        have hs0 : s.size = 0 := by simp only [List.length_nil] at hex; omega
        have h97 := (hrow.push (by simp) 97).set0 1
        have hcv := (labRow_alloc (o := .cells #[.int .u8 97] 5) h97.1).conv (by simp) ((World.cell?_of_block (w := _) (a := _) (heap_alloc_old _ _ (by simpa using hgl))).trans h97.2)
        have hcv' : (convert 45 9 (.slice (some ⟨w.heap.size, 0, none⟩) 2 4)).run Yba.prog (((wr.setCell ⟨w.heap.size, 1, none⟩ (.int .u8 97)).setCell ⟨w.heap.size, 0, none⟩ (.int .u8 1)).alloc (.cells #[.int .u8 97] 5)) = .ok (.string (bs [1, 97])) (((wr.setCell ⟨w.heap.size, 1, none⟩ (.int .u8 97)).setCell ⟨w.heap.size, 0, none⟩ (.int .u8 1)).alloc (.cells #[.int .u8 97] 5)) := hcv
        clear hcv h97
        go_wp2
        go_ret
        refine ⟨[97], by simp, by simp, rfl, ?_⟩
        exact ((hB.setCell (p := ⟨w.heap.size, 1, none⟩) (Nat.le_refl _) _).setCell (p := ⟨w.heap.size, 0, none⟩) (Nat.le_refl _) _).alloc (by simp; omega) _
      · have h0 := hrow.set0 (c :: l).length
        have hcv := h0.1.conv hl h0.2
        have hne : ¬ ((l.length : Int) + 1 + 1 = 1) := by omega
        simp only [List.length_cons, Int.natCast_add, Int.cast_ofNat_Int] at hcv hl hex
        clear h0
        rcases hex with hex | hex
        all_goals
          go_wp2
          all_goals
            go_ret
            refine ⟨c :: l, by simp, by simpa using hl, by simp, ?_⟩
            exact hB.setCell (p := ⟨w.heap.size, 0, none⟩) (Nat.le_refl _) _
end Go.Proofs.Ybulkccao
