/- seat b3914a: (*strings.Builder).WriteByte, saying that other blocks lie as they lay -/
import Derived.Test.YbulkccaoOrder
import Derived.Deep.DeepMust
import Derived.OwnWalk
import Derived.RangeFuncBox
import Derived.Test.YbulkccaoAppend
namespace Go.Proofs.Ybulkccao
open Go Go.RowKit

/-- a builder at block b whose bytes lie in the row v -/
def Bld (w : World) (B b : Nat) (v : Value) (l : Bytes) : Prop :=
  w.heap[b]? = some (.cells #[.pointer (some ⟨b, 0, none⟩), v] 89 (0, 0)) ∧ w.ownsRow B 5 1 v l.length (l.map fun c => Value.int .u8 c.toNat) ∧ v.ownBlock ≠ some b

theorem info5 : (Yba.prog.info? 5).map (fun i => (i.zero, i.size, i.bytes)) = some (some (.int .u8 0), 1, 1) := by kernel_rfl

theorem eqlIn87_same (d : Nat) (a : Addr) (w : World) : (Op.equalIn (d + 1) 87 (.pointer (some a)) (.pointer (some a))).run Yba.prog w = .ok true w := by
  simp [Op.equalIn, run_underlying Yba.underlying87, run_sameAddr_same]
theorem neq87_same (a : Addr) (w : World) : (binOp .neq 87 (.pointer (some a)) (.pointer (some a))).run Yba.prog w = .ok (.bool false) w := by
  simp only [binOp]
  simp [Op.equal, Op.maxDepth, eqlIn87_same 9999 a w]

set_option maxRecDepth 100000 in
theorem copyCheck_used (b : Nat) (w : World) (c0 : w.cell? ⟨b, 0, none⟩ = some (.pointer (some ⟨b, 0, none⟩))) :
    Calls Yba.prog 37 #[.pointer (some ⟨b, 0, none⟩)] w fun e w' => e = .returned (.tuple #[]) ∧ w' = w := by
  have hnp := neq87_same ⟨b, 0, none⟩
  go_enter Yba.func37, Yba.ntmps37
  go_wp2
  go_end0
  exact ⟨rfl, rfl⟩

set_option maxRecDepth 100000 in
set_option maxHeartbeats 1600000 in
theorem wbyte_run (B b : Nat) (v : Value) (l : Bytes) (c : UInt8) (w : World) (h : Bld w B b v l) (hl : l.length ≤ 1000) (hB : B ≤ w.heap.size) :
    Calls Yba.prog 27 #[.pointer (some ⟨b, 0, none⟩), .int .u8 c.toNat] w fun e w' => e = .returned .nilIface ∧ ∃ v', Bld w' B b v' (l ++ [c]) ∧ w'.os = w.os ∧ w'.tape = w.tape ∧ w'.output = w.output ∧ w.heap.size ≤ w'.heap.size ∧
      (v'.ownBlock = v.ownBlock ∨ ∃ g, v'.ownBlock = some g ∧ w.heap.size ≤ g) ∧ ∀ k, k < w.heap.size → k ≠ b → v.ownBlock ≠ some k → w'.heap[k]? = w.heap[k]? := by
  obtain ⟨hbk, hown, hnb⟩ := h
  obtain ⟨i0, hi, hz0, hz1, hz2⟩ := info_parts info5
  have c0 : w.cell? ⟨b, 0, none⟩ = some (.pointer (some ⟨b, 0, none⟩)) := cell_blk hbk rfl
  have c1 : w.cell? ⟨b, 1, none⟩ = some v := cell_blk hbk rfl
  go_enter Yba.func27, Yba.ntmps27
  have hnp := neq87_same ⟨b, 0, none⟩
  have hbl : b < w.heap.size := (Array.getElem?_eq_some_iff.1 hbk).1
  go_wp2_with (first | (at_builtin; go_must (refine wpList_append_at rfl _ _ 45 rfl B 5 i0 (.int .u8 0) 1 1 Yba.underlying45 hi hz0 hz1 hz2 rfl (by decide) _ _ _ rfl (hown.alloc _) ⟨w.heap.size, 0, none⟩ 1 1 [.int .u8 c.toNat] rfl (by decide) rfl ?c1 (by simp [Value.oneCell']) (by simp [maxLen]; omega) (by omega) (by simp; omega) ?_)) | (go_at_call 37; refine (copyCheck_used b w c0).mono ?_; rintro e w' ⟨rfl, hw'⟩; have hw2 := hw'.symm; clear hw'; subst hw2))
  case c1 =>
    intro j u hj
    match j, hj with
    | 0, hj => simp at hj; subst hj; simp [Addr.add]
  intro v' w1 hown' hgrow hwh
  have hb1 : w1.heap[b]? = some (.cells #[.pointer (some ⟨b, 0, none⟩), v] 89 (0, 0)) := by
    rw [hgrow.block b (by simp; omega) (fun e => hnb e.symm), heap_alloc_old _ _ hbl]; exact hbk
  have d1 : w1.cell? ⟨b, 1, none⟩ = some v := cell_blk hb1 rfl
  have f1 : w1.frozen? ⟨b, 1, none⟩ = false := frozen_blk hb1
  obtain ⟨g', cap', hv'⟩ := ownsRow_succ hown'
  subst hv'
  go_wp2
  refine bodyPost_ret (results_tmp rfl _ _ _) rfl ?_
  have hg'b : g' ≠ b := by
    rintro rfl
    rcases hwh with h | h
    · exact hnb h.symm
    · simp [Value.ownBlock] at h; omega
  have hsz1 := hgrow.size
  simp at hsz1
  refine ⟨rfl, .slice (some ⟨g', 0, none⟩) (l.length + 1) cap', ⟨?_, ?_, ?_⟩, hgrow.os, hgrow.tape, hgrow.output, by simp; omega, ?_, ?_⟩
  · rw [heap_setCell_own hb1]; rfl
  · have := ownsRow_setCell_other hown' (a := ⟨b, 1, none⟩) (by simp [Value.ownBlock]; exact hg'b) (.slice (some ⟨g', 0, none⟩) (l.length + 1) cap')
    simpa using this
  · simp [Value.ownBlock]; exact hg'b
  · rcases hwh with h | h
    · exact .inl h
    · exact .inr ⟨_, h, by simp⟩
  · intro k hk hkb hkv
    rw [Below.heap_setCell _ _ _ _ (by exact hkb), hgrow.block k (by simp; omega) (fun e => hkv e.symm), heap_alloc_old _ _ hk]
end Go.Proofs.Ybulkccao
