/- seat b3914a: names as bytes; lower, low, Parent -/
import Derived.Test.YbulkccaoProg
import Derived.WalkKit
import Derived.Below
import Derived.KernelRfl
namespace Go.Proofs.Ybulkccao
open Go Go.RowKit

abbrev Bytes := List UInt8
def bs (l : Bytes) : ByteArray := ⟨l.toArray⟩
def lowU (b : UInt8) : UInt8 := if 65 ≤ b.toNat ∧ b.toNat ≤ 90 then UInt8.ofNat (b.toNat + 32) else b
def lowL (l : Bytes) : Bytes := l.map lowU
/-- a name's wire form -/
def encL : List Bytes → Bytes
  | [] => [0]
  | l :: ls => UInt8.ofNat l.length :: (l ++ encL ls)
/-- labels of one to three bytes, at most three of them -/
structure WFL (ls : List Bytes) : Prop where
  few : ls.length ≤ 3
  short : ∀ l ∈ ls, 1 ≤ l.length ∧ l.length ≤ 3

theorem WFL.tail {l : Bytes} {ls : List Bytes} (h : WFL (l :: ls)) : WFL ls := ⟨by have := h.few; simp at this; omega, fun x hx => h.short x (by simp [hx])⟩
theorem WFL.head {l : Bytes} {ls : List Bytes} (h : WFL (l :: ls)) : 1 ≤ l.length ∧ l.length ≤ 3 := h.short l (by simp)

@[simp] theorem size_bs (l : Bytes) : (bs l).size = l.length := by simp [bs, ByteArray.size]
@[simp] theorem toList_bs (l : Bytes) : (bs l).data.toList = l := by simp [bs]
theorem get_bs (l : Bytes) (i : Nat) (h : i < (bs l).size) : (bs l)[i] = l[i]'(by simpa using h) := by
  simp [bs, ByteArray.getElem_eq_getElem_data]
theorem extract_bs (l : Bytes) (i j : Nat) : (bs l).extract i j = bs ((l.drop i).take (j - i)) := by
  apply ByteArray.ext
  apply Array.toList_inj.1
  simp [bs, ByteArray.data_extract, List.extract_eq_take_drop]
theorem toList_bs' (l : Bytes) : (bs l).toList = l := by rw [ByteArray.toList_eq]; simp
theorem length_encL_pos (ls : List Bytes) : 0 < (encL ls).length := by cases ls <;> simp [encL]
theorem encL_le : ∀ {ls : List Bytes}, WFL ls → (encL ls).length ≤ 13
  | [], _ => by simp [encL]
  | [a], h => by have := h.short a (by simp); simp [encL] <;> omega
  | [a, b], h => by have := h.short a (by simp); have := h.short b (by simp); simp [encL] <;> omega
  | [a, b, c], h => by have := h.short a (by simp); have := h.short b (by simp); have := h.short c (by simp); simp [encL] <;> omega
  | _ :: _ :: _ :: _ :: _, h => by have := h.few; simp at this

theorem lowU_toNat (b : UInt8) : ((lowU b).toNat : Int) = if 65 ≤ (b.toNat : Int) ∧ (b.toNat : Int) ≤ 90 then (b.toNat : Int) + 32 else b.toNat := by
  have hb := b.toNat_lt
  unfold lowU
  split <;> rename_i h
  · rw [if_pos (by omega)]
    simp [UInt8.toNat_ofNat]
    omega
  · rw [if_neg (by omega)]

set_option maxRecDepth 100000 in
theorem lower_run (b : UInt8) (w : World) : Calls Yba.prog 26 #[.int .u8 b.toNat] w fun e w' => e = .returned (.int .u8 (lowU b).toNat) ∧ w' = w := by
  rw [lowU_toNat]
  have hb : (b.toNat : Int) < 256 := by have := b.toNat_lt; omega
  go_enter Yba.func26, Yba.ntmps26
  go_wp2
  all_goals go_ret
  all_goals first | exact ⟨rfl, rfl⟩ | (refine ⟨?_, rfl⟩; simp; omega)
set_option maxRecDepth 100000 in
theorem low_run (b : UInt8) (w : World) : Calls Yba.prog 23 #[.int .u8 b.toNat] w fun e w' => e = .returned (.int .u8 (lowU b).toNat) ∧ w' = w := by
  rw [lowU_toNat]
  have hb : (b.toNat : Int) < 256 := by have := b.toNat_lt; omega
  go_enter Yba.func23, Yba.ntmps23
  go_wp2
  all_goals go_ret
  all_goals first | exact ⟨rfl, rfl⟩ | (refine ⟨?_, rfl⟩; simp; omega)
set_option maxRecDepth 100000 in
theorem parent_run (l : Bytes) (ls : List Bytes) (w : World) (hw : WFL (l :: ls)) : Calls Yba.prog 20 #[.string (bs (encL (l :: ls)))] w fun e w' => e = .returned (.string (bs (encL ls))) ∧ w' = w := by
  have hl := hw.head
  obtain ⟨t, ht⟩ : ∃ t, encL (l :: ls) = t := ⟨_, rfl⟩
  have hlen : 1 + l.length + (encL ls).length = t.length := by rw [← ht]; simp [encL]; omega
  have hp := length_encL_pos ls
  have h0 : (bs t)[0]'(by simp; omega) = UInt8.ofNat l.length := by rw [get_bs]; subst ht; simp [encL]
  have h0' : ((bs t)[0]'(by simp; omega)).toNat = l.length := by rw [h0]; simp; omega
  have hsz := size_bs t
  have hne : ((bs t).toList == [0]) = false := by
    rw [toList_bs', beq_eq_false_iff_ne]
    intro e
    rw [e] at hlen
    simp at hlen
    omega
  rw [ht]
  go_enter Yba.func20, Yba.ntmps20
  go_wp2
  go_ret
  refine ⟨?_, rfl⟩
  have e : (bs t).extract (1 + l.length % 256) t.length = bs (encL ls) := by
    rw [extract_bs, Nat.mod_eq_of_lt (by omega), ← ht]
    congr 1
    simp [encL, Nat.add_comm 1]
  simp [e]
end Go.Proofs.Ybulkccao
