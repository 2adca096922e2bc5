/- seat b3914a: (Name).AppendKey, (Name).Key -/
import Derived.Test.YbulkccaoEqual
import Derived.Lib.AppendStr
namespace Go.Proofs.Ybulkccao
open Go Go.RowKit Go.Lib

/-- w' is w but for block b's cells -/
structure OnlyBlk (b : Nat) (w w' : World) : Prop where
  os : w'.os = w.os
  tape : w'.tape = w.tape
  output : w'.output = w.output
  size : w'.heap.size = w.heap.size
  block : ∀ k, k ≠ b → w'.heap[k]? = w.heap[k]?
theorem OnlyBlk.refl (b : Nat) (w : World) : OnlyBlk b w w := ⟨rfl, rfl, rfl, rfl, fun _ _ => rfl⟩
theorem OnlyBlk.trans {b : Nat} {u v w : World} (h : OnlyBlk b u v) (k : OnlyBlk b v w) : OnlyBlk b u w :=
  ⟨k.os.trans h.os, k.tape.trans h.tape, k.output.trans h.output, k.size.trans h.size, fun i hi => (k.block i hi).trans (h.block i hi)⟩
theorem OnlyBlk.setCell {b o : Nat} (w : World) (v : Value) : OnlyBlk b w (w.setCell ⟨b, o, none⟩ v) :=
  ⟨rfl, rfl, rfl, by simp, fun k hk => Below.heap_setCell _ _ _ _ hk⟩

theorem cell_blk {v : World} {b o : Nat} {cs : Array Value} {t : TypeId} {f : Nat × Nat} {x : Value} (h : v.heap[b]? = some (.cells cs t f)) (hx : cs[o]? = some x) : v.cell? ⟨b, o, none⟩ = some x := by
  simp [World.cell?, h, hx]
theorem frozen_blk {v : World} {b o : Nat} {cs : Array Value} {t : TypeId} (h : v.heap[b]? = some (.cells cs t (0, 0))) : v.frozen? ⟨b, o, none⟩ = false := by
  simp [World.frozen?, h]
theorem heap_setCell_own {v : World} {b o : Nat} {cs : Array Value} {t : TypeId} {f : Nat × Nat} {x : Value} (h : v.heap[b]? = some (.cells cs t f)) : (v.setCell ⟨b, o, none⟩ x).heap[b]? = some (.cells (cs.setIfInBounds o x) t f) := by
  simp [World.setCell, Array.getElem?_modify, h]

/-- the key's row, k bytes of it in lower case -/
def KeyRow (cs : Array Value) (n : Bytes) (k : Nat) : Prop := cs.size = 255 ∧ ∀ j (h : j < n.length), cs[j]? = some (.int .u8 (if j < k then lowU n[j] else n[j]).toNat)

theorem KeyRow.same {cs : Array Value} {n : Bytes} {k : Nat} (h : KeyRow cs n k) (hk : k < n.length) (hl : lowU n[k] = n[k]) : KeyRow cs n (k + 1) := by
  refine ⟨h.1, fun j hj => ?_⟩
  rw [h.2 j hj]
  by_cases e : j = k
  · subst e; simp [hl]
  · have : (j < k) ↔ (j < k + 1) := by omega
    simp only [this]
theorem KeyRow.set {cs : Array Value} {n : Bytes} {k : Nat} (h : KeyRow cs n k) (hn : n.length ≤ 255) (hk : k < n.length) {x : Int} (hx : x = (lowU n[k]).toNat) : KeyRow (cs.setIfInBounds k (.int .u8 x)) n (k + 1) := by
  have h1 := h.1
  refine ⟨by simp [h1], fun j hj => ?_⟩
  by_cases e : k = j
  · subst e
    rw [Array.getElem?_setIfInBounds_self_of_lt (by omega)]
    simp [hx]
  · rw [Array.getElem?_setIfInBounds_ne e, h.2 j hj]
    have : (j < k) ↔ (j < k + 1) := by omega
    simp only [this]

set_option maxRecDepth 100000 in
set_option maxHeartbeats 800000 in
theorem appendKey_run (n : Bytes) (g T : Nat) (cur : Array Value) (w : World) (hn : n.length ≤ 255) (hg : w.heap[g]? = some (.cells cur T (0, 0))) (hc : cur.size = 255) :
    Calls Yba.prog 35 #[.string (bs n), .slice (some ⟨g, 0, none⟩) 0 255] w fun e w' => e = .returned (.slice (some ⟨g, 0, none⟩) n.length 255) ∧ OnlyBlk g w w' ∧ ∃ cs, w'.heap[g]? = some (.cells cs T (0, 0)) ∧ KeyRow cs n n.length := by
  have hsz := size_bs n
  have hgl : g < w.heap.size := (Array.getElem?_eq_some_iff.1 hg).1
  have hst := run_storeCells_at Yba.prog g 0 T (List.take n.length (List.map (fun b : UInt8 => Value.int .u8 b.toNat) n)) 0 cur w hg (by simp; omega) (fun u hu => by
    rw [List.take_of_length_le (by simp)] at hu
    obtain ⟨b, _, rfl⟩ := List.mem_map.1 hu
    rfl)
  obtain ⟨w1, hw1⟩ : ∃ w1, w.setRow g (cur.toList.take (0 + 0) ++ (List.take n.length (List.map (fun b : UInt8 => Value.int .u8 b.toNat) n)) ++ cur.toList.drop (0 + 0 + (List.take n.length (List.map (fun b : UInt8 => Value.int .u8 b.toNat) n)).length)).toArray = w1 := ⟨_, rfl⟩
  rw [hw1] at hst
  have hO : OnlyBlk g w w1 := by
    subst hw1
    exact ⟨rfl, rfl, rfl, by simp [World.setRow], fun k hk => by simp [World.setRow, Array.getElem?_modify, Ne.symm hk]⟩
  have hrow : ∃ cs, w1.heap[g]? = some (.cells cs T (0, 0)) ∧ KeyRow cs n 0 := by
    subst hw1
    refine ⟨_, by simp only [World.setRow, Array.getElem?_modify, if_true, hg, Option.map_some]; rfl, by simp; omega, fun j hj => ?_⟩
    simp [List.getElem?_append, hj]
  have hsz1 := hO.size
  clear hw1 hg
  go_enter Yba.func35, Yba.ntmps35
  go_wp2
  clear hst
  go_loopw [20] (fun i wr => OnlyBlk g w wr ∧ ∃ (k : Nat) (cs : Array Value), k ≤ n.length ∧ i = .int .i64 k ∧ wr.heap[g]? = some (.cells cs T (0, 0)) ∧ KeyRow cs n k) (fun i _ => n.length - (intOf i).toNat)
  case atStart =>
    obtain ⟨cs, h1, h2⟩ := hrow
    exact ⟨hO, 0, cs, by omega, rfl, h1, h2⟩
  case round =>
    clear hrow hO
    obtain ⟨hO, k, cs, hk, rfl, hcs, hkr⟩ := hrel
    rcases Nat.lt_or_ge k n.length with hlt | hge
    · have hck : wr.cell? ⟨g, k, none⟩ = some (.int .u8 (n[k]).toNat) := cell_blk hcs (by have := hkr.2 k hlt; simpa using this)
      have hfk : wr.frozen? ⟨g, k, none⟩ = false := frozen_blk hcs
      have hub : ((n[k]).toNat : Int) < 256 := by have := (n[k]).toNat_lt; omega
      have hlu := lowU_toNat n[k]
      go_wp2
      · rename_i h1 h2
        go_roundw
        case rel => exact ⟨hO.trans (OnlyBlk.setCell _ _), k + 1, _, by omega, rfl, heap_setCell_own hcs, hkr.set hn hlt (by rw [hlu, if_pos ⟨h1, h2⟩]; omega)⟩
        case measure => simp [intOf]; omega
      all_goals
        go_roundw
        case rel =>
          refine ⟨hO, k + 1, cs, by omega, rfl, hcs, hkr.same hlt (UInt8.toNat_inj.1 ?_)⟩
          rw [if_neg (by omega)] at hlu
          omega
        case measure => simp [intOf]; omega
    · go_wp2
      go_ret
      have hkk : k = n.length := by omega
      subst hkk
      exact ⟨rfl, hO, cs, hcs, hkr⟩
end Go.Proofs.Ybulkccao
