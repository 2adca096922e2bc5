/- seat b3879a: LawS3879AOpen: the feed is built -/
import Derived.Test.YbulkcbhsOpen3
import Derived.Test.YbulkcbhsSignal
import Derived.Deep.OwnRows
import Derived.MapKept
namespace Go.Proofs.Ybulkcbhs
open Go Go.Conc Go.RowKit Go.MuLone

def dropSeq : Nat → Code → Code
  | 0, c => c
  | n + 1, .seq _ y => dropSeq n y
  | _, c => c

/-- what the law may do to memory: nothing below the old end -/
structure Kept (w v : World) : Prop where
  os : v.os = w.os
  output : v.output = w.output
  size : w.heap.size ≤ v.heap.size
  low : ∀ k, k < w.heap.size → v.heap[k]? = w.heap[k]?

def runCells (s0 : ByteArray) : Array Value := #[.nilFunc, .string s0, .bool false, .int .i64 0, .nilIface]
def feedCells (mp : Option Nat) (rv : Option Addr) (ch : Option Nat) : Array Value := #[.int .i32 0, .int .u32 0, .map mp, .map none, .pointer rv, .chan ch, .int .u64 0, .int .i64 0, .pointer none, .pointer none]
def entryAt (H j : Nat) : MapEntry := { key := .pointer (some ⟨H + 6 + 2 * j, 0, none⟩), val := .bool true, born := j }
def preBuf (b : Bool) : Array Value := if b then #[.agg #[]] else #[]
def preSent (b : Bool) : Nat := if b then 1 else 0

structure Built (w v : World) (H n i : Nat) (B : Nat → Bool) (rv : Option Addr) (s0 : ByteArray) (ch : Option Nat) : Prop where
  kept : Kept w v
  H_eq : H = w.heap.size
  size : H + 5 + 2 * i ≤ v.heap.size
  run : v.heap[H]? = some (.cells (runCells s0) 28 (0, 0))
  other : v.heap[H + 1]? = some (.cells (runCells s0) 28 (0, 0))
  feed : v.heap[H + 2]? = some (.cells (feedCells (some (H + 4)) rv ch) 45 (0, 0))
  ws : ∃ cs : Array Value, v.heap[H + 3]? = some (.cells cs 47 (0, 0)) ∧ cs.size = n ∧ ∀ j, j < i → cs[j]? = some (.pointer (some ⟨H + 6 + 2 * j, 0, none⟩))
  map : ∃ es : Array MapEntry, v.heap[H + 4]? = some (.map es i) ∧ es.toList = (List.range i).map (entryAt H)
  wt : ∀ j, j < i → ∃ a b c : Value, v.heap[H + 6 + 2 * j]? = some (.cells #[a, b, c, .chan (some (H + 5 + 2 * j))] 52 (0, 0))
  chan : ∀ j, j < i → v.heap[H + 5 + 2 * j]? = some (.chan 1 (preBuf (B j)) false (preSent (B j)) 0 false)
  old : ∀ c, ch = some c → H + 5 + 2 * i ≤ c ∧ v.heap[c]? = some (.chan 0 #[] false 0 0 false)

theorem cell_blk {v : World} {b o : Nat} {cs : Array Value} {t : TypeId} {f : Nat × Nat} {x : Value} (h : v.heap[b]? = some (.cells cs t f)) (hx : cs[o]? = some x) : v.cell? ⟨b, o, none⟩ = some x := by
  simp [World.cell?, h, hx]
theorem frozen_blk {v : World} {b o : Nat} {cs : Array Value} {t : TypeId} (h : v.heap[b]? = some (.cells cs t (0, 0))) : v.frozen? ⟨b, o, none⟩ = false := by
  simp [World.frozen?, h]
theorem heap_setCell_own {v : World} {b o : Nat} {cs : Array Value} {t : TypeId} {f : Nat × Nat} {x : Value} (h : v.heap[b]? = some (.cells cs t f)) : (v.setCell ⟨b, o, none⟩ x).heap[b]? = some (.cells (cs.setIfInBounds o x) t f) := by
  simp [World.setCell, Array.getElem?_modify, h]
theorem setMap_own {v : World} {b c c' : Nat} {es es' : Array MapEntry} (h : v.heap[b]? = some (.map es c)) : (setMap v b es' c').heap[b]? = some (.map es' c') := by
  have hlt := (Array.getElem?_eq_some_iff.1 h).1
  simp [setMap, Array.getElem?_setIfInBounds_self_of_lt hlt]
theorem setMap_other {v : World} {b k c' : Nat} {es' : Array MapEntry} (h : k ≠ b) : (setMap v b es' c').heap[k]? = v.heap[k]? := by
  simp [setMap, Array.getElem?_setIfInBounds_ne (Ne.symm h)]

theorem mkws (n : Nat) (hn : n ≤ 300) (w : World) : (Instr.makeSlice 46 (.int .i64 (n : Int)) (.int .i64 (n : Int))).run Yba.prog w = .ok (.slice (some ⟨w.heap.size, 0, none⟩) n n) (w.alloc (.cells (madeCells #[.pointer none] n) 47)) :=
  run_make_row' 46 47 (.pointer none) 8 Yba.underlying46 (by kernel_rfl) rfl .i64 .i64 n (by omega) (by omega) w
theorem mkmap (w : World) : (Instr.makeMap 36 none).run Yba.prog w = .ok (.map (some w.heap.size)) (w.alloc (.map #[] 0)) := rfl
structure Mid (v v1 : World) (b : Bool) : Prop where
  os : v1.os = v.os
  output : v1.output = v.output
  size : v1.heap.size = v.heap.size + 2
  low : ∀ k, k < v.heap.size → v1.heap[k]? = v.heap[k]?
  chan : v1.heap[v.heap.size]? = some (.chan 1 (preBuf b) false (preSent b) 0 false)
  wt : ∃ x y z : Value, v1.heap[v.heap.size + 1]? = some (.cells #[x, y, z, .chan (some v.heap.size)] 52 (0, 0))

theorem mid_of (v : World) (b : Bool) (x y z : Value) : Mid v ((v.alloc (.chan 1 (preBuf b) false (preSent b) 0 false)).alloc (.cells #[x, y, z, .chan (some v.heap.size)] 52)) b := by
  refine ⟨rfl, rfl, by simp, fun k hk => ?_, ?_, x, y, z, ?_⟩
  · rw [heap_alloc_old _ _ (by simp; omega), heap_alloc_old _ _ hk]
  · rw [heap_alloc_old _ _ (by simp), heap_alloc_new]
  · have := heap_alloc_new (v.alloc (.chan 1 (preBuf b) false (preSent b) 0 false)) (.cells #[x, y, z, .chan (some v.heap.size)] 52)
    simpa using this

theorem setChan_new (v : World) (o : Obj) (cap : Nat) (buf : Array Value) (cl : Bool) (s r : Nat) (tm : Bool) : (v.alloc o).setChan v.heap.size cap buf cl s r tm = v.alloc (.chan cap buf cl s r tm) := by
  unfold World.setChan World.alloc
  simp only
  congr 1
  rw [Array.setIfInBounds_def]
  simp [Array.set_push]

theorem add_blk (a : Addr) (n : Nat) : (a.add n).block = a.block := by unfold Addr.add; split <;> rfl

theorem mid_next {w v v1 : World} {H n i : Nat} {B : Nat → Bool} {rv : Option Addr} {s0 : ByteArray} (hb : Built w v H n i B rv s0 none) (hsz : v.heap.size = H + 5 + 2 * i) (hin : i < n) (hm : Mid v v1 (B i)) :
    ∃ es : Array MapEntry, (Instr.mapUpdate 36 (.map (some (H + 4))) (.pointer (some ⟨v.heap.size + 1, 0, none⟩)) (.bool true)).run Yba.prog (v1.setCell ⟨H + 3, i, none⟩ (.pointer (some ⟨v.heap.size + 1, 0, none⟩)))
        = .ok () (setMap (v1.setCell ⟨H + 3, i, none⟩ (.pointer (some ⟨v.heap.size + 1, 0, none⟩))) (H + 4) es (i + 1)) ∧
      (∃ x, v1.cell? ⟨H + 3, i, none⟩ = some x) ∧ v1.frozen? ⟨H + 3, i, none⟩ = false ∧
      (v1.setCell ⟨H + 3, i, none⟩ (.pointer (some ⟨v.heap.size + 1, 0, none⟩))).cell? ⟨H + 2, 2, none⟩ = some (.map (some (H + 4))) ∧
      (setMap (v1.setCell ⟨H + 3, i, none⟩ (.pointer (some ⟨v.heap.size + 1, 0, none⟩))) (H + 4) es (i + 1)).heap.size = H + 5 + 2 * (i + 1) ∧
      Built w (setMap (v1.setCell ⟨H + 3, i, none⟩ (.pointer (some ⟨v.heap.size + 1, 0, none⟩))) (H + 4) es (i + 1)) H n (i + 1) B rv s0 none := by
  obtain ⟨cs, hws, hcs, hcsj⟩ := hb.ws
  obtain ⟨es, hmap, hes⟩ := hb.map
  obtain ⟨x, y, z, hwt⟩ := hm.wt
  have hH := hb.H_eq
  have hws1 : v1.heap[H + 3]? = some (.cells cs 47 (0, 0)) := (hm.low _ (by omega)).trans hws
  have hl1 : ∀ k, k ≠ H + 3 → (v1.setCell ⟨H + 3, i, none⟩ (.pointer (some ⟨v.heap.size + 1, 0, none⟩))).heap[k]? = v1.heap[k]? := fun k hk => Below.heap_setCell _ _ _ _ hk
  have hmap2 : (v1.setCell ⟨H + 3, i, none⟩ (.pointer (some ⟨v.heap.size + 1, 0, none⟩))).heap[H + 4]? = some (.map es i) := by
    rw [hl1 _ (by omega), hm.low _ (by omega)]; exact hmap
  have hup := update_new ⟨v.heap.size + 1, 0, none⟩ (.bool true) (v1.setCell ⟨H + 3, i, none⟩ (.pointer (some ⟨v.heap.size + 1, 0, none⟩))) (H + 4) i es hmap2
    ⟨_, _, by rw [hl1 _ (by simp; omega)]; exact hwt⟩ (fun e he => by
      rw [hes] at he
      obtain ⟨j, hj, rfl⟩ := List.mem_map.1 he
      have hj := List.mem_range.1 hj
      obtain ⟨a, b, c, hw⟩ := hb.wt j hj
      exact ⟨⟨H + 6 + 2 * j, 0, none⟩, rfl, by simp <;> omega, _, _, by rw [hl1 _ (by simp; omega), hm.low _ (by simp; omega)]; exact hw⟩)
  have hl2 : ∀ k es' c, k ≠ H + 3 → k ≠ H + 4 → (setMap (v1.setCell ⟨H + 3, i, none⟩ (.pointer (some ⟨v.heap.size + 1, 0, none⟩))) (H + 4) es' c).heap[k]? = v1.heap[k]? := fun k es' c hk hk' => by
    rw [setMap_other hk', hl1 _ hk]
  have hsz2 : ∀ es' c, (setMap (v1.setCell ⟨H + 3, i, none⟩ (.pointer (some ⟨v.heap.size + 1, 0, none⟩))) (H + 4) es' c).heap.size = H + 5 + 2 * (i + 1) := fun es' c => by
    simp [setMap, hm.size] <;> omega
  refine ⟨_, hup, ⟨cs[i]'(by omega), cell_blk hws1 (Array.getElem?_eq_getElem _)⟩, frozen_blk hws1, ?_, hsz2 _ _, ⟨?_, ?_, ?_, ?_⟩, hH, by rw [hsz2]; omega, ?_, ?_, ?_, ?_, ?_, ?_, ?_, ?_⟩
  · rw [World.cell?_setCell_other _ _ _ _ (by simp)]
    exact cell_blk ((hm.low _ (by omega)).trans hb.feed) rfl
  · exact hm.os.trans hb.kept.os
  · exact hm.output.trans hb.kept.output
  · rw [hsz2]; omega
  · intro k hk
    rw [hl2 _ _ _ (by omega) (by omega), hm.low _ (by omega)]
    exact hb.kept.low k hk
  · rw [hl2 _ _ _ (by omega) (by omega), hm.low _ (by omega)]; exact hb.run
  · rw [hl2 _ _ _ (by omega) (by omega), hm.low _ (by omega)]; exact hb.other
  · rw [hl2 _ _ _ (by omega) (by omega), hm.low _ (by omega)]; exact hb.feed
  · refine ⟨cs.setIfInBounds i (.pointer (some ⟨v.heap.size + 1, 0, none⟩)), ?_, by simp [hcs], fun j hj => ?_⟩
    · rw [setMap_other (by omega)]
      exact heap_setCell_own hws1
    · by_cases e : i = j
      · subst e
        rw [Array.getElem?_setIfInBounds_self_of_lt (by omega)]
        simp <;> omega
      · rw [Array.getElem?_setIfInBounds_ne e]
        exact hcsj j (by omega)
  · refine ⟨_, setMap_own hmap2, ?_⟩
    rw [Array.toList_push, hes, List.range_succ, List.map_append]
    simp [entryAt] <;> omega
  · intro j hj
    by_cases e : j = i
    · subst e
      refine ⟨x, y, z, ?_⟩
      rw [hl2 _ _ _ (by omega) (by omega)]
      have e1 : H + 6 + 2 * j = v.heap.size + 1 := by omega
      have e2 : H + 5 + 2 * j = v.heap.size := by omega
      rw [e1, e2]; exact hwt
    · obtain ⟨a, b, c, hw⟩ := hb.wt j (by omega)
      refine ⟨a, b, c, ?_⟩
      rw [hl2 _ _ _ (by omega) (by omega), hm.low _ (by omega)]; exact hw
  · intro j hj
    by_cases e : j = i
    · subst e
      rw [hl2 _ _ _ (by omega) (by omega)]
      have e2 : H + 5 + 2 * j = v.heap.size := by omega
      rw [e2]; exact hm.chan
    · rw [hl2 _ _ _ (by omega) (by omega), hm.low _ (by omega)]; exact hb.chan j (by omega)
  · intro c hc; cases hc

set_option maxRecDepth 100000 in
set_option maxHeartbeats 1600000 in
theorem from9 (m : Int) (s0 ss : ByteArray) (oa : Option Addr) (n cap : Nat) (hc : Bool) (sel : Int) (H : Nat) (B : Nat → Bool) (rv : Option Addr) (w : World) (v : World) (x22 x23 x24 x25 x26 x27 x28 x29 x30 x31 x32 x33 x34 x35 x36 x37 x38 x39 x40 x41 x42 x43 x44 x45 x46 : Value) (R : Ending → World → Prop) (hn : n ≤ 300)
    (hpre : ∀ j, j < n → ∃ a, oa = some a ∧ a.block < w.heap.size ∧ w.cell? (a.add j) = some (.bool (B j))) (hv : Built w v H n 0 B rv s0 none) (hvz : v.heap.size = H + 5)
    (hrest : ∀ (v : World) (x16 x17 x22 x23 x24 x25 x26 x27 x28 x29 x30 x31 x32 x33 x34 x35 x36 x37 x38 x39 x40 x41 x42 x43 x44 x45 x46 x47 x48 x49 x50 x51 x52 x53 x54 x55 x56 x57 x58 x59 x60 x61 x62 x63 x64 x65 x66 x67 x68 x69 x70 x71 : Value), Built w v H n n B rv s0 none → v.heap.size = H + 5 + 2 * n → wpN Yba.prog (dropSeq 10 (Yba.f3.body.getD .skip)) (bodyPost Yba.prog Yba.f3 R)
      { tmps := #[.int .u8 m, .string s0, .string ss, .slice oa n cap, .bool hc, undef, undef, undef, undef, undef, .bool false, .int .i64 sel, .pointer (some ⟨H, 0, none⟩), .pointer (some ⟨H + 1, 0, none⟩), .pointer (some ⟨H + 2, 0, none⟩), .slice (some ⟨H + 3, 0, none⟩) n n, x16, x17, undef, undef, undef, undef, x22, x23, x24, x25, x26, x27, x28, x29, x30, x31, x32, x33, x34, x35, x36, x37, x38, x39, x40, x41, x42, x43, x44, x45, x46, x47, x48, x49, x50, x51, x52, x53, x54, x55, x56, x57, x58, x59, x60, x61, x62, x63, x64, x65, x66, x67, x68, x69, x70, x71, undef, undef, undef, undef, undef, undef, undef, undef, undef, undef, undef, undef, undef, undef, undef, undef, undef, undef, undef, undef, undef, undef, undef, undef, undef, undef, undef, undef, undef, undef, undef, undef, undef, undef, undef, undef, undef, undef, undef, undef, undef, undef, undef, undef, undef, undef, undef, undef, undef, undef, undef, undef, undef, undef, undef, undef, undef, undef, undef, undef, undef, undef, undef, undef, undef, undef, undef, undef, undef, undef, undef, undef, undef, undef, undef, undef, undef, undef, undef, undef, undef, undef, undef, undef, undef, undef, undef, undef, undef, undef, undef, undef, undef, undef, undef, undef, undef, undef, undef, undef, undef, undef, undef, undef, undef, undef, undef, undef, undef, undef, undef, undef, undef, undef, undef, undef, undef, undef, undef, undef, undef, undef, undef, undef, undef, undef], defers := [] } v) :
    wpN Yba.prog (dropSeq 9 (Yba.f3.body.getD .skip)) (bodyPost Yba.prog Yba.f3 R) { tmps := #[.int .u8 m, .string s0, .string ss, .slice oa n cap, .bool hc, undef, undef, undef, undef, undef, .bool false, .int .i64 sel, .pointer (some ⟨H, 0, none⟩), .pointer (some ⟨H + 1, 0, none⟩), .pointer (some ⟨H + 2, 0, none⟩), .slice (some ⟨H + 3, 0, none⟩) n n, undef, undef, undef, undef, undef, undef, x22, x23, x24, x25, x26, x27, x28, x29, x30, x31, x32, x33, x34, x35, x36, x37, x38, x39, x40, x41, x42, x43, x44, x45, x46, undef, undef, undef, undef, undef, undef, undef, undef, undef, undef, undef, undef, undef, undef, undef, undef, undef, undef, undef, undef, undef, undef, undef, undef, undef, undef, undef, undef, undef, undef, undef, undef, undef, undef, undef, undef, undef, undef, undef, undef, undef, undef, undef, undef, undef, undef, undef, undef, undef, undef, undef, undef, undef, undef, undef, undef, undef, undef, undef, undef, undef, undef, undef, undef, undef, undef, undef, undef, undef, undef, undef, undef, undef, undef, undef, undef, undef, undef, undef, undef, undef, undef, undef, undef, undef, undef, undef, undef, undef, undef, undef, undef, undef, undef, undef, undef, undef, undef, undef, undef, undef, undef, undef, undef, undef, undef, undef, undef, undef, undef, undef, undef, undef, undef, undef, undef, undef, undef, undef, undef, undef, undef, undef, undef, undef, undef, undef, undef, undef, undef, undef, undef, undef, undef, undef, undef, undef, undef, undef, undef, undef, undef, undef, undef, undef, undef, undef, undef, undef, undef, undef], defers := [] } v := by
  refine wpN_seqN_k fun K hK => ?_
  refine wpN_seq_k fun K2 hK2 => ?_
  go_wp2
  refine wpN_block ?_
  refine wpN_loop (fun mm a v => ∃ (i : Nat), mm = n - i ∧ i ≤ n ∧ v.heap.size = H + 5 + 2 * i ∧ Built w v H n i B rv s0 none ∧ ∃ (x17 x47 x48 x49 x50 x51 x52 x53 x54 x55 x56 x57 x58 x59 x60 x61 x62 x63 x64 x65 x66 x67 x68 x69 x70 x71 : Value), a = { tmps := #[.int .u8 m, .string s0, .string ss, .slice oa n cap, .bool hc, undef, undef, undef, undef, undef, .bool false, .int .i64 sel, .pointer (some ⟨H, 0, none⟩), .pointer (some ⟨H + 1, 0, none⟩), .pointer (some ⟨H + 2, 0, none⟩), .slice (some ⟨H + 3, 0, none⟩) n n, .int .i64 i, x17, undef, undef, undef, undef, x22, x23, x24, x25, x26, x27, x28, x29, x30, x31, x32, x33, x34, x35, x36, x37, x38, x39, x40, x41, x42, x43, x44, x45, x46, x47, x48, x49, x50, x51, x52, x53, x54, x55, x56, x57, x58, x59, x60, x61, x62, x63, x64, x65, x66, x67, x68, x69, x70, x71, undef, undef, undef, undef, undef, undef, undef, undef, undef, undef, undef, undef, undef, undef, undef, undef, undef, undef, undef, undef, undef, undef, undef, undef, undef, undef, undef, undef, undef, undef, undef, undef, undef, undef, undef, undef, undef, undef, undef, undef, undef, undef, undef, undef, undef, undef, undef, undef, undef, undef, undef, undef, undef, undef, undef, undef, undef, undef, undef, undef, undef, undef, undef, undef, undef, undef, undef, undef, undef, undef, undef, undef, undef, undef, undef, undef, undef, undef, undef, undef, undef, undef, undef, undef, undef, undef, undef, undef, undef, undef, undef, undef, undef, undef, undef, undef, undef, undef, undef, undef, undef, undef, undef, undef, undef, undef, undef, undef, undef, undef, undef, undef, undef, undef, undef, undef, undef, undef, undef, undef, undef, undef, undef, undef, undef, undef], defers := [] }) n ⟨0, by omega, by omega, by omega, hv, _, _, _, _, _, _, _, _, _, _, _, _, _, _, _, _, _, _, _, _, _, _, _, _, _, _, rfl⟩ ?_
  clear hv hvz v
  rintro mm a v ⟨i, rfl, hi, hsz, hb, x17, x47, x48, x49, x50, x51, x52, x53, x54, x55, x56, x57, x58, x59, x60, x61, x62, x63, x64, x65, x66, x67, x68, x69, x70, x71, rfl⟩
  refine wpN_seq_k fun K2 hK2 => ?_
  go_wp2
  · rename_i hlt
    have hlt' : i < n := by omega
    obtain ⟨ad, hoa, hadb, hadc⟩ := hpre i hlt'
    have hs1 := Nat.le_of_eq hsz
    have hs2 := Nat.le_of_eq hsz.symm
    clear hsz
    have hmk := mk1
    have hvs := hb.size
    have hvc : v.cell? (ad.add i) = some (.bool (B i)) := by
      rw [← hadc]
      exact World.cell?_of_block (w := w) (a := ad.add i) (hb.kept.low _ (by rw [add_blk]; exact hadb))
    have hadv : (ad.add i).block < v.heap.size := by
      have := hb.kept.size
      have := add_blk ad i
      omega
    clear hpre hrest hK
    subst hoa
    refine wpN_seqN_k fun K2 hK2 => ?_
    refine wpN_block ?_
    refine wpN_seq_k fun K3 hK3 => ?_
    go_wp2
    refine wpN_seqN_k fun K3 hK3 => ?_
    refine wpN_seq_k fun K4 hK4 => ?_
    go_wp2
    clear hvc hadv hadc hadb hmk
    have key : ∀ (x47 x48 x49 x50 x51 x52 x53 x54 x55 x56 x57 x58 x59 x60 x61 x62 x63 x64 x65 x66 x67 x68 x69 x70 x71 : Value) (v1 : World), Mid v v1 (B i) → K3 { tmps := #[.int .u8 m, .string s0, .string ss, .slice (some ad) n cap, .bool hc, undef, undef, undef, undef, undef, .bool false, .int .i64 sel, .pointer (some ⟨H, 0, none⟩), .pointer (some ⟨H + 1, 0, none⟩), .pointer (some ⟨H + 2, 0, none⟩), .slice (some ⟨H + 3, 0, none⟩) n n, .int .i64 i, .pointer (some ⟨v.heap.size + 1, 0, none⟩), undef, undef, undef, undef, x22, x23, x24, x25, x26, x27, x28, x29, x30, x31, x32, x33, x34, x35, x36, x37, x38, x39, x40, x41, x42, x43, x44, x45, x46, x47, x48, x49, x50, x51, x52, x53, x54, x55, x56, x57, x58, x59, x60, x61, x62, x63, x64, x65, x66, x67, x68, x69, x70, x71, undef, undef, undef, undef, undef, undef, undef, undef, undef, undef, undef, undef, undef, undef, undef, undef, undef, undef, undef, undef, undef, undef, undef, undef, undef, undef, undef, undef, undef, undef, undef, undef, undef, undef, undef, undef, undef, undef, undef, undef, undef, undef, undef, undef, undef, undef, undef, undef, undef, undef, undef, undef, undef, undef, undef, undef, undef, undef, undef, undef, undef, undef, undef, undef, undef, undef, undef, undef, undef, undef, undef, undef, undef, undef, undef, undef, undef, undef, undef, undef, undef, undef, undef, undef, undef, undef, undef, undef, undef, undef, undef, undef, undef, undef, undef, undef, undef, undef, undef, undef, undef, undef, undef, undef, undef, undef, undef, undef, undef, undef, undef, undef, undef, undef, undef, undef, undef, undef, undef, undef, undef, undef, undef, undef, undef, undef], defers := [] } v1 := by
      intro x47 x48 x49 x50 x51 x52 x53 x54 x55 x56 x57 x58 x59 x60 x61 x62 x63 x64 x65 x66 x67 x68 x69 x70 x71 v1 hm
      refine hK3 _ _ ?_
      clear hK3
      obtain ⟨es, hup, ⟨c3, h3⟩, hf3, h2, hsz', hb'⟩ := mid_next hb (by omega) hlt' hm
      have hb3 : H + 3 < v1.heap.size := by rw [hm.size]; omega
      have hs3 := Nat.le_of_eq hsz'
      have hs4 := Nat.le_of_eq hsz'.symm
      clear hb hm hsz'
      refine wpN_of_wp ?_
      go_wp2
      refine wpN_of_wp ?_
      go_wp2
      refine ⟨n - (i + 1), by omega, i + 1, rfl, by omega, by omega, hb', _, _, _, _, _, _, _, _, _, _, _, _, _, _, _, _, _, _, _, _, _, _, _, _, _, _, rfl⟩
    clear hK3 hK2
    refine wpN_cond (t := B i) rfl ?_
    cases hBi : B i with
    | false =>
      refine wpN_of_wp ?_
      rw [hBi] at key
      go_wp2
      exact mid_of v false _ _ _
    | true =>
      simp only [if_true]
      refine wpN_of_loneTo fun b k cs hbk => ?_
      refine LoneTo.goes (n := 6) ?_
      s_reg
      refine Goes.step rfl (fun _ h₁ => ?_); subst h₁; refine goes_oper_k rfl rfl hbk (fun K hK => ?_); go_simp; refine hK _ _ ⟨trivial, ?_⟩; clear hK K
      refine Goes.step rfl (fun _ h₁ => ?_); subst h₁; refine goes_oper_k rfl rfl hbk (fun K hK => ?_); go_simp; refine hK _ _ ⟨trivial, ?_⟩; clear hK K
      refine Goes.step rfl (fun _ h₁ => ?_); subst h₁; refine goes_oper_k rfl rfl hbk (fun K hK => ?_); go_simp; refine hK _ _ ⟨trivial, ?_⟩; clear hK K
      refine Goes.step rfl (fun _ h₁ => ?_); subst h₁; refine goes_oper_k rfl rfl hbk (fun K hK => ?_); go_simp; refine hK _ _ ⟨trivial, ?_⟩; clear hK K
      refine Goes.step rfl (fun _ h₁ => ?_); subst h₁; refine goes_oper_k rfl rfl hbk (fun K hK => ?_); go_simp; refine hK _ _ ⟨trivial, ?_⟩; clear hK K
      s_stop
      refine LoneTo.step (step_lone_send_room (c := v.heap.size) (cap := 1) (buf := #[]) (s := 0) (r := 0) (tm := false) (v := .agg #[]) (z' := .tuple #[]) (stepG_comm (cases := #[scase v.heap.size (.agg #[]) (.tuple #[])]) (blocking := true) (shape := .send) rfl rfl hbk (by simp [go_sem, execOp, scase, Act.eval]; rfl)) ?_ (by simp)) ?_
      · rw [heap_alloc_old _ _ (by simp), heap_alloc_new]
      rw [Frame.finish_at]
      refine LoneTo.step step_region_end ?_
      refine LoneTo.done ⟨_, rfl, ?_⟩
      rw [setChan_alloc _ _ _ _ _ _ _ _ _ (by simp), setChan_new]
      rw [hBi] at key
      exact key _ _ _ _ _ _ _ _ _ _ _ _ _ _ _ _ _ _ _ _ _ _ _ _ _ _ (mid_of v true _ _ _)
  · have : i = n := by omega
    subst this
    exact hrest _ _ _ _ _ _ _ _ _ _ _ _ _ _ _ _ _ _ _ _ _ _ _ _ _ _ _ _ _ _ _ _ _ _ _ _ _ _ _ _ _ _ _ _ _ _ _ _ _ _ _ _ _ hb hsz
end Go.Proofs.Ybulkcbhs
