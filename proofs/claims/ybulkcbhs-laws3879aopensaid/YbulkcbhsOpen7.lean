/- seat b3879a: LawS3879AOpen: setOpen called; the whole law -/
import Derived.Test.YbulkcbhsOpen5
import Derived.Test.YbulkcbhsOpen6
namespace Go.Proofs.Ybulkcbhs
open Go Go.Conc Go.RowKit Go.MuLone

theorem eqlIn_nil23 (d : Nat) (b : Addr) (w : World) : (Op.equalIn (d + 1) 23 (.pointer none) (.pointer (some b))).run Yba.prog w = .ok false w := by
  simp [Op.equalIn, run_underlying Yba.underlying23]
theorem neq_nil23 (b : Addr) (w : World) : (binOp .neq 23 (.pointer none) (.pointer (some b))).run Yba.prog w = .ok (.bool true) w := by
  simp only [binOp]
  simp [Op.equal, Op.maxDepth, eqlIn_nil23 9999 b w]

theorem waits_of {w v : World} {H n : Nat} {B : Nat → Bool} {rv : Option Addr} {s0 : ByteArray} {ch : Option Nat} (hb : Built w v H n n B rv s0 ch) :
    ∃ es : Array MapEntry, es.size = n ∧ Waits v n (fun j => H + 5 + 2 * j) (fun j => H + 6 + 2 * j) (H + 4) es n := by
  obtain ⟨es, hmap, hes⟩ := hb.map
  refine ⟨es, by rw [← Array.length_toList, hes]; simp, hmap, ?_, ?_, ?_, ?_, ?_, ?_, ?_⟩
  · intro e he
    rw [hes] at he
    obtain ⟨j, hj, rfl⟩ := List.mem_map.1 he
    exact List.mem_range.1 hj
  · rw [hes, List.map_map]
    have : ((fun x : MapEntry => x.born) ∘ entryAt H) = id := rfl
    rw [this, List.map_id]
    exact List.nodup_range
  · intro e he
    rw [hes] at he
    obtain ⟨j, hj, rfl⟩ := List.mem_map.1 he
    exact ⟨j, List.mem_range.1 hj, rfl⟩
  · intro j hj
    exact ⟨entryAt H j, by rw [hes]; exact List.mem_map.2 ⟨j, List.mem_range.2 hj, rfl⟩, rfl⟩
  · intro j hj
    obtain ⟨a, b, c, h⟩ := hb.wt j hj
    exact cell_blk h rfl
  · intro j hj
    exact ⟨_, _, _, hb.chan j hj, by unfold preBuf; split <;> simp⟩
  · intro i j _ _ h
    have h' : H + 6 + 2 * i = H + 6 + 2 * j := h
    omega

set_option maxRecDepth 100000 in
set_option maxHeartbeats 1600000 in
theorem from12 (m : Int) (s0 ss : ByteArray) (oa : Option Addr) (n cap : Nat) (hc : Bool) (sel : Int) (H : Nat) (B : Nat → Bool) (rv : Option Addr) (ch : Option Nat) (w v : World) (x16 x17 x22 x23 x24 x25 x26 x27 x28 x29 x30 x31 x32 x33 x34 x35 x36 x37 x38 x39 x40 x41 x42 x43 x44 x45 x46 x47 x48 x49 x50 x51 x52 x53 x54 x55 x56 x57 x58 x59 x60 x61 x62 x63 x64 x65 x66 x67 x68 x69 x70 x71 x72 x73 x74 x75 : Value) (hn : n ≤ 300) (hb : Built w v H n n B rv s0 ch)
    (hsel : (sel = 0 ∧ rv = some ⟨H, 0, none⟩) ∨ (sel = 1 ∧ rv = some ⟨H + 1, 0, none⟩) ∨ (sel = 2 ∧ rv = none))
    (hpre : ∀ j, j < n → ∃ a, oa = some a ∧ a.block < w.heap.size ∧ w.cell? (a.add j) = some (.bool (B j))) :
    wpN Yba.prog (dropSeq 12 (Yba.f3.body.getD .skip)) (bodyPost Yba.prog Yba.f3 fun e w' => e = .returned (.bool true) ∧ Kept w w') { tmps := #[.int .u8 m, .string s0, .string ss, .slice oa n cap, .bool hc, undef, undef, undef, undef, undef, .bool false, .int .i64 sel, .pointer (some ⟨H, 0, none⟩), .pointer (some ⟨H + 1, 0, none⟩), .pointer (some ⟨H + 2, 0, none⟩), .slice (some ⟨H + 3, 0, none⟩) n n, x16, x17, .chan ch, undef, undef, undef, x22, x23, x24, x25, x26, x27, x28, x29, x30, x31, x32, x33, x34, x35, x36, x37, x38, x39, x40, x41, x42, x43, x44, x45, x46, x47, x48, x49, x50, x51, x52, x53, x54, x55, x56, x57, x58, x59, x60, x61, x62, x63, x64, x65, x66, x67, x68, x69, x70, x71, x72, x73, x74, x75, undef, undef, undef, undef, undef, undef, undef, undef, undef, undef, undef, undef, undef, undef, undef, undef, undef, undef, undef, undef, undef, undef, undef, undef, undef, undef, undef, undef, undef, undef, undef, undef, undef, undef, undef, undef, undef, undef, undef, undef, undef, undef, undef, undef, undef, undef, undef, undef, undef, undef, undef, undef, undef, undef, undef, undef, undef, undef, undef, undef, undef, undef, undef, undef, undef, undef, undef, undef, undef, undef, undef, undef, undef, undef, undef, undef, undef, undef, undef, undef, undef, undef, undef, undef, undef, undef, undef, undef, undef, undef, undef, undef, undef, undef, undef, undef, undef, undef, undef, undef, undef, undef, undef, undef, undef, undef, undef, undef, undef, undef, undef, undef, undef, undef, undef, undef, undef, undef, undef, undef, undef, undef], defers := [] } v := by
  obtain ⟨es, hes, hW⟩ := waits_of hb
  obtain ⟨cs, hws, hcs, hcsj⟩ := hb.ws
  have hH := Nat.le_of_eq hb.H_eq
  have hH' := Nat.le_of_eq hb.H_eq.symm
  have hvz := hb.size
  have h0 : v.cell? ⟨H + 2, 0, none⟩ = some (.int .i32 0) := cell_blk hb.feed rfl
  have h2 : v.cell? ⟨H + 2, 2, none⟩ = some (.map (some (H + 4))) := cell_blk hb.feed rfl
  have h4 : v.cell? ⟨H + 2, 4, none⟩ = some (.pointer rv) := cell_blk hb.feed rfl
  have h5 : v.cell? ⟨H + 2, 5, none⟩ = some (.chan ch) := cell_blk hb.feed rfl
  have z0 : v.frozen? ⟨H + 2, 0, none⟩ = false := frozen_blk hb.feed
  have z5 : v.frozen? ⟨H + 2, 5, none⟩ = false := frozen_blk hb.feed
  have hr : v.cell? ⟨H, 1, none⟩ = some (.string s0) := cell_blk hb.run rfl
  have zr : v.frozen? ⟨H, 1, none⟩ = false := frozen_blk hb.run
  have hws' : ∀ j, j < n → v.cell? ⟨H + 3, j, none⟩ = some (.pointer (some ⟨H + 6 + 2 * j, 0, none⟩)) := fun j hj => cell_blk hws (hcsj j hj)
  rcases hsel with ⟨rfl, rfl⟩ | hsel
  · have hcall := setOpen_run (H + 2) H (H + 4) n (fun j => H + 5 + 2 * j) (fun j => H + 6 + 2 * j) es n ch s0 ss v h0 z0 h2 h4 h5 z5 hr zr (by omega) hW (fun c hc => (hb.old c hc).2)
    refine wpN_seq_k fun K hK => ?_
    clear h0 h2 h4 z0 z5 hr zr
    have hm := hb.map
    go_wp2_with (go_at_call 6; refine hcall.mono ?_; rintro e v' ⟨rfl, hO⟩)
    clear hcall
    have hnc : ∀ c, ch = some c → c < v.heap.size := fun c hc => (Array.getElem?_eq_some_iff.1 (hb.old c hc).2).1
    refine from13a m s0 ss oa n cap hc H (v.heap.size + 1) ch es w v' _ _ _ _ _ _ _ _ _ _ _ _ _ _ _ _ _ _ _ _ _ _ _ _ _ _ _ _ _ _ _ _ _ _ _ _ _ _ _ _ _ _ _ _ _ _ _ _ _ _ _ _ _ _ _ _ _ _ _ hn ⟨hO.os.trans hb.kept.os, hO.output.trans hb.kept.output, by rw [hO.size]; omega, fun k hk => ?_⟩ hO.lock ?_ ?_ ?_ hes ?_ hO.chg hO.new ?_ hO.ses ?_ ?_ hO.full hO.old
    · rw [hO.block k (by omega) (by omega) (by omega) (fun j _ => by omega) (fun e => ?_)]
      · exact hb.kept.low k hk
      · have := (hb.old k e).1
        omega
    · rw [hO.frozen _ (by simp; omega)]; exact frozen_blk hb.feed
    · rw [hO.cell _ (by simp; omega) (by simp) (by simp) (by simp)]; exact cell_blk hb.feed rfl
    · rw [hO.block _ (by omega) (by omega) (by omega) (fun j _ => by omega) (fun e => ?_)]
      · exact hW.map
      · have := (hb.old _ e).1
        omega
    · rw [hO.cell _ (by simp; omega) (by simp) (by simp) (by simp)]; exact cell_blk hb.feed rfl
    · intro e
      have := hnc _ e
      omega
    · intro j hj
      rw [hO.cell _ (by simp; omega) (by simp) (by simp) (by simp)]; exact hws' j hj
    · intro j hj
      obtain ⟨a, b, c, h⟩ := hb.wt j hj
      rw [hO.cell _ (by simp; omega) (by simp <;> omega) (by simp <;> omega) (by simp)]; exact cell_blk h rfl
  · have hcall := setOpen_other (H + 2) H rv ss v h0 z0 h4 (fun w1 e1 e2 => by
        rcases hsel with ⟨_, rfl⟩ | ⟨_, rfl⟩
        · exact neq_ptr23 (by simp) ⟨_, _, (e2 _ rfl).trans hb.other⟩ ⟨_, _, e1.trans hb.run⟩
        · exact neq_nil23 _ _) (by omega) (fun a ha => by
        rcases hsel with ⟨_, rfl⟩ | ⟨_, rfl⟩
        · cases ha; simp
        · cases ha)
    rw [setCell_back h0] at hcall
    refine wpN_seq_k fun K hK => ?_
    clear z5 zr
    go_wp2_with (go_at_call 6; refine hcall.mono ?_; rintro e v' ⟨rfl, hv'⟩; have hv2 := hv'.symm; clear hv'; subst hv2)
    clear hcall
    refine from13b m s0 ss oa n cap hc sel H B rv ch es w v _ _ _ _ _ _ _ _ _ _ _ _ _ _ _ _ _ _ _ _ _ _ _ _ _ _ _ _ _ _ _ _ _ _ _ _ _ _ _ _ _ _ _ _ _ _ _ _ _ _ _ _ _ _ _ _ _ _ _ hn hb.kept hsel h0 z0 h2 hW.map hes h4 h5 hr (cell_blk hb.other rfl) hws' hW.wake hb.chan (fun j hj => ?_) (fun c hc => (hb.old c hc).2)
    obtain ⟨a, ha, hab, hac⟩ := hpre j hj
    refine ⟨a, ha, ?_⟩
    rw [← hac]
    exact World.cell?_of_block (w := w) (a := a.add j) (hb.kept.low _ (by rw [add_blk]; exact hab))

theorem built_ch {w v : World} {H n : Nat} {B : Nat → Bool} {rv : Option Addr} {s0 : ByteArray} (hb : Built w v H n n B rv s0 none) (hsz : v.heap.size = H + 5 + 2 * n) :
    Built w ((v.setCell ⟨H + 2, 5, none⟩ (.chan (some v.heap.size))).alloc (.chan 0 #[] false 0 0 false)) H n n B rv s0 (some v.heap.size) := by
  have hH := hb.H_eq
  have hl : ∀ k, k < v.heap.size → k ≠ H + 2 → ((v.setCell ⟨H + 2, 5, none⟩ (.chan (some v.heap.size))).alloc (.chan 0 #[] false 0 0 false)).heap[k]? = v.heap[k]? := fun k hk hk2 => by
    rw [heap_alloc_old _ _ (by simpa using hk), Below.heap_setCell _ _ _ _ hk2]
  have hz : ((v.setCell ⟨H + 2, 5, none⟩ (.chan (some v.heap.size))).alloc (.chan 0 #[] false 0 0 false)).heap.size = v.heap.size + 1 := by simp
  obtain ⟨cs, hws, hcs, hcsj⟩ := hb.ws
  obtain ⟨es, hmap, hes⟩ := hb.map
  refine ⟨⟨hb.kept.os, hb.kept.output, by rw [hz]; omega, fun k hk => ?_⟩, hH, by rw [hz]; omega, ?_, ?_, ?_, ⟨cs, ?_, hcs, hcsj⟩, ⟨es, ?_, hes⟩, ?_, ?_, ?_⟩
  · rw [hl _ (by omega) (by omega)]; exact hb.kept.low k hk
  · rw [hl _ (by omega) (by omega)]; exact hb.run
  · rw [hl _ (by omega) (by omega)]; exact hb.other
  · rw [heap_alloc_old _ _ (by simp; omega)]
    exact heap_setCell_own hb.feed
  · rw [hl _ (by omega) (by omega)]; exact hws
  · rw [hl _ (by omega) (by omega)]; exact hmap
  · intro j hj
    obtain ⟨a, b, c, h⟩ := hb.wt j hj
    exact ⟨a, b, c, by rw [hl _ (by omega) (by omega)]; exact h⟩
  · intro j hj
    rw [hl _ (by omega) (by omega)]; exact hb.chan j hj
  · intro c hc
    cases hc
    refine ⟨by omega, ?_⟩
    have := heap_alloc_new (v.setCell ⟨H + 2, 5, none⟩ (.chan (some v.heap.size))) (.chan 0 #[] false 0 0 false)
    simpa using this

set_option maxRecDepth 100000 in
set_option maxHeartbeats 1600000 in
theorem from10 (m : Int) (s0 ss : ByteArray) (oa : Option Addr) (n cap : Nat) (hc : Bool) (sel : Int) (H : Nat) (B : Nat → Bool) (rv : Option Addr) (w v : World) (x16 x17 x22 x23 x24 x25 x26 x27 x28 x29 x30 x31 x32 x33 x34 x35 x36 x37 x38 x39 x40 x41 x42 x43 x44 x45 x46 x47 x48 x49 x50 x51 x52 x53 x54 x55 x56 x57 x58 x59 x60 x61 x62 x63 x64 x65 x66 x67 x68 x69 x70 x71 : Value) (hn : n ≤ 300) (hb : Built w v H n n B rv s0 none) (hsz : v.heap.size = H + 5 + 2 * n)
    (hsel : (sel = 0 ∧ rv = some ⟨H, 0, none⟩) ∨ (sel = 1 ∧ rv = some ⟨H + 1, 0, none⟩) ∨ (sel = 2 ∧ rv = none))
    (hpre : ∀ j, j < n → ∃ a, oa = some a ∧ a.block < w.heap.size ∧ w.cell? (a.add j) = some (.bool (B j))) :
    wpN Yba.prog (dropSeq 10 (Yba.f3.body.getD .skip)) (bodyPost Yba.prog Yba.f3 fun e w' => e = .returned (.bool true) ∧ Kept w w') { tmps := #[.int .u8 m, .string s0, .string ss, .slice oa n cap, .bool hc, undef, undef, undef, undef, undef, .bool false, .int .i64 sel, .pointer (some ⟨H, 0, none⟩), .pointer (some ⟨H + 1, 0, none⟩), .pointer (some ⟨H + 2, 0, none⟩), .slice (some ⟨H + 3, 0, none⟩) n n, x16, x17, undef, undef, undef, undef, x22, x23, x24, x25, x26, x27, x28, x29, x30, x31, x32, x33, x34, x35, x36, x37, x38, x39, x40, x41, x42, x43, x44, x45, x46, x47, x48, x49, x50, x51, x52, x53, x54, x55, x56, x57, x58, x59, x60, x61, x62, x63, x64, x65, x66, x67, x68, x69, x70, x71, undef, undef, undef, undef, undef, undef, undef, undef, undef, undef, undef, undef, undef, undef, undef, undef, undef, undef, undef, undef, undef, undef, undef, undef, undef, undef, undef, undef, undef, undef, undef, undef, undef, undef, undef, undef, undef, undef, undef, undef, undef, undef, undef, undef, undef, undef, undef, undef, undef, undef, undef, undef, undef, undef, undef, undef, undef, undef, undef, undef, undef, undef, undef, undef, undef, undef, undef, undef, undef, undef, undef, undef, undef, undef, undef, undef, undef, undef, undef, undef, undef, undef, undef, undef, undef, undef, undef, undef, undef, undef, undef, undef, undef, undef, undef, undef, undef, undef, undef, undef, undef, undef, undef, undef, undef, undef, undef, undef, undef, undef, undef, undef, undef, undef, undef, undef, undef, undef, undef, undef, undef, undef, undef, undef, undef, undef], defers := [] } v := by
  have hb' := built_ch hb hsz
  have hmk := mk0
  have h5 : v.cell? ⟨H + 2, 5, none⟩ = some (.chan none) := cell_blk hb.feed rfl
  have z5 : v.frozen? ⟨H + 2, 5, none⟩ = false := frozen_blk hb.feed
  have hlt : H + 2 < v.heap.size := by omega
  clear hsz
  refine wpN_seq_k fun K hK => ?_
  go_wp2
  refine wpN_seq_k fun K hK => ?_
  cases hc with
  | false =>
    go_wp2
    exact from12 m s0 ss oa n cap false sel H B rv none w v _ _ _ _ _ _ _ _ _ _ _ _ _ _ _ _ _ _ _ _ _ _ _ _ _ _ _ _ _ _ _ _ _ _ _ _ _ _ _ _ _ _ _ _ _ _ _ _ _ _ _ _ _ _ _ _ hn hb hsel hpre
  | true =>
    go_wp2
    refine from12 m s0 ss oa n cap true sel H B rv (some v.heap.size) w _ _ _ _ _ _ _ _ _ _ _ _ _ _ _ _ _ _ _ _ _ _ _ _ _ _ _ _ _ _ _ _ _ _ _ _ _ _ _ _ _ _ _ _ _ _ _ _ _ _ _ _ _ _ _ _ _ hn ?_ hsel hpre
    exact hb'

theorem heap5 (w : World) (o1 o2 o3 o4 o5 : Obj) : let v := ((((w.alloc o1).alloc o2).alloc o3).alloc o4).alloc o5
    v.heap.size = w.heap.size + 5 ∧ (∀ k, k < w.heap.size → v.heap[k]? = w.heap[k]?) ∧ v.heap[w.heap.size]? = some o1 ∧ v.heap[w.heap.size + 1]? = some o2 ∧ v.heap[w.heap.size + 2]? = some o3 ∧ v.heap[w.heap.size + 3]? = some o4 ∧ v.heap[w.heap.size + 4]? = some o5 := by
  intro v
  have e1 : (w.alloc o1).heap.size = w.heap.size + 1 := by simp
  have e2 : ((w.alloc o1).alloc o2).heap.size = w.heap.size + 2 := by simp
  have e3 : (((w.alloc o1).alloc o2).alloc o3).heap.size = w.heap.size + 3 := by simp
  have e4 : ((((w.alloc o1).alloc o2).alloc o3).alloc o4).heap.size = w.heap.size + 4 := by simp
  refine ⟨by simp [v], fun k hk => ?_, ?_, ?_, ?_, ?_, ?_⟩
  · rw [heap_alloc_old _ _ (by omega), heap_alloc_old _ _ (by omega), heap_alloc_old _ _ (by omega), heap_alloc_old _ _ (by omega), heap_alloc_old _ _ (by omega)]
  · rw [heap_alloc_old _ _ (by omega), heap_alloc_old _ _ (by omega), heap_alloc_old _ _ (by omega), heap_alloc_old _ _ (by omega), heap_alloc_new]
  · rw [heap_alloc_old _ _ (by omega), heap_alloc_old _ _ (by omega), heap_alloc_old _ _ (by omega), ← e1, heap_alloc_new]
  · rw [heap_alloc_old _ _ (by omega), heap_alloc_old _ _ (by omega), ← e2, heap_alloc_new]
  · rw [heap_alloc_old _ _ (by omega), ← e3, heap_alloc_new]
  · rw [← e4, heap_alloc_new]

theorem built0 (w : World) (n : Nat) (B : Nat → Bool) (rv : Option Addr) (s0 : ByteArray) :
    Built w (((((w.alloc (.cells (runCells s0) 28)).alloc (.cells (runCells s0) 28)).alloc (.cells (feedCells (some (w.heap.size + 4)) rv none) 45)).alloc (.cells (madeCells #[.pointer none] n) 47)).alloc (.map #[] 0)) w.heap.size n 0 B rv s0 none ∧
    (((((w.alloc (.cells (runCells s0) 28)).alloc (.cells (runCells s0) 28)).alloc (.cells (feedCells (some (w.heap.size + 4)) rv none) 45)).alloc (.cells (madeCells #[.pointer none] n) 47)).alloc (.map #[] 0)).heap.size = w.heap.size + 5 := by
  obtain ⟨hz, hlow, h1, h2, h3, h4, h5⟩ := heap5 w (.cells (runCells s0) 28) (.cells (runCells s0) 28) (.cells (feedCells (some (w.heap.size + 4)) rv none) 45) (.cells (madeCells #[.pointer none] n) 47) (.map #[] 0)
  refine ⟨⟨⟨rfl, rfl, by rw [hz]; omega, hlow⟩, rfl, by rw [hz]; omega, h1, h2, h3, ⟨_, h4, size_madeCells _ _, fun j hj => by omega⟩, ⟨_, h5, rfl⟩, fun j hj => by omega, fun j hj => by omega, fun c hc => by cases hc⟩, hz⟩

set_option maxRecDepth 100000 in
set_option maxHeartbeats 3200000 in
theorem open_core (m : Int) (s0 ss : ByteArray) (oa : Option Addr) (n cap : Nat) (hc : Bool) (B : Nat → Bool) (w : World) (h0 : 0 ≤ m) (h1 : m < 256)
    (hpre : ∀ j, j < n → ∃ a, oa = some a ∧ a.block < w.heap.size ∧ w.cell? (a.add j) = some (.bool (B j))) :
    Calls Yba.prog 3 #[.int .u8 m, .string s0, .string ss, .slice oa n cap, .bool hc] w fun e w' => e = .returned (.bool true) ∧ Kept w w' := by
  refine calls_of_wpN Yba.func3 rfl (by rintro _ ⟨h, _⟩; cases h) ?_
  simp only [Yba.ntmps3, List.size_toArray, List.length_cons, List.length_nil, Nat.reduceAdd, Nat.reduceSub, Array.replicate_succ, Array.replicate_zero, List.push_toArray, List.append_toArray, List.nil_append, List.cons_append]
  refine wpN_seq_k fun K hK => ?_
  go_wp2
  refine wpN_seq_k fun K hK => ?_
  rcases Nat.lt_or_ge 300 n with hbig | hn
  · go_wp2
    go_ret
    exact ⟨rfl, rfl, rfl, Nat.le_refl _, fun _ _ => rfl⟩
  have hmk := mkws n hn
  have hmm := mkmap
  have h3 : m % 3 = 0 ∨ m % 3 = 1 ∨ m % 3 = 2 := by omega
  rcases h3 with hm | hm | hm
  all_goals
    go_wp2
    refine wpN_seq_k fun K hK => ?_
    go_wp2
    refine wpN_seq_k fun K hK => ?_
    go_wp2
    refine wpN_seq_k fun K hK => ?_
    go_wp2
    refine wpN_seq_k fun K hK => ?_
    go_wp2
    refine wpN_seq_k fun K hK => ?_
    go_wp2
    refine wpN_seq_k fun K hK => ?_
    go_wp2
    refine wpN_seq_k fun K hK => ?_
    go_wp2
  · exact from9 m s0 ss oa n cap hc 0 w.heap.size B (some ⟨w.heap.size, 0, none⟩) w _ _ _ _ _ _ _ _ _ _ _ _ _ _ _ _ _ _ _ _ _ _ _ _ _ _ _ hn hpre (built0 w n B (some ⟨w.heap.size, 0, none⟩) s0).1 (built0 w n B (some ⟨w.heap.size, 0, none⟩) s0).2 (fun v x16 x17 x22 x23 x24 x25 x26 x27 x28 x29 x30 x31 x32 x33 x34 x35 x36 x37 x38 x39 x40 x41 x42 x43 x44 x45 x46 x47 x48 x49 x50 x51 x52 x53 x54 x55 x56 x57 x58 x59 x60 x61 x62 x63 x64 x65 x66 x67 x68 x69 x70 x71 hb hz => from10 m s0 ss oa n cap hc 0 w.heap.size B (some ⟨w.heap.size, 0, none⟩) w v x16 x17 x22 x23 x24 x25 x26 x27 x28 x29 x30 x31 x32 x33 x34 x35 x36 x37 x38 x39 x40 x41 x42 x43 x44 x45 x46 x47 x48 x49 x50 x51 x52 x53 x54 x55 x56 x57 x58 x59 x60 x61 x62 x63 x64 x65 x66 x67 x68 x69 x70 x71 hn hb hz (Or.inl ⟨rfl, rfl⟩) hpre)
  · exact from9 m s0 ss oa n cap hc 1 w.heap.size B (some ⟨w.heap.size + 1, 0, none⟩) w _ _ _ _ _ _ _ _ _ _ _ _ _ _ _ _ _ _ _ _ _ _ _ _ _ _ _ hn hpre (built0 w n B (some ⟨w.heap.size + 1, 0, none⟩) s0).1 (built0 w n B (some ⟨w.heap.size + 1, 0, none⟩) s0).2 (fun v x16 x17 x22 x23 x24 x25 x26 x27 x28 x29 x30 x31 x32 x33 x34 x35 x36 x37 x38 x39 x40 x41 x42 x43 x44 x45 x46 x47 x48 x49 x50 x51 x52 x53 x54 x55 x56 x57 x58 x59 x60 x61 x62 x63 x64 x65 x66 x67 x68 x69 x70 x71 hb hz => from10 m s0 ss oa n cap hc 1 w.heap.size B (some ⟨w.heap.size + 1, 0, none⟩) w v x16 x17 x22 x23 x24 x25 x26 x27 x28 x29 x30 x31 x32 x33 x34 x35 x36 x37 x38 x39 x40 x41 x42 x43 x44 x45 x46 x47 x48 x49 x50 x51 x52 x53 x54 x55 x56 x57 x58 x59 x60 x61 x62 x63 x64 x65 x66 x67 x68 x69 x70 x71 hn hb hz (Or.inr (Or.inl ⟨rfl, rfl⟩)) hpre)
  · exact from9 m s0 ss oa n cap hc 2 w.heap.size B none w _ _ _ _ _ _ _ _ _ _ _ _ _ _ _ _ _ _ _ _ _ _ _ _ _ _ _ hn hpre (built0 w n B none s0).1 (built0 w n B none s0).2 (fun v x16 x17 x22 x23 x24 x25 x26 x27 x28 x29 x30 x31 x32 x33 x34 x35 x36 x37 x38 x39 x40 x41 x42 x43 x44 x45 x46 x47 x48 x49 x50 x51 x52 x53 x54 x55 x56 x57 x58 x59 x60 x61 x62 x63 x64 x65 x66 x67 x68 x69 x70 x71 hb hz => from10 m s0 ss oa n cap hc 2 w.heap.size B none w v x16 x17 x22 x23 x24 x25 x26 x27 x28 x29 x30 x31 x32 x33 x34 x35 x36 x37 x38 x39 x40 x41 x42 x43 x44 x45 x46 x47 x48 x49 x50 x51 x52 x53 x54 x55 x56 x57 x58 x59 x60 x61 x62 x63 x64 x65 x66 x67 x68 x69 x70 x71 hn hb hz (Or.inr (Or.inr ⟨rfl, rfl⟩)) hpre)
end Go.Proofs.Ybulkcbhs
