/- seat b3914a: (*Node).Sets: its iterator (50) -/
import Derived.Test.YbulkccaoIter
import Derived.Test.YbulkccaoRunLen
import Derived.Test.YbulkccaoQuiet
import Derived.Deep.DeepMust
namespace Go.Proofs.Ybulkccao
open Go Go.RowKit Go.Shelf
attribute [local go_sem] Oper.semAt_some

/-- a run of a node's records: where it starts, and what it holds -/
def Run (rl : List Rec) : Type := { r : Nat × List Rec // (rl.drop r.1).take r.2.length = r.2 ∧ r.2 ≠ [] ∧ ∃ t, ∀ x ∈ r.2, x.d.typ = t }
def Run.recs {rl : List Rec} (r : Run rl) : List Rec := r.1.2
def Run.enc {rl : List Rec} (g : Nat) (r : Run rl) : Array Value := #[.slice (some ⟨g, r.1.1 * 4, none⟩) r.1.2.length r.1.2.length]

/-- a node's records, as Sets finds them: the box, the node, the row -/
structure NodeAt (W : World) (n₀ Bx q g cap : Nat) (rl : List Rec) : Prop where
  box : W.heap[Bx]? = some (.cells #[.pointer (some ⟨q, 0, none⟩)] 42 (0, 0))
  node : q < n₀ ∧ ∃ nm v, W.heap[q]? = some (.cells #[nm, v, .pointer none] 60 (0, 0)) ∧ ((v = .slice none 0 0 ∧ rl = []) ∨ v = .slice (some ⟨g, 0, none⟩) rl.length cap)
  row : rl ≠ [] → g < n₀ ∧ ∃ cur, W.heap[g]? = some (.cells cur 38 (0, 0)) ∧ cur.size = cap * 4 ∧ rl.length ≤ cap ∧ ∀ j c (h : j < rl.length), c < 4 → cur[j * 4 + c]? = (rl[j].cells)[c]?
theorem NodeAt.kept {W W' : World} {n₀ Bx q g cap : Nat} {rl : List Rec} (h : NodeAt W n₀ Bx q g cap rl) (hk : KpC n₀ W W') : NodeAt W' n₀ Bx q g cap rl := by
  obtain ⟨hq, nm, v, hn, hv⟩ := h.node
  refine ⟨hk.same _ _ _ _ h.box (by decide) (by decide), ⟨hq, nm, v, (hk.low _ hq).trans hn, hv⟩, fun hr => ?_⟩
  obtain ⟨hg, cur, hc, r⟩ := h.row hr
  exact ⟨hg, cur, (hk.low _ hg).trans hc, r⟩
theorem NodeAt.grown {W W' : World} {n₀ Bx q g cap : Nat} {rl : List Rec} (h : NodeAt W n₀ Bx q g cap rl) (hk : ∀ k, k < W.heap.size → W'.heap[k]? = W.heap[k]?) : NodeAt W' n₀ Bx q g cap rl := by
  have hh : ∀ {k : Nat} {o : Obj}, W.heap[k]? = some o → W'.heap[k]? = some o := fun hk' => (hk _ (Array.getElem?_eq_some_iff.1 hk').1).trans hk'
  obtain ⟨hq, nm, v, hn, hv⟩ := h.node
  refine ⟨hh h.box, ⟨hq, nm, v, hh hn, hv⟩, fun hr => ?_⟩
  obtain ⟨hg, cur, hc, r⟩ := h.row hr
  exact ⟨hg, cur, hh hc, r⟩

theorem size38 : Yba.prog.cellsOf 38 = 4 := by kernel_rfl
theorem slice_from (g len cap i : Nat) (hi : i ≤ len) (w : World) : (Instr.slice 26 (.slice (some ⟨g, 0, none⟩) len cap) (some (.int .i64 (i : Int))) none none).run Yba.prog w = .ok (.slice (some (if cap = i then ⟨g, 0, none⟩ else (⟨g, 0, none⟩ : Addr).add (i * 4))) (len - i) (cap - i)) w := by
  have hb : (0 : Int) ≤ i ∧ (i : Int) ≤ len := by omega
  by_cases e : cap = i
  · simp [Instr.slice, Instr.sliceBounds, run_underlying Yba.underlying26, Yba.sizeOf38, hb, e, go_sem]
  · simp [Instr.slice, Instr.sliceBounds, run_underlying Yba.underlying26, Yba.sizeOf38, hb, e, go_sem]
theorem slice_run (g len cap i e : Nat) (hi : i < e) (he : e ≤ cap) (w : World) : (Instr.slice 26 (.slice (some ⟨g, 0, none⟩) len cap) (some (.int .i64 (i : Int))) (some (.int .i64 (e : Int))) (some (.int .i64 (e : Int)))).run Yba.prog w = .ok (.slice (some ⟨g, i * 4, none⟩) (e - i) (e - i)) w := by
  have hb : i ≤ e := by omega
  have hne : e ≠ i := by omega
  simp [Instr.slice, Instr.sliceBounds, run_underlying Yba.underlying26, Yba.sizeOf38, hb, he, hne, go_sem]

set_option maxRecDepth 100000 in
set_option maxHeartbeats 4000000 in
theorem seq50_in (n : Nat) (hn : 1 ≤ n) (l n₀ Bx q g cap : Nat) (rl : List Rec) (hrl : rl.length ≤ 300) (J Jx : List (Run rl) → World → Prop)
    (W : World) (hJ : AbidesFrom W.heap.size J)
    (hY : ∀ pre x W1, J pre W1 → pre.length < rl.length → YieldAt Fence.wide (n - 1) Yba.prog l (Run.enc g x) W1 fun e W' =>
      (e = .returned (.bool true) ∧ J (pre ++ [x]) W' ∧ KpC n₀ W1 W') ∨ (e = .returned (.bool false) ∧ Jx (pre ++ [x]) W'))
    (hS : NodeAt W n₀ Bx q g cap rl) (hW0 : n₀ ≤ W.heap.size) (h0 : J [] W) :
    CallsIn Fence.wide n Yba.prog 50 #[.func (.yield l) #[] #[], .pointer (some ⟨Bx, 0, none⟩)] W fun e W' => (∃ v, e = .returned v) ∧
      ((∃ xs : List (Run rl), xs.flatMap Run.recs = rl ∧ J xs W') ∨ (∃ pre : List (Run rl), pre.flatMap Run.recs <+: rl ∧ Jx pre W')) := by
  refine callsIn_of_wp Yba.func50 rfl trivial ?_ rfl
  simp only [Yba.ntmps50, List.size_toArray, List.length_cons, List.length_nil, Nat.reduceAdd, Nat.reduceSub, Array.replicate_succ, Array.replicate_zero, List.push_toArray, List.append_toArray, List.nil_append, List.cons_append]
  obtain ⟨hq, nm, v, hnd, hv⟩ := hS.node
  have cB : W.cell? ⟨Bx, 0, none⟩ = some (.pointer (some ⟨q, 0, none⟩)) := cell_blk hS.box rfl
  have c2 : W.cell? ⟨q, 2, none⟩ = some (.pointer none) := cell_blk hnd rfl
  gi_wp2
  gi_loopw [5] (fun i wr => ∃ (k : Nat) (pre : List (Run rl)), k ≤ rl.length ∧ i = .int .i64 k ∧ pre.flatMap Run.recs = rl.take k ∧ pre.length ≤ k ∧ NodeAt wr n₀ Bx q g cap rl ∧ n₀ ≤ wr.heap.size ∧ J pre wr) (fun i _ => rl.length - (RowKit.intOf i).toNat)
  case atStart => exact ⟨0, [], by omega, rfl, by simp, by simp, hS, hW0, h0⟩
  case round =>
    clear hnd hv cB c2 hS
    obtain ⟨k, pre, hk, rfl, hpre, hpl, hS, hW1, hJk⟩ := hrel
    obtain ⟨hq, nm, v, hnd, hv⟩ := hS.node
    have cB : wr.cell? ⟨Bx, 0, none⟩ = some (.pointer (some ⟨q, 0, none⟩)) := cell_blk hS.box rfl
    rcases Nat.lt_or_ge k rl.length with hkl | hkl
    · rcases hv with ⟨_, rfl⟩ | rfl
      · simp at hkl
      · have c1 : wr.cell? ⟨q, 1, none⟩ = some (.slice (some ⟨g, 0, none⟩) rl.length cap) := cell_blk hnd rfl
        obtain ⟨hg, cur, hcur, hcs, hcap, hcl⟩ := hS.row (by rintro rfl; simp at hkl)
        have hgl : g < wr.heap.size := by omega
        have hql : q < wr.heap.size := by omega
        have hBl : Bx < wr.heap.size := (Array.getElem?_eq_some_iff.1 hS.box).1
        have c3 : ∀ j (h : j < rl.length), wr.cell? ⟨g, j * 4 + 3, none⟩ = some (rl[j].d.val) := fun j h => cell_blk hcur (by rw [hcl j 3 h (by decide)]; rfl)
        obtain ⟨T, x, fn, hdv, hm, hen, hcall⟩ := typ_any rl[k].d
        have c3k : wr.cell? ⟨g, k * 4 + 3, none⟩ = some (.iface T x) := by rw [c3 k hkl, hdv]
        have cB' := Bel.cell (w := wr) (a := ⟨Bx, 0, none⟩) hBl cB
        have c1' := Bel.cell (w := wr) (a := ⟨q, 1, none⟩) hql c1
        have c3' := Bel.cell (w := wr) (a := ⟨g, k * 4 + 3, none⟩) hgl c3k
        have hcallb : ∀ p : Bel wr, Calls Yba.prog fn #[x] p.v fun e w' => e = .returned (.int .u16 rl[k].d.typ) ∧ Below p.v.heap.size p.v w' := fun p => (hcall p.v).mono fun e w' h => ⟨h.1, by obtain ⟨o, rfl⟩ := h.2; exact (Below.refl _ _).alloc (Nat.le_refl _) _⟩
        have hsl := slice_from g rl.length cap (k + 1) (by omega)
        push_cast at hsl
        have hrun : ∀ p : Bel wr, Calls Yba.prog 51 #[.slice (some (if cap = k + 1 then ⟨g, 0, none⟩ else (⟨g, 0, none⟩ : Addr).add ((k + 1) * 4))) (rl.length - (k + 1)) (cap - (k + 1)), .int .u16 rl[k].d.typ] p.v fun e w' => e = .returned (.int .i64 (runL rl[k].d.typ (rl.drop (k + 1)))) ∧ Below p.v.heap.size p.v w' := fun p => by
          have h := runLen_run (some (if cap = k + 1 then ⟨g, 0, none⟩ else (⟨g, 0, none⟩ : Addr).add ((k + 1) * 4))) (cap - (k + 1)) (rl.drop (k + 1)) rl[k].d.typ p.v (by simp; omega) (fun hne => by
            have hlt : k + 1 < rl.length := by
              rcases Nat.lt_or_ge (k + 1) rl.length with h | h
              · exact h
              · exact absurd (List.drop_eq_nil_of_le h) hne
            refine ⟨g, (k + 1) * 4, by rw [if_neg (by omega)]; simp [Addr.add], by have := p.h.size; omega, fun j hj => ?_⟩
            simp at hj
            rw [show (k + 1) * 4 + j * 4 + 3 = (k + 1 + j) * 4 + 3 by omega]
            refine (p.h.cell (p := ⟨g, (k + 1 + j) * 4 + 3, none⟩) hgl).trans ?_
            rw [c3 (k + 1 + j) (by omega)]
            simp)
          simpa using h
        generalize (if cap = k + 1 then (⟨g, 0, none⟩ : Addr) else (⟨g, 0, none⟩ : Addr).add ((k + 1) * 4)) = sp at hsl hrun
        obtain ⟨m, hmm⟩ : ∃ m, runL rl[k].d.typ (rl.drop (k + 1)) = m := ⟨_, rfl⟩
        have hml : m ≤ rl.length - (k + 1) := by have := runL_le rl[k].d.typ (rl.drop (k + 1)); rw [hmm] at this; simpa using this
        obtain ⟨ty, hty⟩ : ∃ ty, rl[k].d.typ = ty := ⟨_, rfl⟩
        rw [hmm] at hrun
        rw [hty] at hrun hcallb
        have hkl' : (k : Int) < rl.length := by omega
        have hsr : ∀ w : World, (Instr.slice 26 (.slice (some ⟨g, 0, none⟩) rl.length cap) (some (.int .i64 (k : Int))) (some (.int .i64 ((k : Int) + 1 + m))) (some (.int .i64 ((k : Int) + 1 + m)))).run Yba.prog w = .ok (.slice (some ⟨g, k * 4, none⟩) (1 + m) (1 + m)) w := fun w => by
          have h := slice_run g rl.length cap k (k + 1 + m) (by omega) (by omega) w
          rw [show k + 1 + m - k = 1 + m by omega] at h
          push_cast at h
          exact h
        clear c3 hcall c3k hdv hcl hcur hnd
        gi_wp2
        refine wpIn_wide.2 ?_
        have hinh : Inhabited (Bel wr) := ⟨⟨wr, Below.refl _ _⟩⟩
        refine wp_region_quiet_bel (by kernel_rfl) (by kernel_rfl) ?_
        repeat (go_big_quiet_step (fail))
        go_big_quiet_step (refine calls_bel (hcallb _))
        go_big_quiet_step (refine calls_bel (hrun _))
        repeat (go_big_quiet_step (fail))
        refine wpQuiet_nil ?_
        rintro w5 ⟨⟨_, hB5⟩, rfl⟩
        have hS5 := hS.grown hB5.block
        have hJ5 : J pre w5 := hJ _ wr _ none hJk ⟨hB5.os, hB5.tape, hB5.output, hB5.size, fun i hi _ => hB5.block i hi⟩ (fun r e => by cases e)
        have cB5 : w5.cell? ⟨Bx, 0, none⟩ = some (.pointer (some ⟨q, 0, none⟩)) := (hB5.cell (p := ⟨Bx, 0, none⟩) hBl).trans cB
        have c15 : w5.cell? ⟨q, 1, none⟩ = some (.slice (some ⟨g, 0, none⟩) rl.length cap) := (hB5.cell (p := ⟨q, 1, none⟩) hql).trans c1
        have hW5 : n₀ ≤ w5.heap.size := Nat.le_trans hW1 hB5.size
        obtain ⟨run, hrn1, hrn2⟩ : ∃ run : Run rl, Run.enc g run = #[.slice (some ⟨g, k * 4, none⟩) (1 + m) (1 + m)] ∧ rl.take (k + 1 + m) = rl.take k ++ run.recs := by
          have hd : rl.drop k = rl[k] :: rl.drop (k + 1) := (List.getElem_cons_drop hkl).symm
          have hl : ((rl.drop k).take (1 + m)).length = 1 + m := by simp; omega
          refine ⟨⟨(k, (rl.drop k).take (1 + m)), ?_, ?_, ty, ?_⟩, ?_, ?_⟩
          · simp only [hl]
          · intro e
            have := congrArg List.length e
            simp only [hl, List.length_nil] at this
            omega
          · intro r hr
            rw [hd, Nat.add_comm, List.take_succ_cons] at hr
            simp only [List.mem_cons] at hr
            rcases hr with rfl | hr
            · exact hty
            · have := runL_all rl[k].d.typ (rl.drop (k + 1))
              rw [hmm] at this
              rw [← hty]
              exact this r hr
          · simp only [Run.enc, hl]
          · simp only [Run.recs]
            rw [show k + 1 + m = k + (1 + m) by omega, List.take_add]
        obtain ⟨fn', tmps, assign, body, hy, hR⟩ := hY pre run _ hJ5 (by omega)
        rw [hrn1] at hy
        clear hrun hsl hcallb cB' c1' c3' cB c1 hm hen hrn1
        gi_wp2
        refine hR.mono ?_
        rintro e W3 (⟨rfl, hJ3, hk3⟩ | ⟨rfl, hJx3⟩)
        · gi_wp2
          go_roundw
          case rel => exact ⟨k + 1 + m, pre ++ [run], by omega, rfl, by rw [hrn2]; simp [hpre], by simp; omega, hS5.kept hk3, Nat.le_trans hW5 hk3.size, hJ3⟩
          case measure =>
            simp [RowKit.intOf]
            omega
        · gi_wp2
          refine bodyPost_ret (results_none rfl _ _ _) rfl ?_
          exact ⟨⟨_, rfl⟩, .inr ⟨_, by simp only [List.flatMap_append, hpre, List.flatMap_cons, List.flatMap_nil, List.append_nil]; rw [← hrn2]; exact List.take_prefix _ _, hJx3⟩⟩
    · rcases hv with ⟨rfl, rfl⟩ | rfl
      · have c1 : wr.cell? ⟨q, 1, none⟩ = some (.slice none 0 0) := cell_blk hnd rfl
        gi_wp2
        go_end0
        exact ⟨⟨_, rfl⟩, .inl ⟨pre, by rw [hpre]; simp, hJk⟩⟩
      · have c1 : wr.cell? ⟨q, 1, none⟩ = some (.slice (some ⟨g, 0, none⟩) rl.length cap) := cell_blk hnd rfl
        gi_wp2
        go_end0
        exact ⟨⟨_, rfl⟩, .inl ⟨pre, by rw [hpre, List.take_of_length_le hkl], hJk⟩⟩
end Go.Proofs.Ybulkccao
