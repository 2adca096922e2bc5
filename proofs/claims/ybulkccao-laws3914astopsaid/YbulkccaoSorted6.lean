/- seat b3914a: SortedRecords (6) -/
import Derived.Test.YbulkccaoStop
import Derived.Test.YbulkccaoValues
import Derived.Test.YbulkccaoSort
import Derived.Test.YbulkccaoSortKey
import Derived.Test.YbulkccaoShelf
import Derived.Test.YbulkccaoRound
namespace Go.Proofs.Ybulkccao
open Go Go.RowKit Go.Shelf
attribute [local go_sem] Oper.semAt_some

theorem sortKey_run (ls : List Bytes) (w : World) (hw : WFL ls) : Calls Yba.prog 12 #[.string (bs (encL ls))] w fun e w' => e = .returned (.string (bs (skey ls.reverse))) ∧ Below w.heap.size w w' :=
  sortKey_aux Yba.Builder_Grow_fresh Yba.Builder_String_any ls w hw
theorem info74 : (Yba.prog.info? 74).map (fun i => (i.zero, i.size, i.bytes)) = some (some (.agg #[.string ⟨#[]⟩, .pointer none]), 2, 24) := by kernel_rfl
theorem records_run (Z : Nat) (f : Value) (w : World) : Calls Yba.prog 16 #[.pointer (some ⟨Z, 0, none⟩), .func (.func 17) #[] #[f]] w fun e w' => e = .returned (.func (.func 32) #[] #[.pointer (some ⟨w.heap.size, 0, none⟩), .pointer (some ⟨w.heap.size + 1, 0, none⟩)]) ∧ w' = (w.alloc (.cells #[.pointer (some ⟨Z, 0, none⟩)] 25)).alloc (.cells #[.func (.func 17) #[] #[f]] 70) := by
  go_enter Yba.func16, Yba.ntmps16
  go_wp2
  go_ret
  exact ⟨rfl, rfl⟩

/-- the nodes put into 'sorted' so far -/
structure Sr (w : World) (Bs : Nat) (l : List Nd) (W : World) : Prop where
  bel : Below w.heap.size w W
  ge : w.heap.size ≤ Bs
  got : ∃ g cap, W.heap[Bs]? = some (.cells #[.slice (some ⟨g, 0, none⟩) l.length cap] 68 (0, 0)) ∧ W.ownsRow w.heap.size 74 2 (.slice (some ⟨g, 0, none⟩) l.length cap) l.length (l.flatMap encN)
theorem Sr.keep {w : World} {Bs : Nat} {l : List Nd} {W W' : World} {row : Option Nat} (h : Sr w Bs l W) (hg : W.grownBy W' row) (hr : ∀ r, row = some r → w.heap.size ≤ r ∧ ∃ o : Obj, W.heap[r]? = some o ∧ o.isCells = false) : Sr w Bs l W' := by
  have hh : ∀ {k : Nat} {c : Array Value} {t : TypeId} {f : Nat × Nat}, W.heap[k]? = some (Obj.cells c t f) → W'.heap[k]? = some (Obj.cells c t f) := fun {k c t f} hk => by
    refine (hg.block k (Array.getElem?_eq_some_iff.1 hk).1 fun e => ?_).trans hk
    obtain ⟨_, o, ho, hc⟩ := hr k e.symm
    rw [ho] at hk
    cases hk
    simp [Obj.isCells] at hc
  obtain ⟨g, cap, hb, hrow⟩ := h.got
  refine ⟨h.bel.trans ⟨hg.os, hg.tape, hg.output, hg.size, fun k hk => hg.block k (by have := h.bel.size; omega) fun e => by have := (hr k e.symm).1; omega⟩, h.ge, g, cap, hh hb, ownsRow_old hrow fun k hk => ?_⟩
  obtain ⟨c, hc⟩ := ownsRow_typ hrow hk
  rw [hh hc, hc]
theorem cells2 (w : World) (a b : Value) : ∀ (j : Nat) (u : Value), [a, b][j]? = some u → (w.alloc (Obj.cells #[a, b] 74)).cell? ((⟨w.heap.size, 0, none⟩ : Addr).add j) = some u := by
  intro j u hj
  match j, hj with
  | 0, hj => simp at hj; subst hj; simp [Addr.add]
  | 1, hj => simp at hj; subst hj; simp [Addr.add]
  | j + 2, hj => simp at hj

theorem nodup_keys : ∀ {l : List Nd}, (l.Pairwise fun a b => nkey a.2 ≠ nkey b.2) → l.Nodup
  | [], _ => by simp
  | x :: l, h => by
    rw [List.pairwise_cons] at h
    rw [List.nodup_cons]
    exact ⟨fun hx => h.1 x hx rfl, nodup_keys h.2⟩

set_option maxRecDepth 100000 in
set_option maxHeartbeats 8000000 in
theorem sorted_ok : SRok := by
  intro B Z M x ns vs rs w hz hnl
  obtain ⟨es, clock, hM, hmi⟩ := hz.map
  have c2 : w.cell? ⟨Z, 2, none⟩ = some (.map (some M)) := cell_blk hz.zone.1 rfl
  have hesz : es.size = ns.length := by
    have := congrArg List.length hmi.ents
    simpa using this
  obtain ⟨i7, hi7, ha7, hb7, hc7⟩ := info_parts info74
  have hlenM : ∀ w' : World, w'.heap[M]? = some (.map es clock) → (Builtin.len_ #[43] 3 #[.map (some M)]).run Yba.prog w' = .ok (.int .i64 ns.length) w' := fun w' h => by
    simp [Builtin.len_, run_underlying Yba.underlying43, MapKept.run_getObj_map h, hesz, goInt]
  refine (callsIn_wide (n := 10)).1 ?_
  refine callsIn_of_wp_marks Yba.func6 rfl trivial ?_ rfl
  simp only [Yba.ntmps6, List.size_toArray, List.length_cons, List.length_nil, Nat.reduceAdd, Nat.reduceSub, Array.replicate_succ, Array.replicate_zero, List.push_toArray, List.append_toArray, List.nil_append, List.cons_append]
  have hcZ : ∀ (w1 : World) (o : Obj), w.grownBy w1 none → (w1.alloc o).cell? ⟨Z, 2, none⟩ = some (.map (some M)) := fun w1 o hg => by
    have hZl := (Array.getElem?_eq_some_iff.1 hz.zone.1).1
    rw [World.cell?_alloc_lt w1 o ⟨Z, 2, none⟩ (by have := hg.size; show Z < _; omega)]
    exact cell_blk ((hg.block Z hZl (by simp)).trans hz.zone.1) rfl
  have hMl := MapKept.run_getObj_map (P := Yba.prog) hM
  gi_wp2_with (first | (gi_at_make; refine wpListIn_make_own _ rfl _ _ 68 rfl w.heap.size 74 i7 (.agg #[.string ⟨#[]⟩, .pointer none]) 2 Yba.underlying68 hi7 ha7 hb7 .i64 .i64 ns.length ns.length rfl rfl rfl (by rw [hc7]; omega) (by simp [maxLen]; omega) (Nat.le_refl _) ?_; intro w1 hrow1 hg1) | (refine ⟨trivial, ?_⟩; gi_at_call 11; refine (callsIn_wide.2 (nodes_run Z M _ (hcZ _ _ hg1))).mono ?_; rintro e w2 ⟨rfl, hw2⟩; subst hw2))
  have hs1 := hg1.size
  have hold2 : ∀ k, k < w.heap.size → ((w1.alloc (Obj.cells #[Value.slice (some ⟨w.heap.size, 0, none⟩) 0 ns.length] 68)).alloc (Obj.cells #[Value.map (some M)] 43)).heap[k]? = w.heap[k]? := fun k hk => by
    rw [heap_alloc_old' _ _ k (by simp; omega), heap_alloc_old' _ _ k (by omega), hg1.block k hk (by simp)]
  have hS2 : Sr w w1.heap.size [] ((w1.alloc (Obj.cells #[Value.slice (some ⟨w.heap.size, 0, none⟩) 0 ns.length] 68)).alloc (Obj.cells #[Value.map (some M)] 43)) := by
    refine ⟨⟨hg1.os, hg1.tape, hg1.output, by simp; omega, hold2⟩, hs1, w.heap.size, ns.length, ?_, ?_⟩
    · rw [heap_alloc_old' _ _ _ (by simp)]; exact World.alloc_heap_new w1 _
    · exact (hrow1.alloc _).alloc _
  have hBm : ((w1.alloc (Obj.cells #[Value.slice (some ⟨w.heap.size, 0, none⟩) 0 ns.length] 68)).alloc (Obj.cells #[Value.map (some M)] 43)).cell? ⟨w1.heap.size + 1, 0, none⟩ = some (.map (some M)) := by
    have := World.alloc_heap_new (w1.alloc (Obj.cells #[Value.slice (some ⟨w.heap.size, 0, none⟩) 0 ns.length] 68)) (Obj.cells #[Value.map (some M)] 43)
    rw [World.size_alloc] at this
    exact cell_blk this rfl
  have hs2 : ((w1.alloc (Obj.cells #[Value.slice (some ⟨w.heap.size, 0, none⟩) 0 ns.length] 68)).alloc (Obj.cells #[Value.map (some M)] 43)).heap.size = w1.heap.size + 2 := by simp
  generalize (w1.alloc (Obj.cells #[Value.slice (some ⟨w.heap.size, 0, none⟩) 0 ns.length] 68)).alloc (Obj.cells #[Value.map (some M)] 43) = W2 at *
  obtain ⟨Bs, hBs⟩ : ∃ Bs, Bs = w1.heap.size := ⟨_, rfl⟩
  rw [← hBs] at hS2 hBm hs2 hs1 ⊢
  clear hBs
  have hMl' : M < w.heap.size := (Array.getElem?_eq_some_iff.1 hM).1
  refine wpIn_rangeFunc_ownG (F := Fence.wide) rfl (by decide) (gf := 36) (lb := #[.pointer (some ⟨Bs + 1, 0, none⟩)]) rfl trivial (enters_of Yba.func36 (by kernel_rfl) rfl)
    (encs := fun x : { n : Nd // n ∈ ns } => #[nptr x.1]) (Kp := KeepsWalks) (S := fun xs => (xs.map Subtype.val).Perm ns) (Sp := fun _ => True) (N := ns.length) (w0 := W2)
    (fun l J Jx W hW hJ _ hY h0 => seq36_in Fence.wide 9 trivial rfl (by decide) l (Bs + 1) M clock es ns hmi hnl (fun n hn => by
        have := (hz.wf n hn).1
        have h2 := encL_small this
        simp only [nkey, lowL, List.length_map]
        omega) hz.keys J Jx hY W hJ ((hW.cell (p := ⟨Bs + 1, 0, none⟩) (by show Bs + 1 < _; omega)).trans hBm) ((hW.block M (by omega)).trans ((hold2 M hMl').trans hM)) h0)
    walksK_t walksK_b (Below.refl _ _) (fun _ => rfl)
    (fun (pre : List { n : Nd // n ∈ ns }) W => Sr w Bs (pre.map Subtype.val) W ∧ pre.length ≤ ns.length) (fun _ _ _ => False)
    (fun s A B row hs hg hr => ⟨hs.1.keep hg (fun r e => ⟨by have := (hr r e).1; omega, (hr r e).2⟩), hs.2⟩)
    (fun _ _ _ _ _ hs _ _ => hs.elim)
    ⟨hS2, by simp⟩
    (fun x => { tmps := #[Value.pointer (some ⟨Z, 0, none⟩), undef, Value.nilFunc, Value.pointer (some ⟨Bs, 0, none⟩), Value.pointer (some ⟨x.1.1, 0, none⟩), Value.pointer (some ⟨Z, 0, none⟩), Value.pointer (some ⟨Z, 0, none⟩), Value.pointer (some ⟨Z, 2, none⟩), Value.map (some M), Value.int IntKind.i64 ↑ns.length, Value.slice (some ⟨w.heap.size, 0, none⟩) 0 ns.length, Value.pointer (some ⟨Z, 0, none⟩), Value.func (Fn.func 36) #[] #[Value.pointer (some ⟨Bs + 1, 0, none⟩)], Value.pointer (some ⟨x.1.1, 0, none⟩), undef, undef, undef, undef, undef, undef, undef, undef, undef, undef, undef, undef, undef, undef, undef], defers := [] }) ?assign ?body ?done ?stop
  case assign =>
    rintro l x W K hK
    gi_wp2
    exact hK
  case body =>
    rintro l pre x W ⟨hS, hpl⟩ hlt
    have hnd := hz.node x.1 x.2
    have hnl' := (Array.getElem?_eq_some_iff.1 hnd).1
    have hbs := hS.bel.size
    obtain ⟨g, cap, hbox, hrow⟩ := hS.got
    obtain ⟨k, hk⟩ : ∃ k, (pre.map Subtype.val).length = k := ⟨_, rfl⟩
    rw [hk] at hbox hrow
    have hkl : k < ns.length := by rw [← hk]; simpa using hlt
    have cB : W.cell? ⟨Bs, 0, none⟩ = some (.slice (some ⟨g, 0, none⟩) k cap) := cell_blk hbox rfl
    have cn : W.cell? ⟨x.1.1, 0, none⟩ = some (.string (bs (encL x.1.2))) := cell_blk ((hS.bel.block _ hnl').trans hnd) rfl
    have hBl : Bs < W.heap.size := (Array.getElem?_eq_some_iff.1 hbox).1
    have hgl : g < W.heap.size := (hrow.lt g rfl).2
    have hneB : Bs ≠ g := by
      rintro rfl
      obtain ⟨c, hc⟩ := ownsRow_typ hrow (k := Bs) rfl
      rw [hbox] at hc
      cases hc
    have hsk := sortKey_run x.1.2 W.drew (hz.wf x.1 x.2).1
    have henc : encN x.1 = [.string (bs (skey x.1.2.reverse)), .pointer (some ⟨x.1.1, 0, none⟩)] := rfl
    obtain ⟨key, hkey⟩ : ∃ key, skey x.1.2.reverse = key := ⟨_, rfl⟩
    rw [hkey] at hsk henc
    obtain ⟨nm, hnm⟩ : ∃ nm, encL x.1.2 = nm := ⟨_, rfl⟩
    rw [hnm] at hsk cn
    have hsk2 : Calls Yba.prog 12 #[.string (bs nm)] W.drew fun e w5 => e = .returned (.string (bs key)) ∧ Below W.heap.size W w5 := hsk.mono fun e w5 h => ⟨h.1, below_undrew h.2⟩
    have hfacts : ∀ w5 : World, Below W.heap.size W w5 → w5.cell? ⟨Bs, 0, none⟩ = some (.slice (some ⟨g, 0, none⟩) k cap) ∧ (∀ o : Obj, (w5.alloc o).cell? ⟨Bs, 0, none⟩ = some (.slice (some ⟨g, 0, none⟩) k cap)) ∧ w5.heap[Bs]? = some (.cells #[.slice (some ⟨g, 0, none⟩) k cap] 68 (0, 0)) ∧ w5.ownsRow w.heap.size 74 2 (.slice (some ⟨g, 0, none⟩) k cap) k ((pre.map Subtype.val).flatMap encN) := fun w5 hB5 => by
      have h1 := (hB5.block Bs hBl).trans hbox
      have h3 := fun o => (heap_alloc_old' w5 o Bs (Array.getElem?_eq_some_iff.1 h1).1).trans h1
      exact ⟨cell_blk h1 rfl, fun o => cell_blk (h3 o) rfl, h1, ownsRow_old hrow fun q hq => by simp [Value.ownBlock] at hq; subst hq; exact hB5.block g hgl⟩
    have hone : ∀ u ∈ [Value.string (bs key), Value.pointer (some ⟨x.1.1, 0, none⟩)], u.oneCell' = true := by simp [Value.oneCell']
    have hq1 : k + 1 ≤ maxLen := by simp [maxLen]; omega
    have hq2 : (k + 1) * 24 ≤ 140737488355328 := by omega
    have hq3 : ∀ (o : Obj) (w5 : World), Below W.heap.size W w5 → w.heap.size ≤ (w5.alloc o).heap.size := fun o w5 h => by have := h.size; simp; omega
    have hbx6 : ∀ (o : Obj) (w5 w6 : World), Below W.heap.size W w5 → (w5.alloc o).grownBy w6 (some g) → w6.heap[Bs]? = some (.cells #[.slice (some ⟨g, 0, none⟩) k cap] 68 (0, 0)) := fun o w5 w6 hB5 hg => by
      have h1 := (hfacts w5 hB5).2.2.1
      have hl5 := (Array.getElem?_eq_some_iff.1 h1).1
      rw [hg.block Bs (by simp; omega) (by simp; exact hneB), heap_alloc_old' _ _ _ hl5]
      exact h1
    have hstore : ∀ (o : Obj) (w5 w6 : World), Below W.heap.size W w5 → (w5.alloc o).grownBy w6 (some g) → w6.cell? ⟨Bs, 0, none⟩ = some (.slice (some ⟨g, 0, none⟩) k cap) ∧ w6.frozen? ⟨Bs, 0, none⟩ = false := fun o w5 w6 hB5 hg => ⟨cell_blk (hbx6 o w5 w6 hB5 hg) rfl, frozen_blk (hbx6 o w5 w6 hB5 hg)⟩
    have hfin : ∀ (o : Obj) (w5 w6 : World) (g6 cap6 : Nat), Below W.heap.size W w5 → (w5.alloc o).grownBy w6 (some g) → w6.ownsRow w.heap.size 74 2 (.slice (some ⟨g6, 0, none⟩) (k + 1) cap6) (k + 1) ((pre.map Subtype.val).flatMap encN ++ [Value.string (bs key), Value.pointer (some ⟨x.1.1, 0, none⟩)]) →
        KeepsFrom W2.heap.size W (w6.setCell ⟨Bs, 0, none⟩ (.slice (some ⟨g6, 0, none⟩) (k + 1) cap6)) ∧ KeepsWalks W (w6.setCell ⟨Bs, 0, none⟩ (.slice (some ⟨g6, 0, none⟩) (k + 1) cap6)) ∧ Sr w Bs ((pre ++ [x]).map Subtype.val) (w6.setCell ⟨Bs, 0, none⟩ (.slice (some ⟨g6, 0, none⟩) (k + 1) cap6)) ∧ (pre ++ [x]).length ≤ ns.length := by
      intro o w5 w6 g6 cap6 hB5 hg hown
      have hs5 := hB5.size
      have hs6 := hg.size
      simp at hs6
      have hb6 := hbx6 o w5 w6 hB5 hg
      have hsame : ∀ (q : Nat), q < W.heap.size → q ≠ g → q ≠ Bs → (w6.setCell ⟨Bs, 0, none⟩ (.slice (some ⟨g6, 0, none⟩) (k + 1) cap6)).heap[q]? = W.heap[q]? := fun q hq h1 h2 => by
        rw [Below.heap_setCell _ _ _ _ h2, hg.block q (by simp; omega) (by simp; exact h1), heap_alloc_old' _ _ _ (by omega), hB5.block q hq]
      have hcells : ∀ (q : Nat) (ob : Obj), W.heap[q]? = some ob → ob.isCells = false → (w6.setCell ⟨Bs, 0, none⟩ (.slice (some ⟨g6, 0, none⟩) (k + 1) cap6)).heap[q]? = some ob := fun q ob hq hc => by
        rw [hsame q (Array.getElem?_eq_some_iff.1 hq).1 (fun e => by
          obtain ⟨c, hc'⟩ := ownsRow_typ hrow (k := g) rfl
          rw [e, hc'] at hq
          cases hq
          simp [Obj.isCells] at hc) (fun e => by
          rw [e, hbox] at hq
          cases hq
          simp [Obj.isCells] at hc)]
        exact hq
      have hgb := (hrow.lt g rfl).1
      refine ⟨⟨by simp; omega, fun q ob _ hq hc => hcells q ob hq hc⟩, ⟨by simp; omega, fun q ob hq hw => hcells q ob hq (Obj.not_cells_of_walk hw)⟩, ⟨?_, hS.ge, g6, cap6, ?_, ?_⟩, by have := hkl; rw [← hk] at this; simp at this ⊢; omega⟩
      · exact hS.bel.trans ⟨hg.os.trans hB5.os, hg.tape.trans hB5.tape, hg.output.trans hB5.output, by simp; omega, fun q hq => hsame q (by omega) (by omega) (by have := hS.ge; omega)⟩
      · rw [heap_setCell_own hb6]
        simp [hk]
      · have h7 := ownsRow_setCell_other hown (a := ⟨Bs, 0, none⟩) (fun e => by
          obtain ⟨c, hc⟩ := ownsRow_typ hown e
          rw [hb6] at hc
          cases hc) (.slice (some ⟨g6, 0, none⟩) (k + 1) cap6)
        have e1 : ((pre ++ [x]).map Subtype.val).length = k + 1 := by rw [← hk]; simp
        have e2 : ((pre ++ [x]).map Subtype.val).flatMap encN = (pre.map Subtype.val).flatMap encN ++ [Value.string (bs key), Value.pointer (some ⟨x.1.1, 0, none⟩)] := by
          rw [List.map_append, List.flatMap_append]
          simp [henc]
        rw [e1, e2]
        exact h7
    clear hsk
    gi_wp2
    refine wpIn_region_any (by kernel_rfl) (wpAnyIn_round' l (by kernel_rfl) ?_)
    change wpAnyIn _ _ _ _ _ _ _ _ _ (World.drew _)
    refine wpAnyIn_take (i := 1) (v := Value.pointer (some ⟨x.1.1, 0, none⟩)) rfl rfl (by kernel_rfl) (by kernel_rfl) (by kernel_rfl) (fun _ _ _ h => h) ⟨Or.inl ⟨by rfl, ?_⟩, fun _ => rfl⟩ ?_
    · intro w'; go_simp
    refine wpAnyIn_take (i := 2) (v := Value.pointer (some ⟨x.1.1, 0, none⟩)) rfl rfl (by kernel_rfl) (by kernel_rfl) (by kernel_rfl) (fun _ _ _ h => h) ⟨Or.inl ⟨by rfl, ?_⟩, fun _ => rfl⟩ ?_
    · intro w'; go_simp
    refine wpAnyIn_take (i := 3) (v := Value.pointer (some ⟨x.1.1, 0, none⟩)) rfl rfl (by kernel_rfl) (by kernel_rfl) (by kernel_rfl) (fun _ _ _ h => h) ⟨Or.inl ⟨by rfl, ?_⟩, fun _ => rfl⟩ ?_
    · intro w'; go_simp
    refine wpAnyIn_take (i := 6) (v := Value.pointer (some ⟨x.1.1, 0, none⟩)) rfl rfl (by kernel_rfl) (by kernel_rfl) (by kernel_rfl) (fun _ _ _ h => h) ⟨Or.inl ⟨by rfl, ?_⟩, fun _ => rfl⟩ ?_
    · intro w'; go_simp
    refine wpAnyIn_ready (rs := [0, 4]) (by kernel_rfl) (by simp) ?_
    refine AllReadyIn.cons rfl (fun K hK => ?_) ?_
    · go_simp
      refine hK _ _ ?_
      clear hK K
      refine wpAnyIn_ready (rs := [4]) (by kernel_rfl) (by simp) ?_
      refine AllReadyIn.cons rfl (fun K hK => ?_) ?_
      · go_simp
        refine hK _ _ ?_
        clear hK K
        refine wpAnyIn_ready (rs := [5]) (by kernel_rfl) (by simp) ?_
        refine AllReadyIn.cons rfl (fun K hK => ?_) ?_
        · go_simp
          refine ⟨trivial, ?_⟩
          refine (callsIn_wide.2 hsk2).mono ?_
          rintro e w5 ⟨rfl, hB5⟩
          obtain ⟨q1, q3, q6, row5⟩ := hfacts w5 hB5
          refine hK _ _ ?_
          clear hK K
          refine wpAnyIn_take (i := 7) (v := Value.agg #[Value.string (bs key), Value.pointer (some ⟨x.1.1, 0, none⟩)]) rfl rfl (by kernel_rfl) (by kernel_rfl) (by kernel_rfl) (fun _ _ _ h => h) ⟨Or.inl ⟨by rfl, ?_⟩, fun _ => rfl⟩ ?_
          · intro w'; go_simp
          refine wpAnyIn_ready (rs := [8]) (by kernel_rfl) (by simp) ?_
          refine AllReadyIn.cons rfl (fun K hK => ?_) ?_
          · go_simp
            refine hK _ _ ?_
            clear hK K
            refine wpAnyIn_ready (rs := [9]) (by kernel_rfl) (by simp) ?_
            refine AllReadyIn.cons rfl (fun K hK => ?_) ?_
            · refine stepIn_append_at rfl _ _ 68 rfl w.heap.size 74 i7 (.agg #[.string ⟨#[]⟩, .pointer none]) 2 24 Yba.underlying68 hi7 ha7 hb7 hc7 rfl (by decide) (.slice (some ⟨g, 0, none⟩) k cap) k _ rfl (row5.alloc _) ⟨w5.heap.size, 0, none⟩ 1 1 [.string (bs key), Value.pointer (some ⟨x.1.1, 0, none⟩)] rfl (by decide) rfl (cells2 _ _ _) hone hq1 hq2 (hq3 _ _ hB5) ?_
              intro v' w6 hown hgrow hwh
              obtain ⟨g6, cap6, rfl⟩ := ownsRow_succ hown
              obtain ⟨c6, f6⟩ := hstore _ w5 w6 hB5 hgrow
              have hfin' := hfin _ w5 w6 _ _ hB5 hgrow hown
              refine hK _ _ ?_
              clear hK K
              refine wpAnyIn_ready (rs := [10]) (by kernel_rfl) (by simp) ?_
              refine AllReadyIn.cons rfl (fun K hK => ?_) ?_
              · go_simp
                refine hK _ _ ?_
                clear hK K
                refine wpAnyIn_done (by kernel_rfl) ?_ _
                exact hfin'
              · exact AllReadyIn.nil
            · exact AllReadyIn.nil
          · exact AllReadyIn.nil
        · exact AllReadyIn.nil
      · exact AllReadyIn.nil
    refine AllReadyIn.cons rfl (fun K hK => ?_) ?_
    · go_simp
      refine hK _ _ ?_
      clear hK K
      refine wpAnyIn_ready (rs := [0, 5]) (by kernel_rfl) (by simp) ?_
      refine AllReadyIn.cons rfl (fun K hK => ?_) ?_
      · go_simp
        refine hK _ _ ?_
        clear hK K
        refine wpAnyIn_ready (rs := [5]) (by kernel_rfl) (by simp) ?_
        refine AllReadyIn.cons rfl (fun K hK => ?_) ?_
        · go_simp
          refine ⟨trivial, ?_⟩
          refine (callsIn_wide.2 hsk2).mono ?_
          rintro e w5 ⟨rfl, hB5⟩
          obtain ⟨q1, q3, q6, row5⟩ := hfacts w5 hB5
          refine hK _ _ ?_
          clear hK K
          refine wpAnyIn_take (i := 7) (v := Value.agg #[Value.string (bs key), Value.pointer (some ⟨x.1.1, 0, none⟩)]) rfl rfl (by kernel_rfl) (by kernel_rfl) (by kernel_rfl) (fun _ _ _ h => h) ⟨Or.inl ⟨by rfl, ?_⟩, fun _ => rfl⟩ ?_
          · intro w'; go_simp
          refine wpAnyIn_ready (rs := [8]) (by kernel_rfl) (by simp) ?_
          refine AllReadyIn.cons rfl (fun K hK => ?_) ?_
          · go_simp
            refine hK _ _ ?_
            clear hK K
            refine wpAnyIn_ready (rs := [9]) (by kernel_rfl) (by simp) ?_
            refine AllReadyIn.cons rfl (fun K hK => ?_) ?_
            · refine stepIn_append_at rfl _ _ 68 rfl w.heap.size 74 i7 (.agg #[.string ⟨#[]⟩, .pointer none]) 2 24 Yba.underlying68 hi7 ha7 hb7 hc7 rfl (by decide) (.slice (some ⟨g, 0, none⟩) k cap) k _ rfl (row5.alloc _) ⟨w5.heap.size, 0, none⟩ 1 1 [.string (bs key), Value.pointer (some ⟨x.1.1, 0, none⟩)] rfl (by decide) rfl (cells2 _ _ _) hone hq1 hq2 (hq3 _ _ hB5) ?_
              intro v' w6 hown hgrow hwh
              obtain ⟨g6, cap6, rfl⟩ := ownsRow_succ hown
              obtain ⟨c6, f6⟩ := hstore _ w5 w6 hB5 hgrow
              have hfin' := hfin _ w5 w6 _ _ hB5 hgrow hown
              refine hK _ _ ?_
              clear hK K
              refine wpAnyIn_ready (rs := [10]) (by kernel_rfl) (by simp) ?_
              refine AllReadyIn.cons rfl (fun K hK => ?_) ?_
              · go_simp
                refine hK _ _ ?_
                clear hK K
                refine wpAnyIn_done (by kernel_rfl) ?_ _
                exact hfin'
              · exact AllReadyIn.nil
            · exact AllReadyIn.nil
          · exact AllReadyIn.nil
        · exact AllReadyIn.nil
      refine AllReadyIn.cons rfl (fun K hK => ?_) ?_
      · go_simp
        refine ⟨trivial, ?_⟩
        refine (callsIn_wide.2 hsk2).mono ?_
        rintro e w5 ⟨rfl, hB5⟩
        obtain ⟨q1, q3, q6, row5⟩ := hfacts w5 hB5
        refine hK _ _ ?_
        clear hK K
        refine wpAnyIn_take (i := 7) (v := Value.agg #[Value.string (bs key), Value.pointer (some ⟨x.1.1, 0, none⟩)]) rfl rfl (by kernel_rfl) (by kernel_rfl) (by kernel_rfl) (fun _ _ _ h => h) ⟨Or.inl ⟨by rfl, ?_⟩, fun _ => rfl⟩ ?_
        · intro w'; go_simp
        refine wpAnyIn_ready (rs := [0, 8]) (by kernel_rfl) (by simp) ?_
        refine AllReadyIn.cons rfl (fun K hK => ?_) ?_
        · go_simp
          refine hK _ _ ?_
          clear hK K
          refine wpAnyIn_ready (rs := [8]) (by kernel_rfl) (by simp) ?_
          refine AllReadyIn.cons rfl (fun K hK => ?_) ?_
          · go_simp
            refine hK _ _ ?_
            clear hK K
            refine wpAnyIn_ready (rs := [9]) (by kernel_rfl) (by simp) ?_
            refine AllReadyIn.cons rfl (fun K hK => ?_) ?_
            · refine stepIn_append_at rfl _ _ 68 rfl w.heap.size 74 i7 (.agg #[.string ⟨#[]⟩, .pointer none]) 2 24 Yba.underlying68 hi7 ha7 hb7 hc7 rfl (by decide) (.slice (some ⟨g, 0, none⟩) k cap) k _ rfl (row5.alloc _) ⟨w5.heap.size, 0, none⟩ 1 1 [.string (bs key), Value.pointer (some ⟨x.1.1, 0, none⟩)] rfl (by decide) rfl (cells2 _ _ _) hone hq1 hq2 (hq3 _ _ hB5) ?_
              intro v' w6 hown hgrow hwh
              obtain ⟨g6, cap6, rfl⟩ := ownsRow_succ hown
              obtain ⟨c6, f6⟩ := hstore _ w5 w6 hB5 hgrow
              have hfin' := hfin _ w5 w6 _ _ hB5 hgrow hown
              refine hK _ _ ?_
              clear hK K
              refine wpAnyIn_ready (rs := [10]) (by kernel_rfl) (by simp) ?_
              refine AllReadyIn.cons rfl (fun K hK => ?_) ?_
              · go_simp
                refine hK _ _ ?_
                clear hK K
                refine wpAnyIn_done (by kernel_rfl) ?_ _
                exact hfin'
              · exact AllReadyIn.nil
            · exact AllReadyIn.nil
          · exact AllReadyIn.nil
        refine AllReadyIn.cons rfl (fun K hK => ?_) ?_
        · go_simp
          refine hK _ _ ?_
          clear hK K
          refine wpAnyIn_ready (rs := [0]) (by kernel_rfl) (by simp) ?_
          refine AllReadyIn.cons rfl (fun K hK => ?_) ?_
          · go_simp
            refine hK _ _ ?_
            clear hK K
            refine wpAnyIn_ready (rs := [9]) (by kernel_rfl) (by simp) ?_
            refine AllReadyIn.cons rfl (fun K hK => ?_) ?_
            · refine stepIn_append_at rfl _ _ 68 rfl w.heap.size 74 i7 (.agg #[.string ⟨#[]⟩, .pointer none]) 2 24 Yba.underlying68 hi7 ha7 hb7 hc7 rfl (by decide) (.slice (some ⟨g, 0, none⟩) k cap) k _ rfl (row5.alloc _) ⟨w5.heap.size, 0, none⟩ 1 1 [.string (bs key), Value.pointer (some ⟨x.1.1, 0, none⟩)] rfl (by decide) rfl (cells2 _ _ _) hone hq1 hq2 (hq3 _ _ hB5) ?_
              intro v' w6 hown hgrow hwh
              obtain ⟨g6, cap6, rfl⟩ := ownsRow_succ hown
              obtain ⟨c6, f6⟩ := hstore _ w5 w6 hB5 hgrow
              have hfin' := hfin _ w5 w6 _ _ hB5 hgrow hown
              refine hK _ _ ?_
              clear hK K
              refine wpAnyIn_ready (rs := [10]) (by kernel_rfl) (by simp) ?_
              refine AllReadyIn.cons rfl (fun K hK => ?_) ?_
              · go_simp
                refine hK _ _ ?_
                clear hK K
                refine wpAnyIn_done (by kernel_rfl) ?_ _
                exact hfin'
              · exact AllReadyIn.nil
            · exact AllReadyIn.nil
          · exact AllReadyIn.nil
        · exact AllReadyIn.nil
      · exact AllReadyIn.nil
    · exact AllReadyIn.nil
  case done =>
    rintro D xs W hD hperm ⟨hS, _⟩ hK
    obtain ⟨g, cap, hbox, hrow⟩ := hS.got
    have cB : W.cell? ⟨Bs, 0, none⟩ = some (.slice (some ⟨g, 0, none⟩) (xs.map Subtype.val).length cap) := cell_blk hbox rfl
    obtain ⟨lst, hlst⟩ : ∃ lst, xs.map Subtype.val = lst := ⟨_, rfl⟩
    rw [hlst] at hperm hbox hrow cB
    have hsort := sort_run w.heap.size g cap lst W hrow (by have := hperm.length_eq; omega)
    gi_wp2_with (first | (refine ⟨trivial, ?_⟩; gi_at_call 13; refine (callsIn_wide.2 hsort).mono ?_; clear hsort; rintro e w8 ⟨rfl, ss, hss, hord, hrow8, ho8, ht8, hp8, hs8, hk8⟩) | (refine ⟨trivial, ?_⟩; gi_at_call 16; refine (callsIn_wide.2 (records_run Z _ _)).mono ?_; rintro e w9 ⟨rfl, hw9⟩; subst hw9))
    have hll := hss.length_eq
    have hln := hperm.length_eq
    have hDl : D < W.heap.size := (Array.getElem?_eq_some_iff.1 hK).1
    have hDg : D ≠ g := by
      rintro rfl
      obtain ⟨c, hc⟩ := ownsRow_typ hrow (k := D) rfl
      rw [hK] at hc
      cases hc
    have hDB : Bs ≠ D := by
      rintro rfl
      rw [hK] at hbox
      cases hbox
    have hBg : Bs ≠ g := by
      rintro rfl
      obtain ⟨c, hc⟩ := ownsRow_typ hrow (k := Bs) rfl
      rw [hbox] at hc
      cases hc
    have hBl : Bs < W.heap.size := (Array.getElem?_eq_some_iff.1 hbox).1
    have hgl := (hrow.lt g rfl).2
    have h9 : ∀ q, q < w8.heap.size → ((w8.alloc (Obj.cells #[Value.pointer (some ⟨Z, 0, none⟩)] 25)).alloc (Obj.cells #[Value.func (Fn.func 17) #[] #[Value.pointer (some ⟨Bs, 0, none⟩)]] 70)).heap[q]? = w8.heap[q]? := fun q hq => by
      rw [heap_alloc_old' _ _ _ (by simp; omega), heap_alloc_old' _ _ _ hq]
    have hz9 : ((w8.alloc (Obj.cells #[Value.pointer (some ⟨Z, 0, none⟩)] 25)).alloc (Obj.cells #[Value.func (Fn.func 17) #[] #[Value.pointer (some ⟨Bs, 0, none⟩)]] 70)).heap[w8.heap.size]? = some (.cells #[.pointer (some ⟨Z, 0, none⟩)] 25 (0, 0)) := by
      rw [heap_alloc_old' _ _ _ (by simp)]; exact World.alloc_heap_new w8 _
    have hn9 : ((w8.alloc (Obj.cells #[Value.pointer (some ⟨Z, 0, none⟩)] 25)).alloc (Obj.cells #[Value.func (Fn.func 17) #[] #[Value.pointer (some ⟨Bs, 0, none⟩)]] 70)).heap[w8.heap.size + 1]? = some (.cells #[.func (.func 17) #[] #[.pointer (some ⟨Bs, 0, none⟩)]] 70 (0, 0)) := by
      have := World.alloc_heap_new (w8.alloc (Obj.cells #[Value.pointer (some ⟨Z, 0, none⟩)] 25)) (Obj.cells #[Value.func (Fn.func 17) #[] #[Value.pointer (some ⟨Bs, 0, none⟩)]] 70)
      rwa [World.size_alloc] at this
    have hs9 : ((w8.alloc (Obj.cells #[Value.pointer (some ⟨Z, 0, none⟩)] 25)).alloc (Obj.cells #[Value.func (Fn.func 17) #[] #[Value.pointer (some ⟨Bs, 0, none⟩)]] 70)).heap.size = w8.heap.size + 2 := by simp
    have hos9 : ((w8.alloc (Obj.cells #[Value.pointer (some ⟨Z, 0, none⟩)] 25)).alloc (Obj.cells #[Value.func (Fn.func 17) #[] #[Value.pointer (some ⟨Bs, 0, none⟩)]] 70)).os = w8.os ∧ ((w8.alloc (Obj.cells #[Value.pointer (some ⟨Z, 0, none⟩)] 25)).alloc (Obj.cells #[Value.func (Fn.func 17) #[] #[Value.pointer (some ⟨Bs, 0, none⟩)]] 70)).tape = w8.tape ∧ ((w8.alloc (Obj.cells #[Value.pointer (some ⟨Z, 0, none⟩)] 25)).alloc (Obj.cells #[Value.func (Fn.func 17) #[] #[Value.pointer (some ⟨Bs, 0, none⟩)]] 70)).output = w8.output := ⟨rfl, rfl, rfl⟩
    generalize (w8.alloc (Obj.cells #[Value.pointer (some ⟨Z, 0, none⟩)] 25)).alloc (Obj.cells #[Value.func (Fn.func 17) #[] #[Value.pointer (some ⟨Bs, 0, none⟩)]] 70) = w9 at *
    have hK9 : w9.heap[D]? = some (.deferred (some [])) := by rw [h9 D (by omega), hk8 D hDl hDg]; exact hK
    have hput : ∀ q, q ≠ D → (w9.putObj D (.deferred none)).heap[q]? = w9.heap[q]? := fun q hq => World.putObj_heap_other hq
    refine ⟨by simp, .inl ⟨_, _, rfl, run_takeDeferred hK9, ?_⟩⟩
    refine ⟨_, results_tmp rfl _ _ _, w8.heap.size, w8.heap.size + 1, Bs, g, cap, ss, rfl, ?_, ?_, ?_, ?_, ?_, by omega, ?_⟩
    · obtain ⟨cur, hcur, hcc⟩ := hrow8
      refine ⟨?_, cur, ?_, fun j hj => ⟨⟨_, (hcc j hj).1⟩, (hcc j hj).2⟩⟩
      · rw [hput Bs hDB, h9 Bs (by omega), hk8 Bs hBl hBg, hll]; exact hbox
      · rw [hput g (Ne.symm hDg), h9 g (by omega)]; exact hcur
    · rw [hput _ (by omega)]; exact hz9
    · rw [hput _ (by omega)]; exact hn9
    · intro n
      rw [hss.mem_iff, hperm.mem_iff]
    · rw [List.pairwise_iff_getElem]
      intro i j hi hj hij
      have hmi' : ss[i] ∈ ns := hperm.mem_iff.1 (hss.mem_iff.1 (List.getElem_mem hi))
      have hmj' : ss[j] ∈ ns := hperm.mem_iff.1 (hss.mem_iff.1 (List.getElem_mem hj))
      refine ltN_of_le (fun hlt0 => hord i j hij hj hi (ltN_of_gt hlt0)) (hz.wf _ hmi').1 (hz.wf _ hmj').1 (fun e => ?_)
      have e2 := key_inj hz.keys hmi' hmj' e
      have hnd : ss.Nodup := (hss.trans hperm).nodup_iff.2 (nodup_keys hz.keys)
      have := (List.getElem_inj hnd).1 e2
      omega
    · refine hS.bel.trans ⟨hos9.1.trans ho8, hos9.2.1.trans ht8, hos9.2.2.trans hp8, by simp; omega, fun q hq => ?_⟩
      have hgb := (hrow.lt g rfl).1
      rw [hput q (by omega), h9 q (by omega), hk8 q (by omega) (by omega)]
  case stop =>
    rintro D c pre W _ _ h _
    exact h.elim
end Go.Proofs.Ybulkccao
