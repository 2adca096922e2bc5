/- seat b3914a: LawS3914AStop (4), given what SortedRecords hands back -/
import Derived.Test.YbulkccaoRange
import Derived.Test.YbulkccaoBuild
import Derived.Test.YbulkccaoFlat
import Derived.Test.YbulkccaoRREq
import Derived.RangeFuncBox
import Derived.Deep.QuietTactic
import Derived.BigQuiet
namespace Go.Proofs.Ybulkccao
open Go Go.RowKit Go.Shelf
attribute [local go_sem] Oper.semAt_some

/-- what SortedRecords hands back -/
def SRok : Prop := ∀ (B Z M : Nat) (x : Value) (ns : List Nd) (vs : Nat → Value) (rs : Nat → List Rec) (w : World), Zr w B Z M (zcells x M soaRec.cells.toArray) ns vs rs → ns.length ≤ 901 →
  Calls Yba.prog 6 #[.pointer (some ⟨Z, 0, none⟩)] w fun e w' => ∃ (Bz Bn Bs g cap : Nat) (ss : List Nd), e = .returned (.func (.func 32) #[] #[.pointer (some ⟨Bz, 0, none⟩), .pointer (some ⟨Bn, 0, none⟩)]) ∧ SortedAt w' Bs g cap ss ∧
    w'.heap[Bz]? = some (.cells #[.pointer (some ⟨Z, 0, none⟩)] 25 (0, 0)) ∧ w'.heap[Bn]? = some (.cells #[.func (.func 17) #[] #[.pointer (some ⟨Bs, 0, none⟩)]] 70 (0, 0)) ∧ (∀ n, n ∈ ss ↔ n ∈ ns) ∧ ss.Pairwise ltN ∧ ss.length ≤ 1000 ∧ Below w.heap.size w w'

theorem Zr.low {w : World} {B Z M : Nat} {x : Value} {ns ss : List Nd} {vs : Nat → Value} {rs : Nat → List Rec} (h : Zr w B Z M (zcells x M soaRec.cells.toArray) ns vs rs) (hss : ∀ n ∈ ss, n ∈ ns) (hf : ∀ q, (rs q).length ≤ 300) {W : World} (hW : ∀ k, k < w.heap.size → W.heap[k]? = w.heap[k]?) :
    Low W w.heap.size Z x M ss rs := by
  refine ⟨⟨(Array.getElem?_eq_some_iff.1 h.zone.1).1, (hW _ (Array.getElem?_eq_some_iff.1 h.zone.1).1).trans h.zone.1⟩, fun n hn => ?_, hf⟩
  have hnd := h.node n (hss n hn)
  have hrow := h.rows n (hss n hn)
  have hnl := (Array.getElem?_eq_some_iff.1 hnd).1
  rcases hrow.2 with ⟨hv, h0⟩ | ⟨g, cap, cur, hv, _, hg, hnc, hcm, hcs, htake⟩
  · have hr0 : rs n.1 = [] := List.eq_nil_of_length_eq_zero h0
    refine ⟨0, 0, fun Bx W' hW' hb => ⟨hb, ⟨hnl, _, _, ((hW' _ hnl).trans (hW _ hnl)).trans hnd, .inl ⟨hv, hr0⟩⟩, fun hne => absurd hr0 hne⟩⟩
  · have hgl := (Array.getElem?_eq_some_iff.1 hg).1
    refine ⟨g, cap, fun Bx W' hW' hb => ⟨hb, ⟨hnl, _, _, ((hW' _ hnl).trans (hW _ hnl)).trans hnd, .inr hv⟩, fun _ => ⟨hgl, cur, ((hW' _ hgl).trans (hW _ hgl)).trans hg, hcs, hnc, fun j c hj hc => ?_⟩⟩⟩
    have h1 := cells_at (rs n.1) j c hj hc
    rw [← htake, List.getElem?_take_of_lt (by omega), Nat.mul_comm 4 j, Array.getElem?_toList] at h1
    exact h1

theorem heap_alloc_old' (w : World) (o : Obj) (k : Nat) (h : k < w.heap.size) : (w.alloc o).heap[k]? = w.heap[k]? := Below.heap_alloc w o k h
theorem ownsRow_pos {w : World} {B : Nat} {e : TypeId} {s : Nat} {v : Value} {n : Nat} {xs : List Value} (h : w.ownsRow B e s v n xs) (hn : 1 ≤ n) : ∃ g cap, v = .slice (some ⟨g, 0, none⟩) n cap := by
  rcases h.2 with ⟨_, h0⟩ | ⟨g, cap, cur, hv, _⟩
  · omega
  · exact ⟨g, cap, hv⟩

/-- what the law's loop holds between two rounds: the limit, the records got -/
structure Gt (w1 : World) (lim : Nat) (pre : List Rec) (W : World) : Prop where
  bel : Below w1.heap.size w1 W
  lim : W.heap[w1.heap.size]? = some (.cells #[.int .i64 lim] 3 (0, 0))
  got : ∃ v, W.heap[w1.heap.size + 1]? = some (.cells #[v] 26 (0, 0)) ∧ W.ownsRow w1.heap.size 38 4 v pre.length (pre.flatMap Rec.cells)
theorem Gt.keep {w1 : World} {lim : Nat} {pre : List Rec} {W W' : World} {row : Option Nat} (h : Gt w1 lim pre W) (hg : W.grownBy W' row) (hr : ∀ r, row = some r → w1.heap.size ≤ r ∧ ∃ o : Obj, W.heap[r]? = some o ∧ o.isCells = false) : Gt w1 lim pre W' := by
  have hh : ∀ {k : Nat} {c : Array Value} {t : TypeId} {f : Nat × Nat}, W.heap[k]? = some (Obj.cells c t f) → W'.heap[k]? = some (Obj.cells c t f) := fun {k c t f} hk => by
    refine (hg.block k (Array.getElem?_eq_some_iff.1 hk).1 fun e => ?_).trans hk
    obtain ⟨_, o, ho, hc⟩ := hr k e.symm
    rw [ho] at hk
    cases hk
    simp [Obj.isCells] at hc
  obtain ⟨v, hv, hrow⟩ := h.got
  refine ⟨h.bel.trans ⟨hg.os, hg.tape, hg.output, hg.size, fun k hk => hg.block k (by have := h.bel.size; omega) fun e => by have := (hr k e.symm).1; omega⟩, hh h.lim, v, hh hv, ownsRow_old hrow fun k hk => ?_⟩
  obtain ⟨c, hc⟩ := ownsRow_typ hrow hk
  rw [hh hc, hc]

set_option maxRecDepth 100000 in
set_option maxHeartbeats 8000000 in
theorem stop_run (hSR : SRok) (sa sb : Option Addr) (nn ca nr cb kk : Nat) (S : Nat → ByteArray) (R : Nat → Nat) (w : World) (hkk : kk < 256)
    (hN : ∀ j, j < nn → ∃ a, sa = some a ∧ a.block < w.heap.size ∧ w.cell? (a.add j) = some (.string (S j)) ∧ (S j).size ≤ 9223372036854775807)
    (hR : ∀ j, j < nr → ∃ a, sb = some a ∧ a.block < w.heap.size ∧ w.cell? (a.add j) = some (.int .u16 (R j)) ∧ R j < 65536) :
    Calls Yba.prog 4 #[.slice sa nn ca, .slice sb nr cb, .int .u8 kk] w fun e w' => e = .returned (.bool true) ∧ Below w.heap.size w w' := by
  refine (callsIn_wide (n := 10)).1 ?_
  refine callsIn_of_wp_marks Yba.func4 rfl trivial ?_ rfl
  simp only [Yba.ntmps4, List.size_toArray, List.length_cons, List.length_nil, Nat.reduceAdd, Nat.reduceSub, Array.replicate_succ, Array.replicate_zero, List.push_toArray, List.append_toArray, List.nil_append, List.cons_append]
  by_cases h1 : 300 < nn
  · have h1' : (300 : Int) < nn := by omega
    gi_wp2
    refine ⟨_, results_tmp rfl _ _ _, rfl, Below.refl _ _⟩
  by_cases h2 : 300 < nr
  · have h2' : (300 : Int) < nr := by omega
    have h1' : ¬ (300 : Int) < nn := by omega
    gi_wp2
    refine ⟨_, results_tmp rfl _ _ _, rfl, Below.refl _ _⟩
  have hb := build_run sa sb nn ca nr cb S R w (by omega) (by omega) hN hR
  have h1' : ¬ (300 : Int) < nn := by omega
  have h2' : ¬ (300 : Int) < nr := by omega
  clear hN hR
  gi_wp2_with (first | (refine ⟨trivial, ?_⟩; gi_at_call 5; refine (callsIn_wide.2 hb).mono ?_; clear hb; rintro e w1 ⟨Z, M, p, ns, ord, vs, rs, v, E, rfl, hz, hsort, hsub, hout, hrow, hE, hB, hcap, hol, hnl⟩; have hxl := expL_le rs hcap ord; obtain ⟨ex, hex⟩ : ∃ ex, expL rs ord = ex := ⟨_, rfl⟩; have hx1 : 1 ≤ ex.length := (by rw [← hex]; simp [expL]); rw [hex] at hrow hxl; obtain ⟨gE, capE, rfl⟩ := ownsRow_pos hrow hx1; obtain ⟨lim, hlim, hlim2⟩ : ∃ lim : Nat, (kk : Int) % ((ex.length : Int) + 2) = lim ∧ lim < ex.length + 2 := ⟨kk % (ex.length + 2), (by push_cast; rfl), Nat.mod_lt _ (by omega)⟩; have hsr := hSR _ Z M _ ns vs rs ((w1.alloc (.cells #[.int .i64 lim] 3)).alloc (.cells #[.slice none 0 0] 26)) (hz.grown (fun k hk => by rw [heap_alloc_old' _ _ k (by simp; omega), heap_alloc_old' _ _ k hk])) hnl) | (refine ⟨trivial, ?_⟩; gi_at_call 6; refine (callsIn_wide.2 hsr).mono ?_; clear hsr; rintro e w3 ⟨Bz, Bn, Bs, g, cap, ss, rfl, hS, hBz, hBn, hmem, hsort2, hssl, hB3⟩))
  have hT : (soaRec :: ss.flatMap fun n => plainR (rs n.1)) = ex := by
    rw [← hex, expL, flat_same hsort2 hsort (fun n hn => (hmem n).2 (hsub n hn)) (fun n hn hno => by rw [hout n ((hmem n).1 hn) hno]; rfl)]
  have hs3 := hB3.size
  simp at hs3
  have hB31 : Below w1.heap.size w1 w3 := ⟨hB3.os, hB3.tape, hB3.output, by omega, fun k hk => by rw [hB3.block k (by simp; omega), heap_alloc_old' _ _ k (by simp; omega), heap_alloc_old' _ _ k hk]⟩
  have hlim3 : w3.heap[w1.heap.size]? = some (.cells #[.int .i64 lim] 3 (0, 0)) := by
    rw [hB3.block _ (by simp; omega), heap_alloc_old' _ _ _ (by simp)]
    exact World.alloc_heap_new w1 _
  have hgot3 : w3.heap[w1.heap.size + 1]? = some (.cells #[.slice none 0 0] 26 (0, 0)) := by
    rw [hB3.block _ (by simp)]
    have := World.alloc_heap_new (w1.alloc (.cells #[.int .i64 lim] 3)) (.cells #[.slice none 0 0] 26)
    rwa [World.size_alloc] at this
  have hG0 : Gt w1 lim [] w3 := ⟨hB31, hlim3, _, hgot3, World.ownsRow_nil _ _ _ _⟩
  have hLow : ∀ W, Below w3.heap.size w3 W → Low W w1.heap.size Z (nptr p) M ss rs := fun W hW => hz.low (fun n hn => (hmem n).1 hn) hcap (fun k hk => by rw [hW.block k (by omega), hB31.block k hk])
  obtain ⟨i1, hi1, hy0, hy1, hy2⟩ := info_parts info38
  refine range_records (n₀ := w1.heap.size) (lb := #[.pointer (some ⟨Bz, 0, none⟩), .pointer (some ⟨Bn, 0, none⟩)]) (T := ex) rfl rfl (by omega)
    (fun l J Jx W hW hJ hJx hY h0 => by
      have h := seq32_in 9 (by decide) l w1.heap.size Z M Bz Bn Bs g cap (nptr p) ss rs hssl J Jx W (by have := hW.size; omega) hJ hJx hY (hLow W hW) (hS.grown hW.block) ((hW.block _ (Array.getElem?_eq_some_iff.1 hBz).1).trans hBz) ((hW.block _ (Array.getElem?_eq_some_iff.1 hBn).1).trans hBn) h0
      rw [hT] at h
      exact h)
    (fun pre W => Gt w1 lim pre W ∧ pre.length ≤ lim) (fun q W => ∃ p x, q = p ++ [x] ∧ Gt w1 lim p W ∧ p.length = lim)
    (fun s A B row hs hg hr => ⟨hs.1.keep hg (fun r e => ⟨by have := (hr r e).1; omega, (hr r e).2⟩), hs.2⟩)
    (fun s A B row hs hg hr => by obtain ⟨p, x, h1, h2, h3⟩ := hs; exact ⟨p, x, h1, h2.keep hg (fun r e => ⟨by have := (hr r e).1; omega, (hr r e).2⟩), h3⟩)
    ⟨hG0, by simp⟩
    (fun x a' W => ∃ Bx, W.heap[Bx]? = some (.cells x.cells.toArray 38 (0, 0)) ∧ w3.heap.size ≤ Bx ∧ a' = { tmps := #[Value.slice sa nn ca, Value.slice sb nr cb, Value.int IntKind.u8 ↑kk, undef, undef, undef, Value.bool false, Value.pointer (some ⟨Z, 0, none⟩), Value.slice (some ⟨gE, 0, none⟩) ex.length capE, Value.pointer (some ⟨w1.heap.size, 0, none⟩), Value.pointer (some ⟨w1.heap.size + 1, 0, none⟩), Value.pointer (some ⟨Bx, 0, none⟩), undef, undef, Value.slice sa nn ca, Value.int IntKind.i64 ↑nn, Value.bool false, Value.bool false, Value.slice sb nr cb, Value.int IntKind.i64 ↑nr, Value.bool false, Value.bool false, Value.tuple #[Value.pointer (some ⟨Z, 0, none⟩), Value.slice (some ⟨gE, 0, none⟩) ex.length capE], Value.slice sa nn ca, Value.slice sb nr cb, Value.tuple #[Value.pointer (some ⟨Z, 0, none⟩), Value.slice (some ⟨gE, 0, none⟩) ex.length capE], Value.pointer (some ⟨Z, 0, none⟩), Value.slice (some ⟨gE, 0, none⟩) ex.length capE, Value.int IntKind.u8 ↑kk, Value.int IntKind.i64 ↑kk, Value.slice (some ⟨gE, 0, none⟩) ex.length capE, Value.int IntKind.i64 ↑ex.length, Value.int IntKind.i64 (↑ex.length + 2), Value.int IntKind.i64 ↑lim, Value.pointer (some ⟨Z, 0, none⟩), Value.func (Fn.func 32) #[] #[Value.pointer (some ⟨Bz, 0, none⟩), Value.pointer (some ⟨Bn, 0, none⟩)], Value.agg x.cells.toArray, undef, undef, undef, undef, undef, undef, undef, undef, undef, undef, undef, undef, undef, undef, undef, undef, undef, undef, undef, undef, undef, undef, undef, undef, undef, undef, undef, undef, undef, undef, undef, undef, undef], defers := [] })
    (fun x a' _ A B row hs hg hr => by
      obtain ⟨Bx, h1, h2, h3⟩ := hs
      refine ⟨Bx, (hg.block Bx (Array.getElem?_eq_some_iff.1 h1).1 fun e => ?_).trans h1, h2, h3⟩
      obtain ⟨_, o, ho, hc⟩ := hr Bx e.symm
      rw [ho] at h1
      cases h1
      simp [Obj.isCells] at hc)
    ?assign ?body ?done ?stop
  case assign =>
    rintro m l pre x W K ⟨hG, hpl⟩ hsW hK
    obtain ⟨T0, x0, hdx⟩ : ∃ T x', x.d.val = .iface T x' := by obtain ⟨T, x', fn, h, _⟩ := typ_any x.d; exact ⟨T, x', h⟩
    simp only [Rec.enc, Rec.cells, hdx] at hK ⊢
    gi_wp2
    exact hK _ _ ((KeepsOthers.alloc _ _).from _) (KpC.alloc _ _ (by omega) _) ⟨hG.keep (World.grownBy_alloc _ _ none) (fun r e => by cases e), hpl⟩ ⟨W.heap.size, World.alloc_heap_new _ _, hsW, rfl⟩
  case body =>
    rintro m l pre x a' W ⟨hG, hpl⟩ ⟨Bx, hBx, hBxs, rfl⟩ hsW
    obtain ⟨v, hv, hrowg⟩ := hG.got
    have cL : W.cell? ⟨w1.heap.size, 0, none⟩ = some (.int .i64 lim) := cell_blk hG.lim rfl
    have cG : W.cell? ⟨w1.heap.size + 1, 0, none⟩ = some v := cell_blk hv rfl
    obtain ⟨T0, x0, hdx⟩ : ∃ T x', x.d.val = .iface T x' := by obtain ⟨T, x', fn, h, _⟩ := typ_any x.d; exact ⟨T, x', h⟩
    have hone := Rec.one x
    have k0 : W.cell? ⟨Bx, 0, none⟩ = some (.string (bs x.nm)) := cell_blk hBx rfl
    have k1 : W.cell? ⟨Bx, 1, none⟩ = some (.int .u16 0) := cell_blk hBx rfl
    have k2 : W.cell? ⟨Bx, 2, none⟩ = some (.int .u32 x.ttl) := cell_blk hBx rfl
    have k3 : W.cell? ⟨Bx, 3, none⟩ = some (.iface T0 x0) := by rw [← hdx]; exact cell_blk hBx rfl
    have hxc : x.cells = [.string (bs x.nm), .int .u16 0, .int .u32 x.ttl, .iface T0 x0] := by simp [Rec.cells, hdx]
    have hlen : (Builtin.len_ #[26] 3 #[v]).run Yba.prog W = .ok (.int .i64 pre.length) W := by
      rcases hrowg.2 with ⟨rfl, h0⟩ | ⟨g', cap', cur, rfl, _⟩
      · simp [go_sem, h0]
      · simp [go_sem]
    rw [hxc] at hone
    dsimp only
    rcases Nat.lt_or_ge pre.length lim with hlt | hge
    · have hlt' : ¬ (lim : Int) ≤ pre.length := by omega
      have hbs := hG.bel.size
      have hq1 : pre.length + 1 ≤ maxLen := by simp [maxLen]; omega
      have hq2 : (pre.length + 1) * 40 ≤ 140737488355328 := by omega
      have hq3 : ∀ o : Obj, w1.heap.size ≤ (W.alloc o).heap.size := fun o => by simp; omega
      have hvl : w1.heap.size + 1 < W.heap.size := (Array.getElem?_eq_some_iff.1 hv).1
      have hvn : some (w1.heap.size + 1) ≠ v.ownBlock := fun e => by
        obtain ⟨c, hc⟩ := ownsRow_typ hrowg e.symm
        rw [hv] at hc
        cases hc
      have hcn : ∀ (o : Obj) (w5 : World), (W.alloc o).grownBy w5 v.ownBlock → w5.cell? ⟨w1.heap.size + 1, 0, none⟩ = some v ∧ w5.frozen? ⟨w1.heap.size + 1, 0, none⟩ = false := fun o w5 hg => by
        have h5 : w5.heap[w1.heap.size + 1]? = some (.cells #[v] 26 (0, 0)) := by
          rw [hg.block _ (by simp; omega) hvn, heap_alloc_old' _ _ _ hvl]
          exact hv
        exact ⟨cell_blk h5 rfl, frozen_blk h5⟩
      have hfin : ∀ (o : Obj) (w5 : World) (v' : Value), (W.alloc o).grownBy w5 v.ownBlock → w5.ownsRow w1.heap.size 38 4 v' (pre.length + 1) (pre.flatMap Rec.cells ++ [.string (bs x.nm), .int .u16 0, .int .u32 x.ttl, .iface T0 x0]) →
          KeepsFrom w3.heap.size W (w5.setCell ⟨w1.heap.size + 1, 0, none⟩ v') ∧ KpC w1.heap.size W (w5.setCell ⟨w1.heap.size + 1, 0, none⟩ v') ∧ Gt w1 lim (pre ++ [x]) (w5.setCell ⟨w1.heap.size + 1, 0, none⟩ v') ∧ (pre ++ [x]).length ≤ lim := by
        intro o w5 v' hg hown
        have hs5 := hg.size
        simp at hs5
        have hold : ∀ k (ob : Obj), W.heap[k]? = some ob → (∀ c f, ob ≠ .cells c 38 f) → k ≠ w1.heap.size + 1 → (w5.setCell ⟨w1.heap.size + 1, 0, none⟩ v').heap[k]? = some ob := fun k ob hk ho hne => by
          rw [Below.heap_setCell _ _ _ _ hne, hg.block k (by simp; have := (Array.getElem?_eq_some_iff.1 hk).1; omega) (fun e => by
            obtain ⟨c, hc⟩ := ownsRow_typ hrowg e.symm
            rw [hk] at hc
            cases hc
            exact ho _ _ rfl), heap_alloc_old' _ _ _ (Array.getElem?_eq_some_iff.1 hk).1]
          exact hk
        have hlow : ∀ k, k < w1.heap.size → (w5.setCell ⟨w1.heap.size + 1, 0, none⟩ v').heap[k]? = W.heap[k]? := fun k hk => by
          rw [Below.heap_setCell _ _ _ _ (by show k ≠ w1.heap.size + 1; omega), hg.block k (by simp; omega) (fun e => by have := hrowg.lt k e.symm; omega), heap_alloc_old' _ _ _ (by omega)]
        have hb5 : w5.heap[w1.heap.size + 1]? = some (.cells #[v] 26 (0, 0)) := by
          rw [hg.block _ (by simp; omega) hvn, heap_alloc_old' _ _ _ hvl]
          exact hv
        refine ⟨⟨by simp; omega, fun k ob _ hk hc => hold k ob hk (fun c f e => by rw [e] at hc; simp [Obj.isCells] at hc) (fun e => by rw [e, hv] at hk; cases hk; simp [Obj.isCells] at hc)⟩, ⟨by simp; omega, hlow, fun k c tt f hk h26 h38 => hold k _ hk (fun c' f' e => by cases e; exact h38 rfl) (fun e => by rw [e, hv] at hk; cases hk; exact h26 rfl)⟩, ⟨?_, ?_, v', ?_, ?_⟩, by simp; omega⟩
        · exact hG.bel.trans ⟨hg.os, hg.tape, hg.output, by simp; omega, hlow⟩
        · exact hold _ _ hG.lim (by simp) (by omega)
        · rw [heap_setCell_own hb5]; rfl
        · have h6 := ownsRow_setCell_other hown (a := ⟨w1.heap.size + 1, 0, none⟩) (fun e => by
            obtain ⟨c, hc⟩ := ownsRow_typ hown e
            rw [hb5] at hc
            cases hc) v'
          rw [← hxc] at h6
          simpa using h6
      rcases hrowg.2 with ⟨hv0, h0⟩ | ⟨g', cap', cur, hv0, _⟩
      · subst hv0
        clear hlen h0
        gi_wp2_with (gi_at_builtin; refine wpListIn_append_own _ rfl _ _ 26 rfl w1.heap.size 38 i1 (.agg #[.string ⟨#[]⟩, .int .u16 0, .int .u32 0, .nilIface]) 4 40 Yba.underlying26 hi1 hy0 hy1 hy2 rfl (by decide) _ _ _ rfl (hrowg.alloc _) ⟨W.heap.size, 0, none⟩ 1 1 [.string (bs x.nm), .int .u16 0, .int .u32 x.ttl, .iface T0 x0] rfl rfl (cells4' _ _ _ _ _ rfl) hone hq1 hq2 (hq3 _) ?_; intro v' w5 hown' hgrow _; obtain ⟨g5, cap5, rfl⟩ := ownsRow_succ hown'; have d5 := hcn _ w5 hgrow; have c5 := d5.1; have f5 := d5.2; clear d5)
        obtain ⟨a1, a2, a3, _⟩ := hfin _ _ _ hgrow hown'
        exact ⟨a1, a2, a3, by omega⟩
      · subst hv0
        clear hlen
        gi_wp2_with (gi_at_builtin; refine wpListIn_append_own _ rfl _ _ 26 rfl w1.heap.size 38 i1 (.agg #[.string ⟨#[]⟩, .int .u16 0, .int .u32 0, .nilIface]) 4 40 Yba.underlying26 hi1 hy0 hy1 hy2 rfl (by decide) _ _ _ rfl (hrowg.alloc _) ⟨W.heap.size, 0, none⟩ 1 1 [.string (bs x.nm), .int .u16 0, .int .u32 x.ttl, .iface T0 x0] rfl rfl (cells4' _ _ _ _ _ rfl) hone hq1 hq2 (hq3 _) ?_; intro v' w5 hown' hgrow _; obtain ⟨g5, cap5, rfl⟩ := ownsRow_succ hown'; have d5 := hcn _ w5 hgrow; have c5 := d5.1; have f5 := d5.2; clear d5)
        obtain ⟨a1, a2, a3, _⟩ := hfin _ _ _ hgrow hown'
        exact ⟨a1, a2, a3, by omega⟩
    · have hge' : (lim : Int) ≤ pre.length := by omega
      rcases hrowg.2 with ⟨hv0, h0⟩ | ⟨g', cap', cur, hv0, _⟩
      · rw [hv0] at cG
        clear hlen
        gi_wp2
        refine ⟨KeepsFrom.refl _ _, KpC.refl _ _, ?_, List.eq_nil_of_length_eq_zero h0⟩
        have hl0 : lim = 0 := by omega
        rw [← hl0]
        exact hG
      · rw [hv0] at cG
        clear hlen
        gi_wp2
        exact ⟨KeepsFrom.refl _ _, KpC.refl _ _, by omega⟩
  case done =>
    rintro D W hD ⟨hG, hpl⟩ hK
    obtain ⟨v, hv, hrowg⟩ := hG.got
    have cL : W.cell? ⟨w1.heap.size, 0, none⟩ = some (.int .i64 lim) := cell_blk hG.lim rfl
    have cG : W.cell? ⟨w1.heap.size + 1, 0, none⟩ = some v := cell_blk hv rfl
    have hrowE : W.ownsRow E 38 4 (.slice (some ⟨gE, 0, none⟩) ex.length capE) ex.length (ex.flatMap Rec.cells) := ownsRow_old hrow fun k hk => hG.bel.block k (by have := (hrow.lt k hk).2; omega)
    have hcE : ∀ j (h : j < ex.length) c, c < 4 → W.cell? ⟨gE, j * 4 + c, none⟩ = (ex[j].cells)[c]? := fun j h c hc => by
      rw [hrowE.cellAt (j * 4 + c) (by omega), Nat.mul_comm j 4, cells_at ex j c h hc]
    obtain ⟨gv, cv, rfl⟩ := ownsRow_pos hrowg hx1
    have hcE' : ∀ j (h : j < ex.length) c, c < 4 → W.cell? ⟨gv, j * 4 + c, none⟩ = (ex[j].cells)[c]? := fun j h c hc => by
      rw [hrowg.cellAt (j * 4 + c) (by omega), Nat.mul_comm j 4, cells_at ex j c h hc]
    rcases Nat.lt_or_ge ex.length lim with hgt | hle
    · have hgt' : (ex.length : Int) < lim := by omega
      have hcQ := hcE'
      gi_wp2
      gi_loopw [13] (fun i wr => ∃ j : Nat, j ≤ ex.length ∧ i = .int .i64 j ∧ wr.heap = W.heap ∧ wr.os = W.os ∧ wr.tape = W.tape ∧ wr.output = W.output) (fun i _ => ex.length - (RowKit.intOf i).toNat)
      case atStart => exact ⟨0, by omega, rfl, rfl, rfl, rfl, rfl⟩
      case round =>
        obtain ⟨j, hj, rfl, hwh, hwo, hwt, hwp⟩ := hrel
        have hc : ∀ a, wr.cell? a = W.cell? a := fun a => by simp only [World.cell?, hwh]
        have cG' : wr.cell? ⟨w1.heap.size + 1, 0, none⟩ = some (.slice (some ⟨gv, 0, none⟩) ex.length cv) := by rw [hc]; exact cG
        rcases Nat.lt_or_ge j ex.length with hjl | hjl
        · obtain ⟨r, hr⟩ : ∃ r, ex[j]'(by omega) = r := ⟨_, rfl⟩
          have hrq : ex[j]'(by omega) = r := by exact hr
          obtain ⟨T0, x0, hdx⟩ : ∃ T x', r.d.val = .iface T x' := by obtain ⟨T, x', fn, h, _⟩ := typ_any r.d; exact ⟨T, x', h⟩
          have e0 : wr.cell? ⟨gE, j * 4, none⟩ = some (.string (bs r.nm)) := by have h := hcE j (by omega) 0 (by decide); rw [hr] at h; rw [hc]; simpa [Rec.cells] using h
          have e1 : wr.cell? ⟨gE, j * 4 + 1, none⟩ = some (.int .u16 0) := by have h := hcE j (by omega) 1 (by decide); rw [hr] at h; rw [hc]; simpa [Rec.cells] using h
          have e2 : wr.cell? ⟨gE, j * 4 + 2, none⟩ = some (.int .u32 r.ttl) := by have h := hcE j (by omega) 2 (by decide); rw [hr] at h; rw [hc]; simpa [Rec.cells] using h
          have e3 : wr.cell? ⟨gE, j * 4 + 3, none⟩ = some (.iface T0 x0) := by have h := hcE j (by omega) 3 (by decide); rw [hr] at h; rw [hc, ← hdx]; simpa [Rec.cells] using h
          have k0 : wr.cell? ⟨gv, j * 4, none⟩ = some (.string (bs r.nm)) := by have h := hcQ j (by omega) 0 (by decide); rw [hrq] at h; rw [hc]; simpa [Rec.cells] using h
          have k1 : wr.cell? ⟨gv, j * 4 + 1, none⟩ = some (.int .u16 0) := by have h := hcQ j (by omega) 1 (by decide); rw [hrq] at h; rw [hc]; simpa [Rec.cells] using h
          have k2 : wr.cell? ⟨gv, j * 4 + 2, none⟩ = some (.int .u32 r.ttl) := by have h := hcQ j (by omega) 2 (by decide); rw [hrq] at h; rw [hc]; simpa [Rec.cells] using h
          have k3 : wr.cell? ⟨gv, j * 4 + 3, none⟩ = some (.iface T0 x0) := by have h := hcQ j (by omega) 3 (by decide); rw [hrq] at h; rw [hc, ← hdx]; simpa [Rec.cells] using h
          have hq38 : ∀ w : World, (Op.equalIn 10000 38 (.agg #[.string (bs r.nm), .int .u16 0, .int .u32 r.ttl, .iface T0 x0]) (.agg #[.string (bs r.nm), .int .u16 0, .int .u32 r.ttl, .iface T0 x0])).run Yba.prog w = .ok true w := fun w => by
            have h := eq38_same r w
            simp only [Rec.cells, hdx] at h
            exact h
          have hg38 := fun x y w => guard38 x y (bs r.nm) r.ttl T0 x0 w
          have hjE : (j : Int) < ex.length := by omega
          have hjQ : (j : Int) < ex.length := by omega
          clear hc hr hrq hcE hcQ cG cL
          gi_wp2
          refine wpIn_wide.2 ?_
          go_quiet (fail)
          gi_wp2
          go_roundw
          case rel => exact ⟨j + 1, by omega, rfl, hwh, hwo, hwt, hwp⟩
          case measure =>
            simp [RowKit.intOf]
            omega
        · have hKr : wr.heap[D]? = some (.deferred (some [])) := by rw [hwh]; exact hK
          have hfin : Below w.heap.size w (wr.putObj D (.deferred none)) := by
            have hWs := hG.bel.size
            refine hB.trans ⟨hwo.trans hG.bel.os, hwt.trans hG.bel.tape, hwp.trans hG.bel.output, by simp [hwh]; omega, fun k hk => ?_⟩
            rw [World.putObj_heap_other (by have := hB.size; omega), hwh]
            exact hG.bel.block k (by have := hB.size; omega)
          clear hc cG cL
          gi_wp2
          refine ⟨by simp, .inl ⟨_, _, rfl, run_takeDeferred hKr, ?_⟩⟩
          exact ⟨_, results_tmp rfl _ _ _, rfl, hfin⟩
    · have hgt' : ¬ (ex.length : Int) < lim := by omega
      have hcQ := hcE'
      have hle' : lim = ex.length := by omega
      subst hle'
      gi_wp2
      gi_loopw [13] (fun i wr => ∃ j : Nat, j ≤ ex.length ∧ i = .int .i64 j ∧ wr.heap = W.heap ∧ wr.os = W.os ∧ wr.tape = W.tape ∧ wr.output = W.output) (fun i _ => ex.length - (RowKit.intOf i).toNat)
      case atStart => exact ⟨0, by omega, rfl, rfl, rfl, rfl, rfl⟩
      case round =>
        obtain ⟨j, hj, rfl, hwh, hwo, hwt, hwp⟩ := hrel
        have hc : ∀ a, wr.cell? a = W.cell? a := fun a => by simp only [World.cell?, hwh]
        have cG' : wr.cell? ⟨w1.heap.size + 1, 0, none⟩ = some (.slice (some ⟨gv, 0, none⟩) ex.length cv) := by rw [hc]; exact cG
        rcases Nat.lt_or_ge j ex.length with hjl | hjl
        · obtain ⟨r, hr⟩ : ∃ r, ex[j]'(by omega) = r := ⟨_, rfl⟩
          have hrq : ex[j]'(by omega) = r := by exact hr
          obtain ⟨T0, x0, hdx⟩ : ∃ T x', r.d.val = .iface T x' := by obtain ⟨T, x', fn, h, _⟩ := typ_any r.d; exact ⟨T, x', h⟩
          have e0 : wr.cell? ⟨gE, j * 4, none⟩ = some (.string (bs r.nm)) := by have h := hcE j (by omega) 0 (by decide); rw [hr] at h; rw [hc]; simpa [Rec.cells] using h
          have e1 : wr.cell? ⟨gE, j * 4 + 1, none⟩ = some (.int .u16 0) := by have h := hcE j (by omega) 1 (by decide); rw [hr] at h; rw [hc]; simpa [Rec.cells] using h
          have e2 : wr.cell? ⟨gE, j * 4 + 2, none⟩ = some (.int .u32 r.ttl) := by have h := hcE j (by omega) 2 (by decide); rw [hr] at h; rw [hc]; simpa [Rec.cells] using h
          have e3 : wr.cell? ⟨gE, j * 4 + 3, none⟩ = some (.iface T0 x0) := by have h := hcE j (by omega) 3 (by decide); rw [hr] at h; rw [hc, ← hdx]; simpa [Rec.cells] using h
          have k0 : wr.cell? ⟨gv, j * 4, none⟩ = some (.string (bs r.nm)) := by have h := hcQ j (by omega) 0 (by decide); rw [hrq] at h; rw [hc]; simpa [Rec.cells] using h
          have k1 : wr.cell? ⟨gv, j * 4 + 1, none⟩ = some (.int .u16 0) := by have h := hcQ j (by omega) 1 (by decide); rw [hrq] at h; rw [hc]; simpa [Rec.cells] using h
          have k2 : wr.cell? ⟨gv, j * 4 + 2, none⟩ = some (.int .u32 r.ttl) := by have h := hcQ j (by omega) 2 (by decide); rw [hrq] at h; rw [hc]; simpa [Rec.cells] using h
          have k3 : wr.cell? ⟨gv, j * 4 + 3, none⟩ = some (.iface T0 x0) := by have h := hcQ j (by omega) 3 (by decide); rw [hrq] at h; rw [hc, ← hdx]; simpa [Rec.cells] using h
          have hq38 : ∀ w : World, (Op.equalIn 10000 38 (.agg #[.string (bs r.nm), .int .u16 0, .int .u32 r.ttl, .iface T0 x0]) (.agg #[.string (bs r.nm), .int .u16 0, .int .u32 r.ttl, .iface T0 x0])).run Yba.prog w = .ok true w := fun w => by
            have h := eq38_same r w
            simp only [Rec.cells, hdx] at h
            exact h
          have hg38 := fun x y w => guard38 x y (bs r.nm) r.ttl T0 x0 w
          have hjE : (j : Int) < ex.length := by omega
          have hjQ : (j : Int) < ex.length := by omega
          clear hc hr hrq hcE hcQ cG cL
          gi_wp2
          refine wpIn_wide.2 ?_
          go_quiet (fail)
          gi_wp2
          go_roundw
          case rel => exact ⟨j + 1, by omega, rfl, hwh, hwo, hwt, hwp⟩
          case measure =>
            simp [RowKit.intOf]
            omega
        · have hKr : wr.heap[D]? = some (.deferred (some [])) := by rw [hwh]; exact hK
          have hfin : Below w.heap.size w (wr.putObj D (.deferred none)) := by
            have hWs := hG.bel.size
            refine hB.trans ⟨hwo.trans hG.bel.os, hwt.trans hG.bel.tape, hwp.trans hG.bel.output, by simp [hwh]; omega, fun k hk => ?_⟩
            rw [World.putObj_heap_other (by have := hB.size; omega), hwh]
            exact hG.bel.block k (by have := hB.size; omega)
          clear hc cG cL
          gi_wp2
          refine ⟨by simp, .inl ⟨_, _, rfl, run_takeDeferred hKr, ?_⟩⟩
          exact ⟨_, results_tmp rfl _ _ _, rfl, hfin⟩
  case stop =>
    rintro D q W hD hpre ⟨p, x, rfl, hG, hpl⟩ hK
    have hpx : p.length < ex.length := by have := hpre.length_le; simp at this; omega
    have hpe : ∀ j (h : j < p.length), ex[j]'(by omega) = p[j] := fun j h => by
      have h1 := hpre.getElem (i := j) (by simp; omega)
      rw [List.getElem_append_left h] at h1
      exact h1.symm
    obtain ⟨v, hv, hrowg⟩ := hG.got
    have cL : W.cell? ⟨w1.heap.size, 0, none⟩ = some (.int .i64 lim) := cell_blk hG.lim rfl
    have cG : W.cell? ⟨w1.heap.size + 1, 0, none⟩ = some v := cell_blk hv rfl
    have hrowE : W.ownsRow E 38 4 (.slice (some ⟨gE, 0, none⟩) ex.length capE) ex.length (ex.flatMap Rec.cells) := ownsRow_old hrow fun k hk => hG.bel.block k (by have := (hrow.lt k hk).2; omega)
    have hcE : ∀ j (h : j < ex.length) c, c < 4 → W.cell? ⟨gE, j * 4 + c, none⟩ = (ex[j].cells)[c]? := fun j h c hc => by
      rw [hrowE.cellAt (j * 4 + c) (by omega), Nat.mul_comm j 4, cells_at ex j c h hc]
    have hgt' : ¬ (ex.length : Int) < lim := by omega
    subst hpl
    rcases Nat.eq_zero_or_pos p.length with hp0 | hp0
    · obtain rfl : p = [] := List.eq_nil_of_length_eq_zero hp0
      rcases hrowg.2 with ⟨rfl, _⟩ | ⟨gv, cv, cur, rfl, _⟩
      · gi_wp2
        gi_loopw [13] (fun i wr => i = .int .i64 0 ∧ wr.heap = W.heap ∧ wr.os = W.os ∧ wr.tape = W.tape ∧ wr.output = W.output) (fun _ _ => 0)
        case atStart => exact ⟨rfl, rfl, rfl, rfl, rfl⟩
        case round =>
          obtain ⟨rfl, hwh, hwo, hwt, hwp⟩ := hrel
          have hKr : wr.heap[D]? = some (.deferred (some [])) := by rw [hwh]; exact hK
          have hfin : Below w.heap.size w (wr.putObj D (.deferred none)) := by
            have hWs := hG.bel.size
            refine hB.trans ⟨hwo.trans hG.bel.os, hwt.trans hG.bel.tape, hwp.trans hG.bel.output, by simp [hwh]; omega, fun k hk => ?_⟩
            rw [World.putObj_heap_other (by have := hB.size; omega), hwh]
            exact hG.bel.block k (by have := hB.size; omega)
          gi_wp2
          refine ⟨by simp, .inl ⟨_, _, rfl, run_takeDeferred hKr, ?_⟩⟩
          exact ⟨_, results_tmp rfl _ _ _, rfl, hfin⟩
      · gi_wp2
        gi_loopw [13] (fun i wr => i = .int .i64 0 ∧ wr.heap = W.heap ∧ wr.os = W.os ∧ wr.tape = W.tape ∧ wr.output = W.output) (fun _ _ => 0)
        case atStart => exact ⟨rfl, rfl, rfl, rfl, rfl⟩
        case round =>
          obtain ⟨rfl, hwh, hwo, hwt, hwp⟩ := hrel
          have hKr : wr.heap[D]? = some (.deferred (some [])) := by rw [hwh]; exact hK
          have hfin : Below w.heap.size w (wr.putObj D (.deferred none)) := by
            have hWs := hG.bel.size
            refine hB.trans ⟨hwo.trans hG.bel.os, hwt.trans hG.bel.tape, hwp.trans hG.bel.output, by simp [hwh]; omega, fun k hk => ?_⟩
            rw [World.putObj_heap_other (by have := hB.size; omega), hwh]
            exact hG.bel.block k (by have := hB.size; omega)
          gi_wp2
          refine ⟨by simp, .inl ⟨_, _, rfl, run_takeDeferred hKr, ?_⟩⟩
          exact ⟨_, results_tmp rfl _ _ _, rfl, hfin⟩
    · obtain ⟨gv, cv, rfl⟩ := ownsRow_pos hrowg hp0
      have hcQ : ∀ j (h : j < p.length) c, c < 4 → W.cell? ⟨gv, j * 4 + c, none⟩ = (p[j].cells)[c]? := fun j h c hc => by
        rw [hrowg.cellAt (j * 4 + c) (by omega), Nat.mul_comm j 4, cells_at p j c h hc]
      gi_wp2
      gi_loopw [13] (fun i wr => ∃ j : Nat, j ≤ p.length ∧ i = .int .i64 j ∧ wr.heap = W.heap ∧ wr.os = W.os ∧ wr.tape = W.tape ∧ wr.output = W.output) (fun i _ => p.length - (RowKit.intOf i).toNat)
      case atStart => exact ⟨0, by omega, rfl, rfl, rfl, rfl, rfl⟩
      case round =>
        obtain ⟨j, hj, rfl, hwh, hwo, hwt, hwp⟩ := hrel
        have hc : ∀ a, wr.cell? a = W.cell? a := fun a => by simp only [World.cell?, hwh]
        have cG' : wr.cell? ⟨w1.heap.size + 1, 0, none⟩ = some (.slice (some ⟨gv, 0, none⟩) p.length cv) := by rw [hc]; exact cG
        rcases Nat.lt_or_ge j p.length with hjl | hjl
        · obtain ⟨r, hr⟩ : ∃ r, ex[j]'(by omega) = r := ⟨_, rfl⟩
          have hrq : p[j]'(by omega) = r := by rw [← hpe j hjl]; exact hr
          obtain ⟨T0, x0, hdx⟩ : ∃ T x', r.d.val = .iface T x' := by obtain ⟨T, x', fn, h, _⟩ := typ_any r.d; exact ⟨T, x', h⟩
          have e0 : wr.cell? ⟨gE, j * 4, none⟩ = some (.string (bs r.nm)) := by have h := hcE j (by omega) 0 (by decide); rw [hr] at h; rw [hc]; simpa [Rec.cells] using h
          have e1 : wr.cell? ⟨gE, j * 4 + 1, none⟩ = some (.int .u16 0) := by have h := hcE j (by omega) 1 (by decide); rw [hr] at h; rw [hc]; simpa [Rec.cells] using h
          have e2 : wr.cell? ⟨gE, j * 4 + 2, none⟩ = some (.int .u32 r.ttl) := by have h := hcE j (by omega) 2 (by decide); rw [hr] at h; rw [hc]; simpa [Rec.cells] using h
          have e3 : wr.cell? ⟨gE, j * 4 + 3, none⟩ = some (.iface T0 x0) := by have h := hcE j (by omega) 3 (by decide); rw [hr] at h; rw [hc, ← hdx]; simpa [Rec.cells] using h
          have k0 : wr.cell? ⟨gv, j * 4, none⟩ = some (.string (bs r.nm)) := by have h := hcQ j (by omega) 0 (by decide); rw [hrq] at h; rw [hc]; simpa [Rec.cells] using h
          have k1 : wr.cell? ⟨gv, j * 4 + 1, none⟩ = some (.int .u16 0) := by have h := hcQ j (by omega) 1 (by decide); rw [hrq] at h; rw [hc]; simpa [Rec.cells] using h
          have k2 : wr.cell? ⟨gv, j * 4 + 2, none⟩ = some (.int .u32 r.ttl) := by have h := hcQ j (by omega) 2 (by decide); rw [hrq] at h; rw [hc]; simpa [Rec.cells] using h
          have k3 : wr.cell? ⟨gv, j * 4 + 3, none⟩ = some (.iface T0 x0) := by have h := hcQ j (by omega) 3 (by decide); rw [hrq] at h; rw [hc, ← hdx]; simpa [Rec.cells] using h
          have hq38 : ∀ w : World, (Op.equalIn 10000 38 (.agg #[.string (bs r.nm), .int .u16 0, .int .u32 r.ttl, .iface T0 x0]) (.agg #[.string (bs r.nm), .int .u16 0, .int .u32 r.ttl, .iface T0 x0])).run Yba.prog w = .ok true w := fun w => by
            have h := eq38_same r w
            simp only [Rec.cells, hdx] at h
            exact h
          have hg38 := fun x y w => guard38 x y (bs r.nm) r.ttl T0 x0 w
          have hjE : (j : Int) < ex.length := by omega
          have hjQ : (j : Int) < p.length := by omega
          clear hc hr hrq hcE hcQ cG cL
          gi_wp2
          refine wpIn_wide.2 ?_
          go_quiet (fail)
          gi_wp2
          go_roundw
          case rel => exact ⟨j + 1, by omega, rfl, hwh, hwo, hwt, hwp⟩
          case measure =>
            simp [RowKit.intOf]
            omega
        · have hKr : wr.heap[D]? = some (.deferred (some [])) := by rw [hwh]; exact hK
          have hfin : Below w.heap.size w (wr.putObj D (.deferred none)) := by
            have hWs := hG.bel.size
            refine hB.trans ⟨hwo.trans hG.bel.os, hwt.trans hG.bel.tape, hwp.trans hG.bel.output, by simp [hwh]; omega, fun k hk => ?_⟩
            rw [World.putObj_heap_other (by have := hB.size; omega), hwh]
            exact hG.bel.block k (by have := hB.size; omega)
          clear hc cG cL
          gi_wp2
          refine ⟨by simp, .inl ⟨_, _, rfl, run_takeDeferred hKr, ?_⟩⟩
          exact ⟨_, results_tmp rfl _ _ _, rfl, hfin⟩
end Go.Proofs.Ybulkccao
