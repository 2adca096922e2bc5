/- seat b3914a: a zone's nodes: the map by key, and the walk of node (8) -/
import Derived.Test.YbulkccaoOrder
import Derived.Test.YbulkccaoName
import Derived.Test.YbulkccaoKey
import Derived.Test.YbulkccaoEqual
import Derived.MapKept
import Derived.LaidEql
import Derived.OwnWalk
import Derived.Maps.AppendAt
import Derived.Deep.RegionWith
import Derived.BigRegion
namespace Go.Proofs.Ybulkccao
open Go Go.RowKit

abbrev Nd := Nat × List Bytes
def nkey (nm : List Bytes) : Bytes := lowL (encL nm)
def nent (n : Nd) : Value × Value := (.string (bs (nkey n.2)), .pointer (some ⟨n.1, 0, none⟩))
structure MapIs (es : Array MapEntry) (clock : Nat) (ns : List Nd) : Prop where
  ents : es.toList.map (fun e => (e.key, e.val)) = ns.map nent
  st : MapKept.Stamped es clock

theorem bs_inj {a b : Bytes} (h : bs a = bs b) : a = b := by
  have := congrArg (fun x : ByteArray => x.data.toList) h
  simpa [bs] using this
theorem bs_beq (a b : Bytes) : (bs a == bs b) = decide (a = b) := by
  by_cases h : a = b
  · subst h
    simp only [decide_true]
    exact (MapKept.bytes_beq _ _).2 rfl
  · simp only [h, decide_false]
    cases e : bs a == bs b with
    | false => rfl
    | true => exact absurd (bs_inj ((MapKept.bytes_beq _ _).1 e)) h

theorem findNow_miss (k : Bytes) : ∀ (l : List MapEntry) (ns : List Nd) (i : Nat), l.map (fun e => (e.key, e.val)) = ns.map nent → (∀ n ∈ ns, nkey n.2 ≠ k) → Instr.findNow .string (.string (bs k)) l i = some none
  | [], _, _, _, _ => rfl
  | e :: l, [], _, h, _ => by simp at h
  | e :: l, n :: ns, i, h, hn => by
    simp only [List.map_cons, List.cons.injEq, nent, Prod.mk.injEq] at h
    obtain ⟨⟨hk, hv⟩, ht⟩ := h
    have h1 : ¬ k = nkey n.2 := fun e => hn n (by simp) e.symm
    have ih := findNow_miss k l ns (i + 1) ht (fun m hm => hn m (by simp [hm]))
    simp [Instr.findNow, hk, Instr.sameNow, bs_beq, h1, ih]
theorem findNow_hit (k : Bytes) : ∀ (l : List MapEntry) (ns : List Nd) (i : Nat), l.map (fun e => (e.key, e.val)) = ns.map nent → (∃ n ∈ ns, nkey n.2 = k) → ∃ n ∈ ns, nkey n.2 = k ∧ ∃ j, Instr.findNow .string (.string (bs k)) l i = some (some (j, .pointer (some ⟨n.1, 0, none⟩)))
  | [], [], _, _, h => by simp at h
  | [], n :: ns, _, h, _ => by simp at h
  | e :: l, [], _, h, _ => by simp at h
  | e :: l, n :: ns, i, h, hn => by
    simp only [List.map_cons, List.cons.injEq, nent, Prod.mk.injEq] at h
    obtain ⟨⟨hk, hv⟩, ht⟩ := h
    by_cases h1 : k = nkey n.2
    · exact ⟨n, by simp, h1.symm, i, by simp [Instr.findNow, hk, hv, Instr.sameNow, bs_beq, h1]⟩
    · obtain ⟨m, hm, hmk⟩ := hn
      simp at hm
      rcases hm with rfl | hm
      · exact absurd hmk.symm h1
      · obtain ⟨q, hq, hqk, j, hj⟩ := findNow_hit k l ns (i + 1) ht ⟨m, hm, hmk⟩
        exact ⟨q, by simp [hq], hqk, j, by simp [Instr.findNow, hk, Instr.sameNow, bs_beq, h1, hj]⟩

theorem checkKey_str' (d : Nat) (e : Bool) (s : ByteArray) (w : World) : (Instr.checkKey e (d + 1) 9 (.string s)).run Yba.prog w = .ok () w := by
  simp [Instr.checkKey, run_underlying Yba.underlying9]
theorem checkKey_str (e : Bool) (s : ByteArray) (w : World) : (Instr.checkKey e 10000 9 (.string s)).run Yba.prog w = .ok () w := checkKey_str' 9999 e s w

theorem lookup_miss {w : World} {M clock : Nat} {es : Array MapEntry} {ns : List Nd} (hb : w.heap[M]? = some (.map es clock)) (h : MapIs es clock ns) (k : Bytes) (hn : ∀ n ∈ ns, nkey n.2 ≠ k) :
    (Instr.lookup 43 (.map (some M)) (.string (bs k)) false).run Yba.prog w = .ok (.pointer none) w := by
  have hc := checkKey_str (es.isEmpty) (bs k) w
  have hf := findNow_miss k es.toList ns 0 h.ents hn
  simp [Instr.lookup, Instr.findKey, run_underlying Yba.underlying43, run_underlying Yba.underlying9, MapKept.run_getObj_map hb, hc, hf, Yba.zeroValue42]
theorem lookup_hit {M clock : Nat} {es : Array MapEntry} {ns : List Nd} (h : MapIs es clock ns) (k : Bytes) (hn : ∃ n ∈ ns, nkey n.2 = k) :
    ∃ n ∈ ns, nkey n.2 = k ∧ ∀ w : World, w.heap[M]? = some (.map es clock) → (Instr.lookup 43 (.map (some M)) (.string (bs k)) false).run Yba.prog w = .ok (.pointer (some ⟨n.1, 0, none⟩)) w := by
  obtain ⟨n, h1, h2, j, hf⟩ := findNow_hit k es.toList ns 0 h.ents hn
  refine ⟨n, h1, h2, fun w hb => ?_⟩
  have hc := checkKey_str (es.isEmpty) (bs k) w
  simp [Instr.lookup, Instr.findKey, run_underlying Yba.underlying43, run_underlying Yba.underlying9, MapKept.run_getObj_map hb, hc, hf]

def setMap (w : World) (r : Nat) (es : Array MapEntry) (clock : Nat) : World := { w with heap := w.heap.setIfInBounds r (.map es clock) }
theorem update_new {w : World} {M clock : Nat} {es : Array MapEntry} {ns : List Nd} (hb : w.heap[M]? = some (.map es clock)) (h : MapIs es clock ns) (k : Bytes) (hn : ∀ n ∈ ns, nkey n.2 ≠ k) (v : Value) :
    (Instr.mapUpdate 43 (.map (some M)) (.string (bs k)) v).run Yba.prog w = .ok () (setMap w M (es.push { key := .string (bs k), val := v, born := clock }) (clock + 1)) := by
  have hc := checkKey_str false (bs k) w
  have hf := findNow_miss k es.toList ns 0 h.ents hn
  simp [Instr.mapUpdate, Instr.findKey, run_underlying Yba.underlying43, run_underlying Yba.underlying9, MapKept.run_getObj_map hb, hc, hf, MapKept.run_setObj_map _ hb, Result.andThen, setMap]

theorem MapIs.push {es : Array MapEntry} {clock : Nat} {ns : List Nd} (h : MapIs es clock ns) (p : Nat) (nm : List Bytes) (hn : ∀ n ∈ ns, nkey n.2 ≠ nkey nm) :
    MapIs (es.push { key := .string (bs (nkey nm)), val := .pointer (some ⟨p, 0, none⟩), born := clock }) (clock + 1) (ns ++ [(p, nm)]) := by
  obtain ⟨he, h1, h2, h3⟩ := h
  have hk : es.toList.map (·.key) = ns.map (fun n => (nent n).1) := by
    have := congrArg (List.map Prod.fst) he
    simpa [Function.comp_def] using this
  refine ⟨by simp [he, nent], ?_, ?_, ?_⟩
  · intro x hx
    simp at hx
    rcases hx with hx | rfl
    · have := h1 x (by simpa using hx); omega
    · simp
  · simp only [Array.toList_push, List.map_append, List.map_cons, List.map_nil]
    rw [List.nodup_append]
    refine ⟨h2, by simp, ?_⟩
    intro a ha b hb e
    simp at hb
    subst hb
    subst e
    obtain ⟨x, hx, rfl⟩ := List.mem_map.1 ha
    have := h1 x hx
    omega
  · simp only [Array.toList_push, List.map_append, List.map_cons, List.map_nil]
    rw [List.nodup_append]
    refine ⟨h3, by simp, ?_⟩
    intro a ha b hb e
    simp at hb
    subst hb
    subst e
    rw [hk] at ha
    obtain ⟨n, hn', e⟩ := List.mem_map.1 ha
    simp [nent] at e
    exact hn n hn' (bs_inj e)

theorem setMap_grown {w : World} {M : Nat} (es : Array MapEntry) (clock : Nat) : w.grownBy (setMap w M es clock) (some M) :=
  ⟨rfl, rfl, rfl, by simp [setMap], fun i _ hne => by simp at hne; simp [setMap, Array.getElem?_setIfInBounds_ne (Ne.symm hne)]⟩
theorem setMap_at {w : World} {M : Nat} {o : Obj} (hM : w.heap[M]? = some o) (es : Array MapEntry) (clock : Nat) : (setMap w M es clock).heap[M]? = some (.map es clock) := by
  have := (Array.getElem?_eq_some_iff.1 hM).1
  simp [setMap, this]

/-- a zone whose nodes hold no records yet -/
structure Zn (w : World) (B Z M : Nat) (zc : Array Value) (ns : List Nd) : Prop where
  zone : w.heap[Z]? = some (.cells zc 48 (0, 0)) ∧ zc[0]? = some (.string (bs (encL [com]))) ∧ zc[2]? = some (.map (some M))
  map : ∃ es clock, w.heap[M]? = some (.map es clock) ∧ MapIs es clock ns
  wf : ∀ n ∈ ns, WFL n.2 ∧ n.2 ≠ []
  keys : ns.Pairwise fun a b => nkey a.2 ≠ nkey b.2
  node : ∀ n ∈ ns, w.heap[n.1]? = some (.cells #[.string (bs (encL n.2)), .slice none 0 0, .pointer none] 60 (0, 0))
  ptrs : (ns.map (·.1)).Nodup
  ge : B ≤ Z ∧ B ≤ M ∧ ∀ n ∈ ns, B ≤ n.1

theorem Zn.grown {w w' : World} {B Z M : Nat} {zc : Array Value} {ns : List Nd} (h : Zn w B Z M zc ns) (hg : ∀ k, k < w.heap.size → w'.heap[k]? = w.heap[k]?) : Zn w' B Z M zc ns := by
  have hh : ∀ {k : Nat} {o : Obj}, w.heap[k]? = some o → w'.heap[k]? = some o := fun hk => (hg _ (Array.getElem?_eq_some_iff.1 hk).1).trans hk
  obtain ⟨es, clock, hm, hi⟩ := h.map
  exact ⟨⟨hh h.zone.1, h.zone.2⟩, ⟨es, clock, hh hm, hi⟩, h.wf, h.keys, fun n hn => hh (h.node n hn), h.ptrs, h.ge⟩

theorem Zn.add {w : World} {B Z M : Nat} {zc : Array Value} {ns : List Nd} (h : Zn w B Z M zc ns) (nm : List Bytes) (hw : WFL nm) (hne : nm ≠ []) (hn : ∀ n ∈ ns, nkey n.2 ≠ nkey nm) (p : Nat) (hp : w.heap[p]? = some (.cells #[.string (bs (encL nm)), .slice none 0 0, .pointer none] 60 (0, 0)))
    (hpn : ∀ n ∈ ns, n.1 ≠ p) (hpB : B ≤ p) {es : Array MapEntry} {clock : Nat} (hm : w.heap[M]? = some (.map es clock)) (hi : MapIs es clock ns) :
    Zn (setMap w M (es.push { key := .string (bs (nkey nm)), val := .pointer (some ⟨p, 0, none⟩), born := clock }) (clock + 1)) B Z M zc (ns ++ [(p, nm)]) := by
  have hg := setMap_grown (w := w) (M := M) (es.push { key := .string (bs (nkey nm)), val := .pointer (some ⟨p, 0, none⟩), born := clock }) (clock + 1)
  have hh : ∀ {k : Nat} {c : Array Value} {t : TypeId} {f : Nat × Nat}, w.heap[k]? = some (Obj.cells c t f) → (setMap w M (es.push { key := .string (bs (nkey nm)), val := .pointer (some ⟨p, 0, none⟩), born := clock }) (clock + 1)).heap[k]? = some (Obj.cells c t f) := fun {k c t f} hk => by
    refine (hg.block k (Array.getElem?_eq_some_iff.1 hk).1 ?_).trans hk
    simp
    rintro rfl
    rw [hm] at hk
    simp at hk
  refine ⟨⟨hh h.zone.1, h.zone.2⟩, ⟨_, _, setMap_at hm _ _, hi.push p nm hn⟩, ?_, ?_, ?_, ?_, h.ge.1, h.ge.2.1, ?_⟩
  · intro n hn'
    simp at hn'
    rcases hn' with hn' | rfl
    · exact h.wf n hn'
    · exact ⟨hw, hne⟩
  · rw [List.pairwise_append]
    exact ⟨h.keys, by simp, fun a ha b hb => by simp at hb; subst hb; exact hn a ha⟩
  · intro n hn'
    simp at hn'
    rcases hn' with hn' | rfl
    · exact hh (h.node n hn')
    · exact hh hp
  · simp only [List.map_append, List.map_cons, List.map_nil]
    rw [List.nodup_append]
    refine ⟨h.ptrs, by simp, fun a ha b hb e => ?_⟩
    simp at hb
    subst hb
    subst e
    obtain ⟨n, hn', e⟩ := List.mem_map.1 ha
    exact hpn n hn' e
  · intro n hn'
    simp at hn'
    rcases hn' with hn' | rfl
    · exact h.ge.2.2 n hn'
    · exact hpB

theorem below_undrew {B : Nat} {w w' : World} (h : Below B w.drew w') : Below B w w' := ⟨h.os, h.tape, h.output, h.size, h.block⟩
theorem encL_small {ls : List Bytes} (h : WFL ls) : (encL ls).length ≤ 255 := by have := encL_le h; omega

set_option maxRecDepth 100000 in
set_option maxHeartbeats 1600000 in
theorem node_run (B Z M : Nat) (zc : Array Value) : ∀ (ls : List Bytes) (_ : WFL ls) (_ : ∃ a, ls = a ++ [com]) (ns : List Nd) (w : World) (_ : Zn w B Z M zc ns) (_ : B ≤ w.heap.size),
    Calls Yba.prog 8 #[.pointer (some ⟨Z, 0, none⟩), .string (bs (encL ls))] w fun e w' => ∃ (n : Nd) (ns' : List Nd), e = .returned (.pointer (some ⟨n.1, 0, none⟩)) ∧ n ∈ ns ++ ns' ∧ nkey n.2 = nkey ls ∧ Zn w' B Z M zc (ns ++ ns') ∧ w.grownBy w' (some M) ∧ ns'.length ≤ ls.length ∧ ∀ m ∈ ns', w.heap.size ≤ m.1
  | [], _, hl, _, _, _, _ => by obtain ⟨a, ha⟩ := hl; simp at ha
  | l :: ls, hw, hl, ns, w, hz, hBw => by
    have hlen := encL_small hw
    have cZ0 : w.cell? ⟨Z, 0, none⟩ = some (.string (bs (encL [com]))) := cell_blk hz.zone.1 hz.zone.2.1
    have cZ2 : w.cell? ⟨Z, 2, none⟩ = some (.map (some M)) := cell_blk hz.zone.1 hz.zone.2.2
    have hZl : Z < w.heap.size := (Array.getElem?_eq_some_iff.1 hz.zone.1).1
    obtain ⟨t, ht⟩ : ∃ t, encL (l :: ls) = t := ⟨_, rfl⟩
    have hkey := key_run t
    rw [ht] at hlen ⊢
    have hnk : nkey (l :: ls) = lowL t := by simp [nkey, ht]
    go_enter Yba.func8, Yba.ntmps8
    go_wp2
    obtain ⟨es, clock, hm, hmi⟩ := hz.map
    have hMl : M < w.heap.size := (Array.getElem?_eq_some_iff.1 hm).1
    by_cases hex : ∃ n ∈ ns, nkey n.2 = lowL t
    · obtain ⟨n, hn, hnk1, hlk⟩ := lookup_hit (M := M) hmi (lowL t) hex
      clear hex
      have hk1 : Calls Yba.prog 18 #[.string (bs t)] w.drew fun e w1 => e = .returned (.string (bs (lowL t))) ∧ Below w.heap.size w w1 ∧ (Instr.lookup 43 (.map (some M)) (.string (bs (lowL t))) false).run Yba.prog w1 = .ok (.pointer (some ⟨n.1, 0, none⟩)) w1 ∧ w1.cell? ⟨Z, 2, none⟩ = some (.map (some M)) :=
        (hkey _ hlen).mono fun e w1 h => ⟨h.1, below_undrew h.2, hlk w1 (((below_undrew h.2).block M hMl).trans hm), ((below_undrew h.2).cell (p := ⟨Z, 2, none⟩) hZl).trans cZ2⟩
      clear hlk hkey
      go_region_with (go_at_call 18; refine hk1.mono ?_; rintro e w1 ⟨rfl, hB1, hlk1, cZ2'⟩)
      all_goals
        go_wp2
        go_ret
        refine ⟨n, [], rfl, by simpa using hn, by rw [hnk1, hnk], by simpa using hz.grown hB1.block, ⟨hB1.os, hB1.tape, hB1.output, hB1.size, fun k hk _ => hB1.block k hk⟩, by simp, by simp⟩
    · have hex' : ∀ n ∈ ns, nkey n.2 ≠ lowL t := fun n hn e => hex ⟨n, hn, e⟩
      have hk1 : Calls Yba.prog 18 #[.string (bs t)] w.drew fun e w1 => e = .returned (.string (bs (lowL t))) ∧ Below w.heap.size w w1 ∧ (Instr.lookup 43 (.map (some M)) (.string (bs (lowL t))) false).run Yba.prog w1 = .ok (.pointer none) w1 ∧ w1.cell? ⟨Z, 2, none⟩ = some (.map (some M)) :=
        (hkey _ hlen).mono fun e w1 h => ⟨h.1, below_undrew h.2, lookup_miss (((below_undrew h.2).block M hMl).trans hm) hmi _ hex', ((below_undrew h.2).cell (p := ⟨Z, 2, none⟩) hZl).trans cZ2⟩
      have hk2 : ∀ w1, Below w.heap.size w w1 → Calls Yba.prog 18 #[.string (bs t)] (w1.alloc (.cells #[.string (bs t), .slice none 0 0, .pointer none] 60)).drew fun e w3 => e = .returned (.string (bs (lowL t))) ∧ Below (w1.heap.size + 1) (w1.alloc (.cells #[.string (bs t), .slice none 0 0, .pointer none] 60)) w3 ∧
          (Instr.mapUpdate 43 (.map (some M)) (.string (bs (lowL t))) (.pointer (some ⟨w1.heap.size, 0, none⟩))).run Yba.prog w3 = .ok () (setMap w3 M (es.push { key := .string (bs (lowL t)), val := .pointer (some ⟨w1.heap.size, 0, none⟩), born := clock }) (clock + 1)) ∧ w3.cell? ⟨Z, 2, none⟩ = some (.map (some M)) := by
        intro w1 hB1
        refine (hkey _ hlen).mono fun e w3 h => ?_
        have hb := below_undrew h.2
        have hs1 := hB1.size
        have hold : ∀ k, k < w.heap.size → w3.heap[k]? = w.heap[k]? := fun k hk => by
          rw [hb.block k (by simp; omega), heap_alloc_old _ _ (by omega), hB1.block k hk]
        refine ⟨h.1, ⟨hb.os, hb.tape, hb.output, hb.size, fun k hk => hb.block k (by simpa using hk)⟩, update_new ((hold M hMl).trans hm) hmi _ hex' _, ?_⟩
        rw [← cZ2]
        simp only [World.cell?, hold Z hZl]
      have hfin : ∀ w1 w3, Below w.heap.size w w1 → Below (w1.heap.size + 1) (w1.alloc (.cells #[.string (bs t), .slice none 0 0, .pointer none] 60)) w3 →
          Zn (setMap w3 M (es.push { key := .string (bs (lowL t)), val := .pointer (some ⟨w1.heap.size, 0, none⟩), born := clock }) (clock + 1)) B Z M zc (ns ++ [(w1.heap.size, l :: ls)]) ∧
          w.grownBy (setMap w3 M (es.push { key := .string (bs (lowL t)), val := .pointer (some ⟨w1.heap.size, 0, none⟩), born := clock }) (clock + 1)) (some M) := by
        intro w1 w3 hB1 hB3
        have hs1 := hB1.size
        have hs3 := hB3.size
        simp at hs3
        have hold : ∀ k, k < w.heap.size → w3.heap[k]? = w.heap[k]? := fun k hk => by
          rw [hB3.block k (by omega), heap_alloc_old _ _ (by omega), hB1.block k hk]
        have hz3 := hz.grown hold
        have h1 := hz3.add (l :: ls) hw (by simp) (by rw [hnk]; exact hex') w1.heap.size (by rw [hB3.block _ (by omega), heap_alloc_new, ht]) (fun n hn e => by
          have := (Array.getElem?_eq_some_iff.1 (hz.node n hn)).1
          omega) (by omega) ((hold M hMl).trans hm) hmi
        rw [hnk] at h1
        refine ⟨h1, World.grownBy.trans ⟨hB3.os.trans hB1.os, hB3.tape.trans hB1.tape, hB3.output.trans hB1.output, by omega, fun k hk _ => hold k hk⟩ (setMap_grown _ _)⟩
      clear hex hkey
      go_region_with (go_at_call 18; refine hk1.mono ?_; rintro e w1 ⟨rfl, hB1, hlk1, cZ2'⟩)
      all_goals
        have hk3 := hk2 w1 hB1
        have cZ2'' : (w1.alloc (.cells #[.string (bs t), .slice none 0 0, .pointer none] 60)).cell? ⟨Z, 2, none⟩ = some (.map (some M)) := (World.cell?_alloc_lt w1 _ ⟨Z, 2, none⟩ (by have := hB1.size; show Z < _; omega)).trans cZ2'
        clear hk1 hk2
        go_wp2
        go_region_with (go_at_call 18; refine hk3.mono ?_; rintro e w3 ⟨rfl, hB3, hup, cZ3⟩)
      all_goals
        obtain ⟨hz4, hg4⟩ := hfin w1 w3 hB1 hB3
        have hp1 := hB1.size
        obtain ⟨p, hp⟩ : ∃ p, p = w1.heap.size := ⟨_, rfl⟩
        rw [← hp] at hz4 hg4 hp1 ⊢
        generalize hw4 : setMap w3 M (es.push { key := Value.string (bs (lowL t)), val := Value.pointer (some ⟨p, 0, none⟩), born := clock }) (clock + 1) = w4 at hz4 hg4 ⊢
        have c40 : w4.cell? ⟨Z, 0, none⟩ = some (.string (bs (encL [com]))) := cell_blk hz4.zone.1 hz4.zone.2.1
        clear hw4 hfin hk3 hup hB3 cZ3 cZ2'' hlk1 cZ2' hB1 hp cZ0 cZ2
        have hEq := equal_run t (encL [com]) w4 hlen
        by_cases heq : lowL t = lowL (encL [com])
        · have hd : decide (lowL t = lowL (encL [com])) = true := by simp [heq]
          rw [hd] at hEq
          go_wp2_with (go_at_call 19; refine hEq.mono ?_; clear hEq; rintro e w5 ⟨rfl, q, hw5⟩; have hw5' : w5.heap = w4.heap ∧ w5.os = w4.os ∧ w5.tape = w4.tape ∧ w5.output = w4.output := (by subst hw5; exact ⟨rfl, rfl, rfl, rfl⟩); clear hw5)
          go_ret
          refine ⟨(p, l :: ls), [(p, l :: ls)], rfl, by simp, rfl, hz4.grown (fun k _ => by rw [hw5'.1]), ⟨hw5'.2.1.trans hg4.os, hw5'.2.2.1.trans hg4.tape, hw5'.2.2.2.trans hg4.output, by rw [hw5'.1]; exact hg4.size, fun k hk hne => by rw [hw5'.1]; exact hg4.block k hk hne⟩, by simp, by simpa using hp1⟩
        · have hd : decide (lowL t = lowL (encL [com])) = false := by simp [heq]
          rw [hd] at hEq
          cases hls : ls with
          | nil =>
            exfalso
            subst hls
            obtain ⟨a, ha⟩ := hl
            cases a with
            | nil => simp at ha; subst ha; exact heq (by rw [← ht])
            | cons x a => simp at ha
          | cons l2 ls2 =>
            have hP := fun w5 => parent_run l ls w5 hw
            rw [ht] at hP
            have ih := fun w5 hz5 hB5 => node_run B Z M zc ls hw.tail (by
              obtain ⟨a, ha⟩ := hl
              cases a with
              | nil => simp [hls] at ha
              | cons x a => simp at ha; exact ⟨a, ha.2⟩) (ns ++ [(p, l :: ls)]) w5 hz5 hB5
            clear hls
            go_wp2_with (first | (go_at_call 19; refine hEq.mono ?_; clear hEq; rintro e w5 ⟨rfl, q, hw5⟩; have hw5' : w5.heap = w4.heap ∧ w5.os = w4.os ∧ w5.tape = w4.tape ∧ w5.output = w4.output := (by subst hw5; exact ⟨rfl, rfl, rfl, rfl⟩); clear hw5; have hz5 := hz4.grown (w' := w5) (fun k _ => by rw [hw5'.1]); have hg5 : w.grownBy w5 (some M) := ⟨hw5'.2.1.trans hg4.os, hw5'.2.2.1.trans hg4.tape, hw5'.2.2.2.trans hg4.output, by rw [hw5'.1]; exact hg4.size, fun k hk hne => by rw [hw5'.1]; exact hg4.block k hk hne⟩; clear hw5') | (go_at_call 20; refine (hP _).mono ?_; rintro e w6 ⟨rfl, hw6⟩; have hw7 := hw6.symm; clear hw6; subst hw7) | (go_at_call 8; refine (ih _ hz5 (by have := hg5.size; omega)).mono ?_; rintro e w8 ⟨n8, ns8, rfl, hn8, hk8, hz8, hg8, hl8, hm8⟩))
            go_ret
            refine ⟨(p, l :: ls), (p, l :: ls) :: ns8, rfl, by simp, rfl, by simpa using hz8, hg5.trans hg8, by simp; omega, ?_⟩
            intro m hm
            simp at hm
            have := hg5.size
            rcases hm with rfl | hm
            · exact hp1
            · have := hm8 m hm; omega
end Go.Proofs.Ybulkccao
