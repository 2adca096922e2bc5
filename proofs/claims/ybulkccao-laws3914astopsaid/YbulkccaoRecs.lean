/- seat b3914a: records, and a zone whose nodes hold records -/
import Derived.Test.YbulkccaoNew
import Derived.Test.YbulkccaoAppend
import Derived.Deep.RegionLaw
import Derived.OneCell
namespace Go.Proofs.Ybulkccao
open Go Go.RowKit

theorem step_append_at {P : Program} {w : World} {ops : Array Oper} {o : Oper} {a : Act} {K : Act → World → Prop} {Q : Exit → Act → World → Prop} {E : Prop} (hgd : o.guard = none) (s x : Operand) (t : TypeId)
    (ho : o.op = .call { callee := .builtin .append, args := #[s, x], argTypes := #[t, t] })
    (base : Nat) (e : TypeId) (i : TypeInfo) (z : Value) (size bytes : Nat) (ht : P.underlying t = some (.slice e)) (hi : P.info? e = some i) (hz : i.zero = some z)
    (hsize : i.size = size) (hby : i.bytes = bytes) (hzs : z.cells.size = size) (hsz : 0 < size)
    (v : Value) (n : Nat) (xs : List Value) (hs : a.eval s = v) (hown : w.ownsRow base e size v n xs)
    (ad : Addr) (m c : Nat) (news : List Value) (hx : a.eval x = .slice (some ad) m c) (hm : 0 < m) (hl : news.length = m * size) (hnews : ∀ j u, news[j]? = some u → w.cell? (ad.add j) = some u) (h1 : ∀ u ∈ news, u.oneCell' = true)
    (h63 : n + m ≤ maxLen) (hbytes : (n + m) * bytes ≤ 140737488355328) (hbase : base ≤ w.heap.size)
    (h : ∀ v' w', w'.ownsRow base e size v' (n + m) (xs ++ news) → w.grownBy w' v.ownBlock → (v'.ownBlock = v.ownBlock ∨ v'.ownBlock = some w.heap.size) → K (a.put o.dst v') w') :
    if Region.wanted o (yielded ops a.tmps) = true then Oper.wp P o a w K Q else E := by
  have hw : Region.wanted o (yielded ops a.tmps) = true := by simp [Region.wanted, hgd]
  rw [if_pos hw]
  obtain ⟨v', w', hr, h2, h3, h4⟩ := append_where (P := P) w base t o.type e i z size bytes ht hi hz hsize hby hzs hsz v n xs hown ad m c news hm hl hnews h1 h63 hbytes hbase
  unfold Oper.wp execOp
  simp only [ho, resolve, invoke, builtin, Sem.run_bind, Sem.run_pure, Result.andThen_ok, List.map_toArray, List.map_cons, List.map_nil, hs, hx, hr]
  exact h v' w' h2 h3 h4

theorem inj_nodup : ∀ {l : List Nd}, (l.map (·.1)).Nodup → ∀ {a b : Nd}, a ∈ l → b ∈ l → a.1 = b.1 → a = b
  | [], _, _, _, h, _, _ => by simp at h
  | x :: l, h, a, b, ha, hb, e => by
    simp only [List.map_cons, List.nodup_cons] at h
    simp only [List.mem_cons] at ha hb
    rcases ha with rfl | ha <;> rcases hb with rfl | hb
    · rfl
    · exact absurd (List.mem_map.2 ⟨b, hb, e.symm⟩) h.1
    · exact absurd (List.mem_map.2 ⟨a, ha, e⟩) h.1
    · exact inj_nodup h.2 ha hb e

def nptr (n : Nd) : Value := .pointer (some ⟨n.1, 0, none⟩)
/-- what a record holds -/
structure Dat where
  kind : Nat
  r : Nat
  h : Bytes
def Dat.a (r : Nat) : Dat := ⟨0, r, []⟩
def Dat.ns : Dat := ⟨1, 0, []⟩
def Dat.mx (r : Nat) (h : Bytes) : Dat := ⟨2, r, h⟩
def Dat.soa (r : Nat) : Dat := ⟨3, r, []⟩
def Dat.val (d : Dat) : Value :=
  match d.kind with
  | 0 => .iface 55 (.agg #[.int .u8 ((d.r : Int) % 256), .int .u8 1, .int .u8 2, .int .u8 3])
  | 1 => .iface 57 (.agg #[.string (bs (encL [com]))])
  | 2 => .iface 62 (.agg #[.int .u16 d.r, .string (bs d.h)])
  | _ => .iface 64 (.agg #[.string ⟨#[]⟩, .string ⟨#[]⟩, .int .u32 d.r, .int .u32 0, .int .u32 0, .int .u32 0, .int .u32 0])
structure Rec where
  nm : Bytes
  ttl : Nat
  d : Dat
def Rec.cells (r : Rec) : List Value := [.string (bs r.nm), .int .u16 0, .int .u32 r.ttl, r.d.val]
def upd {α : Type} (f : Nat → α) (p : Nat) (x : α) : Nat → α := fun q => if q = p then x else f q

/-- a zone whose nodes hold the records rs -/
structure Zr (w : World) (B Z M : Nat) (zc : Array Value) (ns : List Nd) (vs : Nat → Value) (rs : Nat → List Rec) : Prop where
  zone : w.heap[Z]? = some (.cells zc 48 (0, 0)) ∧ zc[0]? = some (.string (bs (encL [com]))) ∧ zc[2]? = some (.map (some M))
  map : ∃ es clock, w.heap[M]? = some (.map es clock) ∧ MapIs es clock ns
  wf : ∀ n ∈ ns, WFL n.2 ∧ n.2 ≠ []
  keys : ns.Pairwise fun a b => nkey a.2 ≠ nkey b.2
  node : ∀ n ∈ ns, w.heap[n.1]? = some (.cells #[.string (bs (encL n.2)), vs n.1, .pointer none] 60 (0, 0))
  rows : ∀ n ∈ ns, w.ownsRow B 38 4 (vs n.1) (rs n.1).length ((rs n.1).flatMap Rec.cells)
  apart : ∀ n ∈ ns, ∀ m ∈ ns, n.1 ≠ m.1 → (vs n.1).ownBlock = none ∨ (vs n.1).ownBlock ≠ (vs m.1).ownBlock
  ptrs : (ns.map (·.1)).Nodup
  ge : B ≤ Z ∧ B ≤ M ∧ ∀ n ∈ ns, B ≤ n.1

theorem Zn.toZr {w : World} {B Z M : Nat} {zc : Array Value} {ns : List Nd} (h : Zn w B Z M zc ns) : Zr w B Z M zc ns (fun _ => .slice none 0 0) (fun _ => []) :=
  ⟨h.zone, h.map, h.wf, h.keys, h.node, fun _ _ => World.ownsRow_nil _ _ _ _, fun _ _ _ _ _ => .inl rfl, h.ptrs, h.ge⟩

theorem ownsRow_old {w w' : World} {B : Nat} {e : TypeId} {s : Nat} {v : Value} {n : Nat} {xs : List Value} (h : w.ownsRow B e s v n xs) (hk : ∀ k, v.ownBlock = some k → w'.heap[k]? = w.heap[k]?) : w'.ownsRow B e s v n xs := by
  refine ⟨h.1, ?_⟩
  rcases h.2 with hn | ⟨g, cap, cur, hv, hb, hg, r⟩
  · exact .inl hn
  · exact .inr ⟨g, cap, cur, hv, hb, (hk g (by simp [hv, Value.ownBlock])).trans hg, r⟩
theorem ownsRow_typ {w : World} {B : Nat} {e : TypeId} {s : Nat} {v : Value} {n : Nat} {xs : List Value} (h : w.ownsRow B e s v n xs) {k : Nat} (hk : v.ownBlock = some k) : ∃ c, w.heap[k]? = some (.cells c e (0, 0)) := by
  rcases h.2 with ⟨rfl, _⟩ | ⟨g, cap, cur, rfl, _, hg, _⟩
  · simp [Value.ownBlock] at hk
  · simp [Value.ownBlock] at hk
    subst hk
    exact ⟨cur, hg⟩

theorem Zr.keep {w w' : World} {B Z M : Nat} {zc : Array Value} {ns : List Nd} {vs : Nat → Value} {rs : Nat → List Rec} (h : Zr w B Z M zc ns vs rs)
    (hg : ∀ (k : Nat) (o : Obj), w.heap[k]? = some o → (∀ c e, o = .cells c e (0, 0) → e = 48 ∨ e = 60 ∨ e = 38) → w'.heap[k]? = some o) : Zr w' B Z M zc ns vs rs := by
  obtain ⟨es, clock, hm, hi⟩ := h.map
  refine ⟨⟨hg _ _ h.zone.1 (by rintro c e h; cases h; simp), h.zone.2⟩, ⟨es, clock, hg _ _ hm (by rintro c e h; cases h), hi⟩, h.wf, h.keys, fun n hn => hg _ _ (h.node n hn) (by rintro c e h; cases h; simp), fun n hn => ?_, h.apart, h.ptrs, h.ge⟩
  refine ownsRow_old (h.rows n hn) fun k hk => ?_
  obtain ⟨c, hc⟩ := ownsRow_typ (h.rows n hn) hk
  rw [hc]
  exact hg _ _ hc (by rintro c e h; cases h; simp)
theorem Zr.grown {w w' : World} {B Z M : Nat} {zc : Array Value} {ns : List Nd} {vs : Nat → Value} {rs : Nat → List Rec} (h : Zr w B Z M zc ns vs rs) (hg : ∀ k, k < w.heap.size → w'.heap[k]? = w.heap[k]?) : Zr w' B Z M zc ns vs rs :=
  h.keep fun k _ hk _ => (hg k (Array.getElem?_eq_some_iff.1 hk).1).trans hk
/-- another row grows -/
theorem Zr.row {w w' : World} {B Z M : Nat} {zc : Array Value} {ns : List Nd} {vs : Nat → Value} {rs : Nat → List Rec} {row : Option Nat} (h : Zr w B Z M zc ns vs rs) (hg : w.grownBy w' row) (hr : ∀ g, row = some g → ∃ c e, w.heap[g]? = some (.cells c e (0, 0)) ∧ e ≠ 48 ∧ e ≠ 60 ∧ e ≠ 38) : Zr w' B Z M zc ns vs rs := by
  refine h.keep fun k o hk ho => ?_
  refine (hg.block k (Array.getElem?_eq_some_iff.1 hk).1 ?_).trans hk
  rintro rfl
  obtain ⟨c, e, hc, h1, h2, h3⟩ := hr k rfl
  rw [hk] at hc
  cases hc
  rcases ho c e rfl with h | h | h
  · exact h1 h
  · exact h2 h
  · exact h3 h

theorem Zr.add {w w' : World} {B Z M : Nat} {zc : Array Value} {ns : List Nd} {vs : Nat → Value} {rs : Nat → List Rec} (h : Zr w B Z M zc ns vs rs) (nd : Nd) (hnd : nd ∈ ns) (r : Rec) (v' : Value)
    (hold : ∀ k, k < w.heap.size → some k ≠ (vs nd.1).ownBlock → w'.heap[k]? = w.heap[k]?) (hrow : w'.ownsRow B 38 4 v' ((rs nd.1).length + 1) ((rs nd.1).flatMap Rec.cells ++ r.cells))
    (hwh : v'.ownBlock = (vs nd.1).ownBlock ∨ ∃ g, v'.ownBlock = some g ∧ w.heap.size ≤ g) :
    Zr (w'.setCell ⟨nd.1, 1, none⟩ v') B Z M zc ns (upd vs nd.1 v') (upd rs nd.1 (rs nd.1 ++ [r])) := by
  have hne : ∀ {k : Nat} {o : Obj}, w.heap[k]? = some o → (∀ c f, o ≠ .cells c 38 f) → w'.heap[k]? = some o := by
    intro k o hk ho
    refine (hold k (Array.getElem?_eq_some_iff.1 hk).1 ?_).trans hk
    intro e
    obtain ⟨c, hc⟩ := ownsRow_typ (h.rows nd hnd) e.symm
    rw [hk] at hc
    cases hc
    exact ho _ _ rfl
  have hnd' := hne (h.node nd hnd) (by simp)
  have hset : ∀ {k : Nat} {o : Obj}, w'.heap[k]? = some o → k ≠ nd.1 → (w'.setCell ⟨nd.1, 1, none⟩ v').heap[k]? = some o := fun hk hkn => by
    rw [Below.heap_setCell _ _ _ _ hkn]; exact hk
  have hty : ∀ {k : Nat} {o : Obj}, w'.heap[k]? = some o → (∀ c f, o ≠ .cells c 60 f) → k ≠ nd.1 := by
    rintro k o hk ho rfl
    rw [hnd'] at hk
    cases hk
    exact ho _ _ rfl
  obtain ⟨es, clock, hm, hi⟩ := h.map
  have hz1 := hne h.zone.1 (by simp)
  have hm1 := hne hm (by simp)
  refine ⟨⟨hset hz1 (hty hz1 (by simp)), h.zone.2⟩, ⟨es, clock, hset hm1 (hty hm1 (by simp)), hi⟩, h.wf, h.keys, fun n hn => ?_, fun n hn => ?_, fun n hn m hm' hnm => ?_, h.ptrs, h.ge⟩
  · by_cases e : n.1 = nd.1
    · have : n = nd := by
        exact inj_nodup h.ptrs hn hnd e
      subst this
      rw [heap_setCell_own hnd']
      simp [upd]
    · simp only [upd, e, if_false]
      exact hset (hne (h.node n hn) (by simp)) e
  · by_cases e : n.1 = nd.1
    · simp only [upd, e, if_true]
      have h2 : (w'.setCell ⟨nd.1, 1, none⟩ v').ownsRow B 38 4 v' ((rs nd.1).length + 1) ((rs nd.1).flatMap Rec.cells ++ r.cells) := ownsRow_setCell_other hrow (by
        intro e2
        obtain ⟨c, hc⟩ := ownsRow_typ hrow e2
        rw [hnd'] at hc
        cases hc) v'
      simpa using h2
    · simp only [upd, e, if_false]
      refine ownsRow_old (h.rows n hn) fun k hk => ?_
      obtain ⟨c, hc⟩ := ownsRow_typ (h.rows n hn) hk
      have hkl := (Array.getElem?_eq_some_iff.1 hc).1
      have h1 : w'.heap[k]? = some (.cells c 38 (0, 0)) := (hold k hkl (fun e2 => by
        rcases h.apart n hn nd hnd e with h0 | h0
        · rw [h0] at hk; cases hk
        · exact h0 (hk.trans e2))).trans hc
      rw [hset h1 (hty h1 (by simp)), hc]
  · by_cases e1 : n.1 = nd.1 <;> by_cases e2 : m.1 = nd.1
    · omega
    · simp only [upd, e1, e2, if_true, if_false]
      rcases hwh with hwh | ⟨g, hg, hgl⟩
      · rw [hwh, ← e1]; exact h.apart n hn m hm' hnm
      · right
        rw [hg]
        intro e
        have := ((h.rows m hm').lt g e.symm).2
        omega
    · simp only [upd, e1, e2, if_true, if_false]
      rcases hwh with hwh | ⟨g, hg, hgl⟩
      · rw [hwh, ← e2]; exact h.apart n hn m hm' hnm
      · right
        rw [hg]
        intro e
        have := ((h.rows n hn).lt g e).2
        omega
    · simp only [upd, e1, e2, if_false]
      exact h.apart n hn m hm' hnm

theorem Zr.setZ {w : World} {B Z M : Nat} {zc : Array Value} {ns : List Nd} {vs : Nat → Value} {rs : Nat → List Rec} (h : Zr w B Z M zc ns vs rs) (o : Nat) (v : Value) (h0 : o ≠ 0) (h2 : o ≠ 2) : Zr (w.setCell ⟨Z, o, none⟩ v) B Z M (zc.setIfInBounds o v) ns vs rs := by
  have hne : ∀ {k : Nat} {x : Obj}, w.heap[k]? = some x → (∀ c f, x ≠ .cells c 48 f) → (w.setCell ⟨Z, o, none⟩ v).heap[k]? = some x := by
    intro k x hk hx
    rw [Below.heap_setCell _ _ _ _ (by
      show k ≠ Z
      rintro rfl
      rw [h.zone.1] at hk
      cases hk
      exact hx _ _ rfl)]
    exact hk
  obtain ⟨es, clock, hm, hi⟩ := h.map
  refine ⟨⟨heap_setCell_own h.zone.1, ?_, ?_⟩, ⟨es, clock, hne hm (by simp), hi⟩, h.wf, h.keys, fun n hn => hne (h.node n hn) (by simp), fun n hn => ?_, h.apart, h.ptrs, h.ge⟩
  · rw [Array.getElem?_setIfInBounds_ne h0]; exact h.zone.2.1
  · rw [Array.getElem?_setIfInBounds_ne h2]; exact h.zone.2.2
  · refine ownsRow_old (h.rows n hn) fun k hk => ?_
    obtain ⟨c, hc⟩ := ownsRow_typ (h.rows n hn) hk
    rw [hne hc (by simp), hc]
def soaRec : Rec := ⟨encL [com], 7, .soa 9⟩
/-- what a type's number says of a record: is it an SOA -/
def Dat.isSoa (d : Dat) : Bool :=
  match d.kind with
  | 0 => false
  | 1 => false
  | 2 => false
  | _ => true
/-- the records of a node that are no SOA -/
def plainR (l : List Rec) : List Rec := l.filter fun r => !r.d.isSoa
theorem m55 : ∀ v (w : World), (method 247 55 v "Type").run Yba.prog w = .ok (80, v) w := fun _ _ => by kernel_rfl
theorem m57 : ∀ v (w : World), (method 247 57 v "Type").run Yba.prog w = .ok (83, v) w := fun _ _ => by kernel_rfl
theorem m62 : ∀ v (w : World), (method 247 62 v "Type").run Yba.prog w = .ok (86, v) w := fun _ _ => by kernel_rfl
theorem m64 : ∀ v (w : World), (method 247 64 v "Type").run Yba.prog w = .ok (89, v) w := fun _ _ => by kernel_rfl
theorem typ_a (x a b c : Value) (w : World) : Calls Yba.prog 80 #[.agg #[x, a, b, c]] w fun e w' => e = .returned (.int .u16 1) ∧ ∃ o, w' = w.alloc o := by
  go_enter Yba.func80, Yba.ntmps80
  go_wp2
  go_ret
  exact ⟨rfl, _, rfl⟩
theorem typ_ns (x : Value) (w : World) : Calls Yba.prog 83 #[.agg #[x]] w fun e w' => e = .returned (.int .u16 2) ∧ ∃ o, w' = w.alloc o := by
  go_enter Yba.func83, Yba.ntmps83
  go_wp2
  go_ret
  exact ⟨rfl, _, rfl⟩
theorem typ_mx (x y : Value) (w : World) : Calls Yba.prog 86 #[.agg #[x, y]] w fun e w' => e = .returned (.int .u16 15) ∧ ∃ o, w' = w.alloc o := by
  go_enter Yba.func86, Yba.ntmps86
  go_wp2
  go_ret
  exact ⟨rfl, _, rfl⟩
theorem typ_soa (a b c d e f g : Value) (w : World) : Calls Yba.prog 89 #[.agg #[a, b, c, d, e, f, g]] w fun e w' => e = .returned (.int .u16 6) ∧ ∃ o, w' = w.alloc o := by
  go_enter Yba.func89, Yba.ntmps89
  go_wp2
  go_ret
  exact ⟨rfl, _, rfl⟩
/-- what the law expects: the SOA, then the other records, node by node -/
def expL (rs : Nat → List Rec) (l : List Nd) : List Rec := soaRec :: l.flatMap fun n => plainR (rs n.1)
theorem expL_succ (rs : Nat → List Rec) (l : List Nd) (n : Nd) : expL rs (l ++ [n]) = expL rs l ++ plainR (rs n.1) := by simp [expL]
theorem plainR_le (l : List Rec) : (plainR l).length ≤ l.length := List.length_filter_le _ _
theorem expL_le (rs : Nat → List Rec) (h : ∀ q, (rs q).length ≤ 300) : ∀ l : List Nd, (expL rs l).length ≤ 1 + 300 * l.length
  | [] => by simp [expL]
  | n :: l => by
    have ih := expL_le rs h l
    have h1 := plainR_le (rs n.1)
    have h2 := h n.1
    simp [expL] at ih ⊢
    omega
theorem cells_at : ∀ (l : List Rec) (j c : Nat) (h : j < l.length), c < 4 → (l.flatMap Rec.cells)[4 * j + c]? = (l[j].cells)[c]?
  | r :: l, 0, c, _, hc => by
    simp only [List.flatMap_cons, Nat.mul_zero, Nat.zero_add, List.getElem_cons_zero]
    rw [List.getElem?_append_left (by simp [Rec.cells]; omega)]
  | r :: l, j + 1, c, h, hc => by
    have ih := cells_at l j c (by simpa using h) hc
    simp only [List.flatMap_cons, List.getElem_cons_succ]
    rw [List.getElem?_append_right (by simp [Rec.cells]; omega), ← ih]
    congr 1
    simp [Rec.cells]
    omega
theorem plainR_take_succ (l : List Rec) (j : Nat) (h : j < l.length) : plainR (l.take (j + 1)) = plainR (l.take j) ++ (if l[j].d.isSoa then [] else [l[j]]) := by
  rw [List.take_succ_eq_append_getElem h, plainR, List.filter_append]
  congr 1
  cases hh : l[j].d.isSoa <;> simp [hh]
end Go.Proofs.Ybulkccao
