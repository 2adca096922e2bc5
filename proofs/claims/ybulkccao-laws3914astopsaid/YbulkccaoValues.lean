/- seat b3914a: maps.Values over the zone's nodes (24, 36) -/
import Derived.Test.YbulkccaoIter
import Derived.Shelf.SlIter.AllValues
namespace Go.Proofs.Ybulkccao
open Go Go.RowKit Go.Shelf Go.Maps Go.Sort Go.WideElems
attribute [local go_sem] Oper.semAt_some

/-- how a pointer to a node reads: its block -/
def R0 : Value → Option (DataW Unit × List MemPlace)
  | .pointer (some ⟨p, 0, none⟩) => some (.lit (.int .i64 p), [])
  | _ => none
def mkP (p : Nat) : Value := .pointer (some ⟨p, 0, none⟩)
theorem R0_mk (p : Nat) : R0 (mkP p) = some (.lit (.int .i64 p), []) := rfl
theorem R0_inv {v : Value} {y : DataW Unit × List MemPlace} (h : R0 v = some y) : ∃ c, v = mkP c := by
  unfold R0 at h
  split at h
  · exact ⟨_, rfl⟩
  · cases h

theorem key_mk (s : Bytes) (hs : s.length ≤ 300) : keyOf Yba.prog 9 (.string (bs s)) = some (.string s) := by
  simp only [keyOf, Yba.underlying9, mapKey]
  rw [if_pos (by rw [size_bs]; simp [maxLen]; omega)]
  simp [bs]


theorem mapIs_mem {es : Array MapEntry} {clock : Nat} {ns : List Nd} (h : MapIs es clock ns) {x : MapEntry} (hx : x ∈ es.toList) : ∃ n ∈ ns, x.key = .string (bs (nkey n.2)) ∧ x.val = mkP n.1 := by
  have : (x.key, x.val) ∈ ns.map nent := by rw [← h.ents]; exact List.mem_map.2 ⟨x, hx, rfl⟩
  obtain ⟨n, hn, e⟩ := List.mem_map.1 this
  simp only [nent, Prod.mk.injEq] at e
  exact ⟨n, hn, e.1.symm, e.2.symm⟩
theorem mapIs_entry {es : Array MapEntry} {clock : Nat} {ns : List Nd} (h : MapIs es clock ns) {n : Nd} (hn : n ∈ ns) : ∃ x ∈ es.toList, x.key = .string (bs (nkey n.2)) ∧ x.val = mkP n.1 := by
  have : nent n ∈ es.toList.map (fun e => (e.key, e.val)) := by rw [h.ents]; exact List.mem_map.2 ⟨n, hn, rfl⟩
  obtain ⟨x, hx, e⟩ := List.mem_map.1 this
  simp only [nent, Prod.mk.injEq] at e
  exact ⟨x, hx, e.1, e.2⟩

theorem owns_nodes {w : World} {M clock : Nat} {es : Array MapEntry} {ns : List Nd} (hb : w.heap[M]? = some (.map es clock)) (h : MapIs es clock ns) (hl : ns.length ≤ 901) (hk : ∀ n ∈ ns, (nkey n.2).length ≤ 300) :
    w.ownsMap Yba.prog 9 R0 M 901 (.map ((es.toList.map (rg Yba.prog 9 R0)).foldr DataW.insert [])) := by
  have hsz : es.size = ns.length := by
    have := congrArg List.length h.ents
    simpa using this
  refine ⟨es, clock, hb, ⟨by simp [maxLen]; omega, h.st, fun x hx => ?_⟩, by omega, rfl⟩
  obtain ⟨n, hn, hkx, hvx⟩ := mapIs_mem h hx
  exact ⟨(.string (nkey n.2), .lit (.int .i64 n.1)), by rw [rd, hkx, hvx, key_mk _ (hk n hn), R0_mk]; rfl⟩

set_option maxRecDepth 100000 in
theorem values_run (M : Nat) (w : World) : Calls Yba.prog 24 #[.map (some M)] w fun e w' => e = .returned (.func (.func 36) #[] #[.pointer (some ⟨w.heap.size, 0, none⟩)]) ∧ w' = w.alloc (.cells #[.map (some M)] 43) := by
  go_enter Yba.func24, Yba.ntmps24
  go_wp2
  go_ret
  exact ⟨rfl, rfl⟩
set_option maxRecDepth 100000 in
theorem nodes_run (Z M : Nat) (w : World) (c2 : w.cell? ⟨Z, 2, none⟩ = some (.map (some M))) : Calls Yba.prog 11 #[.pointer (some ⟨Z, 0, none⟩)] w fun e w' => e = .returned (.func (.func 36) #[] #[.pointer (some ⟨w.heap.size, 0, none⟩)]) ∧ w' = w.alloc (.cells #[.map (some M)] 43) := by
  go_enter Yba.func11, Yba.ntmps11
  go_wp2_with (go_at_call 24; refine (values_run M _).mono ?_; rintro e w' ⟨rfl, hw'⟩; subst hw')
  go_ret
  exact ⟨rfl, rfl⟩

theorem keyInj : ∀ {l : List Nd}, (l.Pairwise fun a b => nkey a.2 ≠ nkey b.2) → ∀ {a b : Nd}, a ∈ l → b ∈ l → nkey a.2 = nkey b.2 → a = b
  | [], _, _, _, h, _, _ => by simp at h
  | x :: l, h, a, b, ha, hb, e => by
    rw [List.pairwise_cons] at h
    simp only [List.mem_cons] at ha hb
    rcases ha with rfl | ha <;> rcases hb with rfl | hb
    · rfl
    · exact absurd e (h.1 b hb)
    · exact absurd e.symm (h.1 a ha)
    · exact keyInj h.2 ha hb e
theorem nodupKeys : ∀ {l : List Nd}, (l.Pairwise fun a b => nkey a.2 ≠ nkey b.2) → l.Nodup
  | [], _ => by simp
  | x :: l, h => by
    rw [List.pairwise_cons] at h
    rw [List.nodup_cons]
    exact ⟨fun hx => h.1 x hx rfl, nodupKeys h.2⟩
theorem nodup_of_map {f : Nd → Bytes} {l : List Nd} (h : (l.map f).Nodup) : l.Nodup := by
  induction l with
  | nil => simp
  | cons a l ih =>
    simp only [List.map_cons, List.nodup_cons] at h ⊢
    exact ⟨fun ha => h.1 (List.mem_map.2 ⟨a, ha, rfl⟩), ih h.2⟩
set_option maxRecDepth 100000 in
set_option maxHeartbeats 2000000 in
theorem seq36_in (F : Fence) (n : Nat) (h8 : F.fn 36) (hro : F.round = none) (hn : 1 ≤ n) (l Bm M clock : Nat) (es : Array MapEntry) (ns : List Nd) (hmi : MapIs es clock ns) (hl : ns.length ≤ 901) (hk : ∀ n ∈ ns, (nkey n.2).length ≤ 300) (hkeys : ns.Pairwise fun a b => nkey a.2 ≠ nkey b.2)
    (J Jx : List { n : Nd // n ∈ ns } → World → Prop)
    (hY : ∀ pre x W, J pre W → pre.length < ns.length → YieldAt F (n - 1) Yba.prog l #[nptr x.1] W fun e W' =>
      (e = .returned (.bool true) ∧ J (pre ++ [x]) W' ∧ KeepsWalks W W') ∨ (e = .returned (.bool false) ∧ Jx (pre ++ [x]) W'))
    (W : World) (hJ : AbidesFrom W.heap.size J) (hm : W.cell? ⟨Bm, 0, none⟩ = some (.map (some M))) (hb : W.heap[M]? = some (.map es clock)) (h0 : J [] W) :
    CallsIn F n Yba.prog 36 #[.func (.yield l) #[] #[], .pointer (some ⟨Bm, 0, none⟩)] W fun e W' => (∃ v, e = .returned v) ∧
      ((∃ xs : List { n : Nd // n ∈ ns }, (xs.map (·.1)).Perm ns ∧ J xs W') ∨ (∃ pre : List { n : Nd // n ∈ ns }, True ∧ Jx pre W')) := by
  have hown := owns_nodes hb hmi hl hk
  have hesz : es.size = ns.length := by
    have := congrArg List.length hmi.ents
    simpa using this
  refine callsIn_of_wp Yba.func36 rfl h8 ?_ hro
  simp only [Yba.ntmps36, List.size_toArray, List.length_cons, List.length_nil, Nat.reduceAdd, Nat.reduceSub, Array.replicate_succ, Array.replicate_zero, List.push_toArray, List.append_toArray, List.nil_append, List.cons_append]
  gi_wp2_with (first
    | (gi_at_range; refine wpListIn_range_own _ rfl _ 43 rfl 9 42 (string_keyed Yba.underlying9) Yba.underlying43 _ M 901 _ rfl hown ?_; intro w0 hrg0 hg0 hs0)
    | gi_in)
  have hval : ∀ (n : Nd), n ∈ ns → ∀ zd, (DataW.map ((es.toList.map (rg Yba.prog 9 R0)).foldr DataW.insert [])).atKey (.string (nkey n.2)) zd = .lit (.int .i64 n.1) := fun n hn zd => by
    obtain ⟨x, hx, hkx, hvx⟩ := mapIs_entry hmi hn
    obtain ⟨es', clock', hb', Ft, _⟩ := hown
    rw [hb] at hb'
    cases hb'
    exact atKey_some (WideMaps.string_law Yba.underlying9) Ft (key_mk _ (hk n hn)) hx hkx (by rw [hvx]; exact R0_mk _) zd
  have hhas : ∀ kl, has (DataW.map ((es.toList.map (rg Yba.prog 9 R0)).foldr DataW.insert [])) kl = true → ∃ n ∈ ns, kl = .string (nkey n.2) := fun kl hkl => by
    obtain ⟨p, hp, hpk⟩ := List.any_eq_true.1 hkl
    obtain ⟨x, hx, rfl⟩ := List.mem_map.1 (mem_sorted.1 hp)
    obtain ⟨n, hn, hkx, hvx⟩ := mapIs_mem hmi hx
    refine ⟨n, hn, ?_⟩
    have hr : rg Yba.prog 9 R0 x = (.string (nkey n.2), .lit (.int .i64 n.1)) := by
      rw [rg, rd, hkx, hvx, key_mk _ (hk n hn), R0_mk]; rfl
    rw [hr] at hpk
    exact (WideAt.sameKey_eq hpk).symm
  go_frame
  gi_loopw [4] (fun _ wr => ∃ (left : Lit → Bool) (cnt : Nat) (pre : List { n : Nd // n ∈ ns }), wr.ranges Yba.prog 9 R0 M W.heap.size 901 (.map ((es.toList.map (rg Yba.prog 9 R0)).foldr DataW.insert [])) left cnt ∧ pre.length + cnt ≤ ns.length ∧ Collected (.map ((es.toList.map (rg Yba.prog 9 R0)).foldr DataW.insert [])) left (pre.map fun n => nkey n.1.2) ∧ J pre wr)
    (fun _ wr => wr.rangeLeft M W.heap.size)
  case atStart =>
    exact ⟨_, _, [], hrg0, by simp [Maps.size, length_sorted, hesz], Collected.start _, hJ [] W w0 none h0 hg0 (fun r e => by cases e)⟩
  case round =>
    obtain ⟨left, cnt, pre, hrg, hcn, hC, hJs⟩ := hrel
    have hsub : (pre.map (·.1)).Nodup := by
      have h1 := hC.1
      rw [show (pre.map fun n => nkey n.1.2) = (pre.map (·.1)).map (fun n => nkey n.2) by simp] at h1
      exact nodup_of_map h1
    gi_wp2_with (first
      | (gi_at_next; refine wpListIn_next_ranges _ rfl _ rfl 9 (string_keyed Yba.underlying9) R0 encStr mkP (fun key kl hkk => by obtain ⟨x, hx, _⟩ := Maps.keyOf_str Yba.underlying9 hkk; exact ⟨x, hx⟩) (fun v y hv => R0_inv hv) M W.heap.size 901 _ _ _ rfl hrg ?_ ?_)
      | gi_in)
    · intro hc0 hl0
      gi_wp2
      go_end0
      refine ⟨⟨_, rfl⟩, .inl ⟨pre, ?_, hJs⟩⟩
      have hnsn : ns.Nodup := nodupKeys hkeys
      refine (List.perm_ext_iff_of_nodup hsub hnsn).2 fun n => ⟨fun h => ?_, fun h => ?_⟩
      · obtain ⟨m, _, rfl⟩ := List.mem_map.1 h
        exact m.2
      · have h1 := (hC.2 (nkey n.2)).2 ⟨has_true_of_atKey (hval n h), hl0 _⟩
        obtain ⟨m, hm, e⟩ := List.mem_map.1 h1
        exact List.mem_map.2 ⟨m, hm, keyInj hkeys m.2 h e⟩
    · intro x c kl yd yp w2 cnt2 hkey hlk hv hat hrg2 hlt hg2 hs2 hen
      obtain ⟨x', ex, rfl, _⟩ := Maps.keyOf_str Yba.underlying9 hkey
      obtain rfl : x = x' := encStr_inj ex
      obtain ⟨nd, hnd, e1⟩ := hhas _ (has_true_of_atKey hat)
      simp only [Lit.string.injEq] at e1
      subst e1
      rw [R0_mk] at hv
      have hc : c = nd.1 := by
        have h1 := hat (.lit (.int .i64 0))
        rw [hval nd hnd] at h1
        have h2 := congrArg (fun z => z.map Prod.fst) hv
        simp at h2
        rw [← h2] at h1
        simp at h1
        omega
      subst hc
      have hJ2 : J pre w2 := hJ _ wr w2 (some W.heap.size) hJs hg2 (fun r e => by cases e; exact ⟨Nat.le_refl _, hrg.iter_walk⟩)
      have hpl : pre.length < ns.length := by omega
      obtain ⟨fn, tmps, assign, body, hy, hR⟩ := hY pre ⟨nd, hnd⟩ w2 hJ2 hpl
      simp only [nptr] at hy
      simp only [mkP] at hen ⊢
      clear hs2
      gi_wp2
      refine hR.mono ?_
      have hC2 : Collected (.map ((es.toList.map (rg Yba.prog 9 R0)).foldr DataW.insert [])) (fun z => left z && !z.sameKey (.string (nkey nd.2))) ((pre ++ [(⟨nd, hnd⟩ : { n : Nd // n ∈ ns })]).map fun n : { n : Nd // n ∈ ns } => nkey n.1.2) := by simpa using hC.step hlk hat
      rintro e W3 (⟨rfl, hJ3, hk3⟩ | ⟨rfl, hJx3⟩)
      · gi_wp2
        have hrg3 := hrg2.of_walks hk3
        go_roundw
        case rel => exact ⟨_, cnt2, pre ++ [⟨nd, hnd⟩], hrg3, by simp; omega, hC2, hJ3⟩
        case measure => rw [hrg3.left_eq, hrg.left_eq]; exact hlt
      · gi_wp2
        refine bodyPost_ret (results_none rfl _ _ _) rfl ?_
        exact ⟨⟨_, rfl⟩, .inr ⟨_, trivial, hJx3⟩⟩
end Go.Proofs.Ybulkccao
