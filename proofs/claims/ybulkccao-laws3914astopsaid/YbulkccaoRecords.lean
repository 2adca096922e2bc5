/- seat b3914a: (*Zone).records: its iterator (32) -/
import Derived.Test.YbulkccaoSets
import Derived.Stop.RegionWithIn
namespace Go.Proofs.Ybulkccao
open Go Go.RowKit Go.Shelf
attribute [local go_sem] Oper.semAt_some

def Rec.enc (r : Rec) : Array Value := #[.agg r.cells.toArray]

/-- what one round of the law's loop does -/
def RoundOk (n₀ b : Nat) (J Jx : List Rec → World → Prop) (l : Nat) : Prop :=
  ∀ (m : Nat) (pre : List Rec) (x : Rec) (W1 : World), J pre W1 → b ≤ W1.heap.size → n₀ ≤ W1.heap.size → YieldAt Fence.wide m Yba.prog l x.enc W1 fun e W' =>
    ∃ go : Bool, e = .returned (.bool go) ∧ (go = true → J (pre ++ [x]) W') ∧ (go = false → Jx (pre ++ [x]) W') ∧ KpC n₀ W1 W' ∧ KeepsFrom b W1 W'

/-- what lies below n₀: the zone's record, the nodes, their rows -/
structure Low (W : World) (n₀ Z : Nat) (x : Value) (M : Nat) (ss : List Nd) (rs : Nat → List Rec) : Prop where
  zone : Z < n₀ ∧ W.heap[Z]? = some (.cells (zcells x M soaRec.cells.toArray) 48 (0, 0))
  nodes : ∀ n ∈ ss, ∃ g cap, ∀ Bx W', (∀ k, k < n₀ → W'.heap[k]? = W.heap[k]?) → W'.heap[Bx]? = some (.cells #[.pointer (some ⟨n.1, 0, none⟩)] 42 (0, 0)) → NodeAt W' n₀ Bx n.1 g cap (rs n.1)
  few : ∀ q, (rs q).length ≤ 300

theorem rrtype_run (r : Rec) (w : World) : Calls Yba.prog 34 #[.agg r.cells.toArray] w fun e w' => e = .returned (.int .u16 r.d.typ) ∧ Below w.heap.size w w' := by
  obtain ⟨nm, ttl, d⟩ := r
  obtain ⟨T, x, fn, hdv, hm, hen, hcall⟩ := typ_any d
  simp only [Rec.cells, hdv]
  go_enter Yba.func34, Yba.ntmps34
  go_wp2_with (refine (hcall _).mono ?_; rintro e w' ⟨rfl, o, hw'⟩; subst hw')
  go_ret
  exact ⟨rfl, ((Below.refl _ w).alloc (Nat.le_refl _) _).alloc (by simp) _⟩
theorem sets_run (n : Nat) (w : World) : Calls Yba.prog 33 #[.pointer (some ⟨n, 0, none⟩)] w fun e w' => e = .returned (.func (.func 50) #[] #[.pointer (some ⟨w.heap.size, 0, none⟩)]) ∧ w' = w.alloc (.cells #[.pointer (some ⟨n, 0, none⟩)] 42) := by
  go_enter Yba.func33, Yba.ntmps33
  go_wp2
  go_ret
  exact ⟨rfl, rfl⟩

theorem flat_prefix {a b : List Nd} {f : Nd → List Rec} {s : Rec} (h : a <+: b) : (s :: a.flatMap f) <+: (s :: b.flatMap f) := by
  obtain ⟨c, rfl⟩ := h
  exact ⟨c.flatMap f, by simp⟩
theorem plainR_prefix {a b : List Rec} (h : a <+: b) : plainR a <+: plainR b := by
  obtain ⟨c, rfl⟩ := h
  exact ⟨plainR c, by simp [plainR]⟩
theorem plainR_flat {rl : List Rec} (l : List (Run rl)) : l.flatMap (fun r => plainR r.recs) = plainR (l.flatMap Run.recs) := by
  induction l with
  | nil => simp [plainR]
  | cons r l ih => simp [plainR] at ih ⊢; rw [ih]
theorem Run.at {rl : List Rec} (r : Run rl) (j : Nat) (h : j < r.recs.length) : ∃ h' : r.1.1 + j < rl.length, rl[r.1.1 + j] = r.recs[j] := by
  have h1 := r.2.1
  have h2 : ((rl.drop r.1.1).take r.1.2.length)[j]? = r.1.2[j]? := by rw [h1]
  have hj : j < r.1.2.length := h
  rw [List.getElem?_take_of_lt hj, List.getElem?_drop, List.getElem?_eq_getElem hj] at h2
  obtain ⟨h3, h4⟩ := List.getElem?_eq_some_iff.1 h2
  exact ⟨h3, h4⟩

theorem KpC.turn {n₀ : Nat} {A B : World} {row : Option Nat} (hg : A.grownBy B row) (hn : n₀ ≤ A.heap.size) (hr : ∀ r, row = some r → n₀ ≤ r ∧ ∃ o : Obj, A.heap[r]? = some o ∧ o.isCells = false) : KpC n₀ A B := by
  refine ⟨hg.size, fun k hk => hg.block k (by omega) (fun e => ?_), fun k c t f hk _ _ => (hg.block k (Array.getElem?_eq_some_iff.1 hk).1 (fun e => ?_)).trans hk⟩
  · have := (hr k e.symm).1; omega
  · obtain ⟨_, o, ho, hc⟩ := hr k e.symm
    rw [ho] at hk
    cases hk
    simp [Obj.isCells] at hc

theorem cell_eq {v : World} {b k : Nat} {cs : Array Value} {t : TypeId} {f : Nat × Nat} (h : v.heap[b]? = some (.cells cs t f)) : v.cell? ⟨b, k, none⟩ = cs[k]? := by
  simp [World.cell?, h]
theorem KpC.of_below {n₀ : Nat} {W W' : World} (h : Below W.heap.size W W') (hn : n₀ ≤ W.heap.size) : KpC n₀ W W' :=
  ⟨h.size, fun k hk => h.block k (by omega), fun k c t f hk _ _ => (h.block k (Array.getElem?_eq_some_iff.1 hk).1).trans hk⟩
theorem keepsFrom_of_below {B : Nat} {W W' : World} (h : Below W.heap.size W W') : KeepsFrom B W W' :=
  ⟨h.size, fun k _ _ hk _ => (h.block k (Array.getElem?_eq_some_iff.1 hk).1).trans hk⟩
theorem plainR_run {ys : List Rec} {t : Nat} (h : ∀ x ∈ ys, x.d.typ = t) : plainR ys = if t = 6 then [] else ys := by
  by_cases ht : t = 6
  · rw [if_pos ht, plainR, List.filter_eq_nil_iff]
    intro a ha
    have := (a.d.typ_soa).1 ((h a ha).trans ht)
    simp [this]
  · rw [if_neg ht, plainR, List.filter_eq_self]
    intro a ha
    have : a.d.isSoa ≠ true := fun e => ht ((h a ha).symm.trans ((a.d.typ_soa).2 e))
    simpa using this

/-- what stays while the nodes are walked -/
def Env (w : World) (n₀ By l : Nat) (W : World) : Prop := W.heap[By]? = some (.cells #[.func (.yield l) #[] #[]] 96 (0, 0)) ∧ (∀ k, k < n₀ → W.heap[k]? = w.heap[k]?) ∧ w.heap.size ≤ W.heap.size

theorem Env.own {w : World} {n₀ By l : Nat} {W W' : World} {row : Option Nat} (h : Env w n₀ By l W) (hg : W.grownBy W' row) (hBy : By < w.heap.size) (hn : n₀ ≤ w.heap.size) (hr : ∀ r, row = some r → w.heap.size ≤ r ∧ ∃ o : Obj, W.heap[r]? = some o ∧ o.isCells = false) : Env w n₀ By l W' := by
  refine ⟨(hg.block By (Nat.lt_of_lt_of_le hBy h.2.2) (fun e => ?_)).trans h.1, fun k hk => (hg.block k (by have := h.2.2; omega) (fun e => ?_)).trans (h.2.1 k hk), Nat.le_trans h.2.2 hg.size⟩
  · have := (hr By e.symm).1; omega
  · have := (hr k e.symm).1; omega
theorem Env.kp {w : World} {n₀ By l : Nat} {W W' : World} (h : Env w n₀ By l W) (hk : KpC n₀ W W') : Env w n₀ By l W' :=
  ⟨hk.same _ _ _ _ h.1 (by decide) (by decide), fun k hk' => (hk.low k hk').trans (h.2.1 k hk'), Nat.le_trans h.2.2 hk.size⟩

set_option maxRecDepth 100000 in
set_option maxHeartbeats 4000000 in
theorem seq32_in (n : Nat) (hn6 : 6 ≤ n) (l n₀ Z M Bz Bn Bs g cap : Nat) (x0 : Value) (ss : List Nd) (rs : Nat → List Rec) (hss : ss.length ≤ 1000) (J Jx : List Rec → World → Prop)
    (W : World) (hW0 : n₀ ≤ W.heap.size) (hJ : OwnFrom W.heap.size J) (hJx : OwnFrom W.heap.size Jx) (hY : RoundOk n₀ W.heap.size J Jx l)
    (hLow : Low W n₀ Z x0 M ss rs) (hS : SortedAt W Bs g cap ss)
    (hz : W.heap[Bz]? = some (.cells #[.pointer (some ⟨Z, 0, none⟩)] 25 (0, 0))) (hn : W.heap[Bn]? = some (.cells #[.func (.func 17) #[] #[.pointer (some ⟨Bs, 0, none⟩)]] 70 (0, 0)))
    (h0 : J [] W) :
    CallsIn Fence.wide n Yba.prog 32 #[.func (.yield l) #[] #[], .pointer (some ⟨Bz, 0, none⟩), .pointer (some ⟨Bn, 0, none⟩)] W fun e W' => (∃ v, e = .returned v) ∧
      (J (soaRec :: ss.flatMap fun n => plainR (rs n.1)) W' ∨ ∃ pre, pre <+: (soaRec :: ss.flatMap fun n => plainR (rs n.1)) ∧ Jx pre W') := by
  refine callsIn_of_wp_marks Yba.func32 rfl trivial ?_ rfl
  simp only [Yba.ntmps32, List.size_toArray, List.length_cons, List.length_nil, Nat.reduceAdd, Nat.reduceSub, Array.replicate_succ, Array.replicate_zero, List.push_toArray, List.append_toArray, List.nil_append, List.cons_append]
  gi_wp2
  have hg1 : ∀ k, k < W.heap.size → (W.alloc (Obj.cells #[Value.func (Fn.yield l) #[] #[]] 96)).heap[k]? = W.heap[k]? := fun k hk => Below.heap_alloc _ _ k hk
  have hY1 : (W.alloc (Obj.cells #[Value.func (Fn.yield l) #[] #[]] 96)).heap[W.heap.size]? = some (.cells #[.func (.yield l) #[] #[]] 96 (0, 0)) := World.alloc_heap_new W _
  have hz1 := (hg1 Bz (Array.getElem?_eq_some_iff.1 hz).1).trans hz
  have hn1 := (hg1 Bn (Array.getElem?_eq_some_iff.1 hn).1).trans hn
  have hZ1 := (hg1 Z (Array.getElem?_eq_some_iff.1 hLow.zone.2).1).trans hLow.zone.2
  have hJ1 : J [] (W.alloc (Obj.cells #[Value.func (Fn.yield l) #[] #[]] 96)).drew := hJ _ W _ none h0 ⟨rfl, rfl, rfl, by simp, fun k hk _ => hg1 k hk⟩ (fun r e => by cases e)
  have hsz1 : (W.alloc (Obj.cells #[Value.func (Fn.yield l) #[] #[]] 96)).heap.size = W.heap.size + 1 := by simp
  have hS1 := hS.grown hg1
  have hg1' : ∀ k, k < n₀ → (W.alloc (Obj.cells #[Value.func (Fn.yield l) #[] #[]] 96)).heap[k]? = W.heap[k]? := fun k hk => hg1 k (by omega)
  generalize W.alloc (Obj.cells #[Value.func (Fn.yield l) #[] #[]] 96) = W1 at *
  have cY : W1.cell? ⟨W.heap.size, 0, none⟩ = some (.func (.yield l) #[] #[]) := cell_blk hY1 rfl
  have cz : W1.cell? ⟨Bz, 0, none⟩ = some (.pointer (some ⟨Z, 0, none⟩)) := cell_blk hz1 rfl
  have c3 : W1.cell? ⟨Z, 3, none⟩ = some (.string (bs (encL [com]))) := cell_blk hZ1 rfl
  have c4 : W1.cell? ⟨Z, 4, none⟩ = some (.int .u16 0) := cell_blk hZ1 rfl
  have c5 : W1.cell? ⟨Z, 5, none⟩ = some (.int .u32 7) := cell_blk hZ1 rfl
  have c6 : W1.cell? ⟨Z, 6, none⟩ = some (Dat.soa 9).val := cell_blk hZ1 rfl
  obtain ⟨fn, tmps, assign, body, hy, hR⟩ := hY (n - 1) [] soaRec _ hJ1 (by simp; omega) (by simp; omega)
  change (Instr.yield l #[Value.agg #[.string (bs (encL [com])), .int .u16 0, .int .u32 7, (Dat.soa 9).val]]).run Yba.prog W1.drew = _ at hy
  have hsz2 : W.heap.size ≤ W1.heap.size := by omega
  clear hsz1
  refine wpIn_mono (Q := fun e a' w' => match e with
    | .normal => ∃ go : Bool, a' = { tmps := #[Value.func (Fn.yield l) #[] #[], Value.pointer (some ⟨Bz, 0, none⟩), Value.pointer (some ⟨Bn, 0, none⟩), Value.pointer (some ⟨W.heap.size, 0, none⟩), undef, undef, undef, undef, Value.func (Fn.yield l) #[] #[], Value.pointer (some ⟨Z, 0, none⟩), Value.pointer (some ⟨Z, 0, none⟩), Value.pointer (some ⟨Z, 3, none⟩), Value.agg #[Value.string (bs (encL [com])), Value.int IntKind.u16 0, Value.int IntKind.u32 7, (Dat.soa 9).val], Value.bool go, Value.bool !go, undef, undef, undef, undef, undef, undef, undef, undef, undef, undef, undef, undef, undef, undef, undef, undef, undef, undef, undef, undef, undef], defers := [] } ∧
        (go = true → J [soaRec] w') ∧ (go = false → Jx [soaRec] w') ∧ KpC n₀ W1.drew w' ∧ KeepsFrom W.heap.size W1.drew w'
    | _ => False) ?_ ?_
  · gi_region_with (refine ⟨(fun h => by cases h), ?_⟩; refine hR.mono ?_; rintro e W3 ⟨go, rfl, hgo1, hgo2, hk3, hf3⟩)
    all_goals exact ⟨go, rfl, hgo1, hgo2, hk3, hf3⟩
  · intro e a' w' h
    cases e with
    | normal =>
      obtain ⟨go, rfl, hgo1, hgo2, hk30, hf3⟩ := h
      have hk3 : KpC n₀ W1 w' := ⟨hk30.size, hk30.low, hk30.same⟩
      clear hk30
      dsimp only
      obtain ⟨T, hT⟩ : ∃ T, (soaRec :: ss.flatMap fun n => plainR (rs n.1)) = T := ⟨_, rfl⟩
      have hT1 : [soaRec] <+: T := ⟨_, by rw [← hT]; rfl⟩
      cases go with
      | false =>
        gi_wp2
        refine ⟨_, results_none rfl _ _ _, ?_⟩
        exact ⟨⟨_, rfl⟩, .inr ⟨_, hT1, hgo2 trivial⟩⟩
      | true =>
        have hJ2 := hgo1 rfl
        have hY2 := hk3.same _ _ _ _ hY1 (by decide) (by decide)
        have hn2 := hk3.same _ _ _ _ hn1 (by decide) (by decide)
        have hS2 := hS1.kept hk3
        have hs1 := hk3.size
        have hWs : W.heap.size ≤ w'.heap.size := by omega
        have hs2 : n₀ ≤ w'.heap.size := by omega
        have hlow2 : ∀ k, k < n₀ → w'.heap[k]? = W.heap[k]? := fun k hk => (hk3.low k hk).trans (hg1' k hk)
        clear hy hR hJ1 hgo1 hgo2 hk3 hf3 c3 c4 c5 c6 cz cY hZ1 hn1 hz1 hY1 hg1 hg1' hS1
        have cn : w'.cell? ⟨Bn, 0, none⟩ = some (.func (.func 17) #[] #[.pointer (some ⟨Bs, 0, none⟩)]) := cell_blk hn2 rfl
        gi_wp2
        have hk1 : 1 ≤ n := by omega
        have hByl : W.heap.size < w'.heap.size := (Array.getElem?_eq_some_iff.1 hY2).1
        have hn2' : 1 ≤ n - 1 := by omega
        refine wpIn_rangeFunc_ownH (F := Fence.wide) rfl hk1 (gf := 17) (lb := #[.pointer (some ⟨Bs, 0, none⟩)]) rfl trivial (enters_of Yba.func17 (by kernel_rfl) rfl)
          (encs := fun x : { n : Nd // n ∈ ss } => #[nptr x.1]) (Kp := KpC n₀) (S := fun xs => xs.map (·.1) = ss) (Sp := fun pre => pre.map (·.1) <+: ss) (N := ss.length) (w0 := w')
          (fun l' J' Jx' W' hW' hJ' _ hY' h0' => seq17_in Fence.wide (n - 1) trivial rfl hn2' l' Bs g cap n₀ ss hss J' Jx' W' hJ' hY' (hS2.grown hW'.block) h0')
          (fun h k => h.trans k) (fun W' l' o o' hl ho hc _ => KpC.put hs2 W' l' o o' hl ho hc) (Below.refl _ _) (fun _ => rfl)
          (fun pre W' => J (soaRec :: (pre.map (·.1)).flatMap fun n => plainR (rs n.1)) W' ∧ Env w' n₀ W.heap.size l W')
          (fun c pre W' => c = .ret ∧ ∃ q, q <+: (soaRec :: (pre.map (·.1)).flatMap fun n => plainR (rs n.1)) ∧ Jx q W')
          ?hI ?hIx ⟨by simpa using hJ2, hY2, fun _ _ => rfl, Nat.le_refl _⟩
          (fun x a' _ => a' = { tmps := #[Value.func (Fn.yield l) #[] #[], Value.pointer (some ⟨Bz, 0, none⟩), Value.pointer (some ⟨Bn, 0, none⟩), Value.pointer (some ⟨W.heap.size, 0, none⟩), Value.pointer (some ⟨x.1.1, 0, none⟩), undef, undef, undef, Value.func (Fn.yield l) #[] #[], Value.pointer (some ⟨Z, 0, none⟩), Value.pointer (some ⟨Z, 0, none⟩), Value.pointer (some ⟨Z, 3, none⟩), Value.agg #[Value.string (bs (encL [com])), Value.int IntKind.u16 0, Value.int IntKind.u32 7, (Dat.soa 9).val], Value.bool true, Value.bool !true, Value.func (Fn.func 17) #[] #[Value.pointer (some ⟨Bs, 0, none⟩)], Value.pointer (some ⟨x.1.1, 0, none⟩), undef, undef, undef, undef, undef, undef, undef, undef, undef, undef, undef, undef, undef, undef, undef, undef, undef, undef, undef], defers := [] })
          (fun _ _ _ _ _ _ hs _ _ => hs)
          ?assign ?body ?done ?stop
        case hI =>
          intro s A B row hs hg hr
          exact ⟨hJ _ A B row hs.1 hg (fun r e => ⟨by have := (hr r e).1; omega, (hr r e).2⟩), hs.2.own hg hByl hs2 hr⟩
        case hIx =>
          intro c s A B row hs hg hr
          obtain ⟨rfl, q, hq, hJq⟩ := hs
          exact ⟨rfl, q, hq, hJx _ A B row hJq hg (fun r e => ⟨by have := (hr r e).1; omega, (hr r e).2⟩)⟩
        case assign =>
          rintro l' pre x W' K hi hK
          gi_wp2
          exact hK _ _ (KeepsFrom.refl _ _) (KpC.refl _ _) hi rfl
        case body =>
          rintro l' pre x a' Wr hl ⟨r, hr⟩ ⟨hJr, hEr⟩ rfl hlt
          obtain ⟨gx, cx, hnode⟩ := hLow.nodes x.1 x.2
          have h1' : 1 ≤ n - 1 - 1 := by omega
          have hn3 : 1 ≤ n - 1 - 1 - 1 := by omega
          gi_wp2_with (refine ⟨trivial, ?_⟩; gi_at_call 33; refine (CallsIn.inRound l' (callsIn_wide.2 (sets_run x.1.1 _))).mono ?_; rintro e w5 ⟨rfl, rfl⟩)
          have hrs := hLow.few x.1.1
          obtain ⟨rl, hrl⟩ : ∃ rl, rs x.1.1 = rl := ⟨_, rfl⟩
          have hsr := hEr.2.2
          have hN5 : NodeAt (Wr.alloc (Obj.cells #[Value.pointer (some ⟨x.1.1, 0, none⟩)] 42)) n₀ Wr.heap.size x.1.1 gx cx (rs x.1.1) := hnode _ _ (fun k hk => by
            rw [Below.heap_alloc _ _ k (by omega), hEr.2.1 k hk, hlow2 k hk]) (World.alloc_heap_new Wr _)
          rw [hrl] at hN5 hrs
          have hr' : (Wr.alloc (Obj.cells #[Value.pointer (some ⟨x.1.1, 0, none⟩)] 42)).heap[l']? = some (.loop r) := (Below.heap_alloc Wr _ l' (Array.getElem?_eq_some_iff.1 hr).1).trans hr
          obtain ⟨L0, hL0⟩ : ∃ L0, (soaRec :: (pre.map (·.1)).flatMap fun n => plainR (rs n.1)) = L0 := ⟨_, rfl⟩
          have hL1 : (soaRec :: ((pre ++ [x]).map (·.1)).flatMap fun n => plainR (rs n.1)) = L0 ++ plainR rl := by rw [← hL0, ← hrl]; simp
          rw [hL0] at hJr
          have hJ5 : J L0 (Wr.alloc (Obj.cells #[Value.pointer (some ⟨x.1.1, 0, none⟩)] 42)) := hJ _ Wr _ none hJr (World.grownBy_alloc _ _ _) (fun r e => by cases e)
          have hE5 : Env w' n₀ W.heap.size l (Wr.alloc (Obj.cells #[Value.pointer (some ⟨x.1.1, 0, none⟩)] 42)) := hEr.own (World.grownBy_alloc _ _ none) hByl hs2 (fun r e => by cases e)
          have hK5 : KpC n₀ Wr (Wr.alloc (Obj.cells #[Value.pointer (some ⟨x.1.1, 0, none⟩)] 42)) := KpC.alloc _ _ (by omega) _
          have hF5 : KeepsFrom w'.heap.size Wr (Wr.alloc (Obj.cells #[Value.pointer (some ⟨x.1.1, 0, none⟩)] 42)) := (KeepsOthers.alloc _ _).from _
          have hs5 : Wr.heap.size ≤ (Wr.alloc (Obj.cells #[Value.pointer (some ⟨x.1.1, 0, none⟩)] 42)).heap.size := by simp
          generalize Wr.alloc (Obj.cells #[Value.pointer (some ⟨x.1.1, 0, none⟩)] 42) = W5 at hN5 hr' hJ5 hE5 hK5 hF5 hs5 ⊢
          refine wpIn_rangeFunc_ownN (F := Fence.wide.inRound l') (l₀ := l') (r₀ := r) rfl hr' h1' (gf := 50) (lb := #[.pointer (some ⟨Wr.heap.size, 0, none⟩)]) rfl trivial (enters_of Yba.func50 (by kernel_rfl) rfl)
            (encs := Run.enc gx) (Kp := KpC n₀) (S := fun xs : List (Run rl) => xs.flatMap Run.recs = rl) (Sp := fun pre => pre.flatMap Run.recs <+: rl) (N := rl.length) (w0 := W5)
            (SeqStopsK.inRound l' (fun l2 J' Jx' W' hW' hJ' _ hY' h0' => seq50_in (n - 1 - 1 - 1) hn3 l2 n₀ Wr.heap.size x.1.1 gx cx rl hrs J' Jx' W' hJ' hY' (hN5.grown hW'.block) (by have := hW'.size; omega) h0'))
            (fun h k => h.trans k) (fun W' l2 ob o' hl ho hc _ => KpC.put (by omega) W' l2 ob o' hl ho hc) (Below.refl _ _) (fun _ => rfl)
            (fun pre2 W' => J (L0 ++ pre2.flatMap fun r => plainR r.recs) W' ∧ Env w' n₀ W.heap.size l W' ∧ KpC n₀ Wr W' ∧ KeepsFrom w'.heap.size Wr W')
            (fun c pre2 W' => c = .ret ∧ (∃ q, q <+: (L0 ++ pre2.flatMap fun r => plainR r.recs) ∧ Jx q W') ∧ KeepsFrom w'.heap.size Wr W')
            ?hI2 ?hIx2 ⟨by simpa using hJ5, hE5, hK5, hF5⟩
            (fun y a' _ => a' = { tmps := #[Value.func (Fn.yield l) #[] #[], Value.pointer (some ⟨Bz, 0, none⟩), Value.pointer (some ⟨Bn, 0, none⟩), Value.pointer (some ⟨W.heap.size, 0, none⟩), Value.pointer (some ⟨x.1.1, 0, none⟩), Value.slice (some ⟨gx, y.1.1 * 4, none⟩) y.1.2.length y.1.2.length, undef, undef, Value.func (Fn.yield l) #[] #[], Value.pointer (some ⟨Z, 0, none⟩), Value.pointer (some ⟨Z, 0, none⟩), Value.pointer (some ⟨Z, 3, none⟩), Value.agg #[Value.string (bs (encL [com])), Value.int IntKind.u16 0, Value.int IntKind.u32 7, (Dat.soa 9).val], Value.bool true, Value.bool false, Value.func (Fn.func 17) #[] #[Value.pointer (some ⟨Bs, 0, none⟩)], Value.pointer (some ⟨x.1.1, 0, none⟩), Value.pointer (some ⟨x.1.1, 0, none⟩), Value.func (Fn.func 50) #[] #[Value.pointer (some ⟨Wr.heap.size, 0, none⟩)], Value.slice (some ⟨gx, y.1.1 * 4, none⟩) y.1.2.length y.1.2.length, undef, undef, undef, undef, undef, undef, undef, undef, undef, undef, undef, undef, undef, undef, undef, undef], defers := [] })
            (fun _ _ _ _ _ _ hs _ _ => hs)
            ?assign2 ?body2 ?done2 ?stop2
          case hI2 =>
            intro s A B row hs hg hr
            obtain ⟨h1, h2, h3, h4⟩ := hs
            have hr2 : ∀ q, row = some q → w'.heap.size ≤ q ∧ ∃ o : Obj, A.heap[q]? = some o ∧ o.isCells = false := fun q e => ⟨by have := (hr q e).1; omega, (hr q e).2⟩
            exact ⟨hJ _ A B row h1 hg (fun q e => ⟨by have := (hr q e).1; omega, (hr q e).2⟩), h2.own hg hByl hs2 hr2, h3.trans (KpC.turn hg (by have := h3.size; omega) (fun q e => ⟨by have := (hr q e).1; omega, (hr q e).2⟩)), ownFrom_keepsFrom (B' := W5.heap.size) hs5 s A B row h4 hg hr⟩
          case hIx2 =>
            intro c s A B row hs hg hr
            obtain ⟨rfl, ⟨q, hq, hJq⟩, h4⟩ := hs
            exact ⟨rfl, ⟨q, hq, hJx _ A B row hJq hg (fun q e => ⟨by have := (hr q e).1; omega, (hr q e).2⟩)⟩, ownFrom_keepsFrom (B' := W5.heap.size) hs5 s A B row h4 hg hr⟩
          case assign2 =>
            rintro l2 pre2 y W' K hi hK
            simp only [Run.enc]
            gi_wp2
            exact hK _ _ (KeepsFrom.refl _ _) (KpC.refl _ _) hi rfl
          case body2 =>
            rintro l2 pre2 y a' W6 hl2 - ⟨hJ6, hE6, hK6, hF6⟩ rfl hlt2
            have hy0 : y.1.2 ≠ [] := y.2.2.1
            have hyl : 0 < y.recs.length := List.length_pos_iff.2 hy0
            obtain ⟨h0l, h0e⟩ := y.at 0 hyl
            have hrne : rl ≠ [] := by rintro rfl; simp at h0l
            obtain ⟨hgx, cur, hcur, hcs, hcap, hcl⟩ := hN5.row hrne
            have hs6 := hK6.size
            have hcur6 : W6.heap[gx]? = some (.cells cur 38 (0, 0)) := by
              rw [hK6.low gx hgx, ← hK5.low gx hgx]
              exact hcur
            have hcell : ∀ j (h : j < y.recs.length) c, c < 4 → W6.cell? ⟨gx, y.1.1 * 4 + j * 4 + c, none⟩ = (y.recs[j].cells)[c]? := fun j h c hc => by
              obtain ⟨h1, h2⟩ := y.at j h
              rw [cell_eq hcur6, show y.1.1 * 4 + j * 4 + c = (y.1.1 + j) * 4 + c by omega, hcl _ c h1 hc, h2]
            obtain ⟨ys, hys⟩ : ∃ ys, y.recs = ys := ⟨_, rfl⟩
            have hys' : y.1.2 = ys := hys
            obtain ⟨t, hall⟩ := y.2.2.2
            rw [hys'] at hall
            have hpl := plainR_run hall
            have hflat : L0 ++ (pre2 ++ [y]).flatMap (fun r => plainR r.recs) = (L0 ++ pre2.flatMap fun r => plainR r.recs) ++ plainR ys := by simp [hys]
            obtain ⟨L1, hL1'⟩ : ∃ L1, (L0 ++ pre2.flatMap fun r => plainR r.recs) = L1 := ⟨_, rfl⟩
            rw [hL1'] at hJ6 hflat
            obtain ⟨s0, hs0⟩ : ∃ s0, y.1.1 = s0 := ⟨_, rfl⟩
            rw [hys', hs0]
            rw [hs0] at hcell
            have hcell' : ∀ j (h : j < ys.length) c, c < 4 → W6.cell? ⟨gx, s0 * 4 + j * 4 + c, none⟩ = (ys[j].cells)[c]? := by subst hys; exact hcell
            rw [hys] at hyl
            dsimp only
            refine wpIn_mono (Q := fun e _ W' => match e with
              | .normal => KeepsFrom w'.heap.size W6 W' ∧ KpC n₀ W6 W' ∧ J (L1 ++ plainR ys) W'
              | .ret => KeepsFrom w'.heap.size W6 W' ∧ ∃ q, q <+: L1 ++ plainR ys ∧ Jx q W'
              | _ => False) ?walk ?weak
            case weak =>
              rintro e a' W' h
              cases e with
              | normal =>
                obtain ⟨h1, h2, h3⟩ := h
                exact ⟨⟨h1.size, fun k o hk => h1.same k o (by omega)⟩, h2, by rw [hflat]; exact h3, hE6.kp h2, hK6.trans h2, hF6.trans h1⟩
              | ret =>
                obtain ⟨h1, q, h3⟩ := h
                exact ⟨⟨h1.size, fun k o hk => h1.same k o (by omega)⟩, rfl, ⟨q, by rw [hflat]; exact h3⟩, hF6.trans h1⟩
              | exit _ => exact h.elim
              | goto _ => exact h.elim
              | panic _ => exact h.elim
              | outgrown => exact h.elim
            case walk =>
              clear hcell hflat
              obtain ⟨r0, hr0⟩ : ∃ r0, ys[0] = r0 := ⟨_, rfl⟩
              have ht0 : r0.d.typ = t := hall r0 (by rw [← hr0]; exact List.getElem_mem hyl)
              have k0 : W6.cell? ⟨gx, s0 * 4, none⟩ = some (.string (bs r0.nm)) := by have h := hcell' 0 hyl 0 (by decide); rw [hr0] at h; simpa [Rec.cells] using h
              have k1 : W6.cell? ⟨gx, s0 * 4 + 1, none⟩ = some (.int .u16 0) := by have h := hcell' 0 hyl 1 (by decide); rw [hr0] at h; simpa [Rec.cells] using h
              have k2 : W6.cell? ⟨gx, s0 * 4 + 2, none⟩ = some (.int .u32 r0.ttl) := by have h := hcell' 0 hyl 2 (by decide); rw [hr0] at h; simpa [Rec.cells] using h
              have k3 : W6.cell? ⟨gx, s0 * 4 + 3, none⟩ = some r0.d.val := by have h := hcell' 0 hyl 3 (by decide); rw [hr0] at h; simpa [Rec.cells] using h
              have hyl' : (0 : Int) < ys.length := by omega
              have hT34 : Calls Yba.prog 34 #[.agg #[.string (bs r0.nm), .int .u16 0, .int .u32 r0.ttl, r0.d.val]] W6 fun e w' => e = .returned (.int .u16 t) ∧ Below W6.heap.size W6 w' := by
                rw [← ht0]; exact rrtype_run r0 W6
              have ht16 : t < 16 := by rw [← ht0]; exact r0.d.typ_lt
              have hs60 : n₀ ≤ W6.heap.size := by omega
              have hn4 : 1 ≤ n - 1 - 1 - 1 - 1 := by omega
              by_cases ht6 : t = 6
              · have ht6' : (t : Int) = 6 := by omega
                rw [if_pos ht6] at hpl
                gi_wp2_with (refine ⟨trivial, ?_⟩; gi_at_call 34; refine (CallsIn.inRound l2 (CallsIn.inRound l' (callsIn_wide.2 hT34))).mono ?_; rintro e w7 ⟨rfl, hB7⟩)
                refine ⟨keepsFrom_of_below hB7, KpC.of_below hB7 hs60, ?_⟩
                exact hJ _ W6 _ none hJ6 ⟨hB7.os, hB7.tape, hB7.output, hB7.size, fun i hi _ => hB7.block i hi⟩ (fun r e => by cases e)
              · have ht6' : ¬ (t : Int) = 6 := by omega
                have ht6b : ((t : Int) == 6) = false := by simpa using ht6'
                rw [if_neg ht6] at hpl
                rw [hpl]
                have hysl : ys.length ≤ 300 := by
                  have h := congrArg List.length y.2.1
                  rw [hys'] at h
                  simp at h
                  omega
                gi_wp2_with (refine ⟨trivial, ?_⟩; gi_at_call 34; refine (CallsIn.inRound l2 (CallsIn.inRound l' (callsIn_wide.2 hT34))).mono ?_; rintro e w7 ⟨rfl, hB7⟩)
                have hJ7 : J L1 w7 := hJ _ W6 _ none hJ6 ⟨hB7.os, hB7.tape, hB7.output, hB7.size, fun i hi _ => hB7.block i hi⟩ (fun r e => by cases e)
                have hK7 := KpC.of_below hB7 hs60
                have hF7 : KeepsFrom w'.heap.size W6 w7 := keepsFrom_of_below hB7
                clear hT34 k0 k1 k2 k3 hB7
                gi_loopw [27] (fun i wr => ∃ j : Nat, j ≤ ys.length ∧ i = .int .i64 j ∧ J (L1 ++ ys.take j) wr ∧ KpC n₀ W6 wr ∧ KeepsFrom w'.heap.size W6 wr) (fun i _ => ys.length - (RowKit.intOf i).toNat)
                case atStart => exact ⟨0, by omega, rfl, by simpa using hJ7, hK7, hF7⟩
                case round =>
                  obtain ⟨j, hj, rfl, hJj, hKj, hFj⟩ := hrel
                  rcases Nat.lt_or_ge j ys.length with hjl | hjl
                  · obtain ⟨rj, hrj⟩ : ∃ rj, ys[j] = rj := ⟨_, rfl⟩
                    have htk : ys.take (j + 1) = ys.take j ++ [rj] := by rw [List.take_succ_eq_append_getElem hjl, hrj]
                    have hgr : ∀ c, wr.cell? ⟨gx, c, none⟩ = W6.cell? ⟨gx, c, none⟩ := fun c => by simp only [World.cell?, hKj.low gx hgx]
                    have k0 : wr.cell? ⟨gx, s0 * 4 + j * 4, none⟩ = some (.string (bs rj.nm)) := by have h := hcell' j hjl 0 (by decide); rw [hrj] at h; rw [hgr]; simpa [Rec.cells] using h
                    have k1 : wr.cell? ⟨gx, s0 * 4 + j * 4 + 1, none⟩ = some (.int .u16 0) := by have h := hcell' j hjl 1 (by decide); rw [hrj] at h; rw [hgr]; simpa [Rec.cells] using h
                    have k2 : wr.cell? ⟨gx, s0 * 4 + j * 4 + 2, none⟩ = some (.int .u32 rj.ttl) := by have h := hcell' j hjl 2 (by decide); rw [hrj] at h; rw [hgr]; simpa [Rec.cells] using h
                    have k3 : wr.cell? ⟨gx, s0 * 4 + j * 4 + 3, none⟩ = some rj.d.val := by have h := hcell' j hjl 3 (by decide); rw [hrj] at h; rw [hgr]; simpa [Rec.cells] using h
                    have hjl' : (j : Int) < ys.length := by omega
                    obtain ⟨Tj, xj, hdj⟩ : ∃ T x, rj.d.val = .iface T x := by obtain ⟨T, x, fn, h, _⟩ := typ_any rj.d; exact ⟨T, x, h⟩
                    rw [hdj] at k3
                    have hYb := hKj.same _ _ _ _ hE6.1 (by decide) (by decide)
                    have hwl := hKj.size
                    clear hgr hcell' hrj
                    have hJ8 : J (L1 ++ ys.take j) (wr.alloc (Obj.cells #[.string (bs rj.nm), .int .u16 0, .int .u32 rj.ttl, .iface Tj xj] 38)) := hJ _ wr _ none hJj (World.grownBy_alloc _ _ _) (fun r e => by cases e)
                    obtain ⟨fn, tmps, assign, body, hy, hR⟩ := hY (n - 1 - 1 - 1 - 1 - 1) _ rj _ hJ8 (by simp; omega) (by simp; omega)
                    simp only [Rec.enc, Rec.cells, hdj] at hy
                    have cYb : (wr.alloc (Obj.cells #[.string (bs rj.nm), .int .u16 0, .int .u32 rj.ttl, .iface Tj xj] 38)).cell? ⟨W.heap.size, 0, none⟩ = some (.func (.yield l) #[] #[]) := (World.cell?_alloc_lt wr _ ⟨W.heap.size, 0, none⟩ (Array.getElem?_eq_some_iff.1 hYb).1).trans (cell_blk hYb rfl)
                    have hK8 : KpC n₀ wr (wr.alloc (Obj.cells #[.string (bs rj.nm), .int .u16 0, .int .u32 rj.ttl, .iface Tj xj] 38)) := KpC.alloc _ _ (by omega) _
                    have hF8 : KeepsFrom w'.heap.size wr (wr.alloc (Obj.cells #[.string (bs rj.nm), .int .u16 0, .int .u32 rj.ttl, .iface Tj xj] 38)) := (KeepsOthers.alloc _ _).from _
                    gi_wp2
                    refine (show RoundIn ((Fence.wide.inRound l').inRound l2) _ _ _ _ _ _ _ _ _ from hR).mono ?_
                    rintro e W3 ⟨go, rfl, hgo1, hgo2, hk3, hf3⟩
                    have hF3 : KeepsFrom w'.heap.size W6 W3 := (hFj.trans hF8).trans ⟨hf3.size, fun k o hk => hf3.same k o (by omega)⟩
                    cases go with
                    | true =>
                      have hJ3 := hgo1 rfl
                      clear hgo1 hgo2 hR hy
                      gi_wp2
                      go_roundw
                      case rel => exact ⟨j + 1, by omega, rfl, by rw [htk, ← List.append_assoc]; exact hJ3, (hKj.trans hK8).trans hk3, hF3⟩
                      case measure =>
                        simp [RowKit.intOf]
                        omega
                    | false =>
                      have hJ3 := hgo2 rfl
                      clear hgo1 hgo2 hR hy
                      gi_wp2
                      exact ⟨_, by rw [List.append_assoc, ← htk]; exact (List.prefix_append_right_inj L1).2 (List.take_prefix _ _), hJ3⟩
                  · have hjj : j = ys.length := by omega
                    rw [hjj, List.take_length] at hJj
                    gi_wp2
                    exact hJj
          case done2 =>
            rintro xs W' hxs ⟨hJ', hE', hK', hF'⟩
            gi_wp2
            rw [plainR_flat, hxs] at hJ'
            exact ⟨hF', hK', by rw [hL1]; exact hJ', hE'⟩
          case stop2 =>
            rintro c pre2 W' hpre2 ⟨rfl, ⟨q, hq, hJq⟩, hF'⟩
            gi_wp2
            refine ⟨hF', rfl, q, ?_, hJq⟩
            rw [hL1]
            rw [plainR_flat] at hq
            exact hq.trans ((List.prefix_append_right_inj L0).2 (plainR_prefix hpre2))
        case done =>
          rintro D xs W' hD hxs ⟨hJ', _⟩ hK
          gi_wp2
          refine ⟨by simp, .inl ⟨_, _, rfl, run_takeDeferred hK, ?_⟩⟩
          refine ⟨_, results_none rfl _ _ _, ⟨_, rfl⟩, .inl ?_⟩
          rw [hxs] at hJ'
          exact hJ.putObj _ hJ' (by omega) hK rfl
        case stop =>
          rintro D c pre W' hD hpre ⟨rfl, q, hq, hJq⟩ hK
          gi_wp2
          refine ⟨by simp, .inl ⟨_, _, rfl, run_takeDeferred hK, ?_⟩⟩
          exact ⟨_, results_none rfl _ _ _, ⟨_, rfl⟩, .inr ⟨q, hq.trans (flat_prefix hpre), hJx.putObj _ hJq (by omega) hK rfl⟩⟩
    | exit _ => exact h.elim
    | goto _ => exact h.elim
    | ret => exact h.elim
    | panic _ => exact h.elim
    | outgrown => exact h.elim
end Go.Proofs.Ybulkccao
