/- seat b3879a: the walk's own predicate on code, asked of ordinary frames alone: so that a communication may stand in the code -/
import Derived.Conc.LoneSelect
import Derived.WalkKit
namespace Go.Proofs.Ybulkcbhs
open Go Go.Conc Go.RowKit

/-- 'Code.wp', of a frame that is no early one. -/
def wpN (P : Program) (c : Code) (Q : Exit → Act → World → Prop) (a : Act) (w : World) : Prop :=
  ∀ (b : Frame) (k : List Item) (cs : List Frame), b.kind ≠ .early →
    ∃ e a' w', Q e a' w' ∧ Arrives P (lone (b.at a (.code c :: k)) cs w) b k cs e a' w'

variable {P : Program} {Q : Exit → Act → World → Prop} {a : Act} {w : World}

theorem wpN_of_wp {c : Code} (h : c.wp P Q a w) : wpN P c Q a w := fun b k cs _ => h b k cs

theorem wpN_mono {c : Code} {Q' : Exit → Act → World → Prop} (h : wpN P c Q a w) (hq : ∀ e a w, Q e a w → Q' e a w) : wpN P c Q' a w :=
  fun b k cs hb => let ⟨e, a', w', q, r⟩ := h b k cs hb; ⟨e, a', w', hq _ _ _ q, r⟩

theorem wpN_seq {x y : Code} (h : wpN P x (Exit.then (wpN P y Q) Q) a w) : wpN P (.seq x y) Q a w := by
  intro b k cs hb
  obtain ⟨e, a₁, w₁, hq, harr⟩ := h b (.code y :: k) cs hb
  have h0 : Steps P (lone (b.at a (.code (.seq x y) :: k)) cs w) (lone (b.at a (.code x :: .code y :: k)) cs w) := .one step_seq
  have hpass : ∀ e', e' ≠ .normal → Arrives P (lone (b.at a (.code x :: .code y :: k)) cs w) b (.code y :: k) cs e' a₁ w₁ →
      Arrives P (lone (b.at a (.code (.seq x y) :: k)) cs w) b k cs e' a₁ w₁ := by
    intro e' hne h1
    cases e' with
    | normal => exact absurd rfl hne
    | exit id => exact fun k' hk => h0.trans (h1 k' hk)
    | goto l => exact fun k' hk => h0.trans (h1 k' hk)
    | ret => obtain ⟨t, ht⟩ := h1; exact ⟨t, h0.trans ht⟩
    | panic c => obtain ⟨t, ht⟩ := h1; exact ⟨t, h0.trans ht⟩
    | outgrown => exact h1.imp id (Outgrown.of_steps h0)
  cases e with
  | normal =>
    obtain ⟨e', a₂, w₂, hq', harr'⟩ := hq b k cs hb
    exact ⟨e', a₂, w₂, hq', .of_steps (h0.trans harr) harr'⟩
  | exit id => exact ⟨.exit id, a₁, w₁, hq, hpass _ (by simp) harr⟩
  | goto l => exact ⟨.goto l, a₁, w₁, hq, hpass _ (by simp) harr⟩
  | ret => exact ⟨.ret, a₁, w₁, hq, hpass _ (by simp) harr⟩
  | panic c => exact ⟨.panic c, a₁, w₁, hq, hpass _ (by simp) harr⟩
  | outgrown => exact ⟨.outgrown, a₁, w₁, hq, hpass _ (by simp) harr⟩

/-- A piece without a communication, then the rest. -/
theorem wpN_seq_k {x y : Code} (h : ∀ K : Act → World → Prop, (∀ a w, wpN P y Q a w → K a w) → x.wp P (Exit.then K Q) a w) : wpN P (.seq x y) Q a w :=
  wpN_seq (wpN_of_wp (h _ fun _ _ h => h))
theorem wpN_seqN_k {x y : Code} (h : ∀ K : Act → World → Prop, (∀ a w, wpN P y Q a w → K a w) → wpN P x (Exit.then K Q) a w) : wpN P (.seq x y) Q a w :=
  wpN_seq (h _ fun _ _ h => h)

theorem wpN_cond {c : Operand} {x y : Code} {t : Bool} (hc : a.eval c = .bool t) (h : wpN P (if t then x else y) Q a w) : wpN P (.cond c x y) Q a w := by
  intro b k cs hb
  obtain ⟨e, a', w', hq, harr⟩ := h b k cs hb
  exact ⟨e, a', w', hq, .of_steps (.one (step_cond hc)) harr⟩

theorem wpN_block {id : Nat} {c : Code} (h : wpN P c (Exit.inBlock id Q) a w) : wpN P (.block id c) Q a w := by
  intro b k cs hb
  obtain ⟨e, a', w', hq, harr⟩ := h b (.inBlock id :: k) cs hb
  have h0 : Steps P (lone (b.at a (.code (.block id c) :: k)) cs w) (lone (b.at a (.code c :: .inBlock id :: k)) cs w) := .one step_block
  cases e with
  | normal => exact ⟨.normal, a', w', hq, h0.trans (Steps.trans harr (.one step_inBlock))⟩
  | exit j =>
    simp only [Exit.inBlock] at hq
    split at hq
    · rename_i hj
      subst hj
      exact ⟨.normal, a', w', hq, h0.trans (harr k (by simp [exitTo]))⟩
    · rename_i hj
      exact ⟨.exit j, a', w', hq, fun k' hk => h0.trans (harr k' (by simp [exitTo, Ne.symm hj]; exact hk))⟩
  | goto l => exact ⟨.goto l, a', w', hq, fun k' hk => h0.trans (harr k' (by simpa [gotoIn] using hk))⟩
  | ret => obtain ⟨t, ht⟩ := harr; exact ⟨.ret, a', w', hq, t, h0.trans ht⟩
  | panic ch => obtain ⟨t, ht⟩ := harr; exact ⟨.panic ch, a', w', hq, t, h0.trans ht⟩
  | outgrown => exact ⟨.outgrown, a', w', hq, harr.imp (fun h => h) (Outgrown.of_steps h0)⟩

theorem wpN_loop {c : Code} (I : Nat → Act → World → Prop) (n : Nat) (h0 : I n a w)
    (round : ∀ m a w, I m a w → wpN P c (Exit.then (fun a' w' => ∃ m', m' < m ∧ I m' a' w') Q) a w) : wpN P (.loop c) Q a w := by
  intro b k cs hb
  have go : ∀ m a w, I m a w → ∃ e a' w', Q e a' w' ∧ Arrives P (lone (b.at a (.code c :: .inLoop c :: k)) cs w) b k cs e a' w' := by
    intro m
    induction m using Nat.strongRecOn with
    | _ m ih =>
      intro a w hI
      obtain ⟨e, a₁, w₁, hq, harr⟩ := round m a w hI b (.inLoop c :: k) cs hb
      have hp : e ≠ .normal → Arrives P (lone (b.at a (.code c :: .inLoop c :: k)) cs w) b k cs e a₁ w₁ :=
        fun hne => .pass (x := .inLoop c) rfl (fun _ _ => .inl hne) harr
      cases e with
      | normal =>
        obtain ⟨m', hlt, hI'⟩ := hq
        obtain ⟨e₂, a₂, w₂, hq₂, harr₂⟩ := ih m' hlt a₁ w₁ hI'
        exact ⟨e₂, a₂, w₂, hq₂, .of_steps (Steps.trans harr (.one step_inLoop)) harr₂⟩
      | exit id => exact ⟨_, a₁, w₁, hq, hp (by simp)⟩
      | goto l => exact ⟨_, a₁, w₁, hq, hp (by simp)⟩
      | ret => exact ⟨_, a₁, w₁, hq, hp (by simp)⟩
      | panic ch => exact ⟨_, a₁, w₁, hq, hp (by simp)⟩
      | outgrown => exact ⟨_, a₁, w₁, hq, hp (by simp)⟩
  obtain ⟨e, a', w', hq, harr⟩ := go n a w h0
  exact ⟨e, a', w', hq, .of_steps (.one step_loop) harr⟩

/-- A piece of code by the machine's own steps: it comes to its end. -/
theorem wpN_of_loneTo {c : Code} (h : ∀ (b : Frame) (k : List Item) (cs : List Frame), b.kind ≠ .early →
      LoneTo P (fun g' w' => ∃ a', g' = G (b.at a' k) cs ∧ Q .normal a' w') (G (b.at a (.code c :: k)) cs) w) : wpN P c Q a w := by
  intro b k cs hb
  obtain ⟨g', w', hs, a', hg, hq⟩ := h b k cs hb
  subst hg
  exact ⟨.normal, a', w', hq, hs⟩

/-- A region whose first operation is a communication, taken by one step of the machine's; the others are plain. -/
theorem wpN_region_head {id : Nat} {ops : Array Oper} {o : Oper} {l : List Nat} {v : Value} {w' : World} (hl : List.range ops.size = 0 :: l) (ho : ops[0]? = some o)
    (hs : ∀ (b : Frame) (k : List Item) (cs : List Frame), b.kind ≠ .early →
      step P (lone (b.at a (.inRegion ops (0 :: l) :: k)) cs w) = .next (lone ((b.at a (.inRegion ops (0 :: l) :: k)).finish v) cs w'))
    (h : wpOps P ops Q l (a.put o.dst v) w') : wpN P (.region id ops false) Q a w := by
  intro b k cs hb
  obtain ⟨e, a', w'', hq, harr⟩ := wp_ops l _ _ h b k cs
  refine ⟨e, a', w'', hq, .of_steps (.head step_region (.one ?_)) harr⟩
  rw [hl, hs b k cs hb, Frame.finish_at, ho]
  rfl

theorem calls_of_wpN {f : FuncId} {fn : Func} {c : Code} {args : Array Value} {R : Ending → World → Prop}
    (hf : P.funcs[f]? = some fn) (hb : fn.body = some c) (hno : ∀ w', ¬ R .outgrown w')
    (h : wpN P c (bodyPost P fn R) { tmps := args ++ Array.replicate (fn.ntmps - args.size) undef, defers := [] } w) : Calls P f args w R := by
  intro cs
  let b : Frame := { (default : Frame) with fn := f, kind := .normal }
  have henter : Frame.enter P f args .normal = b.at { tmps := args ++ Array.replicate (fn.ntmps - args.size) undef, defers := [] } [.code c] := by
    simp [Frame.enter, Frame.at, hf, hb, b]
  obtain ⟨e, a', w', hq, harr⟩ := h b [] cs (by simp [b])
  rw [← henter] at harr
  cases e with
  | normal =>
    obtain ⟨hd, v, hr, hR⟩ := hq
    exact ⟨.returned v, w', _, hR, Steps.trans harr (.one step_end), rfl, rfl, hd, rfl, fn, hf, hr⟩
  | ret =>
    obtain ⟨hd, v, hr, hR⟩ := hq
    obtain ⟨todo, hs⟩ := harr
    exact ⟨.returned v, w', _, hR, hs, rfl, rfl, hd, rfl, fn, hf, hr⟩
  | panic chain =>
    obtain ⟨hd, hR⟩ := hq
    obtain ⟨todo, hs⟩ := harr
    exact ⟨.panicked chain, w', _, hR, hs, rfl, rfl, hd, fn, hf⟩
  | exit id => exact hq.elim
  | goto l => exact hq.elim
  | outgrown => exact absurd hq (hno _)
end Go.Proofs.Ybulkcbhs
