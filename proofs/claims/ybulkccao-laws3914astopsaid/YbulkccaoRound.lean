/- seat b3914a: a region that draws, in a round -/
import Derived.RangeFuncNested
import Derived.OwnWalkIn
import Derived.Test.YbulkccaoAppend
namespace Go.Proofs.Ybulkccao
open Go Go.RowKit

def notDefer (o : Oper) : Bool :=
  match o.op with
  | .defer _ => false
  | _ => true
theorem wpOpIn_round {P : Program} {n : Nat} {ops : Array Oper} {Q : Exit → Act → World → Prop} (l : Nat) (hd : ∀ (i : Nat) (o : Oper), ops[i]? = some o → ∀ c, o.op ≠ .defer c) {i : Nat} {K : Act → World → Prop} {a : Act} {w : World}
    (h : wpOpIn Fence.wide n P ops Q i K a w) : wpOpIn (Fence.wide.inRound l) n P ops Q i K a w := by
  unfold wpOpIn at h ⊢
  cases ho : ops[i]? with
  | none => simpa [ho] using h
  | some o =>
    simp only [ho] at h ⊢
    by_cases hw : Region.wanted o (yielded ops a.tmps) = true
    · simp only [hw, if_true] at h ⊢
      unfold Oper.wpIn at h ⊢
      refine ⟨fun _ _ => trivial, ?_⟩
      have h2 := h.2
      rw [Oper.semAt_plain Fence.wide _ _ (hd i o ho)] at h2
      rw [Oper.semAt_plain (Fence.wide.inRound l) _ _ (hd i o ho)]
      exact h2
    · simp only [hw] at h ⊢
      exact ⟨fun _ _ => trivial, h.2⟩

theorem wpAnyIn_round {P : Program} {n : Nat} {md : Region.Mode} {ops : Array Oper} {Q : Exit → Act → World → Prop} (l : Nat) (hd : ∀ (i : Nat) (o : Oper), ops[i]? = some o → ∀ c, o.op ≠ .defer c) : ∀ (fuel : Nat) (listed : Array Bool) (a : Act) (w : World),
    wpAnyIn Fence.wide n P md ops Q fuel listed a w → wpAnyIn (Fence.wide.inRound l) n P md ops Q fuel listed a w
  | 0, _, _, _, h => h
  | fuel + 1, listed, a, w, h => by
    refine ⟨h.1, fun i hi => ?_⟩
    refine wpOpIn_round l hd (wpOpIn_mono (fun a' w' h' => ?_) (h.2 i hi))
    exact wpAnyIn_round l hd fuel _ a' w' h'
theorem wpAnyIn_round' {P : Program} {n : Nat} {md : Region.Mode} {ops : Array Oper} {Q : Exit → Act → World → Prop} (l : Nat) (hd : ops.all notDefer = true) {fuel : Nat} {listed : Array Bool} {a : Act} {w : World}
    (h : wpAnyIn Fence.wide n P md ops Q fuel listed a w) : wpAnyIn (Fence.wide.inRound l) n P md ops Q fuel listed a w :=
  wpAnyIn_round l (fun i o ho c hc => by
    have h1 := Array.all_eq_true'.1 hd o (Array.mem_of_getElem? ho)
    simp [notDefer, hc] at h1) fuel listed a w h

/-- append, as a step of a region -/
theorem stepIn_append_at {P : Program} {w : World} {ops : Array Oper} {o : Oper} {a : Act} {n : Nat} {K : Act → World → Prop} {Q : Exit → Act → World → Prop} {E : Prop} (hgd : o.guard = none) (s x : Operand) (t : TypeId)
    (ho : o.op = .call { callee := .builtin .append, args := #[s, x], argTypes := #[t, t] })
    (base : Nat) (e : TypeId) (i : TypeInfo) (z : Value) (size bytes : Nat) (ht : P.underlying t = some (.slice e)) (hi : P.info? e = some i) (hz : i.zero = some z)
    (hsize : i.size = size) (hby : i.bytes = bytes) (hzs : z.cells.size = size) (hsz : 0 < size)
    (v : Value) (k : Nat) (xs : List Value) (hs : a.eval s = v) (hown : w.ownsRow base e size v k xs)
    (ad : Addr) (m c : Nat) (news : List Value) (hx : a.eval x = .slice (some ad) m c) (hm : 0 < m) (hl : news.length = m * size) (hnews : ∀ j u, news[j]? = some u → w.cell? (ad.add j) = some u) (h1 : ∀ u ∈ news, u.oneCell' = true)
    (h63 : k + m ≤ maxLen) (hbytes : (k + m) * bytes ≤ 140737488355328) (hbase : base ≤ w.heap.size)
    (h : ∀ v' w', w'.ownsRow base e size v' (k + m) (xs ++ news) → w.grownBy w' v.ownBlock → (v'.ownBlock = v.ownBlock ∨ v'.ownBlock = some w.heap.size) → K (a.put o.dst v') w') :
    if Region.wanted o (yielded ops a.tmps) = true then Oper.wpIn Fence.wide n P o a w K Q else E := by
  have hw : Region.wanted o (yielded ops a.tmps) = true := by simp [Region.wanted, hgd]
  rw [if_pos hw]
  obtain ⟨v', w', hr, h2, h3, h4⟩ := append_where (P := P) w base t o.type e i z size bytes ht hi hz hsize hby hzs hsz v k xs hown ad m c news hm hl hnews h1 h63 hbytes hbase
  unfold Oper.wpIn
  refine ⟨fun _ _ => trivial, ?_⟩
  rw [Oper.semAt_plain Fence.wide _ _ (by rw [ho]; intro c hc'; cases hc')]
  simp [execOp, ho, resolve, invoke, builtin, hs, hx, hr, Result.andThen]
  exact h v' w' h2 h3 h4
end Go.Proofs.Ybulkccao
