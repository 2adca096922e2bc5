/- seat b3875aF: byte slices that the laws make: an append from whatever source onto an owned row -/
import Derived.Test.YbulkcbfoFmtErrs
import Derived.WalkLawsBesides
import Derived.WalkSmall
import Derived.Deep.DeepMust
import Derived.Deep.AppendSrc
import Derived.Laws.CopyOwn
namespace Go.Proofs.YbulkcbfoFmt
open Go Go.RowKit

/-- WHAT THE WALK IS TOLD OF A SLICE OF BYTES THAT CAME IN. -/
def IsRow (w : World) (a : Option Addr) (len cap : Nat) (zs : List Int) : Prop :=
  zs.length = len ∧ len ≤ cap ∧ ((a = none ∧ len = 0 ∧ cap = 0) ∨
    ∃ x, a = some x ∧ (0 < len → x.block < w.heap.size) ∧ (∀ i, i < len → w.cell? (x.add i) = some (.int .u8 (zs.getD i 0))))

theorem IsRow.below {w w' : World} {a : Option Addr} {len cap : Nat} {zs : List Int} (h : IsRow w a len cap zs) (hb : Below w.heap.size w w') : IsRow w' a len cap zs := by
  obtain ⟨h1, h2, h3⟩ := h
  refine ⟨h1, h2, ?_⟩
  rcases h3 with h | ⟨x, hx, hlt, hc⟩
  · exact Or.inl h
  · refine Or.inr ⟨x, hx, fun h0 => Nat.lt_of_lt_of_le (hlt h0) hb.size, fun i hi => ?_⟩
    rw [hb.cell (p := x.add i) (by have := hlt (by omega); unfold Addr.add; split <;> exact this)]
    exact hc i hi

theorem Ybaf.info5 : (Ybaf.prog.info? 5).map (fun i => (i.zero, i.size, i.bytes)) = some (some (.int .u8 0), 1, 1) := by kernel_rfl

/-- 'append(own, src...)', own not empty, src whatever slice of bytes. -/
theorem wpList_append_row {w : World} {ops : Array Oper} {rest : List Oper} {o : Oper} {a : Act} {Q : Exit → Act → World → Prop} (hgd : o.guard = none) (s x : Operand)
    (ho : o.op = .call { callee := .builtin .append, args := #[s, x], argTypes := #[22, 22] }) (base : Nat)
    (v : Value) (n : Nat) (xs : List Value) (hs : a.eval s = v) (hown : w.ownsRow base 5 1 v n xs) (hpos : 0 < n)
    (sp : Option Addr) (m c : Nat) (zs : List Int) (hx : a.eval x = .slice sp m c) (hsrc : IsRow w sp m c zs) (hsmall : n + m ≤ 100000) (hbase : base ≤ w.heap.size)
    (h : ∀ v' w', w'.ownsRow base 5 1 v' (n + m) (xs ++ zs.map (Value.int .u8)) → w.grownBy w' v.ownBlock → wpList Ybaf.prog ops Q rest (a.put o.dst v') w') : wpList Ybaf.prog ops Q (o :: rest) a w := by
  obtain ⟨i0, hi, hz0, hz1, hz2⟩ := info_parts Ybaf.info5
  obtain ⟨hl, hmc, hcase⟩ := hsrc
  rcases hcase with ⟨rfl, rfl, rfl⟩ | ⟨ad, rfl, _, hc⟩
  · obtain rfl : zs = [] := List.length_eq_zero_iff.1 hl
    rcases hown.2 with ⟨_, h0⟩ | ⟨g, cap, cur, hv, hbg, hh, hncap, hcm, hcur, htake⟩
    · omega
    · subst hv
      refine wpList_plain hgd fun K hK => ?_
      have hrun := run_append_room_src (P := Ybaf.prog) w 22 22 o.type 5 i0 Ybaf.underlying22 hi g 0 n cap (.slice none 0 0) 0 [] (by rw [hz1]; exact Src.ofNil _ Ybaf.underlying22 0) (by omega) (by simp) (by simp)
      unfold Oper.wp
      simp [execOp, ho, resolve, invoke, builtin, hs, hx, hrun, Result.andThen, World.setCells]
      refine hK _ _ (h _ _ ?_ ?_)
      · simpa using hown
      · exact ⟨rfl, rfl, rfl, Nat.le_refl _, fun _ _ _ => rfl⟩
  · refine wpList_append_own w hgd s x 22 ho base 5 i0 (.int .u8 0) 1 1 Ybaf.underlying22 hi hz0 hz1 hz2 rfl (by decide) v n xs hs hown ad m c (zs.map (Value.int .u8)) hx (by simp [hl]) ?_ ?_ (by unfold maxLen; omega) (by omega) hbase ?_
    · intro j u hj
      simp only [List.getElem?_map, Option.map_eq_some_iff] at hj
      obtain ⟨z, hz, rfl⟩ := hj
      have hj : j < m := by
        rcases Nat.lt_or_ge j m with h' | h'
        · exact h'
        · rw [List.getElem?_eq_none (by omega)] at hz; cases hz
      rw [hc j hj]; simp [hz]
    · intro u hu
      simp only [List.mem_map] at hu
      obtain ⟨_, _, rfl⟩ := hu
      rfl
    · intro v' w' h1 h2 _
      exact h v' w' h1 h2
end Go.Proofs.YbulkcbfoFmt
