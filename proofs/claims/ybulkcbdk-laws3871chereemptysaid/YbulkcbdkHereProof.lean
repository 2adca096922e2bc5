/- seat b3871a: LawS3871CHereEmpty: the statement -/
import Derived.Test.YbulkcbdkRows
import Derived.Test.YbulkcbdkHereWalk
import Derived.ProofKit
import Derived.OpenShut
import Derived.ShutString
import Derived.ChangeOld
import Derived.Below
import Derived.Lib.SmallJoins
import Derived.SliceStrings
namespace Go.Proofs.Ybulkcbdk.lawS3871CHereEmpty
open Go.ChangeShapes Go.WideShapes Go.ChangeAt Go.RowKit Go.Joins
open Go.ChangeMaps (open_string shut_string)
set_option linter.unusedVariables false

theorem own : ownKnob Yba.prog.godebug = none := by kernel_rfl
theorem laidOut : laidOutB Yba.prog = true := by kernel_rfl

set_option maxRecDepth 100000 in
theorem lifted (os : Os) (started : os.Started) (H : Type) (enc : TypeId × Value → H) :
    ReturnsInHanded {} Yba.checked os 4 .any (Rows.lawS3871CHereEmptySpec.pre6 enc Yba.prog Yba.f4 Rows.lawS3871CHereEmptyRow.domain false) (Rows.lawS3871CHereEmptySpec.post enc Yba.prog Yba.f4 false true false false) := by
  refine returnsInHanded_of_change (C := Yba.checked) own started (by kernel_rfl) Yba.func4
    (ChangeSpec.witness6 (enc := enc) (C := Yba.checked) false ⟨#[], #[.agg #[.string ByteArray.empty, .string ByteArray.empty, .bool false, .slice none 0 0]], []⟩ 8 (by kernel_rfl) (by kernel_rfl) (by kernel_rfl) (by kernel_rfl)) ?_
  intro W base args ds gs before hval0 hW hcnd _
  have hval : ∀ (j : Nat) t v, Yba.f4.params[j]? = some t → args[j]? = some v → Value.okWide Yba.prog W .any base t v := hval0
  have hW' := hW
  obtain ⟨p, q, hA0, hV, rfl, hfz, hnd⟩ := hW
  have hA : DataW.TrodAll enc Yba.prog W 0 (fun _ => true) true Yba.f4.params.toList args.toList ds p := hA0
  rw [Yba.params4] at hA hval
  obtain ⟨v0, vs0, d0, ds0, p0, q0, hargs, rfl, rfl, h0, r0⟩ := trodAll_cons hA
  obtain ⟨rfl, rfl, rfl⟩ := trodAll_nil r0
  obtain rfl : args = #[v0] := by cases args; simp_all
  obtain ⟨rfl, rfl⟩ := trodVars_none hV
  have k0 := h0
  have lt0 : ∀ x ∈ p0, x.block < W.heap.size := by obtain ⟨m, hm⟩ := k0; exact DataW.trod_lt m _ _ _ hm
  obtain ⟨c0, c1, c2, c3, y0, y1, y2, y3, m, rfl, rfl, rfl, hy0, hy1, hy2, hy3⟩ := open_agg4 Yba.underlying24 (by kernel_rfl) (by kernel_rfl) (hval 0 24 v0 rfl rfl) h0
  obtain ⟨g, e0, _, wg⟩ := DataW.trod_string Yba.underlying9 hy0
  obtain ⟨a, e1, _, wa⟩ := DataW.trod_string Yba.underlying9 hy1
  obtain ⟨c, e2, _⟩ := DataW.trod_bool Yba.underlying4 hy2
  obtain ⟨sa, n, k, ss, e3, hn, hs⟩ : ∃ sa n k ss, [c3] = [.slice sa n k] ∧ n ≤ maxLen ∧ Strs W sa n ss := by
    rcases open_strings Yba.underlying22 Yba.underlying9 (by kernel_rfl) hy3 with ⟨hcs, _⟩ | ⟨x, l, cc, zs, hcs, _, hl, hm, hz, _, hcell, hwz⟩
    · exact ⟨none, 0, 0, [], hcs, by decide, rfl, Or.inl rfl⟩
    · simp at hz
      refine ⟨some x, l, cc, zs.take l, hcs, Nat.le_trans hl hm, by simp; omega, ?_⟩
      by_cases hl0 : l = 0
      · exact Or.inl hl0
      · obtain ⟨b, off, spot⟩ := x
        have hspot : spot = none := by simpa [Addr.add] using World.cell?_spot (hcell 0 (by omega))
        subst hspot
        refine Or.inr ⟨b, off, rfl, World.block_lt_of_cell? W _ (hcell 0 (by omega)), fun j hj => ?_⟩
        simp at hj
        rw [← Go.WideShapes.add_plain, hcell j (by omega)]
        have hjl : j < l := by omega
        simp [hjl]
  simp at e0 e1 e2 e3
  subst e0 e1 e2 e3
  clear hA0 hval0
  refine (here_walk g a c sa n k ss W hs (by unfold maxLen at hn; omega)).mono fun e W' ⟨he, bel⟩ => ?_
  subst he
  exact ⟨_, rfl, _, _, _, [], _, [], hW', trodAll_mk1 (shut_bool Yba.underlying4 _), (trodAll_cons_mk (Below.trod laidOut (by kernel_rfl) (of_decide_eq_true (by kernel_rfl)) k0 bel lt0) trodAll_mk0), rfl, bel.frame _, fun h => by cases h⟩

theorem over : Rows.lawS3871CHereEmptyRow.holds Yba.pinned (OpenSpec.ofChange Rows.lawS3871CHereEmptySpec) :=
  OpenClaim.holds_of_wide 4 Yba.f4 rfl rfl rfl rfl rfl rfl rfl ⟨rfl, rfl, rfl, rfl, rfl⟩ rfl rfl rfl rfl rfl (by kernel_rfl) Yba.func4 (by kernel_rfl)
    (of_decide_eq_true (by kernel_rfl)) (by unfold Func.isWrapper; first | (rw [if_pos (by decide +kernel)]; kernel_rfl) | (rw [if_neg (by decide +kernel)]; exact ⟨rfl, rfl⟩))
    (fun os started H enc _ => lifted os started H enc)

/-- THE STATEMENT -/
theorem proved : Rows.LawS3871CHereEmptySaid := over
end Go.Proofs.Ybulkcbdk.lawS3871CHereEmpty
