/- seat b3914a: LawS3914AStop: the statement (the frame: the guide's own shell) -/
import Derived.Test.YbulkccaoRows
import Derived.Test.YbulkccaoStop
import Derived.Test.YbulkccaoSorted6
import Derived.WalkKit
import Derived.ProofKit
import Derived.OpenShut
import Derived.ShutString
import Derived.ChangeOld
import Derived.ChangeAlike
import Derived.Below
import Derived.Carry
import Derived.Deep.Strs
import Derived.ChangeSlices
namespace Go.Proofs.Ybulkccao.lawS3914AStop
open Go.ChangeShapes Go.WideShapes Go.ChangeAt Go.RowKit
open Go.ChangeMaps (open_string shut_string)
set_option linter.unusedVariables false

theorem own : ownKnob Yba.prog.godebug = none := by kernel_rfl
theorem laidOut : laidOutB Yba.prog = true := by kernel_rfl

set_option maxRecDepth 100000 in
theorem lifted (os : Os) (started : os.Started) (H : Type) (enc : TypeId × Value → H) :
    ReturnsInHanded {} Yba.checked os 4 .any (Rows.lawS3914AStopSpec.pre6 enc Yba.prog Yba.f4 Rows.lawS3914AStopRow.domain false) (Rows.lawS3914AStopSpec.post enc Yba.prog Yba.f4 false true false false) := by
  refine returnsInHanded_of_change (C := Yba.checked) own started (by kernel_rfl) Yba.func4
    (ChangeSpec.witness6 (enc := enc) (C := Yba.checked) false ⟨#[], #[.slice none 0 0, .slice none 0 0, .int .u8 0], []⟩ 8 (by kernel_rfl) (by kernel_rfl) (by kernel_rfl) (by kernel_rfl)) ?_
  intro W base args ds gs before hval0 hW hcnd _
  have hval : ∀ (j : Nat) t v, Yba.f4.params[j]? = some t → args[j]? = some v → Value.okWide Yba.prog W .any base t v := hval0
  have hW' := hW
  obtain ⟨p, q, hA0, hV, rfl, hfz, hnd⟩ := hW
  have hA : DataW.TrodAll enc Yba.prog W 0 (fun _ => true) true Yba.f4.params.toList args.toList ds p := hA0
  rw [Yba.params4] at hA hval
  obtain ⟨v0, vs0, d0, ds0, p0, q0, hargs, rfl, rfl, h0, r0⟩ := trodAll_cons hA
  obtain ⟨v1, vs1, d1, ds1, p1, q1, rfl, rfl, rfl, h1, r1⟩ := trodAll_cons r0
  obtain ⟨v2, vs2, d2, ds2, p2, q2, rfl, rfl, rfl, h2, r2⟩ := trodAll_cons r1
  obtain ⟨rfl, rfl, rfl⟩ := trodAll_nil r2
  obtain rfl : args = #[v0, v1, v2] := by cases args; simp_all
  obtain ⟨rfl, rfl⟩ := trodVars_none hV
  have k0 := h0
  have k1 := h1
  have k2 := h2
  have lt0 : ∀ x ∈ p0, x.block < W.heap.size := by obtain ⟨m, hm⟩ := k0; exact DataW.trod_lt m _ _ _ hm
  have lt1 : ∀ x ∈ p1, x.block < W.heap.size := by obtain ⟨m, hm⟩ := k1; exact DataW.trod_lt m _ _ _ hm
  have lt2 : ∀ x ∈ p2, x.block < W.heap.size := by obtain ⟨m, hm⟩ := k2; exact DataW.trod_lt m _ _ _ hm
  obtain ⟨sa, nn, ca, rfl⟩ := okWide_slice Yba.underlying22 (hval 0 22 v0 rfl rfl)
  obtain ⟨sb, nr, cb, rfl⟩ := okWide_slice Yba.underlying23 (hval 1 23 v1 rfl rfl)
  obtain ⟨a2, rfl, _, _, w2⟩ := open_int Yba.underlying5 (hval 2 5 v2 rfl rfl) h2
  obtain ⟨S, hS⟩ : ∃ S : Nat → ByteArray, ∀ j, j < nn → ∃ a, sa = some a ∧ a.block < W.heap.size ∧ W.cell? (a.add j) = some (.string (S j)) ∧ (S j).size ≤ 9223372036854775807 := by
    obtain ⟨fuel, hf⟩ := h0
    rcases Go.Deep.open_strs Yba.underlying22 Yba.underlying9 (by kernel_rfl) hf with ⟨hcs, _⟩ | ⟨x, l, cc, m, B, hcs, _, hl, _, hm, _, hcell⟩
    · simp [go_sem] at hcs
      obtain ⟨rfl, rfl, rfl⟩ := hcs
      exact ⟨fun _ => ByteArray.empty, fun j hj => by omega⟩
    · simp [go_sem] at hcs
      obtain ⟨rfl, rfl, rfl⟩ := hcs
      simp only [if_true] at hm
      refine ⟨B, fun j hj => ⟨x, rfl, ?_, (hcell j (by omega)).1, by have := (hcell j (by omega)).2; simpa [maxLen] using this⟩⟩
      have := World.block_lt_of_cell? W _ (hcell j (by omega)).1
      rwa [add_blk] at this
  obtain ⟨R, hR⟩ : ∃ R : Nat → Nat, ∀ j, j < nr → ∃ a, sb = some a ∧ a.block < W.heap.size ∧ W.cell? (a.add j) = some (.int .u16 (R j)) ∧ R j < 65536 := by
    obtain ⟨fuel, hf⟩ := h1
    rcases open_ints Yba.underlying23 Yba.underlying33 (by kernel_rfl) hf with ⟨hcs, _⟩ | ⟨x, l, cc, zs, hcs, _, hl, _, hm, _, hcell, hwf⟩
    · simp [go_sem] at hcs
      obtain ⟨rfl, rfl, rfl⟩ := hcs
      exact ⟨fun _ => 0, fun j hj => by omega⟩
    · simp [go_sem] at hcs
      obtain ⟨rfl, rfl, rfl⟩ := hcs
      simp only [if_true] at hm
      have hb : ∀ j, j < zs.length → 0 ≤ zs.getD j 0 ∧ zs.getD j 0 < 65536 := fun j hj => by
        have h := hwf (zs.getD j 0) (by simp [List.getD, hj])
        have e : zs.getD j 0 = zs[j]?.getD 0 := rfl
        simp [Lit.wf, IntKind.min, IntKind.max, IntKind.bits, IntKind.signed] at h
        omega
      refine ⟨fun j => (zs.getD j 0).toNat, fun j hj => ⟨x, rfl, ?_, ?_, ?_⟩⟩
      · have := World.block_lt_of_cell? W _ (hcell j (by omega))
        rwa [add_blk] at this
      · have h := hb j (by omega)
        rw [hcell j (by omega), Int.toNat_of_nonneg h.1]
      · have h := hb j (by omega)
        show (zs.getD j 0).toNat < 65536
        omega
  clear hA0 hval0
  have hb2 := bounds_u8 w2
  obtain ⟨kk, rfl⟩ : ∃ kk : Nat, a2 = (kk : Int) := ⟨a2.toNat, (Int.toNat_of_nonneg hb2.1).symm⟩
  refine (stop_run sorted_ok sa sb nn ca nr cb kk S R W (by have := hb2.2; omega) hS hR).mono fun e W' ⟨he, bel⟩ => ?_
  subst he
  refine ⟨_, rfl, ?_⟩
  exact ⟨_, _, _, [], _, [], hW', trodAll_mk1 (shut_bool Yba.underlying4 _),
    (trodAll_cons_mk (Below.trod laidOut (by kernel_rfl) (of_decide_eq_true (by kernel_rfl)) k0 bel lt0)
      (trodAll_cons_mk (Below.trod laidOut (by kernel_rfl) (of_decide_eq_true (by kernel_rfl)) k1 bel lt1)
        (trodAll_cons_mk (Below.trod laidOut (by kernel_rfl) (of_decide_eq_true (by kernel_rfl)) k2 bel lt2) trodAll_mk0))), rfl, bel.frame _, fun h => by cases h⟩

theorem over : Rows.lawS3914AStopRow.holds Yba.pinned (OpenSpec.ofChange Rows.lawS3914AStopSpec) :=
  OpenClaim.holds_of_wide 4 Yba.f4 rfl rfl rfl rfl rfl rfl rfl ⟨rfl, rfl, rfl, rfl, rfl⟩ rfl rfl rfl rfl rfl (by kernel_rfl) Yba.func4 (by kernel_rfl)
    (of_decide_eq_true (by kernel_rfl)) (by unfold Func.isWrapper; first | (rw [if_pos (by decide +kernel)]; kernel_rfl) | (rw [if_neg (by decide +kernel)]; exact ⟨rfl, rfl⟩))
    (fun os started H enc _ => lifted os started H enc)

/-- THE STATEMENT -/
theorem proved : Rows.LawS3914AStopSaid :=
  over
end Go.Proofs.Ybulkccao.lawS3914AStop
