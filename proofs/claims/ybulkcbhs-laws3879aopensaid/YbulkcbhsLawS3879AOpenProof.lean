/- seat b3879a: LawS3879AOpen: the statement (the frame: the guide's own shell) -/
import Derived.Test.YbulkcbhsRows
import Derived.Test.YbulkcbhsOpen7
import Derived.WalkKit
import Derived.ProofKit
import Derived.OpenShut
import Derived.ShutString
import Derived.ChangeOld
import Derived.ChangeAlike
import Derived.Below
import Derived.Carry
import Derived.Deep.Grids
namespace Go.Proofs.Ybulkcbhs.lawS3879AOpen
open Go.ChangeShapes Go.WideShapes Go.ChangeAt Go.RowKit
open Go.ChangeMaps (open_string shut_string)
set_option linter.unusedVariables false

theorem own : ownKnob Yba.prog.godebug = none := by kernel_rfl
theorem laidOut : laidOutB Yba.prog = true := by kernel_rfl

set_option maxRecDepth 100000 in
theorem lifted (os : Os) (started : os.Started) (H : Type) (enc : TypeId × Value → H) :
    ReturnsInHanded {} Yba.checked os 3 .any (Rows.lawS3879AOpenSpec.pre6 enc Yba.prog Yba.f3 Rows.lawS3879AOpenRow.domain false) (Rows.lawS3879AOpenSpec.post enc Yba.prog Yba.f3 false true false false) := by
  refine returnsInHanded_of_change (C := Yba.checked) own started (by kernel_rfl) Yba.func3
    (ChangeSpec.witness6 (enc := enc) (C := Yba.checked) false ⟨#[], #[.int .u8 0, .string ByteArray.empty, .string ByteArray.empty, .slice none 0 0, .bool false], []⟩ 8 (by kernel_rfl) (by kernel_rfl) (by kernel_rfl) (by kernel_rfl)) ?_
  intro W base args ds gs before hval0 hW hcnd _
  have hval : ∀ (j : Nat) t v, Yba.f3.params[j]? = some t → args[j]? = some v → Value.okWide Yba.prog W .any base t v := hval0
  have hW' := hW
  obtain ⟨p, q, hA0, hV, rfl, hfz, hnd⟩ := hW
  have hA : DataW.TrodAll enc Yba.prog W 0 (fun _ => true) true Yba.f3.params.toList args.toList ds p := hA0
  rw [Yba.params3] at hA hval
  obtain ⟨v0, vs0, d0, ds0, p0, q0, hargs, rfl, rfl, h0, r0⟩ := trodAll_cons hA
  obtain ⟨v1, vs1, d1, ds1, p1, q1, rfl, rfl, rfl, h1, r1⟩ := trodAll_cons r0
  obtain ⟨v2, vs2, d2, ds2, p2, q2, rfl, rfl, rfl, h2, r2⟩ := trodAll_cons r1
  obtain ⟨v3, vs3, d3, ds3, p3, q3, rfl, rfl, rfl, h3, r3⟩ := trodAll_cons r2
  obtain ⟨v4, vs4, d4, ds4, p4, q4, rfl, rfl, rfl, h4, r4⟩ := trodAll_cons r3
  obtain ⟨rfl, rfl, rfl⟩ := trodAll_nil r4
  obtain rfl : args = #[v0, v1, v2, v3, v4] := by cases args; simp_all
  obtain ⟨rfl, rfl⟩ := trodVars_none hV
  have k0 := h0
  have k1 := h1
  have k2 := h2
  have k3 := h3
  have k4 := h4
  have lt0 : ∀ x ∈ p0, x.block < W.heap.size := by obtain ⟨m, hm⟩ := k0; exact DataW.trod_lt m _ _ _ hm
  have lt1 : ∀ x ∈ p1, x.block < W.heap.size := by obtain ⟨m, hm⟩ := k1; exact DataW.trod_lt m _ _ _ hm
  have lt2 : ∀ x ∈ p2, x.block < W.heap.size := by obtain ⟨m, hm⟩ := k2; exact DataW.trod_lt m _ _ _ hm
  have lt3 : ∀ x ∈ p3, x.block < W.heap.size := by obtain ⟨m, hm⟩ := k3; exact DataW.trod_lt m _ _ _ hm
  have lt4 : ∀ x ∈ p4, x.block < W.heap.size := by obtain ⟨m, hm⟩ := k4; exact DataW.trod_lt m _ _ _ hm
  obtain ⟨a0, rfl, _, _, w0⟩ := open_int Yba.underlying5 (hval 0 5 v0 rfl rfl) h0
  obtain ⟨a1, rfl, _, _, _⟩ := open_string Yba.underlying9 (hval 1 9 v1 rfl rfl) h1
  obtain ⟨a2, rfl, _, _, _⟩ := open_string Yba.underlying9 (hval 2 9 v2 rfl rfl) h2
  obtain ⟨sa, n, k, rfl⟩ := okWide_slice Yba.underlying22 (hval 3 22 v3 rfl rfl)
  obtain ⟨a4, rfl, _, _⟩ := open_bool Yba.underlying4 (hval 4 4 v4 rfl rfl) h4
  obtain ⟨B, hB⟩ : ∃ B : Nat → Bool, ∀ j, j < n → ∃ a, sa = some a ∧ a.block < W.heap.size ∧ W.cell? (a.add j) = some (.bool (B j)) := by
    obtain ⟨fuel, hf⟩ := h3
    rcases Go.Deep.open_bools Yba.underlying22 Yba.underlying4 (by kernel_rfl) hf with ⟨hcs, _⟩ | ⟨x, l, cc, B, hcs, _, hl, _, _, hcell⟩
    · simp [go_sem] at hcs
      obtain ⟨rfl, rfl, rfl⟩ := hcs
      exact ⟨fun _ => false, fun j hj => by omega⟩
    · simp [go_sem] at hcs
      obtain ⟨rfl, rfl, rfl⟩ := hcs
      refine ⟨B, fun j hj => ⟨x, rfl, ?_, hcell j (by omega)⟩⟩
      have := World.block_lt_of_cell? W _ (hcell j (by omega))
      rwa [add_blk] at this
  clear hA0 hval0
  refine (open_core a0 a1 a2 sa n k a4 B W (bounds_u8 w0).1 (by have := (bounds_u8 w0).2; omega) hB).mono fun e W' ⟨he, kept⟩ => ?_
  subst he
  have bel : Below W.heap.size W { W' with tape := W.tape } := ⟨kept.os, rfl, kept.output, kept.size, kept.low⟩
  refine ⟨_, rfl, ChangeSpec.post_alike (W'' := { W' with tape := W.tape }) ?_ ⟨rfl, rfl, rfl⟩⟩
  exact ⟨_, _, _, [], _, [], hW', trodAll_mk1 (shut_bool Yba.underlying4 _),
    (trodAll_cons_mk (Below.trod laidOut (by kernel_rfl) (of_decide_eq_true (by kernel_rfl)) k0 bel lt0)
      (trodAll_cons_mk (Below.trod laidOut (by kernel_rfl) (of_decide_eq_true (by kernel_rfl)) k1 bel lt1)
        (trodAll_cons_mk (Below.trod laidOut (by kernel_rfl) (of_decide_eq_true (by kernel_rfl)) k2 bel lt2)
          (trodAll_cons_mk (Below.trod laidOut (by kernel_rfl) (of_decide_eq_true (by kernel_rfl)) k3 bel lt3)
            (trodAll_cons_mk (Below.trod laidOut (by kernel_rfl) (of_decide_eq_true (by kernel_rfl)) k4 bel lt4) trodAll_mk0))))), rfl, bel.frame _, fun h => by cases h⟩

theorem over : Rows.lawS3879AOpenRow.holds Yba.pinned (OpenSpec.ofChange Rows.lawS3879AOpenSpec) :=
  OpenClaim.holds_of_wide 3 Yba.f3 rfl rfl rfl rfl rfl rfl rfl ⟨rfl, rfl, rfl, rfl, rfl⟩ rfl rfl rfl rfl rfl (by kernel_rfl) Yba.func3 (by kernel_rfl)
    (of_decide_eq_true (by kernel_rfl)) (by unfold Func.isWrapper; first | (rw [if_pos (by decide +kernel)]; kernel_rfl) | (rw [if_neg (by decide +kernel)]; exact ⟨rfl, rfl⟩))
    (fun os started H enc _ => lifted os started H enc)

/-- THE STATEMENT -/
theorem proved : Rows.LawS3879AOpenSaid :=
  over
end Go.Proofs.Ybulkcbhs.lawS3879AOpen
