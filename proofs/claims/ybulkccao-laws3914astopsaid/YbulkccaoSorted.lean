/- seat b3914a: the order of nodes -/
import Derived.Test.YbulkccaoZone
namespace Go.Proofs.Ybulkccao
open Go Go.RowKit

theorem lexC_anti : ∀ a b : Bytes, lexC a b = - lexC b a
  | [], [] => rfl
  | [], _ :: _ => rfl
  | _ :: _, [] => rfl
  | a :: x, b :: y => by
    have ih := lexC_anti x y
    simp only [lexC]
    split <;> split <;> simp_all <;> omega
theorem lexC_trans : ∀ a b c : Bytes, lexC a b < 0 → lexC b c < 0 → lexC a c < 0
  | [], [], [], h, _ => by simp [lexC] at h
  | [], [], _ :: _, h, _ => by simp [lexC] at h
  | [], _ :: _, [], _, h => by simp [lexC] at h
  | [], _ :: _, _ :: _, _, _ => by simp [lexC]
  | _ :: _, [], _, h, _ => by simp [lexC] at h
  | _ :: _, _ :: _, [], _, h => by simp [lexC] at h
  | a :: x, b :: y, c :: z, h1, h2 => by
    have ih := lexC_trans x y z
    simp only [lexC] at h1 h2 ⊢
    split at h1 <;> split at h2 <;> (try split at h1) <;> (try split at h2) <;> (try (exfalso; omega)) <;> split <;> (try split) <;> (try omega) <;> (try exact ih h1 h2)

def ltN (a b : Nd) : Prop := cmpLs a.2.reverse b.2.reverse < 0
theorem ltN_skey (a b : Nd) : ltN a b ↔ lexC (skey a.2.reverse) (skey b.2.reverse) < 0 := by rw [ltN, skey_cmp]
theorem ltN_trans {a b c : Nd} (h1 : ltN a b) (h2 : ltN b c) : ltN a c := by
  rw [ltN_skey] at *
  exact lexC_trans _ _ _ h1 h2
theorem ltN_irrefl (a : Nd) : ¬ ltN a a := by
  rw [ltN_skey]
  have := lexC_anti (skey a.2.reverse) (skey a.2.reverse)
  omega
theorem ltN_of_gt {a b : Nd} (h : 0 < cmpLs a.2.reverse b.2.reverse) : ltN b a := by
  rw [ltN_skey, lexC_anti, skey_cmp]
  omega
theorem ltN_of_le {a b : Nd} (h : ¬ 0 < cmpLs a.2.reverse b.2.reverse) (hw : WFL a.2) (hw' : WFL b.2) (hk : nkey a.2 ≠ nkey b.2) : ltN a b := by
  have h0 : cmpLs a.2.reverse b.2.reverse ≠ 0 := by
    intro e
    rw [cmpLs_zero, List.map_reverse, List.map_reverse, List.reverse_inj] at e
    exact hk (by rw [nkey, nkey, lowL_encL _ hw, lowL_encL _ hw', e])
  unfold ltN
  omega
theorem insert_stop {A B : List Nd} {x : Nd} (h : (A ++ B).Pairwise ltN) (hB : ∀ b ∈ B, ltN x b) (hA : ∀ a ∈ A, ltN a x) : (A ++ x :: B).Pairwise ltN := by
  rw [List.pairwise_append] at h ⊢
  refine ⟨h.1, List.pairwise_cons.2 ⟨hB, h.2.1⟩, fun a ha b hb => ?_⟩
  simp at hb
  rcases hb with rfl | hb
  · exact hA a ha
  · exact h.2.2 a ha b hb
theorem all_lt_last {A : List Nd} {a x : Nd} {B : List Nd} (h : ((A ++ [a]) ++ B).Pairwise ltN) (hx : ltN a x) : ∀ b ∈ A ++ [a], ltN b x := by
  rw [List.pairwise_append, List.pairwise_append] at h
  intro b hb
  simp at hb
  rcases hb with hb | rfl
  · exact ltN_trans (h.1.2.2 b hb a (by simp)) hx
  · exact hx
end Go.Proofs.Ybulkccao
