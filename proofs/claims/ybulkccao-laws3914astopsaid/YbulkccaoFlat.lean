/- seat b3914a: the expected records are those that come -/
import Derived.Test.YbulkccaoRecs
import Derived.Test.YbulkccaoSorted
namespace Go.Proofs.Ybulkccao
open Go Go.RowKit

theorem sorted_unique : ∀ {a b : List Nd}, a.Pairwise ltN → b.Pairwise ltN → (∀ n, n ∈ a ↔ n ∈ b) → a = b
  | [], [], _, _, _ => rfl
  | [], y :: b, _, _, h => by have := (h y).2 (by simp); simp at this
  | x :: a, [], _, _, h => by have := (h x).1 (by simp); simp at this
  | x :: a, y :: b, ha, hb, h => by
    rw [List.pairwise_cons] at ha hb
    have hxy : x = y := by
      have h1 := (h x).1 (by simp)
      have h2 := (h y).2 (by simp)
      simp at h1 h2
      rcases h1 with h1 | h1
      · exact h1
      · rcases h2 with h2 | h2
        · exact h2.symm
        · exact absurd (ltN_trans (ha.1 y h2) (hb.1 x h1)) (ltN_irrefl x)
    subst hxy
    congr 1
    refine sorted_unique ha.2 hb.2 fun n => ?_
    constructor
    · intro hn
      have := (h n).1 (by simp [hn])
      simp at this
      rcases this with rfl | this
      · exact absurd (ha.1 n hn) (ltN_irrefl n)
      · exact this
    · intro hn
      have := (h n).2 (by simp [hn])
      simp at this
      rcases this with rfl | this
      · exact absurd (hb.1 n hn) (ltN_irrefl n)
      · exact this

open Classical in
theorem flat_same {ss ord : List Nd} {f : Nd → List Rec} (hs : ss.Pairwise ltN) (ho : ord.Pairwise ltN) (hsub : ∀ n ∈ ord, n ∈ ss) (hout : ∀ n ∈ ss, n ∉ ord → f n = []) : ss.flatMap f = ord.flatMap f := by
  have h1 : ss.filter (fun n => decide (n ∈ ord)) = ord := by
    refine sorted_unique (hs.filter _) ho fun n => ?_
    simp only [List.mem_filter, decide_eq_true_eq]
    exact ⟨fun h => h.2, fun h => ⟨hsub n h, h⟩⟩
  have h2 : ∀ l : List Nd, (∀ n ∈ l, n ∈ ss) → l.flatMap f = (l.filter (fun n => decide (n ∈ ord))).flatMap f := by
    intro l
    induction l with
    | nil => intro _; rfl
    | cons n l ih =>
      intro hl
      have ih' := ih (fun m hm => hl m (by simp [hm]))
      by_cases hn : n ∈ ord
      · simp [hn, ih']
      · simp [hn, hout n (hl n (by simp)) hn, ih']
  rw [h2 ss (fun _ h => h), h1]
end Go.Proofs.Ybulkccao
