/- seat b3879a: writing a number in decimal and reading it back: the plain mathematics -/
import Derived.Test.YbulkcbhsVal
namespace Go.Proofs.Ybulkcbhs
open Go.RowKit

def digs (L : List Int) : Prop := ∀ z ∈ L, 48 ≤ z ∧ z ≤ 57

theorem val_nonneg (L : List Int) (h : digs L) : 0 ≤ val L := by
  induction L with
  | nil => simp [val]
  | cons a L ih =>
    have h1 := (h a (by simp)).1
    have h2 := ih (fun z hz => h z (by simp [hz]))
    simp only [val]
    have h3 : 0 ≤ (a - 48) * 10 ^ L.length := Int.mul_nonneg (by omega) (Int.le_of_lt (Int.pow_pos (by decide)))
    omega

/-- The law's first loop: what is left to write is x, what is written (the lowest digit first) is L. -/
structure Inv (v x : Int) (L : List Int) : Prop where
  pos : 0 ≤ x
  eq : v = x * 10 ^ L.length + val L.reverse
  dig : digs L
  len : L.length ≤ 18
  ne : x = 0 → L ≠ []

theorem inv_zero : Inv 0 0 [48] := ⟨by decide, by simp [val], by intro z hz; simp at hz; omega, by simp, by simp⟩
theorem inv_start (v : Int) (h : 0 < v) : Inv v v [] := ⟨by omega, by simp [val], (by intro z hz; cases hz), by simp, fun h' => by omega⟩

theorem inv_step {v x : Int} {L : List Int} (h : Inv v x L) (hx : 0 < x) (hv : v < 10 ^ 18) : Inv v (x / 10) (L ++ [48 + x % 10]) := by
  obtain ⟨_, h2, h3, h4, _⟩ := h
  have hn := val_nonneg L.reverse (fun z hz => h3 z (by simpa using hz))
  have hlt : L.length < 18 := by
    rcases Nat.lt_or_ge L.length 18 with hl | hl
    · exact hl
    · have : L.length = 18 := by omega
      rw [this] at h2
      omega
  refine ⟨by omega, ?_, ?_, by simp; omega, fun _ => by simp⟩
  · rw [List.reverse_append]
    simp only [List.reverse_cons, List.reverse_nil, List.nil_append, List.cons_append, val, List.length_append, List.length_cons, List.length_nil, List.length_reverse]
    have hq : x * 10 ^ L.length = (x / 10) * 10 ^ (L.length + 1) + (x % 10) * 10 ^ L.length := by
      have e : x = x / 10 * 10 + x % 10 := by omega
      rw [Int.pow_succ]
      calc x * 10 ^ L.length = (x / 10 * 10 + x % 10) * 10 ^ L.length := by rw [← e]
        _ = x / 10 * (10 ^ L.length * 10) + x % 10 * 10 ^ L.length := by rw [Int.add_mul, Int.mul_assoc, Int.mul_comm 10]
    have e2 : (48 + x % 10 - 48 : Int) = x % 10 := by omega
    rw [h2, hq, e2]
    simp only [Nat.zero_add]
    omega
  · intro z hz
    simp at hz
    rcases hz with hz | rfl
    · exact h3 z hz
    · omega

theorem inv_end {v : Int} {L : List Int} (h : Inv v 0 L) : val L.reverse = v := by have := h.eq; simp at this; exact this.symm

/-- A leading zero more changes nothing. -/
theorem val_zero (L : List Int) : val (L ++ [48]).reverse = val L.reverse := by
  rw [List.reverse_append]; simp [val]
theorem digs_zero {L : List Int} (h : digs L) : digs (L ++ [48]) := by
  intro z hz
  simp at hz
  rcases hz with hz | rfl
  · exact h z hz
  · omega
end Go.Proofs.Ybulkcbhs
