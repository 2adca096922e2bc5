/- seat b3914a: zzs3914acmp -/
import Derived.Test.YbulkccaoLabels
namespace Go.Proofs.Ybulkccao
open Go Go.RowKit Go.Lib

def cmpB : Bytes → Bytes → Int
  | [], [] => 0
  | [], _ :: _ => -1
  | _ :: _, [] => 1
  | a :: x, b :: y => if (lowU a).toNat < (lowU b).toNat then -1 else if (lowU b).toNat < (lowU a).toNat then 1 else cmpB x y
def cmpLs : List Bytes → List Bytes → Int
  | [], [] => 0
  | [], _ :: _ => -1
  | _ :: _, [] => 1
  | x :: la, y :: lb => if cmpB x y = 0 then cmpLs la lb else cmpB x y

theorem drop_cons {α : Type} (l : List α) (k : Nat) (h : k < l.length) : l.drop k = l[k] :: l.drop (k + 1) := List.drop_eq_getElem_cons h

theorem endB {x y : Bytes} {j : Nat} (h : ¬ (j < x.length ∧ j < y.length)) (hx : j ≤ x.length) (hy : j ≤ y.length) (hc : cmpB x y = cmpB (x.drop j) (y.drop j)) : cmpB x y = if x.length < y.length then -1 else if y.length < x.length then 1 else 0 := by
  rw [hc]
  rcases Nat.lt_or_ge j x.length with h1 | h1
  · have e : j = y.length := by omega
    subst e
    rw [drop_cons x _ h1, List.drop_length, if_neg (by omega), if_pos h1]
    rfl
  · have e : j = x.length := by omega
    subst e
    rw [List.drop_length]
    rcases Nat.lt_or_ge x.length y.length with h2 | h2
    · rw [drop_cons y _ h2, if_pos h2]; rfl
    · have e2 : y.drop x.length = [] := List.drop_eq_nil_of_le h2
      rw [e2, if_neg (by omega), if_neg (by omega)]; rfl
theorem endL {x y : List Bytes} {j : Nat} (h : ¬ (j < x.length ∧ j < y.length)) (hx : j ≤ x.length) (hy : j ≤ y.length) (hc : cmpLs x y = cmpLs (x.drop j) (y.drop j)) : cmpLs x y = if x.length < y.length then -1 else if y.length < x.length then 1 else 0 := by
  rw [hc]
  rcases Nat.lt_or_ge j x.length with h1 | h1
  · have e : j = y.length := by omega
    subst e
    rw [drop_cons x _ h1, List.drop_length, if_neg (by omega), if_pos h1]
    rfl
  · have e : j = x.length := by omega
    subst e
    rw [List.drop_length]
    rcases Nat.lt_or_ge x.length y.length with h2 | h2
    · rw [drop_cons y _ h2, if_pos h2]; rfl
    · have e2 : y.drop x.length = [] := List.drop_eq_nil_of_le h2
      rw [e2, if_neg (by omega), if_neg (by omega)]; rfl

set_option maxRecDepth 100000 in
set_option maxHeartbeats 3200000 in
theorem cmp_run (la lb : List Bytes) (w : World) (ha : WFL la) (hb : WFL lb) (hna : la ≠ []) (hnb : lb ≠ []) :
    Calls Yba.prog 10 #[.string (bs (encL la)), .string (bs (encL lb))] w fun e w' => e = .returned (.int .i64 (cmpLs la.reverse lb.reverse)) ∧ Below w.heap.size w w' := by
  have hfa := ha.few
  have hfb := hb.few
  obtain ⟨A, hA⟩ : ∃ A, la.reverse = A := ⟨_, rfl⟩
  obtain ⟨Bl, hBl⟩ : ∃ Bl, lb.reverse = Bl := ⟨_, rfl⟩
  have hAl : A.length = la.length := by rw [← hA]; simp
  have hBll : Bl.length = lb.length := by rw [← hBl]; simp
  have hshA : ∀ l ∈ A, l.length ≤ 3 := fun l hl => (ha.short l (by rw [← hA] at hl; simpa using hl)).2
  have hshB : ∀ l ∈ Bl, l.length ≤ 3 := fun l hl => (hb.short l (by rw [← hBl] at hl; simpa using hl)).2
  have hca := labels_run la w ha hna
  have hcb : ∀ w1 : World, _ := fun w1 => labels_run lb w1 hb hnb
  rw [hA, hBl]
  simp only [hA, hBl] at hca hcb
  go_enter Yba.func10, Yba.ntmps10
  go_wp2_with (first | (go_at_call 22; refine hca.mono ?_; clear hca; rintro e w1 ⟨ga, ca, rfl, hga, hBa, hcella⟩) | (go_at_call 22; refine (hcb _).mono ?_; clear hcb; rintro e w2 ⟨gb, cb, rfl, hgb, hBb, hcellb⟩))
  have hB2 : Below w.heap.size w w2 := hBa.trans ⟨hBb.os, hBb.tape, hBb.output, hBb.size, fun k hk => hBb.block k (Nat.lt_of_lt_of_le hk hBa.size)⟩
  have hcA : ∀ j (h : j < A.length), w2.cell? ⟨ga, j, none⟩ = some (.string (bs A[j])) := fun j hj => by
    have h1 := hcella j (by omega)
    have := hBb.cell (p := ⟨ga, j, none⟩) (World.block_lt_of_cell? w1 _ h1)
    rw [this, h1]
  have hcB : ∀ j (h : j < Bl.length), w2.cell? ⟨gb, j, none⟩ = some (.string (bs Bl[j])) := fun j hj => hcellb j (by omega)
  clear hcella hcellb hBa hBb
  rw [← hAl] at hfa
  rw [← hBll] at hfb
  go_loopw [7] (fun i wr => wr = w2 ∧ ∃ k : Nat, i = .int .i64 k ∧ k ≤ A.length ∧ k ≤ Bl.length ∧ cmpLs A Bl = cmpLs (A.drop k) (Bl.drop k)) (fun i _ => 3 - (intOf i).toNat)
  case atStart => exact ⟨rfl, 0, rfl, by omega, by omega, rfl⟩
  case round =>
    obtain ⟨rfl, k, rfl, hkA, hkB, hcmp⟩ := hrel
    by_cases hgo : k < A.length ∧ k < Bl.length
    · obtain ⟨h1, h2⟩ := hgo
      have c1 := hcA k h1
      have c2 := hcB k h2
      rw [drop_cons A k h1, drop_cons Bl k h2] at hcmp
      have l1 := hshA A[k] (List.getElem_mem h1)
      have l2 := hshB Bl[k] (List.getElem_mem h2)
      obtain ⟨x, hx⟩ : ∃ x, A[k] = x := ⟨_, rfl⟩
      obtain ⟨y, hy⟩ : ∃ y, Bl[k] = y := ⟨_, rfl⟩
      rw [hx] at c1 hcmp l1
      rw [hy] at c2 hcmp l2
      have sx := size_bs x
      have sy := size_bs y
      clear hcA hcB hx hy
      go_wp2
      go_loopw [10] (fun jv wr' => wr' = wr ∧ ∃ j : Nat, jv = .int .i64 j ∧ j ≤ x.length ∧ j ≤ y.length ∧ cmpB x y = cmpB (x.drop j) (y.drop j)) (fun jv _ => 3 - (intOf jv).toNat)
      case atStart => exact ⟨rfl, 0, rfl, by omega, by omega, rfl⟩
      case round =>
        obtain ⟨rfl, j, rfl, hjx, hjy, hcb⟩ := hrel
        by_cases hgo : j < x.length ∧ j < y.length
        · obtain ⟨g1, g2⟩ := hgo
          have i1 : ∀ h, ((bs x)[j]'h) = x[j] := fun h => get_bs x j h
          have i2 : ∀ h, ((bs y)[j]'h) = y[j] := fun h => get_bs y j h
          rw [drop_cons x j g1, drop_cons y j g2] at hcb
          rcases Nat.lt_trichotomy (lowU x[j]).toNat (lowU y[j]).toNat with hl | hl | hl
          · have e : cmpB x y = -1 := by rw [hcb]; simp [cmpB, hl]
            go_wp2_with (go_at_call 23; refine (low_run _ _).mono ?_; rintro e w' ⟨rfl, rfl⟩)
            go_ret
            exact ⟨by simp [hcmp, cmpLs, e], hB2⟩
          · have e : cmpB x y = cmpB (x.drop (j + 1)) (y.drop (j + 1)) := by rw [hcb]; simp [cmpB, hl]
            clear hcb
            go_wp2_with (go_at_call 23; refine (low_run _ _).mono ?_; rintro e w' ⟨rfl, rfl⟩)
            go_roundw
            case rel =>
              simp
              exact ⟨_, _, ⟨j + 1, rfl, by omega, by omega, e⟩, rfl, rfl, by omega⟩
            case measure => simp [intOf]; omega
          · have e : cmpB x y = 1 := by
              have : ¬ (lowU x[j]).toNat < (lowU y[j]).toNat := by omega
              rw [hcb]; simp [cmpB, hl, this]
            go_wp2_with (go_at_call 23; refine (low_run _ _).mono ?_; rintro e w' ⟨rfl, rfl⟩)
            go_ret
            exact ⟨by simp [hcmp, cmpLs, e], hB2⟩
        · have hend := endB hgo hjx hjy hcb
          clear hcb
          rcases Nat.lt_trichotomy x.length y.length with hl | hl | hl
          · rw [if_pos hl] at hend
            go_wp2
            all_goals
              go_ret
              exact ⟨by simp [hcmp, cmpLs, hend], hB2⟩
          · rw [if_neg (by omega), if_neg (by omega)] at hend
            go_wp2
            all_goals
              go_roundw
              case rel => exact ⟨trivial, k + 1, rfl, by omega, by omega, by rw [hcmp]; simp [cmpLs, hend]⟩
              case measure => simp [intOf]; omega
          · rw [if_neg (by omega), if_pos hl] at hend
            go_wp2
            all_goals
              go_ret
              exact ⟨by simp [hcmp, cmpLs, hend], hB2⟩
    · have hend := endL hgo hkA hkB hcmp
      clear hcmp
      rcases Nat.lt_trichotomy A.length Bl.length with hl | hl | hl
      · rw [if_pos hl] at hend
        go_wp2
        all_goals
          go_ret
          exact ⟨by simp [hend], hB2⟩
      · rw [if_neg (by omega), if_neg (by omega)] at hend
        go_wp2
        all_goals
          go_ret
          exact ⟨by simp [hend], hB2⟩
      · rw [if_neg (by omega), if_pos hl] at hend
        go_wp2
        all_goals
          go_ret
          exact ⟨by simp [hend], hB2⟩
end Go.Proofs.Ybulkccao
