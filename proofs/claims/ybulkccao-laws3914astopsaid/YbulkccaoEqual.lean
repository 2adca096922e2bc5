/- seat b3914a: (Name).Equal -/
import Derived.Test.YbulkccaoNames
import Derived.Deep.QuietTactic
import Derived.BigQuiet
import Derived.Deep.DeepMust
namespace Go.Proofs.Ybulkccao
open Go Go.RowKit

theorem lowL_take_succ (a b : Bytes) (k : Nat) (h1 : k < a.length) (h2 : k < b.length) : lowL (a.take (k + 1)) = lowL (b.take (k + 1)) ↔ lowL (a.take k) = lowL (b.take k) ∧ lowU a[k] = lowU b[k] := by
  simp only [lowL, List.take_add_one, List.map_append, List.getElem?_eq_getElem h1, List.getElem?_eq_getElem h2, Option.toList, List.map_cons, List.map_nil]
  constructor
  · intro h
    have := List.append_inj h (by simp; omega)
    exact ⟨this.1, by simpa using this.2⟩
  · rintro ⟨e1, e2⟩
    rw [e1, e2]
theorem lowU_ne {x y : UInt8} : ((lowU x).toNat : Int) ≠ (lowU y).toNat ↔ lowU x ≠ lowU y := by
  constructor
  · intro h e; exact h (by rw [e])
  · intro h e; exact h (UInt8.toNat_inj.1 (by omega))

set_option maxRecDepth 100000 in
set_option maxHeartbeats 800000 in
theorem equal_run (a b : Bytes) (w : World) (hsm : a.length ≤ 255) : Calls Yba.prog 19 #[.string (bs a), .string (bs b)] w fun e w' => e = .returned (.bool (decide (lowL a = lowL b))) ∧ ∃ q, w' = w.drewN q := by
  have ha := size_bs a
  have hb := size_bs b
  by_cases hl : a.length = b.length
  · go_enter Yba.func19, Yba.ntmps19
    go_wp2
    go_loopw [5] (fun i wr => (∃ q, wr = w.drewN q) ∧ ∃ k : Nat, k ≤ a.length ∧ i = .int .i64 k ∧ lowL (a.take k) = lowL (b.take k)) (fun i _ => a.length - (intOf i).toNat)
    case atStart => exact ⟨⟨0, rfl⟩, 0, by omega, rfl, rfl⟩
    case round =>
      obtain ⟨hq, k, hk, rfl, hlow⟩ := hrel
      rcases Nat.lt_or_ge k a.length with hlt | hge
      · have i1 : ((bs a)[k]'(by simp; omega)) = a[k] := get_bs a k (by simp; omega)
        have i2 : ((bs b)[k]'(by simp; omega)) = b[k] := get_bs b k (by simp; omega)
        have hc : k < b.length := by omega
        have hI1 : (k : Int) < ((bs a).size : Int) := by simp; omega
        have hI2 : (k : Int) < ((bs b).size : Int) := by simp; omega
        go_wp2
        go_quiet ((go_at_call 26; go_must (refine Calls.quiet_of_same (lower_run _ _))))
        go_wp2
        · rename_i hne
          go_ret
          have hx : lowU a[k] ≠ lowU b[k] := lowU_ne.1 (by simpa using hne)
          have : lowL a ≠ lowL b := fun e => hx (by
            have e2 := congrArg (fun l : Bytes => l[k]?) e
            simpa [lowL, List.getElem?_eq_getElem hlt, List.getElem?_eq_getElem hc] using e2)
          refine ⟨by simp [this], ?_⟩
          obtain ⟨q, rfl⟩ := hq
          exact ⟨q + nq, World.drewN_drewN ..⟩
        · rename_i heq
          go_roundw
          case rel =>
            refine ⟨?_, k + 1, by omega, rfl, (lowL_take_succ a b k hlt hc).2 ⟨hlow, ?_⟩⟩
            · obtain ⟨q, rfl⟩ := hq
              exact ⟨q + nq, World.drewN_drewN ..⟩
            · rcases Decidable.em (lowU a[k] = lowU b[k]) with h | h
              · exact h
              · exact absurd heq (by simpa using lowU_ne.2 h)
          case measure => simp [intOf]; omega
      · go_wp2
        go_ret
        have hkk : k = a.length := by omega
        subst hkk
        rw [List.take_length, hl, List.take_length] at hlow
        exact ⟨by simp [hlow], hq⟩
  · have hne : lowL a ≠ lowL b := fun e => by have := congrArg List.length e; simp [lowL] at this; omega
    have hl' : ¬ ((a.length : Int) = b.length) := by omega
    go_enter Yba.func19, Yba.ntmps19
    go_wp2
    go_ret
    exact ⟨by simp [hne], 0, rfl⟩
end Go.Proofs.Ybulkccao
