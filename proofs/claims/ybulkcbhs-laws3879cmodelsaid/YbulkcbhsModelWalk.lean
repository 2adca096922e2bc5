/- seat b3879a: LawS3879CModel: the walk -/
import Derived.Test.YbulkcbhsDigits
namespace Go.Proofs.Ybulkcbhs
open Go Go.RowKit

theorem wrap_u64 (n : Int) : IntKind.u64.wrap n = m64 n := by
  simp [IntKind.wrap, IntKind.signed, IntKind.bits, m64]
theorem m64_wrap (v : Int) : m64 (wrap64 v) = m64 v := by
  unfold m64 wrap64
  omega
theorem pw_step (j : Nat) : IntKind.u64.wrap (m64 (10 ^ j) * 10) = m64 (10 ^ (j + 1)) := by
  rw [wrap_u64, Int.pow_succ]
  generalize (10 : Int) ^ j = a
  unfold m64
  omega
theorem sum_step (d x y : Int) : IntKind.u64.wrap (m64 y + IntKind.u64.wrap (d * m64 x)) = m64 (d * x + y) := by
  have h : d * (x % 18446744073709551616) % 18446744073709551616 = d * x % 18446744073709551616 := by
    rw [Int.mul_emod, Int.emod_emod, ← Int.mul_emod]
  rw [wrap_u64, wrap_u64]
  unfold m64
  rw [h]
  generalize d * x = a
  omega
set_option maxRecDepth 100000 in
set_option maxHeartbeats 800000 in
theorem model_big (a : Option Addr) (n c : Nat) (p : Int) (w : World) (hn : (1024 : Int) < (n : Int)) :
    Calls Yba.prog 4 #[.slice a n c, .int .i64 p] w fun e w' => e = .returned (.bool true) ∧ w' = w := by
  go_enter Yba.func4, Yba.ntmps4
  go_wp2
  go_ret
  exact ⟨rfl, rfl⟩

set_option maxRecDepth 100000 in
set_option maxHeartbeats 800000 in
theorem model_len (a : Option Addr) (n c : Nat) (p : Int) (w : World) (hn : (n : Int) ≤ 1024) (h : (n : Int) = 0 ∨ p < (n : Int)) :
    Calls Yba.prog 4 #[.slice a n c, .int .i64 p] w fun e w' => e = .returned (.bool true) ∧ w' = w := by
  have H := digits_len a n c p w hn h
  by_cases h0 : (n : Int) = 0
  · have h0' : ((n : Int) == 0) = true := by simp [h0]
    clear h
    go_enter Yba.func4, Yba.ntmps4
    go_wp2_with (go_at_call 9; refine H.mono ?_; rintro e w' ⟨rfl, rfl⟩)
    go_ret
    exact ⟨rfl, rfl⟩
  · have h0' : ((n : Int) == 0) = false := by simp; omega
    have h1 : p < (n : Int) := by omega
    clear h
    go_enter Yba.func4, Yba.ntmps4
    go_wp2_with (go_at_call 9; refine H.mono ?_; rintro e w' ⟨rfl, rfl⟩)
    go_ret
    exact ⟨rfl, rfl⟩

set_option maxRecDepth 100000 in
set_option maxHeartbeats 800000 in
theorem model_bad (a : Option Addr) (n c : Nat) (p : Int) (zs : List Int) (w : World) (hn : (n : Int) ≤ 1024) (h0 : ((n : Int) == 0) = false) (hp : (n : Int) ≤ p) (hr : Row w a n zs) (kb : Nat) (hkb : kb < n) (hbad : ¬ (48 ≤ zs.getD kb 0 ∧ zs.getD kb 0 ≤ 57)) :
    Calls Yba.prog 4 #[.slice a n c, .int .i64 p] w fun e w' => e = .returned (.bool true) ∧ w' = w := by
  have H := digits_bad a n c p zs w hn h0 hp hr kb hkb hbad
  rcases hr.2.2 with hz | ⟨b, o, rfl, hc⟩
  · omega
  go_enter Yba.func4, Yba.ntmps4
  go_wp2_with (go_at_call 9; refine H.mono ?_; rintro e w' ⟨rfl, rfl⟩)
  go_loop [7] (fun i => ∃ (k : Nat), k ≤ kb ∧ i = .int .i64 k) (fun i => n - (intOf i).toNat)
  case atStart => exact ⟨0, Nat.zero_le _, rfl⟩
  case round =>
    obtain ⟨k, hk, rfl⟩ := hrel
    have hlt : (k : Int) < (n : Int) := by omega
    have hcx := hc k (by omega)
    have hbd := hr.bd k (by omega)
    have hkk : k = kb → ¬ (48 ≤ zs.getD k 0 ∧ zs.getD k 0 ≤ 57) := fun e => by rw [e]; exact hbad
    clear hbad hc H
    generalize zs.getD k 0 = z at hcx hbd hkk
    obtain ⟨b1, b2⟩ := hbd
    by_cases h1 : z < 48
    · clear hkk
      go_wp2
      go_ret
      exact ⟨rfl, rfl⟩
    · by_cases h2 : 57 < z
      · clear hkk
        go_wp2
        go_ret
        exact ⟨rfl, rfl⟩
      · have hne : k < kb := by
          rcases Nat.lt_or_ge k kb with h | h
          · exact h
          · exact absurd ⟨by omega, by omega⟩ (hkk (by omega))
        clear hkk
        go_wp2
        go_round
        case rel => exact ⟨k + 1, by omega, by go_num⟩
        case measure => simp [intOf]; omega

set_option maxRecDepth 100000 in
set_option maxHeartbeats 800000 in
theorem model_ok (a : Option Addr) (n c : Nat) (p : Int) (zs : List Int) (w : World) (hn : (n : Int) ≤ 1024) (h0 : ((n : Int) == 0) = false) (hp : (n : Int) ≤ p) (hr : Row w a n zs) (hd : ∀ k, k < n → 48 ≤ zs.getD k 0 ∧ zs.getD k 0 ≤ 57) :
    Calls Yba.prog 4 #[.slice a n c, .int .i64 p] w fun e w' => e = .returned (.bool true) ∧ w' = w := by
  have H := digits_ok a n c p zs w hn h0 hp hr hd
  rcases hr.2.2 with hz | ⟨b, o, rfl, hc⟩
  · subst hz; simp at h0
  generalize hv : val zs = V at H
  have HV : Hid (val zs = V) := hv
  clear hv
  go_enter Yba.func4, Yba.ntmps4
  go_wp2_with (go_at_call 9; refine H.mono ?_; rintro e w' ⟨rfl, rfl⟩)
  go_loop [7] (fun i => ∃ (k : Nat), k ≤ n ∧ i = .int .i64 k) (fun i => n - (intOf i).toNat)
  case atStart => exact ⟨0, Nat.zero_le _, rfl⟩
  case round =>
    obtain ⟨k, hk, rfl⟩ := hrel
    by_cases hlt : (k : Int) < (n : Int)
    · have hcx := hc k (by omega)
      have hdk := hd k (by omega)
      clear hc hd H
      generalize zs.getD k 0 = z at hcx hdk
      obtain ⟨d1, d2⟩ := hdk
      go_wp2
      go_round
      case rel => exact ⟨k + 1, by omega, by go_num⟩
      case measure => simp [intOf]; omega
    · clear H
      go_wp2
      go_loop [8, 9, 10] (fun v q i => ∃ j : Nat, j ≤ n ∧ i = .int .i64 ((n : Int) - 1 - j) ∧ q = .int .u64 (m64 (10 ^ j)) ∧ v = .int .u64 (m64 (val (zs.drop (n - j))))) (fun _ _ i => (intOf i + 1).toNat)
      case atStart => exact ⟨0, Nat.zero_le _, by simp, by simp [m64], by rw [List.drop_of_length_le (by have := hr.1; omega)]; simp [val, m64]⟩
      case round =>
        obtain ⟨j, hj, rfl, rfl, rfl⟩ := hrel
        by_cases hlt2 : (j : Int) < (n : Int)
        · have hidx : (n : Int) - 1 - j = ((n - (j + 1) : Nat) : Int) := by omega
          have hcx := hc (n - (j + 1)) (by omega)
          have hdk := hd (n - (j + 1)) (by omega)
          have hvd := val_drop zs (n - (j + 1)) (by have := hr.1; omega)
          rw [show n - (j + 1) + 1 = n - j by omega, show zs.length - (n - j) = j by have := hr.1; omega] at hvd
          generalize zs.getD (n - (j + 1)) 0 = z at hcx hdk hvd
          rw [hidx]
          obtain ⟨d1, d2⟩ := hdk
          generalize hx : m64 (10 ^ j) = x
          generalize hy : m64 (val (zs.drop (n - j))) = y
          have HX : Hid (m64 (10 ^ j) = x) := hx
          have HY : Hid (m64 (val (zs.drop (n - j))) = y) := hy
          have HD : Hid (val (zs.drop (n - (j + 1))) = (z - 48) * 10 ^ j + val (zs.drop (n - j))) := hvd
          have hkk : n - (j + 1) < n := by omega
          clear hc hd hx hy hvd hidx
          go_wp2
          go_round
          case rel => exact ⟨j + 1, by omega, by go_num, by rw [← HX.out, pw_step], by rw [HD.out, ← HX.out, ← HY.out, sum_step]⟩
          case measure => simp [intOf]
        · have hjn : j = n := by omega
          subst hjn
          rw [show (j : Int) - 1 - (j : Int) = -1 by omega, Nat.sub_self, List.drop_zero, HV.out]
          have hfin : (IntKind.u64.wrap (wrap64 V) == m64 V) = true := by rw [wrap_u64, beq_iff_eq]; exact m64_wrap V
          generalize hy : m64 V = y at hfin ⊢
          clear hy hc hd
          go_wp2
          go_ret
          exact ⟨rfl, rfl⟩

/-- THE WALK: every input. -/
theorem model_walk (a : Option Addr) (n c : Nat) (p : Int) (zs : List Int) (w : World) (hr : Row w a n zs) :
    Calls Yba.prog 4 #[.slice a n c, .int .i64 p] w fun e w' => e = .returned (.bool true) ∧ w' = w := by
  by_cases hb : (1024 : Int) < (n : Int)
  · exact model_big a n c p w hb
  · by_cases hl : (n : Int) = 0 ∨ p < (n : Int)
    · exact model_len a n c p w (by omega) hl
    · by_cases hd : ∀ k, k < n → 48 ≤ zs.getD k 0 ∧ zs.getD k 0 ≤ 57
      · exact model_ok a n c p zs w (by omega) (by simp; omega) (by omega) hr hd
      · rw [Classical.not_forall] at hd
        obtain ⟨kb, hkb⟩ := hd
        rw [Classical.not_imp] at hkb
        exact model_bad a n c p zs w (by omega) (by simp; omega) (by omega) hr kb hkb.1 hkb.2
end Go.Proofs.Ybulkcbhs
