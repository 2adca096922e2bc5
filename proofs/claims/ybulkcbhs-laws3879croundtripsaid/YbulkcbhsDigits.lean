/- seat b3879a: httphead.Digits: its contract -/
import Derived.Test.YbulkcbhsProg
import Derived.Test.YbulkcbhsVal
import Derived.WalkKit
import Derived.WalkSpells
import Derived.WalkLawsBesides
namespace Go.Proofs.Ybulkcbhs
open Go Go.RowKit

/-- A slice of octets as the walk is told of it: 'zs' its elements; where there is one it leads to a row of cells that hold them. -/
def Row (w : World) (a : Option Addr) (n : Nat) (zs : List Int) : Prop :=
  zs.length = n ∧ (∀ z ∈ zs, 0 ≤ z ∧ z ≤ 255) ∧ (n = 0 ∨ ∃ b o, a = some ⟨b, o, none⟩ ∧ ∀ j, j < n → w.cell? ⟨b, o + j, none⟩ = some (.int .u8 (zs.getD j 0)))

theorem Row.bd {w : World} {a : Option Addr} {n : Nat} {zs : List Int} (h : Row w a n zs) (k : Nat) (hk : k < n) : 0 ≤ zs.getD k 0 ∧ zs.getD k 0 ≤ 255 := by
  have hk' : k < zs.length := by rw [h.1]; exact hk
  have : zs.getD k 0 = zs[k] := by simp [hk']
  rw [this]
  exact h.2.1 _ (List.getElem_mem hk')

theorem ret2 {k : IntKind} {a b : Int} {c : Bool} (h : a = b) : Ending.returned (.tuple #[.int k a, .bool c]) = .returned (.tuple #[.int k b, .bool c]) := by rw [h]

set_option maxRecDepth 100000 in
set_option maxHeartbeats 800000 in
/-- refused for its length -/
theorem digits_len (a : Option Addr) (n c : Nat) (p : Int) (w : World) (hn : (n : Int) ≤ 1024) (h : (n : Int) = 0 ∨ p < (n : Int)) :
    Calls Yba.prog 9 #[.slice a n c, .int .i64 p] w fun e w' => e = .returned (.tuple #[.int .i64 0, .bool false]) ∧ w' = w := by
  by_cases h0 : (n : Int) = 0
  · have h0' : ((n : Int) == 0) = true := by simp [h0]
    go_enter Yba.func9, Yba.ntmps9
    go_wp2
    go_ret2
    exact ⟨rfl, rfl⟩
  · have h0' : ((n : Int) == 0) = false := by simp; omega
    have h1 : p < (n : Int) := by omega
    go_enter Yba.func9, Yba.ntmps9
    go_wp2
    go_ret2
    exact ⟨rfl, rfl⟩

set_option maxRecDepth 100000 in
set_option maxHeartbeats 800000 in
theorem digits_ok (a : Option Addr) (n c : Nat) (p : Int) (zs : List Int) (w : World) (hn : (n : Int) ≤ 1024) (h0 : ((n : Int) == 0) = false) (hp : (n : Int) ≤ p) (hr : Row w a n zs) (hd : ∀ k, k < n → 48 ≤ zs.getD k 0 ∧ zs.getD k 0 ≤ 57) :
    Calls Yba.prog 9 #[.slice a n c, .int .i64 p] w fun e w' => e = .returned (.tuple #[.int .i64 (wrap64 (val zs)), .bool true]) ∧ w' = w := by
  rcases hr.2.2 with hz | ⟨b, o, rfl, hc⟩
  · subst hz; simp at h0
  go_enter Yba.func9, Yba.ntmps9
  go_wp2
  go_loop [6, 20] (fun v i => ∃ k : Nat, k ≤ n ∧ i = .int .i64 k ∧ v = .int .i64 (wrap64 (val (zs.take k)))) (fun _ i => n - (intOf i).toNat)
  case atStart => exact ⟨0, Nat.zero_le _, rfl, by simp [val, wrap64]⟩
  case round =>
    obtain ⟨k, hk, rfl, rfl⟩ := hrel
    by_cases hlt : (k : Int) < (n : Int)
    · have hcx := hc k (by omega)
      have hdk := hd k (by omega)
      have hv := val_take_succ zs k (by have := hr.1; omega)
      generalize zs.getD k 0 = z at hcx hdk hv
      have HV : Hid (val (zs.take (k + 1)) = val (zs.take k) * 10 + (z - 48)) := hv
      clear hv hc hd
      obtain ⟨d1, d2⟩ := hdk
      generalize hx : val (zs.take k) = x at HV ⊢
      have HX : Hid (val (zs.take k) = x) := hx
      clear hx
      go_wp2
      go_round
      case rel => exact ⟨k + 1, by omega, by go_num, by rw [wrap_step, HV.out]⟩
      case measure => simp [intOf]; omega
    · go_wp2
      go_ret2
      exact ⟨ret2 (by rw [List.take_of_length_le (by have := hr.1; omega)]), rfl⟩

set_option maxRecDepth 100000 in
set_option maxHeartbeats 800000 in
theorem digits_bad (a : Option Addr) (n c : Nat) (p : Int) (zs : List Int) (w : World) (hn : (n : Int) ≤ 1024) (h0 : ((n : Int) == 0) = false) (hp : (n : Int) ≤ p) (hr : Row w a n zs) (kb : Nat) (hkb : kb < n) (hbad : ¬ (48 ≤ zs.getD kb 0 ∧ zs.getD kb 0 ≤ 57)) :
    Calls Yba.prog 9 #[.slice a n c, .int .i64 p] w fun e w' => e = .returned (.tuple #[.int .i64 0, .bool false]) ∧ w' = w := by
  rcases hr.2.2 with hz | ⟨b, o, rfl, hc⟩
  · omega
  go_enter Yba.func9, Yba.ntmps9
  go_wp2
  go_loop [6, 20] (fun v i => ∃ (k : Nat) (x : Int), k ≤ kb ∧ i = .int .i64 k ∧ v = .int .i64 x) (fun _ i => n - (intOf i).toNat)
  case atStart => exact ⟨0, 0, Nat.zero_le _, rfl, rfl⟩
  case round =>
    obtain ⟨k, x, hk, rfl, rfl⟩ := hrel
    have hlt : (k : Int) < (n : Int) := by omega
    have hcx := hc k (by omega)
    have hbd := hr.bd k (by omega)
    have hkk : k = kb → ¬ (48 ≤ zs.getD k 0 ∧ zs.getD k 0 ≤ 57) := fun e => by rw [e]; exact hbad
    clear hbad hc
    generalize zs.getD k 0 = z at hcx hbd hkk
    obtain ⟨b1, b2⟩ := hbd
    by_cases h1 : z < 48
    · clear hkk
      go_wp2
      go_ret2
      exact ⟨rfl, rfl⟩
    · by_cases h2 : 57 < z
      · clear hkk
        go_wp2
        go_ret2
        exact ⟨rfl, rfl⟩
      · have hne : k < kb := by
          rcases Nat.lt_or_ge k kb with h | h
          · exact h
          · exact absurd ⟨by omega, by omega⟩ (hkk (by omega))
        clear hkk
        go_wp2
        go_round
        case rel => exact ⟨k + 1, _, by omega, by go_num, rfl⟩
        case measure => simp [intOf]; omega
end Go.Proofs.Ybulkcbhs
