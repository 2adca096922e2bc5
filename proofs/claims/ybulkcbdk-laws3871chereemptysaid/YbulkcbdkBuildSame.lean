/- seat b3871a: contracts of strings.Join, slices.Concat, (*toolchain).build at the target 'here' itself: nothing differs -/
import Derived.Test.YbulkcbdkShelf
import Derived.WalkKit
import Derived.WalkSpells
import Derived.Deep.QuietTactic
import Derived.BigQuiet
import Derived.Deep.RegionHeld3
import Derived.Deep.DrawnRows
import Derived.WalkSmall
import Derived.Deep.DeepMust
namespace Go.Proofs.Ybulkcbdk
open Go Go.RowKit
set_option maxHeartbeats 400000 in
/-- strings.Join of no element. -/
theorem join_none (a : Option Addr) (c : Nat) (sep : ByteArray) (w : World) :
    Calls Yba.prog 10 #[.slice a 0 c, .string sep] w fun e w' => e = .returned (.string ByteArray.empty) ∧ w' = w := by
  go_enter Yba.func10, Yba.ntmps10
  go_wp2
  go_ret
  exact ⟨rfl, rfl⟩
set_option maxHeartbeats 400000 in
theorem grow_none (w : World) :
    Calls Yba.prog 15 #[.slice none 0 0, .int .i64 0] w fun e w' => e = .returned (.slice none 0 0) ∧ w' = w := by
  go_enter Yba.func15, Yba.ntmps15
  go_wp2
  go_ret
  exact ⟨rfl, rfl⟩
set_option maxHeartbeats 400000 in
theorem concat_none (b : Nat) (w : World) (h0 : w.cell? ⟨b, 0, none⟩ = some (.slice none 0 0)) (h1 : w.cell? ⟨b, 1, none⟩ = some (.slice none 0 0)) :
    Calls Yba.prog 11 #[.slice (some ⟨b, 0, none⟩) 2 2] w fun e w' => e = .returned (.slice none 0 0) ∧ w' = w := by
  go_enter Yba.func11, Yba.ntmps11
  go_wp2
  go_loop [3, 11] (fun n i => n = .int .i64 0 ∧ ∃ k : Nat, k ≤ 2 ∧ i = .int .i64 k) (fun _ i => 2 - (intOf i).toNat)
  case atStart => exact ⟨rfl, 0, by omega, rfl⟩
  case round =>
    obtain ⟨rfl, k, hk, rfl⟩ := hrel
    obtain rfl | rfl | rfl : k = 0 ∨ k = 1 ∨ k = 2 := by omega
    · go_wp2
      go_round
      case rel => exact ⟨rfl, 1, by omega, rfl⟩
      case measure => simp [intOf]
    · go_wp2
      go_round
      case rel => exact ⟨rfl, 2, by omega, rfl⟩
      case measure => simp [intOf]
    · go_wp2_with (go_at_call 15; refine (grow_none _).mono ?_; rintro e w' ⟨rfl, rfl⟩)
      go_loop [6, 27] (fun n i => n = .slice none 0 0 ∧ ∃ k : Nat, k ≤ 2 ∧ i = .int .i64 k) (fun _ i => 2 - (intOf i).toNat)
      case atStart => exact ⟨rfl, 0, by omega, rfl⟩
      case round =>
        obtain ⟨rfl, k, hk, rfl⟩ := hrel
        obtain rfl | rfl | rfl : k = 0 ∨ k = 1 ∨ k = 2 := by omega
        · go_wp2
          go_round
          case rel => exact ⟨rfl, 1, by omega, rfl⟩
          case measure => simp [intOf]
        · go_wp2
          go_round
          case rel => exact ⟨rfl, 2, by omega, rfl⟩
          case measure => simp [intOf]
        · go_wp2
          go_ret
          exact ⟨rfl, rfl⟩
theorem concat_new (b n : Nat) (W : World) (hb : b = W.heap.size) :
    Calls Yba.prog 11 #[.slice (some ⟨b, 0, none⟩) 2 2] ((W.alloc (Obj.cells #[.slice none 0 0, .slice none 0 0] 22)).drewN n) fun e w' => e = .returned (.slice none 0 0) ∧ w' = (W.alloc (Obj.cells #[.slice none 0 0, .slice none 0 0] 22)).drewN n := by
  subst hb
  exact concat_none _ _ (by simp [go_sem]) (by simp [go_sem])
theorem alloc_drewN (w : World) (n : Nat) (o : Obj) : (w.drewN n).alloc o = (w.alloc o).drewN n := rfl
theorem setCell_drewN (w : World) (n : Nat) (a : Addr) (v : Value) : (w.drewN n).setCell a v = (w.setCell a v).drewN n := rfl
attribute [local go_sem] alloc_drewN setCell_drewN
theorem draw_more (W : World) (n x q : Nat) : ∃ m, (W.drewN (n + x)).drewN q = W.drewN (n + m) := ⟨x + q, by rw [World.drewN_drewN, Nat.add_assoc]⟩
theorem quiet_eq {B : Nat} {w W : World} {f : FuncId} {args : Array Value} {v : Value} {n : Nat} (h : ∀ w', Below B w w' → Calls Yba.prog f args w' fun e w'' => e = .returned v ∧ ∃ q, w'' = w'.drewN q)
    (hb : Below B w (W.drewN n)) : Calls Yba.prog f args (W.drewN n) fun e w'' => e = .returned v ∧ ∃ m, w'' = W.drewN m :=
  (h _ hb).mono fun e w'' ⟨he, q, hq⟩ => ⟨he, n + q, by rw [hq, World.drewN_drewN]⟩
set_option maxHeartbeats 800000 in
theorem build_same (tb : Nat) (g a : ByteArray) (c : Bool) (a1 a2 : Option Addr) (n1 k1 n2 k2 : Nat) (w : World)
    (c0 : w.cell? ⟨tb, 0, none⟩ = some (.string g)) (c1 : w.cell? ⟨tb, 1, none⟩ = some (.string a)) (c2 : w.cell? ⟨tb, 2, none⟩ = some (.bool c)) (c3 : w.cell? ⟨tb, 3, none⟩ = some (.slice a2 n2 k2))
    (heq : Hid (∀ w', Below w.heap.size w w' → Calls Yba.prog 9 #[.slice a1 n1 k1, .slice a2 n2 k2] w' fun e w'' => e = .returned (.bool true) ∧ ∃ q, w'' = w'.drewN q)) :
    Calls Yba.prog 6 #[.pointer (some ⟨tb, 0, none⟩), .agg #[.string g, .string a, .bool c, .slice a1 n1 k1]] w fun e w' =>
      ∃ nb, e = .returned (.pointer (some ⟨nb, 0, none⟩)) ∧ w.heap.size ≤ nb ∧ nb < w'.heap.size ∧ Below w.heap.size w w' ∧
        w'.cell? ⟨nb, 4, none⟩ = some (.string ByteArray.empty) ∧ w'.cell? ⟨nb, 5, none⟩ = some (.slice none 0 0) ∧ w'.cell? ⟨nb, 6, none⟩ = some (.slice none 0 0) := by
  have htb : tb < w.heap.size := World.block_lt_of_cell? w _ c0
  go_enter Yba.func6, Yba.ntmps6
  go_wp2
  go_quiet (fail)
  go_wp2
  go_quiet (fail)
  go_wp2
  go_quiet ((go_at_call 9; go_must (refine (heq.out _ (below_drewN (((Below.refl _ _).alloc (Nat.le_refl _) _).alloc (by simp) _) _)).mono ?_; rintro e w'' ⟨rfl, q, rfl⟩; exact ⟨rfl, draw_more _ _ _ _⟩)))
  go_wp2
  go_region_held3 (fun w' => w'.cell? ⟨w.heap.size + 1, 5, none⟩ = some (.slice none 0 0) ∧ w'.cell? ⟨w.heap.size + 1, 6, none⟩ = some (.slice none 0 0)) (go_keep)
    (first | (go_at_call 11; refine (concat_new _ _ _ (by simp)).mono ?_; rintro e w' ⟨rfl, rfl⟩) | (go_at_call 10; refine (join_none _ _ _ _).mono ?_; rintro e w' ⟨rfl, rfl⟩))
  go_wp2
  go_ret
  refine ⟨w.heap.size + 1, rfl, by omega, by simp, ?_, by simp [go_sem], by simp [go_sem], by simp [go_sem]⟩
  exact below_drewN ((((Below.refl _ _).alloc (Nat.le_refl _) _).alloc (by simp) _).alloc (by simp; omega) _) _
set_option maxHeartbeats 400000 in
theorem tgt_any (g a : ByteArray) (c : Bool) (a1 : Option Addr) (n1 k1 : Nat) (w : World) :
    Calls Yba.prog 5 #[.agg #[.string g, .string a, .bool c, .slice a1 n1 k1]] w fun e w' => e = .returned (.agg #[.string g, .string a, .bool c, .slice a1 n1 k1]) ∧
      w' = (w.alloc (.cells #[.string g, .string a, .bool c, .slice a1 n1 k1] 24)).alloc (.cells #[.string g, .string a, .bool c, .slice a1 n1 k1] 27) := by
  go_enter Yba.func5, Yba.ntmps5
  go_wp2
  exact bodyPost_ret (v := .agg #[.string g, .string a, .bool c, .slice a1 n1 k1]) (by simp [results, Yba.results5, go_sem]) rfl ⟨rfl, rfl⟩
end Go.Proofs.Ybulkcbdk
