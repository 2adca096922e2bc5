/- seat b3879a: the plain mathematics of httphead.Digits: no Go in sight -/
import Derived.RowKit
namespace Go.Proofs.Ybulkcbhs
open Go.RowKit

/-- the number that a list of decimal digits' octets writes -/
def val : List Int → Int
  | [] => 0
  | z :: zs => (z - 48) * 10 ^ zs.length + val zs

def isDig (z : Int) : Bool := decide (48 ≤ z) && decide (z ≤ 57)

theorem val_snoc (zs : List Int) (z : Int) : val (zs ++ [z]) = val zs * 10 + (z - 48) := by
  induction zs with
  | nil => simp [val]
  | cons a zs ih =>
    simp only [List.cons_append, val, ih, List.length_append, List.length_cons, List.length_nil]
    rw [Int.pow_succ, Int.add_mul, Int.mul_assoc]
    omega

theorem val_take_succ (zs : List Int) (k : Nat) (h : k < zs.length) : val (zs.take (k + 1)) = val (zs.take k) * 10 + (zs.getD k 0 - 48) := by
  rw [List.take_succ_eq_append_getElem h, val_snoc]; simp [h]

theorem val_drop (zs : List Int) (k : Nat) (h : k < zs.length) : val (zs.drop k) = (zs.getD k 0 - 48) * 10 ^ (zs.length - (k + 1)) + val (zs.drop (k + 1)) := by
  rw [List.drop_eq_getElem_cons h, val]; simp [h]

theorem wrap_step (v d : Int) : wrap64 (wrap64 (wrap64 v * 10) + d) = wrap64 (v * 10 + d) := by
  unfold wrap64
  omega

/-- the remainder that a uint64 keeps -/
def m64 (n : Int) : Int := n % 18446744073709551616
end Go.Proofs.Ybulkcbhs
