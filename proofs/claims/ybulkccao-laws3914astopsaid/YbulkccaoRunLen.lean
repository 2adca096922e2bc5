/- seat b3914a: runLen (51) -/
import Derived.Test.YbulkccaoRecs
import Derived.RangeFuncKeeps
import Derived.Shelf.Abstract
namespace Go.Proofs.Ybulkccao
open Go Go.RowKit

def Dat.typ (d : Dat) : Nat :=
  match d.kind with
  | 0 => 1
  | 1 => 2
  | 2 => 15
  | _ => 6
theorem Dat.typ_soa (d : Dat) : d.typ = 6 ↔ d.isSoa = true := by
  obtain ⟨k, r, h⟩ := d
  rcases k with _ | _ | _ | k <;> simp [Dat.typ, Dat.isSoa]
theorem Dat.typ_lt (d : Dat) : d.typ < 16 := by
  obtain ⟨k, r, h⟩ := d
  rcases k with _ | _ | _ | k <;> simp [Dat.typ]
/-- how many records of type t lead l -/
def runL (t : Nat) : List Rec → Nat
  | [] => 0
  | r :: l => if r.d.typ = t then runL t l + 1 else 0
theorem runL_le (t : Nat) : ∀ l : List Rec, runL t l ≤ l.length
  | [] => by simp [runL]
  | r :: l => by have := runL_le t l; simp only [runL]; split <;> simp <;> omega
theorem runL_all (t : Nat) : ∀ l : List Rec, ∀ r ∈ l.take (runL t l), r.d.typ = t
  | [], r, h => by simp at h
  | x :: l, r, h => by
    simp only [runL] at h
    split at h
    · rename_i hx
      simp at h
      rcases h with rfl | h
      · exact hx
      · exact runL_all t l r h
    · simp at h
theorem runL_of (t : Nat) : ∀ (a b : List Rec), (∀ r ∈ a, r.d.typ = t) → runL t (a ++ b) = a.length + runL t b
  | [], b, _ => by simp
  | x :: a, b, h => by
    have ih := runL_of t a b (fun r hr => h r (by simp [hr]))
    simp [runL, h x (by simp), ih]
    omega

/-- (RData).Type, called on what a record holds -/
theorem typ_any (d : Dat) : ∃ (T : TypeId) (x : Value) (fn : FuncId), d.val = .iface T x ∧ (∀ w : World, (method 247 T x "Type").run Yba.prog w = .ok (fn, x) w) ∧ (∀ args (w : World), (callFunc fn args).run Yba.prog w = .ok (.enter fn args) w) ∧ (∀ w : World, Calls Yba.prog fn #[x] w fun e w' => e = .returned (.int .u16 d.typ) ∧ ∃ o, w' = w.alloc o) := by
  obtain ⟨k, r, h⟩ := d
  rcases k with _ | _ | _ | k
  · exact ⟨_, _, 80, rfl, m55 _, enters_of Yba.func80 (by kernel_rfl) rfl, fun w => typ_a _ _ _ _ w⟩
  · exact ⟨_, _, 83, rfl, m57 _, enters_of Yba.func83 (by kernel_rfl) rfl, fun w => typ_ns _ w⟩
  · exact ⟨_, _, 86, rfl, m62 _, enters_of Yba.func86 (by kernel_rfl) rfl, fun w => typ_mx _ _ w⟩
  · exact ⟨_, _, 89, rfl, m64 _, enters_of Yba.func89 (by kernel_rfl) rfl, fun w => typ_soa _ _ _ _ _ _ _ w⟩

set_option maxRecDepth 100000 in
set_option maxHeartbeats 2000000 in
theorem runLen_run (sp : Option Addr) (cap : Nat) (l : List Rec) (t : Nat) (w : World) (hl : l.length ≤ 300)
    (h : l ≠ [] → ∃ g off, sp = some ⟨g, off, none⟩ ∧ g < w.heap.size ∧ ∀ j (h : j < l.length), w.cell? ⟨g, off + j * 4 + 3, none⟩ = some (l[j].d.val)) :
    Calls Yba.prog 51 #[.slice sp l.length cap, .int .u16 t] w fun e w' => e = .returned (.int .i64 (runL t l)) ∧ Below w.heap.size w w' := by
  go_enter Yba.func51, Yba.ntmps51
  go_wp2
  go_loopw [8] (fun i wr => ∃ k : Nat, k ≤ l.length ∧ i = .int .i64 k ∧ (∀ r ∈ l.take k, r.d.typ = t) ∧ Below w.heap.size w wr) (fun i _ => l.length - (RowKit.intOf i).toNat)
  case atStart => exact ⟨0, by omega, rfl, by simp, Below.refl _ _⟩
  case round =>
    obtain ⟨k, hk, rfl, hall, hB⟩ := hrel
    rcases Nat.lt_or_ge k l.length with hkl | hkl
    · obtain ⟨g, off, rfl, hg, hc⟩ := h (by rintro rfl; simp at hkl)
      have c3 : wr.cell? ⟨g, off + k * 4 + 3, none⟩ = some (l[k].d.val) := (hB.cell (p := ⟨g, off + k * 4 + 3, none⟩) hg).trans (hc k hkl)
      obtain ⟨r, hr⟩ : ∃ r, l[k] = r := ⟨_, rfl⟩
      have htk : l.take (k + 1) = l.take k ++ [r] := by rw [List.take_succ_eq_append_getElem hkl, hr]
      have hsp : l = l.take k ++ r :: l.drop (k + 1) := by rw [← hr]; simp
      have hrun : r.d.typ ≠ t → runL t l = k := fun hne => by
        rw [hsp, runL_of t _ _ hall, runL, if_neg hne]
        simp
        omega
      rw [hr] at c3
      have htl := r.d.typ_lt
      obtain ⟨T, x, fn, hv, hm, hen, hcall⟩ := typ_any r.d
      rw [hv] at c3
      clear hr hsp hc h hv
      by_cases hty : r.d.typ = t
      · have hty' : (r.d.typ : Int) = t := by omega
        go_wp2_with (refine (hcall _).mono ?_; rintro e w' ⟨rfl, o, hw'⟩; subst hw')
        go_roundw
        case rel => exact ⟨k + 1, by omega, rfl, fun y hy => by
          rw [htk, List.mem_append] at hy
          rcases hy with hy | hy
          · exact hall y hy
          · simp at hy; subst hy; exact hty, hB.alloc hB.size _⟩
        case measure =>
          simp [RowKit.intOf]
          omega
      · have hty' : ¬ (r.d.typ : Int) = t := by omega
        go_wp2_with (refine (hcall _).mono ?_; rintro e w' ⟨rfl, o, hw'⟩; subst hw')
        go_ret
        exact ⟨by simp [hrun hty], hB.alloc hB.size _⟩
    · have hkl' : k = l.length := by omega
      have hrun : runL t l = l.length := by
        rw [List.take_of_length_le hkl] at hall
        have := runL_of t l [] hall
        simpa [runL] using this
      clear h
      go_wp2
      go_ret
      exact ⟨by simp [hrun], hB⟩
end Go.Proofs.Ybulkccao
