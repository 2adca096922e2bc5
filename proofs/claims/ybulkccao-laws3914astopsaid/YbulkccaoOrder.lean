/- seat b3914a: the order of sort keys is the law's own order of names -/
import Derived.Test.YbulkccaoCmp
namespace Go.Proofs.Ybulkccao

def escU (c : UInt8) : Bytes := if (lowU c).toNat ≤ 1 then [1, lowU c + 1] else [lowU c]
def escB (l : Bytes) : Bytes := l.flatMap escU ++ [0]
/-- the sort key of a name whose labels, root first, are ls -/
def skey (ls : List Bytes) : Bytes := ls.flatMap escB
def lexC : Bytes → Bytes → Int
  | [], [] => 0
  | [], _ :: _ => -1
  | _ :: _, [] => 1
  | a :: x, b :: y => if a.toNat < b.toNat then -1 else if b.toNat < a.toNat then 1 else lexC x y

theorem lexC_same : ∀ (p a b : Bytes), lexC (p ++ a) (p ++ b) = lexC a b
  | [], _, _ => rfl
  | c :: p, a, b => by simp [lexC, lexC_same p a b]

theorem escU_eq {a b : UInt8} (h : (lowU a).toNat = (lowU b).toNat) : escU a = escU b := by
  have : lowU a = lowU b := UInt8.toNat_inj.1 h
  simp [escU, this]

theorem escU_lt {a b : UInt8} (h : (lowU a).toNat < (lowU b).toNat) (r s : Bytes) : lexC (escU a ++ r) (escU b ++ s) = -1 := by
  have ha := (lowU a).toNat_lt
  have hb := (lowU b).toNat_lt
  unfold escU
  split <;> split
  · rename_i h1 h2
    have e1 : (lowU a + 1).toNat = (lowU a).toNat + 1 := by rw [UInt8.toNat_add]; simp; omega
    have e2 : (lowU b + 1).toNat = (lowU b).toNat + 1 := by rw [UInt8.toNat_add]; simp; omega
    simp [lexC, e1, e2]; omega
  · rename_i h1 h2
    simp [lexC]; omega
  · omega
  · simp [lexC]; omega
theorem escU_gt {a b : UInt8} (h : (lowU b).toNat < (lowU a).toNat) (r s : Bytes) : lexC (escU a ++ r) (escU b ++ s) = 1 := by
  have ha := (lowU a).toNat_lt
  have hb := (lowU b).toNat_lt
  unfold escU
  split <;> split
  · rename_i h1 h2
    have e1 : (lowU a + 1).toNat = (lowU a).toNat + 1 := by rw [UInt8.toNat_add]; simp; omega
    have e2 : (lowU b + 1).toNat = (lowU b).toNat + 1 := by rw [UInt8.toNat_add]; simp; omega
    simp [lexC, e1, e2]; omega
  · omega
  · rename_i h1 h2
    simp [lexC]; omega
  · simp [lexC]; omega
theorem escU_pos (c : UInt8) : ∃ x r, escU c = x :: r ∧ 0 < x.toNat := by
  unfold escU
  split
  · exact ⟨1, _, rfl, by decide⟩
  · exact ⟨_, _, rfl, by omega⟩

theorem escB_cmp : ∀ (x y r s : Bytes), lexC (escB x ++ r) (escB y ++ s) = if cmpB x y = 0 then lexC r s else cmpB x y
  | [], [], r, s => by simp [escB, cmpB, lexC]
  | [], b :: y, r, s => by
    obtain ⟨c, t, he, hc⟩ := escU_pos b
    simp [escB, cmpB, he, lexC]; omega
  | a :: x, [], r, s => by
    obtain ⟨c, t, he, hc⟩ := escU_pos a
    simp [escB, cmpB, he, lexC]; omega
  | a :: x, b :: y, r, s => by
    have ih := escB_cmp x y r s
    simp only [escB, List.flatMap_cons, List.append_assoc] at ih ⊢
    rcases Nat.lt_trichotomy (lowU a).toNat (lowU b).toNat with h | h | h
    · rw [escU_lt h]; simp [cmpB, h]
    · rw [escU_eq h, lexC_same, ih]; simp [cmpB, h]
    · rw [escU_gt h]
      have : ¬ (lowU a).toNat < (lowU b).toNat := by omega
      simp [cmpB, h, this]

theorem skey_cmp : ∀ (A B : List Bytes), lexC (skey A) (skey B) = cmpLs A B
  | [], [] => rfl
  | [], y :: B => by
    simp only [skey, List.flatMap_nil, List.flatMap_cons, escB]
    cases hx : y.flatMap escU ++ [0] with
    | nil => simp at hx
    | cons c t => simp [lexC, cmpLs]
  | x :: A, [] => by
    simp only [skey, List.flatMap_nil, List.flatMap_cons, escB]
    cases hx : x.flatMap escU ++ [0] with
    | nil => simp at hx
    | cons c t => simp [lexC, cmpLs]
  | x :: A, y :: B => by
    have ih := skey_cmp A B
    simp only [skey, List.flatMap_cons] at ih ⊢
    rw [escB_cmp, ih]
    simp [cmpLs]

theorem cmpB_zero : ∀ (x y : Bytes), cmpB x y = 0 ↔ lowL x = lowL y
  | [], [] => by simp [cmpB]
  | [], b :: y => by simp [cmpB, lowL]
  | a :: x, [] => by simp [cmpB, lowL]
  | a :: x, b :: y => by
    have ih := cmpB_zero x y
    simp only [lowL] at ih ⊢
    rcases Nat.lt_trichotomy (lowU a).toNat (lowU b).toNat with h | h | h
    · have : lowU a ≠ lowU b := fun e => by rw [e] at h; omega
      simp [cmpB, h, this]
    · have e : lowU a = lowU b := UInt8.toNat_inj.1 h
      simp [cmpB, e, ih]
    · have : lowU a ≠ lowU b := fun e => by rw [e] at h; omega
      have h2 : ¬ (lowU a).toNat < (lowU b).toNat := by omega
      simp [cmpB, h, h2, this]
theorem cmpLs_zero : ∀ (A B : List Bytes), cmpLs A B = 0 ↔ A.map lowL = B.map lowL
  | [], [] => by simp [cmpLs]
  | [], y :: B => by simp [cmpLs]
  | x :: A, [] => by simp [cmpLs]
  | x :: A, y :: B => by
    have ih := cmpLs_zero A B
    have h0 := cmpB_zero x y
    by_cases h : cmpB x y = 0
    · simp [cmpLs, h, ih, h0.1 h]
    · have : lowL x ≠ lowL y := fun e => h (h0.2 e)
      simp [cmpLs, h, this]
theorem lowL_encL : ∀ (ls : List Bytes), WFL ls → lowL (encL ls) = encL (ls.map lowL)
  | [], _ => by simp [encL, lowL]; decide
  | l :: ls, h => by
    have ih := lowL_encL ls h.tail
    have hl := h.head
    have e : lowU (UInt8.ofNat l.length) = UInt8.ofNat l.length := by
      unfold lowU
      rw [if_neg (by simp; omega)]
    simp only [lowL] at ih ⊢
    simp [encL, e, ih]
    simp [lowL]
theorem encL_inj : ∀ {A B : List Bytes}, WFL A → WFL B → encL A = encL B → A = B
  | [], [], _, _, _ => rfl
  | [], y :: B, _, h, e => by
    have := h.head
    simp [encL] at e
    have e1 := congrArg UInt8.toNat e.1
    simp at e1
    omega
  | x :: A, [], h, _, e => by
    have := h.head
    simp [encL] at e
    have e1 := congrArg UInt8.toNat e.1
    simp at e1
    omega
  | x :: A, y :: B, hA, hB, e => by
    have h1 := hA.head
    have h2 := hB.head
    simp only [encL, List.cons.injEq] at e
    have e1 := congrArg UInt8.toNat e.1
    simp at e1
    have hl : x.length = y.length := by omega
    obtain ⟨e2, e3⟩ := List.append_inj e.2 hl
    rw [e2, encL_inj hA.tail hB.tail e3]
end Go.Proofs.Ybulkccao
