/- seat b3914a: the nodes sorted by their keys (13, 14) -/
import Derived.Test.YbulkccaoSortShelf
import Derived.Test.YbulkccaoShelf
import Derived.Test.YbulkccaoSorted
import Derived.Test.YbulkccaoRecs
namespace Go.Proofs.Ybulkccao
open Go Go.RowKit Go.Shelf Go.Sort

def encN (n : Nd) : List Value := [.string (bs (skey n.2.reverse)), nptr n]
def cfN (x y : Nd) : Int := lexC (skey x.2.reverse) (skey y.2.reverse)

theorem compare_lex : ∀ a b : Bytes, Lib.compareBytes a b = lexC a b
  | [], [] => rfl
  | [], _ :: _ => rfl
  | _ :: _, [] => rfl
  | a :: x, b :: y => by
    have ih := compare_lex x y
    simp only [Lib.compareBytes, lexC, ih, UInt8.lt_iff_toNat_lt]

theorem lexC_zero : ∀ {a b : Bytes}, lexC a b = 0 → a = b
  | [], [], _ => rfl
  | [], _ :: _, h => by simp [lexC] at h
  | _ :: _, [], h => by simp [lexC] at h
  | a :: x, b :: y, h => by
    simp only [lexC] at h
    split at h
    · omega
    · split at h
      · omega
      · rw [lexC_zero h, UInt8.toNat_inj.1 (show a.toNat = b.toNat by omega)]
theorem lt_iff (x y : Nd) : ltOf cfN x y = true ↔ ltN x y := by
  rw [ltN_skey]
  unfold ltOf cfN
  exact decide_eq_true_iff
theorem swoN : SWO (ltOf cfN) where
  irrefl x := by
    cases h : ltOf cfN x x with
    | false => rfl
    | true => exact absurd ((lt_iff x x).1 h) (ltN_irrefl x)
  trans x y z h1 h2 := (lt_iff x z).2 (ltN_trans ((lt_iff x y).1 h1) ((lt_iff y z).1 h2))
  ntrans x y z h1 h2 := by
    cases h : ltOf cfN x z with
    | false => rfl
    | true =>
      exfalso
      have h3 := (lt_iff x z).1 h
      have n1 : ¬ ltN x y := fun e => by rw [(lt_iff x y).2 e] at h1; cases h1
      have n2 : ¬ ltN y z := fun e => by rw [(lt_iff y z).2 e] at h2; cases h2
      rw [ltN_skey] at *
      have ha := lexC_anti (skey x.2.reverse) (skey y.2.reverse)
      rcases Int.lt_trichotomy (lexC (skey x.2.reverse) (skey y.2.reverse)) 0 with h4 | h4 | h4
      · exact n1 h4
      · rw [lexC_zero h4] at h3; exact n2 h3
      · exact n2 (lexC_trans _ _ _ (by omega) h3)

set_option maxRecDepth 100000 in
theorem closure14 (x y : Nd) (W : World) : Calls Yba.prog 14 #[.agg #[.string (bs (skey x.2.reverse)), nptr x], .agg #[.string (bs (skey y.2.reverse)), nptr y]] W fun e w' => e = .returned (.int .i64 (cfN x y)) ∧ ∃ q os', w' = grow (W.drewN q) os' := by
  have hcon := fun W' => Yba.strings_Compare (bs (skey x.2.reverse)) (bs (skey y.2.reverse)) W'
  rw [show Lib.compareBytes (bs (skey x.2.reverse)).data.toList (bs (skey y.2.reverse)).data.toList = cfN x y from compare_lex _ _] at hcon
  generalize cfN x y = r at hcon ⊢
  simp only [nptr]
  go_enter Yba.func14, Yba.ntmps14
  go_wp2_with (go_at_call 15; refine (hcon _).mono ?_; rintro e w' ⟨rfl, hw'⟩; have hw2 := hw'.symm; clear hw'; subst hw2)
  go_ret
  exact ⟨rfl, 0, _, by rw [alloc_eq_grow, alloc_eq_grow, grow_grow]; rfl⟩

theorem flat_at (l : List Nd) (j c : Nat) (h : j < l.length) (hc : c < 2) : (l.flatMap encN)[j * 2 + c]? = (encN l[j])[c]? := by
  induction l generalizing j with
  | nil => simp at h
  | cons n l ih =>
    cases j with
    | zero =>
      simp only [List.flatMap_cons, Nat.zero_mul, Nat.zero_add, List.getElem_cons_zero]
      rw [List.getElem?_append_left (by simp [encN]; omega)]
    | succ j =>
      have := ih j (by simpa using h)
      simp only [List.flatMap_cons, List.getElem_cons_succ]
      rw [List.getElem?_append_right (by simp [encN]; omega), ← this]
      congr 1
      simp [encN]
      omega

set_option maxRecDepth 100000 in
theorem sort_run (B g cap : Nat) (l : List Nd) (w : World) (hrow : w.ownsRow B 74 2 (.slice (some ⟨g, 0, none⟩) l.length cap) l.length (l.flatMap encN)) (hl : l.length ≤ 1000) :
    Calls Yba.prog 13 #[.slice (some ⟨g, 0, none⟩) l.length cap, .func (.func 14) #[] #[]] w fun e w' => e = .returned (.tuple #[]) ∧ ∃ ss : List Nd, ss.Perm l ∧ (∀ i j, i < j → (hj : j < ss.length) → ∀ hi : i < ss.length, ¬ ltN ss[j] ss[i]) ∧
      (∃ cur : Array Value, w'.heap[g]? = some (.cells cur 74 (0, 0)) ∧ ∀ j (h : j < ss.length), cur[j * 2]? = some (.string (bs (skey ss[j].2.reverse))) ∧ cur[j * 2 + 1]? = some (nptr ss[j])) ∧
      w'.os = w.os ∧ w'.tape = w.tape ∧ w'.output = w.output ∧ w.heap.size ≤ w'.heap.size ∧ ∀ k, k < w.heap.size → k ≠ g → w'.heap[k]? = w.heap[k]? := by
  have hgl : g < w.heap.size := (hrow.lt g rfl).2
  have hH : HoldsK encN 2 w g 0 l.toArray := by
    intro t ht
    simp only [size_flatK, List.size_toArray] at ht
    have h2 : t / 2 < l.length := by omega
    refine ⟨?_, hrow.frozenAt _⟩
    rw [get_flatK _ _ _ _ (by simpa using ht)]
    have h3 := flat_at l (t / 2) (t % 2) h2 (Nat.mod_lt _ (by decide))
    rw [show t / 2 * 2 + t % 2 = t by omega] at h3
    rw [Nat.zero_add, hrow.cellAt t (by omega), h3]
    have h4 : t % 2 < (encN l[t / 2]).length := by simp [encN]; omega
    simp [h2, h4]
  have hcon := AnyQ.slices_SortFunc Yba.sortKeyed 2 Yba.isAgg74 Yba.sizeOf74 encN (fun _ => rfl) (fun x v hv => by simp [encN] at hv; rcases hv with rfl | rfl <;> rfl) cfN swoN 14 #[] g 0 cap l.toArray w (enters_of Yba.func14 (by kernel_rfl) rfl) (fun _ _ _ _ x y => closure14 x y _) hH hgl (by simp; omega)
  change Calls Yba.prog 13 _ _ _ at hcon
  simp only [List.size_toArray] at hcon
  refine hcon.mono ?_
  rintro e w' ⟨rfl, d', m, os, hp, hs, rfl⟩
  have hds : d'.size = l.length := by simpa using hp.1
  have hheap : (sortWorldK encN 2 w g 0 m d' os).heap = (w.heap.modify g (onCells (putCells id 0 (flatK encN 2 d')))) ++ os := rfl
  have hlt : ∀ k, k < w.heap.size → (sortWorldK encN 2 w g 0 m d' os).heap[k]? = (w.heap.modify g (onCells (putCells id 0 (flatK encN 2 d'))))[k]? := fun k hk => by
    rw [hheap, Array.getElem?_append_left (by simpa using hk)]
  refine ⟨rfl, d'.toList, ?_, ?_, ?_, rfl, rfl, rfl, ?_, ?_⟩
  · have h := hp.2.2
    rw [← hds] at h
    simp only [Array.extract_size] at h
    have e : l.toArray.extract 0 d'.size = l.toArray := by rw [hds]; simp
    rw [e] at h
    simpa using h
  · intro i j hij hj hi hlt'
    simp only [Array.length_toList] at hj hi
    have h := hs i j (Nat.zero_le _) hij (by omega)
    rw [getElem!_pos d' j hj, getElem!_pos d' i hi] at h
    have := (lt_iff d'[j] d'[i]).2 (by simpa using hlt')
    rw [this] at h
    cases h
  · obtain ⟨cur, hcur⟩ := ownsRow_typ hrow (k := g) rfl
    have hcs : l.length * 2 ≤ cur.size := by
      rcases hrow.2 with ⟨h, _⟩ | ⟨g', cap', cur', h, _, hg, hn, _, hsz, _⟩
      · simp at h
      · simp at h
        obtain ⟨rfl, rfl⟩ := h
        rw [hcur] at hg
        cases hg
        omega
    refine ⟨putCells id 0 (flatK encN 2 d') cur, ?_, fun j hj => ?_⟩
    · rw [hlt g hgl, Array.getElem?_modify, if_pos rfl, hcur]
      rfl
    · simp only [Array.length_toList] at hj
      have hc : ∀ c, c < 2 → (putCells id 0 (flatK encN 2 d') cur)[j * 2 + c]? = (encN d'[j])[c]? := fun c hc => by
        have hlt2 : j * 2 + c < cur.size := by omega
        rw [putCells, Array.getElem?_mapIdx, Array.getElem?_eq_getElem hlt2]
        simp only [Option.map_some, Nat.zero_le, true_and, Nat.zero_add, size_flatK, Nat.sub_zero, id]
        rw [if_pos (by omega), get_flatK _ _ _ _ (by omega), show (j * 2 + c) / 2 = j by omega, show (j * 2 + c) % 2 = c by omega, getElem!_pos d' j hj]
        have h4 : c < (encN d'[j]).length := by simp [encN]; omega
        simp [h4]
      have h0 := hc 0 (by decide)
      have h1 := hc 1 (by decide)
      simp only [encN, Nat.add_zero] at h0 h1
      exact ⟨by simpa using h0, by simpa using h1⟩
  · rw [hheap]; simp
  · intro k hk hne
    rw [hlt k hk, Array.getElem?_modify, if_neg (Ne.symm hne)]
end Go.Proofs.Ybulkccao
