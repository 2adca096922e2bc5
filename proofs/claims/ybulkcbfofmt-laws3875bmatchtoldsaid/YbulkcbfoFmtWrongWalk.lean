/- seat b3875aF: LawS3875BWrongTag: the walk -/
import Derived.Test.YbulkcbfoFmtWrong
import Derived.Test.YbulkcbfoFmtBytes
namespace Go.Proofs.YbulkcbfoFmt
open Go Go.RowKit Go.Extern.Stop Go.Stop Go.Extern

theorem made1 {w w1 : World} (h : w.grownBy w1 none) : Below w.heap.size w w1 ∧ w.heap.size ≤ w1.heap.size :=
  ⟨(Below.refl _ _).grown h (Nat.le_refl _) (by intro k hk; cases hk), h.size⟩
theorem app1 {w w1 w2 : World} {o : Obj} {v : Value} {n : Nat} {xs : List Value} (hB : Below w.heap.size w w1) (hown : w1.ownsRow w.heap.size 5 1 v n xs) (h : (w1.alloc o).grownBy w2 v.ownBlock) : Below w.heap.size w w2 ∧ w.heap.size ≤ w2.heap.size := by
  have hs := hB.size
  refine ⟨(hB.alloc hs _).grown h (by simp; omega) (fun k hk => (hown.lt k hk).1), ?_⟩
  have := h.size
  simp at this
  omega
theorem app2 {w w1 w2 : World} {v : Value} {n : Nat} {xs : List Value} (hB : Below w.heap.size w w1) (hown : w1.ownsRow w.heap.size 5 1 v n xs) (h : w1.grownBy w2 v.ownBlock) : Below w.heap.size w w2 ∧ w.heap.size ≤ w2.heap.size := by
  have hs := hB.size
  refine ⟨hB.grown h hs (fun k hk => (hown.lt k hk).1), ?_⟩
  have := h.size
  omega
theorem row_form {w : World} {base n : Nat} {v : Value} {x : Value} {xs : List Value} (h : w.ownsRow base 5 1 v (1 + n) ([x] ++ xs)) :
    ∃ g c, v = .slice (some ⟨g, 0, none⟩) (1 + n) c ∧ g < w.heap.size ∧ w.cell? ⟨g, 0, none⟩ = some x := by
  obtain ⟨hl, h⟩ := h
  rcases h with ⟨_, h0⟩ | ⟨g, cap, cur, rfl, _, hh, hn, _, hs, ht⟩
  · omega
  · have e1 : (cur.toList.take ((1 + n) * 1))[0]? = some x := by rw [ht]; rfl
    rw [List.getElem?_take] at e1
    split at e1
    · have hc : w.cell? ⟨g, 0, none⟩ = some x := by
        simp only [World.cell?, hh]; simp; simpa using e1
      exact ⟨g, cap, rfl, World.block_lt_of_cell? w _ hc, hc⟩
    · cases e1
theorem made2 {w w1 w2 : World} {v : Value} {n : Nat} {xs : List Value} (hB : Below w.heap.size w w1) (hown : w2.ownsRow w.heap.size 5 1 v n xs) (h : w1.grownBy w2 none) :
    Below w.heap.size w w2 ∧ w.heap.size ≤ w2.heap.size ∧ (∀ g c, v = .slice (some ⟨g, 0, none⟩) n c → w.heap.size ≤ g ∧ ∃ cur : List Value, w2.heap[g]? = some (.cells cur.toArray 5 (0, 0)) ∧ n ≤ cur.length) := by
  have hs := hB.size
  have := h.size
  refine ⟨hB.grown h hs (by intro k hk; cases hk), by omega, fun g c hv => ?_⟩
  rcases hown.2 with ⟨h0, _⟩ | ⟨g', cap, cur, hv', hbg, hh, hn, _, hsz, _⟩
  · rw [h0] at hv; cases hv
  · rw [hv] at hv'
    cases hv'
    exact ⟨hbg, cur.toList, by simpa using hh, by simp; omega⟩
theorem row_src {w : World} {sp : Option Addr} {m c : Nat} {zs : List Int} (h : IsRow w sp m c zs) (hp : 0 < (zs.map (Value.int .u8)).length) :
    ∃ ad, sp = some ad ∧ ∀ j v, (zs.map (Value.int .u8))[j]? = some v → w.cell? (ad.add j) = some v := by
  obtain ⟨h1, h2, h3⟩ := h
  simp at hp
  rcases h3 with ⟨_, h0, _⟩ | ⟨x, hx, _, hc⟩
  · omega
  · refine ⟨x, hx, fun j v hj => ?_⟩
    simp only [List.getElem?_map, Option.map_eq_some_iff] at hj
    obtain ⟨z, hz, rfl⟩ := hj
    have hj : j < m := by
      rcases Nat.lt_or_ge j m with h' | h'
      · exact h'
      · rw [List.getElem?_eq_none (by omega)] at hz; cases hz
    rw [hc j hj]; simp [hz]
theorem one_cells (zs : List Int) : ∀ v ∈ zs.map (Value.int .u8), v.oneCell' = true := by
  intro u hu
  simp only [List.mem_map] at hu
  obtain ⟨_, _, rfl⟩ := hu
  rfl
theorem Ybaf.size5 : (Ybaf.prog.info? 5).map (·.size) = some 1 := by kernel_rfl
theorem cell_grown {w w2 : World} {g : Nat} (h : w.grownBy w2 none) (hg : g < w.heap.size) : w2.cell? ⟨g, 0, none⟩ = w.cell? ⟨g, 0, none⟩ :=
  World.cell?_of_block (w := w) (a := ⟨g, 0, none⟩) (h.block g hg (by simp))
set_option maxRecDepth 100000 in
set_option maxHeartbeats 800000 in
theorem wrong_core (F : Interp) (tag t0 : Int) (a1 : Option Addr) (n1 k1 : Nat) (z1 : List Int) (a2 : Option Addr) (n2 k2 : Nat) (z2 : List Int) (w : World) (hF : F.answers w.tape)
    (h1 : IsRow w a1 n1 k1 z1) (h2 : IsRow w a2 n2 k2 z2) (hb1 : (n1 : Int) ≤ 1024) (hb2 : (n2 : Int) ≤ 1024)
    (hne : (tag == 4) = false) (ht0 : Hid (((t0 == 4) = true ∧ tag = 5) ∨ ((t0 == 4) = false ∧ tag = t0))) :
    Calls Ybaf.prog 7 #[.int .u8 t0, .slice a1 n1 k1, .slice a2 n2 k2] w fun e w' => e = .returned (.bool true) ∧ Below w.heap.size w w' := by
  obtain ⟨i0, hi, hz0, hz1, hz2⟩ := info_parts Ybaf.info5
  rcases ht0 with ⟨h4, rfl⟩ | ⟨h4, rfl⟩
  all_goals
    go_enter Ybaf.func7, Ybaf.ntmps7
    go_wp2_with (first
      | (at_make; refine wpList_make_own _ rfl (.const (.int .i64 0)) (.tmp 22) 22 rfl w.heap.size 5 i0 (.int .u8 0) 1 Ybaf.underlying22 hi hz0 hz1 _ _ _ (1 + n1) rfl rfl (by omega) (by rw [hz2]; omega) (by unfold maxLen; omega) (Nat.le_refl _) ?_; intro w1 hown1 hgrow1; obtain ⟨hB1, hs1⟩ := made1 hgrow1; clear hgrow1)
      | (at_builtin; refine wpList_append_own _ rfl (.tmp 24) (.tmp 26) 22 rfl w.heap.size 5 i0 (.int .u8 0) 1 1 Ybaf.underlying22 hi hz0 hz1 hz2 rfl (by decide) _ _ _ rfl (hown1.alloc _) ⟨w1.heap.size, 0, none⟩ 1 1 [.int .u8 _] rfl rfl (cell_one_new _ _ _) (by intro u hu; simp at hu; subst hu; rfl) (by unfold maxLen; omega) (by omega) (by simp; omega) ?_; intro v2 w2 hown2 hgrow2 hnil2; simp only [Nat.zero_add, List.nil_append] at hown2; obtain ⟨hB2, hs2⟩ := app1 hB1 hown1 hgrow2; clear hgrow2 hnil2 hown1)
      | (at_builtin; refine wpList_append_row rfl (.tmp 28) (.tmp 29) rfl w.heap.size _ _ _ rfl hown2 (by decide) a1 n1 k1 z1 rfl (h1.below hB2) (by omega) hs2 ?_; intro v3 w3 hown3 hgrow3; obtain ⟨hB3, hs3⟩ := app2 hB2 hown2 hgrow3; clear hgrow3 hown2; obtain ⟨g3, c3, rfl, hg3, ht3⟩ := row_form hown3; clear hown3)
      | (at_make; refine wpList_make_full _ rfl (.tmp 32) (.tmp 32) 22 rfl w.heap.size 5 i0 (.int .u8 0) 1 Ybaf.underlying22 hi hz0 hz1 _ _ _ _ n2 rfl rfl rfl rfl (by rw [hz2]; omega) (by unfold maxLen; omega) hs3 ?_; intro w4 hown4 hgrow4; obtain ⟨hB4, hs4, hh4⟩ := made2 hB3 hown4 hgrow4; have ht4 := (cell_grown hgrow4 hg3).trans ht3; clear hgrow4 hown4 ht3)
      | (refine wpList_copy_splice rfl (.tmp 34) (.tmp 35) 22 22 rfl 5 Ybaf.underlying22 Ybaf.size5 _ a2 n2 n2 n2 k2 rfl rfl w3.heap.size 0 _ 5 (hh4 _ _ rfl).2.choose_spec.1 (z2.map (Value.int .u8)) (by simp [h2.1]) (fun hp => ⟨rfl, row_src (h2.below hB4) hp⟩) (by have := (hh4 _ _ rfl).2.choose_spec.2; have := h2.1; simp; omega) (one_cells z2) w3.heap.size w4 (Below.refl _ _) (Nat.le_refl _) ?_; intro w5 _ hB5))
    have hB : Below w.heap.size w w5 := hB4.trans (hB5.mono hs3)
    have hz5 := hB.size
    have hF5 : F.answers w5.tape := by rw [hB.tape]; exact hF
    have ht5 := (hB5.cell (p := ⟨g3, 0, none⟩) hg3).trans ht4
    have hg5 := World.block_lt_of_cell? w5 _ ht5
    refine (check_wrong F _ g3 (1 + n1) c3 _ n2 n2 _ _ ?_ ?_ (by omega) ?_ hne).mono ?_
    · exact hF5
    · simp [go_sem]
    · exact (World.cell?_alloc_past _ _ _ hg5).trans ht5
    rintro e w6 ⟨a6, rfl, hB6⟩
    have hfin : Below w.heap.size w w6 := (hB.alloc hz5 _).trans (hB6.mono (by simp; omega))
    clear hB6 hB5 hB4 hB3 hB2 hB1 ht4 ht5 hF5 hF h1 h2
    go_wp2
    go_ret
    exact ⟨rfl, hfin⟩

set_option maxRecDepth 100000 in
set_option maxHeartbeats 400000 in
/-- THE WALK: every input. -/
theorem wrong_walk (F : Interp) (t0 : Int) (a1 : Option Addr) (n1 k1 : Nat) (z1 : List Int) (a2 : Option Addr) (n2 k2 : Nat) (z2 : List Int) (w : World) (hF : F.answers w.tape)
    (h1 : IsRow w a1 n1 k1 z1) (h2 : IsRow w a2 n2 k2 z2) :
    Calls Ybaf.prog 7 #[.int .u8 t0, .slice a1 n1 k1, .slice a2 n2 k2] w fun e w' => e = .returned (.bool true) ∧ Below w.heap.size w w' := by
  by_cases hb1 : (1024 : Int) < (n1 : Int)
  · go_enter Ybaf.func7, Ybaf.ntmps7
    go_wp2
    go_ret
    exact ⟨rfl, Below.refl _ _⟩
  · by_cases hb2 : (1024 : Int) < (n2 : Int)
    · go_enter Ybaf.func7, Ybaf.ntmps7
      go_wp2
      go_ret
      exact ⟨rfl, Below.refl _ _⟩
    · by_cases h4 : t0 = 4
      · exact wrong_core F 5 t0 a1 n1 k1 z1 a2 n2 k2 z2 w hF h1 h2 (by omega) (by omega) rfl (Or.inl ⟨by simp [h4], rfl⟩)
      · exact wrong_core F t0 t0 a1 n1 k1 z1 a2 n2 k2 z2 w hF h1 h2 (by omega) (by omega) (by simp [h4]) (Or.inr ⟨by simp [h4], rfl⟩)
end Go.Proofs.YbulkcbfoFmt
