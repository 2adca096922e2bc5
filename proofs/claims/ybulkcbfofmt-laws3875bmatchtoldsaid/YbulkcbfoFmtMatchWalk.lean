/- seat b3875aF: LawS3875BMatch: the walk -/
import Derived.Test.YbulkcbfoFmtParse
import Derived.Test.YbulkcbfoFmtWrongWalk
namespace Go.Proofs.YbulkcbfoFmt
open Go Go.RowKit

/-- an owned row of bytes, as a slice of bytes -/
theorem row_of_own {w : World} {base n : Nat} {v : Value} {zs : List Int} (h : w.ownsRow base 5 1 v n (zs.map (Value.int .u8))) (hn : 0 < n) :
    ∃ g c, v = .slice (some ⟨g, 0, none⟩) n c ∧ base ≤ g ∧ g < w.heap.size ∧ c ≤ maxLen ∧ IsRow w (some ⟨g, 0, none⟩) n c zs := by
  obtain ⟨hl, h⟩ := h
  simp at hl
  rcases h with ⟨_, h0⟩ | ⟨g, cap, cur, rfl, hbg, hh, hnc, hcm, hs, ht⟩
  · omega
  · have hlt : g < w.heap.size := by
      rcases Nat.lt_or_ge g w.heap.size with hlt | hge
      · exact hlt
      · rw [Array.getElem?_eq_none hge] at hh; cases hh
    refine ⟨g, cap, rfl, hbg, hlt, hcm, hl, hnc, Or.inr ⟨_, rfl, fun _ => hlt, fun i hi => ?_⟩⟩
    have e1 : (cur.toList.take (n * 1))[i]? = some (.int .u8 (zs.getD i 0)) := by
      rw [ht]; simp [hl, hi]
    rw [List.getElem?_take] at e1
    split at e1
    · rw [Go.WideShapes.add_plain]
      simp only [World.cell?, hh]; simp; simpa using e1
    · cases e1

/-- a block whose cells begin with the bytes zs, as a slice of bytes -/
theorem row_of_block {w : World} {g n : Nat} {zs : List Int} {cur : List Value} (hg : w.heap[g]? = some (.cells cur.toArray 5 (0, 0))) (hl : zs.length = n) (hc : ∀ i, i < n → cur[i]? = some (.int .u8 (zs.getD i 0))) :
    IsRow w (some ⟨g, 0, none⟩) n n zs := by
  have hlt : g < w.heap.size := by
    rcases Nat.lt_or_ge g w.heap.size with hlt | hge
    · exact hlt
    · rw [Array.getElem?_eq_none hge] at hg; cases hg
  refine ⟨hl, Nat.le_refl _, Or.inr ⟨_, rfl, fun _ => hlt, fun i hi => ?_⟩⟩
  rw [Go.WideShapes.add_plain]
  simp only [World.cell?, hg]; simpa using hc i hi

theorem splice_at {cur : List Value} {zs : List Int} {n : Nat} (hl : zs.length = n) (i : Nat) (hi : i < n) : (splice cur 0 (zs.map (Value.int .u8)))[i]? = some (.int .u8 (zs.getD i 0)) := by
  simp [splice, List.getElem?_append, hl, hi]

set_option maxRecDepth 100000 in
set_option maxHeartbeats 400000 in
theorem clone_any (a : Addr) (n k : Nat) (zs : List Int) (w : World) (h : IsRow w (some a) n k zs) (hn : n ≤ 100000) :
    Calls Ybaf.prog 10 #[.slice (some a) n k] w fun e w' => e = .returned (.slice (some ⟨w.heap.size, 0, none⟩) n n) ∧ IsRow w' (some ⟨w.heap.size, 0, none⟩) n n zs ∧ Below w.heap.size w w' := by
  obtain ⟨i0, hi, hz0, hz1, hz2⟩ := info_parts Ybaf.info5
  have hn1 := fun (wx : World) (a : Option Addr) (n c : Nat) => Lib.run_eql_slice_nil (P := Ybaf.prog) wx 22 5 a n c 0 0 Ybaf.underlying22
  go_enter Ybaf.func10, Ybaf.ntmps10
  go_wp2_with (first
    | (at_make; refine wpList_make_full _ rfl (.tmp 7) (.tmp 7) 22 rfl w.heap.size 5 i0 (.int .u8 0) 1 Ybaf.underlying22 hi hz0 hz1 _ _ _ _ n rfl rfl rfl rfl (by rw [hz2]; omega) (by unfold maxLen; omega) (Nat.le_refl _) ?_; intro w4 hown4 hgrow4; obtain ⟨hB4, hs4, hh4⟩ := made2 (Below.refl w.heap.size w) hown4 hgrow4; clear hgrow4 hown4; obtain ⟨cur, hcur, hlen⟩ := (hh4 _ _ rfl).2; clear hh4)
    | (refine wpList_copy_splice rfl (.tmp 9) (.tmp 10) 22 22 rfl 5 Ybaf.underlying22 Ybaf.size5 _ _ n n n k rfl rfl w.heap.size 0 cur 5 hcur (zs.map (Value.int .u8)) (by simp [h.1]) (fun hp => ⟨rfl, row_src (h.below hB4) hp⟩) (by have := h.1; simp; omega) (one_cells zs) w.heap.size w4 (Below.refl _ _) (Nat.le_refl _) ?_; intro w5 hcur5 hB5))
  go_ret
  exact ⟨rfl, row_of_block hcur5.out h.1 (splice_at h.1), hB4.trans hB5⟩

theorem equal_known {w : World} {a1 a2 : Option Addr} {n k m l : Nat} {xs ys : List Int} {b : Bool} (h1 : IsRow w a1 n k xs) (h2 : IsRow w a2 m l ys) (hq : (Lib.bytesOf xs == Lib.bytesOf ys) = b) :
    Calls Ybaf.prog 12 #[.slice a1 n k, .slice a2 m l] w fun e w' => e = .returned (.bool b) ∧ w' = w := by
  subst hq
  exact equal_rows h1 h2
theorem own_two {w : World} {base m : Nat} {v : Value} {zs : List Int} (h : w.ownsRow base 5 1 v (2 + m) ([Value.int .u8 4, Value.int .u8 (m : Int)] ++ zs.map (Value.int .u8))) :
    ∃ g c, v = .slice (some ⟨g, 0, none⟩) (2 + m) c ∧ base ≤ g ∧ g < w.heap.size ∧ c ≤ maxLen ∧ IsRow w (some ⟨g, 0, none⟩) (2 + m) c ([4, (m : Int)] ++ zs) :=
  row_of_own (zs := [4, (m : Int)] ++ zs) (by simpa using h) (by omega)

set_option maxRecDepth 100000 in
set_option maxHeartbeats 1600000 in
theorem match_core (a0 : Option Addr) (n0 m k0 : Nat) (z0 : List Int) (a2 : Option Addr) (n2 k2 : Nat) (z2 : List Int) (same : Bool) (w : World)
    (h1 : IsRow w a0 m k0 z0) (h2 : IsRow w a2 n2 k2 z2) (hb1 : (m : Int) ≤ 127) (hb2 : (n2 : Int) ≤ 1024)
    (hm : Hid ((¬ (127 : Int) < (n0 : Int) ∧ m = n0) ∨ ((127 : Int) < (n0 : Int) ∧ m = 127 ∧ n0 ≤ k0 ∧ ∃ x, a0 = some x))) :
    Calls Ybaf.prog 6 #[.slice a0 n0 k0, .slice a2 n2 k2, .bool same] w fun e w' => e = .returned (.bool true) ∧ Below w.heap.size w w' := by
  obtain ⟨i0, hi, hz0, hz1, hz2⟩ := info_parts Ybaf.info5
  rcases hm with ⟨hlt, rfl⟩ | ⟨hlt, rfl, hkk, x0, rfl⟩
  · cases same
    all_goals
      go_enter Ybaf.func6, Ybaf.ntmps6
      go_wp2_with (first
        | (at_make; refine wpList_make_own _ rfl (.const (.int .i64 0)) (.tmp 24) 22 rfl w.heap.size 5 i0 (.int .u8 0) 1 Ybaf.underlying22 hi hz0 hz1 _ _ _ (2 + m) rfl rfl (by omega) (by rw [hz2]; omega) (by unfold maxLen; omega) (Nat.le_refl _) ?_; intro w1 hown1 hgrow1; obtain ⟨hB1, hs1⟩ := made1 hgrow1; clear hgrow1)
        | (at_builtin; refine wpList_append_own _ rfl (.tmp 26) (.tmp 30) 22 rfl w.heap.size 5 i0 (.int .u8 0) 1 1 Ybaf.underlying22 hi hz0 hz1 hz2 rfl (by decide) _ _ _ rfl (hown1.alloc _) ⟨w1.heap.size, 0, none⟩ 2 2 [.int .u8 _, .int .u8 _] rfl rfl (cell_two_new _ _ _ _) (by intro u hu; simp at hu; rcases hu with rfl | rfl <;> rfl) (by unfold maxLen; omega) (by omega) (by simp; omega) ?_; intro v2 w2 hown2 hgrow2 hnil2; simp only [Nat.zero_add, List.nil_append] at hown2; obtain ⟨hB2, hs2⟩ := app1 hB1 hown1 hgrow2; clear hgrow2 hnil2 hown1)
        | (at_builtin; refine wpList_append_row rfl (.tmp 32) (.tmp 33) rfl w.heap.size _ _ _ rfl hown2 (by decide) a0 m k0 z0 rfl (h1.below hB2) (by omega) hs2 ?_; intro v3 w3 hown3 hgrow3; obtain ⟨hB3, hs3⟩ := app2 hB2 hown2 hgrow3; clear hgrow3 hown2; obtain ⟨g3, c3, rfl, hbg3, hg3, hcm3, hr3⟩ := own_two hown3; clear hown3)
        | (at_make; refine wpList_make_full _ rfl (.tmp 37) (.tmp 37) 22 rfl w.heap.size 5 i0 (.int .u8 0) 1 Ybaf.underlying22 hi hz0 hz1 _ _ _ _ m rfl rfl rfl rfl (by rw [hz2]; omega) (by unfold maxLen; omega) hs3 ?_; intro w4 hown4 hgrow4; obtain ⟨hB34, hs34⟩ := made1 hgrow4; obtain ⟨hB4, hs4, hh4⟩ := made2 hB3 hown4 hgrow4; clear hgrow4 hown4; obtain ⟨cur, hcur, hlen⟩ := (hh4 _ _ rfl).2; clear hh4)
        | (at_make; refine wpList_make_full _ rfl (.tmp 43) (.tmp 43) 22 rfl w.heap.size 5 i0 (.int .u8 0) 1 Ybaf.underlying22 hi hz0 hz1 _ _ _ _ n2 rfl rfl rfl rfl (by rw [hz2]; omega) (by unfold maxLen; omega) hs3 ?_; intro w4 hown4 hgrow4; obtain ⟨hB34, hs34⟩ := made1 hgrow4; obtain ⟨hB4, hs4, hh4⟩ := made2 hB3 hown4 hgrow4; clear hgrow4 hown4; obtain ⟨cur, hcur, hlen⟩ := (hh4 _ _ rfl).2; clear hh4)
        | (refine wpList_copy_splice rfl (.tmp 39) (.tmp 40) 22 22 rfl 5 Ybaf.underlying22 Ybaf.size5 _ a0 m m m k0 rfl rfl w3.heap.size 0 cur 5 hcur (z0.map (Value.int .u8)) (by simp [h1.1]) (fun hp => ⟨rfl, row_src (h1.below hB4) hp⟩) (by have := h1.1; simp; omega) (one_cells z0) w3.heap.size w4 (Below.refl _ _) (Nat.le_refl _) ?_; intro w5 hcur5 hB5; have hWt := row_of_block hcur5.out h1.1 (splice_at h1.1); clear hcur hcur5)
        | (refine wpList_copy_splice rfl (.tmp 45) (.tmp 46) 22 22 rfl 5 Ybaf.underlying22 Ybaf.size5 _ a2 n2 n2 n2 k2 rfl rfl w3.heap.size 0 cur 5 hcur (z2.map (Value.int .u8)) (by simp [h2.1]) (fun hp => ⟨rfl, row_src (h2.below hB4) hp⟩) (by have := h2.1; simp; omega) (one_cells z2) w3.heap.size w4 (Below.refl _ _) (Nat.le_refl _) ?_; intro w5 hcur5 hB5; have hWt := row_of_block hcur5.out h2.1 (splice_at h2.1); clear hcur hcur5))
      have hB35 := hB34.trans hB5
      have hB : Below w.heap.size w w5 := hB3.trans (hB35.mono hs3)
      have hE := hr3.below hB35
      have hC := h1.below hB
      have hz5 := hB.size
      clear hr3 hB35 hB34 hB5 hB4 hB3 hB2 hB1
      refine (clone_any _ _ _ _ _ hWt (by omega)).mono ?_
      rintro e w6 ⟨rfl, hWb, hB6⟩
      have hE6 := hE.below hB6
      have hC6 := hC.below hB6
      have hW6 := hWt.below hB6
      have hBw6 := hB.trans (hB6.mono hz5)
      have hz6 := hBw6.size
      clear hE hC hWt hB hB6
      go_wp2_with fail
      refine (clone_any _ _ _ _ _ hE6 (by omega)).mono ?_
      rintro e w7 ⟨rfl, hEb, hB7⟩
      have hE7 := hE6.below hB7
      have hC7 := hC6.below hB7
      have hW7 := hW6.below hB7
      have hWb7 := hWb.below hB7
      have hBw7 := hBw6.trans (hB7.mono hz6)
      have hz7 := hBw7.size
      clear hE6 hC6 hW6 hWb hBw6 hB7
      go_wp2_with fail
      have hA := (Below.refl w7.heap.size w7).alloc (Nat.le_refl _) (Obj.cells #[.slice none 0 0, .slice none 0 0, .string ⟨#[]⟩, .pointer none, .slice none 0 0, .slice none 0 0, .bool false, .string ⟨#[]⟩, .slice none 0 0, .slice none 0 0, .slice (some ⟨g3, 0, none⟩) (2 + m) c3, .string ⟨#[]⟩] 40)
      refine (check_ok _ g3 m c3 _ _ _ z0 _ _ (by omega) ?_ (hE7.below hA) (hW7.below hA)).mono ?_
      · simp [go_sem]
      rintro e w8 ⟨hcase, hB8⟩
      have hB78 := hA.trans (hB8.mono (by simp))
      have cN := (hB8.cell (p := ⟨w7.heap.size, 10, none⟩) (by simp))
      have cN' : w8.cell? ⟨w7.heap.size, 10, none⟩ = some (.slice (some ⟨g3, 0, none⟩) (2 + m) c3) := by rw [cN]; simp [go_sem]
      have hE8 := hE7.below hB78
      have hC8 := hC7.below hB78
      have hW8 := hW7.below hB78
      have hWb8 := hWb7.below hB78
      have hEb8 := hEb.below hB78
      have hfin : Below w.heap.size w w8 := hBw7.trans (hB78.mono hz7)
      clear hE7 hC7 hW7 hWb7 hEb hBw7 hB78 hB8 hA cN
      rcases hcase with ⟨hq, rfl⟩ | ⟨hq, a9, rfl⟩
      all_goals
        have HQ := hq
        replace HQ : Hid _ := HQ
        clear hq
        go_wp2_with fail
        refine (equal_known (b := true) hE8 hEb8 (by simp)).mono ?_
        rintro e w9 ⟨rfl, rfl⟩
        go_wp2_with fail
        refine (equal_known (b := true) hW8 hWb8 (by simp)).mono ?_
        rintro e w9 ⟨rfl, rfl⟩
        go_wp2_with fail
        refine (equal_known hC8 hW8 HQ.out).mono ?_
        rintro e w9 ⟨rfl, rfl⟩
        go_wp2
        go_ret
        exact ⟨rfl, hfin⟩
  · cases same
    all_goals
      go_enter Ybaf.func6, Ybaf.ntmps6
      go_wp2_with (first
        | (at_make; refine wpList_make_own _ rfl (.const (.int .i64 0)) (.tmp 24) 22 rfl w.heap.size 5 i0 (.int .u8 0) 1 Ybaf.underlying22 hi hz0 hz1 _ _ _ (2 + 127) rfl rfl (by omega) (by rw [hz2]; omega) (by unfold maxLen; omega) (Nat.le_refl _) ?_; intro w1 hown1 hgrow1; obtain ⟨hB1, hs1⟩ := made1 hgrow1; clear hgrow1)
        | (at_builtin; refine wpList_append_own _ rfl (.tmp 26) (.tmp 30) 22 rfl w.heap.size 5 i0 (.int .u8 0) 1 1 Ybaf.underlying22 hi hz0 hz1 hz2 rfl (by decide) _ _ _ rfl (hown1.alloc _) ⟨w1.heap.size, 0, none⟩ 2 2 [.int .u8 _, .int .u8 _] rfl rfl (cell_two_new _ _ _ _) (by intro u hu; simp at hu; rcases hu with rfl | rfl <;> rfl) (by unfold maxLen; omega) (by omega) (by simp; omega) ?_; intro v2 w2 hown2 hgrow2 hnil2; simp only [Nat.zero_add, List.nil_append] at hown2; obtain ⟨hB2, hs2⟩ := app1 hB1 hown1 hgrow2; clear hgrow2 hnil2 hown1)
        | (at_builtin; refine wpList_append_row rfl (.tmp 32) (.tmp 33) rfl w.heap.size _ _ _ rfl hown2 (by decide) (some x0) 127 k0 z0 rfl (h1.below hB2) (by omega) hs2 ?_; intro v3 w3 hown3 hgrow3; obtain ⟨hB3, hs3⟩ := app2 hB2 hown2 hgrow3; clear hgrow3 hown2; obtain ⟨g3, c3, rfl, hbg3, hg3, hcm3, hr3⟩ := own_two hown3; clear hown3)
        | (at_make; refine wpList_make_full _ rfl (.tmp 37) (.tmp 37) 22 rfl w.heap.size 5 i0 (.int .u8 0) 1 Ybaf.underlying22 hi hz0 hz1 _ _ _ _ 127 rfl rfl rfl rfl (by rw [hz2]; omega) (by unfold maxLen; omega) hs3 ?_; intro w4 hown4 hgrow4; obtain ⟨hB34, hs34⟩ := made1 hgrow4; obtain ⟨hB4, hs4, hh4⟩ := made2 hB3 hown4 hgrow4; clear hgrow4 hown4; obtain ⟨cur, hcur, hlen⟩ := (hh4 _ _ rfl).2; clear hh4)
        | (at_make; refine wpList_make_full _ rfl (.tmp 43) (.tmp 43) 22 rfl w.heap.size 5 i0 (.int .u8 0) 1 Ybaf.underlying22 hi hz0 hz1 _ _ _ _ n2 rfl rfl rfl rfl (by rw [hz2]; omega) (by unfold maxLen; omega) hs3 ?_; intro w4 hown4 hgrow4; obtain ⟨hB34, hs34⟩ := made1 hgrow4; obtain ⟨hB4, hs4, hh4⟩ := made2 hB3 hown4 hgrow4; clear hgrow4 hown4; obtain ⟨cur, hcur, hlen⟩ := (hh4 _ _ rfl).2; clear hh4)
        | (refine wpList_copy_splice rfl (.tmp 39) (.tmp 40) 22 22 rfl 5 Ybaf.underlying22 Ybaf.size5 _ (some x0) 127 127 127 k0 rfl rfl w3.heap.size 0 cur 5 hcur (z0.map (Value.int .u8)) (by simp [h1.1]) (fun hp => ⟨rfl, row_src (h1.below hB4) hp⟩) (by have := h1.1; simp; omega) (one_cells z0) w3.heap.size w4 (Below.refl _ _) (Nat.le_refl _) ?_; intro w5 hcur5 hB5; have hWt := row_of_block hcur5.out h1.1 (splice_at h1.1); clear hcur hcur5)
        | (refine wpList_copy_splice rfl (.tmp 45) (.tmp 46) 22 22 rfl 5 Ybaf.underlying22 Ybaf.size5 _ a2 n2 n2 n2 k2 rfl rfl w3.heap.size 0 cur 5 hcur (z2.map (Value.int .u8)) (by simp [h2.1]) (fun hp => ⟨rfl, row_src (h2.below hB4) hp⟩) (by have := h2.1; simp; omega) (one_cells z2) w3.heap.size w4 (Below.refl _ _) (Nat.le_refl _) ?_; intro w5 hcur5 hB5; have hWt := row_of_block hcur5.out h2.1 (splice_at h2.1); clear hcur hcur5))
      have hB35 := hB34.trans hB5
      have hB : Below w.heap.size w w5 := hB3.trans (hB35.mono hs3)
      have hE := hr3.below hB35
      have hC := h1.below hB
      have hz5 := hB.size
      clear hr3 hB35 hB34 hB5 hB4 hB3 hB2 hB1
      refine (clone_any _ _ _ _ _ hWt (by omega)).mono ?_
      rintro e w6 ⟨rfl, hWb, hB6⟩
      have hE6 := hE.below hB6
      have hC6 := hC.below hB6
      have hW6 := hWt.below hB6
      have hBw6 := hB.trans (hB6.mono hz5)
      have hz6 := hBw6.size
      clear hE hC hWt hB hB6
      go_wp2_with fail
      refine (clone_any _ _ _ _ _ hE6 (by omega)).mono ?_
      rintro e w7 ⟨rfl, hEb, hB7⟩
      have hE7 := hE6.below hB7
      have hC7 := hC6.below hB7
      have hW7 := hW6.below hB7
      have hWb7 := hWb.below hB7
      have hBw7 := hBw6.trans (hB7.mono hz6)
      have hz7 := hBw7.size
      clear hE6 hC6 hW6 hWb hBw6 hB7
      go_wp2_with fail
      have hA := (Below.refl w7.heap.size w7).alloc (Nat.le_refl _) (Obj.cells #[.slice none 0 0, .slice none 0 0, .string ⟨#[]⟩, .pointer none, .slice none 0 0, .slice none 0 0, .bool false, .string ⟨#[]⟩, .slice none 0 0, .slice none 0 0, .slice (some ⟨g3, 0, none⟩) (2 + 127) c3, .string ⟨#[]⟩] 40)
      refine (check_ok _ g3 127 c3 _ _ _ z0 _ _ (by omega) ?_ (hE7.below hA) (hW7.below hA)).mono ?_
      · simp [go_sem]
      rintro e w8 ⟨hcase, hB8⟩
      have hB78 := hA.trans (hB8.mono (by simp))
      have cN := (hB8.cell (p := ⟨w7.heap.size, 10, none⟩) (by simp))
      have cN' : w8.cell? ⟨w7.heap.size, 10, none⟩ = some (.slice (some ⟨g3, 0, none⟩) (2 + 127) c3) := by rw [cN]; simp [go_sem]
      have hE8 := hE7.below hB78
      have hC8 := hC7.below hB78
      have hW8 := hW7.below hB78
      have hWb8 := hWb7.below hB78
      have hEb8 := hEb.below hB78
      have hfin : Below w.heap.size w w8 := hBw7.trans (hB78.mono hz7)
      clear hE7 hC7 hW7 hWb7 hEb hBw7 hB78 hB8 hA cN
      rcases hcase with ⟨hq, rfl⟩ | ⟨hq, a9, rfl⟩
      all_goals
        have HQ := hq
        replace HQ : Hid _ := HQ
        clear hq
        go_wp2_with fail
        refine (equal_known (b := true) hE8 hEb8 (by simp)).mono ?_
        rintro e w9 ⟨rfl, rfl⟩
        go_wp2_with fail
        refine (equal_known (b := true) hW8 hWb8 (by simp)).mono ?_
        rintro e w9 ⟨rfl, rfl⟩
        go_wp2_with fail
        refine (equal_known hC8 hW8 HQ.out).mono ?_
        rintro e w9 ⟨rfl, rfl⟩
        go_wp2
        go_ret
        exact ⟨rfl, hfin⟩

set_option maxRecDepth 100000 in
set_option maxHeartbeats 400000 in
/-- THE WALK: every input. -/
theorem match_walk (a0 : Option Addr) (n0 k0 : Nat) (z0 : List Int) (a2 : Option Addr) (n2 k2 : Nat) (z2 : List Int) (same : Bool) (w : World)
    (h1 : IsRow w a0 n0 k0 z0) (h2 : IsRow w a2 n2 k2 z2) :
    Calls Ybaf.prog 6 #[.slice a0 n0 k0, .slice a2 n2 k2, .bool same] w fun e w' => e = .returned (.bool true) ∧ Below w.heap.size w w' := by
  by_cases hb2 : (1024 : Int) < (n2 : Int)
  · go_enter Ybaf.func6, Ybaf.ntmps6
    go_wp2
    go_ret
    exact ⟨rfl, Below.refl _ _⟩
  · by_cases hb1 : (127 : Int) < (n0 : Int)
    · obtain ⟨e1, e2, e3⟩ := h1
      rcases e3 with ⟨_, h0, _⟩ | ⟨x, rfl, hlt, hc⟩
      · omega
      · have h1' : IsRow w (some x) 127 k0 (z0.take 127) := by
          refine ⟨by simp; omega, by omega, Or.inr ⟨x, rfl, fun _ => hlt (by omega), fun i hi => ?_⟩⟩
          rw [hc i (by omega)]
          simp [hi]
        exact match_core (some x) n0 127 k0 (z0.take 127) a2 n2 k2 z2 same w h1' h2 (by omega) (by omega) (Or.inr ⟨hb1, rfl, e2, x, rfl⟩)
    · exact match_core a0 n0 n0 k0 z0 a2 n2 k2 z2 same w h1 h2 (by omega) (by omega) (Or.inl ⟨hb1, rfl⟩)
end Go.Proofs.YbulkcbfoFmt
