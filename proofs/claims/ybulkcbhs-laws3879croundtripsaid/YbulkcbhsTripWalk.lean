/- seat b3879a: LawS3879CRoundTrip: the walk -/
import Derived.Test.YbulkcbhsDigits
import Derived.Test.YbulkcbhsTrip
import Derived.WalkSmall
import Derived.Lib.SmallJoins
namespace Go.Proofs.Ybulkcbhs
open Go Go.RowKit

theorem Yba.info5 : (Yba.prog.info? 5).map (fun i => (i.zero, i.size, i.bytes)) = some (some (.int .u8 0), 1, 1) := by kernel_rfl

theorem app1 {B : Nat} {w w1 w2 : World} {o : Obj} {v : Value} {n : Nat} {xs : List Value} (hB : Below B w w1) (hBs : B ≤ w.heap.size) (hown : w1.ownsRow B 5 1 v n xs) (h : (w1.alloc o).grownBy w2 v.ownBlock) : Below B w w2 := by
  have hs := hB.size
  exact (hB.alloc (by omega) _).grown h (by simp; omega) (fun k hk => (hown.lt k hk).1)

theorem own_snoc {w : World} {B : Nat} {v : Value} {L : List Int} {z : Int} (h : w.ownsRow B 5 1 v (L.length + 1) (L.map (Value.int .u8) ++ [.int .u8 z])) : w.ownsRow B 5 1 v (L ++ [z]).length ((L ++ [z]).map (Value.int .u8)) := by
  simpa using h

theorem wrap_div (X : Int) (h : 0 ≤ X) (h2 : X < 10 ^ 18) : IntKind.u64.wrap (X.tdiv 10) = X / 10 := by
  rw [Int.tdiv_eq_ediv_of_nonneg h]
  simp only [IntKind.wrap, IntKind.signed, IntKind.bits]
  simp
  omega
theorem inv_lt {v x : Int} {L : List Int} (h : Inv v x L) (hv : v < 10 ^ 18) : x < 10 ^ 18 := by
  obtain ⟨h1, h2, h3, h4, _⟩ := h
  have hn := val_nonneg L.reverse (fun z hz => h3 z (by simpa using hz))
  have hp : (1 : Int) ≤ 10 ^ L.length := Int.pow_pos (by decide)
  have : x * 1 ≤ x * 10 ^ L.length := Int.mul_le_mul_of_nonneg_left hp h1
  omega
theorem own_form {w : World} {B : Nat} {v : Value} {L : List Int} (h : w.ownsRow B 5 1 v L.length (L.map (Value.int .u8))) (hl : 1 ≤ L.length) :
    ∃ g c, v = .slice (some ⟨g, 0, none⟩) L.length c ∧ g < w.heap.size ∧ ∀ j, j < L.length → w.cell? ⟨g, j, none⟩ = some (.int .u8 (L.getD j 0)) := by
  rcases h.2 with ⟨_, h0⟩ | ⟨g, cap, cur, rfl, _, hh, hn, _, hs, ht⟩
  · omega
  · refine ⟨g, cap, rfl, ?_, fun j hj => ?_⟩
    · rcases Nat.lt_or_ge g w.heap.size with hlt | hge
      · exact hlt
      · rw [Array.getElem?_eq_none hge] at hh; cases hh
    · have e1 : (cur.toList.take (L.length * 1))[j]? = some (.int .u8 (L.getD j 0)) := by
        rw [ht]; simp [hj]
      rw [List.getElem?_take] at e1
      split at e1
      · simp only [World.cell?, hh]; simp; simpa using e1
      · cases e1
theorem made_block {w : World} {B g n : Nat} {xs : List Value} (h : w.ownsRow B 5 1 (.slice (some ⟨g, 0, none⟩) n n) n xs) : ∃ cur : Array Value, w.heap[g]? = some (.cells cur 5 (0, 0)) ∧ cur.size = n := by
  rcases h.2 with ⟨h0, _⟩ | ⟨g', cap, cur, hv, _, hh, hn, _, hs, ht⟩
  · cases h0
  · cases hv
    exact ⟨cur, hh, by omega⟩
theorem rev_step {L : List Int} {n k : Nat} {cur : Array Value} (hn : L.length = n) (hk : k < n) (hs : cur.size = n) (h : ∀ j, j < k → cur[j]? = some (.int .u8 (L.reverse.getD j 0))) :
    ∀ j, j < k + 1 → (cur.setIfInBounds k (.int .u8 (L[n - 1 - k]?.getD 0)))[j]? = some (.int .u8 (L.reverse.getD j 0)) := by
  intro j hj
  rw [Array.getElem?_setIfInBounds]
  by_cases e : k = j
  · subst e
    rw [if_pos rfl, if_pos (by omega)]
    simp [List.getElem?_reverse (show k < L.length by omega), hn]
  · rw [if_neg e]
    exact h j (by omega)
theorem rev_digs {L : List Int} {n : Nat} (hn : L.length = n) (hd : digs L) : ∀ k, k < n → 48 ≤ L.reverse.getD k 0 ∧ L.reverse.getD k 0 ≤ 57 := by
  intro k hk
  have hk' : k < L.reverse.length := by simp; omega
  have e : L.reverse.getD k 0 = L.reverse[k] := by rw [List.getD_eq_getElem?_getD, List.getElem?_eq_getElem hk']; rfl
  rw [e]
  exact hd _ (List.mem_reverse.1 (List.getElem_mem hk'))
theorem rev_row {w : World} {L : List Int} {n g : Nat} {cur : Array Value} (hn : L.length = n) (hd : digs L) (hcur : w.heap[g]? = some (.cells cur 5 (0, 0))) (h : ∀ j, j < n → cur[j]? = some (.int .u8 (L.reverse.getD j 0))) :
    Row w (some ⟨g, 0, none⟩) n L.reverse := by
  refine ⟨by simp [hn], fun z hz => ?_, Or.inr ⟨g, 0, rfl, fun j hj => ?_⟩⟩
  · have := hd z (List.mem_reverse.1 hz)
    omega
  · rw [Nat.zero_add, Joins.cell_of_block hcur]
    exact h j hj
set_option maxRecDepth 100000 in
set_option maxHeartbeats 1600000 in
theorem trip_core (a0 a1 a2 : Int) (w : World) (h0 : 0 ≤ a0) (h1 : 0 ≤ a1) (h1' : a1 ≤ 255) (h2 : 0 ≤ a2) (h2' : a2 ≤ 255) :
    Calls Yba.prog 5 #[.int .u64 a0, .int .u8 a1, .int .u8 a2] w fun e w' => e = .returned (.bool true) ∧ Below w.heap.size w w' := by
  obtain ⟨i0, hi, hz0, hz1, hz2⟩ := info_parts Yba.info5
  rcases Bool.eq_false_or_eq_true ((a0 % 1000000000000000000) == 0) with hz | hz
  focus
    go_enter Yba.func5, Yba.ntmps5
    go_wp2_with ((at_builtin; refine wpList_append_own _ rfl (.tmp 21) (.tmp 22) 56 rfl w.heap.size 5 i0 (.int .u8 0) 1 1 Yba.underlying56 hi hz0 hz1 hz2 rfl (by decide) _ _ _ rfl ((World.ownsRow_nil _ _ _ _).alloc _) ⟨w.heap.size, 0, none⟩ 1 1 [.int .u8 48] rfl rfl (cell_one_new _ _ _) (by intro u hu; simp at hu; subst hu; rfl) (by unfold maxLen; omega) (by omega) (by simp) ?_; intro v2 w2 hown2 hgrow2 hnil2))
    have hI : Inv (a0 % 1000000000000000000) (a0 % 1000000000000000000) [48] := by rw [beq_iff_eq.1 hz]; exact inv_zero
    have hO : w2.ownsRow w.heap.size 5 1 v2 ([48] : List Int).length (([48] : List Int).map (Value.int .u8)) := by simpa using hown2
    have hBel : Below w.heap.size w w2 := app1 (Below.refl _ _) (Nat.le_refl _) (World.ownsRow_nil _ _ _ _) hgrow2
    have HV : Hid (0 ≤ a0 % 1000000000000000000 ∧ a0 % 1000000000000000000 < 10 ^ 18) := ⟨by omega, by omega⟩
    clear hown2 hgrow2 hnil2 hz
    generalize a0 % 1000000000000000000 = v at hI HV ⊢
  rotate_left
  focus
    have hI : Inv (a0 % 1000000000000000000) (a0 % 1000000000000000000) [] := inv_start _ (by have := beq_eq_false_iff_ne.1 hz; omega)
    have hO := World.ownsRow_nil w w.heap.size 5 1
    have hBel : Below w.heap.size w w := Below.refl _ _
    go_enter Yba.func5, Yba.ntmps5
    go_wp2
    have HV : Hid (0 ≤ a0 % 1000000000000000000 ∧ a0 % 1000000000000000000 < 10 ^ 18) := ⟨by omega, by omega⟩
    clear hz
    generalize a0 % 1000000000000000000 = v at hI HV ⊢
  all_goals
    go_loopw [8, 9] (fun rv x wr => ∃ (X : Int) (L : List Int), x = .int .u64 X ∧ Inv v X L ∧ wr.ownsRow w.heap.size 5 1 rv L.length (L.map (Value.int .u8)) ∧ Below w.heap.size w wr) (fun _ x _ => (intOf x).toNat)
    case atStart => exact ⟨v, _, rfl, hI, hO, hBel⟩
    case round =>
      obtain ⟨X, L, rfl, hinv, hown, hbel⟩ := hrel
      have hX0 := hinv.pos
      have hL18 := hinv.len
      by_cases hX : 0 < X
      · have hstep := inv_step hinv hX HV.out.2
        have HS : Hid (Inv v (X / 10) (L ++ [48 + X % 10])) := hstep
        have HX : Hid (X < 10 ^ 18) := inv_lt hinv HV.out.2
        clear hstep hinv
        have hbs := hbel.size
        go_wp2_with ((at_builtin; refine wpList_append_own _ rfl (.tmp 29) (.tmp 34) 56 rfl w.heap.size 5 i0 (.int .u8 0) 1 1 Yba.underlying56 hi hz0 hz1 hz2 rfl (by decide) _ _ _ rfl (hown.alloc _) ⟨wr.heap.size, 0, none⟩ 1 1 [.int .u8 _] rfl rfl (cell_one_new _ _ _) (by intro u hu; simp at hu; subst hu; rfl) (by unfold maxLen; omega) (by omega) (by simp; omega) ?_; intro v2 w2 hown2 hgrow2 hnil2))
        have R2 := app1 hbel (Nat.le_refl _) hown hgrow2
        have R1 := own_snoc hown2
        clear hown2 hgrow2 hnil2
        go_roundw
        case rel => exact ⟨X / 10, L ++ [48 + X % 10], by rw [wrap_div X hX0 HX.out], HS.out, R1, R2⟩
        case measure => rw [wrap_div X hX0 HX.out]; simp [intOf]; omega
      · obtain rfl : X = 0 := by omega
        have hval := inv_end hinv
        have hdig := hinv.dig
        have hne := hinv.ne rfl
        clear hinv
        have hlen1 : 1 ≤ L.length := by
          cases L with
          | nil => exact absurd rfl hne
          | cons a b => simp
        have HL : Hid (val L.reverse = v ∧ digs L) := ⟨hval, hdig⟩
        clear hval hdig hne
        go_wp2
        go_loopw [8, 11] (fun rv i wq => ∃ (k : Nat) (L2 : List Int), (k : Int) ≤ a1 % 8 ∧ i = .int .i64 k ∧ Hid (val L2.reverse = v ∧ digs L2) ∧ 1 ≤ L2.length ∧ L2.length ≤ 18 + k ∧ wq.ownsRow w.heap.size 5 1 rv L2.length (L2.map (Value.int .u8)) ∧ Below w.heap.size w wq) (fun _ i _ => (a1 % 8 - intOf i).toNat)
        case atStart => exact ⟨0, L, by omega, rfl, HL, hlen1, by omega, hown, hbel⟩
        case round =>
          clear hown hbel HL hlen1 hL18
          obtain ⟨k, L2, hk, rfl, HL, hlen1, hL18, hown, hbel⟩ := hrel
          have hk7 : (k : Int) ≤ 7 := by omega
          by_cases hlt : (k : Int) < a1 % 8
          · have hbs := hbel.size
            go_wp2_with ((at_builtin; refine wpList_append_own _ rfl (.tmp 44) (.tmp 45) 56 rfl w.heap.size 5 i0 (.int .u8 0) 1 1 Yba.underlying56 hi hz0 hz1 hz2 rfl (by decide) _ _ _ rfl (hown.alloc _) ⟨_, 0, none⟩ 1 1 [.int .u8 48] rfl rfl (cell_one_new _ _ _) (by intro u hu; simp at hu; subst hu; rfl) (by unfold maxLen; omega) (by omega) (by simp; omega) ?_; intro v2 w2 hown2 hgrow2 hnil2))
            have R2 := app1 hbel (Nat.le_refl _) hown hgrow2
            have R1 := own_snoc hown2
            clear hown2 hgrow2 hnil2
            go_roundw
            case rel => exact ⟨k + 1, L2 ++ [48], by omega, by go_num, ⟨by rw [val_zero]; exact HL.out.1, digs_zero HL.out.2⟩, by simp, by simp; omega, R1, R2⟩
            case measure => simp [intOf]; omega
          · obtain ⟨gr, cr, hrv, hgr, hcells⟩ := own_form hown hlen1
            subst hrv
            have hbs := hbel.size
            clear hown
            go_wp2_with ((at_make; refine wpList_make_full _ rfl (.tmp 48) (.tmp 48) 56 rfl w.heap.size 5 i0 (.int .u8 0) 1 Yba.underlying56 hi hz0 hz1 _ _ _ _ L2.length rfl rfl rfl rfl (by rw [hz2]; omega) (by unfold maxLen; omega) hbs ?_; intro w4 hown4 hgrow4))
            have hB4 : Below w.heap.size w w4 := hbel.grown hgrow4 hbs (by intro k hk; cases hk)
            have hc4 : ∀ j, j < L2.length → w4.cell? ⟨gr, j, none⟩ = some (.int .u8 (L2.getD j 0)) := fun j hj => (World.cell?_of_block (w := wr) (a := ⟨gr, j, none⟩) (hgrow4.block gr hgr (by simp))).trans (hcells j hj)
            obtain ⟨cur0, hcur0, hsz0⟩ := made_block hown4
            clear hgrow4 hown4 hcells hbel
            have hGs : wr.heap.size < w4.heap.size := by
              rcases Nat.lt_or_ge wr.heap.size w4.heap.size with h | h
              · exact h
              · rw [Array.getElem?_eq_none h] at hcur0; cases hcur0
            generalize hG : wr.heap.size = G at hbs hgr hcur0 hGs ⊢
            clear hG
            have hn25 : (L2.length : Int) ≤ 25 := by omega
            generalize hnn : L2.length = n at hlen1 hL18 hc4 hsz0 hn25 ⊢
            have HN : Hid (L2.length = n) := hnn
            clear hnn hL18
            go_loopw [13] (fun i wq => ∃ (k : Nat) (cur : Array Value), k ≤ n ∧ i = .int .i64 k ∧ wq.heap[G]? = some (.cells cur 5 (0, 0)) ∧ cur.size = n ∧ (∀ j, j < k → cur[j]? = some (.int .u8 (L2.reverse.getD j 0))) ∧ Below G w4 wq) (fun i _ => n - (intOf i).toNat)
            case atStart => exact ⟨0, cur0, Nat.zero_le _, rfl, hcur0, hsz0, fun j hj => by omega, Below.refl _ _⟩
            case round =>
              clear hcur0 hsz0
              obtain ⟨k3, cur, hk3, rfl, hcur, hsz, hset, hb3⟩ := hrel
              by_cases hlt3 : (k3 : Int) < (n : Int)
              · have hrc : wr.cell? ⟨gr, n - 1 - k3, none⟩ = some (.int .u8 (L2.getD (n - 1 - k3) 0)) := (hb3.cell (p := ⟨gr, n - 1 - k3, none⟩) hgr).trans (hc4 _ (by omega))
                have hdc : wr.cell? ⟨G, k3, none⟩ = some (cur[k3]'(by omega)) := by rw [Joins.cell_of_block hcur]; simp
                have hdf : wr.frozen? ⟨G, k3, none⟩ = false := Joins.unfrozen_of_block hcur _
                have HC : Hid (∀ j, j < k3 → cur[j]? = some (.int .u8 (L2.reverse.getD j 0))) := hset
                clear hset hc4
                have hi3 : (0 : Int) ≤ (n : Int) - 1 - k3 := by omega
                go_wp2
                go_roundw
                case rel => exact ⟨k3 + 1, _, by omega, by go_num, Joins.block_setCell hcur _, by simp [hsz], rev_step HN.out (by omega) hsz HC.out, hb3.setCell (Nat.le_refl _) _⟩
                case measure => simp [intOf]; omega
              · obtain rfl : k3 = n := by omega
                have hrow : Row wr (some ⟨G, 0, none⟩) k3 L2.reverse := rev_row HN.out HL.out.2 hcur hset
                have hfin : Below w.heap.size w wr := hB4.trans (hb3.mono hbs)
                have hdd : ∀ k, k < k3 → 48 ≤ L2.reverse.getD k 0 ∧ L2.reverse.getD k 0 ≤ 57 := rev_digs HN.out HL.out.2
                have hval := HL.out.1
                clear hset hcur hb3 hB4 hc4 hsz
                have hn0 : ((k3 : Int) == 0) = false := by simp; omega
                by_cases hs3 : a2 % 3 = 0
                · clear hrow hdd
                  go_wp2_with fail
                  refine (digits_len _ _ _ _ _ (by omega) (Or.inr (by omega))).mono ?_
                  rintro e w9 ⟨rfl, rfl⟩
                  go_wp2
                  go_ret
                  exact ⟨rfl, hfin⟩
                · have H := fun p hp => digits_ok (some ⟨G, 0, none⟩) k3 k3 p L2.reverse wr (by omega) hn0 hp hrow hdd
                  rw [hval] at H
                  have H' : Hid (∀ p, (k3 : Int) ≤ p → Calls Yba.prog 9 #[.slice (some ⟨G, 0, none⟩) k3 k3, .int .i64 p] wr fun e w' => e = .returned (.tuple #[.int .i64 (wrap64 v), .bool true]) ∧ w' = wr) := H
                  clear H hrow hdd
                  go_wp2_with fail
                  refine (H'.out _ (by omega)).mono ?_
                  rintro e w9 ⟨rfl, rfl⟩
                  clear H' hval HL
                  go_wp2
                  go_ret
                  exact ⟨rfl, hfin⟩
end Go.Proofs.Ybulkcbhs
