/- seat b3871a: LawS3871CHereEmpty: the walk -/
import Derived.Test.YbulkcbdkBuildSame
import Derived.Deep.AppendLies
namespace Go.Proofs.Ybulkcbdk
open Go Go.RowKit

/-- A slice of strings as the walk is told of it: its n elements 'ss'; where there is one it leads to a row of cells that hold them. -/
def Strs (w : World) (a : Option Addr) (n : Nat) (ss : List ByteArray) : Prop :=
  ss.length = n ∧ (n = 0 ∨ ∃ b o, a = some ⟨b, o, none⟩ ∧ b < w.heap.size ∧ ∀ j, j < ss.length → w.cell? ⟨b, o + j, none⟩ = some (.string (ss.getD j ByteArray.empty)))

theorem Strs.below {w w' : World} {a : Option Addr} {n : Nat} {ss : List ByteArray} (h : Strs w a n ss) (hb : Below w.heap.size w w') : Strs w' a n ss := by
  refine ⟨h.1, ?_⟩
  rcases h.2 with h0 | ⟨b, o, ha, hlt, hc⟩
  · exact Or.inl h0
  · exact Or.inr ⟨b, o, ha, Nat.lt_of_lt_of_le hlt hb.size, fun j hj => (hb.cell (p := ⟨b, o + j, none⟩) hlt).trans (hc j hj)⟩

theorem eq_same {w : World} {a1 a2 : Option Addr} {n k1 k2 : Nat} {ss : List ByteArray} (h1 : Strs w a1 n ss) (h2 : Strs w a2 n ss) (hn : n ≤ 9223372036854775807) :
    Calls Yba.prog 9 #[.slice a1 n k1, .slice a2 n k2] w fun e w'' => e = .returned (.bool true) ∧ ∃ q, w'' = w.drewN q := by
  rcases h1.2 with h0 | ⟨b1, o1, rfl, _, c1⟩
  · subst h0
    refine (Yba.slices_Equal_string_empty a1 a2 k1 0 k2 w hn).mono ?_
    rintro e w' ⟨rfl, rfl⟩
    exact ⟨by simp, 0, rfl⟩
  · rcases h2.2 with h0 | ⟨b2, o2, rfl, _, c2⟩
    · subst h0
      refine (Yba.slices_Equal_string_empty _ a2 k1 0 k2 w hn).mono ?_
      rintro e w' ⟨rfl, rfl⟩
      exact ⟨by simp, 0, rfl⟩
    · refine (Yba.slices_Equal_string b1 o1 n k1 b2 o2 n k2 ss ss w (by rw [h1.1]; exact Nat.le_refl _) (by rw [h1.1]; exact Nat.le_refl _) hn hn c1 c2).mono ?_
      rintro e w' ⟨rfl, h⟩
      exact ⟨by simp, h⟩

theorem strs_own {w : World} {base n : Nat} {v : Value} {ss : List ByteArray} (h : w.ownsRow base 9 1 v n (ss.map Value.string)) : ∃ a cap, v = .slice a n cap ∧ Strs w a n ss := by
  obtain ⟨hl, h⟩ := h
  simp at hl
  rcases h with ⟨rfl, rfl⟩ | ⟨g, cap, cur, rfl, _, hh, hn, _, hs, ht⟩
  · exact ⟨none, 0, rfl, hl, Or.inl rfl⟩
  · refine ⟨some ⟨g, 0, none⟩, cap, rfl, hl, Or.inr ⟨g, 0, rfl, ?_, ?_⟩⟩
    · rcases Nat.lt_or_ge g w.heap.size with hlt | hge
      · exact hlt
      · rw [Array.getElem?_eq_none hge] at hh; cases hh
    · intro j hj
      have e1 : (cur.toList.take (n * 1))[j]? = some (.string (ss.getD j ByteArray.empty)) := by
        rw [ht]; simp [hj]
      rw [List.getElem?_take] at e1
      split at e1
      · simp only [World.cell?, hh]; simp; simpa using e1
      · cases e1
theorem take_one (ss : List ByteArray) (k : Nat) (h : k < ss.length) : (ss.take (k + 1)).map Value.string = List.take k (List.map Value.string ss) ++ [Value.string (ss[k]?.getD ByteArray.empty)] := by
  rw [List.take_succ_eq_append_getElem h, List.map_append, List.map_take, List.getElem?_eq_getElem h]; rfl
theorem Yba.info9 : (Yba.prog.info? 9).map (fun i => (i.zero, i.size, i.bytes)) = some (some (.string ByteArray.empty), 1, 16) := by kernel_rfl

def W4 (g a : ByteArray) (c : Bool) (s : Value) (w : World) : World :=
  (((w.alloc (.cells #[.string g, .string a, .bool c, s] 24)).alloc (.cells #[.string g, .string a, .bool c, s] 24)).alloc (.cells #[.string g, .string a, .bool c, s] 27)).alloc
    (.cells #[.string g, .string a, .bool c, s, .slice none 0 0, .slice none 0 0, .slice none 0 0] 31)
set_option maxHeartbeats 800000 in
set_option maxRecDepth 100000 in
theorem here_walk (g a : ByteArray) (c : Bool) (a0 : Option Addr) (n k0 : Nat) (ss : List ByteArray) (w : World) (hs : Strs w a0 n ss) (hn : n ≤ 9223372036854775807) :
    Calls Yba.prog 4 #[.agg #[.string g, .string a, .bool c, .slice a0 n k0]] w fun e w' => e = .returned (.bool true) ∧ Below w.heap.size w w' := by
  by_cases hbig : (1024 : Int) < (n : Int)
  · go_enter Yba.func4, Yba.ntmps4
    go_wp2
    go_ret
    exact ⟨rfl, (Below.refl _ _).alloc (Nat.le_refl _) _⟩
  · obtain ⟨i0, hi, hz0, hz1, hz2⟩ := info_parts Yba.info9
    go_enter Yba.func4, Yba.ntmps4
    go_wp2_with (go_at_call 5; refine (tgt_any _ _ _ _ _ _ _).mono ?_; rintro e w' ⟨rfl, rfl⟩)
    have hW : Below w.heap.size w (W4 g a c (.slice a0 n k0) w) := ((((Below.refl _ _).alloc (Nat.le_refl _) _).alloc (by simp) _).alloc (by simp; omega) _).alloc (by simp; omega) _
    have hsz : (W4 g a c (.slice a0 n k0) w).heap.size = w.heap.size + 4 := by simp [W4]
    go_loopw [4, 21] (fun v i wr => ∃ k : Nat, k ≤ n ∧ i = .int .i64 k ∧ wr.ownsRow (w.heap.size + 4) 9 1 v k ((ss.take k).map Value.string) ∧ Below (w.heap.size + 4) (W4 g a c (.slice a0 n k0) w) wr) (fun _ i _ => n - (intOf i).toNat)
    case atStart => exact ⟨0, Nat.zero_le _, rfl, World.ownsRow_nil _ _ _ _, Below.refl _ _⟩
    case round =>
      obtain ⟨k, hk, rfl, hown, hnx⟩ := hrel
      have hsw : w.heap.size + 4 ≤ wr.heap.size := by have := hnx.size; omega
      have hbw : Below w.heap.size w wr := hW.trans (hnx.mono (by omega))
      by_cases hlt : (k : Int) < (n : Int)
      · rcases hs.2 with h0 | ⟨b, o, rfl, hb, hc⟩
        · omega
        have hcx : wr.cell? ⟨b, o + k, none⟩ = some (.string (ss.getD k ByteArray.empty)) := (hbw.cell (p := ⟨b, o + k, none⟩) hb).trans (hc k (by have := hs.1; omega))
        clear hc
        go_wp2_with ((at_builtin; refine wpList_append_own _ rfl _ _ 22 rfl (w.heap.size + 4) 9 i0 (.string ByteArray.empty) 1 16 Yba.underlying22 hi hz0 hz1 hz2 rfl (by decide) _ _ _ rfl (hown.alloc _) ⟨wr.heap.size, 0, none⟩ 1 1 [.string (ss.getD k ByteArray.empty)] rfl rfl ?c1 ?c2 ?c3 ?c4 ?c5 ?_))
        case c1 =>
          intro j u hj
          match j, hj with
          | 0, hj => simp at hj; subst hj; simp [Addr.add]
        case c2 => intro u hu; simp at hu; subst hu; rfl
        case c3 => unfold maxLen; omega
        case c4 => omega
        case c5 => simp; omega
        intro v' w1 hown' hgrow _
        have R1 : w1.ownsRow (w.heap.size + 4) 9 1 v' (k + 1) ((ss.take (k + 1)).map Value.string) := by rw [take_one ss k (by have := hs.1; omega)]; exact hown'
        have R2 : Below (w.heap.size + 4) (W4 g a c (.slice (some ⟨b, o, none⟩) n k0) w) w1 := (hnx.alloc hsw _).grown hgrow (by simp; omega) (fun q hq => (hown.lt q hq).1)
        clear hown' hgrow hown hcx hnx hbw
        go_wp2
        go_roundw
        case rel => exact ⟨k + 1, by omega, by go_num, R1, R2⟩
        case measure => simp [intOf]; omega
      · have hkn : k = n := by omega
        subst hkn
        rw [List.take_of_length_le (by have := hs.1; omega)] at hown
        obtain ⟨a1, k1, rfl, hs1⟩ := strs_own hown
        have hs0 := hs.below hbw
        have c0 : wr.cell? ⟨w.heap.size, 0, none⟩ = some (.string g) := (hnx.cell (p := ⟨w.heap.size, 0, none⟩) (by simp)).trans (by simp [W4, go_sem])
        have c1 : wr.cell? ⟨w.heap.size, 1, none⟩ = some (.string a) := (hnx.cell (p := ⟨w.heap.size, 1, none⟩) (by simp)).trans (by simp [W4, go_sem])
        have c2 : wr.cell? ⟨w.heap.size, 2, none⟩ = some (.bool c) := (hnx.cell (p := ⟨w.heap.size, 2, none⟩) (by simp)).trans (by simp [W4, go_sem])
        have d0 : wr.cell? ⟨w.heap.size + 1 + 1 + 1, 0, none⟩ = some (.string g) := (hnx.cell (p := ⟨w.heap.size + 1 + 1 + 1, 0, none⟩) (by simp)).trans (by simp [W4, go_sem])
        have d1 : wr.cell? ⟨w.heap.size + 1 + 1 + 1, 1, none⟩ = some (.string a) := (hnx.cell (p := ⟨w.heap.size + 1 + 1 + 1, 1, none⟩) (by simp)).trans (by simp [W4, go_sem])
        have d2 : wr.cell? ⟨w.heap.size + 1 + 1 + 1, 2, none⟩ = some (.bool c) := (hnx.cell (p := ⟨w.heap.size + 1 + 1 + 1, 2, none⟩) (by simp)).trans (by simp [W4, go_sem])
        have d3 : wr.cell? ⟨w.heap.size + 1 + 1 + 1, 3, none⟩ = some (.slice a0 k k0) := (hnx.cell (p := ⟨w.heap.size + 1 + 1 + 1, 3, none⟩) (by simp)).trans (by simp [W4, go_sem])
        clear hown hnx
        have hne : w.heap.size < wr.heap.size := by omega
        have hne3 : w.heap.size + 1 + 1 + 1 < wr.heap.size := by omega
        go_wp2_with fail
        refine (build_same _ g a c a1 a0 k k1 k k0 _ ?_ ?_ ?_ ?_ ?_).mono ?_
        · exact (World.cell?_alloc_past _ _ _ hne3).trans d0
        · exact (World.cell?_alloc_past _ _ _ hne3).trans d1
        · exact (World.cell?_alloc_past _ _ _ hne3).trans d2
        · exact (World.cell?_alloc_past _ _ _ hne3).trans d3
        · intro w' hw'
          have hb1 : Below wr.heap.size wr w' := ((Below.refl _ wr).alloc (Nat.le_refl _) _).trans (hw'.mono (by simp))
          exact eq_same (hs1.below hb1) (hs0.below hb1) hn
        · rintro e w1 ⟨nb, rfl, hnb, hnb1, hbel, e4, e5, e6⟩
          have hb1 : Below wr.heap.size wr w1 := ((Below.refl _ wr).alloc (Nat.le_refl _) _).trans (hbel.mono (by simp))
          simp at hnb
          have hsw1 := hb1.size
          have f0 := (hb1.cell (p := ⟨w.heap.size + 1 + 1 + 1, 0, none⟩) hne3).trans d0
          have f1 := (hb1.cell (p := ⟨w.heap.size + 1 + 1 + 1, 1, none⟩) hne3).trans d1
          have f2 := (hb1.cell (p := ⟨w.heap.size + 1 + 1 + 1, 2, none⟩) hne3).trans d2
          have f3 := (hb1.cell (p := ⟨w.heap.size + 1 + 1 + 1, 3, none⟩) hne3).trans d3
          have hs2 := hs0.below hb1
          clear c0 c1 c2 d0 d1 d2 d3 hbel
          go_wp2_with fail
          refine (build_same _ g a c a0 a0 k k0 k k0 _ f0 f1 f2 f3 ?_).mono ?_
          · intro w' hw'
            exact eq_same (hs2.below hw') (hs2.below hw') hn
          · rintro e w2 ⟨nc, rfl, hnc, hnc1, hbel, g4, g5, g6⟩
            have e4' := (hbel.cell (p := ⟨nb, 4, none⟩) hnb1).trans e4
            have e5' := (hbel.cell (p := ⟨nb, 5, none⟩) hnb1).trans e5
            have e6' := (hbel.cell (p := ⟨nb, 6, none⟩) hnb1).trans e6
            have hfin : Below w.heap.size w w2 := (hbw.trans (hb1.mono (by omega))).trans (hbel.mono (by omega))
            clear hbel hb1 hbw f0 f1 f2 f3 e4 e5 e6
            go_wp2
            go_ret
            exact ⟨rfl, hfin⟩
end Go.Proofs.Ybulkcbdk
