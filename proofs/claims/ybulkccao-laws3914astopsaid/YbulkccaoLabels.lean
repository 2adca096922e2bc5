/- seat b3914a: zzs3914alabels -/
import Derived.Test.YbulkccaoName
import Derived.OwnWalk
import Derived.WalkSmall
import Derived.RangeFuncBox
namespace Go.Proofs.Ybulkccao
open Go Go.RowKit Go.Lib

def preL : List Bytes → Bytes
  | [] => []
  | l :: ls => UInt8.ofNat l.length :: (l ++ preL ls)
theorem encL_append : ∀ (a b : List Bytes), encL (a ++ b) = preL a ++ encL b
  | [], b => rfl
  | l :: a, b => by simp [encL, preL, encL_append a b]
theorem preL_append : ∀ (a b : List Bytes), preL (a ++ b) = preL a ++ preL b
  | [], b => rfl
  | l :: a, b => by simp [preL, preL_append a b]

def labStrs (ls : List Bytes) : List Value := ls.map fun l => .string (bs l)
theorem info9 : (Yba.prog.info? 9).map (fun i => (i.zero, i.size, i.bytes)) = some (some (.string ⟨#[]⟩), 1, 16) := by kernel_rfl

set_option maxRecDepth 100000 in
set_option maxHeartbeats 1600000 in
theorem labels_run (ls : List Bytes) (w : World) (hw : WFL ls) (hne : ls ≠ []) :
    Calls Yba.prog 22 #[.string (bs (encL ls))] w fun e w' => ∃ g cap, e = .returned (.slice (some ⟨g, 0, none⟩) ls.length cap) ∧ w.heap.size ≤ g ∧ Below w.heap.size w w' ∧ ∀ j (h : j < ls.length), w'.cell? ⟨g, j, none⟩ = some (.string (bs (ls.reverse[j]'(by simpa using h)))) := by
  obtain ⟨i0, hi, hz0, hz1, hz2⟩ := info_parts info9
  have hlen := encL_le hw
  obtain ⟨t, ht⟩ : ∃ t, encL ls = t := ⟨_, rfl⟩
  have hsz := size_bs t
  rw [ht] at hlen ⊢
  have hw8 : ∀ b : UInt8, wrap64 (b.toNat : Int) = b.toNat := fun b => by have := b.toNat_lt; unfold wrap64; omega
  go_enter Yba.func22, Yba.ntmps22
  go_wp2
  go_loopw [3, 4] (fun b i wr => ∃ dn rs : List Bytes, ls = dn ++ rs ∧ i = .int .i64 (preL dn).length ∧ wr.ownsRow w.heap.size 9 1 b dn.length (labStrs dn) ∧ Below w.heap.size w wr) (fun _ i _ => 13 - (intOf i).toNat)
  case atStart =>
    exact ⟨[], ls, rfl, rfl, World.ownsRow_nil .., Below.refl _ _⟩
  case round =>
    obtain ⟨dn, rs, hls, rfl, hrow, hB⟩ := hrel
    rcases rs with _ | ⟨l, rs⟩
    · have htl : t = preL dn ++ [0] := by rw [← ht, hls, encL_append]; rfl
      have hx : ∀ h, ((bs t)[(preL dn).length]'h) = 0 := fun h => by rw [get_bs]; simp [htl]
      have hlt : (preL dn).length < t.length := by simp [htl]
      clear htl
      simp only [List.append_nil] at hls
      subst hls
      obtain ⟨g, cap, cur, hu, hgb, hg, hnc, hcm, hcz, hct⟩ : ∃ g cap cur, u3 = .slice (some ⟨g, 0, none⟩) ls.length cap ∧ w.heap.size ≤ g ∧ wr.heap[g]? = some (.cells cur 9 (0, 0)) ∧ ls.length ≤ cap ∧ cap ≤ maxLen ∧ cur.size = cap * 1 ∧ cur.toList.take (ls.length * 1) = labStrs ls := by
        rcases hrow.2 with ⟨_, h⟩ | h
        · exact absurd (List.length_eq_zero_iff.1 h) hne
        · exact h
      subst hu
      clear hrow
      have hcell : ∀ j (h : j < ls.length), wr.cell? ⟨g, j, none⟩ = some (.string (bs ls[j])) := fun j hj => by
        refine cell_blk hg ?_
        have e := congrArg (fun l : List Value => l[j]?) hct
        simp only [Nat.mul_one, labStrs, List.getElem?_take_of_lt hj, List.getElem?_map, List.getElem?_eq_getElem hj, Array.getElem?_toList] at e
        simpa using e
      have hfz : ∀ j, wr.frozen? ⟨g, j, none⟩ = false := fun j => frozen_blk hg
      have hf3 := hw.few
      have hgl : g < wr.heap.size := (Array.getElem?_eq_some_iff.1 hg).1
      clear hct hcz hg
      rcases ls with _ | ⟨a, _ | ⟨b, _ | ⟨c, _ | ⟨d, ls⟩⟩⟩⟩
      · exact absurd rfl hne
      · have c0 : wr.cell? ⟨g, 0, none⟩ = some (.string (bs a)) := hcell 0 (by simp)
        clear hcell hne hf3 hw ht
        go_wp2
        go_loopw [6, 7] (fun i j wr' => (i = .int .i64 0 ∧ j = .int .i64 0 ∧ wr' = wr)) (fun i _ _ => 2 - (intOf i).toNat)
        case atStart => exact ⟨rfl, rfl, rfl⟩
        case round =>
          obtain ⟨rfl, rfl, rfl⟩ := hrel
          go_wp2
          go_ret
          refine ⟨g, cap, rfl, hgb, hB, fun j hj => ?_⟩
          simp at hj
          subst hj
          simpa using c0
      · have c0 : wr.cell? ⟨g, 0, none⟩ = some (.string (bs a)) := hcell 0 (by simp)
        have c1 : wr.cell? ⟨g, 1, none⟩ = some (.string (bs b)) := hcell 1 (by simp)
        clear hcell hne hf3 hw ht
        go_wp2
        go_loopw [6, 7] (fun i j wr' => (i = .int .i64 0 ∧ j = .int .i64 1 ∧ wr' = wr) ∨ (i = .int .i64 1 ∧ j = .int .i64 0 ∧ wr' = (wr.setCell ⟨g, 0, none⟩ (.string (bs b))).setCell ⟨g, 1, none⟩ (.string (bs a)))) (fun i _ _ => 2 - (intOf i).toNat)
        case atStart => exact Or.inl ⟨rfl, rfl, rfl⟩
        case round =>
          rcases hrel with ⟨rfl, rfl, rfl⟩ | ⟨rfl, rfl, rfl⟩
          · go_wp2
            go_roundw
            case rel => exact Or.inr ⟨rfl, rfl, trivial⟩
            case measure => simp [intOf]
          · go_wp2
            go_ret
            refine ⟨g, cap, rfl, hgb, (hB.setCell (p := ⟨g, 0, none⟩) hgb _).setCell (p := ⟨g, 1, none⟩) hgb _, fun j hj => ?_⟩
            simp at hj
            obtain rfl | rfl : j = 0 ∨ j = 1 := by omega
            all_goals simp [go_sem, *]
      · have c0 : wr.cell? ⟨g, 0, none⟩ = some (.string (bs a)) := hcell 0 (by simp)
        have c1 : wr.cell? ⟨g, 1, none⟩ = some (.string (bs b)) := hcell 1 (by simp)
        have c2 : wr.cell? ⟨g, 2, none⟩ = some (.string (bs c)) := hcell 2 (by simp)
        clear hcell hne hf3 hw ht
        go_wp2
        go_loopw [6, 7] (fun i j wr' => (i = .int .i64 0 ∧ j = .int .i64 2 ∧ wr' = wr) ∨ (i = .int .i64 1 ∧ j = .int .i64 1 ∧ wr' = (wr.setCell ⟨g, 0, none⟩ (.string (bs c))).setCell ⟨g, 2, none⟩ (.string (bs a)))) (fun i _ _ => 2 - (intOf i).toNat)
        case atStart => exact Or.inl ⟨rfl, rfl, rfl⟩
        case round =>
          rcases hrel with ⟨rfl, rfl, rfl⟩ | ⟨rfl, rfl, rfl⟩
          · go_wp2
            go_roundw
            case rel => exact Or.inr ⟨rfl, rfl, trivial⟩
            case measure => simp [intOf]
          · go_wp2
            go_ret
            refine ⟨g, cap, rfl, hgb, (hB.setCell (p := ⟨g, 0, none⟩) hgb _).setCell (p := ⟨g, 2, none⟩) hgb _, fun j hj => ?_⟩
            simp at hj
            obtain rfl | rfl | rfl : j = 0 ∨ j = 1 ∨ j = 2 := by omega
            all_goals simp [go_sem, *]
      · simp at hf3
    · have htl : t = preL dn ++ (UInt8.ofNat l.length :: (l ++ encL rs)) := by rw [← ht, hls, encL_append]; rfl
      have hl3 : 1 ≤ l.length ∧ l.length ≤ 3 := hw.short l (by simp [hls])
      have hx : ∀ h, ((bs t)[(preL dn).length]'h) = UInt8.ofNat l.length := fun h => by rw [get_bs]; simp [htl]
      have hx2 : (UInt8.ofNat l.length).toNat = l.length := by simp; omega
      have hlt : (preL dn).length + 1 + l.length < t.length := by have := length_encL_pos rs; simp [htl]; omega
      have hext : (bs t).extract ((preL dn).length + 1) ((preL dn).length + 1 + l.length) = bs l := by
        rw [extract_bs, htl]
        congr 1
        rw [List.drop_append, List.drop_eq_nil_of_le (by omega), show (preL dn).length + 1 - (preL dn).length = 1 by omega]
        simp
      clear htl
      have hsl : (Instr.slice 32 (.string (bs t)) (some (.int .i64 ((preL dn).length + 1 : Int))) (some (.int .i64 ((preL dn).length + 1 + l.length : Int))) none).run Yba.prog wr = .ok (.string (bs l)) wr := by
        have h := run_slice_string (P := Yba.prog) (w := wr) 32 (bs t) .i64 .i64 ((preL dn).length + 1) ((preL dn).length + 1 + l.length) Yba.underlying32 (by omega) (by omega) (by simp; omega)
        have e1 : ((preL dn).length + 1 : Int).toNat = (preL dn).length + 1 := by omega
        have e2 : ((preL dn).length + 1 + l.length : Int).toNat = (preL dn).length + 1 + l.length := by omega
        rw [e1, e2, hext] at h
        exact h
      have hd3 : dn.length + 1 ≤ 3 := by have := hw.few; rw [hls] at this; simp at this; omega
      go_wp2_with ((at_builtin; refine wpList_append_own _ rfl _ _ 22 rfl w.heap.size 9 i0 (.string ⟨#[]⟩) 1 16 Yba.underlying22 hi hz0 hz1 hz2 rfl (by decide) _ _ _ rfl (hrow.alloc _) ⟨wr.heap.size, 0, none⟩ 1 1 [.string (bs l)] rfl rfl ?c1 (by simp [Value.oneCell']) (by simp [maxLen]; omega) (by omega) (by have := hB.size; simp; omega) ?_))
      case c1 =>
        intro j u hj
        match j, hj with
        | 0, hj => simp at hj; subst hj; simp [Addr.add]
      intro v' w1 hown' hgrow _
      have hB1 : Below w.heap.size w w1 := (hB.alloc hB.size _).grown hgrow (by have := hB.size; simp; omega) (fun q hq => (hrow.lt q hq).1)
      obtain ⟨g', cap', rfl⟩ := ownsRow_succ hown'
      go_wp2
      go_roundw
      case rel =>
        refine ⟨dn ++ [l], rs, by simp [hls], ?_, by simpa [labStrs] using hown', hB1⟩
        rw [preL_append]
        simp [preL]
        omega
      case measure =>
        simp [intOf]
        omega
end Go.Proofs.Ybulkccao
