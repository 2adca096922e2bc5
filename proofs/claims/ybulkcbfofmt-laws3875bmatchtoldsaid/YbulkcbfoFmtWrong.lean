/- seat b3875aF: the reader at a wrong tag; checkNonce at a wrong tag -/
import Derived.Test.YbulkcbfoFmtErrs
import Derived.WalkLawsBesides
import Derived.WalkSmall
import Derived.Deep.DeepMust
namespace Go.Proofs.YbulkcbfoFmt
open Go Go.RowKit Go.Extern.Stop Go.Stop Go.Extern

/-- der.Element{} -/
abbrev noElem : Value := .agg #[.int .u8 0, .slice none 0 0, .slice none 0 0]

theorem cell_far {w : World} {p q : Addr} {v u : Value} (h : w.cell? q = some u) (hne : p.block ≠ q.block) : (w.setCell p v).cell? q = some u :=
  (World.cell?_setCell_other w _ _ _ (fun e => hne (congrArg Addr.block e))).trans h
set_option maxHeartbeats 400000 in
theorem read_wrong (F : Interp) (rb nb n k : Nat) (tag : Int) (w : World) (hF : F.answers w.tape)
    (hr : w.cell? ⟨rb, 0, none⟩ = some (.slice (some ⟨nb, 0, none⟩) n k)) (hn : 0 < n) (ht : w.cell? ⟨nb, 0, none⟩ = some (.int .u8 tag)) (hne : (tag == 4) = false) :
    Calls Ybaf.prog 40 #[.pointer (some ⟨rb, 0, none⟩), .int .u8 4, .bool true] w fun e w' =>
      ∃ a s, e = .returned (.tuple #[noElem, .iface 78 (.pointer (some ⟨a, 0, none⟩))]) ∧ w'.cell? ⟨a, 0, none⟩ = some (.string s) ∧ w.heap.size ≤ a ∧ Below w.heap.size w w' := by
  have hn' : ((n : Int) == 0) = false := by simp; omega
  have hb := World.block_lt_of_cell? w _ ht
  have hb2 := World.block_lt_of_cell? w _ hr
  simp only at hb hb2
  go_enter Ybaf.func40, Ybaf.ntmps40
  go_wp2_with fail
  refine (errorf_tag F tag 4 _ _ ?_ ?_ ?_).mono ?_
  · exact hF
  · simp [go_sem]
  · simp [go_sem]
  rintro e w' ⟨rfl, rfl⟩
  go_wp2
  refine bodyPost_ret (v := .tuple #[noElem, .iface 78 (.pointer (some ⟨w.heap.size + 1 + 1, 0, none⟩))]) (by simp [results, Ybaf.results40, go_sem]) rfl ⟨w.heap.size + 1 + 1, _, rfl, by simp [go_sem]; rfl, by omega, ?_⟩
  exact ((((Below.refl _ _).alloc (Nat.le_refl _) _).alloc (by simp) _).alloc (by simp; omega) _).drew

set_option maxHeartbeats 400000 in
theorem Read_wrong (F : Interp) (rb nb n k : Nat) (tag : Int) (w : World) (hF : F.answers w.tape)
    (hr : w.cell? ⟨rb, 0, none⟩ = some (.slice (some ⟨nb, 0, none⟩) n k)) (hn : 0 < n) (ht : w.cell? ⟨nb, 0, none⟩ = some (.int .u8 tag)) (hne : (tag == 4) = false) :
    Calls Ybaf.prog 34 #[.pointer (some ⟨rb, 0, none⟩), .int .u8 4] w fun e w' =>
      ∃ a s, e = .returned (.tuple #[noElem, .iface 78 (.pointer (some ⟨a, 0, none⟩))]) ∧ w'.cell? ⟨a, 0, none⟩ = some (.string s) ∧ w.heap.size ≤ a ∧ Below w.heap.size w w' := by
  have hb := World.block_lt_of_cell? w _ ht
  have hb2 := World.block_lt_of_cell? w _ hr
  simp only at hb hb2
  go_enter Ybaf.func34, Ybaf.ntmps34
  go_wp2_with fail
  refine (read_wrong F rb nb n k tag _ ?_ ?_ hn ?_ hne).mono ?_
  · exact hF
  · exact (World.cell?_alloc_past _ _ _ hb2).trans hr
  · exact (World.cell?_alloc_past _ _ _ hb).trans ht
  rintro e w1 ⟨a, s, rfl, hs, ha, hbel⟩
  have c0 := (hbel.cell (p := ⟨w.heap.size, 0, none⟩) (by simp))
  have f0 := (hbel.frozen (p := ⟨w.heap.size, 0, none⟩) (by simp))
  have c1 := (hbel.cell (p := ⟨w.heap.size, 1, none⟩) (by simp))
  have f1 := (hbel.frozen (p := ⟨w.heap.size, 1, none⟩) (by simp))
  have c2 := (hbel.cell (p := ⟨w.heap.size, 2, none⟩) (by simp))
  have f2 := (hbel.frozen (p := ⟨w.heap.size, 2, none⟩) (by simp))
  have hsz : w.heap.size < w1.heap.size := by have := hbel.size; simp at this; omega
  have hne2 : w.heap.size ≠ a := by simp at ha; omega
  simp at ha
  go_wp2
  refine bodyPost_ret (v := .tuple #[noElem, .iface 78 (.pointer (some ⟨a, 0, none⟩))]) (by simp [results, Ybaf.results34, go_sem, c0, c1, c2]) rfl ⟨a, s, rfl, cell_far (cell_far (cell_far hs hne2) hne2) hne2, by omega, ?_⟩
  exact (((((Below.refl _ _).alloc (Nat.le_refl _) _).trans (hbel.mono (by simp))).setCell (by simp) _).setCell (by simp) _).setCell (by simp) _

set_option maxHeartbeats 400000 in
theorem Parse_wrong (F : Interp) (nb n k : Nat) (tag : Int) (w : World) (hF : F.answers w.tape)
    (hn : 0 < n) (ht : w.cell? ⟨nb, 0, none⟩ = some (.int .u8 tag)) (hne : (tag == 4) = false) :
    Calls Ybaf.prog 19 #[.slice (some ⟨nb, 0, none⟩) n k, .int .u8 4] w fun e w' =>
      ∃ a s, e = .returned (.tuple #[noElem, .iface 78 (.pointer (some ⟨a, 0, none⟩))]) ∧ w'.cell? ⟨a, 0, none⟩ = some (.string s) ∧ w.heap.size ≤ a ∧ Below w.heap.size w w' := by
  have hb := World.block_lt_of_cell? w _ ht
  simp only at hb
  go_enter Ybaf.func19, Ybaf.ntmps19
  go_wp2_with (first | (go_at_call 33; go_in))
  refine (Read_wrong F _ nb n k tag _ ?_ ?_ hn ?_ hne).mono ?_
  · exact hF
  · simp [go_sem]
  · exact (World.cell?_alloc_past _ _ _ (by simp; omega)).trans ((World.cell?_alloc_past _ _ _ hb).trans ht)
  rintro e w1 ⟨a, s, rfl, hs, ha, hbel⟩
  have c0 := (hbel.cell (p := ⟨w.heap.size, 0, none⟩) (by simp; omega))
  have f0 := (hbel.frozen (p := ⟨w.heap.size, 0, none⟩) (by simp; omega))
  have c1 := (hbel.cell (p := ⟨w.heap.size, 1, none⟩) (by simp; omega))
  have f1 := (hbel.frozen (p := ⟨w.heap.size, 1, none⟩) (by simp; omega))
  have c2 := (hbel.cell (p := ⟨w.heap.size, 2, none⟩) (by simp; omega))
  have f2 := (hbel.frozen (p := ⟨w.heap.size, 2, none⟩) (by simp; omega))
  have hsz : w.heap.size < w1.heap.size := by have := hbel.size; simp at this; omega
  have hal : a < w1.heap.size := World.block_lt_of_cell? w1 _ hs
  simp at ha
  have hne2 : w.heap.size ≠ a := by omega
  go_wp2
  refine bodyPost_ret (v := .tuple #[noElem, .iface 78 (.pointer (some ⟨a, 0, none⟩))]) (by simp [results, Ybaf.results19, go_sem, c0, c1, c2, hsz]) rfl
    ⟨a, s, rfl, (World.cell?_alloc_past _ _ _ (by simpa using hal)).trans (cell_far (cell_far (cell_far hs hne2) hne2) hne2), by omega, ?_⟩
  exact (((((((Below.refl _ _).alloc (Nat.le_refl _) _).alloc (by simp) _).trans (hbel.mono (by simp; omega))).setCell (by simp) _).setCell (by simp) _).setCell (by simp) _).alloc (by simp; omega) _

set_option maxRecDepth 100000 in
set_option maxHeartbeats 400000 in
theorem check_wrong (F : Interp) (pb nb n k : Nat) (aw : Addr) (m km : Nat) (tag : Int) (w : World) (hF : F.answers w.tape)
    (hp : w.cell? ⟨pb, 10, none⟩ = some (.slice (some ⟨nb, 0, none⟩) n k))
    (hn : 0 < n) (ht : w.cell? ⟨nb, 0, none⟩ = some (.int .u8 tag)) (hne : (tag == 4) = false) :
    Calls Ybaf.prog 11 #[.pointer (some ⟨pb, 0, none⟩), .slice (some aw) m km] w fun e w' =>
      ∃ a, e = .returned (.iface 70 (.pointer (some a))) ∧ Below w.heap.size w w' := by
  have hn1 := fun (wx : World) (a : Option Addr) (n c : Nat) => Lib.run_eql_slice_nil (P := Ybaf.prog) wx 22 5 a n c 0 0 Ybaf.underlying22
  go_enter Ybaf.func11, Ybaf.ntmps11
  go_wp2_with fail
  refine (Parse_wrong F nb n k tag _ hF hn ht hne).mono ?_
  rintro e w1 ⟨a, s, rfl, hs, ha, hbel⟩
  have hF1 : F.answers w1.tape := by rw [hbel.tape]; exact hF
  have hal : a < w1.heap.size := World.block_lt_of_cell? w1 _ hs
  clear hF hp ht
  go_wp2_with fail
  refine (errorf_wrap F ⟨a, 0, none⟩ s _ _ ?_ ?_ ?_).mono ?_
  · exact hF1
  · simp [go_sem]
  · exact (World.cell?_alloc_past _ _ _ (by simp; omega)).trans ((World.cell?_alloc_past _ _ _ hal).trans hs)
  rintro e w2 ⟨rfl, rfl⟩
  go_wp2
  go_ret
  have := hbel.size
  exact ⟨_, rfl, (((hbel.alloc this _).alloc (by simp; omega) _).alloc (by simp; omega) _).drew⟩
end Go.Proofs.YbulkcbfoFmt
