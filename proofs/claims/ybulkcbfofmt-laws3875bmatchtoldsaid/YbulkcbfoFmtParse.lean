/- seat b3875aF: ParseElement and checkNonce at a well-formed short OCTET STRING -/
import Derived.Test.YbulkcbfoFmtRead
import Derived.Deep.RegionWith
namespace Go.Proofs.YbulkcbfoFmt
open Go Go.RowKit

/-- the element that is read -/
abbrev elemOk (nb n : Nat) (ac : Addr) : Value := .agg #[.int .u8 4, .slice (some ⟨nb, 0, none⟩) (2 + n) (2 + n), .slice (some ac) n n]

set_option maxHeartbeats 400000 in
theorem Read_ok (rb nb n k : Nat) (w : World) (hn : n ≤ 127) (hk : 2 + n ≤ k)
    (hr : w.cell? ⟨rb, 0, none⟩ = some (.slice (some ⟨nb, 0, none⟩) (2 + n) k)) (hf : w.frozen? ⟨rb, 0, none⟩ = false)
    (h0 : w.cell? ⟨nb, 0, none⟩ = some (.int .u8 4)) (h1 : w.cell? ⟨nb, 1, none⟩ = some (.int .u8 (n : Int))) :
    Calls Ybaf.prog 34 #[.pointer (some ⟨rb, 0, none⟩), .int .u8 4] w fun e w' =>
      ∃ a c ac, e = .returned (.tuple #[elemOk nb n ac, .nilIface]) ∧ (0 < n → ac = ⟨nb, 2, none⟩) ∧
        ∃ o1 o2, w' = (((w.setCell ⟨rb, 0, none⟩ (.slice (some a) 0 c)).alloc o1).alloc o2).drew := by
  have hb := World.block_lt_of_cell? w _ h0
  have hb2 := World.block_lt_of_cell? w _ hr
  simp only at hb hb2
  go_enter Ybaf.func34, Ybaf.ntmps34
  go_wp2_with fail
  refine (read_ok rb nb n k _ hn hk ?_ ?_ ?_ ?_).mono ?_
  · exact (World.cell?_alloc_past _ _ _ hb2).trans hr
  · exact (World.frozen?_alloc_past _ _ _ hb2).trans hf
  · exact (World.cell?_alloc_past _ _ _ hb).trans h0
  · exact (World.cell?_alloc_past _ _ _ hb).trans h1
  rintro e w1 ⟨a, c, ac, rfl, hac, o, rfl⟩
  go_wp2
  exact bodyPost_ret (v := .tuple #[elemOk nb n ac, .nilIface]) (by simp [results, Ybaf.results34, go_sem]) rfl ⟨_, _, _, rfl, hac, _, _, rfl⟩
set_option maxHeartbeats 400000 in
theorem End_ok (rb c : Nat) (a : Addr) (w : World) (hr : w.cell? ⟨rb, 0, none⟩ = some (.slice (some a) 0 c)) :
    Calls Ybaf.prog 35 #[.pointer (some ⟨rb, 0, none⟩)] w fun e w' => e = .returned .nilIface ∧ w' = w := by
  go_enter Ybaf.func35, Ybaf.ntmps35
  go_wp2
  go_ret
  exact ⟨rfl, rfl⟩

theorem cell_under3 (W : World) (b : Nat) (v : Value) (t : TypeId) (o1 o2 o3 : Obj) (hb : b = W.heap.size) :
    ((((W.alloc (.cells #[v] t)).alloc o1).alloc o2).alloc o3).drew.drew.cell? ⟨b, 0, none⟩ = some v := by
  subst hb
  show ((((W.alloc (.cells #[v] t)).alloc o1).alloc o2).alloc o3).cell? _ = _
  rw [World.cell?_alloc_past _ _ _ (by simp; omega), World.cell?_alloc_past _ _ _ (by simp; omega), World.cell?_alloc_past _ _ _ (by simp), World.cell?_alloc_at _ _ _ _ rfl]
  rfl
set_option maxHeartbeats 800000 in
theorem Parse_ok (nb n k : Nat) (w : World) (hn : n ≤ 127) (hk : 2 + n ≤ k)
    (h0 : w.cell? ⟨nb, 0, none⟩ = some (.int .u8 4)) (h1 : w.cell? ⟨nb, 1, none⟩ = some (.int .u8 (n : Int))) :
    Calls Ybaf.prog 19 #[.slice (some ⟨nb, 0, none⟩) (2 + n) k, .int .u8 4] w fun e w' =>
      ∃ ac, e = .returned (.tuple #[elemOk nb n ac, .nilIface]) ∧ (0 < n → ac = ⟨nb, 2, none⟩) ∧ Below w.heap.size w w' := by
  have hb := World.block_lt_of_cell? w _ h0
  simp only at hb
  go_enter Ybaf.func19, Ybaf.ntmps19
  go_wp2_with (first | (go_at_call 33; go_in))
  refine (Read_ok _ nb n k _ hn hk ?_ ?_ ?_ ?_).mono ?_
  · simp [go_sem]
  · simp [go_sem]
  · exact (World.cell?_alloc_past _ _ _ (by simp; omega)).trans ((World.cell?_alloc_past _ _ _ hb).trans h0)
  · exact (World.cell?_alloc_past _ _ _ (by simp; omega)).trans ((World.cell?_alloc_past _ _ _ hb).trans h1)
  rintro e w1 ⟨a, c, ac, rfl, hac, o1, o2, rfl⟩
  go_wp2
  go_region_with ((go_at_call 35; refine (End_ok _ c a _ ?_).mono ?_; exact cell_under3 _ _ _ _ _ _ _ (by simp); rintro e w' ⟨rfl, rfl⟩))
  all_goals
    go_wp2
    refine bodyPost_ret (v := .tuple #[elemOk nb n ac, .nilIface]) (by simp [results, Ybaf.results19, go_sem]) rfl ⟨ac, rfl, hac, ?_⟩
    exact ((((((Below.refl _ _).alloc (Nat.le_refl _) _).alloc (by simp) _).alloc (by simp; omega) _).alloc (by simp; omega) _).alloc (by simp; omega) _).drew.drew

theorem IsRow.bytes {w : World} {a : Option Addr} {n k : Nat} {zs : List Int} (h : IsRow w a n k zs) : Lib.BytesIn w a n zs := by
  obtain ⟨h1, h2, h3⟩ := h
  rcases h3 with ⟨rfl, rfl, rfl⟩ | ⟨x, rfl, _, hc⟩
  · obtain rfl : zs = [] := List.length_eq_zero_iff.1 h1
    exact Lib.BytesIn.nil _ _ _
  · exact Lib.BytesIn.of_cells hc

/-- bytes.Equal at two slices of bytes: whether they hold the same bytes. -/
theorem equal_rows {w : World} {a1 a2 : Option Addr} {n k m l : Nat} {xs ys : List Int} (h1 : IsRow w a1 n k xs) (h2 : IsRow w a2 m l ys) :
    Calls Ybaf.prog 12 #[.slice a1 n k, .slice a2 m l] w fun e w' => e = .returned (.bool (Lib.bytesOf xs == Lib.bytesOf ys)) ∧ w' = w :=
  Ybaf.bytes_Equal_all a1 a2 n k m l xs ys w h1.1 h2.1 h1.bytes h2.bytes

/-- what the contents of the element hold: what stands behind the two octets of the head -/
theorem IsRow.tail {w : World} {nb n k : Nat} {t l : Int} {cs : List Int} {ac : Addr} (h : IsRow w (some ⟨nb, 0, none⟩) (2 + n) k ([t, l] ++ cs)) (hac : 0 < n → ac = ⟨nb, 2, none⟩) : IsRow w (some ac) n n cs := by
  obtain ⟨h1, h2, h3⟩ := h
  simp at h1
  refine ⟨by omega, Nat.le_refl _, Or.inr ⟨ac, rfl, fun hp => ?_, fun i hi => ?_⟩⟩
  · rcases h3 with ⟨h, _⟩ | ⟨x, hx, hlt, _⟩
    · cases h
    · cases hx
      rw [hac hp]
      exact hlt (by omega)
  · rcases h3 with ⟨h, _⟩ | ⟨x, hx, hlt, hc⟩
    · cases h
    · cases hx
      rw [hac (by omega)]
      have := hc (2 + i) (by omega)
      rw [Go.WideShapes.add_plain] at this ⊢
      simp only [Nat.zero_add] at this
      rw [this]
      congr 2
      rw [Nat.add_comm 2 i]
      simp

set_option maxRecDepth 100000 in
set_option maxHeartbeats 400000 in
theorem check_ok (pb nb n k : Nat) (aw : Addr) (m km : Nat) (cs ws : List Int) (w : World) (hn : n ≤ 127)
    (hp : w.cell? ⟨pb, 10, none⟩ = some (.slice (some ⟨nb, 0, none⟩) (2 + n) k))
    (hr : IsRow w (some ⟨nb, 0, none⟩) (2 + n) k ([4, (n : Int)] ++ cs)) (hw : IsRow w (some aw) m km ws) :
    Calls Ybaf.prog 11 #[.pointer (some ⟨pb, 0, none⟩), .slice (some aw) m km] w fun e w' =>
      (((Lib.bytesOf cs == Lib.bytesOf ws) = true ∧ e = .returned .nilIface) ∨ ((Lib.bytesOf cs == Lib.bytesOf ws) = false ∧ ∃ a, e = .returned (.iface 78 (.pointer (some a))))) ∧ Below w.heap.size w w' := by
  have hn1 := fun (wx : World) (a : Option Addr) (n c : Nat) => Lib.run_eql_slice_nil (P := Ybaf.prog) wx 22 5 a n c 0 0 Ybaf.underlying22
  obtain ⟨h0, h1⟩ : w.cell? ⟨nb, 0, none⟩ = some (.int .u8 4) ∧ w.cell? ⟨nb, 1, none⟩ = some (.int .u8 (n : Int)) := by
    obtain ⟨_, _, h3⟩ := hr
    rcases h3 with ⟨h, _⟩ | ⟨x, hx, hlt, hc⟩
    · cases h
    · cases hx
      exact ⟨by simpa [Addr.add] using hc 0 (by omega), by simpa [Addr.add] using hc 1 (by omega)⟩
  go_enter Ybaf.func11, Ybaf.ntmps11
  go_wp2_with fail
  refine (Parse_ok nb n k _ hn hr.2.1 h0 h1).mono ?_
  rintro e w1 ⟨ac, rfl, hac, hbel⟩
  have hz := hbel.size
  have hr1 := (hr.tail hac).below hbel
  have hw1 := hw.below hbel
  clear hr hw hp h0 h1
  go_wp2_with fail
  refine (equal_rows (hr1.below ((Below.refl _ _).alloc (Nat.le_refl _) _)) (hw1.below ((Below.refl _ _).alloc (Nat.le_refl _) _))).mono ?_
  rintro e w2 ⟨rfl, rfl⟩
  cases hq : Lib.bytesOf cs == Lib.bytesOf ws
  · have HQ : Hid ((Lib.bytesOf cs == Lib.bytesOf ws) = false) := hq
    clear hq
    go_wp2_with (go_at_call 20; refine (errorsNew_any _ _).mono ?_; rintro e w3 ⟨rfl, rfl⟩)
    go_ret
    exact ⟨Or.inr ⟨HQ.out, _, rfl⟩, (hbel.alloc hz _).alloc (by simp; omega) _⟩
  · have HQ : Hid ((Lib.bytesOf cs == Lib.bytesOf ws) = true) := hq
    clear hq
    go_wp2
    go_ret
    exact ⟨Or.inl ⟨HQ.out, rfl⟩, hbel.alloc hz _⟩
end Go.Proofs.YbulkcbfoFmt
