/- seat b3875aF: the reader at a well-formed short OCTET STRING; checkNonce there -/
import Derived.Test.YbulkcbfoFmtWrong
import Derived.Test.YbulkcbfoFmtBytes
import Derived.Test.YbulkcbfoFmtShelf
import Derived.RegionTactic
import Derived.BigRegion
import Derived.Deep.RegionHeld3
namespace Go.Proofs.YbulkcbfoFmt
open Go Go.RowKit

set_option maxRecDepth 100000 in
set_option maxHeartbeats 800000 in
theorem read_ok (rb nb n k : Nat) (w : World) (hn : n ≤ 127) (hk : 2 + n ≤ k)
    (hr : w.cell? ⟨rb, 0, none⟩ = some (.slice (some ⟨nb, 0, none⟩) (2 + n) k)) (hf : w.frozen? ⟨rb, 0, none⟩ = false)
    (h0 : w.cell? ⟨nb, 0, none⟩ = some (.int .u8 4)) (h1 : w.cell? ⟨nb, 1, none⟩ = some (.int .u8 (n : Int))) :
    Calls Ybaf.prog 40 #[.pointer (some ⟨rb, 0, none⟩), .int .u8 4, .bool true] w fun e w' =>
      ∃ a c ac, e = .returned (.tuple #[.agg #[.int .u8 4, .slice (some ⟨nb, 0, none⟩) (2 + n) (2 + n), .slice (some ac) n n], .nilIface]) ∧ (0 < n → ac = ⟨nb, 2, none⟩) ∧
        ∃ o, w' = ((w.setCell ⟨rb, 0, none⟩ (.slice (some a) 0 c)).alloc o).drew := by
  have hb := World.block_lt_of_cell? w _ h0
  have hb2 := World.block_lt_of_cell? w _ hr
  simp only at hb hb2
  have hi1 : (2 : Int) + (n : Int) ≤ 129 := by omega
  rcases Nat.eq_or_lt_of_le hk with rfl | hlt
  · rcases Nat.eq_zero_or_pos n with rfl | hp
    · go_enter Ybaf.func40, Ybaf.ntmps40
      go_wp2
      go_region
      go_wp2
      exact bodyPost_ret (v := .tuple #[.agg #[.int .u8 4, .slice (some ⟨nb, 0, none⟩) (2 + 0) (2 + 0), .slice (some ⟨nb, 0, none⟩) 0 0], .nilIface]) (by simp [results, Ybaf.results40, go_sem]) rfl ⟨_, _, _, rfl, fun h => by omega, _, rfl⟩
    · go_enter Ybaf.func40, Ybaf.ntmps40
      go_wp2
      go_region
      go_wp2
      exact bodyPost_ret (v := .tuple #[.agg #[.int .u8 4, .slice (some ⟨nb, 0, none⟩) (2 + n) (2 + n), .slice (some ⟨nb, 2, none⟩) n n], .nilIface]) (by simp [results, Ybaf.results40, go_sem]) rfl ⟨_, _, _, rfl, fun h => rfl, _, rfl⟩
  · rcases Nat.eq_zero_or_pos n with rfl | hp
    · go_enter Ybaf.func40, Ybaf.ntmps40
      go_wp2
      go_region
      go_wp2
      exact bodyPost_ret (v := .tuple #[.agg #[.int .u8 4, .slice (some ⟨nb, 0, none⟩) (2 + 0) (2 + 0), .slice (some ⟨nb, 0, none⟩) 0 0], .nilIface]) (by simp [results, Ybaf.results40, go_sem]) rfl ⟨_, _, _, rfl, fun h => by omega, _, rfl⟩
    · go_enter Ybaf.func40, Ybaf.ntmps40
      go_wp2
      go_region
      go_wp2
      exact bodyPost_ret (v := .tuple #[.agg #[.int .u8 4, .slice (some ⟨nb, 0, none⟩) (2 + n) (2 + n), .slice (some ⟨nb, 2, none⟩) n n], .nilIface]) (by simp [results, Ybaf.results40, go_sem]) rfl ⟨_, _, _, rfl, fun h => rfl, _, rfl⟩
end Go.Proofs.YbulkcbfoFmt
