/- seat b3914a: zzs3914aname -/
import Derived.Test.YbulkccaoLabel
namespace Go.Proofs.Ybulkccao
open Go Go.RowKit Go.Lib

def com : Bytes := [99, 111, 109]
theorem append_bs (a b : Bytes) : bs a ++ bs b = bs (a ++ b) := by
  apply ByteArray.ext
  simp [bs, ByteArray.data_append]

set_option maxRecDepth 100000 in
set_option maxHeartbeats 1600000 in
theorem name_run (s : ByteArray) (w : World) (hs : s.size ≤ 9223372036854775807) :
    Calls Yba.prog 9 #[.string s] w fun e w' => ∃ ls : List Bytes, WFL ls ∧ (∃ l ls', ls = l :: ls' ++ [com]) ∧ e = .returned (.string (bs (encL ls))) ∧ Below w.heap.size w w' := by
  go_enter Yba.func9, Yba.ntmps9
  go_wp2_with (go_at_call 21; refine (label_run _ _).mono ?_; rintro e w1 ⟨l, hl1, hl3, rfl, hB⟩)
  · rename_i wa la ha1 ha3 hBa _
    go_ret
    refine ⟨[l, la, com], ⟨by simp, ?_⟩, ⟨l, [la], rfl⟩, ?_, hBa.trans ⟨hB.os, hB.tape, hB.output, hB.size, fun k hk => hB.block k (Nat.lt_of_lt_of_le hk hBa.size)⟩⟩
    · intro x hx
      simp at hx
      rcases hx with rfl | rfl | rfl
      · exact ⟨hl1, hl3⟩
      · exact ⟨ha1, ha3⟩
      · simp [com]
    · have e : (⟨#[3, 99, 111, 109, 0]⟩ : ByteArray) = bs [3, 99, 111, 109, 0] := rfl
      simp [e, append_bs, encL, com]
  · go_ret
    refine ⟨[l, com], ⟨by simp, ?_⟩, ⟨l, [], rfl⟩, ?_, hB⟩
    · intro x hx
      simp at hx
      rcases hx with rfl | rfl
      · exact ⟨hl1, hl3⟩
      · simp [com]
    · have e : (⟨#[3, 99, 111, 109, 0]⟩ : ByteArray) = bs [3, 99, 111, 109, 0] := rfl
      simp [e, append_bs, encL, com]
end Go.Proofs.Ybulkccao
