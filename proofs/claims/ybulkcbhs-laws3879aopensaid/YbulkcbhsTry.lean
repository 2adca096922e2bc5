/- seat b3879a: (*sync.Mutex).TryLock at a free lock -/
import Derived.Test.YbulkcbhsLocks
import Derived.Conc.MuLone
import Derived.WalkKit
namespace Go.Proofs.Ybulkcbhs
open Go Go.Conc Go.RowKit Go.MuLone

set_option maxHeartbeats 800000 in
theorem itry_free (b o : Nat) (w : World) (hc : w.cell? ⟨b, o, none⟩ = some (.int .i32 0)) (hz : w.frozen? ⟨b, o, none⟩ = false) :
    Calls Yba.prog 13 #[.pointer (some ⟨b, o, none⟩)] w fun e w' => e = .returned (.bool true) ∧ w' = w.setCell ⟨b, o, none⟩ (.int .i32 1) := by
  have hd : ∀ w, (callFunc 16 #[]).run Yba.prog w = .ok (.value (.tuple #[])) w := disable Yba.muLib
  have he : ∀ w, (callFunc 17 #[]).run Yba.prog w = .ok (.value (.tuple #[])) w := enable Yba.muLib
  have ha : ∀ a w, (callFunc 19 #[.pointer (some a)]).run Yba.prog w = .ok (.value (.tuple #[])) w := acquire Yba.muLib
  have hcas := run_call_cas_hit (P := Yba.prog) Yba.func18 (by kernel_rfl) (by kernel_rfl) (by kernel_rfl) .i32 (by kernel_rfl) (y := 1) hc hz
  have hc' : (w.setCell ⟨b, o, none⟩ (.int .i32 1)).cell? ⟨b, o, none⟩ = some (.int .i32 1) := by simp [go_sem, hc]
  have hcv := run_convert_to_unsafe (P := Yba.prog) (src := 63) (dst := 67) Yba.underlying63 Yba.underlying67 (by kernel_rfl) hc'
  go_enter Yba.func13, Yba.ntmps13
  go_wp2
  go_ret
  exact ⟨rfl, rfl⟩
set_option maxHeartbeats 800000 in
theorem try_free (b o : Nat) (w : World) (hc : w.cell? ⟨b, o, none⟩ = some (.int .i32 0)) (hz : w.frozen? ⟨b, o, none⟩ = false) :
    Calls Yba.prog 7 #[.pointer (some ⟨b, o, none⟩)] w fun e w' => e = .returned (.bool true) ∧ w' = w.setCell ⟨b, o, none⟩ (.int .i32 1) := by
  go_enter Yba.func7, Yba.ntmps7
  go_wp2_with (go_at_call 13; refine (itry_free b o w hc hz).mono ?_; rintro e w' ⟨rfl, rfl⟩)
  go_ret
  exact ⟨rfl, rfl⟩
end Go.Proofs.Ybulkcbhs
