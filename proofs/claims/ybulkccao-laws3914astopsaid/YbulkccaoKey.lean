/- seat b3914a: (Name).Key -/
import Derived.Test.YbulkccaoAppendKey
import Derived.Laws.IdiomRangeMap
import Derived.Laws.IdiomStrings
namespace Go.Proofs.Ybulkccao
open Go Go.RowKit Go.Lib

theorem key_conv {w1 : World} {g T : Nat} {cs : Array Value} {n : Bytes} (hcs : w1.heap[g]? = some (.cells cs T (0, 0))) (hkr : KeyRow cs n n.length) :
    (convert 45 9 (.slice (some ⟨g, 0, none⟩) n.length 255)).run Yba.prog w1 = .ok (.string (bs (lowL n))) w1 := by
  have h := run_convert_bytes_back (P := Yba.prog) w1 45 9 5 ⟨g, 0, none⟩ 255 (lowL n) Yba.underlying45 Yba.underlying5 Yba.underlying9 (fun j hj => by
    have hj' : j < n.length := by simpa [lowL] using hj
    have := hkr.2 j hj'
    rw [if_pos hj'] at this
    rw [Go.WideShapes.add_plain, Nat.zero_add]
    rw [cell_blk hcs this]
    simp [lowL])
  have hl : (lowL n).length = n.length := by simp [lowL]
  rw [hl] at h
  exact h

set_option maxRecDepth 100000 in
set_option maxHeartbeats 1600000 in
theorem key_run (n : Bytes) (w : World) (hn : n.length ≤ 255) :
    Calls Yba.prog 18 #[.string (bs n)] w fun e w' => e = .returned (.string (bs (lowL n))) ∧ Below w.heap.size w w' := by
  have hsz := size_bs n
  go_enter Yba.func18, Yba.ntmps18
  go_wp2
  go_loopw [3] (fun i wr => (∃ q, wr = w.drewN q) ∧ ∃ k : Nat, k ≤ n.length ∧ i = .int .i64 k ∧ ∀ j (h : j < n.length), j < k → lowU n[j] = n[j]) (fun i _ => n.length - (intOf i).toNat)
  case atStart => exact ⟨⟨0, rfl⟩, 0, by omega, rfl, fun j _ h => by omega⟩
  case round =>
    obtain ⟨hq, k, hk, rfl, hlow⟩ := hrel
    rcases Nat.lt_or_ge k n.length with hlt | hge
    · have i1 : ((bs n)[k]'(by simp; omega)) = n[k] := get_bs n k (by simp; omega)
      have hI1 : (k : Int) < ((bs n).size : Int) := by simp; omega
      go_wp2
      go_quiet ((go_at_call 26; go_must (refine Calls.quiet_of_same (lower_run _ _))))
      have hz : (Yba.zeroCells100).size = 255 := by kernel_rfl
      have hAK := appendKey_run n wr.heap.size 100 Yba.zeroCells100 ((wr.drewN nq).alloc (Obj.cells Yba.zeroCells100 100)) hn (heap_alloc_new (wr.drewN nq) _) hz
      go_wp2_with (go_at_call 35; refine hAK.mono ?_; rintro e w1 ⟨rfl, hO, cs, hcs, hkr⟩; clear hAK; have hcv := key_conv hcs hkr)
      · go_ret
        refine ⟨rfl, ?_⟩
        obtain ⟨q, rfl⟩ := hq
        refine ⟨hO.os, hO.tape, hO.output, by rw [hO.size]; simp, fun b hb => ?_⟩
        rw [hO.block b (by simp; omega)]
        exact heap_alloc_old _ _ hb
      · rename_i heq
        go_roundw
        case rel =>
          refine ⟨?_, k + 1, by omega, rfl, fun j hj hjk => ?_⟩
          · obtain ⟨q, rfl⟩ := hq
            exact ⟨q + nq, World.drewN_drewN ..⟩
          · by_cases e : j = k
            · subst e
              apply UInt8.toNat_inj.1
              have h2 : ((lowU n[j]).toNat : Int) = n[j].toNat := by simpa using heq
              omega
            · exact hlow j hj (by omega)
        case measure => simp [intOf]; omega
    · go_wp2
      go_ret
      have : lowL n = n := by
        apply List.ext_getElem (by simp [lowL])
        intro j h1 h2
        simp [lowL]
        exact hlow j h2 (by omega)
      refine ⟨by rw [this]; rfl, ?_⟩
      obtain ⟨q, rfl⟩ := hq
      exact ⟨rfl, rfl, rfl, Nat.le_refl _, fun _ _ => rfl⟩
end Go.Proofs.Ybulkccao
