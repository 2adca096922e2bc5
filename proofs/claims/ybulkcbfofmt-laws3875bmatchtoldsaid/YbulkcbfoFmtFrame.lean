/- seat b3875aF: what the two proofs share: the stops, the listed variable, a start at which it reads as listed -/
import Derived.Test.YbulkcbfoFmtCards
import Derived.Test.YbulkcbfoFmtTie
import Derived.Test.YbulkcbfoFmtBytes
import Derived.ProofKit
import Derived.Stop.JoinedAt
import Derived.Stop.JoinedTold
import Derived.Stop.LaidErr
import Derived.SevenToldRow
import Derived.SevenTiedAt
import Derived.OpenShut
namespace Go.Proofs.YbulkcbfoFmt
open Go.ChangeShapes Go.WideShapes Go.ChangeAt Go.RowKit Go.Kit
open Go.Extern.Stop Go.Stop Go.Extern

theorem own : ownKnob Ybaf.prog.godebug = none := by kernel_rfl
theorem laidOut : laidOutB Ybaf.pinned.checked.prog = true := by kernel_rfl
theorem laidOut' : laidOutB Ybaf.prog = true := by kernel_rfl
theorem stops : Ybaf.pinned.checked.prog.stops = ["fmt.errorf"] := by kernel_rfl
theorem stopKnobs : Ybaf.pinned.checked.prog.stopKnobs = [] := by kernel_rfl
theorem quiet (os : Os) : Stop.quiet Ybaf.pinned.checked.prog os := by
  intro k hk
  rw [stopKnobs] at hk
  cases hk
/-- the listed variable's name -/
def vn : String := Rows.lawS3875BMatchSpec.vars.headD ""
theorem gT : Ybaf.prog.globalNamed vn = some 0 := by kernel_rfl
theorem gTType : (Ybaf.prog.globals[0]?).map (·.type) = some 24 := by kernel_rfl
theorem cells80 : Ybaf.prog.cellsOf 80 = 1 := by kernel_rfl
theorem cells9 : Ybaf.prog.cellsOf 9 = 1 := by kernel_rfl
theorem star : "*" ++ "errors.errorString" = "*errors.errorString" := by decide
theorem row78 (u : TypeId) (h : Ybaf.prog.typeName? 3 u = some "*errors.errorString") : u = 78 :=
  typeName_ptr_named (nm := "errors.errorString") (by rw [star]; kernel_rfl) (by kernel_rfl) (by decide) u (by rw [star]; exact h)

/-- A world whose variable 0 holds an error at block 'low'. -/
def laidW (w0 : World) (low : Nat) : World :=
  { w0 with heap := w0.heap.modify 0 fun
      | .cells _ t frozen => .cells #[.iface 78 (.pointer (some ⟨low, 0, none⟩))] t frozen
      | o => o }
theorem laid_met (os : Os) (args : Array Value) : laidMet Ybaf.prog Rows.lawS3875BMatchRow.laid
    ((laidW (World.holding Ybaf.prog os ⟨#[.cells #[.string ⟨#[108, 101, 110, 103, 116, 104, 32, 114, 117, 110, 115, 32, 112, 97, 115, 116, 32, 116, 104, 101, 32, 101, 110, 100, 32, 111, 102, 32, 116, 104, 101, 32, 100, 97, 116, 97]⟩] 80], #[], []⟩) (World.holding Ybaf.prog default ⟨#[], #[], []⟩).heap.size).forCall (fun _ _ => 0) ⟨#[], args, []⟩).memory :=
  laidMet_of_run (ps := [.cell 0 0, .cell (World.holding Ybaf.prog default ⟨#[], #[], []⟩).heap.size 0]) 8 (by kernel_rfl) (by kernel_rfl) (by kernel_rfl)

/-- A slice of bytes that came in, as the walk is told of it. -/
theorem row_of_trod {H : Type} {enc : TypeId × Value → H} {W : World} {a : Option Addr} {len cap : Nat} {d : DataW H} {p : List MemPlace}
    (h : DataW.Trod enc Ybaf.prog W 0 (fun _ => true) true 22 (.slice a len cap) d p) : ∃ zs, IsRow W a len cap zs := by
  obtain ⟨fuel, hf⟩ := h
  rcases open_ints Ybaf.underlying22 Ybaf.underlying5 (by kernel_rfl) hf with ⟨hcs, _⟩ | ⟨x, l, c, zs, hcs, _, hl, hm, hz, _, hcell, hwz⟩
  · simp [Value.cells] at hcs
    obtain ⟨rfl, rfl, rfl⟩ := hcs
    exact ⟨[], rfl, Nat.le_refl _, Or.inl ⟨rfl, rfl, rfl⟩⟩
  · simp [Value.cells] at hcs
    obtain ⟨rfl, rfl, rfl⟩ := hcs
    simp at hz
    refine ⟨zs.take len, by simp; omega, hl, Or.inr ⟨x, rfl, fun h0 => ?_, fun i hi => ?_⟩⟩
    · have := World.block_lt_of_cell? W _ (hcell 0 (by omega))
      simpa [Addr.add] using this
    · rw [hcell i (by omega)]
      simp [hi]
end Go.Proofs.YbulkcbfoFmt
