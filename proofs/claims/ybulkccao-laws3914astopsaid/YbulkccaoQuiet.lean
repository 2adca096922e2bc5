/- seat b3914a: a region that draws its order, whose callees lay blocks of their own: walked once -/
import Derived.Deep.QuietTactic
import Derived.BigQuiet
import Derived.Below
namespace Go.Proofs.Ybulkccao
open Go Go.RowKit

/-- a world that lies above w -/
structure Bel (w : World) where
  v : World
  h : Below w.heap.size w v

theorem wp_region_quiet_bel {P : Program} {id : Nat} {Q : Exit → Act → World → Prop} {a : Act} {w : World} {l : List Oper} (hm : P.follows .mixedOrders = true) (hB : Region.lexB .any l.toArray = true)
    (h : wpQuiet P l.toArray (fun w' => ∃ p : Bel w, w' = p.v) (fun a' => ∀ w', (∃ p : Bel w, w' = p.v) → Q .normal a' w') l a) : (Code.region id l.toArray true).wp P Q a w :=
  wp_region_quiet (C := fun w' => ∃ p : Bel w, w' = p.v) hm hB ⟨⟨w.drew, (Below.refl _ w).drew⟩, rfl⟩ (by simpa using h)

theorem Bel.cell {w : World} {a : Addr} {v : Value} (hb : a.block < w.heap.size) (h : w.cell? a = some v) (p : Bel w) : p.v.cell? a = some v := (p.h.cell (p := a) hb).trans h
theorem calls_bel {P : Program} {f : FuncId} {args : Array Value} {w : World} {p : Bel w} {v : Value}
    (h : Calls P f args p.v fun e w' => e = .returned v ∧ Below p.v.heap.size p.v w') : Calls P f args p.v fun e w'' => e = .returned v ∧ ∃ q : Bel w, w'' = q.v :=
  h.mono fun _ w' ⟨he, hb⟩ => ⟨he, ⟨w', p.h.trans ⟨hb.os, hb.tape, hb.output, hb.size, fun k hk => hb.block k (Nat.lt_of_lt_of_le hk p.h.size)⟩⟩, rfl⟩
end Go.Proofs.Ybulkccao
