/- seat b3875aF: the closed facts for a walk over fmt's stopped front (fmt.errorf), at this dump; contracts of fmt.Errorf at the two formats that the road meets; errors.New -/
import Derived.Test.YbulkcbfoFmtProg
import Derived.Stop.CallBack
import Derived.Stop.IfaceNil
import Derived.Stop.FmtTextLaws
import Derived.WalkKit
import Derived.WalkSpells
import Derived.RowKitTokens
namespace Go.Proofs.YbulkcbfoFmt
open Go Go.RowKit Go.Extern.Stop Go.Stop Go.Extern

theorem call30 (args : Array Value) (w : World) : (callFunc 30 args).run Ybaf.prog w = ((FmtStop.errorf #[9, 69] #[24] args).run Ybaf.prog w).andThen fun v w' => .ok (.value v) w' :=
  run_callFunc_extern Ybaf.func30 (by kernel_rfl) (by kernel_rfl) (by kernel_rfl) (by kernel_rfl) args w
theorem fguard (name : String) (w : World) : (FmtStop.guard name).run Ybaf.prog w = .ok () w := by kernel_rfl
theorem fmt0 : FmtStop.printed? ⟨#[102, 111, 117, 110, 100, 32, 116, 97, 103, 32, 37, 35, 120, 32, 119, 104, 101, 114, 101, 32, 37, 35, 120, 32, 119, 97, 115, 32, 101, 120, 112, 101, 99, 116, 101, 100]⟩ 2 = some [(0, 120, true), (1, 120, true)] := by kernel_rfl
theorem fmt0r (w : World) : (FmtDoors.printed ⟨#[102, 111, 117, 110, 100, 32, 116, 97, 103, 32, 37, 35, 120, 32, 119, 104, 101, 114, 101, 32, 37, 35, 120, 32, 119, 97, 115, 32, 101, 120, 112, 101, 99, 116, 101, 100]⟩ 2).run Ybaf.prog w = .ok [(0, 120, true), (1, 120, true)] w := by kernel_rfl
theorem fmt1 : FmtStop.printed? ⟨#[109, 97, 108, 102, 111, 114, 109, 101, 100, 32, 114, 101, 115, 112, 111, 110, 115, 101, 58, 32, 110, 111, 110, 99, 101, 32, 101, 120, 116, 101, 110, 115, 105, 111, 110, 58, 32, 37, 119]⟩ 1 = some [(0, 119, false)] := by kernel_rfl
theorem fmt1r (w : World) : (FmtDoors.printed ⟨#[109, 97, 108, 102, 111, 114, 109, 101, 100, 32, 114, 101, 115, 112, 111, 110, 115, 101, 58, 32, 110, 111, 110, 99, 101, 32, 101, 120, 116, 101, 110, 115, 105, 111, 110, 58, 32, 37, 119]⟩ 1).run Ybaf.prog w = .ok [(0, 119, false)] w := by kernel_rfl
theorem name5 : Ybaf.prog.typeName? 3 5 = some "uint8" := by kernel_rfl
def shape5 : List UInt8 := [6, 5, 0, 0, 0, 0, 0, 0, 0, 117, 105, 110, 116, 56]
theorem op5_120 (name : String) (x : Int) (w : World) : (FmtStop.operand name true 120 true (.iface 5 (.int .u8 x))).run Ybaf.prog w = .ok (shape5, Go.Extern.Stop.digits 8 (x % 2 ^ 64).toNat) w := by kernel_rfl
theorem strict5 (name : String) (x : Int) (w : World) : (FmtStop.strict name (.iface 5 (.int .u8 x))).run Ybaf.prog w = .ok (shape5, Go.Extern.Stop.digits 8 (x % 2 ^ 64).toNat) w := by kernel_rfl
theorem ptr78 (w : World) : (FmtStop.ptrTo "errors.errorString").run Ybaf.prog w = .ok 78 w := by kernel_rfl
theorem elem78 (w : World) : (elemOf 78).run Ybaf.prog w = .ok 80 w := by kernel_rfl
theorem isError78 (w : World) : (FmtDoors.textMethod 78 "Error").run Ybaf.prog w = .ok true w := by kernel_rfl
theorem name78 : Ybaf.prog.typeName? 3 78 = some "*errors.errorString" := by kernel_rfl
def plain78 : List UInt8 := 14 :: FmtStop.pack "*errors.errorString".toUTF8.data.toList
theorem opPlain78_119w (name : String) (a : Addr) (s : ByteArray) (w : World) (hc : w.cell? a = some (.string s)) :
    (FmtStop.operand name true 119 false (.iface 78 (.pointer (some a)))).run Ybaf.prog w = .ok (plain78, s.data.toList) w := by
  have h1 : (typeStr 78).run Ybaf.prog w = .ok "*errors.errorString" w := by kernel_rfl
  have d2 : Ybaf.t78.desc = .pointer 80 := rfl
  have d3 : Ybaf.t80.desc = .named "errors.errorString" 79 := rfl
  simp [FmtStop.operand, h1, d2, d3, run_load, hc, plain78]
theorem ptr70 (w : World) : (FmtStop.ptrTo "fmt.wrapError").run Ybaf.prog w = .ok 70 w := by kernel_rfl
theorem elem70 (w : World) : (elemOf 70).run Ybaf.prog w = .ok 134 w := by kernel_rfl
theorem isError70 (w : World) : (FmtDoors.textMethod 70 "Error").run Ybaf.prog w = .ok true w := by kernel_rfl
attribute [local go_sem] call30 fguard fmt0 fmt0r fmt1 fmt1r op5_120 strict5 ptr78 elem78 isError78 ptr70 elem70 isError70

/-- What fmt is asked: "found tag %#x where %#x was expected", two uint8. -/
def reading2 (x y : Int) : List (List UInt8) := [[102, 111, 117, 110, 100, 32, 116, 97, 103, 32, 37, 35, 120, 32, 119, 104, 101, 114, 101, 32, 37, 35, 120, 32, 119, 97, 115, 32, 101, 120, 112, 101, 99, 116, 101, 100], shape5, digits 8 (x % 18446744073709551616).toNat, shape5, digits 8 (y % 18446744073709551616).toNat]
def reading1 (s : ByteArray) : List (List UInt8) := [[109, 97, 108, 102, 111, 114, 109, 101, 100, 32, 114, 101, 115, 112, 111, 110, 115, 101, 58, 32, 110, 111, 110, 99, 101, 32, 101, 120, 116, 101, 110, 115, 105, 111, 110, 58, 32, 37, 119], plain78, s.data.toList]

set_option maxHeartbeats 400000 in
theorem errorf_tag (F : Interp) (x y : Int) (blk : Nat) (w : World) (hF : F.answers w.tape)
    (hc0 : w.cell? ⟨blk, 0, none⟩ = some (.iface 5 (.int .u8 x))) (hc1 : w.cell? ⟨blk, 1, none⟩ = some (.iface 5 (.int .u8 y))) :
    Calls Ybaf.prog 15 #[.string ⟨#[102, 111, 117, 110, 100, 32, 116, 97, 103, 32, 37, 35, 120, 32, 119, 104, 101, 114, 101, 32, 37, 35, 120, 32, 119, 97, 115, 32, 101, 120, 112, 101, 99, 116, 101, 100]⟩, .slice (some ⟨blk, 0, none⟩) 2 2] w fun e w' =>
      e = .returned (.iface 78 (.pointer (some ⟨w.heap.size, 0, none⟩))) ∧ w' = (w.alloc (.cells #[.string (FmtStop.textOf (F "fmt.errorf" (reading2 x y) 0))] 80)).drew := by
  have hF' := answers_open hF
  go_enter Ybaf.func15, Ybaf.ntmps15
  go_wp2
  go_ret
  exact ⟨rfl, rfl⟩

set_option maxHeartbeats 400000 in
theorem errorf_wrap (F : Interp) (a : Addr) (s : ByteArray) (blk : Nat) (w : World) (hF : F.answers w.tape)
    (hc0 : w.cell? ⟨blk, 0, none⟩ = some (.iface 78 (.pointer (some a)))) (hs : w.cell? a = some (.string s)) :
    Calls Ybaf.prog 15 #[.string ⟨#[109, 97, 108, 102, 111, 114, 109, 101, 100, 32, 114, 101, 115, 112, 111, 110, 115, 101, 58, 32, 110, 111, 110, 99, 101, 32, 101, 120, 116, 101, 110, 115, 105, 111, 110, 58, 32, 37, 119]⟩, .slice (some ⟨blk, 0, none⟩) 1 1] w fun e w' =>
      e = .returned (.iface 70 (.pointer (some ⟨w.heap.size, 0, none⟩))) ∧ w' = (w.alloc (.cells #[.string (FmtStop.textOf (F "fmt.errorf" (reading1 s) 0)), .iface 78 (.pointer (some a))] 134)).drew := by
  have hF' := answers_open hF
  have hop := opPlain78_119w "fmt.errorf" a s w hs
  go_enter Ybaf.func15, Ybaf.ntmps15
  go_wp2
  go_ret
  exact ⟨rfl, rfl⟩

set_option maxHeartbeats 400000 in
theorem errorsNew_any (s : ByteArray) (w : World) :
    Calls Ybaf.prog 20 #[.string s] w fun e w' => e = .returned (.iface 78 (.pointer (some ⟨w.heap.size, 0, none⟩))) ∧ w' = w.alloc (.cells #[.string s] 80) := by
  go_enter Ybaf.func20, Ybaf.ntmps20
  go_wp2
  go_ret
  exact ⟨rfl, rfl⟩
end Go.Proofs.YbulkcbfoFmt
