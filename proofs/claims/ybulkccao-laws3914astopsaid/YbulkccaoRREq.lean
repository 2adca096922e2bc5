/- seat b3914a: a record equals itself -/
import Derived.Test.YbulkccaoRecs
import Derived.Laws.StructEq
namespace Go.Proofs.Ybulkccao
open Go Go.RowKit

theorem eqIn57 (d : Nat) (s : ByteArray) (w : World) : (Op.equalIn (d + 2) 57 (.agg #[.string s]) (.agg #[.string s])).run Yba.prog w = .ok true w := by
  have hS : Yba.prog.underlying 57 = some (.struct (Yba.prog.fieldsOf 57)) := by kernel_rfl
  have hp : Yba.prog.stoodInHeld 57 = false := by kernel_rfl
  have u32 := Yba.underlying32
  have a32 := Yba.isAgg32
  have z32 := Yba.sizeOf32
  rw [run_equalIn_agg w (d + 1) 57 _ _ hS hp]
  simp only [Program.fieldsOf, Yba.underlying57]
  go_simp
theorem eqIn62 (d : Nat) (r : Int) (s : ByteArray) (w : World) : (Op.equalIn (d + 2) 62 (.agg #[.int .u16 r, .string s]) (.agg #[.int .u16 r, .string s])).run Yba.prog w = .ok true w := by
  have hS : Yba.prog.underlying 62 = some (.struct (Yba.prog.fieldsOf 62)) := by kernel_rfl
  have hp : Yba.prog.stoodInHeld 62 = false := by kernel_rfl
  have u32 := Yba.underlying32
  have a32 := Yba.isAgg32
  have z32 := Yba.sizeOf32
  have u33 := Yba.underlying33
  have a33 := Yba.isAgg33
  have z33 := Yba.sizeOf33
  rw [run_equalIn_agg w (d + 1) 62 _ _ hS hp]
  simp only [Program.fieldsOf, Yba.underlying62]
  go_simp
theorem eqIn64 (d : Nat) (r : Int) (w : World) : (Op.equalIn (d + 2) 64 (.agg #[.string ⟨#[]⟩, .string ⟨#[]⟩, .int .u32 r, .int .u32 0, .int .u32 0, .int .u32 0, .int .u32 0]) (.agg #[.string ⟨#[]⟩, .string ⟨#[]⟩, .int .u32 r, .int .u32 0, .int .u32 0, .int .u32 0, .int .u32 0])).run Yba.prog w = .ok true w := by
  have hS : Yba.prog.underlying 64 = some (.struct (Yba.prog.fieldsOf 64)) := by kernel_rfl
  have hp : Yba.prog.stoodInHeld 64 = false := by kernel_rfl
  have u32 := Yba.underlying32
  have a32 := Yba.isAgg32
  have z32 := Yba.sizeOf32
  have u24 := Yba.underlying24
  have a24 := Yba.isAgg24
  have z24 := Yba.sizeOf24
  rw [run_equalIn_agg w (d + 1) 64 _ _ hS hp]
  simp only [Program.fieldsOf, Yba.underlying64]
  go_simp
theorem eqIn53 (d : Nat) (a b c e : Int) (w : World) : (Op.equalIn (d + 2) 53 (.agg #[.int .u8 a, .int .u8 b, .int .u8 c, .int .u8 e]) (.agg #[.int .u8 a, .int .u8 b, .int .u8 c, .int .u8 e])).run Yba.prog w = .ok true w := by
  have u5 := Yba.underlying5
  have a5 := Yba.isAgg5
  have z5 := Yba.sizeOf5
  unfold Op.equalIn
  simp only [Sem.run_bind, run_underlying Yba.underlying53, Result.andThen_ok]
  go_simp
  simp only [show List.range' 0 4 = [0, 1, 2, 3] from rfl, List.forIn_cons, List.forIn_nil]
  go_simp
theorem eqIn55 (d : Nat) (a b c e : Int) (w : World) : (Op.equalIn (d + 3) 55 (.agg #[.int .u8 a, .int .u8 b, .int .u8 c, .int .u8 e]) (.agg #[.int .u8 a, .int .u8 b, .int .u8 c, .int .u8 e])).run Yba.prog w = .ok true w := by
  have hS : Yba.prog.underlying 55 = some (.struct (Yba.prog.fieldsOf 55)) := by kernel_rfl
  have hp : Yba.prog.stoodInHeld 55 = false := by kernel_rfl
  have u53 := Yba.underlying53
  have a53 := Yba.isAgg53
  have z53 := Yba.sizeOf53
  have h53 := eqIn53 d a b c e w
  rw [run_equalIn_agg w (d + 2) 55 _ _ hS hp]
  simp only [Program.fieldsOf, Yba.underlying55]
  go_simp

theorem eqIface (d : Nat) (T : TypeId) (v : Value) (w : World) (hti : ∃ i : TypeInfo, (typeInfo T).run Yba.prog w = .ok i w ∧ i.comparable = true) (h : (Op.equalIn d T v v).run Yba.prog w = .ok true w) : (Op.equalIn (d + 1) 36 (.iface T v) (.iface T v)).run Yba.prog w = .ok true w := by
  obtain ⟨i, hi, hc⟩ := hti
  rw [Op.equalIn]
  simp only [Sem.run_bind, run_underlying Yba.underlying36, Result.andThen_ok]
  simp [hi, hc, h]
theorem eqIn36 (d : Nat) (x : Dat) (w : World) : (Op.equalIn (d + 4) 36 x.val x.val).run Yba.prog w = .ok true w := by
  obtain ⟨k, r, h⟩ := x
  rcases k with _ | _ | _ | k
  · exact eqIface (d + 3) 55 _ w ⟨_, Yba.typeInfo55 w, by kernel_rfl⟩ (eqIn55 d _ _ _ _ w)
  · exact eqIface (d + 3) 57 _ w ⟨_, Yba.typeInfo57 w, by kernel_rfl⟩ (eqIn57 (d + 1) _ w)
  · exact eqIface (d + 3) 62 _ w ⟨_, Yba.typeInfo62 w, by kernel_rfl⟩ (eqIn62 (d + 1) _ _ w)
  · exact eqIface (d + 3) 64 _ w ⟨_, Yba.typeInfo64 w, by kernel_rfl⟩ (eqIn64 (d + 1) _ w)
theorem eq38_same (r : Rec) (w : World) : (Op.equalIn 10000 38 (.agg r.cells.toArray) (.agg r.cells.toArray)).run Yba.prog w = .ok true w := by
  have hS : Yba.prog.underlying 38 = some (.struct (Yba.prog.fieldsOf 38)) := by kernel_rfl
  have hp : Yba.prog.stoodInHeld 38 = false := by kernel_rfl
  have u32 := Yba.underlying32
  have a32 := Yba.isAgg32
  have z32 := Yba.sizeOf32
  have u34 := Yba.underlying34
  have a34 := Yba.isAgg34
  have z34 := Yba.sizeOf34
  have u24 := Yba.underlying24
  have a24 := Yba.isAgg24
  have z24 := Yba.sizeOf24
  have u36 := Yba.underlying36
  have a36 := Yba.isAgg36
  have z36 := Yba.sizeOf36
  have h36 := eqIn36 9995 r.d
  obtain ⟨dv, hdv⟩ : ∃ dv, r.d.val = dv := ⟨_, rfl⟩
  rw [hdv] at h36
  simp only [Rec.cells, hdv]
  rw [show (10000 : Nat) = 9999 + 1 from rfl, run_equalIn_agg w 9999 38 _ _ hS hp]
  simp only [Program.fieldsOf, Yba.underlying38]
  go_simp
theorem guard38 (x y : Operand) (s : ByteArray) (t : Int) (T : TypeId) (x0 : Value) (w : World) : (eqGuard .neq 38 x y (.agg #[.string s, .int .u16 0, .int .u32 t, .iface T x0]) (.agg #[.string s, .int .u16 0, .int .u32 t, .iface T x0])).run Yba.prog w = .ok () w := by
  kernel_rfl
theorem neq38_same (r : Rec) (w : World) : (binOp .neq 38 (.agg r.cells.toArray) (.agg r.cells.toArray)).run Yba.prog w = .ok (.bool false) w := by
  rw [run_neq_struct, eq38_same]
  rfl
end Go.Proofs.Ybulkccao
