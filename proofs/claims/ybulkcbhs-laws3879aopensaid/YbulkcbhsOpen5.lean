/- seat b3879a: LawS3879AOpen: behind setOpen, the run is the feed's -/
import Derived.Test.YbulkcbhsOpen4
import Derived.Conc.LoneSelectN
namespace Go.Proofs.Ybulkcbhs
open Go Go.Conc Go.RowKit Go.MuLone

set_option maxRecDepth 100000 in
set_option maxHeartbeats 1600000 in
theorem from13a (m : Int) (s0 ss : ByteArray) (oa : Option Addr) (n cap : Nat) (hc : Bool) (H dd : Nat) (ch : Option Nat) (es : Array MapEntry) (w v : World) (x16 x17 x22 x23 x24 x25 x26 x27 x28 x29 x30 x31 x32 x33 x34 x35 x36 x37 x38 x39 x40 x41 x42 x43 x44 x45 x46 x47 x48 x49 x50 x51 x52 x53 x54 x55 x56 x57 x58 x59 x60 x61 x62 x63 x64 x65 x66 x67 x68 x69 x70 x71 x72 x73 x74 x75 x76 x77 x78 : Value) (hn : n ≤ 300) (hk : Kept w v)
    (h0 : v.cell? ⟨H + 2, 0, none⟩ = some (.int .i32 0)) (z0 : v.frozen? ⟨H + 2, 0, none⟩ = false) (h2 : v.cell? ⟨H + 2, 2, none⟩ = some (.map (some (H + 4))))
    (hmap : v.heap[H + 4]? = some (.map es n)) (hes : es.size = n) (h4 : v.cell? ⟨H + 2, 4, none⟩ = some (.pointer (some ⟨H, 0, none⟩))) (h5 : v.cell? ⟨H + 2, 5, none⟩ = some (.chan (some dd)))
    (hd : v.heap[dd]? = some (.chan 0 #[] false 0 0 false)) (hdc : ch ≠ some dd) (hses : v.cell? ⟨H, 1, none⟩ = some (.string ss))
    (hws : ∀ j, j < n → v.cell? ⟨H + 3, j, none⟩ = some (.pointer (some ⟨H + 6 + 2 * j, 0, none⟩))) (hwt : ∀ j, j < n → v.cell? ⟨H + 6 + 2 * j, 3, none⟩ = some (.chan (some (H + 5 + 2 * j))))
    (hfull : ∀ j, j < n → Full v (H + 5 + 2 * j)) (hold : ∀ c, ch = some c → v.heap[c]? = some (.chan 0 #[] true 0 0 false)) :
    wpN Yba.prog (dropSeq 13 (Yba.f3.body.getD .skip)) (bodyPost Yba.prog Yba.f3 fun e w' => e = .returned (.bool true) ∧ Kept w w') { tmps := #[.int .u8 m, .string s0, .string ss, .slice oa n cap, .bool hc, undef, undef, undef, undef, undef, .bool false, .int .i64 0, .pointer (some ⟨H, 0, none⟩), .pointer (some ⟨H + 1, 0, none⟩), .pointer (some ⟨H + 2, 0, none⟩), .slice (some ⟨H + 3, 0, none⟩) n n, x16, x17, .chan ch, undef, undef, undef, x22, x23, x24, x25, x26, x27, x28, x29, x30, x31, x32, x33, x34, x35, x36, x37, x38, x39, x40, x41, x42, x43, x44, x45, x46, x47, x48, x49, x50, x51, x52, x53, x54, x55, x56, x57, x58, x59, x60, x61, x62, x63, x64, x65, x66, x67, x68, x69, x70, x71, x72, x73, x74, x75, x76, x77, x78, undef, undef, undef, undef, undef, undef, undef, undef, undef, undef, undef, undef, undef, undef, undef, undef, undef, undef, undef, undef, undef, undef, undef, undef, undef, undef, undef, undef, undef, undef, undef, undef, undef, undef, undef, undef, undef, undef, undef, undef, undef, undef, undef, undef, undef, undef, undef, undef, undef, undef, undef, undef, undef, undef, undef, undef, undef, undef, undef, undef, undef, undef, undef, undef, undef, undef, undef, undef, undef, undef, undef, undef, undef, undef, undef, undef, undef, undef, undef, undef, undef, undef, undef, undef, undef, undef, undef, undef, undef, undef, undef, undef, undef, undef, undef, undef, undef, undef, undef, undef, undef, undef, undef, undef, undef, undef, undef, undef, undef, undef, undef, undef, undef, undef, undef, undef, undef, undef, undef], defers := [] } v := by
  have hlm : ∀ ty, (Builtin.len_ #[36] ty #[.map (some (H + 4))]).run Yba.prog v = .ok (goInt es.size) v := fun ty => by simp [Builtin.len_, run_underlying Yba.underlying36, MapKept.run_getObj_map hmap, goInt]
  have hnp := neq_ptr23_same ⟨H, 0, none⟩
  refine wpN_seq_k fun K hK => ?_
  go_wp2_with (go_at_call 7; refine (try_free (H + 2) 0 v h0 z0).mono ?_; rintro e w' ⟨rfl, rfl⟩)
  refine wpN_seq_k fun K hK => ?_
  go_wp2_with (go_at_call 8; refine (unlock_held Yba.muLib ⟨H + 2, 0, none⟩ _ (World.cell?_setCell_same _ _ _ h0) (by rw [frozen_setCell]; exact z0)).mono ?_; rintro e w' ⟨rfl, hw'⟩; rw [setCell_back h0] at hw'; have hw2 := hw'.symm; clear hw'; subst hw2)
  refine wpN_seq_k fun K hK => ?_
  go_wp2
  refine wpN_seqN_k fun K hK => ?_
  refine wpN_seq_k fun K hK => ?_
  go_wp2
  refine wpN_cond (t := true) rfl ?_
  simp only [if_true]
  refine wpN_seq_k fun K hK => ?_
  go_wp2
  refine wpN_seqN_k fun K2 hK2 => ?_
  refine wpN_seq_k fun K3 hK3 => ?_
  go_wp2
  refine wpN_block ?_
  refine wpN_loop (fun mm a v' => ∃ (i : Nat), mm = n - i ∧ i ≤ n ∧ v' = v ∧ ∃ (x79 x80 x81 x82 x83 x84 x85 x86 x87 x88 x89 x90 x91 x92 x93 x94 x95 x96 x97 x98 x99 x100 x101 x102 x103 x104 x105 x106 x107 x108 x109 x110 x111 x112 x113 x114 x115 x116 x117 x118 : Value), a = { tmps := #[.int .u8 m, .string s0, .string ss, .slice oa n cap, .bool hc, undef, undef, undef, undef, undef, .bool false, .int .i64 0, .pointer (some ⟨H, 0, none⟩), .pointer (some ⟨H + 1, 0, none⟩), .pointer (some ⟨H + 2, 0, none⟩), .slice (some ⟨H + 3, 0, none⟩) n n, x16, x17, .chan ch, .int .i64 i, undef, undef, x22, x23, x24, x25, x26, x27, x28, x29, x30, x31, x32, x33, x34, x35, x36, x37, x38, x39, x40, x41, x42, x43, x44, x45, x46, x47, x48, x49, x50, x51, x52, x53, x54, x55, x56, x57, x58, x59, x60, x61, x62, x63, x64, x65, x66, x67, x68, x69, x70, x71, x72, x73, x74, x75, x76, x77, x78, x79, x80, x81, x82, x83, x84, x85, x86, x87, x88, x89, x90, x91, x92, x93, x94, x95, x96, x97, x98, x99, x100, x101, x102, x103, x104, x105, x106, x107, x108, x109, x110, x111, x112, x113, x114, x115, x116, x117, x118, undef, undef, undef, undef, undef, undef, undef, undef, undef, undef, undef, undef, undef, undef, undef, undef, undef, undef, undef, undef, undef, undef, undef, undef, undef, undef, undef, undef, undef, undef, undef, undef, undef, undef, undef, undef, undef, undef, undef, undef, undef, undef, undef, undef, undef, undef, undef, undef, undef, undef, undef, undef, undef, undef, undef, undef, undef, undef, undef, undef, undef, undef, undef, undef, undef, undef, undef, undef, undef, undef, undef, undef, undef, undef, undef, undef, undef, undef, undef], defers := [] }) n ⟨0, by omega, by omega, rfl, _, _, _, _, _, _, _, _, _, _, _, _, _, _, _, _, _, _, _, _, _, _, _, _, _, _, _, _, _, _, _, _, _, _, _, _, _, _, _, _, rfl⟩ ?_
  rintro mm a v' ⟨i, rfl, hi, rfl, x79, x80, x81, x82, x83, x84, x85, x86, x87, x88, x89, x90, x91, x92, x93, x94, x95, x96, x97, x98, x99, x100, x101, x102, x103, x104, x105, x106, x107, x108, x109, x110, x111, x112, x113, x114, x115, x116, x117, x118, rfl⟩
  rcases Nat.lt_or_ge i n with hlt | hge
  · have hwsi := hws i hlt
    have hwti := hwt i hlt
    obtain ⟨bf, sn, rc, hch, hbz⟩ := hfull i hlt
    have hlc : ∀ ty, (Builtin.len_ #[38] ty #[.chan (some (H + 5 + 2 * i))]).run Yba.prog v' = .ok (goInt bf.size) v' := fun ty => run_len_chan 38 ty Yba.underlying38 hch
    clear hK2 hws hwt hfull
    refine wpN_of_wp ?_
    go_wp2
    refine ⟨n - (i + 1), by omega, i + 1, rfl, by omega, trivial, _, _, _, _, _, _, _, _, _, _, _, _, _, _, _, _, _, _, _, _, _, _, _, _, _, _, _, _, _, _, _, _, _, _, _, _, _, _, _, _, rfl⟩
  have hin : i = n := by omega
  subst hin
  have hec := eql_chan
  have hnc := neq_chan
  clear hws hwt hfull
  have hdc1 : (some dd == ch) = false := by simpa using Ne.symm hdc
  have hdc2 : (some dd == (none : Option Nat)) = false := rfl
  refine wpN_seq_k fun K3 hK3 => ?_
  go_wp2
  refine wpN_seq_k fun K3 hK3 => ?_
  go_wp2
  refine wpN_seqN_k fun K3 hK3 => ?_
  have new : ∀ (x104 x105 x106 x107 x119 x120 x121 x122 x123 x124 x125 x126 x127 x128 x129 x130 x131 x132 x133 : Value), K3 { tmps := #[.int .u8 m, .string s0, .string ss, .slice oa i cap, .bool hc, undef, undef, undef, undef, undef, .bool false, .int .i64 0, .pointer (some ⟨H, 0, none⟩), .pointer (some ⟨H + 1, 0, none⟩), .pointer (some ⟨H + 2, 0, none⟩), .slice (some ⟨H + 3, 0, none⟩) i i, x16, x17, .chan ch, .int .i64 i, undef, undef, x22, x23, x24, x25, x26, x27, x28, x29, x30, x31, x32, x33, x34, x35, x36, x37, x38, x39, x40, x41, x42, x43, x44, x45, x46, x47, x48, x49, x50, x51, x52, x53, x54, x55, x56, x57, x58, x59, x60, x61, x62, x63, x64, x65, x66, x67, x68, x69, x70, x71, x72, x73, x74, x75, x76, x77, x78, x79, x80, x81, x82, x83, x84, x85, x86, x87, x88, x89, x90, x91, x92, x93, x94, x95, x96, x97, x98, x99, x100, x101, x102, x103, x104, x105, x106, x107, x108, x109, x110, x111, x112, x113, x114, x115, x116, x117, x118, x119, x120, x121, x122, x123, x124, x125, x126, x127, x128, x129, x130, x131, x132, x133, undef, undef, undef, undef, undef, undef, undef, undef, undef, undef, undef, undef, undef, undef, undef, undef, undef, undef, undef, undef, undef, undef, undef, undef, undef, undef, undef, undef, undef, undef, undef, undef, undef, undef, undef, undef, undef, undef, undef, undef, undef, undef, undef, undef, undef, undef, undef, undef, undef, undef, undef, undef, undef, undef, undef, undef, undef, undef, undef, undef, undef, undef, undef, undef], defers := [] } v' := by
    intro x104 x105 x106 x107 x119 x120 x121 x122 x123 x124 x125 x126 x127 x128 x129 x130 x131 x132 x133
    refine hK3 _ _ ?_
    clear hK3
    clear hdc1 hdc2 hold
    refine wpN_seqN_k fun K3 hK3 => ?_
    refine wpN_seq_k fun K4 hK4 => ?_
    go_wp2
    refine wpN_seqN_k fun K4 hK4 => ?_
    refine wpN_region_head (v := .tuple #[goInt (-1), .bool false, .agg #[]]) (w' := v') rfl rfl (fun b k cs hb => ?_) ?_
    · exact step_lone_select_default (stepG_comm (cases := #[rcase dd (.agg #[])]) (blocking := false) (shape := .select) (w' := v') rfl rfl hb (by simp [go_sem, execOp, rcase, Act.eval])) hd
    simp [wpOps, Oper.wp, go_sem, Region.wanted, Exit.then]
    refine Or.inl (Or.inl (hK4 _ _ ?_))
    clear hK4 K4
    refine wpN_of_wp ?_
    go_wp2
    refine wpN_of_wp ?_
    go_wp2
    go_ret
    exact ⟨rfl, hk⟩
  clear hK3
  refine wpN_seq_k fun K4 hK4 => ?_
  go_wp2
  cases ch with
  | none =>
    refine wpN_cond (t := false) rfl ?_
    refine wpN_of_wp ?_
    go_wp2
    exact new _ _ _ _ _ _ _ _ _ _ _ _ _ _ _ _ _ _ _
  | some c =>
    have hold' := hold c rfl
    refine wpN_cond (t := true) rfl ?_
    simp only [if_true]
    refine wpN_seq_k fun K4 hK4 => ?_
    go_wp2
    refine wpN_seqN_k fun K4 hK4 => ?_
    refine wpN_region_head (v := .tuple #[goInt 0, .bool false, .agg #[]]) (w' := v') rfl rfl (fun b k cs hb => ?_) ?_
    · exact step_lone_select_recv_shut (stepG_comm (cases := #[rcase c (.agg #[])]) (blocking := false) (shape := .select) (w' := v') rfl rfl hb (by simp [go_sem, execOp, rcase, Act.eval])) hold'
    simp [wpOps, Oper.wp, go_sem, Region.wanted, Exit.then]
    refine Or.inl (Or.inl (hK4 _ _ ?_))
    clear hK4 K4
    refine wpN_of_wp ?_
    go_wp2
    exact new _ _ _ _ _ _ _ _ _ _ _ _ _ _ _ _ _ _ _
end Go.Proofs.Ybulkcbhs
