/- seat b3879a: LawS3879AOpen: behind setOpen, the run is not the feed's -/
import Derived.Test.YbulkcbhsOpen4
import Derived.Conc.LoneSelectN
namespace Go.Proofs.Ybulkcbhs
open Go Go.Conc Go.RowKit Go.MuLone

set_option maxRecDepth 100000 in
set_option maxHeartbeats 1600000 in
theorem from20 (m : Int) (s0 ss : ByteArray) (oa : Option Addr) (n cap : Nat) (hc : Bool) (sel : Int) (H : Nat) (B : Nat → Bool) (ch : Option Nat) (w v : World) (x16 x17 x22 x23 x24 x25 x26 x27 x28 x29 x30 x31 x32 x33 x34 x35 x36 x37 x38 x39 x40 x41 x42 x43 x44 x45 x46 x47 x48 x49 x50 x51 x52 x53 x54 x55 x56 x57 x58 x59 x60 x61 x62 x63 x64 x65 x66 x67 x68 x69 x70 x71 x72 x73 x74 x75 x76 x77 x78 x79 x80 x81 x82 x83 x84 x85 x86 x87 x88 x89 x90 x91 x139 x140 x141 x142 x143 x144 x145 x146 x147 x148 x149 x150 x151 x152 x153 x154 x155 x156 x157 x158 x159 x160 x161 x162 x163 x164 x165 x166 x167 : Value) (hn : n ≤ 300) (hk : Kept w v) (h5 : v.cell? ⟨H + 2, 5, none⟩ = some (.chan ch))
    (hws : ∀ j, j < n → v.cell? ⟨H + 3, j, none⟩ = some (.pointer (some ⟨H + 6 + 2 * j, 0, none⟩))) (hwt : ∀ j, j < n → v.cell? ⟨H + 6 + 2 * j, 3, none⟩ = some (.chan (some (H + 5 + 2 * j))))
    (hch : ∀ j, j < n → v.heap[H + 5 + 2 * j]? = some (.chan 1 (preBuf (B j)) false (preSent (B j)) 0 false)) (hpre : ∀ j, j < n → ∃ a, oa = some a ∧ v.cell? (a.add j) = some (.bool (B j)))
    (hold : ∀ c, ch = some c → v.heap[c]? = some (.chan 0 #[] false 0 0 false)) :
    wpN Yba.prog (dropSeq 20 (Yba.f3.body.getD .skip)) (bodyPost Yba.prog Yba.f3 fun e w' => e = .returned (.bool true) ∧ Kept w w') { tmps := #[.int .u8 m, .string s0, .string ss, .slice oa n cap, .bool hc, undef, undef, undef, undef, undef, .bool false, .int .i64 sel, .pointer (some ⟨H, 0, none⟩), .pointer (some ⟨H + 1, 0, none⟩), .pointer (some ⟨H + 2, 0, none⟩), .slice (some ⟨H + 3, 0, none⟩) n n, x16, x17, .chan ch, undef, undef, undef, x22, x23, x24, x25, x26, x27, x28, x29, x30, x31, x32, x33, x34, x35, x36, x37, x38, x39, x40, x41, x42, x43, x44, x45, x46, x47, x48, x49, x50, x51, x52, x53, x54, x55, x56, x57, x58, x59, x60, x61, x62, x63, x64, x65, x66, x67, x68, x69, x70, x71, x72, x73, x74, x75, x76, x77, x78, x79, x80, x81, x82, x83, x84, x85, x86, x87, x88, x89, x90, x91, undef, undef, undef, undef, undef, undef, undef, undef, undef, undef, undef, undef, undef, undef, undef, undef, undef, undef, undef, undef, undef, undef, undef, undef, undef, undef, undef, undef, undef, undef, undef, undef, undef, undef, undef, undef, undef, undef, undef, undef, undef, undef, undef, undef, undef, undef, undef, x139, x140, x141, x142, x143, x144, x145, x146, x147, x148, x149, x150, x151, x152, x153, x154, x155, x156, x157, x158, x159, x160, x161, x162, x163, x164, x165, x166, x167, undef, undef, undef, undef, undef, undef, undef, undef, undef, undef, undef, undef, undef, undef, undef, undef, undef, undef, undef, undef, undef, undef, undef, undef, undef, undef, undef, undef, undef, undef], defers := [] } v := by
  refine wpN_seqN_k fun K2 hK2 => ?_
  refine wpN_seq_k fun K3 hK3 => ?_
  go_wp2
  refine wpN_block ?_
  refine wpN_loop (fun mm a v' => ∃ (i : Nat), mm = n - i ∧ i ≤ n ∧ v' = v ∧ ∃ (x21 x168 x169 x170 x171 x172 x173 x174 x175 x176 x177 x178 x179 x180 x181 x182 x183 x184 x185 x186 x187 : Value), a = { tmps := #[.int .u8 m, .string s0, .string ss, .slice oa n cap, .bool hc, undef, undef, undef, undef, undef, .bool false, .int .i64 sel, .pointer (some ⟨H, 0, none⟩), .pointer (some ⟨H + 1, 0, none⟩), .pointer (some ⟨H + 2, 0, none⟩), .slice (some ⟨H + 3, 0, none⟩) n n, x16, x17, .chan ch, undef, .int .i64 i, x21, x22, x23, x24, x25, x26, x27, x28, x29, x30, x31, x32, x33, x34, x35, x36, x37, x38, x39, x40, x41, x42, x43, x44, x45, x46, x47, x48, x49, x50, x51, x52, x53, x54, x55, x56, x57, x58, x59, x60, x61, x62, x63, x64, x65, x66, x67, x68, x69, x70, x71, x72, x73, x74, x75, x76, x77, x78, x79, x80, x81, x82, x83, x84, x85, x86, x87, x88, x89, x90, x91, undef, undef, undef, undef, undef, undef, undef, undef, undef, undef, undef, undef, undef, undef, undef, undef, undef, undef, undef, undef, undef, undef, undef, undef, undef, undef, undef, undef, undef, undef, undef, undef, undef, undef, undef, undef, undef, undef, undef, undef, undef, undef, undef, undef, undef, undef, undef, x139, x140, x141, x142, x143, x144, x145, x146, x147, x148, x149, x150, x151, x152, x153, x154, x155, x156, x157, x158, x159, x160, x161, x162, x163, x164, x165, x166, x167, x168, x169, x170, x171, x172, x173, x174, x175, x176, x177, x178, x179, x180, x181, x182, x183, x184, x185, x186, x187, undef, undef, undef, undef, undef, undef, undef, undef, undef, undef], defers := [] }) n ⟨0, by omega, by omega, rfl, _, _, _, _, _, _, _, _, _, _, _, _, _, _, _, _, _, _, _, _, _, rfl⟩ ?_
  rintro mm a v' ⟨i, rfl, hi, rfl, x21, x168, x169, x170, x171, x172, x173, x174, x175, x176, x177, x178, x179, x180, x181, x182, x183, x184, x185, x186, x187, rfl⟩
  rcases Nat.lt_or_ge i n with hlt | hge
  · have hwsi := hws i hlt
    have hwti := hwt i hlt
    have hchi := hch i hlt
    obtain ⟨ad, hoa, hcad⟩ := hpre i hlt
    have hlc : ∀ ty, (Builtin.len_ #[38] ty #[.chan (some (H + 5 + 2 * i))]).run Yba.prog v' = .ok (goInt (preBuf (B i)).size) v' := fun ty => run_len_chan 38 ty Yba.underlying38 hchi
    subst hoa
    clear hK2 hws hwt hch hpre hchi
    cases hBi : B i with
    | false =>
      rw [hBi] at hcad hlc
      have hz : (preBuf false).size = 0 := rfl
      refine wpN_of_wp ?_
      go_wp2
      refine ⟨n - (i + 1), by omega, i + 1, rfl, by omega, trivial, _, _, _, _, _, _, _, _, _, _, _, _, _, _, _, _, _, _, _, _, _, rfl⟩
    | true =>
      rw [hBi] at hcad hlc
      have hz : (preBuf true).size = 1 := rfl
      refine wpN_of_wp ?_
      go_wp2
      refine ⟨n - (i + 1), by omega, i + 1, rfl, by omega, trivial, _, _, _, _, _, _, _, _, _, _, _, _, _, _, _, _, _, _, _, _, _, rfl⟩
  have hin : i = n := by omega
  subst hin
  have hnc := neq_chan
  clear hws hwt hch hpre
  refine wpN_seq_k fun K3 hK3 => ?_
  go_wp2
  refine wpN_seq_k fun K3 hK3 => ?_
  go_wp2
  refine wpN_seqN_k fun K3 hK3 => ?_
  refine wpN_seq_k fun K4 hK4 => ?_
  go_wp2
  cases ch with
  | none =>
    refine wpN_cond (t := false) rfl ?_
    refine wpN_of_wp ?_
    go_wp2
    refine wpN_of_wp ?_
    go_wp2
    go_ret
    exact ⟨rfl, hk⟩
  | some c =>
    have hold' := hold c rfl
    refine wpN_cond (t := true) rfl ?_
    simp only [if_true]
    refine wpN_seq_k fun K4 hK4 => ?_
    go_wp2
    refine wpN_seqN_k fun K4 hK4 => ?_
    refine wpN_region_head (v := .tuple #[goInt (-1), .bool false, .agg #[]]) (w' := v') rfl rfl (fun b k cs hb => ?_) ?_
    · exact step_lone_select_default (stepG_comm (cases := #[rcase c (.agg #[])]) (blocking := false) (shape := .select) (w' := v') rfl rfl hb (by simp [go_sem, execOp, rcase, Act.eval])) hold'
    simp [wpOps, Oper.wp, go_sem, Region.wanted, Exit.then]
    refine Or.inl (Or.inl (hK4 _ _ ?_))
    clear hK4 K4
    refine wpN_of_wp ?_
    go_wp2
    refine wpN_of_wp ?_
    go_wp2
    go_ret
    exact ⟨rfl, hk⟩

set_option maxRecDepth 100000 in
set_option maxHeartbeats 1600000 in
theorem from13b (m : Int) (s0 ss : ByteArray) (oa : Option Addr) (n cap : Nat) (hc : Bool) (sel : Int) (H : Nat) (B : Nat → Bool) (rv : Option Addr) (ch : Option Nat) (es : Array MapEntry) (w v : World) (x16 x17 x22 x23 x24 x25 x26 x27 x28 x29 x30 x31 x32 x33 x34 x35 x36 x37 x38 x39 x40 x41 x42 x43 x44 x45 x46 x47 x48 x49 x50 x51 x52 x53 x54 x55 x56 x57 x58 x59 x60 x61 x62 x63 x64 x65 x66 x67 x68 x69 x70 x71 x72 x73 x74 x75 x76 x77 x78 : Value) (hn : n ≤ 300) (hk : Kept w v) (hsel : (sel = 1 ∧ rv = some ⟨H + 1, 0, none⟩) ∨ (sel = 2 ∧ rv = none))
    (h0 : v.cell? ⟨H + 2, 0, none⟩ = some (.int .i32 0)) (z0 : v.frozen? ⟨H + 2, 0, none⟩ = false) (h2 : v.cell? ⟨H + 2, 2, none⟩ = some (.map (some (H + 4))))
    (hmap : v.heap[H + 4]? = some (.map es n)) (hes : es.size = n) (h4 : v.cell? ⟨H + 2, 4, none⟩ = some (.pointer rv)) (h5 : v.cell? ⟨H + 2, 5, none⟩ = some (.chan ch))
    (hses : v.cell? ⟨H, 1, none⟩ = some (.string s0)) (hoth : v.cell? ⟨H + 1, 1, none⟩ = some (.string s0))
    (hws : ∀ j, j < n → v.cell? ⟨H + 3, j, none⟩ = some (.pointer (some ⟨H + 6 + 2 * j, 0, none⟩))) (hwt : ∀ j, j < n → v.cell? ⟨H + 6 + 2 * j, 3, none⟩ = some (.chan (some (H + 5 + 2 * j))))
    (hch : ∀ j, j < n → v.heap[H + 5 + 2 * j]? = some (.chan 1 (preBuf (B j)) false (preSent (B j)) 0 false)) (hpre : ∀ j, j < n → ∃ a, oa = some a ∧ v.cell? (a.add j) = some (.bool (B j)))
    (hold : ∀ c, ch = some c → v.heap[c]? = some (.chan 0 #[] false 0 0 false)) :
    wpN Yba.prog (dropSeq 13 (Yba.f3.body.getD .skip)) (bodyPost Yba.prog Yba.f3 fun e w' => e = .returned (.bool true) ∧ Kept w w') { tmps := #[.int .u8 m, .string s0, .string ss, .slice oa n cap, .bool hc, undef, undef, undef, undef, undef, .bool false, .int .i64 sel, .pointer (some ⟨H, 0, none⟩), .pointer (some ⟨H + 1, 0, none⟩), .pointer (some ⟨H + 2, 0, none⟩), .slice (some ⟨H + 3, 0, none⟩) n n, x16, x17, .chan ch, undef, undef, undef, x22, x23, x24, x25, x26, x27, x28, x29, x30, x31, x32, x33, x34, x35, x36, x37, x38, x39, x40, x41, x42, x43, x44, x45, x46, x47, x48, x49, x50, x51, x52, x53, x54, x55, x56, x57, x58, x59, x60, x61, x62, x63, x64, x65, x66, x67, x68, x69, x70, x71, x72, x73, x74, x75, x76, x77, x78, undef, undef, undef, undef, undef, undef, undef, undef, undef, undef, undef, undef, undef, undef, undef, undef, undef, undef, undef, undef, undef, undef, undef, undef, undef, undef, undef, undef, undef, undef, undef, undef, undef, undef, undef, undef, undef, undef, undef, undef, undef, undef, undef, undef, undef, undef, undef, undef, undef, undef, undef, undef, undef, undef, undef, undef, undef, undef, undef, undef, undef, undef, undef, undef, undef, undef, undef, undef, undef, undef, undef, undef, undef, undef, undef, undef, undef, undef, undef, undef, undef, undef, undef, undef, undef, undef, undef, undef, undef, undef, undef, undef, undef, undef, undef, undef, undef, undef, undef, undef, undef, undef, undef, undef, undef, undef, undef, undef, undef, undef, undef, undef, undef, undef, undef, undef, undef, undef, undef], defers := [] } v := by
  have hlm : ∀ ty, (Builtin.len_ #[36] ty #[.map (some (H + 4))]).run Yba.prog v = .ok (goInt es.size) v := fun ty => by simp [Builtin.len_, run_underlying Yba.underlying36, MapKept.run_getObj_map hmap, goInt]
  have hnp := neq_ptr23_same ⟨H + 1, 0, none⟩
  have hs0 : ¬ sel = 0 := by omega
  refine wpN_seq_k fun K hK => ?_
  go_wp2_with (go_at_call 7; refine (try_free (H + 2) 0 v h0 z0).mono ?_; rintro e w' ⟨rfl, rfl⟩)
  refine wpN_seq_k fun K hK => ?_
  go_wp2_with (go_at_call 8; refine (unlock_held Yba.muLib ⟨H + 2, 0, none⟩ _ (World.cell?_setCell_same _ _ _ h0) (by rw [frozen_setCell]; exact z0)).mono ?_; rintro e w' ⟨rfl, hw'⟩; rw [setCell_back h0] at hw'; have hw2 := hw'.symm; clear hw'; subst hw2)
  refine wpN_seq_k fun K hK => ?_
  go_wp2
  refine wpN_seqN_k fun K hK => ?_
  refine wpN_seq_k fun K2 hK2 => ?_
  go_wp2
  refine wpN_cond (t := false) (by simp [go_sem, Act.eval, hs0]) ?_
  simp only [if_false, Bool.false_eq_true]
  refine wpN_of_wp ?_
  go_wp2
  refine wpN_seq_k fun K hK => ?_
  go_wp2
  refine wpN_seq_k fun K hK => ?_
  rcases hsel with ⟨rfl, rfl⟩ | ⟨rfl, rfl⟩
  · go_wp2
    refine wpN_seq_k fun K hK => ?_
    go_wp2
    exact from20 m s0 ss oa n cap hc 1 H B ch w v _ _ _ _ _ _ _ _ _ _ _ _ _ _ _ _ _ _ _ _ _ _ _ _ _ _ _ _ _ _ _ _ _ _ _ _ _ _ _ _ _ _ _ _ _ _ _ _ _ _ _ _ _ _ _ _ _ _ _ _ _ _ _ _ _ _ _ _ _ _ _ _ _ _ _ _ _ _ _ _ _ _ _ _ _ _ _ _ _ _ _ _ _ _ _ _ _ _ _ _ _ hn hk h5 hws hwt hch hpre hold
  · go_wp2
    refine wpN_seq_k fun K hK => ?_
    go_wp2
    exact from20 m s0 ss oa n cap hc 2 H B ch w v _ _ _ _ _ _ _ _ _ _ _ _ _ _ _ _ _ _ _ _ _ _ _ _ _ _ _ _ _ _ _ _ _ _ _ _ _ _ _ _ _ _ _ _ _ _ _ _ _ _ _ _ _ _ _ _ _ _ _ _ _ _ _ _ _ _ _ _ _ _ _ _ _ _ _ _ _ _ _ _ _ _ _ _ _ _ _ _ _ _ _ _ _ _ _ _ _ _ _ _ _ hn hk h5 hws hwt hch hpre hold
end Go.Proofs.Ybulkcbhs
