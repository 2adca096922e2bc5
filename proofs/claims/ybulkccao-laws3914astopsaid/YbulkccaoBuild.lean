/- seat b3914a: build (5) -/
import Derived.Test.YbulkccaoRecs
import Derived.Test.YbulkccaoSorted
import Derived.Test.YbulkccaoQuiet
import Derived.Test.YbulkccaoCmp
import Derived.Test.YbulkccaoAppend
import Derived.Laws.OwnMore
import Derived.Deep.DeepMust
import Derived.Deep.CutBlock
import Derived.Laws.CopyOwn
import Derived.Deep.OwnRows
import Derived.Deep.CutRange
namespace Go.Proofs.Ybulkccao
open Go Go.RowKit

theorem add_blk (a : Addr) (k : Nat) : (a.add k).block = a.block := by unfold Addr.add; split <;> rfl
theorem info42 : (Yba.prog.info? 42).map (fun i => (i.zero, i.size, i.bytes)) = some (some (.pointer none), 1, 8) := by kernel_rfl

theorem eqlIn42_same (d : Nat) (a : Addr) (w : World) : (Op.equalIn (d + 1) 42 (.pointer (some a)) (.pointer (some a))).run Yba.prog w = .ok true w := by
  simp [Op.equalIn, run_underlying Yba.underlying42, run_sameAddr_same]
theorem eql42_same (a : Addr) (w : World) : (binOp .eql 42 (.pointer (some a)) (.pointer (some a))).run Yba.prog w = .ok (.bool true) w := by
  simp only [binOp]
  simp [Op.equal, Op.maxDepth, eqlIn42_same 9999 a w]
theorem eqlIn42_other (d : Nat) {a b : Addr} {w : World} (hne : a ≠ b) {ca cb : Array Value} {ta tb : TypeId} (ha : w.heap[a.block]? = some (.cells ca ta (0, 0))) (hb : w.heap[b.block]? = some (.cells cb tb (0, 0))) :
    (Op.equalIn (d + 1) 42 (.pointer (some a)) (.pointer (some b))).run Yba.prog w = .ok false w := by
  simp [Op.equalIn, run_underlying Yba.underlying42, run_sameAddr_other w hne ha hb]
theorem eql42_other {a b : Addr} {w : World} (hne : a ≠ b) {ca cb : Array Value} {ta tb : TypeId} (ha : w.heap[a.block]? = some (.cells ca ta (0, 0))) (hb : w.heap[b.block]? = some (.cells cb tb (0, 0))) :
    (binOp .eql 42 (.pointer (some a)) (.pointer (some b))).run Yba.prog w = .ok (.bool false) w := by
  simp only [binOp]
  simp [Op.equal, Op.maxDepth, eqlIn42_other 9999 hne ha hb]

theorem ownsRow_at {w : World} {B : Nat} {e : TypeId} {s g n c m : Nat} {xs : List Value} (h : w.ownsRow B e s (.slice (some ⟨g, 0, none⟩) n c) m xs) : ∃ cs, w.heap[g]? = some (.cells cs e (0, 0)) := by
  rcases h.2 with ⟨h, _⟩ | ⟨g', cap, cur, h, _, hg, _⟩
  · simp at h
  · simp at h
    obtain ⟨rfl, _, _⟩ := h
    exact ⟨cur, hg⟩
theorem Zn.row {w w' : World} {B Z M : Nat} {zc : Array Value} {ns : List Nd} {row : Option Nat} (h : Zn w B Z M zc ns) (hg : w.grownBy w' row) (hr : ∀ g, row = some g → ∃ c e, w.heap[g]? = some (.cells c e (0, 0)) ∧ e ≠ 48 ∧ e ≠ 60) : Zn w' B Z M zc ns := by
  have hh : ∀ {k : Nat} {o : Obj}, w.heap[k]? = some o → (∀ c e, o = .cells c e (0, 0) → e = 48 ∨ e = 60) → w'.heap[k]? = some o := by
    intro k o hk ho
    refine (hg.block k (Array.getElem?_eq_some_iff.1 hk).1 ?_).trans hk
    rintro rfl
    obtain ⟨c, e, hc, h1, h2⟩ := hr k rfl
    rw [hk] at hc
    cases hc
    rcases ho c e rfl with h | h
    · exact h1 h
    · exact h2 h
  obtain ⟨es, clock, hm, hi⟩ := h.map
  exact ⟨⟨hh h.zone.1 (by rintro c e h; cases h; exact .inl rfl), h.zone.2⟩, ⟨es, clock, hh hm (by rintro c e h; cases h), hi⟩, h.wf, h.keys, fun n hn => hh (h.node n hn) (by rintro c e h; cases h; exact .inr rfl), h.ptrs, h.ge⟩
theorem Zr.setO {w : World} {B Z M : Nat} {zc : Array Value} {ns : List Nd} {vs : Nat → Value} {rs : Nat → List Rec} (h : Zr w B Z M zc ns vs rs) {O : Nat} {c : Array Value} (hO : w.heap[O]? = some (.cells c 42 (0, 0))) (j : Nat) (v : Value) : Zr (w.setCell ⟨O, j, none⟩ v) B Z M zc ns vs rs := by
  refine h.keep fun k o hk ho => ?_
  rw [Below.heap_setCell _ _ _ _ (by
    show k ≠ O
    rintro rfl
    rw [hO] at hk
    cases hk
    rcases ho _ _ rfl with h | h | h <;> exact absurd h (by decide))]
  exact hk
theorem take_mid (A : List Nd) (x : Nd) (Bm C : List Nd) {k : Nat} (h : A.length + Bm.length = k) : (A ++ x :: Bm ++ C).take (k + 1) = A ++ x :: Bm := by
  rw [List.take_append_of_le_length (by simp; omega), List.take_of_length_le (by simp; omega)]
theorem key_inj : ∀ {l : List Nd}, (l.Pairwise fun a b => nkey a.2 ≠ nkey b.2) → ∀ {a b : Nd}, a ∈ l → b ∈ l → nkey a.2 = nkey b.2 → a = b
  | [], _, _, _, h, _, _ => by simp at h
  | x :: l, h, a, b, ha, hb, e => by
    rw [List.pairwise_cons] at h
    simp only [List.mem_cons] at ha hb
    rcases ha with rfl | ha <;> rcases hb with rfl | hb
    · rfl
    · exact absurd e (h.1 b hb)
    · exact absurd e.symm (h.1 a ha)
    · exact key_inj h.2 ha hb e
theorem info38 : (Yba.prog.info? 38).map (fun i => (i.zero, i.size, i.bytes)) = some (some (.agg #[.string ⟨#[]⟩, .int .u16 0, .int .u32 0, .nilIface]), 4, 40) := by kernel_rfl
theorem cells4' (w : World) (a b c d : Value) {B : Nat} (hB : B = w.heap.size) : ∀ (j : Nat) (u : Value), [a, b, c, d][j]? = some u → (w.alloc (Obj.cells #[a, b, c, d] 38)).cell? ((⟨B, 0, none⟩ : Addr).add j) = some u := by
  subst hB
  intro j u hj
  match j, hj with
  | 0, hj => simp at hj; subst hj; simp [Addr.add]
  | 1, hj => simp at hj; subst hj; simp [Addr.add]
  | 2, hj => simp at hj; subst hj; simp [Addr.add]
  | 3, hj => simp at hj; subst hj; simp [Addr.add]
  | j + 4, hj => simp at hj
theorem app_row {w : World} {E : Nat} {v : Value} {xs ys : List Rec} {r : Rec} (h : w.ownsRow E 38 4 v (xs.length + ys.length + 1) (xs.flatMap Rec.cells ++ (ys.flatMap Rec.cells ++ r.cells))) : w.ownsRow E 38 4 v (xs ++ (ys ++ [r])).length ((xs ++ (ys ++ [r])).flatMap Rec.cells) := by
  rw [show (xs ++ (ys ++ [r])).length = xs.length + ys.length + 1 by simp; omega, show (xs ++ (ys ++ [r])).flatMap Rec.cells = xs.flatMap Rec.cells ++ (ys.flatMap Rec.cells ++ r.cells) by simp]
  exact h
theorem Rec.one (r : Rec) : ∀ u ∈ r.cells, u.oneCell' = true := by
  obtain ⟨nm, ttl, ⟨k, r, h⟩⟩ := r
  rcases k with _ | _ | _ | k <;> simp [Rec.cells, Dat.val, Value.oneCell']
theorem cells4 (w : World) (a b c d : Value) : ∀ (j : Nat) (u : Value), [a, b, c, d][j]? = some u → (w.alloc (Obj.cells #[a, b, c, d] 38)).drew.cell? ((⟨w.heap.size, 0, none⟩ : Addr).add j) = some u := by
  intro j u hj
  match j, hj with
  | 0, hj => simp at hj; subst hj; simp [Addr.add]
  | 1, hj => simp at hj; subst hj; simp [Addr.add]
  | 2, hj => simp at hj; subst hj; simp [Addr.add]
  | 3, hj => simp at hj; subst hj; simp [Addr.add]
  | j + 4, hj => simp at hj

set_option maxRecDepth 100000 in
set_option maxHeartbeats 40000000 in
theorem build_run (sa sb : Option Addr) (nn ca nr cb : Nat) (S : Nat → ByteArray) (R : Nat → Nat) (w : World) (hnn : nn ≤ 300) (hnr : nr ≤ 300)
    (hN : ∀ j, j < nn → ∃ a, sa = some a ∧ a.block < w.heap.size ∧ w.cell? (a.add j) = some (.string (S j)) ∧ (S j).size ≤ 9223372036854775807)
    (hR : ∀ j, j < nr → ∃ a, sb = some a ∧ a.block < w.heap.size ∧ w.cell? (a.add j) = some (.int .u16 (R j)) ∧ R j < 65536) :
    Calls Yba.prog 5 #[.slice sa nn ca, .slice sb nr cb, .bool true, .int .u32 9] w fun e w' => ∃ (Z M : Nat) (p : Nd) (ns ord : List Nd) (vs : Nat → Value) (rs : Nat → List Rec) (v : Value) (E : Nat), e = .returned (.tuple #[.pointer (some ⟨Z, 0, none⟩), v]) ∧ Zr w' w.heap.size Z M (zcells (nptr p) M soaRec.cells.toArray) ns vs rs ∧ ord.Pairwise ltN ∧ (∀ n ∈ ord, n ∈ ns) ∧ (∀ n ∈ ns, n ∉ ord → rs n.1 = []) ∧
      w'.ownsRow E 38 4 v (expL rs ord).length ((expL rs ord).flatMap Rec.cells) ∧ w.heap.size ≤ E ∧ Below w.heap.size w w' ∧ (∀ q, (rs q).length ≤ 300) ∧ ord.length ≤ 301 ∧ ns.length ≤ 901 := by
  have hNew := new_run w
  have hcb := com_bs
  obtain ⟨i0, hi, hz0, hz1, hz2⟩ := info_parts info42
  obtain ⟨i1, hi1, hy0, hy1, hy2⟩ := info_parts info38
  go_enter Yba.func5, Yba.ntmps5
  rw [hcb]
  go_wp2_with (go_at_call 7; refine hNew.mono ?_; clear hNew; rintro e w1 ⟨Z, M, p, ns, rfl, hz, hp, hpk, hns, hB⟩; have cZ1 : w1.cell? ⟨Z, 1, none⟩ = some (.pointer (some ⟨p.1, 0, none⟩)) := cell_blk hz.zone.1 rfl)
  have hrow0 : (w1.alloc (Obj.cells #[.pointer (some ⟨p.1, 0, none⟩)] 42)).ownsRow w.heap.size 42 1 (.slice (some ⟨w1.heap.size, 0, none⟩) 1 1) 1 [nptr p] := World.ownsRow_lit (base := w.heap.size) (e := 42) (size := 1) w1 #[.pointer (some ⟨p.1, 0, none⟩)] 1 hB.size (by decide) rfl
  have hz1' := hz.grown (w' := w1.alloc (Obj.cells #[.pointer (some ⟨p.1, 0, none⟩)] 42)) (fun k hk => heap_alloc_old _ _ hk)
  have hB1 : Below w.heap.size w (w1.alloc (Obj.cells #[.pointer (some ⟨p.1, 0, none⟩)] 42)) := hB.alloc hB.size _
  clear hz hB cZ1 hcb
  generalize w1.alloc (Obj.cells #[.pointer (some ⟨p.1, 0, none⟩)] 42) = w2 at *
  go_loopw [11, 39] (fun v i wr => ∃ (ns lst : List Nd) (k : Nat), k ≤ nn ∧ i = .int .i64 k ∧ Zn wr w.heap.size Z M (zcells (nptr p) M noSoa) ns ∧ wr.ownsRow w.heap.size 42 1 v lst.length (lst.map nptr) ∧ (∀ n ∈ lst, n ∈ ns) ∧ lst.Nodup ∧ lst.length ≤ k + 1 ∧ 1 ≤ lst.length ∧ ns.length ≤ 3 * k + 1 ∧ Below w.heap.size w wr) (fun _ i _ => nn - (RowKit.intOf i).toNat)
  case atStart => exact ⟨ns, [p], 0, by omega, rfl, hz1', hrow0, by simpa using hp, by simp, by simp, by simp, by simpa using hns, hB1⟩
  case round =>
    obtain ⟨ns, lst, k, hk, rfl, hz, hrow, hsub, hnd, hlk, hl1, hnk, hB⟩ := hrel
    clear hz1' hrow0 hB1 hns hp
    obtain ⟨g, cap, rfl⟩ : ∃ g cap, u11 = .slice (some ⟨g, 0, none⟩) lst.length cap := by
      rcases hrow.2 with ⟨_, h0⟩ | ⟨g, cap, cur, h, _⟩
      · omega
      · exact ⟨g, cap, h⟩
    rcases Nat.lt_or_ge k nn with hkn | hkn
    · --<P1
      obtain ⟨a, rfl, ha, hc, hsz⟩ := hN k hkn
      have hc' : wr.cell? (a.add k) = some (.string (S k)) := (hB.cell (p := a.add k) (by rw [add_blk]; exact ha)).trans hc
      have hname := name_run (S k) wr hsz
      have hBw := hB.size
      have hnode : ∀ w3 ls, Below wr.heap.size wr w3 → WFL ls → (∃ l ls', ls = l :: ls' ++ [com]) → _ := fun w3 ls hB3 hwl hls => node_run _ Z M _ ls hwl (by obtain ⟨l, ls', h⟩ := hls; exact ⟨l :: ls', h⟩) ns w3 (hz.grown hB3.block) (by have := hB3.size; omega)
      go_wp2_with (first | (go_at_call 9; go_must (refine hname.mono ?_); clear hname; rintro e w3 ⟨ls, hwl, hls, rfl, hB3⟩) | (go_at_call 8; go_must (refine (hnode _ _ hB3 hwl hls).mono ?_); clear hnode; rintro e w4 ⟨n, ns', rfl, hn, -, hz4, hg4, hl4, hm4⟩))
      have hz3 := hz.grown hB3.block
      have hB4 : Below w.heap.size w w4 := hB.trans ⟨hg4.os.trans hB3.os, hg4.tape.trans hB3.tape, hg4.output.trans hB3.output, Nat.le_trans hB3.size hg4.size, fun j hj => by
        rw [hg4.block j (by have := hB3.size; omega) (by have := hz.ge.2.1; simp; omega), hB3.block j (by omega)]⟩
      have hrow4 : w4.ownsRow w.heap.size 42 1 (.slice (some ⟨g, 0, none⟩) lst.length cap) lst.length (lst.map nptr) := by
        have h3 : w3.ownsRow w.heap.size 42 1 (.slice (some ⟨g, 0, none⟩) lst.length cap) lst.length (lst.map nptr) := hrow.kept (row := none) ⟨hB3.os, hB3.tape, hB3.output, hB3.size, fun j hj _ => hB3.block j hj⟩ (by
          simp [Value.ownBlock])
        refine h3.kept hg4 ?_
        rcases h3.2 with ⟨h, _⟩ | ⟨g, cap, cur, h, _, hg, _⟩
        · simp at h
        · right
          simp at h
          obtain ⟨rfl, rfl⟩ := h
          simp only [Value.ownBlock]
          intro e
          cases e
          obtain ⟨es, clock, hm, _⟩ := hz3.map
          rw [hm] at hg
          simp at hg
      have hls3 := hwl.few
      clear hR hls hwl hB3 hz3 hrow hB hc' hz hg4 hm4 hsz
      have hcl : ∀ j (h : j < lst.length), w4.cell? ⟨g, j, none⟩ = some (nptr lst[j]) := fun j h => by
        rw [hrow4.cellAt j (by omega)]
        simp [h]
      go_wp2
      go_loopw [15, 49] (fun f i wr => ∃ j : Nat, j ≤ lst.length ∧ f = .bool false ∧ i = .int .i64 j ∧ wr = w4 ∧ n ∉ lst.take j) (fun _ i _ => lst.length - (RowKit.intOf i).toNat)
      case atStart => exact ⟨0, by omega, rfl, rfl, rfl, by simp⟩
      case round =>
        obtain ⟨j, hj, rfl, rfl, hwr, hnj⟩ := hrel
        subst hwr
        have hnn1 := hz4.node n hn
        rcases Nat.lt_or_ge j lst.length with hjl | hjl
        · have hcj := hcl j hjl
          clear hcl
          simp only [nptr] at hcj
          have hinz : lst[j] ∈ ns := hsub _ (List.getElem_mem hjl)
          by_cases he : lst[j] = n
          · have hq := eql42_same ⟨n.1, 0, none⟩
            rw [he] at hcj hinz
            go_wp2
            go_roundw
            case rel =>
              exact ⟨ns ++ ns', lst, k + 1, by omega, rfl, hz4, hrow4, fun m hm => by simp [hsub m hm], hnd, by omega, hl1, by simp; omega, hB4⟩
            case measure =>
              simp [RowKit.intOf]
              omega
          · have hne : lst[j].1 ≠ n.1 := by
              intro e
              refine he ?_
              have h1 : lst[j] ∈ ns ++ ns' := by simp [hinz]
              have h2 := hz4.ptrs
              exact inj_nodup h2 h1 hn e
            have hq := eql42_other (a := ⟨lst[j].1, 0, none⟩) (b := ⟨n.1, 0, none⟩) (w := wr) (fun e => hne (congrArg Addr.block e)) (hz4.node lst[j] (by simp [hinz])) hnn1
            go_wp2
            go_roundw
            case rel =>
              refine ⟨j + 1, by omega, rfl, rfl, trivial, fun hm => ?_⟩
              rw [List.take_succ_eq_append_getElem hjl, List.mem_append] at hm
              rcases hm with hm | hm
              · exact hnj hm
              · simp at hm; exact he hm.symm
            case measure =>
              simp [RowKit.intOf]
              omega
        · have hjl' : j = lst.length := by omega
          have hnl : n ∉ lst := by rw [hjl', List.take_length] at hnj; exact hnj
          clear hcl hnj
          go_wp2_with (at_builtin; go_must (refine wpList_append_at rfl _ _ 49 rfl w.heap.size 42 i0 (.pointer none) 1 8 Yba.underlying49 hi hz0 hz1 hz2 rfl (by decide) _ _ _ rfl (hrow4.alloc _) ⟨wr.heap.size, 0, none⟩ 1 1 [nptr n] rfl (by decide) rfl ?c1 (by simp [Value.oneCell', nptr]) (by simp [maxLen]; omega) (by omega) (by have := hB4.size; simp; omega) ?_))
          case c1 =>
            intro j u hj
            match j, hj with
            | 0, hj => simp at hj; subst hj; simp [Addr.add, nptr]
          intro v' w5 hown' hgrow hwh
          obtain ⟨g', cap', rfl⟩ := ownsRow_succ hown'
          go_wp2
          go_roundw
          case rel =>
            refine ⟨ns ++ ns', lst ++ [n], k + 1, by omega, rfl, ?_, ?_, ?_, ?_, by simp; omega, by simp, by simp; omega, ?_⟩
            · exact (hz4.grown (w' := wr.alloc _) (fun k hk => heap_alloc_old _ _ hk)).row hgrow (fun q hq => by
                cases hq
                obtain ⟨c, hc⟩ := ownsRow_at (hrow4.alloc _)
                exact ⟨c, 42, hc, by decide, by decide⟩)
            · simpa using hown'
            · intro m hm
              simp at hm
              rcases hm with hm | rfl
              · simp [hsub m hm]
              · exact hn
            · rw [List.nodup_append]
              exact ⟨hnd, by simp, fun a ha b hb e => by simp at hb; subst hb; subst e; exact hnl ha⟩
            · exact (hB4.alloc hB4.size _).grown hgrow (by have := hB4.size; simp; omega) (fun q hq => (hrow4.lt q hq).1)
          case measure =>
            simp [RowKit.intOf]
            omega
    · obtain rfl : k = nn := by omega
      clear hk hkn hN
      have hzr := hz.toZr
      clear hz
      go_wp2
      go_loopw [66] (fun i wr => ∃ (vs : Nat → Value) (rs : Nat → List Rec) (k : Nat), k ≤ nr ∧ i = .int .i64 k ∧ Zr wr w.heap.size Z M (zcells (nptr p) M noSoa) ns vs rs ∧ wr.ownsRow w.heap.size 42 1 (.slice (some ⟨g, 0, none⟩) lst.length cap) lst.length (lst.map nptr) ∧ (∀ n ∈ ns, n ∉ lst → rs n.1 = []) ∧ (∀ q, (rs q).length ≤ k) ∧ Below w.heap.size w wr) (fun i _ => nr - (RowKit.intOf i).toNat)
      case atStart => exact ⟨_, _, 0, by omega, rfl, hzr, hrow, fun _ _ _ => rfl, fun _ => by simp, hB⟩
      case round =>
        obtain ⟨vs, rs, k, hk, rfl, hz, hrow, hout, hcap, hB⟩ := hrel
        clear hzr
        rcases Nat.lt_or_ge k nr with hkn | hkn
        · --<P2
          obtain ⟨a, rfl, ha, hc, hr16⟩ := hR k hkn
          have hc' : wr.cell? (a.add k) = some (.int .u16 (R k)) := (hB.cell (p := a.add k) (by rw [add_blk]; exact ha)).trans hc
          obtain ⟨j, hj⟩ : ∃ j, j = (R k / 256) % lst.length := ⟨_, rfl⟩
          have hjl : j < lst.length := by rw [hj]; exact Nat.mod_lt _ (by omega)
          have hcl : wr.cell? ⟨g, j, none⟩ = some (nptr lst[j]) := by
            rw [hrow.cellAt j (by omega)]
            simp [hjl]
          obtain ⟨nd, hnd⟩ : ∃ nd, lst[j] = nd := ⟨_, rfl⟩
          have hndl : nd ∈ lst := by rw [← hnd]; exact List.getElem_mem hjl
          have hndn := hsub nd hndl
          simp only [hnd, nptr] at hcl
          have hnode := hz.node nd hndn
          have cn0 : wr.cell? ⟨nd.1, 0, none⟩ = some (.string (bs (encL nd.2))) := cell_blk hnode rfl
          have cn1 : wr.cell? ⟨nd.1, 1, none⟩ = some (vs nd.1) := cell_blk hnode rfl
          have hidx : (R k : Int) / 256 % (lst.length : Int) = (j : Int) := by rw [hj]; push_cast; rfl
          have hR16 : (R k : Int) < 65536 := by omega
          have hjl' : (j : Int) < lst.length := by omega
          clear hj hnd hnode
          obtain ⟨nb, hnb⟩ : ∃ nb, encL nd.2 = nb := ⟨_, rfl⟩
          rw [hnb] at cn0
          go_upto_block 6 with fail
          go_cut [21] from 67 to 122 (fun s wx => wr = wx ∧ ∃ (d : Dat) (T : TypeId) (x : Value), s = .iface T x ∧ d.val = .iface T x)
          case first =>
            have h4 : R k % 4 = 0 ∨ R k % 4 = 1 ∨ R k % 4 = 2 ∨ R k % 4 = 3 := by omega
            rcases h4 with h4 | h4 | h4 | h4
            · have h4' : (R k : Int) % 4 = 0 := by omega
              go_wp2
              go_meet
              case rel => exact ⟨rfl, Dat.a (R k), _, _, rfl, rfl⟩
            · have h4' : (R k : Int) % 4 = 1 := by omega
              go_wp2
              go_meet
              case rel => exact ⟨rfl, Dat.ns, _, _, rfl, by simp [Dat.val, Dat.ns]⟩
            · have h4' : (R k : Int) % 4 = 2 := by omega
              go_wp2
              go_meet
              case rel => exact ⟨rfl, Dat.mx (R k) nb, _, _, rfl, rfl⟩
            · have h4' : (R k : Int) % 4 = 3 := by omega
              go_wp2
              go_meet
              case rel => exact ⟨rfl, Dat.soa (R k), _, _, rfl, by simp [Dat.val, Dat.soa]⟩
          case rest =>
            obtain ⟨rfl, d, T, x, rfl, hdv⟩ := hcut
            have hone := Rec.one ⟨nb, R k, d⟩
            have hrc : Rec.cells ⟨nb, R k, d⟩ = [.string (bs nb), .int .u16 0, .int .u32 (R k), .iface T x] := by simp [Rec.cells, hdv]
            rw [hrc] at hone
            have hw32 : IntKind.u32.wrap (R k : Int) = R k := by simp [IntKind.wrap, IntKind.bits, IntKind.signed]; omega
            have hcapn := hcap nd.1
            have hBs := hB.size
            have hnlt : nd.1 < wr.heap.size := (Array.getElem?_eq_some_iff.1 (hz.node nd hndn)).1
            have hcA : ∀ o : Obj, (wr.alloc o).cell? ⟨nd.1, 1, none⟩ = some (vs nd.1) := fun o => (World.cell?_alloc_lt wr o ⟨nd.1, 1, none⟩ hnlt).trans cn1
            have hq1 : (rs nd.1).length + 1 ≤ maxLen := by simp [maxLen]; omega
            have hq2 : ((rs nd.1).length + 1) * 40 ≤ 140737488355328 := by omega
            have hq3 : ∀ o : Obj, w.heap.size ≤ ((wr.alloc o).drew).heap.size := fun o => by simp; omega
            have hnn := hz.node nd hndn
            have hrne : some nd.1 ≠ (vs nd.1).ownBlock := fun e => by
              obtain ⟨c, hc⟩ := ownsRow_typ (hz.rows nd hndn) e.symm
              rw [hnn] at hc
              cases hc
            have hgne : some g ≠ (vs nd.1).ownBlock := fun e => by
              obtain ⟨c, hc⟩ := ownsRow_typ (hz.rows nd hndn) e.symm
              obtain ⟨c', hc'⟩ := ownsRow_at hrow
              rw [hc'] at hc
              cases hc
            have hcn : ∀ o w5, (wr.alloc o).drew.grownBy w5 (vs nd.1).ownBlock → w5.cell? ⟨nd.1, 1, none⟩ = some (vs nd.1) ∧ w5.frozen? ⟨nd.1, 1, none⟩ = false := by
              intro o w5 hg
              have h1 : w5.heap[nd.1]? = some (.cells #[.string (bs (encL nd.2)), vs nd.1, .pointer none] 60 (0, 0)) := by
                rw [hg.block nd.1 (by simp; omega) hrne]
                exact (heap_alloc_old wr o hnlt).trans hnn
              exact ⟨cell_blk h1 rfl, frozen_blk h1⟩
            have hfin : ∀ o w5 v', (wr.alloc o).drew.grownBy w5 (vs nd.1).ownBlock → w5.ownsRow w.heap.size 38 4 v' ((rs nd.1).length + 1) ((rs nd.1).flatMap Rec.cells ++ [.string (bs nb), .int .u16 0, .int .u32 (R k), .iface T x]) →
                (v'.ownBlock = (vs nd.1).ownBlock ∨ v'.ownBlock = some (wr.alloc o).drew.heap.size) →
                Zr (w5.setCell ⟨nd.1, 1, none⟩ v') w.heap.size Z M (zcells (nptr p) M noSoa) ns (upd vs nd.1 v') (upd rs nd.1 (rs nd.1 ++ [⟨nb, R k, d⟩])) ∧ (w5.setCell ⟨nd.1, 1, none⟩ v').ownsRow w.heap.size 42 1 (.slice (some ⟨g, 0, none⟩) lst.length cap) lst.length (lst.map nptr) ∧ Below w.heap.size w (w5.setCell ⟨nd.1, 1, none⟩ v') := by
              intro o w5 v' hg hown hwh
              rw [← hrc] at hown
              have hold : ∀ q, q < wr.heap.size → some q ≠ (vs nd.1).ownBlock → w5.heap[q]? = wr.heap[q]? := fun q hq hne => by
                rw [hg.block q (by simp; omega) hne]
                exact heap_alloc_old wr o hq
              have hgs := hg.size
              simp at hgs
              refine ⟨hz.add nd hndn _ _ hold hown (hwh.elim (fun h => .inl h) (fun h => .inr ⟨_, h, by simp⟩)), ?_, ?_⟩
              · refine ownsRow_old hrow fun q hq => ?_
                simp [Value.ownBlock] at hq
                subst hq
                obtain ⟨c, hc⟩ := ownsRow_at hrow
                rw [Below.heap_setCell _ _ _ _ (by
                  show g ≠ nd.1
                  rintro rfl
                  rw [hnn] at hc
                  cases hc), hold g (Array.getElem?_eq_some_iff.1 hc).1 hgne]
              · refine Below.setCell (p := ⟨nd.1, 1, none⟩) (hB.trans ⟨hg.os, hg.tape, hg.output, by omega, fun q hq => hold q (by omega) fun e => ?_⟩) (hz.ge.2.2 nd hndn) _
                have := (hz.rows nd hndn).lt q e.symm
                omega
            clear hnn

            go_wp2
            go_region_law (refine step_append_at rfl _ _ 26 rfl w.heap.size 38 i1 (.agg #[.string ⟨#[]⟩, .int .u16 0, .int .u32 0, .nilIface]) 4 40 Yba.underlying26 hi1 hy0 hy1 hy2 rfl (by decide) (vs nd.1) _ _ rfl ((hz.rows nd hndn).alloc _).drew ⟨wr.heap.size, 0, none⟩ 1 1 [.string (bs nb), .int .u16 0, .int .u32 (R k), .iface T x] rfl (by decide) rfl ?_ hone hq1 hq2 (hq3 _) ?_; exact cells4 _ _ _ _ _; intro v' w5 hown' hgrow hwh; obtain ⟨g', cap', rfl⟩ := ownsRow_succ hown'; have d1 := hcn _ w5 hgrow; have f1 := d1.2; have d2 := d1.1; clear d1)
            all_goals
              obtain ⟨hz5, hrow5, hB5⟩ := hfin _ _ _ hgrow hown' hwh
              clear hfin hcn hcA hz hrow hB hgrow hown' hwh d2 f1
              go_wp2
              go_roundw
              case rel =>
                refine ⟨_, _, k + 1, by omega, rfl, hz5, hrow5, ?_, ?_, hB5⟩
                · intro n hn hnl
                  have : n.1 ≠ nd.1 := fun e => hnl (by rw [inj_nodup hz5.ptrs hn hndn e]; exact hndl)
                  simp only [upd, this, if_false]
                  exact hout n hn hnl
                · intro q
                  have := hcap q
                  simp only [upd]
                  split
                  · rename_i e; subst e; simp; omega
                  · omega
              case measure =>
                simp [RowKit.intOf]
                omega
        · have hcap3 : ∀ q, (rs q).length ≤ 300 := fun q => by have := hcap q; omega
          clear hR hcap
          have fZ : ∀ j, wr.frozen? ⟨Z, j, none⟩ = false := fun j => frozen_blk hz.zone.1
          have cZ3 : wr.cell? ⟨Z, 3, none⟩ = some (.string ⟨#[]⟩) := cell_blk hz.zone.1 rfl
          have cZ4 : wr.cell? ⟨Z, 4, none⟩ = some (.int .u16 0) := cell_blk hz.zone.1 rfl
          have cZ5 : wr.cell? ⟨Z, 5, none⟩ = some (.int .u32 0) := cell_blk hz.zone.1 rfl
          have cZ6 : wr.cell? ⟨Z, 6, none⟩ = some .nilIface := cell_blk hz.zone.1 rfl
          go_upto_region 34 with fail
          have hz3 := (((hz.setZ 3 (.string (bs (encL [com]))) (by decide) (by decide)).setZ 4 (.int .u16 0) (by decide) (by decide)).setZ 5 (.int .u32 7) (by decide) (by decide)).setZ 6 (Dat.soa 9).val (by decide) (by decide)
          have hB3 : Below w.heap.size w ((((wr.setCell ⟨Z, 3, none⟩ (.string (bs (encL [com])))).setCell ⟨Z, 4, none⟩ (.int .u16 0)).setCell ⟨Z, 5, none⟩ (.int .u32 7)).setCell ⟨Z, 6, none⟩ (Dat.soa 9).val) := (((hB.setCell (p := ⟨Z, 3, none⟩) hz.ge.1 _).setCell (p := ⟨Z, 4, none⟩) hz.ge.1 _).setCell (p := ⟨Z, 5, none⟩) hz.ge.1 _).setCell (p := ⟨Z, 6, none⟩) hz.ge.1 _
          have hgZ : g ≠ Z := by
            rintro rfl
            obtain ⟨c, hc⟩ := ownsRow_at hrow
            rw [hz.zone.1] at hc
            cases hc
          have hrow3 : ((((wr.setCell ⟨Z, 3, none⟩ (.string (bs (encL [com])))).setCell ⟨Z, 4, none⟩ (.int .u16 0)).setCell ⟨Z, 5, none⟩ (.int .u32 7)).setCell ⟨Z, 6, none⟩ (Dat.soa 9).val).ownsRow w.heap.size 42 1 (.slice (some ⟨g, 0, none⟩) lst.length cap) lst.length (lst.map nptr) :=
            ownsRow_setCell_other (ownsRow_setCell_other (ownsRow_setCell_other (ownsRow_setCell_other hrow (by simpa [Value.ownBlock] using hgZ) _) (by simpa [Value.ownBlock] using hgZ) _) (by simpa [Value.ownBlock] using hgZ) _) (by simpa [Value.ownBlock] using hgZ) _
          rw [show ((((zcells (nptr p) M noSoa).setIfInBounds 3 (.string (bs (encL [com])))).setIfInBounds 4 (.int .u16 0)).setIfInBounds 5 (.int .u32 7)).setIfInBounds 6 (Dat.soa 9).val = zcells (nptr p) M soaRec.cells.toArray from by simp [zcells, soaRec, Rec.cells]] at hz3
          rw [show (Dat.soa 9).val = Value.iface 64 (Value.agg #[Value.string { data := #[] }, Value.string { data := #[] }, Value.int IntKind.u32 9, Value.int IntKind.u32 0, Value.int IntKind.u32 0, Value.int IntKind.u32 0, Value.int IntKind.u32 0]) from rfl] at hz3 hB3 hrow3
          generalize (((wr.setCell ⟨Z, 3, none⟩ (.string (bs (encL [com])))).setCell ⟨Z, 4, none⟩ (.int .u16 0)).setCell ⟨Z, 5, none⟩ (.int .u32 7)).setCell ⟨Z, 6, none⟩ (Value.iface 64 (Value.agg #[Value.string { data := #[] }, Value.string { data := #[] }, Value.int IntKind.u32 9, Value.int IntKind.u32 0, Value.int IntKind.u32 0, Value.int IntKind.u32 0, Value.int IntKind.u32 0])) = w3 at hz3 hB3 hrow3 ⊢
          clear fZ cZ3 cZ4 cZ5 cZ6 hgZ hz hB hrow
          have hmk := fun wx => run_make_row' (P := Yba.prog) 49 42 (.pointer none) 8 Yba.underlying49 info42 rfl .i64 .i64 lst.length (by omega) (by omega) wx
          have hml : (madeCells #[Value.pointer none] lst.length).size = lst.length := size_madeCells _ _
          have hls : (lst.map nptr).length = lst.length := by simp
          have hsrc : ∀ j v, (lst.map nptr)[j]? = some v → (w3.alloc (Obj.cells (madeCells #[Value.pointer none] lst.length) 42)).cell? ((⟨g, 0, none⟩ : Addr).add j) = some v := fun j v hj => by
            exact (hrow3.alloc _).cells (g := g) rfl j v hj
          have hone : ∀ v ∈ lst.map nptr, v.oneCell' = true := fun v hv => by
            obtain ⟨n, _, rfl⟩ := List.mem_map.1 hv
            rfl
          go_upto_region 36 with (refine wpList_copy_own rfl _ _ 49 49 rfl 42 Yba.underlying49 (by kernel_rfl) w3.heap.size 0 lst.length lst.length ⟨g, 0, none⟩ lst.length cap rfl rfl (madeCells #[Value.pointer none] lst.length) 42 (heap_alloc_new _ _) (lst.map nptr) (by simp) hsrc (by simp [hml]) hone ?_)
          have hz4 : Zr ((w3.alloc (Obj.cells (madeCells #[Value.pointer none] lst.length) 42)).setRow w3.heap.size (List.take 0 (madeCells #[Value.pointer none] lst.length).toList ++ (List.map nptr lst ++ List.drop (0 + (List.map nptr lst).length) (madeCells #[Value.pointer none] lst.length).toList)).toArray) w.heap.size Z M (zcells (nptr p) M soaRec.cells.toArray) ns vs rs := hz3.grown fun q hq => by
            rw [setRow_other _ _ _ _ (by omega), heap_alloc_old _ _ hq]
          have hO4 : ((w3.alloc (Obj.cells (madeCells #[Value.pointer none] lst.length) 42)).setRow w3.heap.size (List.take 0 (madeCells #[Value.pointer none] lst.length).toList ++ (List.map nptr lst ++ List.drop (0 + (List.map nptr lst).length) (madeCells #[Value.pointer none] lst.length).toList)).toArray).heap[w3.heap.size]? = some (.cells (lst.map nptr).toArray 42 (0, 0)) := by
            rw [setRow_heap _ _ _ _ _ _ (heap_alloc_new _ _)]
            congr 2
            simp [List.drop_eq_nil_of_le, hml]
          have hB4 : Below w.heap.size w ((w3.alloc (Obj.cells (madeCells #[Value.pointer none] lst.length) 42)).setRow w3.heap.size (List.take 0 (madeCells #[Value.pointer none] lst.length).toList ++ (List.map nptr lst ++ List.drop (0 + (List.map nptr lst).length) (madeCells #[Value.pointer none] lst.length).toList)).toArray) :=
            hB3.trans ⟨rfl, rfl, rfl, by simp [World.setRow], fun q hq => by
              have := hB3.size
              rw [setRow_other _ _ _ _ (by omega), heap_alloc_old _ _ (by omega)]⟩
          have hO3 := hB3.size
          generalize (w3.alloc (Obj.cells (madeCells #[Value.pointer none] lst.length) 42)).setRow w3.heap.size (List.take 0 (madeCells #[Value.pointer none] lst.length).toList ++ (List.map nptr lst ++ List.drop (0 + (List.map nptr lst).length) (madeCells #[Value.pointer none] lst.length).toList)).toArray = w4 at hz4 hO4 hB4 ⊢
          obtain ⟨O, hO⟩ : ∃ O, O = w3.heap.size := ⟨_, rfl⟩
          rw [← hO] at hO4 hO3 ⊢
          clear hO hsrc hml hls hmk hz3 hrow3 hB3
          go_wp2
          go_loopw [23] (fun i wr => ∃ (ord : List Nd) (k : Nat), 1 ≤ k ∧ k ≤ lst.length ∧ i = .int .i64 k ∧ ord.Perm lst ∧ (ord.take k).Pairwise ltN ∧ Zr wr w.heap.size Z M (zcells (nptr p) M soaRec.cells.toArray) ns vs rs ∧ wr.heap[O]? = some (.cells (ord.map nptr).toArray 42 (0, 0)) ∧ Below w.heap.size w wr) (fun i _ => lst.length - (RowKit.intOf i).toNat)
          case atStart => exact ⟨lst, 1, by omega, by omega, rfl, List.Perm.refl _, by
            rcases lst with _ | ⟨x, lst⟩ <;> simp, hz4, hO4, hB4⟩
          case round =>
            obtain ⟨ord, k, hk1, hk, rfl, hperm, hsorted, hz, hO, hB⟩ := hrel
            have hol := hperm.length_eq
            rcases Nat.lt_or_ge k lst.length with hkl | hkl
            · --<P3
              go_wp2
              go_loopw [24] (fun j wr => ∃ (A : List Nd) (x : Nd) (Bm C : List Nd), j = .int .i64 A.length ∧ A.length + Bm.length = k ∧ (A ++ x :: Bm ++ C).Perm lst ∧ (A ++ Bm).Pairwise ltN ∧ (∀ b ∈ Bm, ltN x b) ∧ Zr wr w.heap.size Z M (zcells (nptr p) M soaRec.cells.toArray) ns vs rs ∧ wr.heap[O]? = some (.cells ((A ++ x :: Bm ++ C).map nptr).toArray 42 (0, 0)) ∧ Below w.heap.size w wr) (fun j _ => (RowKit.intOf j).toNat)
              case atStart =>
                have hko : k < ord.length := by omega
                have hsp : ord.take k ++ ord[k] :: [] ++ ord.drop (k + 1) = ord := by simp
                refine ⟨ord.take k, ord[k], [], ord.drop (k + 1), by simp; omega, by simp; omega, by rw [hsp]; exact hperm, by simpa using hsorted, by simp, hz, by rw [hsp]; exact hO, hB⟩
              case round =>
                obtain ⟨A, x, Bm, C, rfl, hAB, hperm, hsorted, hxB, hz, hO, hB⟩ := hrel
                rcases List.eq_nil_or_concat A with rfl | ⟨A, a, rfl⟩
                · have hd0 : decide ((0 : Int) > 0) = false := by decide
                  have hxA : (x :: Bm).Pairwise ltN := insert_stop (A := []) (by simpa using hsorted) hxB (by simp)
                  go_wp2
                  have hinh : Inhabited (Bel wr) := ⟨⟨wr, Below.refl _ _⟩⟩
                  refine wp_region_quiet_bel (by kernel_rfl) (by kernel_rfl) ?_
                  repeat (go_big_quiet_step (fail))
                  refine wpQuiet_nil ?_
                  rintro w5 ⟨⟨_, hB5⟩, rfl⟩
                  have hz5 := hz.grown hB5.block
                  have hO5 := (hB5.block O (Array.getElem?_eq_some_iff.1 hO).1).trans hO
                  have hBw : Below w.heap.size w w5 := hB.trans ⟨hB5.os, hB5.tape, hB5.output, hB5.size, fun q hq => hB5.block q (by have := hB.size; omega)⟩
                  go_wp2
                  go_roundw
                  case rel =>
                    exact ⟨_, k + 1, by omega, by omega, rfl, hperm, by rw [take_mid [] x Bm C (by simpa using hAB)]; exact hxA, hz5, hO5, hBw⟩
                  case measure =>
                    simp [RowKit.intOf]
                    omega
                · simp only [List.concat_eq_append] at *
                  have hj : (((A ++ [a]).length : Nat) : Int) = (A.length : Int) + 1 := by simp
                  rw [hj]
                  have hlen : A.length + 1 + 1 + Bm.length + C.length = lst.length := by have := hperm.length_eq; simp at this; omega
                  have hmA : a ∈ lst := hperm.mem_iff.1 (by simp)
                  have hmx : x ∈ lst := hperm.mem_iff.1 (by simp)
                  have hnA := hz.node a (hsub a hmA)
                  have hnx := hz.node x (hsub x hmx)
                  have cA : wr.cell? ⟨a.1, 0, none⟩ = some (.string (bs (encL a.2))) := cell_blk hnA rfl
                  have cx : wr.cell? ⟨x.1, 0, none⟩ = some (.string (bs (encL x.2))) := cell_blk hnx rfl
                  have cO1 : wr.cell? ⟨O, A.length, none⟩ = some (.pointer (some ⟨a.1, 0, none⟩)) := cell_blk hO (by simp [nptr])
                  have cO2 : wr.cell? ⟨O, A.length + 1, none⟩ = some (.pointer (some ⟨x.1, 0, none⟩)) := cell_blk hO (by simp [nptr])
                  have hwA := hz.wf a (hsub a hmA)
                  have hwx := hz.wf x (hsub x hmx)
                  have hcmp : ∀ q : Bel wr, Calls Yba.prog 10 #[.string (bs (encL a.2)), .string (bs (encL x.2))] q.v fun e w' => e = .returned (.int .i64 (cmpLs a.2.reverse x.2.reverse)) ∧ Below q.v.heap.size q.v w' :=
                    fun q => cmp_run a.2 x.2 q.v hwA.1 hwx.1 hwA.2 hwx.2
                  have cA' := Bel.cell (w := wr) (a := ⟨a.1, 0, none⟩) (Array.getElem?_eq_some_iff.1 hnA).1 cA
                  have cx' := Bel.cell (w := wr) (a := ⟨x.1, 0, none⟩) (Array.getElem?_eq_some_iff.1 hnx).1 cx
                  have cO1' := Bel.cell (w := wr) (a := ⟨O, A.length, none⟩) (Array.getElem?_eq_some_iff.1 hO).1 cO1
                  have cO2' := Bel.cell (w := wr) (a := ⟨O, A.length + 1, none⟩) (Array.getElem?_eq_some_iff.1 hO).1 cO2
                  obtain ⟨c, hc⟩ : ∃ c, cmpLs a.2.reverse x.2.reverse = c := ⟨_, rfl⟩
                  rw [hc] at hcmp
                  have hAl : (A.length : Int) + 1 < lst.length := by omega
                  by_cases hc0 : 0 < c
                  · go_wp2
                    have hinh : Inhabited (Bel wr) := ⟨⟨wr, Below.refl _ _⟩⟩
                    refine wp_region_quiet_bel (by kernel_rfl) (by kernel_rfl) ?_
                    repeat (go_big_quiet_step ((go_at_call 10; go_must (refine calls_bel (hcmp _)))))
                    refine wpQuiet_nil ?_
                    rintro w5 ⟨⟨_, hB5⟩, rfl⟩
                    have hO5 := (hB5.block O (Array.getElem?_eq_some_iff.1 hO).1).trans hO
                    have hz5 := hz.grown hB5.block
                    have cO15 : w5.cell? ⟨O, A.length, none⟩ = some (.pointer (some ⟨a.1, 0, none⟩)) := cell_blk hO5 (by simp [nptr])
                    have cO25 : w5.cell? ⟨O, A.length + 1, none⟩ = some (.pointer (some ⟨x.1, 0, none⟩)) := cell_blk hO5 (by simp [nptr])
                    have fO : ∀ j, w5.frozen? ⟨O, j, none⟩ = false := fun j => frozen_blk hO5
                    have hBw : Below w.heap.size w w5 := hB.trans ⟨hB5.os, hB5.tape, hB5.output, hB5.size, fun q hq => hB5.block q (by have := hB.size; omega)⟩
                    clear hcmp cA cx cO1 cO2 cA' cx' cO1' cO2' hnA hnx hwA hwx
                    go_wp2
                    go_roundw
                    case rel =>
                      refine ⟨A, x, a :: Bm, C, rfl, by simp at hAB ⊢; omega, ?_, ?_, ?_, ?_, ?_, ?_⟩
                      · refine List.Perm.trans ?_ hperm
                        have : (A ++ x :: a :: (Bm ++ C)).Perm (A ++ a :: x :: (Bm ++ C)) := (List.Perm.swap a x _).append_left A
                        simpa using this
                      · simpa using hsorted
                      · intro b hb
                        simp at hb
                        rcases hb with rfl | hb
                        · exact ltN_of_gt (by rw [hc]; exact hc0)
                        · exact hxB b hb
                      · exact (hz5.setO hO5 _ _).setO (heap_setCell_own hO5) _ _
                      · rw [heap_setCell_own (heap_setCell_own hO5)]
                        simp [nptr]
                      · exact (hBw.setCell (p := ⟨O, A.length + 1, none⟩) hO3 _).setCell (p := ⟨O, A.length, none⟩) hO3 _
                    case measure =>
                      simp [RowKit.intOf]
                  · have hltx : ltN a x := by
                      refine ltN_of_le (by rw [hc]; exact hc0) hwA.1 hwx.1 ?_
                      have hmem : a ≠ x := by
                        rintro rfl
                        have := hperm.nodup_iff.2 hnd
                        exact (List.nodup_append.1 (List.nodup_append.1 this).1).2.2 a (by simp) a (by simp) rfl
                      exact fun e => hmem (key_inj hz.keys (hsub a hmA) (hsub x hmx) e)
                    have hxA := insert_stop hsorted hxB (all_lt_last hsorted hltx)
                    go_wp2
                    have hinh : Inhabited (Bel wr) := ⟨⟨wr, Below.refl _ _⟩⟩
                    refine wp_region_quiet_bel (by kernel_rfl) (by kernel_rfl) ?_
                    repeat (go_big_quiet_step ((go_at_call 10; go_must (refine calls_bel (hcmp _)))))
                    refine wpQuiet_nil ?_
                    rintro w5 ⟨⟨_, hB5⟩, rfl⟩
                    have hO5 := (hB5.block O (Array.getElem?_eq_some_iff.1 hO).1).trans hO
                    have hz5 := hz.grown hB5.block
                    have hBw : Below w.heap.size w w5 := hB.trans ⟨hB5.os, hB5.tape, hB5.output, hB5.size, fun q hq => hB5.block q (by have := hB.size; omega)⟩
                    clear hcmp cA cx cO1 cO2 cA' cx' cO1' cO2' hnA hnx hwA hwx
                    go_wp2
                    go_roundw
                    case rel =>
                      exact ⟨_, k + 1, by omega, by omega, rfl, hperm, by rw [take_mid (A ++ [a]) x Bm C hAB]; exact hxA, hz5, hO5, hBw⟩
                    case measure =>
                      simp [RowKit.intOf]
                      omega
            · have hkd : decide (k < lst.length) = false := by simp; omega
              have hsort : ord.Pairwise ltN := by rw [List.take_of_length_le (by omega)] at hsorted; exact hsorted
              have hsubo : ∀ n ∈ ord, n ∈ ns := fun n hn => hsub n (hperm.mem_iff.1 hn)
              have c3 : wr.cell? ⟨Z, 3, none⟩ = some (.string (bs (encL [com]))) := cell_blk hz.zone.1 rfl
              have c4 : wr.cell? ⟨Z, 4, none⟩ = some (.int .u16 0) := cell_blk hz.zone.1 rfl
              have c5 : wr.cell? ⟨Z, 5, none⟩ = some (.int .u32 7) := cell_blk hz.zone.1 rfl
              have c6 : wr.cell? ⟨Z, 6, none⟩ = some (Value.iface 64 (Value.agg #[Value.string { data := #[] }, Value.string { data := #[] }, Value.int IntKind.u32 9, Value.int IntKind.u32 0, Value.int IntKind.u32 0, Value.int IntKind.u32 0, Value.int IntKind.u32 0])) := cell_blk hz.zone.1 rfl
              clear hsorted hz4 hO4 hB4
              go_wp2
              obtain ⟨wz, hwz⟩ : ∃ wz, wz = wr := ⟨_, rfl⟩
              subst hwz
              obtain ⟨E, hE⟩ : ∃ E, E = wz.heap.size := ⟨_, rfl⟩
              have hE1 : E ≤ wz.heap.size := by omega
              have hE2 : wz.heap.size ≤ E := by omega
              have hB0 : Below E wz (wz.alloc (Obj.cells #[Value.string (bs (encL [com])), Value.int IntKind.u16 0, Value.int IntKind.u32 7, Value.iface 64 (Value.agg #[Value.string { data := #[] }, Value.string { data := #[] }, Value.int IntKind.u32 9, Value.int IntKind.u32 0, Value.int IntKind.u32 0, Value.int IntKind.u32 0, Value.int IntKind.u32 0])] 38)) := (Below.refl _ _).alloc (by omega) _
              have hX0 : (wz.alloc (Obj.cells #[Value.string (bs (encL [com])), Value.int IntKind.u16 0, Value.int IntKind.u32 7, Value.iface 64 (Value.agg #[Value.string { data := #[] }, Value.string { data := #[] }, Value.int IntKind.u32 9, Value.int IntKind.u32 0, Value.int IntKind.u32 0, Value.int IntKind.u32 0, Value.int IntKind.u32 0])] 38)).ownsRow E 38 4 (.slice (some ⟨wz.heap.size, 0, none⟩) 1 1) (expL rs (ord.take 0)).length ((expL rs (ord.take 0)).flatMap Rec.cells) :=
                World.ownsRow_lit (base := E) (e := 38) (size := 4) wz _ 1 (by omega) (by decide) rfl
              generalize wz.alloc (Obj.cells #[Value.string (bs (encL [com])), Value.int IntKind.u16 0, Value.int IntKind.u32 7, Value.iface 64 (Value.agg #[Value.string { data := #[] }, Value.string { data := #[] }, Value.int IntKind.u32 9, Value.int IntKind.u32 0, Value.int IntKind.u32 0, Value.int IntKind.u32 0, Value.int IntKind.u32 0])] 38) = w6 at hB0 hX0 ⊢
              rw [← hE] at hX0 ⊢
              clear hE
              clear c3 c4 c5 c6
              go_loopw [26, 191] (fun v i wx => ∃ k : Nat, k ≤ ord.length ∧ i = .int .i64 k ∧ Below E wz wx ∧ wx.ownsRow E 38 4 v (expL rs (ord.take k)).length ((expL rs (ord.take k)).flatMap Rec.cells)) (fun _ i _ => ord.length - (RowKit.intOf i).toNat)
              case atStart => exact ⟨0, by omega, rfl, hB0, hX0⟩
              case round =>
                obtain ⟨q, hq, rfl, hBx, hX⟩ := hrel
                have hzx := hz.grown (w' := wr) fun k hk => hBx.block k (by omega)
                have hOx := (hBx.block O (by have := (Array.getElem?_eq_some_iff.1 hO).1; omega)).trans hO
                have hEx := hBx.size
                rcases Nat.lt_or_ge q ord.length with hql | hql
                · --<P5
                  obtain ⟨n, hn⟩ : ∃ n, ord[q] = n := ⟨_, rfl⟩
                  have hno : n ∈ ord := by rw [← hn]; exact List.getElem_mem hql
                  have hnn := hzx.node n (hsubo n hno)
                  have cO : wr.cell? ⟨O, q, none⟩ = some (.pointer (some ⟨n.1, 0, none⟩)) := cell_blk hOx (by simp [hql, hn, nptr])
                  have cn : wr.cell? ⟨n.1, 1, none⟩ = some (vs n.1) := cell_blk hnn rfl
                  have hqd : decide (q < lst.length) = true := by simp; omega
                  have hql' : (q : Int) < lst.length := by omega
                  have htk : ord.take (q + 1) = ord.take q ++ [n] := by rw [List.take_succ_eq_append_getElem hql, hn]
                  have hrw := hzx.rows n (hsubo n hno)
                  have hrn := hcap3 n.1
                  have hxl := expL_le rs hcap3 (ord.take q)
                  have hxl2 : (ord.take q).length ≤ 301 := by simp; omega
                  obtain ⟨l, hl⟩ : ∃ l, rs n.1 = l := ⟨_, rfl⟩
                  obtain ⟨ex, hex⟩ : ∃ ex, expL rs (ord.take q) = ex := ⟨_, rfl⟩
                  have hexs : expL rs (ord.take (q + 1)) = ex ++ plainR l := by rw [htk, expL_succ, hex, hl]
                  rw [hl] at hrw hrn
                  rw [hex] at hX hxl
                  clear htk hn hex hl
                  have hfin : ∀ (wx : World) v, Below E wz wx → wx.ownsRow E 38 4 v (ex ++ plainR l).length ((ex ++ plainR l).flatMap Rec.cells) → ∃ k : Nat, k ≤ ord.length ∧ Value.int .i64 ((q : Int) + 1) = .int .i64 k ∧ Below E wz wx ∧ wx.ownsRow E 38 4 v (expL rs (ord.take k)).length ((expL rs (ord.take k)).flatMap Rec.cells) := fun wx v h1 h2 => ⟨q + 1, by omega, rfl, h1, by rw [hexs]; exact h2⟩
                  clear hexs
                  rcases hrw.2 with ⟨hv, h0⟩ | ⟨gn, cn', cur, hv, -⟩
                  · rw [hv] at cn
                    obtain rfl : l = [] := List.eq_nil_of_length_eq_zero h0
                    go_wp2
                    go_loopw [26, 200] (fun v j wy => v = u26 ∧ j = .int .i64 0 ∧ wy = wr) (fun _ _ _ => 0)
                    case atStart => exact ⟨rfl, rfl, rfl⟩
                    case round =>
                      obtain ⟨rfl, rfl, hwy⟩ := hrel
                      subst hwy
                      go_wp2
                      go_roundw
                      case rel => exact hfin _ _ hBx (by simpa [plainR] using hX)
                      case measure =>
                        simp [RowKit.intOf]
                        omega
                  · rw [hv] at cn hrw
                    have hgn := ownsRow_at hrw
                    clear hnn cur hql'
                    go_wp2
                    go_loopw [26, 200] (fun v j wy => ∃ j' : Nat, j' ≤ l.length ∧ j = .int .i64 j' ∧ Below E wz wy ∧ wy.ownsRow E 38 4 v (ex ++ plainR (l.take j')).length ((ex ++ plainR (l.take j')).flatMap Rec.cells)) (fun _ j _ => l.length - (RowKit.intOf j).toNat)
                    case atStart => exact ⟨0, by omega, rfl, hBx, by simpa [plainR] using hX⟩
                    case round =>
                      obtain ⟨j, hj, rfl, hBy, hY⟩ := hrel
                      rcases Nat.lt_or_ge j l.length with hjl | hjl
                      · have hrwj : wr.ownsRow w.heap.size 38 4 (.slice (some ⟨gn, 0, none⟩) l.length cn') l.length (l.flatMap Rec.cells) := ownsRow_old hrw fun k hk => by
                          simp [Value.ownBlock] at hk
                          subst hk
                          obtain ⟨c, hc⟩ := hgn
                          have hlt : gn < E := by
                            have := (hz.rows n (hsubo n hno)).lt gn (by rw [hv]; rfl)
                            omega
                          rw [hBy.block gn hlt, hBx.block gn hlt]
                        have hcells : ∀ c, c < 4 → wr.cell? ⟨gn, 4 * j + c, none⟩ = (l[j].cells)[c]? := fun c hc => by
                          rw [hrwj.cellAt (4 * j + c) (by omega), cells_at l j c hjl hc]
                        have htj := plainR_take_succ l j hjl
                        obtain ⟨⟨nm, ttl, d⟩, hr⟩ : ∃ r, l[j] = r := ⟨_, rfl⟩
                        rw [hr] at hcells htj
                        have k0 : wr.cell? ⟨gn, j * 4, none⟩ = some (.string (bs nm)) := by have h := hcells 0 (by decide); rw [Nat.mul_comm 4 j] at h; exact h
                        have k1 : wr.cell? ⟨gn, j * 4 + 1, none⟩ = some (.int .u16 0) := by have h := hcells 1 (by decide); rw [Nat.mul_comm 4 j] at h; exact h
                        have k2 : wr.cell? ⟨gn, j * 4 + 2, none⟩ = some (.int .u32 ttl) := by have h := hcells 2 (by decide); rw [Nat.mul_comm 4 j] at h; exact h
                        have k3 : wr.cell? ⟨gn, j * 4 + 3, none⟩ = some d.val := by have h := hcells 3 (by decide); rw [Nat.mul_comm 4 j] at h; exact h
                        have hjl' : (j : Int) < l.length := by omega
                        clear hr hcells hrwj hX cn cO hOx hzx hO hz hfin hgn
                        have hpl := plainR_le (l.take j)
                        have htl : (l.take j).length ≤ 300 := by simp; omega
                        have hq1 : (ex ++ plainR (l.take j)).length + 1 ≤ maxLen := by simp [maxLen]; omega
                        have hq2 : ((ex ++ plainR (l.take j)).length + 1) * 40 ≤ 140737488355328 := by simp; omega
                        have hEy := hBy.size
                        replace hEy := Nat.le_trans hE1 hEy
                        have hq3 : ∀ o1 o2 o3 : Obj, E ≤ (((wr.alloc o1).alloc o2).alloc o3).heap.size := fun o1 o2 o3 => by simp; omega
                        have hby : ∀ (o1 o2 o3 : Obj) (w7 : World), (((wr.alloc o1).alloc o2).alloc o3).grownBy w7 u26.ownBlock → Below E wz w7 := fun o1 o2 o3 w7 hg =>
                          (((hBy.alloc hEy o1).alloc (by simp; omega) o2).alloc (by simp; omega) o3).grown hg (by simp; omega) (fun q hq => (hY.lt q hq).1)
                        obtain ⟨kd, x, hb⟩ := d
                        rcases kd with _ | _ | _ | kd
                        · change _ = some (Value.iface 55 (Value.agg #[.int .u8 ((x : Int) % 256), .int .u8 1, .int .u8 2, .int .u8 3])) at k3
                          have hmt := m55
                          rw [if_neg (by simp [Dat.isSoa])] at htj
                          go_wp2_with (first | (go_at_call 80; go_must (refine (typ_a _ _ _ _ _).mono ?_); rintro e w' ⟨rfl, o, hw'⟩; subst hw') | (at_builtin; go_must (refine wpList_append_at rfl _ _ 26 rfl E 38 i1 (.agg #[.string ⟨#[]⟩, .int .u16 0, .int .u32 0, .nilIface]) 4 40 Yba.underlying26 hi1 hy0 hy1 hy2 rfl (by decide) _ _ _ rfl (((hY.alloc _).alloc _).alloc _) ⟨wr.heap.size + 1 + 1, 0, none⟩ 1 1 (Rec.cells ⟨nm, ttl, ⟨0, x, hb⟩⟩) rfl (by decide) rfl ?c1 (Rec.one _) hq1 hq2 (hq3 _ _ _) ?_)))
                          case c1 => exact cells4' _ _ _ _ _ (by simp)
                          intro v' w7 hown' hgrow hwh
                          have hB7 := hby _ _ _ _ hgrow
                          clear hgrow hwh
                          go_wp2
                          go_roundw
                          case rel => exact ⟨j + 1, by omega, rfl, hB7, by rw [htj]; exact app_row hown'⟩
                          case measure =>
                            simp [RowKit.intOf]
                            omega
                        · change _ = some (Value.iface 57 (Value.agg #[.string (bs (encL [com]))])) at k3
                          have hmt := m57
                          rw [if_neg (by simp [Dat.isSoa])] at htj
                          go_wp2_with (first | (go_at_call 83; go_must (refine (typ_ns _ _).mono ?_); rintro e w' ⟨rfl, o, hw'⟩; subst hw') | (at_builtin; go_must (refine wpList_append_at rfl _ _ 26 rfl E 38 i1 (.agg #[.string ⟨#[]⟩, .int .u16 0, .int .u32 0, .nilIface]) 4 40 Yba.underlying26 hi1 hy0 hy1 hy2 rfl (by decide) _ _ _ rfl (((hY.alloc _).alloc _).alloc _) ⟨wr.heap.size + 1 + 1, 0, none⟩ 1 1 (Rec.cells ⟨nm, ttl, ⟨1, x, hb⟩⟩) rfl (by decide) rfl ?c1 (Rec.one _) hq1 hq2 (hq3 _ _ _) ?_)))
                          case c1 => exact cells4' _ _ _ _ _ (by simp)
                          intro v' w7 hown' hgrow hwh
                          have hB7 := hby _ _ _ _ hgrow
                          clear hgrow hwh
                          go_wp2
                          go_roundw
                          case rel => exact ⟨j + 1, by omega, rfl, hB7, by rw [htj]; exact app_row hown'⟩
                          case measure =>
                            simp [RowKit.intOf]
                            omega
                        · change _ = some (Value.iface 62 (Value.agg #[.int .u16 x, .string (bs hb)])) at k3
                          have hmt := m62
                          rw [if_neg (by simp [Dat.isSoa])] at htj
                          go_wp2_with (first | (go_at_call 86; go_must (refine (typ_mx _ _ _).mono ?_); rintro e w' ⟨rfl, o, hw'⟩; subst hw') | (at_builtin; go_must (refine wpList_append_at rfl _ _ 26 rfl E 38 i1 (.agg #[.string ⟨#[]⟩, .int .u16 0, .int .u32 0, .nilIface]) 4 40 Yba.underlying26 hi1 hy0 hy1 hy2 rfl (by decide) _ _ _ rfl (((hY.alloc _).alloc _).alloc _) ⟨wr.heap.size + 1 + 1, 0, none⟩ 1 1 (Rec.cells ⟨nm, ttl, ⟨2, x, hb⟩⟩) rfl (by decide) rfl ?c1 (Rec.one _) hq1 hq2 (hq3 _ _ _) ?_)))
                          case c1 => exact cells4' _ _ _ _ _ (by simp)
                          intro v' w7 hown' hgrow hwh
                          have hB7 := hby _ _ _ _ hgrow
                          clear hgrow hwh
                          go_wp2
                          go_roundw
                          case rel => exact ⟨j + 1, by omega, rfl, hB7, by rw [htj]; exact app_row hown'⟩
                          case measure =>
                            simp [RowKit.intOf]
                            omega
                        · change _ = some (Value.iface 64 (Value.agg #[.string ⟨#[]⟩, .string ⟨#[]⟩, .int .u32 x, .int .u32 0, .int .u32 0, .int .u32 0, .int .u32 0])) at k3
                          have hmt := m64
                          rw [if_pos (by simp [Dat.isSoa])] at htj
                          go_wp2_with (go_at_call 89; go_must (refine (typ_soa _ _ _ _ _ _ _ _).mono ?_); rintro e w' ⟨rfl, o, hw'⟩; subst hw')
                          go_roundw
                          case rel => exact ⟨j + 1, by omega, rfl, (hBy.alloc hEy _).alloc (by simp; omega) _, by rw [htj]; simpa using (hY.alloc _).alloc _⟩
                          case measure =>
                            simp [RowKit.intOf]
                            omega
                      · obtain rfl : j = l.length := by omega
                        rw [List.take_length] at hY
                        go_wp2
                        go_roundw
                        case rel => exact hfin _ _ hBy hY
                        case measure =>
                          simp [RowKit.intOf]
                          omega
                · have hqo : ord.take q = ord := List.take_of_length_le hql
                  rw [hqo] at hX
                  clear hqo
                  have hBs := hB.size
                  go_wp2
                  go_ret2
                  exact ⟨Z, M, p, ns, ord, vs, rs, _, E, rfl, hzx, hsort, hsubo, fun n hn hno => hout n hn (fun h => hno (hperm.mem_iff.2 h)), hX, by omega, hB.trans ⟨hBx.os, hBx.tape, hBx.output, hBx.size, fun q hq => hBx.block q (by omega)⟩, hcap3, by omega, by omega⟩
end Go.Proofs.Ybulkccao
