/- seat b3914a: (Name).SortKey -/
import Derived.Test.YbulkccaoOrder
import Derived.Test.YbulkccaoWByte
import Derived.Lib.ConvBytes
import Derived.Lib.Builder
import Derived.BigRegion
import Derived.RegionTactic
namespace Go.Proofs.Ybulkccao
open Go Go.RowKit Go.Lib

/-- where each label starts -/
structure Starts (w wr : World) (S : Nat) (dn : List Bytes) : Prop where
  only : OnlyBlk S w wr
  row : ∃ cs : Array Value, wr.heap[S]? = some (.cells cs 86 (0, 0)) ∧ cs.size = 127 ∧ ∀ j, j < dn.length → cs[j]? = some (.int .u8 (preL (dn.take j)).length)

theorem Starts.push {w wr : World} {S : Nat} {dn : List Bytes} (h : Starts w wr S dn) (hd : dn.length < 127) (l : Bytes) : Starts w (wr.setCell ⟨S, dn.length, none⟩ (.int .u8 (preL dn).length)) S (dn ++ [l]) := by
  obtain ⟨cs, hg, hs, hc⟩ := h.row
  refine ⟨h.only.trans (OnlyBlk.setCell _ _), _, heap_setCell_own hg, by simp [hs], fun j hj => ?_⟩
  simp at hj
  by_cases e : j = dn.length
  · subst e
    rw [Array.getElem?_setIfInBounds_self_of_lt (by omega)]
    simp
  · rw [Array.getElem?_setIfInBounds_ne (by omega), hc j (by omega), List.take_append_of_le_length (by omega)]

theorem Bld.ne {w : World} {B b : Nat} {v : Value} {l : Bytes} (h : Bld w B b v l) {k : Nat} {c : Array Value} {t : TypeId} {f : Nat × Nat} (hk : w.heap[k]? = some (.cells c t f)) (hne : t ≠ 5 ∨ f ≠ (0, 0)) : v.ownBlock ≠ some k := by
  intro e
  rcases h.2.1.2 with ⟨rfl, _⟩ | ⟨g, cap, cur, rfl, _, hg, _⟩
  · simp [Value.ownBlock] at e
  · simp [Value.ownBlock] at e
    subst e
    rw [hk] at hg
    simp at hg
    rcases hne with h | h
    · exact h hg.2.1
    · exact h hg.2.2
theorem Bld.size {w : World} {B b : Nat} {v : Value} {l : Bytes} (h : Bld w B b v l) : b < w.heap.size := (Array.getElem?_eq_some_iff.1 h.1).1
theorem Bld.old {w w' : World} {B b : Nat} {v : Value} {l : Bytes} (h : Bld w B b v l) (hw : ∀ k, k < w.heap.size → w'.heap[k]? = w.heap[k]?) : Bld w' B b v l := by
  refine ⟨(hw b h.size).trans h.1, ⟨h.2.1.1, ?_⟩, h.2.2⟩
  rcases h.2.1.2 with hn | ⟨g, cap, cur, hv, hb, hg, r⟩
  · exact .inl hn
  · exact .inr ⟨g, cap, cur, hv, hb, (hw g (Array.getElem?_eq_some_iff.1 hg).1).trans hg, r⟩

theorem ownsRow_lower {w : World} {B B' : Nat} {e : TypeId} {s : Nat} {v : Value} {n : Nat} {xs : List Value} (h : w.ownsRow B e s v n xs) (hb : B' ≤ B) : w.ownsRow B' e s v n xs := by
  refine ⟨h.1, ?_⟩
  rcases h.2 with hn | ⟨g, cap, cur, hv, hg, r⟩
  · exact .inl hn
  · exact .inr ⟨g, cap, cur, hv, Nat.le_trans hb hg, r⟩

theorem escs_le : ∀ l : Bytes, (l.flatMap escU).length ≤ 2 * l.length
  | [] => by simp
  | c :: l => by
    have := escs_le l
    have h : (escU c).length ≤ 2 := by unfold escU; split <;> simp
    simp only [List.flatMap_cons, List.length_append, List.length_cons]
    omega
theorem skey_le' : ∀ r : List Bytes, (∀ l ∈ r, l.length ≤ 3) → (skey r).length ≤ 7 * r.length
  | [], _ => by simp [skey]
  | l :: r, h => by
    have h1 := skey_le' r (fun x hx => h x (by simp [hx]))
    have h2 := escs_le l
    have h3 := h l (by simp)
    have h4 : (escB l).length = (l.flatMap escU).length + 1 := by simp [escB]
    simp only [skey] at h1 ⊢
    simp only [List.flatMap_cons, List.length_append, List.length_cons]
    omega
theorem skey_le (r : List Bytes) (h1 : r.length ≤ 3) (h2 : ∀ l ∈ r, l.length ≤ 3) : (skey r).length ≤ 21 := by
  have := skey_le' r h2
  omega

theorem cell_blk' {v : World} {b o : Nat} {cs : Array Value} {t : TypeId} {f : Nat × Nat} (h : v.heap[b]? = some (.cells cs t f)) : v.cell? ⟨b, o, none⟩ = cs[o]? := by
  simp [World.cell?, h]

/-- between two rounds of SortKey's second loop -/
structure SK (w wr : World) (S b : Nat) (cs : Array Value) (l : Bytes) : Prop where
  bl : Below w.heap.size w wr
  st : wr.heap[S]? = some (.cells cs 86 (0, 0))
  bd : ∃ v, Bld wr w.heap.size b v l
  ge : w.heap.size ≤ S ∧ w.heap.size ≤ b ∧ S ≠ b

theorem SK.wbyte {w wr : World} {S b : Nat} {cs : Array Value} {l : Bytes} (h : SK w wr S b cs l) (hl : l.length ≤ 1000) (c : UInt8) :
    Calls Yba.prog 27 #[.pointer (some ⟨b, 0, none⟩), .int .u8 c.toNat] wr fun e w' => e = .returned .nilIface ∧ SK w w' S b cs (l ++ [c]) ∧ wr.heap.size ≤ w'.heap.size ∧
      ∀ (k : Nat) (x : Array Value) (f : Nat × Nat), f ≠ (0, 0) → wr.heap[k]? = some (Obj.cells x 5 f) → w'.heap[k]? = some (Obj.cells x 5 f) := by
  obtain ⟨v, hv⟩ := h.bd
  refine (wbyte_run _ b v l c wr hv hl h.bl.size).mono ?_
  rintro e w' ⟨rfl, v', hv', ho, ht, hop, hs, -, hk⟩
  have hS : S < wr.heap.size := (Array.getElem?_eq_some_iff.1 h.st).1
  refine ⟨rfl, ⟨h.bl.trans ⟨ho, ht, hop, hs, fun k hk' => hk k (by have := h.bl.size; omega) (by have := h.ge; omega) (fun e => by have := hv.2.1.lt _ e; omega)⟩, (hk S hS h.ge.2.2 (hv.ne h.st (.inl (by decide)))).trans h.st, ⟨v', hv'⟩, h.ge⟩, hs, ?_⟩
  intro k x f hf hx
  refine (hk k (Array.getElem?_eq_some_iff.1 hx).1 ?_ (hv.ne hx (.inr hf))).trans hx
  rintro rfl
  have := hv.1
  rw [hx] at this
  simp at this

set_option maxRecDepth 100000 in
set_option maxHeartbeats 1600000 in
theorem sortKey_aux (hGrow : ∀ (B b n : Nat) (w : World), B ≤ b → w.heap[b]? = some (.cells #[.pointer none, .slice none 0 0] 89 (0, 0)) → B ≤ w.heap.size → n ≤ 281474976710656 →
    Calls Yba.prog 25 #[.pointer (some ⟨b, 0, none⟩), .int .i64 n] w fun e w' => e = .returned (.tuple #[]) ∧ (Lib.BuilderAt 89 5 B b (.pointer (some ⟨b, 0, none⟩)) [] w' ∧ Below B w w'))
    (hStr : ∀ (B b : Nat) (l : List UInt8) (w : World), Lib.IsBuilder 89 5 B b (Lib.byteCells l) w → B ≤ w.heap.size →
    Calls Yba.prog 28 #[.pointer (some ⟨b, 0, none⟩)] w fun e w' => e = .returned (.string ⟨l.toArray⟩) ∧ Below B w w')
    (ls : List Bytes) (w : World) (hw : WFL ls) :
    Calls Yba.prog 12 #[.string (bs (encL ls))] w fun e w' => e = .returned (.string (bs (skey ls.reverse))) ∧ Below w.heap.size w w' := by
  have hlen := encL_le hw
  obtain ⟨t, ht⟩ : ∃ t, encL ls = t := ⟨_, rfl⟩
  have hsz := size_bs t
  rw [ht] at hlen ⊢
  have hw8 : ∀ b : UInt8, wrap64 (b.toNat : Int) = b.toNat := fun b => by have := b.toNat_lt; unfold wrap64; omega
  go_enter Yba.func12, Yba.ntmps12
  go_wp2
  obtain ⟨w0, hw0⟩ : ∃ w0, w.alloc (Obj.cells Yba.zeroCells86 86) = w0 := ⟨_, rfl⟩
  have hz : (Yba.zeroCells86).size = 127 := by kernel_rfl
  have hst0 : Starts w0 w0 w.heap.size [] := ⟨OnlyBlk.refl _ _, _, by rw [← hw0]; exact heap_alloc_new _ _, hz, fun j hj => by simp at hj⟩
  have hB0 : Below w.heap.size w w0 := by rw [← hw0]; exact (Below.refl _ w).alloc (Nat.le_refl _) _
  have hs0 : w0.heap.size = w.heap.size + 1 := by rw [← hw0]; simp
  rw [hw0]
  clear hw0 hz
  go_loopw [4, 5] (fun c i wr => ∃ dn rs : List Bytes, ls = dn ++ rs ∧ c = .int .i64 dn.length ∧ i = .int .i64 (preL dn).length ∧ Starts w0 wr w.heap.size dn) (fun _ i _ => 13 - (RowKit.intOf i).toNat)
  case atStart => exact ⟨[], ls, rfl, rfl, rfl, hst0⟩
  case round =>
    obtain ⟨dn, rs, hls, rfl, rfl, hst⟩ := hrel
    rcases rs with _ | ⟨l, rs⟩
    · have htl : t = preL dn ++ [0] := by rw [← ht, hls, encL_append]; rfl
      have hx : ∀ h, ((bs t)[(preL dn).length]'h) = 0 := fun h => by rw [get_bs]; simp [htl]
      have hlt : (preL dn).length < t.length := by simp [htl]
      clear htl
      have hG := hGrow wr.heap.size wr.heap.size (t.length + 4) (wr.alloc (Obj.cells #[.pointer none, .slice none 0 0] 89)) (Nat.le_refl _) (heap_alloc_new _ _) (by simp) (by omega)
      push_cast at hG
      obtain ⟨cs, hcs, hcz, hcj⟩ := hst.row
      have hSl : w.heap.size < wr.heap.size := (Array.getElem?_eq_some_iff.1 hcs).1
      have hBwr : Below w.heap.size w wr := hB0.trans ⟨hst.only.os, hst.only.tape, hst.only.output, Nat.le_of_eq hst.only.size.symm, fun k hk => hst.only.block k (by omega)⟩
      have hdl : ls = dn := by simp [hls]
      have hcj' : ∀ (a : List Bytes) (l : Bytes) (r : List Bytes), ls = (a ++ [l]) ++ r → cs[a.length]? = some (.int .u8 (preL a).length) := by
        intro a l r e
        rw [hcj a.length (by rw [← hdl, e]; simp), ← hdl, e]
        simp
      have hfew := hw.few
      have hdn3 : dn.length ≤ 3 := by rw [← hdl]; exact hfew
      clear hst hls hcj
      go_wp2_with (go_at_call 25; refine hG.mono ?_; clear hG; rintro e w2 ⟨rfl, hbd, hB2⟩)
      have hSK : SK w w2 w.heap.size wr.heap.size cs [] := by
        obtain ⟨_, v, h1, h2, h3⟩ := hbd
        refine ⟨hBwr.trans ⟨hB2.os, hB2.tape, hB2.output, by have := hB2.size; simp at this; omega, fun k hk => ?_⟩, ?_, ⟨v, h1, ownsRow_lower h2 (by omega), h3⟩, by omega⟩
        · rw [hB2.block k (by omega), heap_alloc_old _ _ (by omega)]
        · rw [hB2.block _ hSl, heap_alloc_old _ _ hSl]; exact hcs
      clear hbd hB2
      go_wp2
      obtain ⟨b, hb⟩ : ∃ b, b = wr.heap.size := ⟨_, rfl⟩
      rw [← hb] at hSK ⊢
      clear hcs hSl hBwr hb
      go_loopw [7] (fun i wx => ∃ a r : List Bytes, ls = a ++ r ∧ i = .int .i64 ((a.length : Int) - 1) ∧ SK w wx w.heap.size b cs (skey r.reverse)) (fun i _ => (RowKit.intOf i + 1).toNat)
      case atStart => exact ⟨dn, [], by simp [hdl], rfl, hSK⟩
      case round =>
        obtain ⟨a, r, hls, rfl, hs⟩ := hrel
        clear hdl
        have hkl : ∀ r : List Bytes, r.length ≤ 3 → (∀ l ∈ r, l.length ≤ 3) → (skey r).length ≤ 21 := by
          exact skey_le
        rcases List.eq_nil_or_concat a with rfl | ⟨a, l, rfl⟩
        · simp at hls
          subst hls
          have hIs : Lib.IsBuilder 89 5 w.heap.size b (Lib.byteCells (skey ls.reverse)) wr := by
            obtain ⟨v, h1, h2, h3⟩ := hs.bd
            exact .inr ⟨hs.ge.2.1, v, h1, by rw [Lib.byteCells_length]; exact h2, h3⟩
          have hS := hStr w.heap.size b (skey ls.reverse) wr hIs hs.bl.size
          go_wp2_with (go_at_call 28; refine hS.mono ?_; clear hS; rintro e w3 ⟨rfl, hB3⟩)
          go_ret
          exact ⟨rfl, hs.bl.trans hB3⟩
        · simp only [List.concat_eq_append] at *
          have e0 : (((a ++ [l]).length : Nat) : Int) - 1 = (a.length : Nat) := by simp
          rw [e0]
          clear e0
          have ha3 : a.length + 1 ≤ 3 := by rw [hls] at hfew; simp at hfew; omega
          have hl3 : 1 ≤ l.length ∧ l.length ≤ 3 := hw.short l (by simp [hls])
          have hcS : wr.cell? ⟨w.heap.size, a.length, none⟩ = some (.int .u8 (preL a).length) := cell_blk hs.st (hcj' a l r hls)
          have htl : t = preL a ++ (UInt8.ofNat l.length :: (l ++ encL r)) := by rw [← ht, hls, encL_append]; simp [preL_append, preL]
          have hx : ∀ h, ((bs t)[(preL a).length]'h) = UInt8.ofNat l.length := fun h => by rw [get_bs]; simp [htl]
          have hx2 : (UInt8.ofNat l.length).toNat = l.length := by simp; omega
          have hlt : (preL a).length + 1 + l.length < t.length := by have := length_encL_pos r; simp [htl]; omega
          have hext : (bs t).extract ((preL a).length + 1) ((preL a).length + 1 + l.length) = bs l := by
            rw [extract_bs, htl]
            congr 1
            rw [List.drop_append, List.drop_eq_nil_of_le (by omega), show (preL a).length + 1 - (preL a).length = 1 by omega]
            simp
          clear htl hcj' ht
          have hsl : ∀ wy : World, (Instr.slice 32 (.string (bs t)) (some (.int .u8 ((preL a).length + 1 : Int))) (some (.int .u8 ((preL a).length + 1 + l.length : Int))) none).run Yba.prog wy = .ok (.string (bs l)) wy := by
            intro wy
            have h := run_slice_string (P := Yba.prog) (w := wy) 32 (bs t) .u8 .u8 ((preL a).length + 1) ((preL a).length + 1 + l.length) Yba.underlying32 (by omega) (by omega) (by simp; omega)
            have e1 : ((preL a).length + 1 : Int).toNat = (preL a).length + 1 := by omega
            have e2 : ((preL a).length + 1 + l.length : Int).toNat = (preL a).length + 1 + l.length := by omega
            rw [e1, e2, hext] at h
            exact h
          clear hext
          have hcv : ∀ wy : World, (convert 32 45 (.string (bs l))).run Yba.prog wy = _ := fun wy => Go.Lib.run_convert_string_bytes wy 32 45 5 (bs l) Yba.underlying32 Yba.underlying45 Yba.underlying5
          go_wp2
          go_region
          obtain ⟨ck, f, hf, hK, hck⟩ : ∃ (ck : Array Value) (f : Nat × Nat), f ≠ (0, 0) ∧ (bytesWorld wr.drew 5 (bs l)).heap[wr.heap.size]? = some (Obj.cells ck 5 f) ∧ ∀ j (h : j < l.length), ck[j]? = some (.int .u8 (l[j]'h).toNat) := by
            refine ⟨_, _, ?_, bytesWorld_at_new wr.drew 5 (bs l), fun j h => ?_⟩
            · simp
            · have := bytesWorld_cell wr.drew 5 (bs l) j (by simp [h])
              rw [cell_blk' (bytesWorld_at_new wr.drew 5 (bs l))] at this
              rw [this]
              simp [h]
          have hs1 : SK w (bytesWorld wr.drew 5 (bs l)) w.heap.size b cs (skey r.reverse) := by
            obtain ⟨v, hv⟩ := hs.bd
            have ho : ∀ k, k < wr.heap.size → (bytesWorld wr.drew 5 (bs l)).heap[k]? = wr.heap[k]? := fun k hk => bytesWorld_at_old wr.drew 5 (bs l) k hk
            exact ⟨hs.bl.trans ⟨rfl, rfl, rfl, by rw [bytesWorld_size]; simp, fun k hk => ho k (by have := hs.bl.size; omega)⟩, (ho _ (Array.getElem?_eq_some_iff.1 hs.st).1).trans hs.st, ⟨v, hv.old ho⟩, hs.ge⟩
          obtain ⟨wb, hwb⟩ : ∃ wb, bytesWorld wr.drew 5 (bs l) = wb := ⟨_, rfl⟩
          rw [hwb] at hK hs1 ⊢
          have hsk : (skey r.reverse).length ≤ 21 := hkl _ (by rw [hls] at hfew; simp at hfew ⊢; omega) (fun x hx => (hw.short x (by rw [hls]; simp at hx; simp [hx])).2)
          clear hwb hcv hsl hs hkl hSK hcS
          go_wp2
          obtain ⟨Kb, hKb⟩ : ∃ Kb, Kb = wr.heap.size := ⟨_, rfl⟩
          rw [← hKb] at hK ⊢
          clear hKb
          go_loopw [55] (fun i wy => ∃ k : Nat, k ≤ l.length ∧ i = .int .i64 k ∧ SK w wy w.heap.size b cs (skey r.reverse ++ (l.take k).flatMap escU) ∧ wy.heap[Kb]? = some (Obj.cells ck 5 f)) (fun i _ => 3 - (RowKit.intOf i).toNat)
          case atStart => exact ⟨0, by omega, rfl, by simpa using hs1, hK⟩
          case round =>
            obtain ⟨k, hk, rfl, hs, hK⟩ := hrel
            rcases Nat.lt_or_ge k l.length with hkl | hkl
            · obtain ⟨c, hc⟩ : ∃ c, l[k]'hkl = c := ⟨_, rfl⟩
              have hc0 : wr.cell? ⟨Kb, k, none⟩ = some (.int .u8 c.toNat) := cell_blk hK (by rw [hck k hkl, hc])
              have htk : l.take (k + 1) = l.take k ++ [c] := by rw [List.take_succ_eq_append_getElem hkl, hc]
              have hlen : (skey r.reverse ++ (l.take k).flatMap escU).length ≤ 900 := by
                have h1 := escs_le (l.take k)
                simp only [List.length_take] at h1
                rw [List.length_append]
                omega
              have hlow := lower_run c
              have hlow' := (lowU c).toNat_lt
              clear hc hck
              by_cases h1 : (lowU c).toNat ≤ 1
              · have he : escU c = [1, lowU c + 1] := by simp [escU, h1]
                have hc1 : ((lowU c).toNat : Int) + 1 = ((lowU c + 1).toNat : Nat) := by rw [UInt8.toNat_add]; simp; omega
                have hW1 := hs.wbyte (by omega) 1
                rw [show ((1 : UInt8).toNat : Int) = 1 from rfl] at hW1
                go_wp2_with (first | (go_at_call 26; refine (hlow _).mono ?_; rintro e w' ⟨rfl, hw'⟩; have hw2 := hw'.symm; clear hw'; subst hw2) | (go_at_call 27; refine hW1.mono ?_; clear hW1; rintro e w3 ⟨rfl, hs3, hz3, hk3⟩; have hW2 := hs3.wbyte (by simp at hlen ⊢; omega) (lowU c + 1); rw [← hc1] at hW2; clear hc1) | (go_at_call 27; refine hW2.mono ?_; clear hW2; rintro e w4 ⟨rfl, hs4, hz4, hk4⟩))
                go_roundw
                case rel =>
                  refine ⟨k + 1, by omega, by simp, ?_, hk4 _ _ _ hf (hk3 _ _ _ hf hK)⟩
                  rw [htk]
                  simpa [he] using hs4
                case measure =>
                  simp [RowKit.intOf]
                  omega
              · have he : escU c = [lowU c] := by simp [escU, h1]
                have hW1 := hs.wbyte (by omega) (lowU c)
                go_wp2_with (first | (go_at_call 26; refine (hlow _).mono ?_; rintro e w' ⟨rfl, hw'⟩; have hw2 := hw'.symm; clear hw'; subst hw2) | (go_at_call 27; refine hW1.mono ?_; clear hW1; rintro e w3 ⟨rfl, hs3, hz3, hk3⟩))
                go_roundw
                case rel =>
                  refine ⟨k + 1, by omega, by simp, ?_, hk3 _ _ _ hf hK⟩
                  rw [htk]
                  simpa [he] using hs3
                case measure =>
                  simp [RowKit.intOf]
                  omega
            · obtain rfl : k = l.length := by omega
              have hlen : (skey r.reverse ++ (l.take l.length).flatMap escU).length ≤ 900 := by
                have h1 := escs_le (l.take l.length)
                simp only [List.length_take] at h1
                rw [List.length_append]
                omega
              have hW1 := hs.wbyte (by omega) 0
              rw [show ((0 : UInt8).toNat : Int) = 0 from rfl] at hW1
              go_wp2_with ((go_at_call 27; refine hW1.mono ?_; clear hW1; rintro e w3 ⟨rfl, hs3, hz3, hk3⟩))
              go_roundw
              case rel =>
                refine ⟨a, l :: r, by simp [hls], by simp, ?_⟩
                simpa [skey, escB] using hs3
              case measure =>
                simp [RowKit.intOf]
    · have htl : t = preL dn ++ (UInt8.ofNat l.length :: (l ++ encL rs)) := by rw [← ht, hls, encL_append]; rfl
      have hl3 : 1 ≤ l.length ∧ l.length ≤ 3 := hw.short l (by simp [hls])
      have hx : ∀ h, ((bs t)[(preL dn).length]'h) = UInt8.ofNat l.length := fun h => by rw [get_bs]; simp [htl]
      have hx2 : (UInt8.ofNat l.length).toNat = l.length := by simp; omega
      have hlt : (preL dn).length + 1 + l.length < t.length := by have := length_encL_pos rs; simp [htl]; omega
      have hd3 : dn.length + 1 ≤ 3 := by have := hw.few; rw [hls] at this; simp at this; omega
      obtain ⟨y, hy⟩ : ∃ y, wr.cell? ⟨w.heap.size, dn.length, none⟩ = some y := by
        obtain ⟨cs, hg, hs, hc⟩ := hst.row
        exact ⟨_, cell_blk hg (Array.getElem?_eq_getElem (by omega))⟩
      have hf : wr.frozen? ⟨w.heap.size, dn.length, none⟩ = false := by
        obtain ⟨cs, hg, hs, hc⟩ := hst.row
        exact frozen_blk hg
      clear htl
      go_wp2
      go_roundw
      case rel =>
        refine ⟨dn ++ [l], rs, by simp [hls], by simp, ?_, hst.push (by omega) l⟩
        rw [preL_append]
        simp [preL]
        omega
      case measure =>
        simp [RowKit.intOf]
        omega
end Go.Proofs.Ybulkccao
