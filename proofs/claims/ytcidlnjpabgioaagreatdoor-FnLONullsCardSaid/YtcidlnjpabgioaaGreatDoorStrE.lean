/- The column of strings, encoded. -/
import Derived.Test.YtcidlnjpabgioaaGreatDoorStrL
import Derived.Test.YtcidlnjpabgioaaGreatDoorShelf
import Derived.Deep.RegionLaw
namespace Go.Proofs.YtcidlnjpabgioaaGreatDoor
open Go.RowKit

def strBytes (c : Cell) : List UInt8 := Lib.uvarint c.s.size ++ c.s.data.toList
theorem strBytes_enc (cs : List Cell) : enc .str cs = cs.flatMap strBytes := by rw [enc]; rfl

theorem spans_at : ∀ (cs : List Cell) (n k : Nat) (h : k < cs.length), (spans n cs)[k * 2]? = some (.int .i64 (n + (cat (cs.take k)).length : Nat)) ∧ (spans n cs)[k * 2 + 1]? = some (.int .i64 (n + (cat (cs.take k)).length + cs[k].s.size : Nat))
  | [], n, k, h => by simp at h
  | c :: cs, n, 0, h => by
    rw [spans]
    exact ⟨by simp [cat], by simp [cat]⟩
  | c :: cs, n, k + 1, h => by
    have hs : c.s.data.toList.length = c.s.size := Array.length_toList
    obtain ⟨h1, h2⟩ := spans_at cs (n + c.s.size) k (by simpa using h)
    have e1 : (k + 1) * 2 = k * 2 + 1 + 1 := by omega
    rw [e1, spans, List.take_succ_cons, cat_cons, List.length_append, hs]
    simp only [List.getElem?_cons_succ, List.getElem_cons_succ]
    rw [h1, h2]
    exact ⟨by congr 3; omega, by congr 3; omega⟩

theorem cat_split (cs : List Cell) (k : Nat) (h : k < cs.length) : cat cs = cat (cs.take k) ++ (cs[k].s.data.toList ++ cat (cs.drop (k + 1))) := by
  rw [← cat_cons, ← cat_append, List.getElem_cons_drop h, List.take_append_drop]

theorem flatMap_take_le {α β : Type} (f : α → List β) (l : List α) (k : Nat) : ((l.take k).flatMap f).length ≤ (l.flatMap f).length := by
  have := congrArg List.length (List.flatMap_append (f := f) (xs := l.take k) (ys := l.drop k))
  rw [List.take_append_drop, List.length_append] at this
  omega

/-- A part of a row, as the walk spells its address. -/
theorem srcPart {w : World} {tx e' : TypeId} {g o k n : Nat} {l : List UInt8} (hk : Tryz.prog.underlying tx = some (.slice e')) (hl : (bcells l).length = n) (hs : ∀ j u, (bcells l)[j]? = some u → w.cell? ((⟨g, o, none⟩ : Addr).add j) = some u) (hn : k = o → n = 0) (c : Nat) :
    Src Tryz.prog 1 tx (.slice (if k = o then some ⟨g, 0, none⟩ else some ⟨g, o, none⟩) n c) n (bcells l) w := by
  have h1 : ∀ u ∈ bcells l, u.oneCell' = true := by
    intro u hu
    obtain ⟨c, _, rfl⟩ := List.mem_map.1 hu
    rfl
  by_cases h : k = o
  · have hn0 := hn h
    subst hn0
    have hb : bcells l = [] := List.eq_nil_of_length_eq_zero hl
    rw [hb, if_pos h]
    exact Src.ofSlice _ hk _ _ _ [] (by simp) (by simp) (by simp)
  · rw [if_neg h]
    exact Src.ofSlice _ hk _ _ _ _ (by rw [hl]; omega) hs h1

theorem bcells_one (l : List UInt8) : ∀ u ∈ bcells l, u.oneCell' = true := by
  intro u hu
  obtain ⟨c, _, rfl⟩ := List.mem_map.1 hu
  rfl

set_option maxRecDepth 100000 in
set_option maxHeartbeats 2000000 in
theorem str_encode (w : World) (b : Nat) (fb : Nat → Prop) (bs : List UInt8) (hb : Buf w b fb bs) (v1 v2 : Value) (cs : List Cell) (h1 : w.ownsRow 0 5 1 v1 (cat cs).length (bcells (cat cs))) (h2 : w.ownsRow 0 511 2 v2 cs.length (spans 0 cs))
    (hd1 : ∀ k, v1.ownBlock = some k → ¬ fb k) (hd2 : ∀ k, v2.ownBlock = some k → ¬ fb k) (hsm : ∀ c ∈ cs, c.s.size ≤ 65536) (hm : (cat cs).length ≤ 2147483648) (hn : cs.length ≤ 2147483648) (hl : bs.length + (cs.flatMap strBytes).length ≤ 1099511627776) :
    Calls Tryz.prog 290 #[.agg #[v1, v2], .pointer (some ⟨b, 0, none⟩)] w fun e w' => e = .returned (.tuple #[]) ∧ Fr fb w w' ∧ ∃ fb', Buf w' b fb' (bs ++ cs.flatMap strBytes) ∧ Grow w fb fb' := by
  obtain ⟨a1, k1, rfl⟩ := ownsRow_shape h1
  obtain ⟨a2, k2, rfl⟩ := ownsRow_shape h2
  go_enter Tryz.func290, Tryz.ntmps290
  go_wp2
  generalize hW : (w.alloc _).alloc _ = W
  have hfW : Fr (fun _ => False) w W := by subst hW; exact ((Fr.refl _ w).alloc _).alloc _
  have hbox : W.heap[w.heap.size]? = some (.cells #[.slice a1 (cat cs).length k1, .slice a2 cs.length k2] 148 (0, 0)) := by subst hW; exact (Below.heap_alloc _ _ _ (by simp)).trans (heap_alloc_new w _)
  have hbuf : ∃ (cur : Array Value) (t : TypeId), W.heap[w.heap.size + 1]? = some (.cells cur t (0, 0)) ∧ cur.size = 10 := by subst hW; exact ⟨_, _, Fr.made (Fr.refl _ _) (by simp), rfl⟩
  have hWs : W.heap.size = w.heap.size + 2 := by subst hW; simp
  have hbW : Buf W b fb bs := ColAt.framed hb fun k hk => hfW.block k (ColAt.lt hb k hk) (fun h => h)
  have hflt : ∀ k, fb k → k < w.heap.size := ColAt.lt hb
  have h1W := hfW.owns h1 (fun _ _ h => h)
  have h2W := hfW.owns h2 (fun _ _ h => h)
  have hlt1 : ∀ k, (Value.slice a1 (cat cs).length k1).ownBlock = some k → k < w.heap.size := fun k hk => ownsRow_lt h1 hk
  have hlt2 : ∀ k, (Value.slice a2 cs.length k2).ownBlock = some k → k < w.heap.size := fun k hk => ownsRow_lt h2 hk
  clear hW hb h1 h2
  go_loopw [6, 7, 8, 12] (fun _ _ _ i wr => ∃ (k : Nat) (fbk : Nat → Prop), k ≤ cs.length ∧ i = .int .i64 k ∧ Buf wr b fbk (bs ++ (cs.take k).flatMap strBytes) ∧ Grow W fb fbk ∧ Fr (fun q => fb q ∨ q = w.heap.size + 1) W wr ∧
      ∃ (cur : Array Value) (t : TypeId), wr.heap[w.heap.size + 1]? = some (.cells cur t (0, 0)) ∧ cur.size = 10) (fun _ _ _ i _ => cs.length - (intOf i).toNat)
  case atStart => exact ⟨0, fb, Nat.zero_le _, rfl, by simpa using hbW, fun k hk => .inl hk, Fr.refl _ _, hbuf⟩
  case round =>
    obtain ⟨k, fbk, hk, rfl, hbk, hgk, hfrk, cur, tb, hbufk, hcur⟩ := hrel
    by_cases hlt : k < cs.length
    · have h1r := hfrk.owns h1W (fun q hq h => h.elim (hd1 q hq) (fun e => by have := hlt1 q hq; omega))
      have h2r := hfrk.owns h2W (fun q hq h => h.elim (hd2 q hq) (fun e => by have := hlt2 q hq; omega))
      rcases h2r.2 with ⟨hv, _⟩ | ⟨ga, capa, cura, hv, _⟩
      · simp only [Value.slice.injEq] at hv; omega
      · simp only [Value.slice.injEq] at hv
        obtain ⟨rfl, _, rfl⟩ := hv
        obtain ⟨hs0, hs1⟩ := spans_at cs 0 k hlt
        have hx0 := h2r.cells (g := ga) rfl _ _ hs0
        have hx1 := h2r.cells (g := ga) rfl _ _ hs1
        rw [Addr.add_lit, Nat.zero_add, Nat.zero_add] at hx0 hx1
        have hck := hsm cs[k] (List.getElem_mem _)
        have hstep := flatMap_step strBytes cs k hlt
        have hst : (cat (cs.take k)).length + cs[k].s.size ≤ (cat cs).length := by
          have hs : cs[k].s.data.toList.length = cs[k].s.size := Array.length_toList
          rw [cat_split cs k hlt, List.length_append, List.length_append, hs]
          omega
        have hdat : ∀ j u, (bcells cs[k].s.data.toList)[j]? = some u → (bcells (cat cs))[(cat (cs.take k)).length + j]? = some u := by
          intro j u hj
          rw [cat_split cs k hlt, bcells_append, List.getElem?_append_right (by rw [bcells_length]; omega), bcells_length, Nat.add_sub_cancel_left, bcells_append, List.getElem?_append_left (List.getElem?_eq_some_iff.1 hj).1]
          exact hj
        generalize cs[k] = cc at hx0 hx1 hck hstep hst hdat
        generalize (cat (cs.take k)).length = o at hx0 hx1 hst hdat
        have hu10 : (Lib.uvarint cc.s.size).length ≤ 10 := Lib.uvarint_length64 (by omega)
        have hU : Lib.uvarint cc.s.size = Lib.uvarint cc.s.size := rfl
        have hbA : (wr.alloc (.cells #[.int .i64 o, .int .i64 (o + cc.s.size)] 511)).heap[w.heap.size + 1]? = some (.cells cur tb (0, 0)) := (Below.heap_alloc _ _ _ (heap_lt hbufk)).trans hbufk
        have hput := Tryz.binary_PutUvarint (w.heap.size + 1) 0 10 10 cc.s.size (by omega) (wr.alloc (.cells #[.int .i64 o, .int .i64 (o + cc.s.size)] 511)) hu10 (fun j hj => ⟨by rw [cell_of_row _ _ _ _ _ _ hbA]; simp; omega, frozen_of_row _ _ _ _ _ hbA⟩)
        have hA : Fr (fun _ => False) wr (wr.alloc (.cells #[.int .i64 o, .int .i64 (o + cc.s.size)] 511)) := (Fr.refl _ wr).alloc _
        have hf1 : Fr (fun q => q = w.heap.size + 1) wr ((wr.alloc (.cells #[.int .i64 o, .int .i64 (o + cc.s.size)] 511)).setCells (w.heap.size + 1) 0 (Lib.byteCells (Lib.uvarint cc.s.size))) := Fr.setCells (S := fun q => q = w.heap.size + 1) (.inl rfl) _ _ _ (hA.mono (fun _ _ h => h.elim))
        have hr1 := heap_setCells (w.heap.size + 1) tb (Lib.byteCells (Lib.uvarint cc.s.size)) 0 _ cur hbA (by rw [Lib.byteCells_length]; omega)
        have p0 : ((wr.alloc (.cells #[.int .i64 o, .int .i64 (o + cc.s.size)] 511)).setCells (w.heap.size + 1) 0 (Lib.byteCells (Lib.uvarint cc.s.size))).cell? ⟨wr.heap.size, 0, none⟩ = some (.int .i64 o) := by
          rw [World.cell?_setCells_out _ _ _ _ _ (fun h => by have := hfrk.size; simp at h; omega), cell_new rfl]; rfl
        have p1 : ((wr.alloc (.cells #[.int .i64 o, .int .i64 (o + cc.s.size)] 511)).setCells (w.heap.size + 1) 0 (Lib.byteCells (Lib.uvarint cc.s.size))).cell? ⟨wr.heap.size, 1, none⟩ = some (.int .i64 (o + cc.s.size)) := by
          rw [World.cell?_setCells_out _ _ _ _ _ (fun h => by have := hfrk.size; simp at h; omega), cell_new rfl]; rfl
        have hsz1 : ((wr.alloc (.cells #[.int .i64 o, .int .i64 (o + cc.s.size)] 511)).setCells (w.heap.size + 1) 0 (Lib.byteCells (Lib.uvarint cc.s.size))).heap.size = wr.heap.size + 1 := by rw [setCells_size]; simp
        generalize hW1 : (wr.alloc (.cells #[.int .i64 o, .int .i64 (o + cc.s.size)] 511)).setCells (w.heap.size + 1) 0 (Lib.byteCells (Lib.uvarint cc.s.size)) = W1 at hput hf1 hr1 p0 p1 hsz1
        clear hW1 hbA hA hU
        have hsrcU : ∀ j u, (bcells (Lib.uvarint cc.s.size))[j]? = some u → W1.cell? ((⟨w.heap.size + 1, 0, none⟩ : Addr).add j) = some u := by
          intro j u hj
          rw [Addr.add_lit, Nat.zero_add, cell_of_row _ _ _ _ _ _ hr1, List.getElem?_toArray, List.take_zero, List.nil_append, show Lib.byteCells (Lib.uvarint cc.s.size) = bcells (Lib.uvarint cc.s.size) from rfl, List.getElem?_append_left (List.getElem?_eq_some_iff.1 hj).1]
          exact hj
        have hbk1 : Buf W1 b fbk (bs ++ (cs.take k).flatMap strBytes) := ColAt.framed hbk fun q hq => hf1.block q (ColAt.lt hbk q hq) (fun e => by
          have := hgk q hq
          rcases this with h | h
          · have := hflt q h; omega
          · omega)
        go_wp2_with (go_at_call 296; rw [show ((o : Int) + (cc.s.size : Int) - (o : Int)) = (cc.s.size : Int) by omega]; refine hput.mono ?_; rintro e w1 ⟨rfl, rfl⟩)
        have hulen : (bcells (Lib.uvarint cc.s.size)).length = (Lib.uvarint cc.s.size).length := bcells_length _
        generalize hU : Lib.uvarint cc.s.size = U at hu10 hsrcU hulen
        have hlenk : (bs ++ (cs.take k).flatMap strBytes).length + U.length + cc.s.size ≤ 1099511627776 := by
          have h3 := flatMap_take_le strBytes cs (k + 1)
          rw [hstep] at h3
          have hs : cc.s.data.toList.length = cc.s.size := Array.length_toList
          simp only [List.length_append, strBytes, hU, hs] at h3 ⊢
          omega
        generalize hL : bs ++ (cs.take k).flatMap strBytes = L at hbk1 hlenk
        obtain ⟨vb, hp, hob, hne, hfp⟩ := hbk1
        obtain ⟨hcell, hfz⟩ := ColAt.cell hp
        obtain ⟨a0, c0, rfl⟩ := ownsRow_shape hob
        have hpl := heap_lt hp
        have s1 : (0 : Int) ≤ (U.length : Int) := by omega
        have s2 : (U.length : Int) ≤ 10 := by omega
        go_region_law (refine step_of_wp _ rfl ?_; refine wp_append _ bufEl _ _ rfl _ _ _ rfl hob _ _ _ rfl (Src.ofSlice _ Tryz.underlying22 _ _ _ _ (by rw [hulen]; omega) hsrcU (bcells_one _)) ?_ ?_ ?_; (unfold maxLen; omega); omega; intro v' w2 ha; obtain ⟨a', c', rfl⟩ := ha.shape; have hc2 : w2.cell? ⟨b, 0, none⟩ = some (.slice a0 L.length c0) := ha.2.1.cell hcell (fun h => hne h.symm); have hf2 : w2.frozen? ⟨b, 0, none⟩ = false := (World.frozen?_of_block (ha.2.1.block b hpl (fun h => hne h.symm))).trans hfz)
        all_goals
          obtain ⟨⟨fb2, hcol2, hg2⟩, hfr2⟩ := ColAt.appended hp hob hne hfp ((Fr.refl _ w1).drew) ha
          generalize w2.setCell ⟨b, 0, none⟩ (Value.slice a' (L.length + U.length) c') = W3 at hcol2 hfr2 ⊢
          clear ha hc2 hf2
          have hnq : ∀ q, q < W.heap.size → w.heap.size ≤ q → ¬ fbk q := fun q h1 h2 h => by
            rcases hgk q h with h | h
            · have := hflt q h; omega
            · omega
          have q0 := hfr2.cell_some p0 (fun h => by have := ColAt.lt hbk _ h; simp at this)
          have q1 := hfr2.cell_some p1 (fun h => by have := ColAt.lt hbk _ h; simp at this)
          have hbox1 : w1.heap[w.heap.size]? = some (.cells #[.slice a1 (cat cs).length k1, .slice (some ⟨ga, 0, none⟩) cs.length k2] 148 (0, 0)) :=
            (hf1.block _ (by have := hfrk.size; omega) (by show ¬ w.heap.size = w.heap.size + 1; omega)).trans ((hfrk.block _ (by omega) (fun h => h.elim (fun h => by have := hflt _ h; omega) (fun h => by omega))).trans hbox)
          have hbox3 := (hfr2.block _ (heap_lt hbox1) (hnq _ (by omega) (Nat.le_refl _))).trans hbox1
          have q2 : W3.cell? ⟨w.heap.size, 0, none⟩ = some (.slice a1 (cat cs).length k1) := by rw [cell_of_row _ _ _ _ _ _ hbox3]; rfl
          have h1w1 := hf1.owns h1r (fun q hq h => by have := hlt1 q hq; omega)
          have h1W3 := hfr2.owns h1w1 (fun q hq h => by
            rcases hgk q h with h | h
            · exact hd1 q hq h
            · have := hlt1 q hq; omega)
          have hround : ∀ (W5 : World) (fb5 : Nat → Prop), ColAt W5 b 114 5 1 (L.length + U.length + cc.s.size) (bcells L ++ bcells U ++ bcells cc.s.data.toList) fb5 → Grow W3 fb2 fb5 → Fr fb2 W3 W5 →
              ∃ (k' : Nat) (fbk' : Nat → Prop), k' ≤ cs.length ∧ Value.int .i64 ((k : Int) + 1) = .int .i64 k' ∧ Buf W5 b fbk' (bs ++ (cs.take k').flatMap strBytes) ∧ Grow W fb fbk' ∧ Fr (fun q => fb q ∨ q = w.heap.size + 1) W W5 ∧
                ∃ (cur : Array Value) (t : TypeId), W5.heap[w.heap.size + 1]? = some (.cells cur t (0, 0)) ∧ cur.size = 10 := by
            intro W5 fb5 hc5 hg5 hf5
            have z1 := hfrk.size
            have z2 := hf1.size
            have z3 := hfr2.size
            have hs : cc.s.data.toList.length = cc.s.size := Array.length_toList
            have hlast : bs ++ (cs.take (k + 1)).flatMap strBytes = L ++ U ++ cc.s.data.toList := by rw [hstep, ← List.append_assoc, hL, strBytes, hU, List.append_assoc]
            have hk2 : ∀ q, q < w1.heap.size → fb2 q → fbk q := fun q hq h => (hg2 q h).resolve_right (by omega)
            have hkW : ∀ q, q < W.heap.size → fbk q → fb q := fun q hq h => (hgk q h).resolve_right (by omega)
            refine ⟨k + 1, fb5, by omega, by go_num, ?_, ?_, ?_, ?_⟩
            · rw [hlast]
              refine Buf.col.2 ?_
              rw [List.length_append, List.length_append, hs, bcells_append, bcells_append]
              exact hc5
            · intro q hq
              rcases hg5 q hq with h | h
              · rcases hg2 q h with h | h
                · exact hgk q h
                · exact .inr (by omega)
              · exact .inr (by omega)
            · refine ((hfrk.trans hf1 (fun _ _ h => .inr h)).trans hfr2 (fun q hq h => .inl (hkW q hq h))).trans hf5 (fun q hq h => .inl (hkW q hq (hk2 q (by omega) h)))
            · refine ⟨_, tb, (hf5.block _ (by omega) (fun h => ?_)).trans ((hfr2.block _ (by omega) (hnq _ (by omega) (by omega))).trans hr1), ?_⟩
              · exact hnq _ (by omega) (by omega) (hk2 _ (by omega) h)
              · simp [Lib.byteCells_length, hU, hcur]
                omega
          obtain ⟨v3, hp3, hob3, hne3, hfp3⟩ := hcol2
          obtain ⟨hcell3, hfz3⟩ := ColAt.cell hp3
          obtain ⟨a3, c3, rfl⟩ := ownsRow_shape hob3
          have hpl3 := heap_lt hp3
          have r0 : (0 : Int) ≤ (o : Int) := by omega
          have r1 : (o : Int) ≤ (o : Int) + (cc.s.size : Int) := by omega
          have r2 : (0 : Int) ≤ (o : Int) + (cc.s.size : Int) := by omega
          have r3 : ((o : Int) + (cc.s.size : Int)).toNat - o = cc.s.size := by omega
          have hcl : (bcells cc.s.data.toList).length = cc.s.size := by rw [bcells_length]; exact Array.length_toList
          go_wp2
          rcases h1W3.2 with ⟨hv1, hz⟩ | ⟨g1, cap1, cur1, hv1, _, _, hnc1, hcm1, _⟩
          · simp only [Value.slice.injEq] at hv1
            obtain ⟨rfl, hcz, rfl⟩ := hv1
            have hz0 : cc.s.size = 0 := by omega
            have ho0 : o = 0 := by omega
            have hdz : cc.s.data.toList = [] := List.eq_nil_of_length_eq_zero (by rw [Array.length_toList]; exact hz0)
            clear hcz hz
            go_region_law (refine step_of_wp _ rfl ?_; refine wp_append _ bufEl _ _ rfl _ _ _ rfl hob3 _ _ _ rfl (Src.ofNil _ Tryz.underlying22 0) ?_ ?_ ?_; (unfold maxLen; omega); omega; intro v4 w4 ha4; obtain ⟨a4, c4, rfl⟩ := ha4.shape; have hc4 : w4.cell? ⟨b, 0, none⟩ = some (.slice a3 (L.length + U.length) c3) := ha4.2.1.cell hcell3 (fun h => hne3 h.symm); have hf4 : w4.frozen? ⟨b, 0, none⟩ = false := (World.frozen?_of_block (ha4.2.1.block b hpl3 (fun h => hne3 h.symm))).trans hfz3)
            all_goals
              obtain ⟨⟨fb5, hcol5, hg5⟩, hfr5⟩ := ColAt.appended hp3 hob3 hne3 hfp3 ((Fr.refl _ W3).drew) ha4
              go_wp2
              go_roundw
              case rel => exact hround _ _ (by rw [hdz, hz0]; simpa [bcells] using hcol5) hg5 hfr5
              case measure => simp [intOf]; omega
          · simp only [Value.slice.injEq] at hv1
            obtain ⟨rfl, _, rfl⟩ := hv1
            unfold maxLen at hcm1
            have r4 : (o : Int) + (cc.s.size : Int) ≤ (k1 : Int) := by omega
            have hsrc3 : ∀ j u, (bcells cc.s.data.toList)[j]? = some u → W3.cell? ((⟨g1, o, none⟩ : Addr).add j) = some u := by
              intro j u hj
              have := h1W3.cells (g := g1) rfl _ _ (hdat j u hj)
              rw [Addr.add_lit, Nat.zero_add] at this
              rw [Addr.add_lit]
              exact this
            have hko : k1 = o → cc.s.size = 0 := by intro h; subst h; omega
            have hS3 : Src Tryz.prog 1 22 (.slice (if k1 = o then some ⟨g1, 0, none⟩ else some ⟨g1, o, none⟩) cc.s.size (k1 - o)) cc.s.size (bcells cc.s.data.toList) W3.drew := srcPart (w := W3.drew) Tryz.underlying22 hcl (fun j u hj => hsrc3 j u hj) hko _
            go_region_law (refine step_of_wp _ rfl ?_; refine wp_append _ bufEl _ _ rfl _ _ _ rfl hob3 _ _ _ rfl hS3 ?_ ?_ ?_; (unfold maxLen; omega); omega; intro v4 w4 ha4; obtain ⟨a4, c4, rfl⟩ := ha4.shape; have hc4 : w4.cell? ⟨b, 0, none⟩ = some (.slice a3 (L.length + U.length) c3) := ha4.2.1.cell hcell3 (fun h => hne3 h.symm); have hf4 : w4.frozen? ⟨b, 0, none⟩ = false := (World.frozen?_of_block (ha4.2.1.block b hpl3 (fun h => hne3 h.symm))).trans hfz3)
            all_goals
              obtain ⟨⟨fb5, hcol5, hg5⟩, hfr5⟩ := ColAt.appended hp3 hob3 hne3 hfp3 ((Fr.refl _ W3).drew) ha4
              go_wp2
              go_roundw
              case rel => exact hround _ _ hcol5 hg5 hfr5
              case measure => simp [intOf]; omega
    · have hke : k = cs.length := by omega
      subst hke
      rw [List.take_length] at hbk
      go_wp2
      go_end0
      have hf := (hfW.mono (S' := fb) (fun _ _ h => h.elim)).trans (hfrk.mono (S' := fun q => fb q ∨ q = w.heap.size + 1) (fun _ _ h => h)) (fun q hq h => h.elim (fun h => h) (fun h => by omega))
      exact ⟨rfl, hf, fbk, hbk, fun q hq => (hgk q hq).imp id (fun h => by omega)⟩
end Go.Proofs.YtcidlnjpabgioaaGreatDoor
