import Derived.Test.YtcidlnjpabgioaaGreatDoorQGCellG
import Derived.Test.YtcidlnjpabgioaaGreatDoorQGCellM
namespace Go.Proofs.YtcidlnjpabgioaaGreatDoor
open Go.RowKit
set_option maxRecDepth 100000 in
set_option maxHeartbeats 8000000 in
theorem cell_tup (d : Nat) (ts : List Ty) (h0 : ts ≠ []) (h4 : ts.length ≤ 4) (hT : ∀ t ∈ ts, CellOk d t) : CellOk (d + 1) (.tup ts) := by
 intro B w p vs S h hpw hl hS
 obtain ⟨T0, hT0⟩ : ∃ T0, ts[0]? = some T0 := by
  cases ts with
  | nil => exact absurd rfl h0
  | cons a l => exact ⟨a, rfl⟩
 obtain ⟨q, o, c, _, _, rfl, hnc, hcm, hSq, _⟩ := kid_at hl (i := 0) (t := T0) hT0
 unfold maxLen at hcm
 have hq := hS q hSq
 have hn1 : 0 < ts.length := List.length_pos_iff.2 h0
 have hnm : (bstr (Ty.tup ts).nm).toList = [84, 117, 112, 108, 101] := bstr_toList _
 have hBp := h.1
 have hk : ∀ j (hj : j < ts.length), ∃ (oa : Option Addr) (oc : Nat), LTS S w ts[j].lt [.string (bstr ts[j].nm), .int .i64 ts[j].sz, .slice oa ts[j].kids.length oc] ∧ w.cell? ⟨q, o + j * 3, none⟩ = some (.string (bstr ts[j].nm)) ∧ w.cell? ⟨q, o + j * 3 + 1, none⟩ = some (.int .i64 ts[j].sz) ∧ w.cell? ⟨q, o + j * 3 + 2, none⟩ = some (.slice oa ts[j].kids.length oc) := fun j hj => by
  obtain ⟨q', o', c', oa, oc, hv, _, _, _, ht, k0, k1, k2⟩ := kid_at hl (i := j) (t := ts[j]) (List.getElem?_eq_getElem hj)
  simp only [List.cons.injEq, Value.slice.injEq, Option.some.injEq, Addr.mk.injEq, true_and, and_true] at hv
  obtain ⟨⟨rfl, rfl⟩, rfl⟩ := hv
  exact ⟨oa, oc, ht, k0, k1, k2⟩
 show Calls _ _ #[_, .agg #[.string (bstr (Ty.tup ts).nm), .int .i64 0, .slice (some ⟨q, o, none⟩) ts.length c]] _ _
 have hnc : ts.length ≤ c := hnc
 generalize bstr (Ty.tup ts).nm = nm at hnm
 clear hl
 obtain ⟨n, hn⟩ : ∃ n, Hid (ts.length = n) := ⟨_, Lib.hid rfl⟩
 rw [hn.out] at hnc hn1 h4 ⊢
 go_enter Tryz.func9, Tryz.ntmps9
 go_upto_region 2 with fail
 have hW := Begun.of w #[.string nm, .int .i64 0, .slice (some ⟨q, o, none⟩) n c]
 unfold rowCells at hW
 generalize ((w.alloc _).alloc _).alloc _ = W at hW ⊢
 have hcW : CodeAt B W p := h.fr hW.fr (fun h => h) (fun _ _ h => h)
 have hbox0 : W.cell? ⟨w.heap.size, 0, none⟩ = some (.string nm) := by rw [cell_of_row _ _ _ _ _ _ hW.box]; rfl
 have hbox2 : W.cell? ⟨w.heap.size, 2, none⟩ = some (.slice (some ⟨q, o, none⟩) n c) := by rw [cell_of_row _ _ _ _ _ _ hW.box]; rfl
 go_wp2_with fail
 have hWs := hW.size
 have hrow1 : W.heap[w.heap.size + 1 + 1]? = some (.cells (mkCells (.slice none 0 0) (.slice none 0 0)) 35 (0, 0)) := hW.row
 have hW1 : Fr (fun k => k = p) w W := hW.fr.mono (fun _ _ h => h.elim)
 have hres1 := hW.res
 go_loopw [96] (fun i wr => ∃ (is : List Cell) (ixs : List Value) (iv : Value) (S' : Nat → Prop), i = .int .i64 is.length ∧ is.length ≤ n ∧ wr.heap[w.heap.size + 1 + 1]? = some (.cells (mkCells iv (.slice none 0 0)) 35 (0, 0)) ∧ Growing W.heap.size wr iv (.slice none 0 0) is [] ixs [] S' ∧ wts is ≤ is.length * (20 * 5 ^ d) ∧ CodeAt B wr p ∧ Fr (fun k => k = p ∨ k = w.heap.size + 1 + 1) W wr) (fun i _ => n - (intOf i).toNat)
 case atStart => exact ⟨[], [], .slice none 0 0, _, rfl, by simp, hrow1, Growing.nil _ _, by simp [wts], hcW, Fr.refl _ _⟩
 case round =>
  obtain ⟨is, ixs, iv, S', rfl, hk3, hrow, hgr, hwt, hcode, hfr⟩ := hrel
  have hfs := hfr.size
  have hX : w.heap.size + 1 + 1 < W.heap.size := by omega
  have hmk := Making.of hrow
  by_cases hkz : is.length < n
  · obtain ⟨va, vc, rfl⟩ := ownsRow_shape hgr.oi
    have hjl : is.length < ts.length := by rw [hn.out]; exact hkz
    obtain ⟨oa, oc, ht, k0, k1, k2⟩ := hk is.length hjl
    have hTk := hT ts[is.length] (List.getElem_mem _)
    generalize ts[is.length] = T at ht k0 k1 k2 hTk
    have hfw : Fr (fun k => k = p ∨ k = w.heap.size + 1 + 1) w wr := (hW1.mono (S' := fun k => k = p ∨ k = w.heap.size + 1 + 1) (fun _ _ h => .inl h)).trans hfr (fun _ _ h => h)
    have hqn : ¬ (q = p ∨ q = w.heap.size + 1 + 1) := by omega
    have m0 := hfw.cell_some k0 hqn
    have m1 := hfw.cell_some k1 hqn
    have m2 := hfw.cell_some k2 hqn
    obtain ⟨WA, hWA⟩ : ∃ WA, WA = wr.alloc (.cells #[.string (bstr T.nm), .int .i64 T.sz, .slice oa T.kids.length oc] 29) := ⟨_, rfl⟩
    have hfA : Fr (fun _ => False) wr WA := by rw [hWA]; exact (Fr.refl _ _).alloc _
    have hsA : WA.heap.size = wr.heap.size + 1 := by rw [hWA]; simp
    have hbA : WA.heap[wr.heap.size]? = some (.cells #[.string (bstr T.nm), .int .i64 T.sz, .slice oa T.kids.length oc] 29 (0, 0)) := by rw [hWA]; exact heap_alloc_new wr _
    have hrowA := (hfA.block _ (heap_lt hrow) (fun h => h)).trans hrow
    have hgrA := hgr.fr hfA (fun _ _ h => h)
    have hfrA := hfr.trans hfA (fun _ _ h => h.elim)
    have hlt : LTS S WA.drew T.lt [.string (bstr T.nm), .int .i64 T.sz, .slice oa T.kids.length oc] := LTS.to (hfw.trans hfA.drew (fun _ _ h => h.elim)) (fun x hx => ⟨hx, by have := hS x hx; show ¬ (x = p ∨ x = w.heap.size + 1 + 1); omega⟩) _ _ ht
    have hcd : CodeAt B WA.drew p := hcode.fr hfA.drew (fun h => h) (fun _ _ h => h)
    have hcall := hTk B WA.drew p _ S hcd (by show p < WA.heap.size; omega) hlt (fun x hx => ⟨(hS x hx).1, by have := (hS x hx).2; show x < WA.heap.size; omega⟩)
    have g6 := (Making.of hrowA).g6
    obtain ⟨b0, b1, b2, -, -, -⟩ := res3 hbA
    have hrowH := Lib.hid hrowA
    have hgrH := Lib.hid hgrA
    have hwtH := Lib.hid hwt
    generalize bstr T.nm = tnm at m0 hcall b0 hWA
    generalize ((T.sz : Nat) : Int) = tsz at m1 hcall b1 hWA
    generalize T.kids.length = tkl at m2 hcall b2 hWA
    clear hlt ht k0 k1 k2 hrow hgr hmk hT hTk hbox0 hrow1 hwt hk hbA hrowA hgrA hjl
    go_wp2_with fail
    rw [← hWA]
    clear hWA
    go_region_law (first
     | (go_simp; go_at_call 9; refine hcall.mono ?_; rintro e w3 ⟨c', xs', rfl, hc3, hok3, hco3, hf3⟩; have hf3' := hf3.of_drew; have hs3 := hf3'.size; have hrow3 := (hf3'.block _ (by omega) (by show ¬ w.heap.size + 1 + 1 = p; omega)).trans hrowH.out; obtain ⟨-, -, -, -, -, -, y6, -, -, -⟩ := Making.of hrow3; have ya6 := fun o' => (Making.of ((Below.heap_alloc w3 o' _ (heap_lt hrow3)).trans hrow3)).g6; obtain ⟨ja, jc, la, lc, rfl⟩ := hc3.eight)
     | (refine step_of_wp _ rfl ?_; refine wp_append _ cellEl' _ _ rfl _ _ _ rfl ((hgrH.out.fr hf3' (fun q hq => by show ¬ q = p; omega)).oi.alloc _) _ _ _ rfl (Src.ofSlice _ Tryz.underlying31 _ _ _ _ rfl (cells_new _ [.int .u64 c'.r0, .int .u64 c'.r1, .int .u64 c'.r2, .int .u64 c'.r3, .string c'.s, .bool c'.null, .slice ja c'.items.length jc, .slice la c'.keys.length lc] _) (by simp [Value.oneCell'])) ?_ ?_ ?_; (unfold maxLen; omega); omega; intro v' w4 ha; obtain ⟨a', b', rfl⟩ := ha.shape; have hrow4 := (ha.2.1.block _ (by have := heap_lt hrow3; simp; omega) (fun e => by have := hgrH.out.li _ e.symm; omega)).trans ((Below.heap_alloc w3 _ _ (heap_lt hrow3)).trans hrow3); obtain ⟨-, -, -, -, -, -, s6, -, z6, -⟩ := Making.of hrow4))
    all_goals
     obtain ⟨a1, ⟨S'', a2⟩, a3, a4⟩ := item_next (by omega) hX hBp hrowH.out hgrH.out hfrA hco3 hf3' hc3 ha
     go_wp2
     go_roundw
     case rel => exact ⟨is ++ [c'], _, .slice a' (is.length + 1) b', S'', by rw [List.length_append]; rfl, by simp; omega, a1, a2, by rw [wts_append, List.length_append, List.length_singleton, Nat.add_mul, Nat.one_mul]; have := hok3.wt; have := hwtH.out; simp only [wts]; omega, a3, a4⟩
     case measure => simp [intOf]; omega
  · have hkz' : is.length = n := by omega
    subst hkz'
    obtain ⟨va, vc, rfl⟩ := ownsRow_shape hgr.oi
    have hresr := (hfr.block _ (by omega) (by show ¬ (w.heap.size + 1 = p ∨ w.heap.size + 1 = w.heap.size + 1 + 1); omega)).trans hres1
    obtain ⟨g0, g1, g2, g3, g4, g5, g6, g7, -, -⟩ := hmk
    obtain ⟨r0, r1, r2, r3, r4, r5, r6, r7, z0, z1, z2, z3, z4, z5, z6, z7⟩ := ResAt.of (w := w) hresr
    clear hk hT
    go_wp2
    refine bodyPost_ret (by simp [results, Tryz.results9, go_sem, r0, r1, r2, r3, r4, r5, r6, r7]; try rfl) rfl ?_
    have hfA : Fr (fun k => k = p) w wr := hW1.trans hfr (fun x hx h => h.elim id (fun h => by omega))
    obtain ⟨e1, e2, e3⟩ := cell_done hcode hpw hfA (made_in hgr (S' := fun q => w.heap.size + 1 < q ∧ q < wr.heap.size) (fun q h1 h2 => ⟨by omega, h2⟩)) (.int .u64 0) (.int .u64 0) (.int .u64 0) (.int .u64 0) (.string ⟨#[]⟩) (.bool false) (.slice va is.length vc) (.slice none 0 0)
    refine ⟨_, _, rfl, e1, ⟨?_, fun us e => (by cases e; exact hn.out.symm), fun k v e => (by cases e), fun t e => (by cases e)⟩, e2, e3⟩
    have h5 : 1 ≤ 5 ^ d := Nat.one_le_pow _ _ (by decide)
    have hm : is.length * (20 * 5 ^ d) ≤ 4 * (20 * 5 ^ d) := Nat.mul_le_mul_right _ (by omega)
    have h0 : (⟨#[]⟩ : ByteArray).size = 0 := rfl
    rw [Cell.wt, h0, Nat.pow_succ]
    simp only [wts]
    omega
end Go.Proofs.YtcidlnjpabgioaaGreatDoor
namespace Go.Proofs.YtcidlnjpabgioaaGreatDoor
open Go.RowKit
theorem cell_all : ∀ (d : Nat) (T : Ty), Ok d T → CellOk d T
 | 0, _, h => (cell_zero h).ok 0 (zero_plain h).1 (zero_plain h).2.1 (zero_plain h).2.2
 | d + 1, T, h => by
  rcases h with h | ⟨t, rfl, h⟩ | ⟨k, v, rfl, hk, h⟩ | ⟨ts, rfl, h1, h2, h⟩
  · exact (cell_zero h).ok (d + 1) (zero_plain h).1 (zero_plain h).2.1 (zero_plain h).2.2
  · exact cell_arr d t (cell_all d t h)
  · exact cell_map d k v (cell_zero (hk.elim .inl (fun h => .inr (.inr h)))) (cell_all d v h)
  · exact cell_tup d ts h1 h2 fun t ht => cell_all d t (h t ht)
end Go.Proofs.YtcidlnjpabgioaaGreatDoor
