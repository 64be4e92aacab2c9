import Derived.Test.YtcidlnjpabgioaaGreatDoorQGCell
import Derived.Test.YtcidlnjpabgioaaGreatDoorQGCellZ
import Derived.Test.YtcidlnjpabgioaaGreatDoorQGCellG
import Derived.Test.YtcidlnjpabgioaaGreatDoorQGLeafK
import Derived.Test.YtcidlnjpabgioaaGreatDoorQGCellM
namespace Go.Proofs.YtcidlnjpabgioaaGreatDoor
open Go.RowKit
theorem three_cells {w : World} {q : Nat} {a b c : Value} {t : TypeId} (h : w.heap[q]? = some (.cells #[a, b, c] t (0, 0))) : w.cell? ⟨q, 0, none⟩ = some a ∧ w.cell? ⟨q, 1, none⟩ = some b ∧ w.cell? ⟨q, 2, none⟩ = some c := by
 obtain ⟨h0, h1, h2, -⟩ := res3 h
 exact ⟨h0, h1, h2⟩
set_option linter.unusedSimpArgs false in
set_option maxRecDepth 100000 in
set_option maxHeartbeats 8000000 in
theorem arrays_walk (w : World) (htab : Tabs w) (cv : Value) (cn : Nat) (hcode : CodeArg w.heap.size w cv cn) (m : Nat) (hm : m < 256) :
 Calls Tryz.prog 3 #[cv, .int .u8 m] w fun e w' => e = .returned (.bool true) ∧ Fr (fun _ => False) w w' := by
 have hca := law_code hcode
 obtain ⟨ca, cc, rfl, hcn, hcm, -, -⟩ := hcode
 unfold maxLen at hcm
 by_cases hbig : 2147483647 < cn
 · have hb' : (2147483647 : Int) < cn := by omega
   go_enter Tryz.func3, Tryz.ntmps3
   go_wp2
   go_ret
   exact ⟨rfl, Fr.refl _ _⟩
 · have hb' : ¬ (2147483647 : Int) < cn := by omega
   go_enter Tryz.func3, Tryz.ntmps3
   go_wp2_with (go_at_call 8; refine (typ_all 2 (by omega) w.heap.size _ w.heap.size hca (by simp)).mono ?_; rintro e w1 ⟨T, vs, hT, rfl, hlT, hc1, hf1⟩; obtain ⟨ta, tc, rfl⟩ := hlT.three)
   have hpS : w.heap.size < w1.heap.size := by have := hf1.size; simp at this; omega
   generalize hW1 : ((w1.alloc _).alloc _).alloc _ = W1
   have hfW1 : Fr (fun _ => False) w1 W1 := by subst hW1; exact (((Fr.refl _ w1).alloc _).alloc _).alloc _
   have r6 : W1.heap[w1.heap.size]? = some (.cells #[.string (bstr T.nm), .int .i64 T.sz, .slice ta T.kids.length tc] 29 (0, 0)) := by subst hW1; rw [Below.heap_alloc _ _ _ (by simp; omega), Below.heap_alloc _ _ _ (by simp)]; exact heap_alloc_new w1 _
   have rs : W1.heap[w1.heap.size + 1]? = some (.cells #[.string (bstr T.nm), .int .i64 T.sz, .slice ta T.kids.length tc] 29 (0, 0)) := by subst hW1; rw [Below.heap_alloc _ _ _ (by simp)]; exact cell_block_new (by simp)
   have r7 : W1.heap[w1.heap.size + 1 + 1]? = some (.cells #[.string ⟨#[65, 114, 114, 97, 121]⟩, .int .i64 0, .slice (some ⟨w1.heap.size + 1, 0, none⟩) 1 1] 29 (0, 0)) := by subst hW1; exact cell_block_new (by simp)
   have hsz : W1.heap.size = w1.heap.size + 3 := by subst hW1; simp
   have hcW : CodeAt w.heap.size W1 w.heap.size := hc1.fr hfW1 (fun h => h) (fun _ _ h => h)
   have hlW : LTS (fun q => w.heap.size < q ∧ q < W1.heap.size) W1 T.lt [.string (bstr T.nm), .int .i64 T.sz, .slice ta T.kids.length tc] := LTS.to hfW1 (fun q hq => ⟨⟨by have := hq.1; simp at this; omega, by have := hq.2; omega⟩, fun h => h⟩) _ _ hlT
   have hll : LTS (fun q => w.heap.size < q ∧ q < W1.heap.size) W1 (Ty.arr T).lt [.string (bstr (Ty.arr T).nm), .int .i64 (Ty.arr T).sz, .slice (some ⟨w1.heap.size + 1, 0, none⟩) 1 1] := lts_one (T := .arr T) (t := T) rfl rs ⟨by omega, by omega⟩ hlW
   have hm12 : (0 : Int) ≤ (m : Int) % 12 ∧ (m : Int) % 12 < 12 := by omega
   have hcT := cell_all 2 T hT
   have hcA := cell_all 3 (.arr T) (.inr (.inl ⟨T, rfl, hT⟩))
   clear hW1
   go_loopw [8, 9, 10] (fun rv vv i wr => ∃ (k : Nat) (σ τ : List Cell) (rxs ixs : List Value) (S : Nat → Prop), i = .int .i64 k ∧ Hid (τ = σ.flatMap Cell.items) ∧ σ.length + k ≤ 12 ∧ Growing W1.heap.size wr rv vv σ τ rxs ixs S ∧ wts σ ≤ σ.length * 3000 ∧ CodeAt w.heap.size wr w.heap.size ∧ Fr (fun q => q = w.heap.size) W1 wr) (fun _ _ i _ => (intOf i).toNat)
   case atStart => exact ⟨1 + m % 12, [], [], [], [], _, by go_num, Lib.hid rfl, by simp; omega, Growing.nil _ _, by simp [wts], hcW, Fr.refl _ _⟩
   case round =>
    obtain ⟨k, σ, τ, rxs, ixs, S, rfl, hτ, hk, hgr, hwt, hcode, hfr⟩ := hrel
    have hwr := hfr.size
    have r6' := (hfr.block _ (by omega) (by show ¬ w1.heap.size = w.heap.size; omega)).trans r6
    have r7' := (hfr.block _ (by omega) (by show ¬ w1.heap.size + 1 + 1 = w.heap.size; omega)).trans r7
    by_cases hkz : 0 < k
    · have hki : (0 : Int) < k := by omega
      have hiw : IntKind.i64.wrap ((k : Int) - 1) = (k : Int) - 1 := by rw [IntKind.wrap_i64]; omega
      obtain ⟨ra, rc, rfl⟩ := ownsRow_shape hgr.oi
      obtain ⟨va, vc, rfl⟩ := ownsRow_shape hgr.ok
      have hlr := LTS.to (S' := fun q => w.heap.size < q ∧ q < W1.heap.size) hfr (fun q hq => ⟨hq, by have := hq.1; show ¬ q = w.heap.size; omega⟩) _ _ hll
      have hcall := hcA w.heap.size wr w.heap.size _ _ hcode (by omega) hlr (fun q hq => ⟨by have := hq.1; omega, by have := hq.2; omega⟩)
      obtain ⟨b0, b1, b2⟩ := three_cells r7'
      by_cases hσ : σ = []
      · subst hσ
        obtain rfl : τ = [] := hτ.out
        have hgr0 : Growing W1.heap.size wr (.slice ra 0 rc) (.slice va 0 vc) [] [] rxs ixs S := hgr
        clear hgr
        have hgr := hgr0
        clear hgr0
        simp only [List.length_nil] at hk hwt
        go_wp2_with (go_at_call 9; refine hcall.mono ?_; rintro e w2 ⟨x, xs, rfl, hx, hxo, hc2, hf2⟩; obtain ⟨ia, ic, ka, kc, rfl⟩ := hx.eight)
        · rename_i hz
          have hxi : x.items = [] := by simpa using hz
          have he : Value.slice ia x.items.length ic = .slice none 0 0 := by
           have := hxo.arr T rfl hxi
           simpa using this
          rw [he] at hx ⊢
          clear hz he
          have hs2 := hf2.size
          generalize hwx : w2.alloc _ = wx
          have hfx : Fr (fun _ => False) w2 wx := by rw [← hwx]; exact (Fr.refl _ _).alloc _
          have hrx : wx.heap[w2.heap.size]? = some (.cells #[.int .u64 x.r0, .int .u64 x.r1, .int .u64 x.r2, .int .u64 x.r3, .string x.s, .bool x.null, .slice none 0 0, .slice ka x.keys.length kc] 35 (0, 0)) := by rw [← hwx]; exact heap_alloc_new w2 _
          have hsx : wx.heap.size = w2.heap.size + 1 := by rw [← hwx]; simp
          have hyx := CellS.to (S' := New wr w2) hfx (fun q hq => ⟨hq, fun h => h⟩) _ _ hx
          have hfwx : Fr (fun q => q = w.heap.size) wr wx := hf2.trans hfx (fun _ _ h => h.elim)
          have hgx := hgr.fr hfwx (fun q hq => by show ¬ q = w.heap.size; omega)
          have hcx := hc2.fr hfx (fun h => h) (fun _ _ h => h)
          have hwxs := hfwx.size
          have hxb12 := CellsAt.eight (CellsAt.of_block hrx)
          obtain ⟨d0, d1, d2⟩ := three_cells r6'
          have e0 := hfwx.cell_some d0 (by show ¬ w1.heap.size = w.heap.size; omega)
          have e1 := hfwx.cell_some d1 (by show ¬ w1.heap.size = w.heap.size; omega)
          have e2 := hfwx.cell_some d2 (by show ¬ w1.heap.size = w.heap.size; omega)
          have hltT : LTS (fun q => w.heap.size < q ∧ q < W1.heap.size) wx.drew T.lt [.string (bstr T.nm), .int .i64 T.sz, .slice ta T.kids.length tc] := LTS.to (hfr.trans hfwx (fun _ _ h => h)).drew (fun q hq => ⟨hq, by have := hq.1; show ¬ q = w.heap.size; omega⟩) _ _ hlW
          have hcd : CodeAt w.heap.size wx.drew w.heap.size := hcx.fr ((Fr.refl (fun _ => False) wx).drew) (fun h => h) (fun _ _ h => h)
          have hcall2 := hcT w.heap.size wx.drew w.heap.size _ _ hcd (by show w.heap.size < wx.heap.size; omega) hltT (fun q hq => ⟨by have := hq.1; omega, by have := hq.2; show q < wx.heap.size; omega⟩)
          obtain ⟨t0, t1, t2, t3, t4, t5, t6, t7⟩ := hxb12
          have hrxH := Lib.hid hrx
          have hgrH := Lib.hid hgr
          have hwtH := Lib.hid hwt
          have hsxH := Lib.hid hsx
          have hxH := Lib.hid hx
          have hxoH := Lib.hid hxo
          clear hltT d0 d1 d2 b0 b1 b2 hrx hgr hwt hsx hx hxo hyx hgx hwx hcall hlr hcA hcT hll hlW hcd
          go_wp2_with fail
          go_region_law (first
           | (go_simp; go_at_call 9; refine hcall2.mono ?_; rintro e w3 ⟨c', xs', rfl, hc3, hok3, hco3, hf3⟩; have hf3' := hf3.of_drew; have hs3 := hf3'.size; have hrow3 := (hf3'.block _ (by have := hsxH.out; omega) (by show ¬ w2.heap.size = w.heap.size; omega)).trans hrxH.out; have y6 := (CellsAt.eight (CellsAt.of_block hrow3)).2.2.2.2.2.2.1; have ya6 := fun o' => (CellsAt.eight (CellsAt.of_block ((Below.heap_alloc w3 o' _ (heap_lt hrow3)).trans hrow3))).2.2.2.2.2.2.1; obtain ⟨ja, jc, la, lc, rfl⟩ := hc3.eight)
           | (refine step_of_wp _ rfl ?_; refine wp_append _ cellEl' _ _ rfl (.slice none 0 0) 0 [] rfl (World.ownsRow_nil _ _ _ _) _ _ _ rfl (Src.ofSlice _ Tryz.underlying31 _ _ _ _ rfl (cells_new _ [.int .u64 c'.r0, .int .u64 c'.r1, .int .u64 c'.r2, .int .u64 c'.r3, .string c'.s, .bool c'.null, .slice ja c'.items.length jc, .slice la c'.keys.length lc] _) (by simp [Value.oneCell'])) ?_ ?_ ?_; (unfold maxLen; omega); omega; intro v' w4 ha; obtain ⟨a', b', rfl⟩ := ha.shape; have hrow4 := ((Fr.of_grown ha.2.1).block _ (by have := heap_lt hrow3; simp; omega) (by simp [Value.ownBlock])).trans ((Below.heap_alloc w3 _ _ (heap_lt hrow3)).trans hrow3); have s6 := (CellsAt.eight (CellsAt.of_block hrow4)).2.2.2.2.2.2.1; have z6 := frozen_of_row _ _ 6 _ _ hrow4))
          all_goals
           have hA0 := AtR.first (v' := .slice a' 1 b') (by omega) (Nat.le_refl _) hfr hf2 hgrH.out hxH.out hfx hsxH.out hrxH.out hf3' hco3 hc3 ha
           have hok3w := hok3.wt
           have hwz := ((Fr.refl (fun _ => True) w4).setCell (p := ⟨w2.heap.size, 6, none⟩) (.inl trivial) (.slice a' 1 b')).size
           have hs4 := (Fr.of_grown ha.2.1).size
           clear ha hrow4 s6 z6 hrow3 y6 ya6 t0 t1 t2 t3 t4 t5 t6 t7 e0 e1 e2 hcall2 hc3 hok3 hf3 hf3' hco3
           generalize w4.setCell ⟨w2.heap.size, 6, none⟩ (.slice a' 1 b') = wz at hA0 hwz ⊢
           obtain ⟨t0, t1, t2, t3, t4, t5, t6, t7⟩ := CellsAt.eight (CellsAt.of_block hA0.xb)
           have hA0H := Lib.hid hA0
           have hxb : ([c'] : List Cell).length ≤ 1 := Nat.le_refl _
           have hsb : ([] : List Cell).length ≤ 12 := by decide
           clear hA0
           go_wp2_with fail
           go_region_held3 (fun w' => w'.cell? ⟨w2.heap.size, 0, none⟩ = some (.int .u64 x.r0) ∧ w'.cell? ⟨w2.heap.size, 1, none⟩ = some (.int .u64 x.r1) ∧ w'.cell? ⟨w2.heap.size, 2, none⟩ = some (.int .u64 x.r2) ∧ w'.cell? ⟨w2.heap.size, 3, none⟩ = some (.int .u64 x.r3) ∧ w'.cell? ⟨w2.heap.size, 4, none⟩ = some (.string x.s) ∧ w'.cell? ⟨w2.heap.size, 5, none⟩ = some (.bool x.null) ∧ w'.cell? ⟨w2.heap.size, 6, none⟩ = some (.slice a' 1 b') ∧ w'.cell? ⟨w2.heap.size, 7, none⟩ = some (.slice ka x.keys.length kc))
            (first | exact CellsAt.eight (CellsAt.of_block (AtR.xb (hA0H.out))) | exact CellsAt.eight (CellsAt.of_block (AtR.xb ((hA0H.out).alloc _))) | exact CellsAt.eight (CellsAt.of_block (AtR.xb ((hA0H.out).drew))) | exact CellsAt.eight (CellsAt.of_block (AtR.xb (((hA0H.out).alloc _).drew))) | exact CellsAt.eight (CellsAt.of_block (AtR.xb (((hA0H.out).drew).alloc _))) | exact CellsAt.eight (CellsAt.of_block (AtR.xb (hA4))) | exact CellsAt.eight (CellsAt.of_block (AtR.xb ((hA4).alloc _))) | exact CellsAt.eight (CellsAt.of_block (AtR.xb ((hA4).drew))) | exact CellsAt.eight (CellsAt.of_block (AtR.xb (((hA4).alloc _).drew))) | exact CellsAt.eight (CellsAt.of_block (AtR.xb (((hA4).drew).alloc _))) | exact CellsAt.eight (CellsAt.of_block (AtR.xb (hA5))) | exact CellsAt.eight (CellsAt.of_block (AtR.xb ((hA5).alloc _))) | exact CellsAt.eight (CellsAt.of_block (AtR.xb ((hA5).drew))) | exact CellsAt.eight (CellsAt.of_block (AtR.xb (((hA5).alloc _).drew))) | exact CellsAt.eight (CellsAt.of_block (AtR.xb (((hA5).drew).alloc _))))
            (first
            | (refine step_of_wp _ rfl ?_; refine wp_append _ cellEl' _ _ rfl _ _ _ rfl (AtR.gr (by first | exact hA0H.out | exact (hA0H.out).alloc _ | exact (hA0H.out).drew | exact ((hA0H.out).alloc _).drew | exact ((hA0H.out).drew).alloc _ | exact hA4 | exact (hA4).alloc _ | exact (hA4).drew | exact ((hA4).alloc _).drew | exact ((hA4).drew).alloc _ | exact hA5 | exact (hA5).alloc _ | exact (hA5).drew | exact ((hA5).alloc _).drew | exact ((hA5).drew).alloc _)).oi _ _ _ rfl (Src.ofSlice _ Tryz.underlying31 _ _ _ [.int .u64 x.r0, .int .u64 x.r1, .int .u64 x.r2, .int .u64 x.r3, .string x.s, .bool x.null, .slice a' 1 b', .slice ka x.keys.length kc] rfl (by first | exact cells_new _ [.int .u64 x.r0, .int .u64 x.r1, .int .u64 x.r2, .int .u64 x.r3, .string x.s, .bool x.null, .slice a' 1 b', .slice ka x.keys.length kc] _ | exact CellsAt.drew (CellsAt.new [.int .u64 x.r0, .int .u64 x.r1, .int .u64 x.r2, .int .u64 x.r3, .string x.s, .bool x.null, .slice a' 1 b', .slice ka x.keys.length kc] _ rfl) | exact hb5) (by simp [Value.oneCell'])) ?_ ?_ ?_; (unfold maxLen; omega); omega; intro v4 w4 ha4; obtain ⟨a4, b4, rfl⟩ := ha4.shape; have hA4 := AtR.pushR (by first | exact hA0H.out | exact (hA0H.out).alloc _ | exact (hA0H.out).drew | exact ((hA0H.out).alloc _).drew | exact ((hA0H.out).drew).alloc _ | exact hA4 | exact (hA4).alloc _ | exact (hA4).drew | exact ((hA4).alloc _).drew | exact ((hA4).drew).alloc _ | exact hA5 | exact (hA5).alloc _ | exact (hA5).drew | exact ((hA5).alloc _).drew | exact ((hA5).drew).alloc _) ha4)
            | (refine step_of_wp _ rfl ?_; refine wp_append _ cellEl' _ _ rfl _ _ _ rfl (AtR.gr (by first | exact hA0H.out | exact (hA0H.out).alloc _ | exact (hA0H.out).drew | exact ((hA0H.out).alloc _).drew | exact ((hA0H.out).drew).alloc _ | exact hA4 | exact (hA4).alloc _ | exact (hA4).drew | exact ((hA4).alloc _).drew | exact ((hA4).drew).alloc _ | exact hA5 | exact (hA5).alloc _ | exact (hA5).drew | exact ((hA5).alloc _).drew | exact ((hA5).drew).alloc _)).ok _ _ _ rfl (Src.ofSlS Tryz.underlying31 (AtR.sl (by first | exact hA0H.out | exact (hA0H.out).alloc _ | exact (hA0H.out).drew | exact ((hA0H.out).alloc _).drew | exact ((hA0H.out).drew).alloc _ | exact hA4 | exact (hA4).alloc _ | exact (hA4).drew | exact ((hA4).alloc _).drew | exact ((hA4).drew).alloc _ | exact hA5 | exact (hA5).alloc _ | exact (hA5).drew | exact ((hA5).alloc _).drew | exact ((hA5).drew).alloc _)) (AtR.sc (by first | exact hA0H.out | exact (hA0H.out).alloc _ | exact (hA0H.out).drew | exact ((hA0H.out).alloc _).drew | exact ((hA0H.out).drew).alloc _ | exact hA4 | exact (hA4).alloc _ | exact (hA4).drew | exact ((hA4).alloc _).drew | exact ((hA4).drew).alloc _ | exact hA5 | exact (hA5).alloc _ | exact (hA5).drew | exact ((hA5).alloc _).drew | exact ((hA5).drew).alloc _)).ones) ?_ ?_ ?_; (unfold maxLen; omega); omega; intro v5 w5 ha5; obtain ⟨a5, b5, rfl⟩ := ha5.shape; have hA5 := AtR.pushV (by first | exact hA0H.out | exact (hA0H.out).alloc _ | exact (hA0H.out).drew | exact ((hA0H.out).alloc _).drew | exact ((hA0H.out).drew).alloc _ | exact hA4 | exact (hA4).alloc _ | exact (hA4).drew | exact ((hA4).alloc _).drew | exact ((hA4).drew).alloc _ | exact hA5 | exact (hA5).alloc _ | exact (hA5).drew | exact ((hA5).alloc _).drew | exact ((hA5).drew).alloc _) ha5))
           all_goals
            go_wp2
            go_roundw
            case rel =>
             have hτ2 : Hid ([c'] = [(Cell.mk x.r0 x.r1 x.r2 x.r3 x.s x.null [c'] x.keys)].flatMap Cell.items) := Lib.hid (by simp [Cell.items])
             have hw2 : wts [(Cell.mk x.r0 x.r1 x.r2 x.r3 x.s x.null [c'] x.keys)] ≤ [(Cell.mk x.r0 x.r1 x.r2 x.r3 x.s x.null [c'] x.keys)].length * 3000 := by
              rw [List.length_singleton, Nat.one_mul]
              have : 20 * 5 ^ 3 = 2500 := rfl
              simp only [wts]
              have h52 : 20 * 5 ^ 2 = 500 := rfl
              have hxw := hxoH.out.wt
              have hxe := Cell.wt_eq x
              simp only [Cell.wt, wts]
              omega
             first
              | (have hg5 := hA5.gr; simp only [List.length_nil, List.length_singleton, Nat.zero_add, List.nil_append] at hg5; exact ⟨k - 1, [(Cell.mk x.r0 x.r1 x.r2 x.r3 x.s x.null [c'] x.keys)], [c'], _, _, _, by rw [Int.natCast_sub hkz]; rfl, hτ2, by simp; omega, hg5, hw2, hA5.co, hA5.done⟩)
              | (have hg4 := hA4.gr; simp only [List.length_nil, List.length_singleton, Nat.zero_add, List.nil_append] at hg4; exact ⟨k - 1, [(Cell.mk x.r0 x.r1 x.r2 x.r3 x.s x.null [c'] x.keys)], [c'], _, _, _, by rw [Int.natCast_sub hkz]; rfl, hτ2, by simp; omega, hg4, hw2, hA4.co, hA4.done⟩)
            case measure => simp [intOf]; omega
        · have hs2 := hf2.size
          generalize hwx : w2.alloc _ = wx
          have hfx : Fr (fun _ => False) w2 wx := by rw [← hwx]; exact (Fr.refl _ _).alloc _
          have hrx : wx.heap[w2.heap.size]? = some (.cells #[.int .u64 x.r0, .int .u64 x.r1, .int .u64 x.r2, .int .u64 x.r3, .string x.s, .bool x.null, .slice ia x.items.length ic, .slice ka x.keys.length kc] 35 (0, 0)) := by rw [← hwx]; exact heap_alloc_new w2 _
          have hsx : wx.heap.size = w2.heap.size + 1 := by rw [← hwx]; simp
          have hyx := CellS.to (S' := New wr w2) hfx (fun q hq => ⟨hq, fun h => h⟩) _ _ hx
          have hfwx : Fr (fun q => q = w.heap.size) wr wx := hf2.trans hfx (fun _ _ h => h.elim)
          have hgx := hgr.fr hfwx (fun q hq => by show ¬ q = w.heap.size; omega)
          have hcx := hc2.fr hfx (fun h => h) (fun _ _ h => h)
          obtain ⟨dxs, hdl, hdc⟩ : ∃ dxs, SlS (New wr w2) wx 8 (.slice ia x.items.length ic) x.items.length dxs ∧ CellsS (New wr w2) wx x.items dxs := by
           obtain ⟨ia', ic', ka', kc', dxs, _, he, h1, h2, _⟩ := hyx.full
           simp only [List.cons.injEq, Value.slice.injEq, true_and, and_true] at he
           obtain ⟨⟨rfl, rfl⟩, -⟩ := he
           exact ⟨dxs, h1, h2⟩
          have hA0 : AtR W1.heap.size w.heap.size w.heap.size w2.heap.size [.int .u64 x.r0, .int .u64 x.r1, .int .u64 x.r2, .int .u64 x.r3, .string x.s, .bool x.null, .slice ia x.items.length ic, .slice ka x.keys.length kc] W1 x x.items (.slice ia x.items.length ic) dxs wx (.slice ra 0 rc) (.slice va 0 vc) ([] : List Cell) ([] : List Cell) rxs ixs (fun q => S q ∨ New wr w2 q) :=
           { gr := { hgx with
              ci := hgx.ci.mono fun _ => .inl
              ck := hgx.ck.mono fun _ => .inl
              hS := fun q hq => hq.elim (hgx.hS q) fun hq => ⟨by have := hq.1; omega, by have := hq.2; omega, fun e => by have := ownsRow_lt hgr.oi e; have := hq.1; omega, fun e => by have := ownsRow_lt hgr.ok e; have := hq.1; omega⟩ }
             xb := hrx
             xi := hyx.mono fun _ => .inr
             sl := hdl.to (Fr.refl (fun _ => False) wx) fun _ hq => ⟨.inr hq, fun h => h⟩
             sc := hdc.mono fun _ => .inr
             Xl := by omega
             Xr := fun e => by have := ownsRow_lt hgr.oi e; omega
             Xv := fun e => by have := ownsRow_lt hgr.ok e; omega
             co := hcx, pl := by omega, Bp := Nat.le_refl _, lw := rfl
             frm := (hfr.trans hfwx (fun _ _ h => h)).mono fun _ _ h => .inl h }
          have hA0H := Lib.hid hA0
          have hsb : ([] : List Cell).length ≤ 12 := by decide
          have hiw2 := items_wts ([] : List Cell)
          have hil := length_le_wts (([] : List Cell).flatMap Cell.items)
          rw [← hτ.out] at hil hiw2
          have hxw := hxo.wt
          have hxe := Cell.wt_eq x
          have hxl := length_le_wts x.items
          have hib : ([] : List Cell).length ≤ 100000 := by omega
          have hxb : x.items.length ≤ 100000 := by
           have : 20 * 5 ^ 3 = 2500 := rfl
           omega
          obtain ⟨t0, t1, t2, t3, t4, t5, t6, t7⟩ := CellsAt.eight (CellsAt.of_block hrx)
          have hsxH := Lib.hid hsx
          clear hwx hA0 hiw2 hil hxe hxl hrx hgx hsx
          go_region_held3 (fun w' => w'.cell? ⟨w2.heap.size, 0, none⟩ = some (.int .u64 x.r0) ∧ w'.cell? ⟨w2.heap.size, 1, none⟩ = some (.int .u64 x.r1) ∧ w'.cell? ⟨w2.heap.size, 2, none⟩ = some (.int .u64 x.r2) ∧ w'.cell? ⟨w2.heap.size, 3, none⟩ = some (.int .u64 x.r3) ∧ w'.cell? ⟨w2.heap.size, 4, none⟩ = some (.string x.s) ∧ w'.cell? ⟨w2.heap.size, 5, none⟩ = some (.bool x.null) ∧ w'.cell? ⟨w2.heap.size, 6, none⟩ = some (.slice ia x.items.length ic) ∧ w'.cell? ⟨w2.heap.size, 7, none⟩ = some (.slice ka x.keys.length kc))
           (first | exact CellsAt.eight (CellsAt.of_block (AtR.xb (hA0H.out))) | exact CellsAt.eight (CellsAt.of_block (AtR.xb ((hA0H.out).alloc _))) | exact CellsAt.eight (CellsAt.of_block (AtR.xb ((hA0H.out).drew))) | exact CellsAt.eight (CellsAt.of_block (AtR.xb (((hA0H.out).alloc _).drew))) | exact CellsAt.eight (CellsAt.of_block (AtR.xb (((hA0H.out).drew).alloc _))) | exact CellsAt.eight (CellsAt.of_block (AtR.xb (hA4))) | exact CellsAt.eight (CellsAt.of_block (AtR.xb ((hA4).alloc _))) | exact CellsAt.eight (CellsAt.of_block (AtR.xb ((hA4).drew))) | exact CellsAt.eight (CellsAt.of_block (AtR.xb (((hA4).alloc _).drew))) | exact CellsAt.eight (CellsAt.of_block (AtR.xb (((hA4).drew).alloc _))) | exact CellsAt.eight (CellsAt.of_block (AtR.xb (hA5))) | exact CellsAt.eight (CellsAt.of_block (AtR.xb ((hA5).alloc _))) | exact CellsAt.eight (CellsAt.of_block (AtR.xb ((hA5).drew))) | exact CellsAt.eight (CellsAt.of_block (AtR.xb (((hA5).alloc _).drew))) | exact CellsAt.eight (CellsAt.of_block (AtR.xb (((hA5).drew).alloc _))))
           (first
           | (refine step_of_wp _ rfl ?_; refine wp_append _ cellEl' _ _ rfl _ _ _ rfl (AtR.gr (by first | exact hA0H.out | exact (hA0H.out).alloc _ | exact (hA0H.out).drew | exact ((hA0H.out).alloc _).drew | exact ((hA0H.out).drew).alloc _ | exact hA4 | exact (hA4).alloc _ | exact (hA4).drew | exact ((hA4).alloc _).drew | exact ((hA4).drew).alloc _ | exact hA5 | exact (hA5).alloc _ | exact (hA5).drew | exact ((hA5).alloc _).drew | exact ((hA5).drew).alloc _)).oi _ _ _ rfl (Src.ofSlice _ Tryz.underlying31 _ _ _ [.int .u64 x.r0, .int .u64 x.r1, .int .u64 x.r2, .int .u64 x.r3, .string x.s, .bool x.null, .slice ia x.items.length ic, .slice ka x.keys.length kc] rfl (by first | exact cells_new _ [.int .u64 x.r0, .int .u64 x.r1, .int .u64 x.r2, .int .u64 x.r3, .string x.s, .bool x.null, .slice ia x.items.length ic, .slice ka x.keys.length kc] _ | exact CellsAt.drew (CellsAt.new [.int .u64 x.r0, .int .u64 x.r1, .int .u64 x.r2, .int .u64 x.r3, .string x.s, .bool x.null, .slice ia x.items.length ic, .slice ka x.keys.length kc] _ rfl) | exact hb5) (by simp [Value.oneCell'])) ?_ ?_ ?_; (unfold maxLen; omega); omega; intro v4 w4 ha4; obtain ⟨a4, b4, rfl⟩ := ha4.shape; have hA4 := AtR.pushR (by first | exact hA0H.out | exact (hA0H.out).alloc _ | exact (hA0H.out).drew | exact ((hA0H.out).alloc _).drew | exact ((hA0H.out).drew).alloc _ | exact hA4 | exact (hA4).alloc _ | exact (hA4).drew | exact ((hA4).alloc _).drew | exact ((hA4).drew).alloc _ | exact hA5 | exact (hA5).alloc _ | exact (hA5).drew | exact ((hA5).alloc _).drew | exact ((hA5).drew).alloc _) ha4)
           | (refine step_of_wp _ rfl ?_; refine wp_append _ cellEl' _ _ rfl _ _ _ rfl (AtR.gr (by first | exact hA0H.out | exact (hA0H.out).alloc _ | exact (hA0H.out).drew | exact ((hA0H.out).alloc _).drew | exact ((hA0H.out).drew).alloc _ | exact hA4 | exact (hA4).alloc _ | exact (hA4).drew | exact ((hA4).alloc _).drew | exact ((hA4).drew).alloc _ | exact hA5 | exact (hA5).alloc _ | exact (hA5).drew | exact ((hA5).alloc _).drew | exact ((hA5).drew).alloc _)).ok _ _ _ rfl (Src.ofSlS Tryz.underlying31 (AtR.sl (by first | exact hA0H.out | exact (hA0H.out).alloc _ | exact (hA0H.out).drew | exact ((hA0H.out).alloc _).drew | exact ((hA0H.out).drew).alloc _ | exact hA4 | exact (hA4).alloc _ | exact (hA4).drew | exact ((hA4).alloc _).drew | exact ((hA4).drew).alloc _ | exact hA5 | exact (hA5).alloc _ | exact (hA5).drew | exact ((hA5).alloc _).drew | exact ((hA5).drew).alloc _)) (AtR.sc (by first | exact hA0H.out | exact (hA0H.out).alloc _ | exact (hA0H.out).drew | exact ((hA0H.out).alloc _).drew | exact ((hA0H.out).drew).alloc _ | exact hA4 | exact (hA4).alloc _ | exact (hA4).drew | exact ((hA4).alloc _).drew | exact ((hA4).drew).alloc _ | exact hA5 | exact (hA5).alloc _ | exact (hA5).drew | exact ((hA5).alloc _).drew | exact ((hA5).drew).alloc _)).ones) ?_ ?_ ?_; (unfold maxLen; omega); omega; intro v5 w5 ha5; obtain ⟨a5, b5, rfl⟩ := ha5.shape; have hA5 := AtR.pushV (by first | exact hA0H.out | exact (hA0H.out).alloc _ | exact (hA0H.out).drew | exact ((hA0H.out).alloc _).drew | exact ((hA0H.out).drew).alloc _ | exact hA4 | exact (hA4).alloc _ | exact (hA4).drew | exact ((hA4).alloc _).drew | exact ((hA4).drew).alloc _ | exact hA5 | exact (hA5).alloc _ | exact (hA5).drew | exact ((hA5).alloc _).drew | exact ((hA5).drew).alloc _) ha5))
          all_goals
           go_wp2
           go_roundw
           case rel =>
            have hτ2 : Hid (x.items = [x].flatMap Cell.items) := Lib.hid (by simp [Cell.items])
            have hw2 : wts [x] ≤ [x].length * 3000 := by
             rw [List.length_singleton, Nat.one_mul]
             have : 20 * 5 ^ 3 = 2500 := rfl
             simp only [wts]
             omega
            first
             | (have hg5 := hA5.gr; simp only [List.length_nil, List.length_singleton, Nat.zero_add, List.nil_append] at hg5; exact ⟨k - 1, [x], x.items, _, _, _, by rw [Int.natCast_sub hkz]; rfl, hτ2, by simp; omega, hg5, hw2, hA5.co, hA5.done⟩)
             | (have hg4 := hA4.gr; simp only [List.length_nil, List.length_singleton, Nat.zero_add, List.nil_append] at hg4; exact ⟨k - 1, [x], x.items, _, _, _, by rw [Int.natCast_sub hkz]; rfl, hτ2, by simp; omega, hg4, hw2, hA4.co, hA4.done⟩)
           case measure => simp [intOf]; omega
      have hσl : ¬ (σ.length : Int) = 0 := by simpa using hσ
      go_wp2_with (go_at_call 9; refine hcall.mono ?_; rintro e w2 ⟨x, xs, rfl, hx, hxo, hc2, hf2⟩; obtain ⟨ia, ic, ka, kc, rfl⟩ := hx.eight)
      all_goals
       have hs2 := hf2.size
       generalize hwx : w2.alloc _ = wx
       have hfx : Fr (fun _ => False) w2 wx := by rw [← hwx]; exact (Fr.refl _ _).alloc _
       have hrx : wx.heap[w2.heap.size]? = some (.cells #[.int .u64 x.r0, .int .u64 x.r1, .int .u64 x.r2, .int .u64 x.r3, .string x.s, .bool x.null, .slice ia x.items.length ic, .slice ka x.keys.length kc] 35 (0, 0)) := by rw [← hwx]; exact heap_alloc_new w2 _
       have hsx : wx.heap.size = w2.heap.size + 1 := by rw [← hwx]; simp
       have hyx := CellS.to (S' := New wr w2) hfx (fun q hq => ⟨hq, fun h => h⟩) _ _ hx
       have hfwx : Fr (fun q => q = w.heap.size) wr wx := hf2.trans hfx (fun _ _ h => h.elim)
       have hgx := hgr.fr hfwx (fun q hq => by show ¬ q = w.heap.size; omega)
       have hcx := hc2.fr hfx (fun h => h) (fun _ _ h => h)
       obtain ⟨dxs, hdl, hdc⟩ : ∃ dxs, SlS (New wr w2) wx 8 (.slice ia x.items.length ic) x.items.length dxs ∧ CellsS (New wr w2) wx x.items dxs := by
        obtain ⟨ia', ic', ka', kc', dxs, _, he, h1, h2, _⟩ := hyx.full
        simp only [List.cons.injEq, Value.slice.injEq, true_and, and_true] at he
        obtain ⟨⟨rfl, rfl⟩, -⟩ := he
        exact ⟨dxs, h1, h2⟩
       have hA0 : AtR W1.heap.size w.heap.size w.heap.size w2.heap.size [.int .u64 x.r0, .int .u64 x.r1, .int .u64 x.r2, .int .u64 x.r3, .string x.s, .bool x.null, .slice ia x.items.length ic, .slice ka x.keys.length kc] W1 x x.items (.slice ia x.items.length ic) dxs wx (.slice ra σ.length rc) (.slice va τ.length vc) σ τ rxs ixs (fun q => S q ∨ New wr w2 q) :=
        { gr := { hgx with
           ci := hgx.ci.mono fun _ => .inl
           ck := hgx.ck.mono fun _ => .inl
           hS := fun q hq => hq.elim (hgx.hS q) fun hq => ⟨by have := hq.1; omega, by have := hq.2; omega, fun e => by have := ownsRow_lt hgr.oi e; have := hq.1; omega, fun e => by have := ownsRow_lt hgr.ok e; have := hq.1; omega⟩ }
          xb := hrx
          xi := hyx.mono fun _ => .inr
          sl := hdl.to (Fr.refl (fun _ => False) wx) fun _ hq => ⟨.inr hq, fun h => h⟩
          sc := hdc.mono fun _ => .inr
          Xl := by omega
          Xr := fun e => by have := ownsRow_lt hgr.oi e; omega
          Xv := fun e => by have := ownsRow_lt hgr.ok e; omega
          co := hcx, pl := by omega, Bp := Nat.le_refl _, lw := rfl
          frm := (hfr.trans hfwx (fun _ _ h => h)).mono fun _ _ h => .inl h }
       have hA0H := Lib.hid hA0
       have hsb : σ.length ≤ 12 := by omega
       have hiw2 := items_wts σ
       have hil := length_le_wts (σ.flatMap Cell.items)
       rw [← hτ.out] at hil hiw2
       have hxw := hxo.wt
       have hxe := Cell.wt_eq x
       have hxl := length_le_wts x.items
       have hib : τ.length ≤ 100000 := by omega
       have hxb : x.items.length ≤ 100000 := by
        have : 20 * 5 ^ 3 = 2500 := rfl
        omega
       obtain ⟨t0, t1, t2, t3, t4, t5, t6, t7⟩ := CellsAt.eight (CellsAt.of_block hrx)
       have hsxH := Lib.hid hsx
       clear hwx hA0 hiw2 hil hxe hxl hrx hgx hsx
       go_region_held3 (fun w' => w'.cell? ⟨w2.heap.size, 0, none⟩ = some (.int .u64 x.r0) ∧ w'.cell? ⟨w2.heap.size, 1, none⟩ = some (.int .u64 x.r1) ∧ w'.cell? ⟨w2.heap.size, 2, none⟩ = some (.int .u64 x.r2) ∧ w'.cell? ⟨w2.heap.size, 3, none⟩ = some (.int .u64 x.r3) ∧ w'.cell? ⟨w2.heap.size, 4, none⟩ = some (.string x.s) ∧ w'.cell? ⟨w2.heap.size, 5, none⟩ = some (.bool x.null) ∧ w'.cell? ⟨w2.heap.size, 6, none⟩ = some (.slice ia x.items.length ic) ∧ w'.cell? ⟨w2.heap.size, 7, none⟩ = some (.slice ka x.keys.length kc))
        (first | exact CellsAt.eight (CellsAt.of_block (AtR.xb (hA0H.out))) | exact CellsAt.eight (CellsAt.of_block (AtR.xb ((hA0H.out).alloc _))) | exact CellsAt.eight (CellsAt.of_block (AtR.xb ((hA0H.out).drew))) | exact CellsAt.eight (CellsAt.of_block (AtR.xb (((hA0H.out).alloc _).drew))) | exact CellsAt.eight (CellsAt.of_block (AtR.xb (((hA0H.out).drew).alloc _))) | exact CellsAt.eight (CellsAt.of_block (AtR.xb (hA4))) | exact CellsAt.eight (CellsAt.of_block (AtR.xb ((hA4).alloc _))) | exact CellsAt.eight (CellsAt.of_block (AtR.xb ((hA4).drew))) | exact CellsAt.eight (CellsAt.of_block (AtR.xb (((hA4).alloc _).drew))) | exact CellsAt.eight (CellsAt.of_block (AtR.xb (((hA4).drew).alloc _))) | exact CellsAt.eight (CellsAt.of_block (AtR.xb (hA5))) | exact CellsAt.eight (CellsAt.of_block (AtR.xb ((hA5).alloc _))) | exact CellsAt.eight (CellsAt.of_block (AtR.xb ((hA5).drew))) | exact CellsAt.eight (CellsAt.of_block (AtR.xb (((hA5).alloc _).drew))) | exact CellsAt.eight (CellsAt.of_block (AtR.xb (((hA5).drew).alloc _))))
        (first
        | (refine step_of_wp _ rfl ?_; refine wp_append _ cellEl' _ _ rfl _ _ _ rfl (AtR.gr (by first | exact hA0H.out | exact (hA0H.out).alloc _ | exact (hA0H.out).drew | exact ((hA0H.out).alloc _).drew | exact ((hA0H.out).drew).alloc _ | exact hA4 | exact (hA4).alloc _ | exact (hA4).drew | exact ((hA4).alloc _).drew | exact ((hA4).drew).alloc _ | exact hA5 | exact (hA5).alloc _ | exact (hA5).drew | exact ((hA5).alloc _).drew | exact ((hA5).drew).alloc _)).oi _ _ _ rfl (Src.ofSlice _ Tryz.underlying31 _ _ _ [.int .u64 x.r0, .int .u64 x.r1, .int .u64 x.r2, .int .u64 x.r3, .string x.s, .bool x.null, .slice ia x.items.length ic, .slice ka x.keys.length kc] rfl (by first | exact cells_new _ [.int .u64 x.r0, .int .u64 x.r1, .int .u64 x.r2, .int .u64 x.r3, .string x.s, .bool x.null, .slice ia x.items.length ic, .slice ka x.keys.length kc] _ | exact CellsAt.drew (CellsAt.new [.int .u64 x.r0, .int .u64 x.r1, .int .u64 x.r2, .int .u64 x.r3, .string x.s, .bool x.null, .slice ia x.items.length ic, .slice ka x.keys.length kc] _ rfl) | exact hb5) (by simp [Value.oneCell'])) ?_ ?_ ?_; (unfold maxLen; omega); omega; intro v4 w4 ha4; obtain ⟨a4, b4, rfl⟩ := ha4.shape; have hA4 := AtR.pushR (by first | exact hA0H.out | exact (hA0H.out).alloc _ | exact (hA0H.out).drew | exact ((hA0H.out).alloc _).drew | exact ((hA0H.out).drew).alloc _ | exact hA4 | exact (hA4).alloc _ | exact (hA4).drew | exact ((hA4).alloc _).drew | exact ((hA4).drew).alloc _ | exact hA5 | exact (hA5).alloc _ | exact (hA5).drew | exact ((hA5).alloc _).drew | exact ((hA5).drew).alloc _) ha4)
        | (refine step_of_wp _ rfl ?_; refine wp_append _ cellEl' _ _ rfl _ _ _ rfl (AtR.gr (by first | exact hA0H.out | exact (hA0H.out).alloc _ | exact (hA0H.out).drew | exact ((hA0H.out).alloc _).drew | exact ((hA0H.out).drew).alloc _ | exact hA4 | exact (hA4).alloc _ | exact (hA4).drew | exact ((hA4).alloc _).drew | exact ((hA4).drew).alloc _ | exact hA5 | exact (hA5).alloc _ | exact (hA5).drew | exact ((hA5).alloc _).drew | exact ((hA5).drew).alloc _)).ok _ _ _ rfl (Src.ofSlS Tryz.underlying31 (AtR.sl (by first | exact hA0H.out | exact (hA0H.out).alloc _ | exact (hA0H.out).drew | exact ((hA0H.out).alloc _).drew | exact ((hA0H.out).drew).alloc _ | exact hA4 | exact (hA4).alloc _ | exact (hA4).drew | exact ((hA4).alloc _).drew | exact ((hA4).drew).alloc _ | exact hA5 | exact (hA5).alloc _ | exact (hA5).drew | exact ((hA5).alloc _).drew | exact ((hA5).drew).alloc _)) (AtR.sc (by first | exact hA0H.out | exact (hA0H.out).alloc _ | exact (hA0H.out).drew | exact ((hA0H.out).alloc _).drew | exact ((hA0H.out).drew).alloc _ | exact hA4 | exact (hA4).alloc _ | exact (hA4).drew | exact ((hA4).alloc _).drew | exact ((hA4).drew).alloc _ | exact hA5 | exact (hA5).alloc _ | exact (hA5).drew | exact ((hA5).alloc _).drew | exact ((hA5).drew).alloc _)).ones) ?_ ?_ ?_; (unfold maxLen; omega); omega; intro v5 w5 ha5; obtain ⟨a5, b5, rfl⟩ := ha5.shape; have hA5 := AtR.pushV (by first | exact hA0H.out | exact (hA0H.out).alloc _ | exact (hA0H.out).drew | exact ((hA0H.out).alloc _).drew | exact ((hA0H.out).drew).alloc _ | exact hA4 | exact (hA4).alloc _ | exact (hA4).drew | exact ((hA4).alloc _).drew | exact ((hA4).drew).alloc _ | exact hA5 | exact (hA5).alloc _ | exact (hA5).drew | exact ((hA5).alloc _).drew | exact ((hA5).drew).alloc _) ha5))
       all_goals
        go_wp2
        go_roundw
        case rel =>
         have hτ2 : Hid (τ ++ x.items = (σ ++ [x]).flatMap Cell.items) := Lib.hid (by rw [hτ.out, List.flatMap_append, List.flatMap_singleton])
         have hw2 : wts (σ ++ [x]) ≤ (σ ++ [x]).length * 3000 := by
          rw [wts_append, List.length_append, List.length_singleton, Nat.add_mul, Nat.one_mul]
          have : 20 * 5 ^ 3 = 2500 := rfl
          simp only [wts]
          omega
         first
          | exact ⟨k - 1, σ ++ [x], τ ++ x.items, _, _, _, by rw [Int.natCast_sub hkz]; rfl, hτ2, by simp; omega, hA5.gr, hw2, hA5.co, hA5.done⟩
          | exact ⟨k - 1, σ ++ [x], τ ++ x.items, _, _, _, by rw [Int.natCast_sub hkz]; rfl, hτ2, by simp; omega, hA4.gr, hw2, hA4.co, hA4.done⟩
        case measure => simp [intOf]; omega
    · have hk0 : ¬ (0 : Int) < k := by omega
      have hOA : Ok 3 (.arr T) := .inr (.inl ⟨T, rfl, hT⟩)
      have hs12 : σ.length ≤ 12 := by omega
      obtain ⟨ra, rc, rfl⟩ := ownsRow_shape hgr.oi
      obtain ⟨va, vc, rfl⟩ := ownsRow_shape hgr.ok
      have hf0 : Fr (fun _ => False) w wr := ((((Fr.refl (fun _ => False) w).alloc _).trans hf1 (fun q hq h => by have : q = w.heap.size := h; omega)).trans hfW1 (fun _ _ h => h)).trans hfr (fun q hq h => by have : q = w.heap.size := h; omega)
      have htabr : Tabs wr := htab.below (hf0.below (Nat.le_refl _) (fun _ _ h => h))
      have hsA := Ok.small hOA (by omega)
      have hsT := Ok.small hT (by omega)
      have hwσ : wts σ ≤ 36000 := by omega
      have hiτ := items_wts σ
      have hwτ : wts τ ≤ 36000 := by rw [hτ.out]; omega
      have hle1 := enc_le 3 _ hOA σ (by omega)
      have hle2 := enc_le 2 _ hT τ (by omega)
      have hll' := LTS.to (S' := fun q => q < wr.heap.size) hfr (fun q hq => ⟨by have := hq.2; omega, by have := hq.1; show ¬ q = w.heap.size; omega⟩) _ _ hll
      have hlT' := LTS.to (S' := fun q => q < wr.heap.size) hfr (fun q hq => ⟨by have := hq.2; omega, by have := hq.1; show ¬ q = w.heap.size; omega⟩) _ _ hlW
      have htx := fun wA (hf : Fr (fun _ => False) wr wA) => text_all 3 _ hOA wr.heap.size wA _ (LTIn.below (hf.below (Nat.le_refl _) (fun _ _ h => h)) _ _ (LTS.inn (fun _ h => h) _ _ hll')) hf.size (by omega)
      have hce := fun wA (hf : Fr (fun _ => False) wr wA) => CLEncode_at (.arr T) (st (.arr T)) (bstr (text (.arr T))) wA (fun w' hb' => tree_all 3 _ (by omega) hOA w' ((htabr.below (hf.below (Nat.le_refl _) (fun _ _ h => h))).below hb')) σ (.slice ra σ.length rc) rxs (((own_slS hgr.oi (S := fun q => q < wr.heap.size) (fun q hq => ownsRow_lt hgr.oi hq)).to (S' := fun q => q < wA.heap.size) hf (fun q hq => ⟨Nat.lt_of_lt_of_le hq hf.size, fun h => h⟩)).sl (fun _ h => h)) (CellsS.inn (fun _ h => h) _ _ (CellsS.to (S' := fun q => q < wA.heap.size) hf (fun q hq => ⟨Nat.lt_of_lt_of_le (hgr.hS q hq).2.1 hf.size, fun h => h⟩) _ _ hgr.ci)) (by omega) (show wts σ ≤ _ by omega) (by omega)
      have hlo := fun wA (hf : Fr (fun _ => False) wr wA) => loPut_any T (text_all 2 _ hT) (tree_all 2 _ (by omega) hT) wA (htabr.below (hf.below (Nat.le_refl _) (fun _ _ h => h))) _ (LTIn.mono hf.size _ _ (LTIn.below (hf.below (Nat.le_refl _) (fun _ _ h => h)) _ _ (LTS.inn (fun _ h => h) _ _ hlT'))) (by omega) (by omega) τ (.slice va τ.length vc) ixs (((own_slS hgr.ok (S := fun q => q < wr.heap.size) (fun q hq => ownsRow_lt hgr.ok hq)).to (S' := fun q => q < wA.heap.size) hf (fun q hq => ⟨Nat.lt_of_lt_of_le hq hf.size, fun h => h⟩)).sl (fun _ h => h)) (CellsS.inn (fun _ h => h) _ _ (CellsS.to (S' := fun q => q < wA.heap.size) hf (fun q hq => ⟨Nat.lt_of_lt_of_le (hgr.hS q hq).2.1 hf.size, fun h => h⟩) _ _ hgr.ck)) (show wts τ ≤ _ by omega) (by omega)
      have hoff := fun wA (hf : Fr (fun _ => False) wr wA) => offsets_any σ wA.heap.size wA (.slice ra σ.length rc) rxs (((own_slS hgr.oi (S := fun q => q < wr.heap.size) (fun q hq => ownsRow_lt hgr.oi hq)).to (S' := fun q => q < wA.heap.size) hf (fun q hq => ⟨Nat.lt_of_lt_of_le hq hf.size, fun h => h⟩)).sl (fun _ h => h)) (CellsS.inn (fun _ h => h) _ _ (CellsS.to (S' := fun q => q < wA.heap.size) hf (fun q hq => ⟨Nat.lt_of_lt_of_le (hgr.hS q hq).2.1 hf.size, fun h => h⟩) _ _ hgr.ci)) (Nat.le_refl _) (by omega)
      have hlaw : Hid (bstr (enc (.arr T) σ) = bstr (offsets lenI 0 σ) ++ bstr (enc T τ)) := Lib.hid (by rw [enc_arr, ends_bytes, bstr_append, hτ.out])
      obtain ⟨b0, b1, b2⟩ := three_cells r7'
      obtain ⟨d0, d1, d2⟩ := three_cells r6'
      have hst : st (.arr T) = st T := by rw [st]
      have hstH := Lib.hid hst
      have hsum : ¬ 9223372036854775807 < (bstr (offsets lenI 0 σ)).size + (bstr (enc T τ)).size := by rw [bstr_size, bstr_size, ← ends_bytes, offsets_length]; omega
      clear hst hgr hll' hlT' hle1 hle2
      generalize bstr (text (.arr T)) = txt at htx hce
      go_wp2_with (first
       | (go_at_call 11; refine (htx wr (Fr.refl _ _)).mono ?_; rintro e wA ⟨rfl, hfA⟩)
       | (go_at_call 10; refine (hce _ hfA).mono ?_; rintro e wB ⟨v1, v2, rfl, hv1, hv2, hbB⟩; have hfAB : Fr (fun _ => False) wr wB := hfA.trans (Below.fr hbB) (fun _ _ h => h); have e0 := hfAB.cell_some d0 (fun h => h); have e1 := hfAB.cell_some d1 (fun h => h); have e2 := hfAB.cell_some d2 (fun h => h))
       | (go_at_call 12; refine (hlo _ hfAB).mono ?_; rintro e wC ⟨rfl, hfC⟩))
      have hfABC := hfAB.trans hfC (fun _ _ h => h)
      have hbC := hfC.below (Nat.le_refl _) (fun _ _ h => h)
      have hlt : wB.heap.size ≤ wC.heap.size := hbC.size
      have hc1 : ∀ wq, Fr (fun _ => False) wC wq → Sem.run Tryz.prog (convert 22 9 v1) wq = .ok (.string (bstr (st T))) wq := fun wq hq => by
       have h := conv_bytes (Bytes.below hv1 (hbC.trans (hq.below hlt (fun _ _ h => h))))
       rw [hstH.out] at h
       exact h
      have hc2 : ∀ wq, Fr (fun _ => False) wC wq → Sem.run Tryz.prog (convert 22 9 v2) wq = .ok (.string (bstr (offsets lenI 0 σ) ++ bstr (enc T τ))) wq := fun wq hq => by
       have h := conv_bytes (Bytes.below hv2 (hbC.trans (hq.below hlt (fun _ _ h => h))))
       rw [hlaw.out] at h
       exact h
      refine Goes.region (T := fun wq => Fr (fun _ => False) wC wq) (S := fun _ => True) (z := 20) (by kernel_rfl) ?_
      refine Goes.takeT (i := 0) (u := ?hu0) rfl (by kernel_rfl) (by kernel_rfl) (by kernel_rfl) (by kernel_rfl) (fun _ _ _ h => h) (by rfl) ((Fr.refl (fun _ => False) wC).drew) (fun _ => trivial) ?hy0 ?hr0
      case hy0 =>
       intro wq hSw
       go_simp
       try rfl
      try simp only [List.getElem_toArray, List.getElem_cons_zero, List.getElem_cons_succ, Act.put, List.setIfInBounds_toArray, List.set_cons_zero, List.set_cons_succ]
      refine Goes.takeT (i := 1) (u := ?hu1) rfl (by kernel_rfl) (by kernel_rfl) (by kernel_rfl) (by kernel_rfl) (fun _ _ _ h => h) (by rfl) ((Fr.refl (fun _ => False) wC).drew) (fun _ => trivial) ?hy1 ?hr1
      case hy1 =>
       intro wq hSw
       go_simp
       try rfl
      try simp only [List.getElem_toArray, List.getElem_cons_zero, List.getElem_cons_succ, Act.put, List.setIfInBounds_toArray, List.set_cons_zero, List.set_cons_succ]
      refine Goes.takeT (i := 2) (u := ?hu2) rfl (by kernel_rfl) (by kernel_rfl) (by kernel_rfl) (by kernel_rfl) (fun _ _ _ h => h) (by rfl) ((Fr.refl (fun _ => False) wC).drew) (fun _ => trivial) ?hy2 ?hr2
      case hy2 =>
       intro wq hSw
       go_simp
       try rfl
      try simp only [List.getElem_toArray, List.getElem_cons_zero, List.getElem_cons_succ, Act.put, List.setIfInBounds_toArray, List.set_cons_zero, List.set_cons_succ]
      refine Goes.takeT (i := 3) (u := ?hu3) rfl (by kernel_rfl) (by kernel_rfl) (by kernel_rfl) (by kernel_rfl) (fun _ _ _ h => h) (by rfl) ((Fr.refl (fun _ => False) wC).drew) (fun _ => trivial) ?hy3 ?hr3
      case hy3 =>
       intro wq hSw
       go_simp
       try rfl
      try simp only [List.getElem_toArray, List.getElem_cons_zero, List.getElem_cons_succ, Act.put, List.setIfInBounds_toArray, List.set_cons_zero, List.set_cons_succ]
      refine Goes.takeT (i := 4) (u := ?hu4) rfl (by kernel_rfl) (by kernel_rfl) (by kernel_rfl) (by kernel_rfl) (fun _ _ _ h => h) (by rfl) ((Fr.refl (fun _ => False) wC).drew) (fun _ => trivial) ?hy4 ?hr4
      case hy4 =>
       intro wq hSw
       go_simp
       try rfl
      try simp only [List.getElem_toArray, List.getElem_cons_zero, List.getElem_cons_succ, Act.put, List.setIfInBounds_toArray, List.set_cons_zero, List.set_cons_succ]
      refine Goes.takeT (i := 5) (u := ?hu5) rfl (by kernel_rfl) (by kernel_rfl) (by kernel_rfl) (by kernel_rfl) (fun _ _ _ h => h) (by rfl) ((Fr.refl (fun _ => False) wC).drew) (fun _ => trivial) ?hy5 ?hr5
      case hy5 =>
       intro wq hSw
       go_simp
       try rfl
      try simp only [List.getElem_toArray, List.getElem_cons_zero, List.getElem_cons_succ, Act.put, List.setIfInBounds_toArray, List.set_cons_zero, List.set_cons_succ]
      refine Goes.takeT (i := 6) (u := ?hu6) rfl (by kernel_rfl) (by kernel_rfl) (by kernel_rfl) (by kernel_rfl) (fun _ _ _ h => h) (by rfl) ((Fr.refl (fun _ => False) wC).drew) (fun _ => trivial) ?hy6 ?hr6
      case hy6 =>
       intro wq hSw
       have hcq := hc1 wq hSw
       go_simp
       try rfl
      try simp only [List.getElem_toArray, List.getElem_cons_zero, List.getElem_cons_succ, Act.put, List.setIfInBounds_toArray, List.set_cons_zero, List.set_cons_succ]
      refine Goes.takeT (i := 7) (u := ?hu7) rfl (by kernel_rfl) (by kernel_rfl) (by kernel_rfl) (by kernel_rfl) (fun _ _ _ h => h) (by rfl) ((Fr.refl (fun _ => False) wC).drew) (fun _ => trivial) ?hy7 ?hr7
      case hy7 =>
       intro wq hSw
       go_simp
       try rfl
      try simp only [List.getElem_toArray, List.getElem_cons_zero, List.getElem_cons_succ, Act.put, List.setIfInBounds_toArray, List.set_cons_zero, List.set_cons_succ]
      refine Goes.takeT (i := 8) (u := ?hu8) rfl (by kernel_rfl) (by kernel_rfl) (by kernel_rfl) (by kernel_rfl) (fun _ _ _ h => h) (by rfl) ((Fr.refl (fun _ => False) wC).drew) (fun _ => trivial) ?hy8 ?hr8
      case hy8 =>
       intro wq hSw
       go_simp
       try rfl
      try simp only [List.getElem_toArray, List.getElem_cons_zero, List.getElem_cons_succ, Act.put, List.setIfInBounds_toArray, List.set_cons_zero, List.set_cons_succ]
      refine Goes.takeT (i := 9) (u := ?hu9) rfl (by kernel_rfl) (by kernel_rfl) (by kernel_rfl) (by kernel_rfl) (fun _ _ _ h => h) (by rfl) ((Fr.refl (fun _ => False) wC).drew) (fun _ => trivial) ?hy9 ?hr9
      case hy9 =>
       intro wq hSw
       go_simp
       try rfl
      try simp only [List.getElem_toArray, List.getElem_cons_zero, List.getElem_cons_succ, Act.put, List.setIfInBounds_toArray, List.set_cons_zero, List.set_cons_succ]
      refine Goes.takeT (i := 10) (u := ?hu10) rfl (by kernel_rfl) (by kernel_rfl) (by kernel_rfl) (by kernel_rfl) (fun _ _ _ h => h) (by rfl) ((Fr.refl (fun _ => False) wC).drew) (fun _ => trivial) ?hy10 ?hr10
      case hy10 =>
       intro wq hSw
       go_simp
       try rfl
      try simp only [List.getElem_toArray, List.getElem_cons_zero, List.getElem_cons_succ, Act.put, List.setIfInBounds_toArray, List.set_cons_zero, List.set_cons_succ]
      refine Goes.takeT (i := 11) (u := ?hu11) rfl (by kernel_rfl) (by kernel_rfl) (by kernel_rfl) (by kernel_rfl) (fun _ _ _ h => h) (by rfl) ((Fr.refl (fun _ => False) wC).drew) (fun _ => trivial) ?hy11 ?hr11
      case hy11 =>
       intro wq hSw
       go_simp
       try rfl
      try simp only [List.getElem_toArray, List.getElem_cons_zero, List.getElem_cons_succ, Act.put, List.setIfInBounds_toArray, List.set_cons_zero, List.set_cons_succ]
      refine Goes.takeT (i := 12) (u := ?hu12) rfl (by kernel_rfl) (by kernel_rfl) (by kernel_rfl) (by kernel_rfl) (fun _ _ _ h => h) (by rfl) ((Fr.refl (fun _ => False) wC).drew) (fun _ => trivial) ?hy12 ?hr12
      case hy12 =>
       intro wq hSw
       have hcq := hc2 wq hSw
       go_simp
       try rfl
      try simp only [List.getElem_toArray, List.getElem_cons_zero, List.getElem_cons_succ, Act.put, List.setIfInBounds_toArray, List.set_cons_zero, List.set_cons_succ]
      refine Goes.takeT (i := 13) (u := ?hu13) rfl (by kernel_rfl) (by kernel_rfl) (by kernel_rfl) (by kernel_rfl) (fun _ _ _ h => h) (by rfl) ((Fr.refl (fun _ => False) wC).drew) (fun _ => trivial) ?hy13 ?hr13
      case hy13 =>
       intro wq hSw
       go_simp
       try rfl
      try simp only [List.getElem_toArray, List.getElem_cons_zero, List.getElem_cons_succ, Act.put, List.setIfInBounds_toArray, List.set_cons_zero, List.set_cons_succ]
      refine Goes.takeT (i := 15) (u := ?hu15) rfl (by kernel_rfl) (by kernel_rfl) (by kernel_rfl) (by kernel_rfl) (fun _ _ _ h => h) (by rfl) ((Fr.refl (fun _ => False) wC).drew) (fun _ => trivial) ?hy15 ?hr15
      case hy15 =>
       intro wq hSw
       go_simp
       try rfl
      try simp only [List.getElem_toArray, List.getElem_cons_zero, List.getElem_cons_succ, Act.put, List.setIfInBounds_toArray, List.set_cons_zero, List.set_cons_succ]
      refine Goes.one (i := 14) (by kernel_rfl) rfl (fun K' hK => ?_)
      try simp only [List.getElem_toArray, List.getElem_cons_zero, List.getElem_cons_succ, Act.put, List.setIfInBounds_toArray, List.set_cons_zero, List.set_cons_succ]
      go_simp
      go_at_call 13; refine (hoff _ hfABC.drew).mono ?_; rintro e wD ⟨rfl, hfD⟩; have hTD := ((Fr.refl (fun _ => False) wC).drew).trans hfD (fun _ _ h => h)
      refine hK.out _ _ hTD (fun _ => trivial) ?_
      clear hK K'
      try simp only [List.getElem_toArray, List.getElem_cons_zero, List.getElem_cons_succ, Act.put, List.setIfInBounds_toArray, List.set_cons_zero, List.set_cons_succ]
      refine Goes.takeT (i := 16) (u := ?hu16) rfl (by kernel_rfl) (by kernel_rfl) (by kernel_rfl) (by kernel_rfl) (fun _ _ _ h => h) (by rfl) hTD (fun _ => trivial) ?hy16 ?hr16
      case hy16 =>
       intro wq hSw
       go_simp
       try rfl
      try simp only [List.getElem_toArray, List.getElem_cons_zero, List.getElem_cons_succ, Act.put, List.setIfInBounds_toArray, List.set_cons_zero, List.set_cons_succ]
      refine Goes.takeT (i := 17) (u := ?hu17) rfl (by kernel_rfl) (by kernel_rfl) (by kernel_rfl) (by kernel_rfl) (fun _ _ _ h => h) (by rfl) hTD (fun _ => trivial) ?hy17 ?hr17
      case hy17 =>
       intro wq hSw
       go_simp
       try rfl
      try simp only [List.getElem_toArray, List.getElem_cons_zero, List.getElem_cons_succ, Act.put, List.setIfInBounds_toArray, List.set_cons_zero, List.set_cons_succ]
      refine Goes.takeT (i := 18) (u := ?hu18) rfl (by kernel_rfl) (by kernel_rfl) (by kernel_rfl) (by kernel_rfl) (fun _ _ _ h => h) (by rfl) hTD (fun _ => trivial) ?hy18 ?hr18
      case hy18 =>
       intro wq hSw
       go_simp
       try rfl
      try simp only [List.getElem_toArray, List.getElem_cons_zero, List.getElem_cons_succ, Act.put, List.setIfInBounds_toArray, List.set_cons_zero, List.set_cons_succ]
      refine Goes.takeT (i := 19) (u := ?hu19) rfl (by kernel_rfl) (by kernel_rfl) (by kernel_rfl) (by kernel_rfl) (fun _ _ _ h => h) (by rfl) hTD (fun _ => trivial) ?hy19 ?hr19
      case hy19 =>
       intro wq hSw
       go_simp
       try rfl
      try simp only [List.getElem_toArray, List.getElem_cons_zero, List.getElem_cons_succ, Act.put, List.setIfInBounds_toArray, List.set_cons_zero, List.set_cons_succ]
      refine Goes.done (by kernel_rfl) ?_
      go_wp2
      go_ret
      exact ⟨rfl, (hf0.trans hfABC (fun _ _ h => h)).trans hTD (fun _ _ h => h)⟩
end Go.Proofs.YtcidlnjpabgioaaGreatDoor
