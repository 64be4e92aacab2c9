import Derived.Test.YtcidlnjpabgioaaGreatDoorWGCell
import Derived.Test.YtcidlnjpabgioaaGreatDoorWGCellZ
import Derived.Test.YtcidlnjpabgioaaGreatDoorWGGrow
import Derived.Test.YtcidlnjpabgioaaGreatDoorWGCellM
set_option maxHeartbeats 8000000
set_option maxRecDepth 100000
namespace Go.Proofs.YtcidlnjpabgioaaGreatDoor
open Go.RowKit
set_option linter.unusedSimpArgs false in
theorem aFT (w : World) (htab : Tabs w) (cv : Value) (cn : Nat) (hcode : aAU w.heap.size w cv cn) (m : Nat) (hm : m < 256) :
 Calls Tryz.prog 4 #[cv, .int .u8 m] w fun e w' => e = .returned (.bool true) ∧ Fr (fun _ => False) w w' := by
 have hca := aIZ hcode
 obtain ⟨ca, cc, rfl, hcn, hcm, -, -⟩ := hcode
 unfold maxLen at hcm
 by_cases hbig : 2147483647 < cn
 · have hb' : (2147483647 : Int) < cn := by omega
   go_enter Tryz.func4, Tryz.ntmps4
   go_wp2
   go_ret
   exact ⟨rfl, Fr.refl _ _⟩
 · have hb' : ¬ (2147483647 : Int) < cn := by omega
   go_enter Tryz.func4, Tryz.ntmps4
   go_wp2_with (first
    | (go_at_call 14; refine (aFg w.heap.size _ w.heap.size hca (by simp)).mono ?_; rintro e w1 ⟨K, ks, hK, rfl, hlK, hc1, hf1⟩; have hs1 := hf1.size; obtain ⟨oka, okc, rfl⟩ := hlK.three)
    | (go_at_call 8; refine (aFt 2 (by omega) w.heap.size _ w.heap.size hc1 (by simp at hs1; omega)).mono ?_; rintro e w2 ⟨T, vs, hT, rfl, hlT, hc2, hf2⟩; obtain ⟨ta, tc, rfl⟩ := hlT.three))
   have hs2 := hf2.size
   have hpS : w.heap.size < w1.heap.size := by simp at hs1; omega
   generalize hW1 : (((w2.alloc _).alloc _).alloc _).alloc _ = W1
   have hfW1 : Fr (fun _ => False) w2 W1 := by subst hW1; exact ((((Fr.refl _ w2).alloc _).alloc _).alloc _).alloc _
   have rk : W1.heap[w2.heap.size]? = some (.cells #[.string (aV K.nm), .int .i64 K.sz, .slice oka K.kids.length okc] 29 (0, 0)) := by subst hW1; rw [Below.heap_alloc _ _ _ (by simp <;> omega), Below.heap_alloc _ _ _ (by simp <;> omega), Below.heap_alloc _ _ _ (by simp)]; exact heap_alloc_new w2 _
   have rv : W1.heap[w2.heap.size + 1]? = some (.cells #[.string (aV T.nm), .int .i64 T.sz, .slice ta T.kids.length tc] 29 (0, 0)) := by subst hW1; rw [Below.heap_alloc _ _ _ (by simp <;> omega), Below.heap_alloc _ _ _ (by simp)]; exact fZ (by simp)
   have r2 : W1.heap[w2.heap.size + 1 + 1]? = some (.cells #[.string (aV K.nm), .int .i64 K.sz, .slice oka K.kids.length okc, .string (aV T.nm), .int .i64 T.sz, .slice ta T.kids.length tc] 29 (0, 0)) := by subst hW1; rw [Below.heap_alloc _ _ _ (by simp)]; exact fZ (by simp)
   have rt : W1.heap[w2.heap.size + 1 + 1 + 1]? = some (.cells #[.string ⟨#[77, 97, 112]⟩, .int .i64 0, .slice (some ⟨w2.heap.size + 1 + 1, 0, none⟩) 2 2] 29 (0, 0)) := by subst hW1; exact fZ (by simp)
   have hsz : W1.heap.size = w2.heap.size + 4 := by subst hW1; simp
   have hcW : bM w.heap.size W1 w.heap.size := hc2.fr hfW1 (fun h => h) (fun _ _ h => h)
   have hlKW : LTS (fun q => w.heap.size < q ∧ q < W1.heap.size) W1 K.lt [.string (aV K.nm), .int .i64 K.sz, .slice oka K.kids.length okc] := LTS.to (hf2.trans hfW1 (fun _ _ h => h.elim)) (fun q hq => ⟨⟨by have := hq.1; simp at this; omega, by have := hq.2; omega⟩, by have := hq.1; simp at this; show ¬ q = w.heap.size; omega⟩) _ _ hlK
   have hlTW : LTS (fun q => w.heap.size < q ∧ q < W1.heap.size) W1 T.lt [.string (aV T.nm), .int .i64 T.sz, .slice ta T.kids.length tc] := LTS.to hfW1 (fun q hq => ⟨⟨by have := hq.1; omega, by have := hq.2; omega⟩, fun h => h⟩) _ _ hlT
   have hll : LTS (fun q => w.heap.size < q ∧ q < W1.heap.size) W1 (Ty.map K T).lt [.string (aV (Ty.map K T).nm), .int .i64 (Ty.map K T).sz, .slice (some ⟨w2.heap.size + 1 + 1, 0, none⟩) 2 2] := aFv (T := .map K T) (t := K) (u := T) rfl r2 ⟨by omega, by omega⟩ hlKW hlTW
   have hm12 : (0 : Int) ≤ (m : Int) % 12 ∧ (m : Int) % 12 < 12 := by omega
   have hOK : Ok 0 K := hK.elim .inl (fun h => .inr (.inr h))
   have hOM : Ok 3 (.map K T) := .inr (.inr (.inl ⟨K, T, rfl, hK, hT⟩))
   have hcK := kP 0 K hOK
   have hcT := kP 2 T hT
   have hcA := kP 3 (.map K T) hOM
   clear hW1
   go_loopw [9, 10, 11, 12] (fun rv kv vv i wr => ∃ (k : Nat) (σ κ τ : List Cell) (axs bxs cxs : List Value) (S : Nat → Prop), i = .int .i64 k ∧ Hid (κ = σ.flatMap Cell.keys) ∧ Hid (τ = σ.flatMap Cell.items) ∧ σ.length + k ≤ 12 ∧ 0 < σ.length + k ∧ Hid (∀ c ∈ σ, c.keys.length = c.items.length) ∧ iV W1.heap.size wr rv kv vv σ κ τ axs bxs cxs S ∧ wts σ ≤ σ.length * 3100 ∧ bM w.heap.size wr w.heap.size ∧ Fr (fun q => q = w.heap.size) W1 wr) (fun _ _ _ i _ => (intOf i).toNat)
   case atStart => exact ⟨1 + m % 12, [], [], [], [], [], [], _, by go_num, Lib.hid rfl, Lib.hid rfl, by simp; omega, by omega, Lib.hid (by simp), iV.nil _ _, by simp [wts], hcW, Fr.refl _ _⟩
   case round =>
    obtain ⟨k, σ, κ, τ, axs, bxs, cxs, S, rfl, hκ, hτ, hk, hk0, hkl, hgr, hwt, hcode, hfr⟩ := hrel
    have hwr := hfr.size
    have rk' := (hfr.block _ (by omega) (by show ¬ w2.heap.size = w.heap.size; omega)).trans rk
    have rv' := (hfr.block _ (by omega) (by show ¬ w2.heap.size + 1 = w.heap.size; omega)).trans rv
    have rt' := (hfr.block _ (by omega) (by show ¬ w2.heap.size + 1 + 1 + 1 = w.heap.size; omega)).trans rt
    by_cases hkz : 0 < k
    · have hki : (0 : Int) < k := by omega
      have hiw : IntKind.i64.wrap ((k : Int) - 1) = (k : Int) - 1 := by rw [IntKind.wrap_i64]; omega
      obtain ⟨ra, rc, rfl⟩ := ownsRow_shape hgr.oa
      obtain ⟨ba, bc, rfl⟩ := ownsRow_shape hgr.ob
      obtain ⟨va, vc, rfl⟩ := ownsRow_shape hgr.oc
      have hlr := LTS.to (S' := fun q => w.heap.size < q ∧ q < W1.heap.size) hfr (fun q hq => ⟨hq, by have := hq.1; show ¬ q = w.heap.size; omega⟩) _ _ hll
      have hcall := hcA w.heap.size wr w.heap.size _ _ hcode (by omega) hlr (fun q hq => ⟨by have := hq.1; omega, by have := hq.2; omega⟩)
      obtain ⟨b0, b1, b2⟩ := iR rt'
      by_cases hσ : σ = []
      · subst hσ
        obtain rfl : κ = [] := hκ.out
        obtain rfl : τ = [] := hτ.out
        have hgr0 : iV W1.heap.size wr (.slice ra 0 rc) (.slice ba 0 bc) (.slice va 0 vc) [] [] [] axs bxs cxs S := hgr
        clear hgr
        have hgr := hgr0
        clear hgr0
        simp only [List.length_nil] at hk hk0 hwt
        go_wp2_with (go_at_call 9; refine hcall.mono ?_; rintro e w3 ⟨x, xs, rfl, hx, hxo, hc3, hf3⟩; obtain ⟨ia, ic, ja, jc, rfl⟩ := hx.eight)
        · rename_i hz
          clear hz
          have hs3 := hf3.size
          generalize hwx : w3.alloc _ = wx
          have hfx : Fr (fun _ => False) w3 wx := by rw [← hwx]; exact (Fr.refl _ _).alloc _
          have hrx : wx.heap[w3.heap.size]? = some (.cells #[.int .u64 x.r0, .int .u64 x.r1, .int .u64 x.r2, .int .u64 x.r3, .string x.s, .bool x.null, .slice ia x.items.length ic, .slice ja x.keys.length jc] 35 (0, 0)) := by rw [← hwx]; exact heap_alloc_new w3 _
          have hsx : wx.heap.size = w3.heap.size + 1 := by rw [← hwx]; simp
          have hyx := bK.to (S' := New wr w3) hfx (fun q hq => ⟨hq, fun h => h⟩) _ _ hx
          have hfwx : Fr (fun q => q = w.heap.size) wr wx := hf3.trans hfx (fun _ _ h => h.elim)
          have hcx := hc3.fr hfx (fun h => h) (fun _ _ h => h)
          have hwxs := hfwx.size
          obtain ⟨d0, d1, d2⟩ := iR rk'
          obtain ⟨f0, f1, f2⟩ := iR rv'
          have nk : ¬ w2.heap.size = w.heap.size := by omega
          have nv : ¬ w2.heap.size + 1 = w.heap.size := by omega
          have hkeep : ∀ Y Z : World, Fr (fun q => q = w.heap.size ∨ q = w3.heap.size) Y Z → (fun wq => wq.cell? ⟨w2.heap.size, 0, none⟩ = some (.string (aV K.nm)) ∧ wq.cell? ⟨w2.heap.size, 1, none⟩ = some (.int .i64 K.sz) ∧ wq.cell? ⟨w2.heap.size, 2, none⟩ = some (.slice oka K.kids.length okc) ∧ wq.cell? ⟨w2.heap.size + 1, 0, none⟩ = some (.string (aV T.nm)) ∧ wq.cell? ⟨w2.heap.size + 1, 1, none⟩ = some (.int .i64 T.sz) ∧ wq.cell? ⟨w2.heap.size + 1, 2, none⟩ = some (.slice ta T.kids.length tc)) Y → (fun wq => wq.cell? ⟨w2.heap.size, 0, none⟩ = some (.string (aV K.nm)) ∧ wq.cell? ⟨w2.heap.size, 1, none⟩ = some (.int .i64 K.sz) ∧ wq.cell? ⟨w2.heap.size, 2, none⟩ = some (.slice oka K.kids.length okc) ∧ wq.cell? ⟨w2.heap.size + 1, 0, none⟩ = some (.string (aV T.nm)) ∧ wq.cell? ⟨w2.heap.size + 1, 1, none⟩ = some (.int .i64 T.sz) ∧ wq.cell? ⟨w2.heap.size + 1, 2, none⟩ = some (.slice ta T.kids.length tc)) Z := fun Y Z hf hz => by
           have nk : ¬ (w2.heap.size = w.heap.size ∨ w2.heap.size = w3.heap.size) := by omega
           have nv : ¬ (w2.heap.size + 1 = w.heap.size ∨ w2.heap.size + 1 = w3.heap.size) := by omega
           obtain ⟨e0, e1, e2, e3, e4, e5⟩ := hz
           exact ⟨hf.aA e0 nk, hf.aA e1 nk, hf.aA e2 nk, hf.aA e3 nv, hf.aA e4 nv, hf.aA e5 nv⟩
          have hT0 : (fun wq => wq.cell? ⟨w2.heap.size, 0, none⟩ = some (.string (aV K.nm)) ∧ wq.cell? ⟨w2.heap.size, 1, none⟩ = some (.int .i64 K.sz) ∧ wq.cell? ⟨w2.heap.size, 2, none⟩ = some (.slice oka K.kids.length okc) ∧ wq.cell? ⟨w2.heap.size + 1, 0, none⟩ = some (.string (aV T.nm)) ∧ wq.cell? ⟨w2.heap.size + 1, 1, none⟩ = some (.int .i64 T.sz) ∧ wq.cell? ⟨w2.heap.size + 1, 2, none⟩ = some (.slice ta T.kids.length tc)) wx.drew := ⟨hfwx.aA d0 nk, hfwx.aA d1 nk, hfwx.aA d2 nk, hfwx.aA f0 nv, hfwx.aA f1 nv, hfwx.aA f2 nv⟩
          dsimp only at hkeep hT0
          have hkeep := Lib.hid hkeep
          have hnx : ∀ q, wx.heap.size ≤ q → ¬ (q = w.heap.size ∨ q = w3.heap.size) := fun q hq => by omega
          have hnx := Lib.hid hnx
          have hltK : LTS (fun q => w.heap.size < q ∧ q < W1.heap.size) wx K.lt [.string (aV K.nm), .int .i64 K.sz, .slice oka K.kids.length okc] := LTS.to (hfr.trans hfwx (fun _ _ h => h)) (fun q hq => ⟨hq, by have := hq.1; show ¬ q = w.heap.size; omega⟩) _ _ hlKW
          have hltT : LTS (fun q => w.heap.size < q ∧ q < W1.heap.size) wx T.lt [.string (aV T.nm), .int .i64 T.sz, .slice ta T.kids.length tc] := LTS.to (hfr.trans hfwx (fun _ _ h => h)) (fun q hq => ⟨hq, by have := hq.1; show ¬ q = w.heap.size; omega⟩) _ _ hlTW
          have hcallK := Lib.hid (fun Y (hf : Fr (fun q => q = w.heap.size ∨ q = w3.heap.size) wx Y) (hco : bM w.heap.size Y w.heap.size) => hcK w.heap.size Y w.heap.size _ _ hco (by have := hf.size; omega) (LTS.to (S' := fun q => w.heap.size < q ∧ q < W1.heap.size) hf (fun q hq => ⟨hq, by have := hq.1; have := hq.2; show ¬ (q = w.heap.size ∨ q = w3.heap.size); omega⟩) _ _ hltK) (fun q hq => ⟨by have := hq.1; omega, by have := hq.2; have := hf.size; omega⟩))
          have hcallT := Lib.hid (fun Y (hf : Fr (fun q => q = w.heap.size ∨ q = w3.heap.size) wx Y) (hco : bM w.heap.size Y w.heap.size) => hcT w.heap.size Y w.heap.size _ _ hco (by have := hf.size; omega) (LTS.to (S' := fun q => w.heap.size < q ∧ q < W1.heap.size) hf (fun q hq => ⟨hq, by have := hq.1; have := hq.2; show ¬ (q = w.heap.size ∨ q = w3.heap.size); omega⟩) _ _ hltT) (fun q hq => ⟨by have := hq.1; omega, by have := hq.2; have := hf.size; omega⟩))
          have hF0 : Fr (fun q => q = w.heap.size ∨ q = w3.heap.size) wx wx.drew := (Fr.refl _ wx).drew
          have hC0 : bM w.heap.size wx.drew w.heap.size := hcx.fr ((Fr.refl (fun _ => False) wx).drew) (fun h => h) (fun _ _ h => h)
          have hX0 : wx.drew.heap[w3.heap.size]? = some (.cells #[.int .u64 x.r0, .int .u64 x.r1, .int .u64 x.r2, .int .u64 x.r3, .string x.s, .bool x.null, .slice ia x.items.length ic, .slice ja x.keys.length jc] 35 (0, 0)) := hrx
          have hgrH := Lib.hid hgr
          have hwtH := Lib.hid hwt
          have hxH := Lib.hid hx
          have hxoH := Lib.hid hxo
          clear hltK hltT d0 d1 d2 f0 f1 f2 b0 b1 b2 hrx hgr hwt hx hxo hyx hwx hcall hlr hcA hcT hcK hll hlKW hlTW
          go_wp2_with fail
          refine Goes.region (T := fun wq => wq.cell? ⟨w2.heap.size, 0, none⟩ = some (.string (aV K.nm)) ∧ wq.cell? ⟨w2.heap.size, 1, none⟩ = some (.int .i64 K.sz) ∧ wq.cell? ⟨w2.heap.size, 2, none⟩ = some (.slice oka K.kids.length okc) ∧ wq.cell? ⟨w2.heap.size + 1, 0, none⟩ = some (.string (aV T.nm)) ∧ wq.cell? ⟨w2.heap.size + 1, 1, none⟩ = some (.int .i64 T.sz) ∧ wq.cell? ⟨w2.heap.size + 1, 2, none⟩ = some (.slice ta T.kids.length tc)) (S := fun _ => True) (z := 12) (by kernel_rfl) ?_
          generalize wx.drew = Y0 at *
          refine Goes.dM (i := 0) (u := ?hu1001) rfl (by kernel_rfl) (by kernel_rfl) (by kernel_rfl) (by kernel_rfl) (fun _ _ _ h => h) (by rfl) hT0 (fun _ => trivial) ?hy1001 ?hr1001
          case hy1001 =>
           intro wq hSw
           obtain ⟨q0, q1, q2, q3, q4, q5⟩ := hSw
           go_simp
           try rfl
          try simp only [List.getElem_toArray, List.getElem_cons_zero, List.getElem_cons_succ, Act.put, List.setIfInBounds_toArray, List.set_cons_zero, List.set_cons_succ]
          refine Goes.dM (i := 1) (u := ?hu1002) rfl (by kernel_rfl) (by kernel_rfl) (by kernel_rfl) (by kernel_rfl) (fun _ _ _ h => h) (by rfl) hT0 (fun _ => trivial) ?hy1002 ?hr1002
          case hy1002 =>
           intro wq hSw
           obtain ⟨q0, q1, q2, q3, q4, q5⟩ := hSw
           go_simp
           try rfl
          try simp only [List.getElem_toArray, List.getElem_cons_zero, List.getElem_cons_succ, Act.put, List.setIfInBounds_toArray, List.set_cons_zero, List.set_cons_succ]
          refine Goes.dM (i := 4) (u := ?hu1003) rfl (by kernel_rfl) (by kernel_rfl) (by kernel_rfl) (by kernel_rfl) (fun _ _ _ h => h) (by rfl) hT0 (fun _ => trivial) ?hy1003 ?hr1003
          case hy1003 =>
           intro wq hSw
           obtain ⟨q0, q1, q2, q3, q4, q5⟩ := hSw
           go_simp
           try rfl
          try simp only [List.getElem_toArray, List.getElem_cons_zero, List.getElem_cons_succ, Act.put, List.setIfInBounds_toArray, List.set_cons_zero, List.set_cons_succ]
          refine Goes.dM (i := 5) (u := ?hu1004) rfl (by kernel_rfl) (by kernel_rfl) (by kernel_rfl) (by kernel_rfl) (fun _ _ _ h => h) (by rfl) hT0 (fun _ => trivial) ?hy1004 ?hr1004
          case hy1004 =>
           intro wq hSw
           obtain ⟨q0, q1, q2, q3, q4, q5⟩ := hSw
           go_simp
           try rfl
          try simp only [List.getElem_toArray, List.getElem_cons_zero, List.getElem_cons_succ, Act.put, List.setIfInBounds_toArray, List.set_cons_zero, List.set_cons_succ]
          refine Goes.one (i := 2) (by kernel_rfl) rfl (fun K' hK => ?_)
          try simp only [List.getElem_toArray, List.getElem_cons_zero, List.getElem_cons_succ, Act.put, List.setIfInBounds_toArray, List.set_cons_zero, List.set_cons_succ]
          go_simp
          go_at_call 9
          refine (hcallK.out Y0 hF0 hC0).mono ?_
          rintro e Y1 ⟨ck, kxs, rfl, hck, hokk, hC1, hE1⟩
          obtain ⟨kia, kic, kka, kkc, rfl⟩ := hck.eight
          have hE := hE1.mono (S' := fun q => q = w.heap.size ∨ q = w3.heap.size) (fun _ _ h => .inl h)
          have hX1 := (hE1.block _ (aH hX0) (by show ¬ w3.heap.size = w.heap.size; omega)).trans hX0
          have hNk : bK (New wx Y1) Y1 ck [.int .u64 ck.r0, .int .u64 ck.r1, .int .u64 ck.r2, .int .u64 ck.r3, .string ck.s, .bool ck.null, .slice kia ck.items.length kic, .slice kka ck.keys.length kkc] := hck.mono fun q hq => ⟨by have := hq.1; have := hF0.size; omega, hq.2⟩
          have hF1 := hF0.trans hE (fun _ _ h => h)
          have hT1 := hkeep.out _ _ hE hT0
          dsimp only
          refine hK.out _ _ hT1 (fun _ => trivial) ?_
          clear hK K'
          clear hE
          try simp only [List.getElem_toArray, List.getElem_cons_zero, List.getElem_cons_succ, Act.put, List.setIfInBounds_toArray, List.set_cons_zero, List.set_cons_succ]
          refine Goes.two (i := 3) (j := 6) (by kernel_rfl) rfl rfl (fun K' hK => ?_) (fun K' hK => ?_)
          try simp only [List.getElem_toArray, List.getElem_cons_zero, List.getElem_cons_succ, Act.put, List.setIfInBounds_toArray, List.set_cons_zero, List.set_cons_succ]
          go_simp
          have hE2 : Fr (fun _ => False) Y1 (Y1.alloc (.cells [.int .u64 ck.r0, .int .u64 ck.r1, .int .u64 ck.r2, .int .u64 ck.r3, .string ck.s, .bool ck.null, .slice kia ck.items.length kic, .slice kka ck.keys.length kkc].toArray 35)) := (Fr.refl _ Y1).alloc _
          have hE := hE2.mono (S' := fun q => q = w.heap.size ∨ q = w3.heap.size) (fun _ _ h => h.elim)
          have hC2 := hC1.fr hE2 (fun h => h) (fun _ _ h => h)
          have hX2 := (hE2.block _ (aH hX1) (fun h => h)).trans hX1
          have hSk := kE (w0 := wx) (W := Y1) (xs := [.int .u64 ck.r0, .int .u64 ck.r1, .int .u64 ck.r2, .int .u64 ck.r3, .string ck.s, .bool ck.null, .slice kia ck.items.length kic, .slice kka ck.keys.length kkc]) rfl hF1.size
          have hLk := aO.one (bK.to hE (bC hE hnx.out) _ _ hNk)
          have hF2 := hF1.trans hE (fun _ _ h => h)
          have hT2 := hkeep.out _ _ hE hT1
          replace hNk := bK.to hE (bC hE hnx.out) _ _ hNk
          refine hK.out _ _ hT2 (fun _ => trivial) ?_
          clear hK K'
          generalize Y1.alloc (.cells [.int .u64 ck.r0, .int .u64 ck.r1, .int .u64 ck.r2, .int .u64 ck.r3, .string ck.s, .bool ck.null, .slice kia ck.items.length kic, .slice kka ck.keys.length kkc].toArray 35) = Y2 at *
          clear hE
          try simp only [List.getElem_toArray, List.getElem_cons_zero, List.getElem_cons_succ, Act.put, List.setIfInBounds_toArray, List.set_cons_zero, List.set_cons_succ]
          refine Goes.dM (i := 8) (u := ?hu1005) rfl (by kernel_rfl) (by kernel_rfl) (by kernel_rfl) (by kernel_rfl) (fun _ _ _ h => h) (by rfl) hT2 (fun _ => trivial) ?hy1005 ?hr1005
          case hy1005 =>
           intro wq hSw
           obtain ⟨q0, q1, q2, q3, q4, q5⟩ := hSw
           go_simp
           try rfl
          try simp only [List.getElem_toArray, List.getElem_cons_zero, List.getElem_cons_succ, Act.put, List.setIfInBounds_toArray, List.set_cons_zero, List.set_cons_succ]
          refine Goes.one (i := 6) (by kernel_rfl) rfl (fun K' hK => ?_)
          try simp only [List.getElem_toArray, List.getElem_cons_zero, List.getElem_cons_succ, Act.put, List.setIfInBounds_toArray, List.set_cons_zero, List.set_cons_succ]
          go_simp
          go_at_call 9
          refine (hcallT.out Y2 hF2 hC2).mono ?_
          rintro e Y3 ⟨ct, txs, rfl, hct, hokt, hC3, hE3⟩
          obtain ⟨tia, tic, tka, tkc, rfl⟩ := hct.eight
          have hE := hE3.mono (S' := fun q => q = w.heap.size ∨ q = w3.heap.size) (fun _ _ h => .inl h)
          have hX3 := (hE3.block _ (aH hX2) (by show ¬ w3.heap.size = w.heap.size; omega)).trans hX2
          have hNt : bK (New wx Y3) Y3 ct [.int .u64 ct.r0, .int .u64 ct.r1, .int .u64 ct.r2, .int .u64 ct.r3, .string ct.s, .bool ct.null, .slice tia ct.items.length tic, .slice tka ct.keys.length tkc] := hct.mono fun q hq => ⟨by have := hq.1; have := hF2.size; omega, hq.2⟩
          have hF3 := hF2.trans hE (fun _ _ h => h)
          have hT3 := hkeep.out _ _ hE hT2
          replace hNk := bK.to hE (bC hE hnx.out) _ _ hNk
          replace hSk := hSk.to hE (bC hE hnx.out)
          replace hLk := aO.to hE (bC hE hnx.out) _ _ hLk
          dsimp only
          refine hK.out _ _ hT3 (fun _ => trivial) ?_
          clear hK K'
          clear hE
          try simp only [List.getElem_toArray, List.getElem_cons_zero, List.getElem_cons_succ, Act.put, List.setIfInBounds_toArray, List.set_cons_zero, List.set_cons_succ]
          refine Goes.two (i := 7) (j := 9) (by kernel_rfl) rfl rfl (fun K' hK => ?_) (fun K' hK => ?_)
          try simp only [List.getElem_toArray, List.getElem_cons_zero, List.getElem_cons_succ, Act.put, List.setIfInBounds_toArray, List.set_cons_zero, List.set_cons_succ]
          go_simp
          have hE4 : Fr (fun _ => False) Y3 (Y3.alloc (.cells [.int .u64 ct.r0, .int .u64 ct.r1, .int .u64 ct.r2, .int .u64 ct.r3, .string ct.s, .bool ct.null, .slice tia ct.items.length tic, .slice tka ct.keys.length tkc].toArray 35)) := (Fr.refl _ Y3).alloc _
          have hE := hE4.mono (S' := fun q => q = w.heap.size ∨ q = w3.heap.size) (fun _ _ h => h.elim)
          have hC4 := hC3.fr hE4 (fun h => h) (fun _ _ h => h)
          have hX4 := (hE4.block _ (aH hX3) (fun h => h)).trans hX3
          have hSt := kE (w0 := wx) (W := Y3) (xs := [.int .u64 ct.r0, .int .u64 ct.r1, .int .u64 ct.r2, .int .u64 ct.r3, .string ct.s, .bool ct.null, .slice tia ct.items.length tic, .slice tka ct.keys.length tkc]) rfl hF3.size
          have hLt := aO.one (bK.to hE (bC hE hnx.out) _ _ hNt)
          have hF4 := hF3.trans hE (fun _ _ h => h)
          have hT4 := hkeep.out _ _ hE hT3
          replace hNk := bK.to hE (bC hE hnx.out) _ _ hNk
          replace hSk := hSk.to hE (bC hE hnx.out)
          replace hLk := aO.to hE (bC hE hnx.out) _ _ hLk
          replace hNt := bK.to hE (bC hE hnx.out) _ _ hNt
          refine hK.out _ _ hT4 (fun _ => trivial) ?_
          clear hK K'
          generalize Y3.alloc (.cells [.int .u64 ct.r0, .int .u64 ct.r1, .int .u64 ct.r2, .int .u64 ct.r3, .string ct.s, .bool ct.null, .slice tia ct.items.length tic, .slice tka ct.keys.length tkc].toArray 35) = Y4 at *
          clear hE
          try simp only [List.getElem_toArray, List.getElem_cons_zero, List.getElem_cons_succ, Act.put, List.setIfInBounds_toArray, List.set_cons_zero, List.set_cons_succ]
          refine Goes.one (i := 9) (by kernel_rfl) rfl (fun K' hK => ?_)
          try simp only [List.getElem_toArray, List.getElem_cons_zero, List.getElem_cons_succ, Act.put, List.setIfInBounds_toArray, List.set_cons_zero, List.set_cons_succ]
          have hx7 := (aX.eight (aX.of_block hX4)).2.2.2.2.2.2.2
          have hz7 := frozen_of_row _ _ 7 _ _ hX4
          go_simp
          have hE5 : Fr (fun q => q = w3.heap.size) Y4 (Y4.setCell ⟨w3.heap.size, 7, none⟩ (.slice (some ⟨Y1.heap.size, 0, none⟩) 1 1)) := (Fr.refl (fun q => q = w3.heap.size) Y4).setCell (.inl rfl) _
          have hE := hE5.mono (S' := fun q => q = w.heap.size ∨ q = w3.heap.size) (fun _ _ h => .inr h)
          have hC5 := hC4.fr hE5 (by show ¬ w.heap.size = w3.heap.size; omega) (fun q hq => by show ¬ q = w3.heap.size; omega)
          have hX5 := kY (k' := .slice (some ⟨Y1.heap.size, 0, none⟩) 1 1) hX4
          have hF5 := hF4.trans hE (fun _ _ h => h)
          have hT5 := hkeep.out _ _ hE hT4
          replace hNk := bK.to hE (bC hE hnx.out) _ _ hNk
          replace hSk := hSk.to hE (bC hE hnx.out)
          replace hLk := aO.to hE (bC hE hnx.out) _ _ hLk
          replace hNt := bK.to hE (bC hE hnx.out) _ _ hNt
          replace hSt := hSt.to hE (bC hE hnx.out)
          replace hLt := aO.to hE (bC hE hnx.out) _ _ hLt
          refine hK.out _ _ hT5 (fun _ => trivial) ?_
          clear hK K'
          generalize Y4.setCell ⟨w3.heap.size, 7, none⟩ (.slice (some ⟨Y1.heap.size, 0, none⟩) 1 1) = Y5 at *
          clear hE
          try simp only [List.getElem_toArray, List.getElem_cons_zero, List.getElem_cons_succ, Act.put, List.setIfInBounds_toArray, List.set_cons_zero, List.set_cons_succ]
          refine Goes.dM (i := 10) (u := ?hu1006) rfl (by kernel_rfl) (by kernel_rfl) (by kernel_rfl) (by kernel_rfl) (fun _ _ _ h => h) (by rfl) hT5 (fun _ => trivial) ?hy1006 ?hr1006
          case hy1006 =>
           intro wq hSw
           obtain ⟨q0, q1, q2, q3, q4, q5⟩ := hSw
           go_simp
           try rfl
          try simp only [List.getElem_toArray, List.getElem_cons_zero, List.getElem_cons_succ, Act.put, List.setIfInBounds_toArray, List.set_cons_zero, List.set_cons_succ]
          refine Goes.one (i := 11) (by kernel_rfl) rfl (fun K' hK => ?_)
          try simp only [List.getElem_toArray, List.getElem_cons_zero, List.getElem_cons_succ, Act.put, List.setIfInBounds_toArray, List.set_cons_zero, List.set_cons_succ]
          have hx6 := (aX.eight (aX.of_block hX5)).2.2.2.2.2.2.1
          have hz6 := frozen_of_row _ _ 6 _ _ hX5
          go_simp
          have hE6 : Fr (fun q => q = w3.heap.size) Y5 (Y5.setCell ⟨w3.heap.size, 6, none⟩ (.slice (some ⟨Y3.heap.size, 0, none⟩) 1 1)) := (Fr.refl (fun q => q = w3.heap.size) Y5).setCell (.inl rfl) _
          have hE := hE6.mono (S' := fun q => q = w.heap.size ∨ q = w3.heap.size) (fun _ _ h => .inr h)
          have hC6 := hC5.fr hE6 (by show ¬ w.heap.size = w3.heap.size; omega) (fun q hq => by show ¬ q = w3.heap.size; omega)
          have hX6 := jP (g' := .slice (some ⟨Y3.heap.size, 0, none⟩) 1 1) hX5
          have hF6 := hF5.trans hE (fun _ _ h => h)
          have hT6 := hkeep.out _ _ hE hT5
          replace hNk := bK.to hE (bC hE hnx.out) _ _ hNk
          replace hSk := hSk.to hE (bC hE hnx.out)
          replace hLk := aO.to hE (bC hE hnx.out) _ _ hLk
          replace hNt := bK.to hE (bC hE hnx.out) _ _ hNt
          replace hSt := hSt.to hE (bC hE hnx.out)
          replace hLt := aO.to hE (bC hE hnx.out) _ _ hLt
          refine hK.out _ _ hT6 (fun _ => trivial) ?_
          clear hK K'
          generalize Y5.setCell ⟨w3.heap.size, 6, none⟩ (.slice (some ⟨Y3.heap.size, 0, none⟩) 1 1) = Y6 at *
          clear hE
          try simp only [List.getElem_toArray, List.getElem_cons_zero, List.getElem_cons_succ, Act.put, List.setIfInBounds_toArray, List.set_cons_zero, List.set_cons_succ]
          refine Goes.done (by kernel_rfl) ?_
          have hA0 := AtM.first (by omega) (Nat.le_refl _) hfr hf3 hgrH.out hxH.out hfx hsx hF6 hC6 hX6 hSk hLk hSt hLt
          have hYs := hF6.size
          clear hkeep hcallK hcallT hnx hT0 hT1 hT2 hT3 hT4 hT5 hT6
          clear hSk hLk hSt hLt hF6 hC6 hX6 hNk hNt hck hct
          generalize (some ⟨Y1.heap.size, 0, none⟩ : Option Addr) = kad at hA0 ⊢
          generalize (some ⟨Y3.heap.size, 0, none⟩ : Option Addr) = tad at hA0 ⊢
          rotate_left
          try simp only [List.getElem_toArray, List.getElem_cons_zero, List.getElem_cons_succ, Act.put, List.setIfInBounds_toArray, List.set_cons_zero, List.set_cons_succ]
          have hx7 := (aX.eight (aX.of_block hX3)).2.2.2.2.2.2.2
          have hz7 := frozen_of_row _ _ 7 _ _ hX3
          go_simp
          have hE4 : Fr (fun q => q = w3.heap.size) Y3 (Y3.setCell ⟨w3.heap.size, 7, none⟩ (.slice (some ⟨Y1.heap.size, 0, none⟩) 1 1)) := (Fr.refl (fun q => q = w3.heap.size) Y3).setCell (.inl rfl) _
          have hE := hE4.mono (S' := fun q => q = w.heap.size ∨ q = w3.heap.size) (fun _ _ h => .inr h)
          have hC4 := hC3.fr hE4 (by show ¬ w.heap.size = w3.heap.size; omega) (fun q hq => by show ¬ q = w3.heap.size; omega)
          have hX4 := kY (k' := .slice (some ⟨Y1.heap.size, 0, none⟩) 1 1) hX3
          have hF4 := hF3.trans hE (fun _ _ h => h)
          have hT4 := hkeep.out _ _ hE hT3
          replace hNk := bK.to hE (bC hE hnx.out) _ _ hNk
          replace hSk := hSk.to hE (bC hE hnx.out)
          replace hLk := aO.to hE (bC hE hnx.out) _ _ hLk
          replace hNt := bK.to hE (bC hE hnx.out) _ _ hNt
          refine hK.out _ _ hT4 (fun _ => trivial) ?_
          clear hK K'
          generalize Y3.setCell ⟨w3.heap.size, 7, none⟩ (.slice (some ⟨Y1.heap.size, 0, none⟩) 1 1) = Y4 at *
          clear hE
          try simp only [List.getElem_toArray, List.getElem_cons_zero, List.getElem_cons_succ, Act.put, List.setIfInBounds_toArray, List.set_cons_zero, List.set_cons_succ]
          refine Goes.one (i := 7) (by kernel_rfl) rfl (fun K' hK => ?_)
          try simp only [List.getElem_toArray, List.getElem_cons_zero, List.getElem_cons_succ, Act.put, List.setIfInBounds_toArray, List.set_cons_zero, List.set_cons_succ]
          go_simp
          have hE5 : Fr (fun _ => False) Y4 (Y4.alloc (.cells [.int .u64 ct.r0, .int .u64 ct.r1, .int .u64 ct.r2, .int .u64 ct.r3, .string ct.s, .bool ct.null, .slice tia ct.items.length tic, .slice tka ct.keys.length tkc].toArray 35)) := (Fr.refl _ Y4).alloc _
          have hE := hE5.mono (S' := fun q => q = w.heap.size ∨ q = w3.heap.size) (fun _ _ h => h.elim)
          have hC5 := hC4.fr hE5 (fun h => h) (fun _ _ h => h)
          have hX5 := (hE5.block _ (aH hX4) (fun h => h)).trans hX4
          have hSt := kE (w0 := wx) (W := Y4) (xs := [.int .u64 ct.r0, .int .u64 ct.r1, .int .u64 ct.r2, .int .u64 ct.r3, .string ct.s, .bool ct.null, .slice tia ct.items.length tic, .slice tka ct.keys.length tkc]) rfl hF4.size
          have hLt := aO.one (bK.to hE (bC hE hnx.out) _ _ hNt)
          have hF5 := hF4.trans hE (fun _ _ h => h)
          have hT5 := hkeep.out _ _ hE hT4
          replace hNk := bK.to hE (bC hE hnx.out) _ _ hNk
          replace hSk := hSk.to hE (bC hE hnx.out)
          replace hLk := aO.to hE (bC hE hnx.out) _ _ hLk
          replace hNt := bK.to hE (bC hE hnx.out) _ _ hNt
          refine hK.out _ _ hT5 (fun _ => trivial) ?_
          clear hK K'
          generalize Y4.alloc (.cells [.int .u64 ct.r0, .int .u64 ct.r1, .int .u64 ct.r2, .int .u64 ct.r3, .string ct.s, .bool ct.null, .slice tia ct.items.length tic, .slice tka ct.keys.length tkc].toArray 35) = Y5 at *
          clear hE
          try simp only [List.getElem_toArray, List.getElem_cons_zero, List.getElem_cons_succ, Act.put, List.setIfInBounds_toArray, List.set_cons_zero, List.set_cons_succ]
          refine Goes.dM (i := 10) (u := ?hu1007) rfl (by kernel_rfl) (by kernel_rfl) (by kernel_rfl) (by kernel_rfl) (fun _ _ _ h => h) (by rfl) hT5 (fun _ => trivial) ?hy1007 ?hr1007
          case hy1007 =>
           intro wq hSw
           obtain ⟨q0, q1, q2, q3, q4, q5⟩ := hSw
           go_simp
           try rfl
          try simp only [List.getElem_toArray, List.getElem_cons_zero, List.getElem_cons_succ, Act.put, List.setIfInBounds_toArray, List.set_cons_zero, List.set_cons_succ]
          refine Goes.one (i := 11) (by kernel_rfl) rfl (fun K' hK => ?_)
          try simp only [List.getElem_toArray, List.getElem_cons_zero, List.getElem_cons_succ, Act.put, List.setIfInBounds_toArray, List.set_cons_zero, List.set_cons_succ]
          have hx6 := (aX.eight (aX.of_block hX5)).2.2.2.2.2.2.1
          have hz6 := frozen_of_row _ _ 6 _ _ hX5
          go_simp
          have hE6 : Fr (fun q => q = w3.heap.size) Y5 (Y5.setCell ⟨w3.heap.size, 6, none⟩ (.slice (some ⟨Y4.heap.size, 0, none⟩) 1 1)) := (Fr.refl (fun q => q = w3.heap.size) Y5).setCell (.inl rfl) _
          have hE := hE6.mono (S' := fun q => q = w.heap.size ∨ q = w3.heap.size) (fun _ _ h => .inr h)
          have hC6 := hC5.fr hE6 (by show ¬ w.heap.size = w3.heap.size; omega) (fun q hq => by show ¬ q = w3.heap.size; omega)
          have hX6 := jP (g' := .slice (some ⟨Y4.heap.size, 0, none⟩) 1 1) hX5
          have hF6 := hF5.trans hE (fun _ _ h => h)
          have hT6 := hkeep.out _ _ hE hT5
          replace hNk := bK.to hE (bC hE hnx.out) _ _ hNk
          replace hSk := hSk.to hE (bC hE hnx.out)
          replace hLk := aO.to hE (bC hE hnx.out) _ _ hLk
          replace hNt := bK.to hE (bC hE hnx.out) _ _ hNt
          replace hSt := hSt.to hE (bC hE hnx.out)
          replace hLt := aO.to hE (bC hE hnx.out) _ _ hLt
          refine hK.out _ _ hT6 (fun _ => trivial) ?_
          clear hK K'
          generalize Y5.setCell ⟨w3.heap.size, 6, none⟩ (.slice (some ⟨Y4.heap.size, 0, none⟩) 1 1) = Y6 at *
          clear hE
          try simp only [List.getElem_toArray, List.getElem_cons_zero, List.getElem_cons_succ, Act.put, List.setIfInBounds_toArray, List.set_cons_zero, List.set_cons_succ]
          refine Goes.done (by kernel_rfl) ?_
          have hA0 := AtM.first (by omega) (Nat.le_refl _) hfr hf3 hgrH.out hxH.out hfx hsx hF6 hC6 hX6 hSk hLk hSt hLt
          have hYs := hF6.size
          clear hkeep hcallK hcallT hnx hT0 hT1 hT2 hT3 hT4 hT5 hT6
          clear hSk hLk hSt hLt hF6 hC6 hX6 hNk hNt hck hct
          generalize (some ⟨Y1.heap.size, 0, none⟩ : Option Addr) = kad at hA0 ⊢
          generalize (some ⟨Y4.heap.size, 0, none⟩ : Option Addr) = tad at hA0 ⊢
          rotate_left
          try simp only [List.getElem_toArray, List.getElem_cons_zero, List.getElem_cons_succ, Act.put, List.setIfInBounds_toArray, List.set_cons_zero, List.set_cons_succ]
          go_simp
          go_at_call 9
          refine (hcallT.out Y1 hF1 hC1).mono ?_
          rintro e Y2 ⟨ct, txs, rfl, hct, hokt, hC2, hE2⟩
          obtain ⟨tia, tic, tka, tkc, rfl⟩ := hct.eight
          have hE := hE2.mono (S' := fun q => q = w.heap.size ∨ q = w3.heap.size) (fun _ _ h => .inl h)
          have hX2 := (hE2.block _ (aH hX1) (by show ¬ w3.heap.size = w.heap.size; omega)).trans hX1
          have hNt : bK (New wx Y2) Y2 ct [.int .u64 ct.r0, .int .u64 ct.r1, .int .u64 ct.r2, .int .u64 ct.r3, .string ct.s, .bool ct.null, .slice tia ct.items.length tic, .slice tka ct.keys.length tkc] := hct.mono fun q hq => ⟨by have := hq.1; have := hF1.size; omega, hq.2⟩
          have hF2 := hF1.trans hE (fun _ _ h => h)
          have hT2 := hkeep.out _ _ hE hT1
          replace hNk := bK.to hE (bC hE hnx.out) _ _ hNk
          dsimp only
          refine hK.out _ _ hT2 (fun _ => trivial) ?_
          clear hK K'
          clear hE
          try simp only [List.getElem_toArray, List.getElem_cons_zero, List.getElem_cons_succ, Act.put, List.setIfInBounds_toArray, List.set_cons_zero, List.set_cons_succ]
          refine Goes.two (i := 3) (j := 7) (by kernel_rfl) rfl rfl (fun K' hK => ?_) (fun K' hK => ?_)
          try simp only [List.getElem_toArray, List.getElem_cons_zero, List.getElem_cons_succ, Act.put, List.setIfInBounds_toArray, List.set_cons_zero, List.set_cons_succ]
          go_simp
          have hE3 : Fr (fun _ => False) Y2 (Y2.alloc (.cells [.int .u64 ck.r0, .int .u64 ck.r1, .int .u64 ck.r2, .int .u64 ck.r3, .string ck.s, .bool ck.null, .slice kia ck.items.length kic, .slice kka ck.keys.length kkc].toArray 35)) := (Fr.refl _ Y2).alloc _
          have hE := hE3.mono (S' := fun q => q = w.heap.size ∨ q = w3.heap.size) (fun _ _ h => h.elim)
          have hC3 := hC2.fr hE3 (fun h => h) (fun _ _ h => h)
          have hX3 := (hE3.block _ (aH hX2) (fun h => h)).trans hX2
          have hSk := kE (w0 := wx) (W := Y2) (xs := [.int .u64 ck.r0, .int .u64 ck.r1, .int .u64 ck.r2, .int .u64 ck.r3, .string ck.s, .bool ck.null, .slice kia ck.items.length kic, .slice kka ck.keys.length kkc]) rfl hF2.size
          have hLk := aO.one (bK.to hE (bC hE hnx.out) _ _ hNk)
          have hF3 := hF2.trans hE (fun _ _ h => h)
          have hT3 := hkeep.out _ _ hE hT2
          replace hNk := bK.to hE (bC hE hnx.out) _ _ hNk
          replace hNt := bK.to hE (bC hE hnx.out) _ _ hNt
          refine hK.out _ _ hT3 (fun _ => trivial) ?_
          clear hK K'
          generalize Y2.alloc (.cells [.int .u64 ck.r0, .int .u64 ck.r1, .int .u64 ck.r2, .int .u64 ck.r3, .string ck.s, .bool ck.null, .slice kia ck.items.length kic, .slice kka ck.keys.length kkc].toArray 35) = Y3 at *
          clear hE
          try simp only [List.getElem_toArray, List.getElem_cons_zero, List.getElem_cons_succ, Act.put, List.setIfInBounds_toArray, List.set_cons_zero, List.set_cons_succ]
          refine Goes.dM (i := 8) (u := ?hu1008) rfl (by kernel_rfl) (by kernel_rfl) (by kernel_rfl) (by kernel_rfl) (fun _ _ _ h => h) (by rfl) hT3 (fun _ => trivial) ?hy1008 ?hr1008
          case hy1008 =>
           intro wq hSw
           obtain ⟨q0, q1, q2, q3, q4, q5⟩ := hSw
           go_simp
           try rfl
          try simp only [List.getElem_toArray, List.getElem_cons_zero, List.getElem_cons_succ, Act.put, List.setIfInBounds_toArray, List.set_cons_zero, List.set_cons_succ]
          refine Goes.two (i := 7) (j := 9) (by kernel_rfl) rfl rfl (fun K' hK => ?_) (fun K' hK => ?_)
          try simp only [List.getElem_toArray, List.getElem_cons_zero, List.getElem_cons_succ, Act.put, List.setIfInBounds_toArray, List.set_cons_zero, List.set_cons_succ]
          go_simp
          have hE4 : Fr (fun _ => False) Y3 (Y3.alloc (.cells [.int .u64 ct.r0, .int .u64 ct.r1, .int .u64 ct.r2, .int .u64 ct.r3, .string ct.s, .bool ct.null, .slice tia ct.items.length tic, .slice tka ct.keys.length tkc].toArray 35)) := (Fr.refl _ Y3).alloc _
          have hE := hE4.mono (S' := fun q => q = w.heap.size ∨ q = w3.heap.size) (fun _ _ h => h.elim)
          have hC4 := hC3.fr hE4 (fun h => h) (fun _ _ h => h)
          have hX4 := (hE4.block _ (aH hX3) (fun h => h)).trans hX3
          have hSt := kE (w0 := wx) (W := Y3) (xs := [.int .u64 ct.r0, .int .u64 ct.r1, .int .u64 ct.r2, .int .u64 ct.r3, .string ct.s, .bool ct.null, .slice tia ct.items.length tic, .slice tka ct.keys.length tkc]) rfl hF3.size
          have hLt := aO.one (bK.to hE (bC hE hnx.out) _ _ hNt)
          have hF4 := hF3.trans hE (fun _ _ h => h)
          have hT4 := hkeep.out _ _ hE hT3
          replace hNk := bK.to hE (bC hE hnx.out) _ _ hNk
          replace hNt := bK.to hE (bC hE hnx.out) _ _ hNt
          replace hSk := hSk.to hE (bC hE hnx.out)
          replace hLk := aO.to hE (bC hE hnx.out) _ _ hLk
          refine hK.out _ _ hT4 (fun _ => trivial) ?_
          clear hK K'
          generalize Y3.alloc (.cells [.int .u64 ct.r0, .int .u64 ct.r1, .int .u64 ct.r2, .int .u64 ct.r3, .string ct.s, .bool ct.null, .slice tia ct.items.length tic, .slice tka ct.keys.length tkc].toArray 35) = Y4 at *
          clear hE
          try simp only [List.getElem_toArray, List.getElem_cons_zero, List.getElem_cons_succ, Act.put, List.setIfInBounds_toArray, List.set_cons_zero, List.set_cons_succ]
          refine Goes.one (i := 9) (by kernel_rfl) rfl (fun K' hK => ?_)
          try simp only [List.getElem_toArray, List.getElem_cons_zero, List.getElem_cons_succ, Act.put, List.setIfInBounds_toArray, List.set_cons_zero, List.set_cons_succ]
          have hx7 := (aX.eight (aX.of_block hX4)).2.2.2.2.2.2.2
          have hz7 := frozen_of_row _ _ 7 _ _ hX4
          go_simp
          have hE5 : Fr (fun q => q = w3.heap.size) Y4 (Y4.setCell ⟨w3.heap.size, 7, none⟩ (.slice (some ⟨Y2.heap.size, 0, none⟩) 1 1)) := (Fr.refl (fun q => q = w3.heap.size) Y4).setCell (.inl rfl) _
          have hE := hE5.mono (S' := fun q => q = w.heap.size ∨ q = w3.heap.size) (fun _ _ h => .inr h)
          have hC5 := hC4.fr hE5 (by show ¬ w.heap.size = w3.heap.size; omega) (fun q hq => by show ¬ q = w3.heap.size; omega)
          have hX5 := kY (k' := .slice (some ⟨Y2.heap.size, 0, none⟩) 1 1) hX4
          have hF5 := hF4.trans hE (fun _ _ h => h)
          have hT5 := hkeep.out _ _ hE hT4
          replace hNk := bK.to hE (bC hE hnx.out) _ _ hNk
          replace hNt := bK.to hE (bC hE hnx.out) _ _ hNt
          replace hSk := hSk.to hE (bC hE hnx.out)
          replace hLk := aO.to hE (bC hE hnx.out) _ _ hLk
          replace hSt := hSt.to hE (bC hE hnx.out)
          replace hLt := aO.to hE (bC hE hnx.out) _ _ hLt
          refine hK.out _ _ hT5 (fun _ => trivial) ?_
          clear hK K'
          generalize Y4.setCell ⟨w3.heap.size, 7, none⟩ (.slice (some ⟨Y2.heap.size, 0, none⟩) 1 1) = Y5 at *
          clear hE
          try simp only [List.getElem_toArray, List.getElem_cons_zero, List.getElem_cons_succ, Act.put, List.setIfInBounds_toArray, List.set_cons_zero, List.set_cons_succ]
          refine Goes.dM (i := 10) (u := ?hu1009) rfl (by kernel_rfl) (by kernel_rfl) (by kernel_rfl) (by kernel_rfl) (fun _ _ _ h => h) (by rfl) hT5 (fun _ => trivial) ?hy1009 ?hr1009
          case hy1009 =>
           intro wq hSw
           obtain ⟨q0, q1, q2, q3, q4, q5⟩ := hSw
           go_simp
           try rfl
          try simp only [List.getElem_toArray, List.getElem_cons_zero, List.getElem_cons_succ, Act.put, List.setIfInBounds_toArray, List.set_cons_zero, List.set_cons_succ]
          refine Goes.one (i := 11) (by kernel_rfl) rfl (fun K' hK => ?_)
          try simp only [List.getElem_toArray, List.getElem_cons_zero, List.getElem_cons_succ, Act.put, List.setIfInBounds_toArray, List.set_cons_zero, List.set_cons_succ]
          have hx6 := (aX.eight (aX.of_block hX5)).2.2.2.2.2.2.1
          have hz6 := frozen_of_row _ _ 6 _ _ hX5
          go_simp
          have hE6 : Fr (fun q => q = w3.heap.size) Y5 (Y5.setCell ⟨w3.heap.size, 6, none⟩ (.slice (some ⟨Y3.heap.size, 0, none⟩) 1 1)) := (Fr.refl (fun q => q = w3.heap.size) Y5).setCell (.inl rfl) _
          have hE := hE6.mono (S' := fun q => q = w.heap.size ∨ q = w3.heap.size) (fun _ _ h => .inr h)
          have hC6 := hC5.fr hE6 (by show ¬ w.heap.size = w3.heap.size; omega) (fun q hq => by show ¬ q = w3.heap.size; omega)
          have hX6 := jP (g' := .slice (some ⟨Y3.heap.size, 0, none⟩) 1 1) hX5
          have hF6 := hF5.trans hE (fun _ _ h => h)
          have hT6 := hkeep.out _ _ hE hT5
          replace hNk := bK.to hE (bC hE hnx.out) _ _ hNk
          replace hNt := bK.to hE (bC hE hnx.out) _ _ hNt
          replace hSk := hSk.to hE (bC hE hnx.out)
          replace hLk := aO.to hE (bC hE hnx.out) _ _ hLk
          replace hSt := hSt.to hE (bC hE hnx.out)
          replace hLt := aO.to hE (bC hE hnx.out) _ _ hLt
          refine hK.out _ _ hT6 (fun _ => trivial) ?_
          clear hK K'
          generalize Y5.setCell ⟨w3.heap.size, 6, none⟩ (.slice (some ⟨Y3.heap.size, 0, none⟩) 1 1) = Y6 at *
          clear hE
          try simp only [List.getElem_toArray, List.getElem_cons_zero, List.getElem_cons_succ, Act.put, List.setIfInBounds_toArray, List.set_cons_zero, List.set_cons_succ]
          refine Goes.done (by kernel_rfl) ?_
          have hA0 := AtM.first (by omega) (Nat.le_refl _) hfr hf3 hgrH.out hxH.out hfx hsx hF6 hC6 hX6 hSk hLk hSt hLt
          have hYs := hF6.size
          clear hkeep hcallK hcallT hnx hT0 hT1 hT2 hT3 hT4 hT5 hT6
          clear hSk hLk hSt hLt hF6 hC6 hX6 hNk hNt hck hct
          generalize (some ⟨Y2.heap.size, 0, none⟩ : Option Addr) = kad at hA0 ⊢
          generalize (some ⟨Y3.heap.size, 0, none⟩ : Option Addr) = tad at hA0 ⊢
          rotate_left
          try simp only [List.getElem_toArray, List.getElem_cons_zero, List.getElem_cons_succ, Act.put, List.setIfInBounds_toArray, List.set_cons_zero, List.set_cons_succ]
          have hx7 := (aX.eight (aX.of_block hX3)).2.2.2.2.2.2.2
          have hz7 := frozen_of_row _ _ 7 _ _ hX3
          go_simp
          have hE4 : Fr (fun q => q = w3.heap.size) Y3 (Y3.setCell ⟨w3.heap.size, 7, none⟩ (.slice (some ⟨Y2.heap.size, 0, none⟩) 1 1)) := (Fr.refl (fun q => q = w3.heap.size) Y3).setCell (.inl rfl) _
          have hE := hE4.mono (S' := fun q => q = w.heap.size ∨ q = w3.heap.size) (fun _ _ h => .inr h)
          have hC4 := hC3.fr hE4 (by show ¬ w.heap.size = w3.heap.size; omega) (fun q hq => by show ¬ q = w3.heap.size; omega)
          have hX4 := kY (k' := .slice (some ⟨Y2.heap.size, 0, none⟩) 1 1) hX3
          have hF4 := hF3.trans hE (fun _ _ h => h)
          have hT4 := hkeep.out _ _ hE hT3
          replace hNk := bK.to hE (bC hE hnx.out) _ _ hNk
          replace hNt := bK.to hE (bC hE hnx.out) _ _ hNt
          replace hSk := hSk.to hE (bC hE hnx.out)
          replace hLk := aO.to hE (bC hE hnx.out) _ _ hLk
          refine hK.out _ _ hT4 (fun _ => trivial) ?_
          clear hK K'
          generalize Y3.setCell ⟨w3.heap.size, 7, none⟩ (.slice (some ⟨Y2.heap.size, 0, none⟩) 1 1) = Y4 at *
          clear hE
          try simp only [List.getElem_toArray, List.getElem_cons_zero, List.getElem_cons_succ, Act.put, List.setIfInBounds_toArray, List.set_cons_zero, List.set_cons_succ]
          refine Goes.one (i := 7) (by kernel_rfl) rfl (fun K' hK => ?_)
          try simp only [List.getElem_toArray, List.getElem_cons_zero, List.getElem_cons_succ, Act.put, List.setIfInBounds_toArray, List.set_cons_zero, List.set_cons_succ]
          go_simp
          have hE5 : Fr (fun _ => False) Y4 (Y4.alloc (.cells [.int .u64 ct.r0, .int .u64 ct.r1, .int .u64 ct.r2, .int .u64 ct.r3, .string ct.s, .bool ct.null, .slice tia ct.items.length tic, .slice tka ct.keys.length tkc].toArray 35)) := (Fr.refl _ Y4).alloc _
          have hE := hE5.mono (S' := fun q => q = w.heap.size ∨ q = w3.heap.size) (fun _ _ h => h.elim)
          have hC5 := hC4.fr hE5 (fun h => h) (fun _ _ h => h)
          have hX5 := (hE5.block _ (aH hX4) (fun h => h)).trans hX4
          have hSt := kE (w0 := wx) (W := Y4) (xs := [.int .u64 ct.r0, .int .u64 ct.r1, .int .u64 ct.r2, .int .u64 ct.r3, .string ct.s, .bool ct.null, .slice tia ct.items.length tic, .slice tka ct.keys.length tkc]) rfl hF4.size
          have hLt := aO.one (bK.to hE (bC hE hnx.out) _ _ hNt)
          have hF5 := hF4.trans hE (fun _ _ h => h)
          have hT5 := hkeep.out _ _ hE hT4
          replace hNk := bK.to hE (bC hE hnx.out) _ _ hNk
          replace hNt := bK.to hE (bC hE hnx.out) _ _ hNt
          replace hSk := hSk.to hE (bC hE hnx.out)
          replace hLk := aO.to hE (bC hE hnx.out) _ _ hLk
          refine hK.out _ _ hT5 (fun _ => trivial) ?_
          clear hK K'
          generalize Y4.alloc (.cells [.int .u64 ct.r0, .int .u64 ct.r1, .int .u64 ct.r2, .int .u64 ct.r3, .string ct.s, .bool ct.null, .slice tia ct.items.length tic, .slice tka ct.keys.length tkc].toArray 35) = Y5 at *
          clear hE
          try simp only [List.getElem_toArray, List.getElem_cons_zero, List.getElem_cons_succ, Act.put, List.setIfInBounds_toArray, List.set_cons_zero, List.set_cons_succ]
          refine Goes.dM (i := 10) (u := ?hu1010) rfl (by kernel_rfl) (by kernel_rfl) (by kernel_rfl) (by kernel_rfl) (fun _ _ _ h => h) (by rfl) hT5 (fun _ => trivial) ?hy1010 ?hr1010
          case hy1010 =>
           intro wq hSw
           obtain ⟨q0, q1, q2, q3, q4, q5⟩ := hSw
           go_simp
           try rfl
          try simp only [List.getElem_toArray, List.getElem_cons_zero, List.getElem_cons_succ, Act.put, List.setIfInBounds_toArray, List.set_cons_zero, List.set_cons_succ]
          refine Goes.one (i := 11) (by kernel_rfl) rfl (fun K' hK => ?_)
          try simp only [List.getElem_toArray, List.getElem_cons_zero, List.getElem_cons_succ, Act.put, List.setIfInBounds_toArray, List.set_cons_zero, List.set_cons_succ]
          have hx6 := (aX.eight (aX.of_block hX5)).2.2.2.2.2.2.1
          have hz6 := frozen_of_row _ _ 6 _ _ hX5
          go_simp
          have hE6 : Fr (fun q => q = w3.heap.size) Y5 (Y5.setCell ⟨w3.heap.size, 6, none⟩ (.slice (some ⟨Y4.heap.size, 0, none⟩) 1 1)) := (Fr.refl (fun q => q = w3.heap.size) Y5).setCell (.inl rfl) _
          have hE := hE6.mono (S' := fun q => q = w.heap.size ∨ q = w3.heap.size) (fun _ _ h => .inr h)
          have hC6 := hC5.fr hE6 (by show ¬ w.heap.size = w3.heap.size; omega) (fun q hq => by show ¬ q = w3.heap.size; omega)
          have hX6 := jP (g' := .slice (some ⟨Y4.heap.size, 0, none⟩) 1 1) hX5
          have hF6 := hF5.trans hE (fun _ _ h => h)
          have hT6 := hkeep.out _ _ hE hT5
          replace hNk := bK.to hE (bC hE hnx.out) _ _ hNk
          replace hNt := bK.to hE (bC hE hnx.out) _ _ hNt
          replace hSk := hSk.to hE (bC hE hnx.out)
          replace hLk := aO.to hE (bC hE hnx.out) _ _ hLk
          replace hSt := hSt.to hE (bC hE hnx.out)
          replace hLt := aO.to hE (bC hE hnx.out) _ _ hLt
          refine hK.out _ _ hT6 (fun _ => trivial) ?_
          clear hK K'
          generalize Y5.setCell ⟨w3.heap.size, 6, none⟩ (.slice (some ⟨Y4.heap.size, 0, none⟩) 1 1) = Y6 at *
          clear hE
          try simp only [List.getElem_toArray, List.getElem_cons_zero, List.getElem_cons_succ, Act.put, List.setIfInBounds_toArray, List.set_cons_zero, List.set_cons_succ]
          refine Goes.done (by kernel_rfl) ?_
          have hA0 := AtM.first (by omega) (Nat.le_refl _) hfr hf3 hgrH.out hxH.out hfx hsx hF6 hC6 hX6 hSk hLk hSt hLt
          have hYs := hF6.size
          clear hkeep hcallK hcallT hnx hT0 hT1 hT2 hT3 hT4 hT5 hT6
          clear hSk hLk hSt hLt hF6 hC6 hX6 hNk hNt hck hct
          generalize (some ⟨Y2.heap.size, 0, none⟩ : Option Addr) = kad at hA0 ⊢
          generalize (some ⟨Y4.heap.size, 0, none⟩ : Option Addr) = tad at hA0 ⊢
          rotate_left
          try simp only [List.getElem_toArray, List.getElem_cons_zero, List.getElem_cons_succ, Act.put, List.setIfInBounds_toArray, List.set_cons_zero, List.set_cons_succ]
          go_simp
          have hE3 : Fr (fun _ => False) Y2 (Y2.alloc (.cells [.int .u64 ct.r0, .int .u64 ct.r1, .int .u64 ct.r2, .int .u64 ct.r3, .string ct.s, .bool ct.null, .slice tia ct.items.length tic, .slice tka ct.keys.length tkc].toArray 35)) := (Fr.refl _ Y2).alloc _
          have hE := hE3.mono (S' := fun q => q = w.heap.size ∨ q = w3.heap.size) (fun _ _ h => h.elim)
          have hC3 := hC2.fr hE3 (fun h => h) (fun _ _ h => h)
          have hX3 := (hE3.block _ (aH hX2) (fun h => h)).trans hX2
          have hSt := kE (w0 := wx) (W := Y2) (xs := [.int .u64 ct.r0, .int .u64 ct.r1, .int .u64 ct.r2, .int .u64 ct.r3, .string ct.s, .bool ct.null, .slice tia ct.items.length tic, .slice tka ct.keys.length tkc]) rfl hF2.size
          have hLt := aO.one (bK.to hE (bC hE hnx.out) _ _ hNt)
          have hF3 := hF2.trans hE (fun _ _ h => h)
          have hT3 := hkeep.out _ _ hE hT2
          replace hNk := bK.to hE (bC hE hnx.out) _ _ hNk
          replace hNt := bK.to hE (bC hE hnx.out) _ _ hNt
          refine hK.out _ _ hT3 (fun _ => trivial) ?_
          clear hK K'
          generalize Y2.alloc (.cells [.int .u64 ct.r0, .int .u64 ct.r1, .int .u64 ct.r2, .int .u64 ct.r3, .string ct.s, .bool ct.null, .slice tia ct.items.length tic, .slice tka ct.keys.length tkc].toArray 35) = Y3 at *
          clear hE
          try simp only [List.getElem_toArray, List.getElem_cons_zero, List.getElem_cons_succ, Act.put, List.setIfInBounds_toArray, List.set_cons_zero, List.set_cons_succ]
          refine Goes.one (i := 3) (by kernel_rfl) rfl (fun K' hK => ?_)
          try simp only [List.getElem_toArray, List.getElem_cons_zero, List.getElem_cons_succ, Act.put, List.setIfInBounds_toArray, List.set_cons_zero, List.set_cons_succ]
          go_simp
          have hE4 : Fr (fun _ => False) Y3 (Y3.alloc (.cells [.int .u64 ck.r0, .int .u64 ck.r1, .int .u64 ck.r2, .int .u64 ck.r3, .string ck.s, .bool ck.null, .slice kia ck.items.length kic, .slice kka ck.keys.length kkc].toArray 35)) := (Fr.refl _ Y3).alloc _
          have hE := hE4.mono (S' := fun q => q = w.heap.size ∨ q = w3.heap.size) (fun _ _ h => h.elim)
          have hC4 := hC3.fr hE4 (fun h => h) (fun _ _ h => h)
          have hX4 := (hE4.block _ (aH hX3) (fun h => h)).trans hX3
          have hSk := kE (w0 := wx) (W := Y3) (xs := [.int .u64 ck.r0, .int .u64 ck.r1, .int .u64 ck.r2, .int .u64 ck.r3, .string ck.s, .bool ck.null, .slice kia ck.items.length kic, .slice kka ck.keys.length kkc]) rfl hF3.size
          have hLk := aO.one (bK.to hE (bC hE hnx.out) _ _ hNk)
          have hF4 := hF3.trans hE (fun _ _ h => h)
          have hT4 := hkeep.out _ _ hE hT3
          replace hNk := bK.to hE (bC hE hnx.out) _ _ hNk
          replace hNt := bK.to hE (bC hE hnx.out) _ _ hNt
          replace hSt := hSt.to hE (bC hE hnx.out)
          replace hLt := aO.to hE (bC hE hnx.out) _ _ hLt
          refine hK.out _ _ hT4 (fun _ => trivial) ?_
          clear hK K'
          generalize Y3.alloc (.cells [.int .u64 ck.r0, .int .u64 ck.r1, .int .u64 ck.r2, .int .u64 ck.r3, .string ck.s, .bool ck.null, .slice kia ck.items.length kic, .slice kka ck.keys.length kkc].toArray 35) = Y4 at *
          clear hE
          try simp only [List.getElem_toArray, List.getElem_cons_zero, List.getElem_cons_succ, Act.put, List.setIfInBounds_toArray, List.set_cons_zero, List.set_cons_succ]
          refine Goes.dM (i := 8) (u := ?hu1011) rfl (by kernel_rfl) (by kernel_rfl) (by kernel_rfl) (by kernel_rfl) (fun _ _ _ h => h) (by rfl) hT4 (fun _ => trivial) ?hy1011 ?hr1011
          case hy1011 =>
           intro wq hSw
           obtain ⟨q0, q1, q2, q3, q4, q5⟩ := hSw
           go_simp
           try rfl
          try simp only [List.getElem_toArray, List.getElem_cons_zero, List.getElem_cons_succ, Act.put, List.setIfInBounds_toArray, List.set_cons_zero, List.set_cons_succ]
          refine Goes.one (i := 9) (by kernel_rfl) rfl (fun K' hK => ?_)
          try simp only [List.getElem_toArray, List.getElem_cons_zero, List.getElem_cons_succ, Act.put, List.setIfInBounds_toArray, List.set_cons_zero, List.set_cons_succ]
          have hx7 := (aX.eight (aX.of_block hX4)).2.2.2.2.2.2.2
          have hz7 := frozen_of_row _ _ 7 _ _ hX4
          go_simp
          have hE5 : Fr (fun q => q = w3.heap.size) Y4 (Y4.setCell ⟨w3.heap.size, 7, none⟩ (.slice (some ⟨Y3.heap.size, 0, none⟩) 1 1)) := (Fr.refl (fun q => q = w3.heap.size) Y4).setCell (.inl rfl) _
          have hE := hE5.mono (S' := fun q => q = w.heap.size ∨ q = w3.heap.size) (fun _ _ h => .inr h)
          have hC5 := hC4.fr hE5 (by show ¬ w.heap.size = w3.heap.size; omega) (fun q hq => by show ¬ q = w3.heap.size; omega)
          have hX5 := kY (k' := .slice (some ⟨Y3.heap.size, 0, none⟩) 1 1) hX4
          have hF5 := hF4.trans hE (fun _ _ h => h)
          have hT5 := hkeep.out _ _ hE hT4
          replace hNk := bK.to hE (bC hE hnx.out) _ _ hNk
          replace hNt := bK.to hE (bC hE hnx.out) _ _ hNt
          replace hSt := hSt.to hE (bC hE hnx.out)
          replace hLt := aO.to hE (bC hE hnx.out) _ _ hLt
          replace hSk := hSk.to hE (bC hE hnx.out)
          replace hLk := aO.to hE (bC hE hnx.out) _ _ hLk
          refine hK.out _ _ hT5 (fun _ => trivial) ?_
          clear hK K'
          generalize Y4.setCell ⟨w3.heap.size, 7, none⟩ (.slice (some ⟨Y3.heap.size, 0, none⟩) 1 1) = Y5 at *
          clear hE
          try simp only [List.getElem_toArray, List.getElem_cons_zero, List.getElem_cons_succ, Act.put, List.setIfInBounds_toArray, List.set_cons_zero, List.set_cons_succ]
          refine Goes.dM (i := 10) (u := ?hu1012) rfl (by kernel_rfl) (by kernel_rfl) (by kernel_rfl) (by kernel_rfl) (fun _ _ _ h => h) (by rfl) hT5 (fun _ => trivial) ?hy1012 ?hr1012
          case hy1012 =>
           intro wq hSw
           obtain ⟨q0, q1, q2, q3, q4, q5⟩ := hSw
           go_simp
           try rfl
          try simp only [List.getElem_toArray, List.getElem_cons_zero, List.getElem_cons_succ, Act.put, List.setIfInBounds_toArray, List.set_cons_zero, List.set_cons_succ]
          refine Goes.one (i := 11) (by kernel_rfl) rfl (fun K' hK => ?_)
          try simp only [List.getElem_toArray, List.getElem_cons_zero, List.getElem_cons_succ, Act.put, List.setIfInBounds_toArray, List.set_cons_zero, List.set_cons_succ]
          have hx6 := (aX.eight (aX.of_block hX5)).2.2.2.2.2.2.1
          have hz6 := frozen_of_row _ _ 6 _ _ hX5
          go_simp
          have hE6 : Fr (fun q => q = w3.heap.size) Y5 (Y5.setCell ⟨w3.heap.size, 6, none⟩ (.slice (some ⟨Y2.heap.size, 0, none⟩) 1 1)) := (Fr.refl (fun q => q = w3.heap.size) Y5).setCell (.inl rfl) _
          have hE := hE6.mono (S' := fun q => q = w.heap.size ∨ q = w3.heap.size) (fun _ _ h => .inr h)
          have hC6 := hC5.fr hE6 (by show ¬ w.heap.size = w3.heap.size; omega) (fun q hq => by show ¬ q = w3.heap.size; omega)
          have hX6 := jP (g' := .slice (some ⟨Y2.heap.size, 0, none⟩) 1 1) hX5
          have hF6 := hF5.trans hE (fun _ _ h => h)
          have hT6 := hkeep.out _ _ hE hT5
          replace hNk := bK.to hE (bC hE hnx.out) _ _ hNk
          replace hNt := bK.to hE (bC hE hnx.out) _ _ hNt
          replace hSt := hSt.to hE (bC hE hnx.out)
          replace hLt := aO.to hE (bC hE hnx.out) _ _ hLt
          replace hSk := hSk.to hE (bC hE hnx.out)
          replace hLk := aO.to hE (bC hE hnx.out) _ _ hLk
          refine hK.out _ _ hT6 (fun _ => trivial) ?_
          clear hK K'
          generalize Y5.setCell ⟨w3.heap.size, 6, none⟩ (.slice (some ⟨Y2.heap.size, 0, none⟩) 1 1) = Y6 at *
          clear hE
          try simp only [List.getElem_toArray, List.getElem_cons_zero, List.getElem_cons_succ, Act.put, List.setIfInBounds_toArray, List.set_cons_zero, List.set_cons_succ]
          refine Goes.done (by kernel_rfl) ?_
          have hA0 := AtM.first (by omega) (Nat.le_refl _) hfr hf3 hgrH.out hxH.out hfx hsx hF6 hC6 hX6 hSk hLk hSt hLt
          have hYs := hF6.size
          clear hkeep hcallK hcallT hnx hT0 hT1 hT2 hT3 hT4 hT5 hT6
          clear hSk hLk hSt hLt hF6 hC6 hX6 hNk hNt hck hct
          generalize (some ⟨Y3.heap.size, 0, none⟩ : Option Addr) = kad at hA0 ⊢
          generalize (some ⟨Y2.heap.size, 0, none⟩ : Option Addr) = tad at hA0 ⊢
          rotate_left
          all_goals
           have hA0H := Lib.hid hA0
           have hokkw := hokk.wt
           have hoktw := hokt.wt
           obtain ⟨t0, t1, t2, t3, t4, t5, t6, t7⟩ := aX.eight (aX.of_block hA0.xb)
           have hxb : ([ct] : List Cell).length ≤ 1 := Nat.le_refl _
           have hxkb : ([ck] : List Cell).length ≤ 1 := Nat.le_refl _
           have hsb : ([] : List Cell).length ≤ 12 := by decide
           clear hA0
           go_wp2_with fail
           go_region_held3 (fun w' => w'.cell? ⟨w3.heap.size, 0, none⟩ = some (.int .u64 x.r0) ∧ w'.cell? ⟨w3.heap.size, 1, none⟩ = some (.int .u64 x.r1) ∧ w'.cell? ⟨w3.heap.size, 2, none⟩ = some (.int .u64 x.r2) ∧ w'.cell? ⟨w3.heap.size, 3, none⟩ = some (.int .u64 x.r3) ∧ w'.cell? ⟨w3.heap.size, 4, none⟩ = some (.string x.s) ∧ w'.cell? ⟨w3.heap.size, 5, none⟩ = some (.bool x.null) ∧ w'.cell? ⟨w3.heap.size, 6, none⟩ = some (.slice tad 1 1) ∧ w'.cell? ⟨w3.heap.size, 7, none⟩ = some (.slice kad 1 1))
            (first | exact aX.eight (aX.of_block (AtM.xb (hA0H.out.drew))) | exact aX.eight (aX.of_block (AtM.xb ((hA0H.out.drew).alloc _))) | exact aX.eight (aX.of_block (AtM.xb (hA4))) | exact aX.eight (aX.of_block (AtM.xb (hA5))) | exact aX.eight (aX.of_block (AtM.xb (hA6))))
            (first
            | (refine aS _ rfl ?_; refine dB _ iD _ _ rfl _ _ _ rfl (AtM.gr (by first | exact hA0H.out.drew | exact (hA0H.out.drew).alloc _ | exact hA4 | exact hA5 | exact hA6)).oa _ _ _ rfl (Src.ofSlice _ Tryz.underlying31 _ _ _ [.int .u64 x.r0, .int .u64 x.r1, .int .u64 x.r2, .int .u64 x.r3, .string x.s, .bool x.null, .slice tad 1 1, .slice kad 1 1] rfl (by first | exact aW _ [.int .u64 x.r0, .int .u64 x.r1, .int .u64 x.r2, .int .u64 x.r3, .string x.s, .bool x.null, .slice tad 1 1, .slice kad 1 1] _ | exact aX.drew (aX.new [.int .u64 x.r0, .int .u64 x.r1, .int .u64 x.r2, .int .u64 x.r3, .string x.s, .bool x.null, .slice tad 1 1, .slice kad 1 1] _ rfl)) (by simp [Value.oneCell'])) ?_ ?_ ?_; (unfold maxLen; omega); omega; intro v4 w4 ha4; obtain ⟨a4, b4, rfl⟩ := ha4.shape; have hA4 := AtM.aIP (by first | exact hA0H.out.drew | exact (hA0H.out.drew).alloc _ | exact hA4 | exact hA5 | exact hA6) ha4)
            | (refine aS _ rfl ?_; refine dB _ iD _ _ rfl _ _ _ rfl (AtM.gr (by first | exact hA0H.out.drew | exact (hA0H.out.drew).alloc _ | exact hA4 | exact hA5 | exact hA6)).ob _ _ _ rfl (Src.zT Tryz.underlying31 (AtM.sk (by first | exact hA0H.out.drew | exact (hA0H.out.drew).alloc _ | exact hA4 | exact hA5 | exact hA6)) (AtM.ck (by first | exact hA0H.out.drew | exact (hA0H.out.drew).alloc _ | exact hA4 | exact hA5 | exact hA6)).ones) ?_ ?_ ?_; (unfold maxLen; omega); omega; intro v5 w5 ha5; obtain ⟨a5, b5, rfl⟩ := ha5.shape; have hA5 := AtM.pushB (by first | exact hA0H.out.drew | exact (hA0H.out.drew).alloc _ | exact hA4 | exact hA5 | exact hA6) ha5)
            | (refine aS _ rfl ?_; refine dB _ iD _ _ rfl _ _ _ rfl (AtM.gr (by first | exact hA0H.out.drew | exact (hA0H.out.drew).alloc _ | exact hA4 | exact hA5 | exact hA6)).oc _ _ _ rfl (Src.zT Tryz.underlying31 (AtM.si (by first | exact hA0H.out.drew | exact (hA0H.out.drew).alloc _ | exact hA4 | exact hA5 | exact hA6)) (AtM.ci (by first | exact hA0H.out.drew | exact (hA0H.out.drew).alloc _ | exact hA4 | exact hA5 | exact hA6)).ones) ?_ ?_ ?_; (unfold maxLen; omega); omega; intro v6 w6 ha6; obtain ⟨a6, b6, rfl⟩ := ha6.shape; have hA6 := AtM.aIz (by first | exact hA0H.out.drew | exact (hA0H.out.drew).alloc _ | exact hA4 | exact hA5 | exact hA6) ha6))
           all_goals
            go_wp2
            go_roundw
            case rel =>
             have hκ2 : Hid ([ck] = [(Cell.mk x.r0 x.r1 x.r2 x.r3 x.s x.null [ct] [ck])].flatMap Cell.keys) := Lib.hid (by simp [Cell.keys])
             have hτ2 : Hid ([ct] = [(Cell.mk x.r0 x.r1 x.r2 x.r3 x.s x.null [ct] [ck])].flatMap Cell.items) := Lib.hid (by simp [Cell.items])
             have hkl2 : Hid (∀ c ∈ [(Cell.mk x.r0 x.r1 x.r2 x.r3 x.s x.null [ct] [ck])], c.keys.length = c.items.length) := Lib.hid (fun c hc => by rw [List.mem_singleton.1 hc]; rfl)
             have hw2 : wts ([(Cell.mk x.r0 x.r1 x.r2 x.r3 x.s x.null [ct] [ck])]) ≤ ([(Cell.mk x.r0 x.r1 x.r2 x.r3 x.s x.null [ct] [ck])]).length * 3100 := by
              rw [List.length_singleton, Nat.one_mul]
              have : 20 * 5 ^ 3 = 2500 := rfl
              simp only [wts]
              have h52 : 20 * 5 ^ 2 = 500 := rfl
              have h50 : 20 * 5 ^ 0 = 20 := rfl
              have hxw := hxoH.out.wt
              have hxe := Cell.jW x
              simp only [Cell.wt, wts]
              omega
             first
              | (have hg := hA6.gr; simp only [List.length_nil, List.length_singleton, Nat.zero_add, List.nil_append] at hg; exact ⟨k - 1, [(Cell.mk x.r0 x.r1 x.r2 x.r3 x.s x.null [ct] [ck])], [ck], [ct], _, _, _, _, by rw [Int.natCast_sub hkz]; rfl, hκ2, hτ2, by simp; omega, by simp; try omega, hkl2, hg, hw2, hA6.co, hA6.done⟩)
              | (have hg := hA5.gr; simp only [List.length_nil, List.length_singleton, Nat.zero_add, List.nil_append] at hg; exact ⟨k - 1, [(Cell.mk x.r0 x.r1 x.r2 x.r3 x.s x.null [ct] [ck])], [ck], [ct], _, _, _, _, by rw [Int.natCast_sub hkz]; rfl, hκ2, hτ2, by simp; omega, by simp; try omega, hkl2, hg, hw2, hA5.co, hA5.done⟩)
              | (have hg := hA4.gr; simp only [List.length_nil, List.length_singleton, Nat.zero_add, List.nil_append] at hg; exact ⟨k - 1, [(Cell.mk x.r0 x.r1 x.r2 x.r3 x.s x.null [ct] [ck])], [ck], [ct], _, _, _, _, by rw [Int.natCast_sub hkz]; rfl, hκ2, hτ2, by simp; omega, by simp; try omega, hkl2, hg, hw2, hA4.co, hA4.done⟩)
            case measure => simp [intOf]; omega
        · have hs3 := hf3.size
          generalize hwx : w3.alloc _ = wx
          have hfx : Fr (fun _ => False) w3 wx := by rw [← hwx]; exact (Fr.refl _ _).alloc _
          have hrx : wx.heap[w3.heap.size]? = some (.cells #[.int .u64 x.r0, .int .u64 x.r1, .int .u64 x.r2, .int .u64 x.r3, .string x.s, .bool x.null, .slice ia x.items.length ic, .slice ja x.keys.length jc] 35 (0, 0)) := by rw [← hwx]; exact heap_alloc_new w3 _
          have hsx : wx.heap.size = w3.heap.size + 1 := by rw [← hwx]; simp
          have hyx := bK.to (S' := New wr w3) hfx (fun q hq => ⟨hq, fun h => h⟩) _ _ hx
          have hfwx : Fr (fun q => q = w.heap.size) wr wx := hf3.trans hfx (fun _ _ h => h.elim)
          have hcx := hc3.fr hfx (fun h => h) (fun _ _ h => h)
          have hgx := hgr.fr hfwx (fun q hq => by show ¬ q = w.heap.size; omega)
          obtain ⟨dxs, exs, hdl, hdc, hel, hec⟩ : ∃ dxs exs, SlS (New wr w3) wx 8 (.slice ia x.items.length ic) x.items.length dxs ∧ aO (New wr w3) wx x.items dxs ∧ SlS (New wr w3) wx 8 (.slice ja x.keys.length jc) x.keys.length exs ∧ aO (New wr w3) wx x.keys exs := by
           obtain ⟨ia', ic', ka', kc', dxs, exs, he, h1, h2, h3, h4⟩ := hyx.full
           simp only [List.cons.injEq, Value.slice.injEq, true_and, and_true] at he
           obtain ⟨⟨rfl, rfl⟩, rfl, rfl⟩ := he
           exact ⟨dxs, exs, h1, h2, h3, h4⟩
          have hA0 : AtM W1.heap.size w.heap.size w.heap.size w3.heap.size [.int .u64 x.r0, .int .u64 x.r1, .int .u64 x.r2, .int .u64 x.r3, .string x.s, .bool x.null, .slice ia x.items.length ic, .slice ja x.keys.length jc] W1 x x.keys (.slice ja x.keys.length jc) exs x.items (.slice ia x.items.length ic) dxs wx (.slice ra 0 rc) (.slice ba 0 bc) (.slice va 0 vc) ([] : List Cell) ([] : List Cell) ([] : List Cell) axs bxs cxs (fun q => S q ∨ New wr w3 q) :=
           { gr := hgx.wider fun q hq => ⟨by have := hq.1; omega, by have := hq.2; omega, fun e => by have := aK hgr.oa e; have := hq.1; omega, fun e => by have := aK hgr.ob e; have := hq.1; omega, fun e => by have := aK hgr.oc e; have := hq.1; omega⟩
             xb := hrx
             xi := hyx.mono fun _ => .inr
             sk := hel.to (Fr.refl (fun _ => False) wx) fun _ hq => ⟨.inr hq, fun h => h⟩
             ck := hec.mono fun _ => .inr
             si := hdl.to (Fr.refl (fun _ => False) wx) fun _ hq => ⟨.inr hq, fun h => h⟩
             ci := hdc.mono fun _ => .inr
             Xl := by omega
             Xa := fun e => by have := aK hgr.oa e; omega
             Xb := fun e => by have := aK hgr.ob e; omega
             Xc := fun e => by have := aK hgr.oc e; omega
             co := hcx, pl := by omega, Bp := Nat.le_refl _, lw := rfl
             frm := (hfr.trans hfwx (fun _ _ h => h)).mono fun _ _ h => .inl h }
          have hA0H := Lib.hid hA0
          have hsb : ([] : List Cell).length ≤ 12 := by decide
          have hiw2 := iE ([] : List Cell)
          have hkw2 := qM ([] : List Cell)
          have hil := aN (([] : List Cell).flatMap Cell.items)
          have hkl := aN (([] : List Cell).flatMap Cell.keys)
          rw [← hτ.out] at hil hiw2
          rw [← hκ.out] at hkl hkw2
          have hxw := hxo.wt
          have hxe := Cell.jW x
          have hxl := aN x.items
          have hxk := aN x.keys
          have h53 : 20 * 5 ^ 3 = 2500 := rfl
          have hib : ([] : List Cell).length ≤ 100000 := by omega
          have hkb : ([] : List Cell).length ≤ 100000 := by omega
          have hxb : x.items.length ≤ 100000 := by omega
          have hxkb : x.keys.length ≤ 100000 := by omega
          obtain ⟨t0, t1, t2, t3, t4, t5, t6, t7⟩ := aX.eight (aX.of_block hrx)
          have hsxH := Lib.hid hsx
          clear hwx hA0 hiw2 hil hkw2 hkl hxe hxl hxk hrx hgx hsx h53
          go_region_held3 (fun w' => w'.cell? ⟨w3.heap.size, 0, none⟩ = some (.int .u64 x.r0) ∧ w'.cell? ⟨w3.heap.size, 1, none⟩ = some (.int .u64 x.r1) ∧ w'.cell? ⟨w3.heap.size, 2, none⟩ = some (.int .u64 x.r2) ∧ w'.cell? ⟨w3.heap.size, 3, none⟩ = some (.int .u64 x.r3) ∧ w'.cell? ⟨w3.heap.size, 4, none⟩ = some (.string x.s) ∧ w'.cell? ⟨w3.heap.size, 5, none⟩ = some (.bool x.null) ∧ w'.cell? ⟨w3.heap.size, 6, none⟩ = some (.slice ia x.items.length ic) ∧ w'.cell? ⟨w3.heap.size, 7, none⟩ = some (.slice ja x.keys.length jc))
           (first | exact aX.eight (aX.of_block (AtM.xb (hA0H.out.drew))) | exact aX.eight (aX.of_block (AtM.xb ((hA0H.out.drew).alloc _))) | exact aX.eight (aX.of_block (AtM.xb (hA4))) | exact aX.eight (aX.of_block (AtM.xb (hA5))) | exact aX.eight (aX.of_block (AtM.xb (hA6))))
           (first
           | (refine aS _ rfl ?_; refine dB _ iD _ _ rfl _ _ _ rfl (AtM.gr (by first | exact hA0H.out.drew | exact (hA0H.out.drew).alloc _ | exact hA4 | exact hA5 | exact hA6)).oa _ _ _ rfl (Src.ofSlice _ Tryz.underlying31 _ _ _ [.int .u64 x.r0, .int .u64 x.r1, .int .u64 x.r2, .int .u64 x.r3, .string x.s, .bool x.null, .slice ia x.items.length ic, .slice ja x.keys.length jc] rfl (by first | exact aW _ [.int .u64 x.r0, .int .u64 x.r1, .int .u64 x.r2, .int .u64 x.r3, .string x.s, .bool x.null, .slice ia x.items.length ic, .slice ja x.keys.length jc] _ | exact aX.drew (aX.new [.int .u64 x.r0, .int .u64 x.r1, .int .u64 x.r2, .int .u64 x.r3, .string x.s, .bool x.null, .slice ia x.items.length ic, .slice ja x.keys.length jc] _ rfl)) (by simp [Value.oneCell'])) ?_ ?_ ?_; (unfold maxLen; omega); omega; intro v4 w4 ha4; obtain ⟨a4, b4, rfl⟩ := ha4.shape; have hA4 := AtM.aIP (by first | exact hA0H.out.drew | exact (hA0H.out.drew).alloc _ | exact hA4 | exact hA5 | exact hA6) ha4)
           | (refine aS _ rfl ?_; refine dB _ iD _ _ rfl _ _ _ rfl (AtM.gr (by first | exact hA0H.out.drew | exact (hA0H.out.drew).alloc _ | exact hA4 | exact hA5 | exact hA6)).ob _ _ _ rfl (Src.zT Tryz.underlying31 (AtM.sk (by first | exact hA0H.out.drew | exact (hA0H.out.drew).alloc _ | exact hA4 | exact hA5 | exact hA6)) (AtM.ck (by first | exact hA0H.out.drew | exact (hA0H.out.drew).alloc _ | exact hA4 | exact hA5 | exact hA6)).ones) ?_ ?_ ?_; (unfold maxLen; omega); omega; intro v5 w5 ha5; obtain ⟨a5, b5, rfl⟩ := ha5.shape; have hA5 := AtM.pushB (by first | exact hA0H.out.drew | exact (hA0H.out.drew).alloc _ | exact hA4 | exact hA5 | exact hA6) ha5)
           | (refine aS _ rfl ?_; refine dB _ iD _ _ rfl _ _ _ rfl (AtM.gr (by first | exact hA0H.out.drew | exact (hA0H.out.drew).alloc _ | exact hA4 | exact hA5 | exact hA6)).oc _ _ _ rfl (Src.zT Tryz.underlying31 (AtM.si (by first | exact hA0H.out.drew | exact (hA0H.out.drew).alloc _ | exact hA4 | exact hA5 | exact hA6)) (AtM.ci (by first | exact hA0H.out.drew | exact (hA0H.out.drew).alloc _ | exact hA4 | exact hA5 | exact hA6)).ones) ?_ ?_ ?_; (unfold maxLen; omega); omega; intro v6 w6 ha6; obtain ⟨a6, b6, rfl⟩ := ha6.shape; have hA6 := AtM.aIz (by first | exact hA0H.out.drew | exact (hA0H.out.drew).alloc _ | exact hA4 | exact hA5 | exact hA6) ha6))
          all_goals
           go_wp2
           go_roundw
           case rel =>
            have hκ2 : Hid (x.keys = [x].flatMap Cell.keys) := Lib.hid (by simp [Cell.keys])
            have hτ2 : Hid (x.items = [x].flatMap Cell.items) := Lib.hid (by simp [Cell.items])
            have hkl2 : Hid (∀ c ∈ [x], c.keys.length = c.items.length) := Lib.hid (fun c hc => by rw [List.mem_singleton.1 hc]; exact hxo.map K T rfl)
            have hw2 : wts ([x]) ≤ ([x]).length * 3100 := by
             rw [List.length_singleton, Nat.one_mul]
             have : 20 * 5 ^ 3 = 2500 := rfl
             simp only [wts]
             omega
            first
             | (have hg := hA6.gr; simp only [List.length_nil, List.length_singleton, Nat.zero_add, List.nil_append] at hg; exact ⟨k - 1, [x], x.keys, x.items, _, _, _, _, by rw [Int.natCast_sub hkz]; rfl, hκ2, hτ2, by simp; omega, by simp; try omega, hkl2, hg, hw2, hA6.co, hA6.done⟩)
             | (have hg := hA5.gr; simp only [List.length_nil, List.length_singleton, Nat.zero_add, List.nil_append] at hg; exact ⟨k - 1, [x], x.keys, x.items, _, _, _, _, by rw [Int.natCast_sub hkz]; rfl, hκ2, hτ2, by simp; omega, by simp; try omega, hkl2, hg, hw2, hA5.co, hA5.done⟩)
             | (have hg := hA4.gr; simp only [List.length_nil, List.length_singleton, Nat.zero_add, List.nil_append] at hg; exact ⟨k - 1, [x], x.keys, x.items, _, _, _, _, by rw [Int.natCast_sub hkz]; rfl, hκ2, hτ2, by simp; omega, by simp; try omega, hkl2, hg, hw2, hA4.co, hA4.done⟩)
           case measure => simp [intOf]; omega
      have hσl : ¬ (σ.length : Int) = 0 := by simpa using hσ
      go_wp2_with (go_at_call 9; refine hcall.mono ?_; rintro e w3 ⟨x, xs, rfl, hx, hxo, hc3, hf3⟩; obtain ⟨ia, ic, ja, jc, rfl⟩ := hx.eight)
      all_goals
       have hs3 := hf3.size
       generalize hwx : w3.alloc _ = wx
       have hfx : Fr (fun _ => False) w3 wx := by rw [← hwx]; exact (Fr.refl _ _).alloc _
       have hrx : wx.heap[w3.heap.size]? = some (.cells #[.int .u64 x.r0, .int .u64 x.r1, .int .u64 x.r2, .int .u64 x.r3, .string x.s, .bool x.null, .slice ia x.items.length ic, .slice ja x.keys.length jc] 35 (0, 0)) := by rw [← hwx]; exact heap_alloc_new w3 _
       have hsx : wx.heap.size = w3.heap.size + 1 := by rw [← hwx]; simp
       have hyx := bK.to (S' := New wr w3) hfx (fun q hq => ⟨hq, fun h => h⟩) _ _ hx
       have hfwx : Fr (fun q => q = w.heap.size) wr wx := hf3.trans hfx (fun _ _ h => h.elim)
       have hcx := hc3.fr hfx (fun h => h) (fun _ _ h => h)
       have hgx := hgr.fr hfwx (fun q hq => by show ¬ q = w.heap.size; omega)
       obtain ⟨dxs, exs, hdl, hdc, hel, hec⟩ : ∃ dxs exs, SlS (New wr w3) wx 8 (.slice ia x.items.length ic) x.items.length dxs ∧ aO (New wr w3) wx x.items dxs ∧ SlS (New wr w3) wx 8 (.slice ja x.keys.length jc) x.keys.length exs ∧ aO (New wr w3) wx x.keys exs := by
        obtain ⟨ia', ic', ka', kc', dxs, exs, he, h1, h2, h3, h4⟩ := hyx.full
        simp only [List.cons.injEq, Value.slice.injEq, true_and, and_true] at he
        obtain ⟨⟨rfl, rfl⟩, rfl, rfl⟩ := he
        exact ⟨dxs, exs, h1, h2, h3, h4⟩
       have hA0 : AtM W1.heap.size w.heap.size w.heap.size w3.heap.size [.int .u64 x.r0, .int .u64 x.r1, .int .u64 x.r2, .int .u64 x.r3, .string x.s, .bool x.null, .slice ia x.items.length ic, .slice ja x.keys.length jc] W1 x x.keys (.slice ja x.keys.length jc) exs x.items (.slice ia x.items.length ic) dxs wx (.slice ra σ.length rc) (.slice ba κ.length bc) (.slice va τ.length vc) σ κ τ axs bxs cxs (fun q => S q ∨ New wr w3 q) :=
        { gr := hgx.wider fun q hq => ⟨by have := hq.1; omega, by have := hq.2; omega, fun e => by have := aK hgr.oa e; have := hq.1; omega, fun e => by have := aK hgr.ob e; have := hq.1; omega, fun e => by have := aK hgr.oc e; have := hq.1; omega⟩
          xb := hrx
          xi := hyx.mono fun _ => .inr
          sk := hel.to (Fr.refl (fun _ => False) wx) fun _ hq => ⟨.inr hq, fun h => h⟩
          ck := hec.mono fun _ => .inr
          si := hdl.to (Fr.refl (fun _ => False) wx) fun _ hq => ⟨.inr hq, fun h => h⟩
          ci := hdc.mono fun _ => .inr
          Xl := by omega
          Xa := fun e => by have := aK hgr.oa e; omega
          Xb := fun e => by have := aK hgr.ob e; omega
          Xc := fun e => by have := aK hgr.oc e; omega
          co := hcx, pl := by omega, Bp := Nat.le_refl _, lw := rfl
          frm := (hfr.trans hfwx (fun _ _ h => h)).mono fun _ _ h => .inl h }
       have hA0H := Lib.hid hA0
       have hsb : σ.length ≤ 12 := by omega
       have hiw2 := iE σ
       have hkw2 := qM σ
       have hil := aN (σ.flatMap Cell.items)
       have hkl := aN (σ.flatMap Cell.keys)
       rw [← hτ.out] at hil hiw2
       rw [← hκ.out] at hkl hkw2
       have hxw := hxo.wt
       have hxe := Cell.jW x
       have hxl := aN x.items
       have hxk := aN x.keys
       have h53 : 20 * 5 ^ 3 = 2500 := rfl
       have hib : τ.length ≤ 100000 := by omega
       have hkb : κ.length ≤ 100000 := by omega
       have hxb : x.items.length ≤ 100000 := by omega
       have hxkb : x.keys.length ≤ 100000 := by omega
       obtain ⟨t0, t1, t2, t3, t4, t5, t6, t7⟩ := aX.eight (aX.of_block hrx)
       have hsxH := Lib.hid hsx
       clear hwx hA0 hiw2 hil hkw2 hkl hxe hxl hxk hrx hgx hsx h53
       go_region_held3 (fun w' => w'.cell? ⟨w3.heap.size, 0, none⟩ = some (.int .u64 x.r0) ∧ w'.cell? ⟨w3.heap.size, 1, none⟩ = some (.int .u64 x.r1) ∧ w'.cell? ⟨w3.heap.size, 2, none⟩ = some (.int .u64 x.r2) ∧ w'.cell? ⟨w3.heap.size, 3, none⟩ = some (.int .u64 x.r3) ∧ w'.cell? ⟨w3.heap.size, 4, none⟩ = some (.string x.s) ∧ w'.cell? ⟨w3.heap.size, 5, none⟩ = some (.bool x.null) ∧ w'.cell? ⟨w3.heap.size, 6, none⟩ = some (.slice ia x.items.length ic) ∧ w'.cell? ⟨w3.heap.size, 7, none⟩ = some (.slice ja x.keys.length jc))
        (first | exact aX.eight (aX.of_block (AtM.xb (hA0H.out.drew))) | exact aX.eight (aX.of_block (AtM.xb ((hA0H.out.drew).alloc _))) | exact aX.eight (aX.of_block (AtM.xb (hA4))) | exact aX.eight (aX.of_block (AtM.xb (hA5))) | exact aX.eight (aX.of_block (AtM.xb (hA6))))
        (first
        | (refine aS _ rfl ?_; refine dB _ iD _ _ rfl _ _ _ rfl (AtM.gr (by first | exact hA0H.out.drew | exact (hA0H.out.drew).alloc _ | exact hA4 | exact hA5 | exact hA6)).oa _ _ _ rfl (Src.ofSlice _ Tryz.underlying31 _ _ _ [.int .u64 x.r0, .int .u64 x.r1, .int .u64 x.r2, .int .u64 x.r3, .string x.s, .bool x.null, .slice ia x.items.length ic, .slice ja x.keys.length jc] rfl (by first | exact aW _ [.int .u64 x.r0, .int .u64 x.r1, .int .u64 x.r2, .int .u64 x.r3, .string x.s, .bool x.null, .slice ia x.items.length ic, .slice ja x.keys.length jc] _ | exact aX.drew (aX.new [.int .u64 x.r0, .int .u64 x.r1, .int .u64 x.r2, .int .u64 x.r3, .string x.s, .bool x.null, .slice ia x.items.length ic, .slice ja x.keys.length jc] _ rfl)) (by simp [Value.oneCell'])) ?_ ?_ ?_; (unfold maxLen; omega); omega; intro v4 w4 ha4; obtain ⟨a4, b4, rfl⟩ := ha4.shape; have hA4 := AtM.aIP (by first | exact hA0H.out.drew | exact (hA0H.out.drew).alloc _ | exact hA4 | exact hA5 | exact hA6) ha4)
        | (refine aS _ rfl ?_; refine dB _ iD _ _ rfl _ _ _ rfl (AtM.gr (by first | exact hA0H.out.drew | exact (hA0H.out.drew).alloc _ | exact hA4 | exact hA5 | exact hA6)).ob _ _ _ rfl (Src.zT Tryz.underlying31 (AtM.sk (by first | exact hA0H.out.drew | exact (hA0H.out.drew).alloc _ | exact hA4 | exact hA5 | exact hA6)) (AtM.ck (by first | exact hA0H.out.drew | exact (hA0H.out.drew).alloc _ | exact hA4 | exact hA5 | exact hA6)).ones) ?_ ?_ ?_; (unfold maxLen; omega); omega; intro v5 w5 ha5; obtain ⟨a5, b5, rfl⟩ := ha5.shape; have hA5 := AtM.pushB (by first | exact hA0H.out.drew | exact (hA0H.out.drew).alloc _ | exact hA4 | exact hA5 | exact hA6) ha5)
        | (refine aS _ rfl ?_; refine dB _ iD _ _ rfl _ _ _ rfl (AtM.gr (by first | exact hA0H.out.drew | exact (hA0H.out.drew).alloc _ | exact hA4 | exact hA5 | exact hA6)).oc _ _ _ rfl (Src.zT Tryz.underlying31 (AtM.si (by first | exact hA0H.out.drew | exact (hA0H.out.drew).alloc _ | exact hA4 | exact hA5 | exact hA6)) (AtM.ci (by first | exact hA0H.out.drew | exact (hA0H.out.drew).alloc _ | exact hA4 | exact hA5 | exact hA6)).ones) ?_ ?_ ?_; (unfold maxLen; omega); omega; intro v6 w6 ha6; obtain ⟨a6, b6, rfl⟩ := ha6.shape; have hA6 := AtM.aIz (by first | exact hA0H.out.drew | exact (hA0H.out.drew).alloc _ | exact hA4 | exact hA5 | exact hA6) ha6))
       all_goals
        go_wp2
        go_roundw
        case rel =>
         have hκ2 : Hid ((κ ++ x.keys) = (σ ++ [x]).flatMap Cell.keys) := Lib.hid (by rw [hκ.out, List.flatMap_append, List.flatMap_singleton])
         have hτ2 : Hid ((τ ++ x.items) = (σ ++ [x]).flatMap Cell.items) := Lib.hid (by rw [hτ.out, List.flatMap_append, List.flatMap_singleton])
         have hkl2 : Hid (∀ c ∈ (σ ++ [x]), c.keys.length = c.items.length) := Lib.hid (fun c hc => (List.mem_append.1 hc).elim (hkl.out c) (fun h => by rw [List.mem_singleton.1 h]; exact hxo.map K T rfl))
         have hw2 : wts ((σ ++ [x])) ≤ ((σ ++ [x])).length * 3100 := by
          rw [dV, List.length_append, List.length_singleton, Nat.add_mul, Nat.one_mul]
          have : 20 * 5 ^ 3 = 2500 := rfl
          simp only [wts]
          omega
         first
          | exact ⟨k - 1, (σ ++ [x]), (κ ++ x.keys), (τ ++ x.items), _, _, _, _, by rw [Int.natCast_sub hkz]; rfl, hκ2, hτ2, by simp; omega, by simp; try omega, hkl2, hA6.gr, hw2, hA6.co, hA6.done⟩
          | exact ⟨k - 1, (σ ++ [x]), (κ ++ x.keys), (τ ++ x.items), _, _, _, _, by rw [Int.natCast_sub hkz]; rfl, hκ2, hτ2, by simp; omega, by simp; try omega, hkl2, hA5.gr, hw2, hA5.co, hA5.done⟩
          | exact ⟨k - 1, (σ ++ [x]), (κ ++ x.keys), (τ ++ x.items), _, _, _, _, by rw [Int.natCast_sub hkz]; rfl, hκ2, hτ2, by simp; omega, by simp; try omega, hkl2, hA4.gr, hw2, hA4.co, hA4.done⟩
        case measure => simp [intOf]; omega
    · have hkz' : k = 0 := by omega
      have hk0' : ¬ (0 : Int) < k := by omega
      have hσ : σ ≠ [] := fun e => by rw [e] at hk0; simp at hk0; omega
      have hs12 : σ.length ≤ 12 := by omega
      obtain ⟨ra, rc, rfl⟩ := ownsRow_shape hgr.oa
      obtain ⟨ba, bc, rfl⟩ := ownsRow_shape hgr.ob
      obtain ⟨va, vc, rfl⟩ := ownsRow_shape hgr.oc
      clear hkz'
      have hf0 : Fr (fun _ => False) w wr := (((((Fr.refl (fun _ => False) w).alloc _).trans hf1 (fun q hq h => by have : q = w.heap.size := h; omega)).trans hf2 (fun q hq h => by have : q = w.heap.size := h; omega)).trans hfW1 (fun _ _ h => h)).trans hfr (fun q hq h => by have : q = w.heap.size := h; omega)
      have htabr : Tabs wr := htab.below (hf0.below (Nat.le_refl _) (fun _ _ h => h))
      have hsA := Ok.small hOM (by omega)
      have hsT := Ok.small hT (by omega)
      have hsK := Ok.small hOK (by omega)
      have hwσ : wts σ ≤ 40000 := by omega
      have hiτ := iE σ
      have hiκ := qM σ
      have hwτ : wts τ ≤ 40000 := by rw [hτ.out]; omega
      have hwκ : wts κ ≤ 40000 := by rw [hκ.out]; omega
      have hle1 := sF 3 _ hOM σ (by omega)
      have hle2 := sF 2 _ hT τ (by omega)
      have hle3 := sF 0 _ hOK κ (by omega)
      have hlS : ∀ q, (w.heap.size < q ∧ q < W1.heap.size) → q < wr.heap.size ∧ ¬ q = w.heap.size := fun q hq => ⟨by have := hq.2; omega, by have := hq.1; omega⟩
      have hll' := LTS.to (S' := fun q => q < wr.heap.size) hfr hlS _ _ hll
      have hlT' := LTS.to (S' := fun q => q < wr.heap.size) hfr hlS _ _ hlTW
      have hlK' := LTS.to (S' := fun q => q < wr.heap.size) hfr hlS _ _ hlKW
      have hSz : ∀ wA, Fr (fun _ => False) wr wA → ∀ q, q < wr.heap.size → q < wA.heap.size ∧ ¬ False := fun wA hf q hq => ⟨Nat.lt_of_lt_of_le hq hf.size, fun h => h⟩
      have hSg : ∀ wA, Fr (fun _ => False) wr wA → ∀ q, S q → q < wA.heap.size ∧ ¬ False := fun wA hf q hq => ⟨Nat.lt_of_lt_of_le (hgr.hS q hq).2.1 hf.size, fun h => h⟩
      have hbl : ∀ wA, Fr (fun _ => False) wr wA → Below wr.heap.size wr wA := fun wA hf => hf.below (Nat.le_refl _) (fun _ _ h => h)
      have hown : ∀ {v n xs} (_ : wr.ownsRow 0 35 8 v n xs) (wA : World), Fr (fun _ => False) wr wA → Sl wA.heap.size wA 8 v n xs := fun ho wA hf => ((mM ho (S := fun q => q < wr.heap.size) (fun q hq => aK ho hq)).to (S' := fun q => q < wA.heap.size) hf (hSz wA hf)).sl (fun _ h => h)
      have htx := fun wA (hf : Fr (fun _ => False) wr wA) => kZ 3 _ hOM wr.heap.size wA _ (iI.below (hbl wA hf) _ _ (LTS.inn (fun _ h => h) _ _ hll')) hf.size (by omega)
      have hce := fun wA (hf : Fr (fun _ => False) wr wA) => tC (.map K T) (st (.map K T)) (aV (text (.map K T))) wA (fun w' hb' => kW 3 _ (by omega) hOM w' ((htabr.below (hbl wA hf)).below hb')) σ (.slice ra σ.length rc) axs (hown hgr.oa wA hf) (aO.inn (fun _ h => h) _ _ (aO.to (S' := fun q => q < wA.heap.size) hf (hSg wA hf) _ _ hgr.ca)) (by omega) (show wts σ ≤ _ by omega) (by omega)
      have hloK := fun wA (hf : Fr (fun _ => False) wr wA) => aAi K (kZ 0 _ hOK) (kW 0 _ (by omega) hOK) wA (htabr.below (hbl wA hf)) _ (iI.mono hf.size _ _ (iI.below (hbl wA hf) _ _ (LTS.inn (fun _ h => h) _ _ hlK'))) (by omega) (by omega) κ (.slice ba κ.length bc) bxs (hown hgr.ob wA hf) (aO.inn (fun _ h => h) _ _ (aO.to (S' := fun q => q < wA.heap.size) hf (hSg wA hf) _ _ hgr.cb)) (show wts κ ≤ _ by omega) (by omega)
      have hloT := fun wA (hf : Fr (fun _ => False) wr wA) => aAi T (kZ 2 _ hT) (kW 2 _ (by omega) hT) wA (htabr.below (hbl wA hf)) _ (iI.mono hf.size _ _ (iI.below (hbl wA hf) _ _ (LTS.inn (fun _ h => h) _ _ hlT'))) (by omega) (by omega) τ (.slice va τ.length vc) cxs (hown hgr.oc wA hf) (aO.inn (fun _ h => h) _ _ (aO.to (S' := fun q => q < wA.heap.size) hf (hSg wA hf) _ _ hgr.cc)) (show wts τ ≤ _ by omega) (by omega)
      have hoff := fun wA (hf : Fr (fun _ => False) wr wA) => aCo σ wA.heap.size wA (.slice ra σ.length rc) axs (hown hgr.oa wA hf) (aO.inn (fun _ h => h) _ _ (aO.to (S' := fun q => q < wA.heap.size) hf (hSg wA hf) _ _ hgr.ca)) (Nat.le_refl _) (by omega)
      have hlaw : Hid (aV (enc (.map K T) σ) = aV (offsets gW 0 σ) ++ aV (enc K κ) ++ aV (enc T τ)) := Lib.hid (by rw [aJE hK hσ hkl.out, hκ.out, hτ.out])
      have hstH : Hid (aV (st (.map K T)) = aV (st K) ++ aV (st T)) := Lib.hid (by rw [st, dY])
      have hoffl : (aV (offsets gW 0 σ)).size = 8 * σ.length := by rw [dO, ← iM, eF]
      have hsum1 : ¬ 9223372036854775807 < (aV (offsets gW 0 σ)).size + (aV (enc K κ)).size := by rw [hoffl, dO]; omega
      have hsum2 : ¬ 9223372036854775807 < (aV (offsets gW 0 σ) ++ aV (enc K κ)).size + (aV (enc T τ)).size := by rw [ByteArray.size_append, hoffl, dO, dO]; omega
      have hsum2' : ¬ 9223372036854775807 < (aV (offsets gW 0 σ)).size + (aV (enc K κ)).size + (aV (enc T τ)).size := by rw [hoffl, dO, dO]; omega
      have hsum3 : ¬ 9223372036854775807 < (aV (st K)).size + (aV (st T)).size := by rw [dO, dO]; omega
      obtain ⟨b0, b1, b2⟩ := iR rt'
      obtain ⟨d0, d1, d2⟩ := iR rk'
      obtain ⟨f0, f1, f2⟩ := iR rv'
      clear hgr hll' hlT' hlK' hle1 hle2 hle3 hoffl hSz hSg hbl hown hlS
      generalize aV (text (.map K T)) = txt at htx hce
      go_wp2_with (first
       | (go_at_call 11; refine (htx wr (Fr.refl _ _)).mono ?_; rintro e wA ⟨rfl, hfA⟩)
       | (go_at_call 10; refine (hce _ hfA).mono ?_; rintro e wB ⟨v1, v2, rfl, hv1, hv2, hbB⟩; have hfAB : Fr (fun _ => False) wr wB := hfA.trans (Below.fr hbB) (fun _ _ h => h); have e0 := hfAB.aA d0 (fun h => h); have e1 := hfAB.aA d1 (fun h => h); have e2 := hfAB.aA d2 (fun h => h))
       | (go_at_call 12; refine (hloT _ hfABC).mono ?_; rintro e wD ⟨rfl, hfD⟩)
       | (go_at_call 12; refine (hloK _ hfAB).mono ?_; rintro e wC ⟨rfl, hfC⟩; have hfABC := hfAB.trans hfC (fun _ _ h => h); have g0 := hfABC.aA f0 (fun h => h); have g1 := hfABC.aA f1 (fun h => h); have g2 := hfABC.aA f2 (fun h => h)))
      have hfABCD := hfABC.trans hfD (fun _ _ h => h)
      have hfBD := hfC.trans hfD (fun _ _ h => h)
      have hbD := hfBD.below (Nat.le_refl _) (fun _ _ h => h)
      have hlt : wB.heap.size ≤ wD.heap.size := hbD.size
      have hc1' : ∀ wq, Fr (fun _ => False) wD wq → Sem.run Tryz.prog (convert 22 9 v1) wq = .ok (.string (aV (st K) ++ aV (st T))) wq := fun wq hq => by
       have h := jR (Bytes.below hv1 (hbD.trans (hq.below hlt (fun _ _ h => h))))
       rw [hstH.out] at h
       exact h
      have hc2' : ∀ wq, Fr (fun _ => False) wD wq → Sem.run Tryz.prog (convert 22 9 v2) wq = .ok (.string (aV (offsets gW 0 σ) ++ aV (enc K κ) ++ aV (enc T τ))) wq := fun wq hq => by
       have h := jR (Bytes.below hv2 (hbD.trans (hq.below hlt (fun _ _ h => h))))
       rw [hlaw.out] at h
       exact h
      refine Goes.region (T := fun wq => Fr (fun _ => False) wD wq) (S := fun _ => True) (z := 27) (by kernel_rfl) ?_
      refine Goes.dM (i := 0) (u := ?hu0) rfl (by kernel_rfl) (by kernel_rfl) (by kernel_rfl) (by kernel_rfl) (fun _ _ _ h => h) (by rfl) ((Fr.refl (fun _ => False) wD).drew) (fun _ => trivial) ?hy0 ?hr0
      case hy0 =>
       intro wq hSw
       go_simp
       try rfl
      try simp only [List.getElem_toArray, List.getElem_cons_zero, List.getElem_cons_succ, Act.put, List.setIfInBounds_toArray, List.set_cons_zero, List.set_cons_succ]
      refine Goes.dM (i := 1) (u := ?hu1) rfl (by kernel_rfl) (by kernel_rfl) (by kernel_rfl) (by kernel_rfl) (fun _ _ _ h => h) (by rfl) ((Fr.refl (fun _ => False) wD).drew) (fun _ => trivial) ?hy1 ?hr1
      case hy1 =>
       intro wq hSw
       go_simp
       try rfl
      try simp only [List.getElem_toArray, List.getElem_cons_zero, List.getElem_cons_succ, Act.put, List.setIfInBounds_toArray, List.set_cons_zero, List.set_cons_succ]
      refine Goes.dM (i := 2) (u := ?hu2) rfl (by kernel_rfl) (by kernel_rfl) (by kernel_rfl) (by kernel_rfl) (fun _ _ _ h => h) (by rfl) ((Fr.refl (fun _ => False) wD).drew) (fun _ => trivial) ?hy2 ?hr2
      case hy2 =>
       intro wq hSw
       go_simp
       try rfl
      try simp only [List.getElem_toArray, List.getElem_cons_zero, List.getElem_cons_succ, Act.put, List.setIfInBounds_toArray, List.set_cons_zero, List.set_cons_succ]
      refine Goes.dM (i := 3) (u := ?hu3) rfl (by kernel_rfl) (by kernel_rfl) (by kernel_rfl) (by kernel_rfl) (fun _ _ _ h => h) (by rfl) ((Fr.refl (fun _ => False) wD).drew) (fun _ => trivial) ?hy3 ?hr3
      case hy3 =>
       intro wq hSw
       go_simp
       try rfl
      try simp only [List.getElem_toArray, List.getElem_cons_zero, List.getElem_cons_succ, Act.put, List.setIfInBounds_toArray, List.set_cons_zero, List.set_cons_succ]
      refine Goes.dM (i := 4) (u := ?hu4) rfl (by kernel_rfl) (by kernel_rfl) (by kernel_rfl) (by kernel_rfl) (fun _ _ _ h => h) (by rfl) ((Fr.refl (fun _ => False) wD).drew) (fun _ => trivial) ?hy4 ?hr4
      case hy4 =>
       intro wq hSw
       go_simp
       try rfl
      try simp only [List.getElem_toArray, List.getElem_cons_zero, List.getElem_cons_succ, Act.put, List.setIfInBounds_toArray, List.set_cons_zero, List.set_cons_succ]
      refine Goes.dM (i := 5) (u := ?hu5) rfl (by kernel_rfl) (by kernel_rfl) (by kernel_rfl) (by kernel_rfl) (fun _ _ _ h => h) (by rfl) ((Fr.refl (fun _ => False) wD).drew) (fun _ => trivial) ?hy5 ?hr5
      case hy5 =>
       intro wq hSw
       go_simp
       try rfl
      try simp only [List.getElem_toArray, List.getElem_cons_zero, List.getElem_cons_succ, Act.put, List.setIfInBounds_toArray, List.set_cons_zero, List.set_cons_succ]
      refine Goes.dM (i := 6) (u := ?hu6) rfl (by kernel_rfl) (by kernel_rfl) (by kernel_rfl) (by kernel_rfl) (fun _ _ _ h => h) (by rfl) ((Fr.refl (fun _ => False) wD).drew) (fun _ => trivial) ?hy6 ?hr6
      case hy6 =>
       intro wq hSw
       go_simp
       try rfl
      try simp only [List.getElem_toArray, List.getElem_cons_zero, List.getElem_cons_succ, Act.put, List.setIfInBounds_toArray, List.set_cons_zero, List.set_cons_succ]
      refine Goes.dM (i := 7) (u := ?hu7) rfl (by kernel_rfl) (by kernel_rfl) (by kernel_rfl) (by kernel_rfl) (fun _ _ _ h => h) (by rfl) ((Fr.refl (fun _ => False) wD).drew) (fun _ => trivial) ?hy7 ?hr7
      case hy7 =>
       intro wq hSw
       go_simp
       try rfl
      try simp only [List.getElem_toArray, List.getElem_cons_zero, List.getElem_cons_succ, Act.put, List.setIfInBounds_toArray, List.set_cons_zero, List.set_cons_succ]
      refine Goes.dM (i := 8) (u := ?hu8) rfl (by kernel_rfl) (by kernel_rfl) (by kernel_rfl) (by kernel_rfl) (fun _ _ _ h => h) (by rfl) ((Fr.refl (fun _ => False) wD).drew) (fun _ => trivial) ?hy8 ?hr8
      case hy8 =>
       intro wq hSw
       go_simp
       try rfl
      try simp only [List.getElem_toArray, List.getElem_cons_zero, List.getElem_cons_succ, Act.put, List.setIfInBounds_toArray, List.set_cons_zero, List.set_cons_succ]
      refine Goes.dM (i := 9) (u := ?hu9) rfl (by kernel_rfl) (by kernel_rfl) (by kernel_rfl) (by kernel_rfl) (fun _ _ _ h => h) (by rfl) ((Fr.refl (fun _ => False) wD).drew) (fun _ => trivial) ?hy9 ?hr9
      case hy9 =>
       intro wq hSw
       have hcq := hc1' wq hSw
       go_simp
       try rfl
      try simp only [List.getElem_toArray, List.getElem_cons_zero, List.getElem_cons_succ, Act.put, List.setIfInBounds_toArray, List.set_cons_zero, List.set_cons_succ]
      refine Goes.dM (i := 10) (u := ?hu10) rfl (by kernel_rfl) (by kernel_rfl) (by kernel_rfl) (by kernel_rfl) (fun _ _ _ h => h) (by rfl) ((Fr.refl (fun _ => False) wD).drew) (fun _ => trivial) ?hy10 ?hr10
      case hy10 =>
       intro wq hSw
       go_simp
       try rfl
      try simp only [List.getElem_toArray, List.getElem_cons_zero, List.getElem_cons_succ, Act.put, List.setIfInBounds_toArray, List.set_cons_zero, List.set_cons_succ]
      refine Goes.dM (i := 11) (u := ?hu11) rfl (by kernel_rfl) (by kernel_rfl) (by kernel_rfl) (by kernel_rfl) (fun _ _ _ h => h) (by rfl) ((Fr.refl (fun _ => False) wD).drew) (fun _ => trivial) ?hy11 ?hr11
      case hy11 =>
       intro wq hSw
       go_simp
       try rfl
      try simp only [List.getElem_toArray, List.getElem_cons_zero, List.getElem_cons_succ, Act.put, List.setIfInBounds_toArray, List.set_cons_zero, List.set_cons_succ]
      refine Goes.dM (i := 12) (u := ?hu12) rfl (by kernel_rfl) (by kernel_rfl) (by kernel_rfl) (by kernel_rfl) (fun _ _ _ h => h) (by rfl) ((Fr.refl (fun _ => False) wD).drew) (fun _ => trivial) ?hy12 ?hr12
      case hy12 =>
       intro wq hSw
       go_simp
       try rfl
      try simp only [List.getElem_toArray, List.getElem_cons_zero, List.getElem_cons_succ, Act.put, List.setIfInBounds_toArray, List.set_cons_zero, List.set_cons_succ]
      refine Goes.dM (i := 13) (u := ?hu13) rfl (by kernel_rfl) (by kernel_rfl) (by kernel_rfl) (by kernel_rfl) (fun _ _ _ h => h) (by rfl) ((Fr.refl (fun _ => False) wD).drew) (fun _ => trivial) ?hy13 ?hr13
      case hy13 =>
       intro wq hSw
       go_simp
       try rfl
      try simp only [List.getElem_toArray, List.getElem_cons_zero, List.getElem_cons_succ, Act.put, List.setIfInBounds_toArray, List.set_cons_zero, List.set_cons_succ]
      refine Goes.dM (i := 14) (u := ?hu14) rfl (by kernel_rfl) (by kernel_rfl) (by kernel_rfl) (by kernel_rfl) (fun _ _ _ h => h) (by rfl) ((Fr.refl (fun _ => False) wD).drew) (fun _ => trivial) ?hy14 ?hr14
      case hy14 =>
       intro wq hSw
       go_simp
       try rfl
      try simp only [List.getElem_toArray, List.getElem_cons_zero, List.getElem_cons_succ, Act.put, List.setIfInBounds_toArray, List.set_cons_zero, List.set_cons_succ]
      refine Goes.dM (i := 15) (u := ?hu15) rfl (by kernel_rfl) (by kernel_rfl) (by kernel_rfl) (by kernel_rfl) (fun _ _ _ h => h) (by rfl) ((Fr.refl (fun _ => False) wD).drew) (fun _ => trivial) ?hy15 ?hr15
      case hy15 =>
       intro wq hSw
       go_simp
       try rfl
      try simp only [List.getElem_toArray, List.getElem_cons_zero, List.getElem_cons_succ, Act.put, List.setIfInBounds_toArray, List.set_cons_zero, List.set_cons_succ]
      refine Goes.dM (i := 16) (u := ?hu16) rfl (by kernel_rfl) (by kernel_rfl) (by kernel_rfl) (by kernel_rfl) (fun _ _ _ h => h) (by rfl) ((Fr.refl (fun _ => False) wD).drew) (fun _ => trivial) ?hy16 ?hr16
      case hy16 =>
       intro wq hSw
       go_simp
       try rfl
      try simp only [List.getElem_toArray, List.getElem_cons_zero, List.getElem_cons_succ, Act.put, List.setIfInBounds_toArray, List.set_cons_zero, List.set_cons_succ]
      refine Goes.dM (i := 17) (u := ?hu17) rfl (by kernel_rfl) (by kernel_rfl) (by kernel_rfl) (by kernel_rfl) (fun _ _ _ h => h) (by rfl) ((Fr.refl (fun _ => False) wD).drew) (fun _ => trivial) ?hy17 ?hr17
      case hy17 =>
       intro wq hSw
       have hcq := hc2' wq hSw
       go_simp
       try rfl
      try simp only [List.getElem_toArray, List.getElem_cons_zero, List.getElem_cons_succ, Act.put, List.setIfInBounds_toArray, List.set_cons_zero, List.set_cons_succ]
      refine Goes.dM (i := 18) (u := ?hu18) rfl (by kernel_rfl) (by kernel_rfl) (by kernel_rfl) (by kernel_rfl) (fun _ _ _ h => h) (by rfl) ((Fr.refl (fun _ => False) wD).drew) (fun _ => trivial) ?hy18 ?hr18
      case hy18 =>
       intro wq hSw
       go_simp
       try rfl
      try simp only [List.getElem_toArray, List.getElem_cons_zero, List.getElem_cons_succ, Act.put, List.setIfInBounds_toArray, List.set_cons_zero, List.set_cons_succ]
      refine Goes.dM (i := 20) (u := ?hu20) rfl (by kernel_rfl) (by kernel_rfl) (by kernel_rfl) (by kernel_rfl) (fun _ _ _ h => h) (by rfl) ((Fr.refl (fun _ => False) wD).drew) (fun _ => trivial) ?hy20 ?hr20
      case hy20 =>
       intro wq hSw
       go_simp
       try rfl
      try simp only [List.getElem_toArray, List.getElem_cons_zero, List.getElem_cons_succ, Act.put, List.setIfInBounds_toArray, List.set_cons_zero, List.set_cons_succ]
      refine Goes.dM (i := 22) (u := ?hu22) rfl (by kernel_rfl) (by kernel_rfl) (by kernel_rfl) (by kernel_rfl) (fun _ _ _ h => h) (by rfl) ((Fr.refl (fun _ => False) wD).drew) (fun _ => trivial) ?hy22 ?hr22
      case hy22 =>
       intro wq hSw
       go_simp
       try rfl
      try simp only [List.getElem_toArray, List.getElem_cons_zero, List.getElem_cons_succ, Act.put, List.setIfInBounds_toArray, List.set_cons_zero, List.set_cons_succ]
      refine Goes.one (i := 19) (by kernel_rfl) rfl (fun K' hK => ?_)
      try simp only [List.getElem_toArray, List.getElem_cons_zero, List.getElem_cons_succ, Act.put, List.setIfInBounds_toArray, List.set_cons_zero, List.set_cons_succ]
      go_simp
      go_at_call 13; refine (hoff _ hfABCD.drew).mono ?_; rintro e wE ⟨rfl, hfE⟩; have hTE := ((Fr.refl (fun _ => False) wD).drew).trans hfE (fun _ _ h => h)
      refine hK.out _ _ hTE (fun _ => trivial) ?_
      clear hK K'
      try simp only [List.getElem_toArray, List.getElem_cons_zero, List.getElem_cons_succ, Act.put, List.setIfInBounds_toArray, List.set_cons_zero, List.set_cons_succ]
      refine Goes.dM (i := 21) (u := ?hu21) rfl (by kernel_rfl) (by kernel_rfl) (by kernel_rfl) (by kernel_rfl) (fun _ _ _ h => h) (by rfl) hTE (fun _ => trivial) ?hy21 ?hr21
      case hy21 =>
       intro wq hSw
       go_simp
       try rfl
      try simp only [List.getElem_toArray, List.getElem_cons_zero, List.getElem_cons_succ, Act.put, List.setIfInBounds_toArray, List.set_cons_zero, List.set_cons_succ]
      refine Goes.dM (i := 23) (u := ?hu23) rfl (by kernel_rfl) (by kernel_rfl) (by kernel_rfl) (by kernel_rfl) (fun _ _ _ h => h) (by rfl) hTE (fun _ => trivial) ?hy23 ?hr23
      case hy23 =>
       intro wq hSw
       go_simp
       try rfl
      try simp only [List.getElem_toArray, List.getElem_cons_zero, List.getElem_cons_succ, Act.put, List.setIfInBounds_toArray, List.set_cons_zero, List.set_cons_succ]
      refine Goes.dM (i := 24) (u := ?hu24) rfl (by kernel_rfl) (by kernel_rfl) (by kernel_rfl) (by kernel_rfl) (fun _ _ _ h => h) (by rfl) hTE (fun _ => trivial) ?hy24 ?hr24
      case hy24 =>
       intro wq hSw
       go_simp
       try rfl
      try simp only [List.getElem_toArray, List.getElem_cons_zero, List.getElem_cons_succ, Act.put, List.setIfInBounds_toArray, List.set_cons_zero, List.set_cons_succ]
      refine Goes.dM (i := 25) (u := ?hu25) rfl (by kernel_rfl) (by kernel_rfl) (by kernel_rfl) (by kernel_rfl) (fun _ _ _ h => h) (by rfl) hTE (fun _ => trivial) ?hy25 ?hr25
      case hy25 =>
       intro wq hSw
       go_simp
       try rfl
      try simp only [List.getElem_toArray, List.getElem_cons_zero, List.getElem_cons_succ, Act.put, List.setIfInBounds_toArray, List.set_cons_zero, List.set_cons_succ]
      refine Goes.dM (i := 26) (u := ?hu26) rfl (by kernel_rfl) (by kernel_rfl) (by kernel_rfl) (by kernel_rfl) (fun _ _ _ h => h) (by rfl) hTE (fun _ => trivial) ?hy26 ?hr26
      case hy26 =>
       intro wq hSw
       go_simp
       try rfl
      try simp only [List.getElem_toArray, List.getElem_cons_zero, List.getElem_cons_succ, Act.put, List.setIfInBounds_toArray, List.set_cons_zero, List.set_cons_succ]
      refine Goes.done (by kernel_rfl) ?_
      go_wp2
      go_ret
      exact ⟨rfl, (hf0.trans hfABCD (fun _ _ h => h)).trans hTE (fun _ _ h => h)⟩
end Go.Proofs.YtcidlnjpabgioaaGreatDoor
