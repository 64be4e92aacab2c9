import Derived.Test.YtcidlnjpabgioaaGreatDoorWGCellG
import Derived.Test.YtcidlnjpabgioaaGreatDoorWGCellM
set_option maxHeartbeats 8000000
set_option maxRecDepth 100000
namespace Go.Proofs.YtcidlnjpabgioaaGreatDoor
open Go.RowKit
theorem aHa (d : Nat) (ts : List Ty) (h0 : ts ≠ []) (h4 : ts.length ≤ 4) (hT : ∀ t ∈ ts, lS d t) : lS (d + 1) (.tup ts) := by
 intro B w p vs S h hpw hl hS
 obtain ⟨T0, hT0⟩ : ∃ T0, ts[0]? = some T0 := by
  cases ts with
  | nil => exact absurd rfl h0
  | cons a l => exact ⟨a, rfl⟩
 obtain ⟨q, o, c, _, _, rfl, hnc, hcm, hSq, _⟩ := nH hl (i := 0) (t := T0) hT0
 unfold maxLen at hcm
 have hq := hS q hSq
 have hn1 : 0 < ts.length := List.length_pos_iff.2 h0
 have hnm : (aV (Ty.tup ts).nm).toList = [84, 117, 112, 108, 101] := bY _
 have hBp := h.1
 have hk : ∀ j (hj : j < ts.length), ∃ (oa : Option Addr) (oc : Nat), LTS S w ts[j].lt [.string (aV ts[j].nm), .int .i64 ts[j].sz, .slice oa ts[j].kids.length oc] ∧ w.cell? ⟨q, o + j * 3, none⟩ = some (.string (aV ts[j].nm)) ∧ w.cell? ⟨q, o + j * 3 + 1, none⟩ = some (.int .i64 ts[j].sz) ∧ w.cell? ⟨q, o + j * 3 + 2, none⟩ = some (.slice oa ts[j].kids.length oc) := fun j hj => by
  obtain ⟨q', o', c', oa, oc, hv, _, _, _, ht, k0, k1, k2⟩ := nH hl (i := j) (t := ts[j]) (List.getElem?_eq_getElem hj)
  simp only [List.cons.injEq, Value.slice.injEq, Option.some.injEq, Addr.mk.injEq, true_and, and_true] at hv
  obtain ⟨⟨rfl, rfl⟩, rfl⟩ := hv
  exact ⟨oa, oc, ht, k0, k1, k2⟩
 show Calls _ _ #[_, .agg #[.string (aV (Ty.tup ts).nm), .int .i64 0, .slice (some ⟨q, o, none⟩) ts.length c]] _ _
 have hnc : ts.length ≤ c := hnc
 generalize aV (Ty.tup ts).nm = nm at hnm
 clear hl
 obtain ⟨n, hn⟩ : ∃ n, Hid (ts.length = n) := ⟨_, Lib.hid rfl⟩
 rw [hn.out] at hnc hn1 h4 ⊢
 go_enter Tryz.func9, Tryz.ntmps9
 go_upto_region 2 with fail
 have hW := lU.of w #[.string nm, .int .i64 0, .slice (some ⟨q, o, none⟩) n c]
 unfold bZ at hW
 generalize ((w.alloc _).alloc _).alloc _ = W at hW ⊢
 have hcW : bM B W p := h.fr hW.fr (fun h => h) (fun _ _ h => h)
 have hbox0 : W.cell? ⟨w.heap.size, 0, none⟩ = some (.string nm) := by rw [cell_of_row _ _ _ _ _ _ hW.box]; rfl
 have hbox2 : W.cell? ⟨w.heap.size, 2, none⟩ = some (.slice (some ⟨q, o, none⟩) n c) := by rw [cell_of_row _ _ _ _ _ _ hW.box]; rfl
 go_wp2_with fail
 have hWs := hW.size
 have hrow1 : W.heap[w.heap.size + 1 + 1]? = some (.cells (fC (.slice none 0 0) (.slice none 0 0)) 35 (0, 0)) := hW.row
 have hW1 : Fr (fun k => k = p) w W := hW.fr.mono (fun _ _ h => h.elim)
 have hres1 := hW.res
 go_loopw [96] (fun i wr => ∃ (is : List Cell) (ixs : List Value) (iv : Value) (S' : Nat → Prop), i = .int .i64 is.length ∧ is.length ≤ n ∧ wr.heap[w.heap.size + 1 + 1]? = some (.cells (fC iv (.slice none 0 0)) 35 (0, 0)) ∧ dJ W.heap.size wr iv (.slice none 0 0) is [] ixs [] S' ∧ wts is ≤ is.length * (20 * 5 ^ d) ∧ bM B wr p ∧ Fr (fun k => k = p ∨ k = w.heap.size + 1 + 1) W wr) (fun i _ => n - (intOf i).toNat)
 case atStart => exact ⟨[], [], .slice none 0 0, _, rfl, by simp, hrow1, dJ.nil _ _, by simp [wts], hcW, Fr.refl _ _⟩
 case round =>
  obtain ⟨is, ixs, iv, S', rfl, hk3, hrow, hgr, hwt, hcode, hfr⟩ := hrel
  have hfs := hfr.size
  have hX : w.heap.size + 1 + 1 < W.heap.size := by omega
  have hmk := Making.of hrow
  by_cases hkz : is.length < n
  · obtain ⟨va, vc, rfl⟩ := ownsRow_shape hgr.oi
    have hjl : is.length < ts.length := by rw [hn.out]; exact hkz
    obtain ⟨oa, oc, ht, k0, k1, k2⟩ := hk is.length hjl
    have hTk := hT ts[is.length] (List.getElem_mem _)
    generalize ts[is.length] = T at ht k0 k1 k2 hTk
    have hfw : Fr (fun k => k = p ∨ k = w.heap.size + 1 + 1) w wr := (hW1.mono (S' := fun k => k = p ∨ k = w.heap.size + 1 + 1) (fun _ _ h => .inl h)).trans hfr (fun _ _ h => h)
    have hqn : ¬ (q = p ∨ q = w.heap.size + 1 + 1) := by omega
    have m0 := hfw.aA k0 hqn
    have m1 := hfw.aA k1 hqn
    have m2 := hfw.aA k2 hqn
    obtain ⟨WA, hWA⟩ : ∃ WA, WA = wr.alloc (.cells #[.string (aV T.nm), .int .i64 T.sz, .slice oa T.kids.length oc] 29) := ⟨_, rfl⟩
    have hfA : Fr (fun _ => False) wr WA := by rw [hWA]; exact (Fr.refl _ _).alloc _
    have hsA : WA.heap.size = wr.heap.size + 1 := by rw [hWA]; simp
    have hbA : WA.heap[wr.heap.size]? = some (.cells #[.string (aV T.nm), .int .i64 T.sz, .slice oa T.kids.length oc] 29 (0, 0)) := by rw [hWA]; exact heap_alloc_new wr _
    have hrowA := (hfA.block _ (aH hrow) (fun h => h)).trans hrow
    have hgrA := hgr.fr hfA (fun _ _ h => h)
    have hfrA := hfr.trans hfA (fun _ _ h => h.elim)
    have hlt : LTS S WA.drew T.lt [.string (aV T.nm), .int .i64 T.sz, .slice oa T.kids.length oc] := LTS.to (hfw.trans hfA.drew (fun _ _ h => h.elim)) (fun x hx => ⟨hx, by have := hS x hx; show ¬ (x = p ∨ x = w.heap.size + 1 + 1); omega⟩) _ _ ht
    have hcd : bM B WA.drew p := hcode.fr hfA.drew (fun h => h) (fun _ _ h => h)
    have hcall := hTk B WA.drew p _ S hcd (by show p < WA.heap.size; omega) hlt (fun x hx => ⟨(hS x hx).1, by have := (hS x hx).2; show x < WA.heap.size; omega⟩)
    have g6 := (Making.of hrowA).g6
    obtain ⟨b0, b1, b2, -, -, -⟩ := pG hbA
    have hrowH := Lib.hid hrowA
    have hgrH := Lib.hid hgrA
    have hwtH := Lib.hid hwt
    generalize aV T.nm = tnm at m0 hcall b0 hWA
    generalize ((T.sz : Nat) : Int) = tsz at m1 hcall b1 hWA
    generalize T.kids.length = tkl at m2 hcall b2 hWA
    clear hlt ht k0 k1 k2 hrow hgr hmk hT hTk hbox0 hrow1 hwt hk hbA hrowA hgrA hjl
    go_wp2_with fail
    rw [← hWA]
    clear hWA
    go_region_law (first
     | (go_simp; go_at_call 9; refine hcall.mono ?_; rintro e w3 ⟨c', xs', rfl, hc3, hok3, hco3, hf3⟩; have hf3' := hf3.aG; have hs3 := hf3'.size; have hrow3 := (hf3'.block _ (by omega) (by show ¬ w.heap.size + 1 + 1 = p; omega)).trans hrowH.out; obtain ⟨-, -, -, -, -, -, y6, -, -, -⟩ := Making.of hrow3; have ya6 := fun o' => (Making.of ((Below.heap_alloc w3 o' _ (aH hrow3)).trans hrow3)).g6; obtain ⟨ja, jc, la, lc, rfl⟩ := hc3.eight)
     | (refine aS _ rfl ?_; refine dB _ iD _ _ rfl _ _ _ rfl ((hgrH.out.fr hf3' (fun q hq => by show ¬ q = p; omega)).oi.alloc _) _ _ _ rfl (Src.ofSlice _ Tryz.underlying31 _ _ _ _ rfl (aW _ [.int .u64 c'.r0, .int .u64 c'.r1, .int .u64 c'.r2, .int .u64 c'.r3, .string c'.s, .bool c'.null, .slice ja c'.items.length jc, .slice la c'.keys.length lc] _) (by simp [Value.oneCell'])) ?_ ?_ ?_; (unfold maxLen; omega); omega; intro v' w4 ha; obtain ⟨a', b', rfl⟩ := ha.shape; have hrow4 := (ha.2.1.block _ (by have := aH hrow3; simp; omega) (fun e => by have := hgrH.out.li _ e.symm; omega)).trans ((Below.heap_alloc w3 _ _ (aH hrow3)).trans hrow3); obtain ⟨-, -, -, -, -, -, s6, -, z6, -⟩ := Making.of hrow4))
    all_goals
     obtain ⟨a1, ⟨S'', a2⟩, a3, a4⟩ := zM (by omega) hX hBp hrowH.out hgrH.out hfrA hco3 hf3' hc3 ha
     go_wp2
     go_roundw
     case rel => exact ⟨is ++ [c'], _, .slice a' (is.length + 1) b', S'', by rw [List.length_append]; rfl, by simp; omega, a1, a2, by rw [dV, List.length_append, List.length_singleton, Nat.add_mul, Nat.one_mul]; have := hok3.wt; have := hwtH.out; simp only [wts]; omega, a3, a4⟩
     case measure => simp [intOf]; omega
  · have hkz' : is.length = n := by omega
    subst hkz'
    obtain ⟨va, vc, rfl⟩ := ownsRow_shape hgr.oi
    have hresr := (hfr.block _ (by omega) (by show ¬ (w.heap.size + 1 = p ∨ w.heap.size + 1 = w.heap.size + 1 + 1); omega)).trans hres1
    obtain ⟨g0, g1, g2, g3, g4, g5, g6, g7, -, -⟩ := hmk
    obtain ⟨r0, r1, r2, r3, r4, r5, r6, r7, z0, z1, z2, z3, z4, z5, z6, z7⟩ := pJ.of (w := w) hresr
    clear hk hT
    go_wp2
    refine bodyPost_ret (by simp [results, Tryz.results9, go_sem, r0, r1, r2, r3, r4, r5, r6, r7]; try rfl) rfl ?_
    have hfA : Fr (fun k => k = p) w wr := hW1.trans hfr (fun x hx h => h.elim id (fun h => by omega))
    obtain ⟨e1, e2, e3⟩ := rH hcode hpw hfA (aAD hgr (S' := fun q => w.heap.size + 1 < q ∧ q < wr.heap.size) (fun q h1 h2 => ⟨by omega, h2⟩)) (.int .u64 0) (.int .u64 0) (.int .u64 0) (.int .u64 0) (.string ⟨#[]⟩) (.bool false) (.slice va is.length vc) (.slice none 0 0)
    refine ⟨_, _, rfl, e1, ⟨?_, fun us e => (by cases e; exact hn.out.symm), fun k v e => (by cases e), fun t e => (by cases e)⟩, e2, e3⟩
    have h5 : 1 ≤ 5 ^ d := Nat.one_le_pow _ _ (by decide)
    have hm : is.length * (20 * 5 ^ d) ≤ 4 * (20 * 5 ^ d) := Nat.mul_le_mul_right _ (by omega)
    have h0 : (⟨#[]⟩ : ByteArray).size = 0 := rfl
    rw [Cell.wt, h0, Nat.pow_succ]
    simp only [wts]
    omega
end Go.Proofs.YtcidlnjpabgioaaGreatDoor
namespace Go.Proofs.YtcidlnjpabgioaaGreatDoor
open Go.RowKit
theorem kP : ∀ (d : Nat) (T : Ty), Ok d T → lS d T
 | 0, _, h => (rJ h).ok 0 (jA h).1 (jA h).2.1 (jA h).2.2
 | d + 1, T, h => by
  rcases h with h | ⟨t, rfl, h⟩ | ⟨k, v, rfl, hk, h⟩ | ⟨ts, rfl, h1, h2, h⟩
  · exact (rJ h).ok (d + 1) (jA h).1 (jA h).2.1 (jA h).2.2
  · exact aHK d t (kP d t h)
  · exact aJw d k v (rJ (hk.elim .inl (fun h => .inr (.inr h)))) (kP d v h)
  · exact aHa d ts h1 h2 fun t ht => kP d t (h t ht)
end Go.Proofs.YtcidlnjpabgioaaGreatDoor
namespace Go.Proofs.YtcidlnjpabgioaaGreatDoor
open Go.RowKit
theorem qR : ∀ (k v : Nat), Lib.leBytes (k + 1) v = Lib.leBytes k v ++ [(v / 256 ^ k % 256).toUInt8]
 | 0, v => by simp [Lib.leBytes]
 | k + 1, v => by
  rw [Lib.leBytes, qR k (v / 256), Lib.leBytes, List.cons_append, Nat.div_div_eq_div_mul, Nat.pow_succ, Nat.mul_comm]
theorem aCX (N t : Nat) : (N : Int) / 2 ^ (8 * t) % 256 = ((N / 256 ^ t % 256).toUInt8.toNat : Int) := by
 have h2 : (2 : Nat) ^ (8 * t) = 256 ^ t := by rw [Nat.pow_mul]
 have h3 : (2 : Int) ^ (8 * t) = ((256 ^ t : Nat) : Int) := by rw [← h2]; simp
 have h4 : (N / 256 ^ t % 256).toUInt8.toNat = N / 256 ^ t % 256 := by simp [Nat.toUInt8, UInt8.toNat_ofNat']
 rw [h3, h4]
 simp
theorem aJG : ElT Tryz.prog 22 5 (.int .u8 0) 1 1 := ⟨Tryz.underlying22, info_parts (by kernel_rfl), rfl⟩
theorem aCo (σ : List Cell) (B : Nat) (w : World) (u : Value) (xs : List Value) (hu : Sl B w 8 u σ.length xs) (hcu : aC B w σ xs) (hB : B ≤ w.heap.size) (hw : wts σ ≤ 100000000) :
 Calls Tryz.prog 13 #[u] w fun e w' => e = .returned (.string (aV (offsets gW 0 σ))) ∧ Fr (fun _ => False) w w' := by
 have hu' := hu
 obtain ⟨hxl, ua, uc, rfl, hunc, hucm, -, -⟩ := hu'
 obtain ⟨n, hn⟩ : ∃ n, Hid (σ.length = n) := ⟨_, Lib.hid rfl⟩
 have hlw := aN σ
 rw [hn.out] at hunc hlw
 unfold maxLen at hucm
 clear hxl
 go_enter Tryz.func13, Tryz.ntmps13
 rw [hn.out]
 go_wp2_with fail
 go_loopw [3, 4, 10] (fun m out i wr => ∃ j : Nat, j ≤ n ∧ i = .int .i64 j ∧ m = .int .u64 (total gW (σ.take j)) ∧ wr.ownsRow 0 5 1 out (offsets gW 0 (σ.take j)).length (aQ (offsets gW 0 (σ.take j))) ∧ (∀ q, out.ownBlock = some q → w.heap.size ≤ q) ∧ Fr (fun _ => False) w wr) (fun _ _ i _ => n - (intOf i).toNat)
 case atStart => exact ⟨0, Nat.zero_le _, rfl, by simp [total], by simpa [offsets, aQ] using World.ownsRow_nil _ _ _ _, by simp [Value.ownBlock], Fr.refl _ _⟩
 case round =>
  obtain ⟨j, hj, rfl, rfl, hown, hsince, hfr⟩ := hrel
  by_cases hjn : j < n
  · have hb := hfr.below hB (fun _ _ h => h)
    have hjl : j < σ.length := by rw [hn.out]; exact hjn
    obtain ⟨b1, o1, cp1, hv1, hbB1, vs1, hvs1, hcell1⟩ := (hu.below hb).row (aC.below hb _ _ hcu) hjl
    obtain ⟨ia, ic, ka, kc, ixs, kxs, rfl, -⟩ := hvs1.full
    simp only [Value.slice.injEq] at hv1
    obtain ⟨rfl, _, rfl⟩ := hv1
    have c0 := hcell1 0 _ rfl
    have c1 := hcell1 1 _ rfl
    have c2 := hcell1 2 _ rfl
    have c3 := hcell1 3 _ rfl
    have c4 := hcell1 4 _ rfl
    have c5 := hcell1 5 _ rfl
    have c6 := hcell1 6 _ rfl
    have c7 := hcell1 7 _ rfl
    simp only [Nat.add_zero] at c0
    obtain ⟨oa, oc, rfl⟩ := ownsRow_shape hown
    have htk := Lib.hid (List.take_succ_eq_append_getElem hjl)
    have htw := iT σ (j + 1)
    have htl := lC (σ.take (j + 1))
    have hti := iE (σ.take (j + 1))
    have htf := aN ((σ.take (j + 1)).flatMap Cell.items)
    rw [htk.out, jO] at htl
    rw [htk.out] at hti htf htw
    simp only [total, Nat.add_zero] at htl
    have hof : Hid (offsets gW 0 (σ.take (j + 1)) = offsets gW 0 (σ.take j) ++ Lib.leBytes 8 (total gW (σ.take j) + gW σ[j])) := Lib.hid (by
     rw [htk.out, ← iM, kJ, List.flatMap_append, iM, List.flatMap_singleton, Nat.zero_add]
     exact congrArg _ (dI 8 (by omega) _))
    have htot : Hid (total gW (σ.take (j + 1)) = total gW (σ.take j) + gW σ[j]) := Lib.hid (by rw [htk.out, jO]; simp [total])
    have hlen : σ[j].items.length = gW σ[j] := rfl
    rw [hlen] at c6
    generalize gW σ[j] = l at c6 hof htot htl
    generalize hm : total gW (σ.take j) = m at hof htot htl ⊢
    generalize hP : offsets gW 0 (σ.take j) = P at hown hof hsince ⊢
    have hPl : P.length ≤ 1000000000 := by rw [← hP, ← iM, eF, List.length_take]; omega
    have hml : m + l ≤ 100000000 := by omega
    have hw1 : IntKind.u64.wrap (l : Int) = l := by rw [IntKind.wrap_u64]; omega
    have hw2 : IntKind.u64.wrap ((m : Int) + l) = ((m + l : Nat) : Int) := by rw [IntKind.wrap_u64]; omega
    clear hcell1 htl hti htf htw hu hcu hm hP
    obtain ⟨N, hN⟩ : ∃ N, m + l = N := ⟨_, rfl⟩
    rw [hN] at hw2 hml hof htot
    go_wp2_with fail
    generalize hwA : wr.alloc _ = wA
    have hfA : Fr (fun _ => False) wr wA := by rw [← hwA]; exact (Fr.refl _ _).alloc _
    have hownA := hfA.owns hown (fun _ _ h => h)
    clear hwA
    go_loopw [4, 7] (fun out i wq => ∃ t : Nat, t ≤ 8 ∧ i = .int .u64 t ∧ wq.ownsRow 0 5 1 out (P.length + t) (aQ (P ++ Lib.leBytes t N)) ∧ (∀ q, out.ownBlock = some q → w.heap.size ≤ q) ∧ Fr (fun q => w.heap.size ≤ q) wA wq) (fun _ i _ => 8 - (intOf i).toNat)
    case atStart => exact ⟨0, by omega, rfl, by simpa [Lib.leBytes] using hownA, hsince, Fr.refl _ _⟩
    case round =>
     obtain ⟨t, ht8, rfl, hownq, hsq, hfq⟩ := hrel
     by_cases htt : t < 8
     · obtain ⟨qa, qc, rfl⟩ := ownsRow_shape hownq
       have htu : (t : Int) < 8 := by omega
       have hmul : IntKind.u64.wrap (8 * (t : Int)) = 8 * (t : Int) := by rw [IntKind.wrap_u64]; omega
       have hby := aCX N t
       obtain ⟨bt, hbt⟩ : ∃ bt, (N / 256 ^ t % 256).toUInt8 = bt := ⟨_, rfl⟩
       rw [hbt] at hby
       have hsn := Lib.hid (qR t N)
       go_wp2_with ((with_reducible show wpList _ _ _ (⟨some 31, _, _, _, _, _⟩ :: _) _ _); refine aP _ rfl aJG _ _ rfl _ _ _ rfl (hownq.alloc _) _ _ _ rfl (Src.ofSlice _ Tryz.underlying22 _ _ _ _ rfl (aW _ [.int .u8 bt.toNat] _) (by simp [Value.oneCell'])) ?_ ?_ ?_; (unfold maxLen; omega); omega; intro v' w3 ha; obtain ⟨a', c', rfl⟩ := ha.shape)
       go_roundw
       case rel =>
        have hsA := hfq.size
        have hwA0 := (hfr.trans hfA (fun _ _ h => h)).size
        refine ⟨t + 1, by omega, by go_num, ?_, fun q hq => ?_, (hfq.alloc _).grown ha.2.1 (fun q hq => .inl (hsq q hq))⟩
        · rw [hsn.out, hbt, ← List.append_assoc, bQ]
          exact ha.1
        · rcases ha.2.2 with e | e
          · exact hsq q (e.symm.trans hq)
          · rw [e] at hq
            simp only [Option.some.injEq] at hq
            simp at hq
            omega
       case measure => simp [intOf]; omega
     · have ht : t = 8 := by omega
       subst ht
       have hwA0 := (hfr.trans hfA (fun _ _ h => h)).size
       go_wp2
       go_roundw
       case rel =>
        refine ⟨j + 1, by omega, by go_num, by rw [htot.out], ?_, hsq, ((hfr.trans hfA (fun _ _ h => h)).trans (hfq.mono (S' := fun q => w.heap.size ≤ q) (fun _ _ h => h)) (fun q hq h => by omega))⟩
        rw [hof.out, List.length_append, Lib.leBytes_length]
        exact hownq
       case measure => simp [intOf]; omega
  · have hje : j = n := by omega
    subst hje
    rw [List.take_of_length_le (by rw [hn.out]; exact Nat.le_refl _)] at hown
    obtain ⟨oa, oc, rfl⟩ := ownsRow_shape hown
    have hconv := jR hown
    go_wp2
    go_ret
    exact ⟨rfl, hfr⟩
end Go.Proofs.YtcidlnjpabgioaaGreatDoor
