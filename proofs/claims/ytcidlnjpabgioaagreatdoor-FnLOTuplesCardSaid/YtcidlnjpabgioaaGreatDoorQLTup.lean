import Derived.Test.YtcidlnjpabgioaaGreatDoorQGCell
import Derived.Test.YtcidlnjpabgioaaGreatDoorQGCellZ
import Derived.Test.YtcidlnjpabgioaaGreatDoorQGGrow
namespace Go.Proofs.YtcidlnjpabgioaaGreatDoor
open Go.RowKit
set_option linter.unusedSimpArgs false in
set_option maxRecDepth 100000 in
set_option maxHeartbeats 8000000 in
theorem tuples_walk (w : World) (htab : Tabs w) (cv : Value) (cn : Nat) (hcode : CodeArg w.heap.size w cv cn) (m : Nat) (hm : m < 256) (r : Nat) (hr : r < 256) :
 Calls Tryz.prog 6 #[cv, .int .u8 m, .int .u8 r] w fun e w' => e = .returned (.bool true) ∧ Fr (fun _ => False) w w' := by
 have hca := law_code hcode
 obtain ⟨ca, cc, rfl, hcn, hcm, -, -⟩ := hcode
 unfold maxLen at hcm
 by_cases hbig : 2147483647 < cn
 · have hb' : (2147483647 : Int) < cn := by omega
   go_enter Tryz.func6, Tryz.ntmps6
   go_wp2
   go_ret
   exact ⟨rfl, Fr.refl _ _⟩
 · have hb' : ¬ (2147483647 : Int) < cn := by omega
   go_enter Tryz.func6, Tryz.ntmps6
   go_wp2_with fail
   generalize hw1 : w.alloc (.cells #[.slice ca cn cc, .int .u64 0] 26) = w1 at hca
   have hf1 : Fr (fun _ => False) w w1 := by rw [← hw1]; exact (Fr.refl _ _).alloc _
   have hs1 : w1.heap.size = w.heap.size + 1 := by rw [← hw1]; simp
   clear hw1
   generalize hw2 : w1.alloc _ = w2
   have hf2 : Fr (fun _ => False) w1 w2 := by rw [← hw2]; exact (Fr.refl _ _).alloc _
   have hs2 : w2.heap.size = w1.heap.size + 1 := by rw [← hw2]; simp
   have hr2 : w2.heap[w.heap.size + 1]? = some (.cells #[.string ⟨#[84, 117, 112, 108, 101]⟩, .int .i64 0, .slice none 0 0] 29 (0, 0)) := by rw [← hw2, ← hs1]; exact heap_alloc_new w1 _
   have hco2 : CodeAt w.heap.size w2 w.heap.size := hca.fr hf2 (fun h => h) (fun _ _ h => h)
   have hm4 : (0 : Int) ≤ (r : Int) % 4 ∧ (r : Int) % 4 < 4 := by omega
   have hm12 : (0 : Int) ≤ (m : Int) % 12 ∧ (m : Int) % 12 < 12 := by omega
   clear hw2
   go_loopw [9] (fun i wr => ∃ (k : Nat) (ts : List Ty) (ov : Value) (xs : List Value) (S : Nat → Prop), i = .int .i64 k ∧ ts.length + k ≤ 4 ∧ 0 < ts.length + k ∧ wr.heap[w.heap.size + 1]? = some (.cells #[.string ⟨#[84, 117, 112, 108, 101]⟩, .int .i64 0, ov] 29 (0, 0)) ∧ wr.ownsRow 0 29 3 ov ts.length xs ∧ LTsS S wr (ts.map Ty.lt) xs ∧ (∀ q, S q → w2.heap.size ≤ q ∧ q < wr.heap.size ∧ ov.ownBlock ≠ some q) ∧ (∀ q, ov.ownBlock = some q → w2.heap.size ≤ q) ∧ (∀ t ∈ ts, Ok 2 t) ∧ CodeAt w.heap.size wr w.heap.size ∧ Fr (fun q => q = w.heap.size ∨ q = w.heap.size + 1) w2 wr) (fun i _ => (intOf i).toNat)
   case atStart => exact ⟨1 + r % 4, [], .slice none 0 0, [], fun _ => False, by go_num, by simp; omega, by omega, hr2, World.ownsRow_nil _ _ _ _, LTsS.nil, fun _ h => h.elim, by simp [Value.ownBlock], by simp, hco2, Fr.refl _ _⟩
   case round =>
    obtain ⟨k, ts, ov, xs, S, rfl, hk3, hk0, hrow, hown, hl, hS, hov, hok, hcode, hfr⟩ := hrel
    obtain ⟨oa, oc, rfl⟩ := ownsRow_shape hown
    have hfs := hfr.size
    obtain ⟨x0, x1, x2, y0, y1, y2⟩ := res3 hrow
    by_cases hkz : 0 < k
    · have hki : (0 : Int) < k := by omega
      have hcd : CodeAt w.heap.size wr.drew w.heap.size := hcode.fr ((Fr.refl (fun _ => False) wr).drew) (fun h => h) (fun _ _ h => h)
      have hne : (Value.slice oa ts.length oc).ownBlock ≠ some (w.heap.size + 1) := fun h => by have := hov _ h; omega
      have hlX := heap_lt hrow
      have hrowH := Lib.hid hrow
      have hownH := Lib.hid hown
      clear hrow
      have hiw : IntKind.i64.wrap ((k : Int) - 1) = (k : Int) - 1 := by rw [IntKind.wrap_i64]; omega
      have hpr : w.heap.size < wr.heap.size := by omega
      go_wp2_with fail
      go_region_law (first
       | (go_simp; go_at_call 8; refine (typ_all 2 (by omega) w.heap.size _ w.heap.size hcd hpr).mono ?_; rintro e w3 ⟨T, vs, hT, rfl, hlT, hco3, hf3⟩; have hs3 := hf3.size; have hf3' := hf3.of_drew; have o3 := hf3'.owns hownH.out (fun q hq => by have := hov q hq; show ¬ q = w.heap.size; omega); have p3 := (hf3'.block _ hlX (by show ¬ w.heap.size + 1 = w.heap.size; omega)).trans hrowH.out; obtain ⟨-, -, x32, -, -, -⟩ := res3 p3; obtain ⟨-, -, xa2, -, -, -⟩ := res3a p3; obtain ⟨ota, otc, rfl⟩ := hlT.three)
       | (refine step_of_wp _ rfl ?_; refine wp_append _ typeEl _ _ rfl _ _ _ rfl (o3.alloc _) _ _ _ rfl (Src.ofSlice _ Tryz.underlying27 _ _ _ _ rfl (cells_new _ [.string (bstr T.nm), .int .i64 T.sz, .slice ota T.kids.length otc] _) (by simp [Value.oneCell'])) ?_ ?_ ?_; (unfold maxLen; omega); omega; intro v' w4 ha; obtain ⟨a', c', rfl⟩ := ha.shape; obtain ⟨hcs4, hfs4⟩ := field_cells p3 hne ((Fr.refl _ w3).alloc _) ha; have s2 := hcs4 2; have g2 := hfs4 2; simp only [List.getElem?_toArray, List.getElem?_cons_succ, List.getElem?_cons_zero] at s2))
      all_goals
       obtain ⟨a1, a2, ⟨S', a3, a4⟩, a5, a6, a7⟩ := tup_next (T := T) (by omega) (by omega) (Nat.le_refl _) hrowH.out hownH.out hl hS hov hfr hco3 hf3' hlT ha
       go_wp2
       go_roundw
       case rel => exact ⟨k - 1, ts ++ [T], .slice a' (ts.length + 1) c', _, S', by rw [Int.natCast_sub hkz]; rfl, by simp; omega, by simp; omega, a1, by rw [List.length_append]; exact a2, a3, a4, a5, fun t ht => (List.mem_append.1 ht).elim (hok t) (fun h => by rw [List.mem_singleton.1 h]; exact hT), a6, a7⟩
       case measure => simp [intOf]; omega
    · have hkn : ¬ (0 : Int) < k := by omega
      have hne0 : ts ≠ [] := by intro h; rw [h] at hk0; simp at hk0; omega
      have hOT : Ok 3 (.tup ts) := .inr (.inr (.inr ⟨ts, rfl, hne0, by omega, hok⟩))
      have hcT := cell_all 3 _ hOT
      have hl1 : LTS (fun q => w2.heap.size ≤ q ∧ q < wr.heap.size) wr (Ty.tup ts).lt [.string (bstr (Ty.tup ts).nm), .int .i64 (Ty.tup ts).sz, .slice oa ts.length oc] :=
       LTS.of (own_slS hown fun q hq => ⟨hov q hq, ownsRow_lt hown hq⟩) (fun h => absurd h hne0) (LTsS.to (Fr.refl (fun _ => False) wr) (fun q hq => ⟨⟨(hS q hq).1, (hS q hq).2.1⟩, fun h => h⟩) _ _ hl)
      have hrH := Lib.hid hrow
      obtain ⟨n, hn⟩ : ∃ n, Hid (ts.length = n) := ⟨_, Lib.hid rfl⟩
      have hn1 : 0 < n ∧ n ≤ 4 := by have := List.length_pos_iff.2 hne0; rw [← hn.out]; omega
      rw [hn.out] at hl1 x2
      have hcr : CodeAt w.heap.size wr w.heap.size := hcode
      clear hrow hown hl hS hov
      rw [hn.out] at hk3
      go_wp2_with fail
      obtain ⟨wo, hwo⟩ : ∃ W, W = wr := ⟨_, rfl⟩
      subst hwo
      have hlS : ∀ q, (w2.heap.size ≤ q ∧ q < wo.heap.size) → (w2.heap.size ≤ q ∧ q < wo.heap.size) ∧ ¬ q = w.heap.size := fun q hq => ⟨hq, by have := hq.1; omega⟩
      have hlS := Lib.hid hlS
      go_loopw [10, 11] (fun rv i wr => ∃ (j : Nat) (σ : List Cell) (rxs : List Value) (S : Nat → Prop), i = .int .i64 j ∧ σ.length + j ≤ 12 ∧ Growing wo.heap.size wr rv (.slice none 0 0) σ [] rxs [] S ∧ wts σ ≤ σ.length * 2500 ∧ Hid (∀ c ∈ σ, c.items.length = n) ∧ CodeAt w.heap.size wr w.heap.size ∧ Fr (fun q => q = w.heap.size) wo wr) (fun _ i _ => (intOf i).toNat)
      case atStart => exact ⟨1 + m % 12, [], [], _, by go_num, by simp; omega, Growing.nil _ _, by simp [wts], Lib.hid (by simp), hcr, Fr.refl _ _⟩
      case round =>
       obtain ⟨j, σ, rxs, S2, rfl, hj, hgr, hwt, hit, hcode2, hfr2⟩ := hrel
       have hfs2 := hfr2.size
       have hr2' := (hfr2.block _ (by omega) (by show ¬ w.heap.size + 1 = w.heap.size; omega)).trans hrH.out
       rw [hn.out] at hr2'
       obtain ⟨ra, rc, rfl⟩ := ownsRow_shape hgr.oi
       obtain ⟨b0, b1, b2⟩ := cells_three hr2'
       by_cases hjz : 0 < j
       · have hji : (0 : Int) < j := by omega
         have hiw : IntKind.i64.wrap ((j : Int) - 1) = (j : Int) - 1 := by rw [IntKind.wrap_i64]; omega
         have hcall := hcT w.heap.size wr w.heap.size _ _ hcode2 (by omega) (LTS.to hfr2 hlS.out _ _ hl1) (fun q hq => ⟨by have := hq.1; omega, by have := hq.2; omega⟩)
         have hgrH := Lib.hid hgr
         have hwtH := Lib.hid hwt
         clear hl1 hcT x0 x1 x2 y0 y1 y2 hgr hwt
         go_wp2_with (first
          | (go_at_call 9; refine hcall.mono ?_; rintro e w3 ⟨x, xs', rfl, hx, hxo, hc3, hf3⟩; have hs3 := hf3.size; obtain ⟨ja, jc, la, lc, rfl⟩ := hx.eight)
          | ((with_reducible show wpList _ _ _ (⟨some 60, _, _, _, _, _⟩ :: _) _ _); (refine wpList_append _ rfl cellEl' _ _ rfl _ _ _ rfl ((hgrH.out.fr hf3 (fun q hq => by show ¬ q = w.heap.size; omega)).oi.alloc _) _ _ _ rfl (Src.ofSlice _ Tryz.underlying31 _ _ _ _ rfl (cells_new _ [.int .u64 x.r0, .int .u64 x.r1, .int .u64 x.r2, .int .u64 x.r3, .string x.s, .bool x.null, .slice ja x.items.length jc, .slice la x.keys.length lc] _) (by simp [Value.oneCell'])) ?_ ?_ ?_); (unfold maxLen; omega); omega; intro v' w4 ha; obtain ⟨a', c', rfl⟩ := ha.shape))
         have hfa := (Fr.refl (fun _ => False) w3).alloc (.cells [.int .u64 x.r0, .int .u64 x.r1, .int .u64 x.r2, .int .u64 x.r3, .string x.s, .bool x.null, .slice ja x.items.length jc, .slice la x.keys.length lc].toArray 35)
         have hg3 := (hgrH.out.fr hf3 (fun q hq => by show ¬ q = w.heap.size; omega)).fr hfa (fun _ _ h => h)
         have hx4 := CellS.to (S' := New wr w3) hfa (fun q hq => ⟨hq, fun h => h⟩) _ _ hx
         obtain ⟨h4, hf4⟩ := hg3.push (by simp; omega) hx4 (fun q hq => ⟨by have := hq.1; omega, by have := hq.2; simp; omega, fun e => by have := ownsRow_lt hgrH.out.oi e; have := hq.1; omega, by simp [Value.ownBlock]⟩) ha
         have hc4 : CodeAt w.heap.size w4 w.heap.size := (hc3.fr hfa (fun h => h) (fun _ _ h => h)).fr hf4 (by show ¬ wo.heap.size ≤ w.heap.size; omega) (fun q hq => by show ¬ wo.heap.size ≤ q; omega)
         have hfr4 : Fr (fun q => q = w.heap.size) wo w4 := (((hfr2.trans hf3 (fun _ _ h => h)).trans hfa (fun _ _ h => h.elim)).mono (S' := fun q => q = w.heap.size ∨ wo.heap.size ≤ q) (fun _ _ h => .inl h)).trans hf4 (fun _ _ h => .inr h) |>.mono fun q hq h => h.elim id (fun h => by omega)
         go_roundw
         case rel =>
          have hw2 : wts (σ ++ [x]) ≤ (σ ++ [x]).length * 2500 := by
           rw [wts_append, List.length_append, List.length_singleton, Nat.add_mul, Nat.one_mul]
           have : 20 * 5 ^ 3 = 2500 := rfl
           have := hxo.wt
           have := hwtH.out
           simp only [wts]
           omega
          exact ⟨j - 1, σ ++ [x], _, _, by rw [Int.natCast_sub hjz]; rfl, by simp; omega, h4, hw2, Lib.hid fun c hc => (List.mem_append.1 hc).elim (hit.out c) (fun h => by rw [List.mem_singleton.1 h, hxo.tup ts rfl]; exact hn.out), hc4, hfr4⟩
         case measure => simp [intOf]; omega
       · have hjz0 : ¬ (0 : Int) < j := by omega
         obtain ⟨wq, hwq⟩ : ∃ W, W = wr := ⟨_, rfl⟩
         subst hwq
         have hs12 : σ.length ≤ 12 := by omega
         have hf0 : Fr (fun _ => False) w wq := ((hf1.trans hf2 (fun _ _ h => h)).trans hfr (fun q hq h => by rcases h with h | h <;> omega)).trans hfr2 (fun q hq h => by have : q = w.heap.size := h; omega)
         have htabq : Tabs wq := htab.below (hf0.below (Nat.le_refl _) (fun _ _ h => h))
         have hsA := Ok.small hOT (by omega)
         have hwσ : wts σ ≤ 30000 := by omega
         have hle1 := enc_le 3 _ hOT σ (by omega)
         have hl2 := LTS.to (S' := fun q => q < wq.heap.size) hfr2 (fun q hq => ⟨by have := hq.2; omega, (hlS.out q hq).2⟩) _ _ hl1
         have hbl : ∀ wA, Fr (fun _ => False) wq wA → Below wq.heap.size wq wA := fun wA hf => hf.below (Nat.le_refl _) (fun _ _ h => h)
         have hslr := own_slS hgr.oi (S := fun q => q < wq.heap.size) (fun q hq => ownsRow_lt hgr.oi hq)
         have hcsr : CellsS (fun q => q < wq.heap.size) wq σ rxs := hgr.ci.mono fun q hq => (hgr.hS q hq).2.1
         have hSz : ∀ wA, Fr (fun _ => False) wq wA → ∀ q, q < wq.heap.size → q < wA.heap.size ∧ ¬ False := fun wA hf q hq => ⟨Nat.lt_of_lt_of_le hq hf.size, fun h => h⟩
         have htx := fun wA (hf : Fr (fun _ => False) wq wA) => text_all 3 _ hOT wq.heap.size wA _ (LTIn.below (hbl wA hf) _ _ (LTS.inn (fun _ h => h) _ _ hl2)) hf.size (by omega)
         have hce := fun wA (hf : Fr (fun _ => False) wq wA) => CLEncode_at (.tup ts) (st (.tup ts)) (bstr (text (.tup ts))) wA (fun w' hb' => tree_all 3 _ (by omega) hOT w' ((htabq.below (hbl wA hf)).below hb')) σ (.slice ra σ.length rc) rxs ((hslr.to hf (hSz wA hf)).sl (fun _ h => h)) (CellsS.inn (fun _ h => h) _ _ (CellsS.to (S' := fun q => q < wA.heap.size) hf (hSz wA hf) _ _ hcsr)) (by omega) (show wts σ ≤ _ by omega) (by omega)
         have hkid : Hid (∃ (q o c : Nat), oa = some ⟨q, o, none⟩ ∧ oc = c ∧ q < wq.heap.size ∧ n ≤ c ∧ c ≤ maxLen ∧ ∀ i (hi : i < ts.length), ∃ (ka : Option Addr) (kc : Nat), LTS (fun q => q < wq.heap.size) wq ts[i].lt [.string (bstr ts[i].nm), .int .i64 ts[i].sz, .slice ka ts[i].kids.length kc] ∧ wq.cell? ⟨q, o + i * 3, none⟩ = some (.string (bstr ts[i].nm)) ∧ wq.cell? ⟨q, o + i * 3 + 1, none⟩ = some (.int .i64 ts[i].sz) ∧ wq.cell? ⟨q, o + i * 3 + 2, none⟩ = some (.slice ka ts[i].kids.length kc)) := Lib.hid (by
          obtain ⟨T0, hT0⟩ : ∃ T0, ts[0]? = some T0 := by
           cases ts with
           | nil => exact absurd rfl hne0
           | cons a l => exact ⟨a, rfl⟩
          obtain ⟨q, o, c, _, _, hv0, hnc, hcm0, hSq, _⟩ := kid_at hl2 (i := 0) (t := T0) hT0
          simp only [List.cons.injEq, Value.slice.injEq, true_and, and_true] at hv0
          obtain ⟨rfl, hnk, rfl⟩ := hv0
          refine ⟨q, o, _, rfl, rfl, hSq, hnk ▸ hnc, hcm0, fun i hi => ?_⟩
          obtain ⟨q', o', c', ka, kc, hv, _, _, _, ht, k0, k1, k2⟩ := kid_at hl2 (i := i) (t := ts[i]) (List.getElem?_eq_getElem hi)
          simp only [List.cons.injEq, Value.slice.injEq, Option.some.injEq, Addr.mk.injEq, true_and, and_true] at hv
          obtain ⟨⟨rfl, rfl⟩, -⟩ := hv
          exact ⟨ka, kc, ht, k0, k1, k2⟩)
         obtain ⟨q, o, c, rfl, rfl, hqB, hnc, hncm, hkid⟩ := hkid.out
         unfold maxLen at hncm
         have hkid := Lib.hid hkid
         have hslB := Lib.hid (hslr.sl (B := wq.heap.size) (fun _ h => h))
         have hcB := Lib.hid (CellsS.inn (B := wq.heap.size) (fun _ h => h) _ _ hcsr)
         generalize bstr (text (.tup ts)) = txt at htx hce
         clear hSz hbl hslr hcsr hgr hl1 hl2
         go_wp2_with (first
          | (go_at_call 11; refine (htx wq (Fr.refl _ _)).mono ?_; rintro e wA ⟨rfl, hfA⟩)
          | (go_at_call 10; refine (hce _ hfA).mono ?_; rintro e wB ⟨v1, v2, rfl, hv1, hv2, hbB⟩; have hfAB : Fr (fun _ => False) wq wB := hfA.trans (Below.fr hbB) (fun _ _ h => h); have e2 := hfAB.cell_some b2 (fun h => h)))
         have hokH := Lib.hid hok
         have hstl : (sts ts).length ≤ 5000 := by have := hsA.2; rw [st] at this; exact this
         have hecl : (encs ts 0 σ).length ≤ 1000000000 := by have := hle1; rw [enc] at this; omega
         have hnt : ∀ i : Nat, (ts.take i).length ≤ n := fun i => by rw [← hn.out, List.length_take]; omega
         have hntH := Lib.hid hnt
         clear hnt hok hle1 x0 x1 x2 y0 y1 y2 b0 b1 hcT
         go_loopw [15, 16, 72] (fun sv av i wr => ∃ j3 : Nat, j3 ≤ n ∧ i = .int .i64 j3 ∧ sv = .string (bstr (sts (ts.take j3))) ∧ av = .string (bstr (encs (ts.take j3) 0 σ)) ∧ Fr (fun _ => False) wB wr) (fun _ _ i _ => n - (intOf i).toNat)
         case atStart => exact ⟨0, Nat.zero_le _, rfl, rfl, rfl, Fr.refl _ _⟩
         case round =>
          obtain ⟨j3, hj3, rfl, rfl, rfl, hfr3⟩ := hrel
          obtain ⟨wz, hwz⟩ : ∃ W, W = wr := ⟨_, rfl⟩
          subst hwz
          have hfz : Fr (fun _ => False) wq wz := hfAB.trans hfr3 (fun _ _ h => h)
          by_cases hj3n : j3 < n
          · have hjl : j3 < ts.length := by rw [hn.out]; exact hj3n
            have hj3i : (j3 : Int) < n := by omega
            obtain ⟨ka, kc, ht, k0, k1, k2⟩ := hkid.out j3 hjl
            have htk := List.take_succ_eq_append_getElem hjl
            have hOk3 := hokH.out ts[j3] (List.getElem_mem _)
            generalize ts[j3] = T3 at ht k0 k1 k2 htk hOk3
            have hsn : Hid (sts (ts.take (j3 + 1)) = sts (ts.take j3) ++ st T3) := Lib.hid (by rw [htk, sts_append, sts, sts, List.append_nil])
            have hen : Hid (encs (ts.take (j3 + 1)) 0 σ = encs (ts.take j3) 0 σ ++ enc T3 (partOf j3 σ)) := Lib.hid (by rw [htk, encs_next, List.length_take, Nat.min_eq_left (Nat.le_of_lt hjl)])
            have hs1 := sts_take_le ts (j3 + 1)
            have he1 := encs_take_le ts (j3 + 1) σ
            rw [hsn.out, List.length_append] at hs1
            rw [hen.out, List.length_append] at he1
            have hsum1 : ¬ 9223372036854775807 < (bstr (sts (ts.take j3))).size + (bstr (st T3)).size := by rw [bstr_size, bstr_size]; omega
            have hsum2 : ¬ 9223372036854775807 < (bstr (encs (ts.take j3) 0 σ)).size + (bstr (enc T3 (partOf j3 σ))).size := by rw [bstr_size, bstr_size]; omega
            have m0 := hfz.cell_some k0 (fun h => h)
            have m1 := hfz.cell_some k1 (fun h => h)
            have m2 := hfz.cell_some k2 (fun h => h)
            clear k0 k1 k2 htk hs1 he1
            go_wp2_with fail
            generalize hWA : wz.alloc _ = WA
            have hfA : Fr (fun _ => False) wz WA := by rw [← hWA]; exact (Fr.refl _ _).alloc _
            have hbA : WA.heap[wz.heap.size]? = some (.cells #[.string (bstr T3.nm), .int .i64 T3.sz, .slice ka T3.kids.length kc] 29 (0, 0)) := by rw [← hWA]; exact heap_alloc_new wz _
            have hsA' : WA.heap.size = wz.heap.size + 1 := by rw [← hWA]; simp
            have hqA : Fr (fun _ => False) wq WA := hfz.trans hfA (fun _ _ h => h)
            have hqAs := hqA.size
            clear hWA m0 m1 m2
            go_loopw [19, 79] (fun pv i wr => ∃ (j4 : Nat) (pxs : List Value), j4 ≤ σ.length ∧ i = .int .i64 j4 ∧ wr.ownsRow 0 35 8 pv j4 pxs ∧ CellsIn WA.heap.size wr (partOf j3 (σ.take j4)) pxs ∧ (∀ q, pv.ownBlock = some q → WA.heap.size ≤ q) ∧ Fr (fun q => WA.heap.size ≤ q) WA wr) (fun _ i _ => σ.length - (intOf i).toNat)
            case atStart => exact ⟨0, [], Nat.zero_le _, rfl, World.ownsRow_nil _ _ _ _, by (show CellsIn _ _ [] []; unfold CellsIn; rfl), by simp [Value.ownBlock], Fr.refl _ _⟩
            case round =>
             obtain ⟨j4, pxs, hj4, rfl, hpo, hpc, hpl, hfr4⟩ := hrel
             have hs4 := hfr4.size
             obtain ⟨pa, pc, rfl⟩ := ownsRow_shape hpo
             by_cases hj4n : j4 < σ.length
             · have hj4i : (j4 : Int) < σ.length := by omega
               have hbq : Below wq.heap.size wq wr := (hqA.below (Nat.le_refl _) (fun _ _ h => h)).trans (hfr4.below hqAs (fun k hk h => by omega))
               obtain ⟨b1, o1, cp1, hv1, hbB1, vs1, hvs1, hcell1⟩ := (hslB.out.below hbq).row (CellsIn.below hbq _ _ hcB.out) hj4n
               have hil : j3 < σ[j4].items.length := by rw [hit.out _ (List.getElem_mem _)]; exact hj3n
               have hilen : σ[j4].items.length = n := hit.out _ (List.getElem_mem _)
               obtain ⟨ia, ic, ja, jc, ixs, kxs, rfl, hsl1, hci1, -, -⟩ := hvs1.full
               obtain ⟨b5, o5, cp5, hv5, hbB5, vs5, hvs5, hcell5⟩ := hsl1.row hci1 hil
               have hpt : partOf j3 (σ.take (j4 + 1)) = partOf j3 (σ.take j4) ++ [σ[j4].items[j3]] := by
                unfold partOf
                rw [List.take_succ_eq_append_getElem hj4n, List.map_append, List.map_singleton, List.getD_eq_getElem?_getD, List.getElem?_eq_getElem hil]
                rfl
               generalize σ[j4].items[j3] = x5 at hvs5 hpt
               have hptH := Lib.hid hpt
               simp only [Value.slice.injEq] at hv1 hv5
               obtain ⟨rfl, -, rfl⟩ := hv1
               obtain ⟨rfl, -, rfl⟩ := hv5
               have hvs5H := Lib.hid hvs5
               obtain ⟨ia5, ic5, ja5, jc5, ixs5, kxs5, rfl, -⟩ := hvs5.full
               have c0 := hcell1 0 _ rfl
               have c1 := hcell1 1 _ rfl
               have c2 := hcell1 2 _ rfl
               have c3 := hcell1 3 _ rfl
               have c4 := hcell1 4 _ rfl
               have c5 := hcell1 5 _ rfl
               have c6 := hcell1 6 _ rfl
               have c7 := hcell1 7 _ rfl
               have i0 := hcell5 0 _ rfl
               have i1 := hcell5 1 _ rfl
               have i2 := hcell5 2 _ rfl
               have i3 := hcell5 3 _ rfl
               have i4 := hcell5 4 _ rfl
               have i5 := hcell5 5 _ rfl
               have i6 := hcell5 6 _ rfl
               have i7 := hcell5 7 _ rfl
               simp only [Nat.add_zero] at c0 i0
               rw [hilen] at c6
               have ib0 := fun ob => ((Fr.refl (fun _ => False) wr).alloc ob).cell_some i0 (fun h => h)
               have ib1 := fun ob => ((Fr.refl (fun _ => False) wr).alloc ob).cell_some i1 (fun h => h)
               have ib2 := fun ob => ((Fr.refl (fun _ => False) wr).alloc ob).cell_some i2 (fun h => h)
               have ib3 := fun ob => ((Fr.refl (fun _ => False) wr).alloc ob).cell_some i3 (fun h => h)
               have ib4 := fun ob => ((Fr.refl (fun _ => False) wr).alloc ob).cell_some i4 (fun h => h)
               have ib5 := fun ob => ((Fr.refl (fun _ => False) wr).alloc ob).cell_some i5 (fun h => h)
               have ib6 := fun ob => ((Fr.refl (fun _ => False) wr).alloc ob).cell_some i6 (fun h => h)
               have ib7 := fun ob => ((Fr.refl (fun _ => False) wr).alloc ob).cell_some i7 (fun h => h)
               generalize σ[j4] = xj at c0 c1 c2 c3 c4 c5 c6 c7
               clear hcell1 hcell5 hpt hvs1 hvs5 hsl1 hci1 hilen
               go_wp2_with ((with_reducible show wpList _ _ _ (⟨some 90, _, _, _, _, _⟩ :: _) _ _); (refine wpList_append _ rfl cellEl' _ _ rfl _ _ _ rfl ((hpo.alloc _).alloc _) _ _ _ rfl (Src.ofSlice _ Tryz.underlying31 _ _ _ _ rfl (CellsAt.new [.int .u64 x5.r0, .int .u64 x5.r1, .int .u64 x5.r2, .int .u64 x5.r3, .string x5.s, .bool x5.null, .slice ia5 x5.items.length ic5, .slice ja5 x5.keys.length jc5] _ (by simp)) (by simp [Value.oneCell'])) ?_ ?_ ?_); (unfold maxLen; omega); omega; intro v' w4 ha; obtain ⟨a', c', rfl⟩ := ha.shape)
               have hfa : Fr (fun _ => False) wr ((wr.alloc (.cells #[.int .u64 xj.r0, .int .u64 xj.r1, .int .u64 xj.r2, .int .u64 xj.r3, .string xj.s, .bool xj.null, .slice (some ⟨b5, o5, none⟩) n ic, .slice ja xj.keys.length jc] 35)).alloc (.cells #[.int .u64 x5.r0, .int .u64 x5.r1, .int .u64 x5.r2, .int .u64 x5.r3, .string x5.s, .bool x5.null, .slice ia5 x5.items.length ic5, .slice ja5 x5.keys.length jc5] 35)) := ((Fr.refl _ wr).alloc _).alloc _
               have hfg := Fr.of_grown ha.2.1
               have hfw : Fr (fun q => WA.heap.size ≤ q) wr w4 := (hfa.mono (S' := fun q => WA.heap.size ≤ q) (fun _ _ h => h.elim)).trans hfg (fun q _ h => hpl q h)
               have hbw : Below WA.heap.size wr w4 := hfw.below hs4 (fun k hk h => by omega)
               have hown4 : ∀ q, (Value.slice a' (j4 + 1) c').ownBlock = some q → WA.heap.size ≤ q := fun q hq => by
                rcases ha.2.2 with e | e
                · exact hpl q (e.symm.trans hq)
                · rw [e] at hq
                  simp only [Option.some.injEq] at hq
                  simp at hq
                  omega
               go_roundw
               case rel =>
                refine ⟨j4 + 1, _, by omega, by go_num, ha.1, ?_, hown4, hfr4.trans hfw (fun _ _ h => h)⟩
                rw [hptH.out]
                exact CellsIn.append (CellsIn.below hbw _ _ hpc) (CellsIn.one (CellIn.below hbw _ _ (CellIn.mono hqAs _ _ hvs5H.out)))
               case measure => simp [intOf]; omega
             · have hje : j4 = σ.length := by omega
               subst hje
               rw [List.take_length] at hpc
               have hwp := wts_part j3 σ
               have hpl2 : (partOf j3 σ).length = σ.length := by unfold partOf; rw [List.length_map]
               have hle3 := enc_le 2 _ hOk3 (partOf j3 σ) (by omega)
               have hsT := Ok.small hOk3 (by omega)
               have hbq : Below wq.heap.size wq wr := (hqA.below (Nat.le_refl _) (fun _ _ h => h)).trans (hfr4.below hqAs (fun k hk h => by omega))
               have htab4 : Tabs wr := htabq.below hbq
               have hfz4 : Fr (fun _ => False) wq wr := hqA.trans hfr4 (fun q hq h => by omega)
               have hlt4 := LTS.to (S' := fun q => q < wr.heap.size) hfz4 (fun q hq => ⟨by have : q < wq.heap.size := hq; omega, fun h => h⟩) _ _ ht
               have hsl4 : Sl wr.heap.size wr 8 (.slice pa σ.length pc) (partOf j3 σ).length pxs := by
                rw [hpl2]
                exact (own_slS hpo (S := fun q => q < wr.heap.size) (fun q hq => ownsRow_lt hpo hq)).sl (fun _ h => h)
               have hlo := loPut_any T3 (text_all 2 _ hOk3) (tree_all 2 _ (by omega) hOk3) wr htab4 _ (LTS.inn (fun _ h => h) _ _ hlt4) (by omega) (by omega) (partOf j3 σ) (.slice pa σ.length pc) pxs hsl4 (CellsIn.mono hs4 _ _ hpc) (show wts (partOf j3 σ) ≤ _ by omega) (by omega)
               obtain ⟨d0, d1, d2⟩ := cells_three ((hfr4.block _ (by omega) (by show ¬ WA.heap.size ≤ wz.heap.size; omega)).trans hbA)
               clear hpc hwp hpl2 hle3 hsT hlt4 hsl4
               go_wp2_with (go_at_call 12; refine hlo.mono ?_; rintro e wE ⟨rfl, hfE⟩)
               go_roundw
               case rel =>
                refine ⟨j3 + 1, by omega, by go_num, ?_, ?_, ((hfr3.trans hfA (fun _ _ h => h)).trans hfr4 (fun q hq h => by have := hfr3.size; omega)).trans hfE (fun _ _ h => h)⟩
                · rw [hsn.out, ← bstr_append]
                · rw [hen.out, ← bstr_append]
               case measure => simp [intOf]; omega
          · have hje : j3 = n := by omega
            have hj3i : ¬ (j3 : Int) < n := by omega
            have htall : ts.take j3 = ts := List.take_of_length_le (by rw [hn.out]; omega)
            rw [htall]
            clear hje htall
            have hbz := (hfr3.below (Nat.le_refl _) (fun _ _ h => h))
            have hlt : wB.heap.size ≤ wz.heap.size := hbz.size
            have hst2 : Hid (st (.tup ts) = sts ts) := Lib.hid (by rw [st])
            have hen2 : Hid (enc (.tup ts) σ = encs ts 0 σ) := Lib.hid (by rw [enc])
            have hc1' : ∀ wq, Fr (fun _ => False) wz wq → Sem.run Tryz.prog (convert 22 9 v1) wq = .ok (.string (bstr (sts ts))) wq := fun wq hq => by
             have h := conv_bytes (Bytes.below hv1 (hbz.trans (hq.below hlt (fun _ _ h => h))))
             rw [hst2.out] at h
             exact h
            have hc2' : ∀ wq, Fr (fun _ => False) wz wq → Sem.run Tryz.prog (convert 22 9 v2) wq = .ok (.string (bstr (encs ts 0 σ))) wq := fun wq hq => by
             have h := conv_bytes (Bytes.below hv2 (hbz.trans (hq.below hlt (fun _ _ h => h))))
             rw [hen2.out] at h
             exact h
            have hcv1 := hc1' wz (Fr.refl _ _)
            have hcv2 := hc2' wz (Fr.refl _ _)
            clear hc1' hc2'
            go_wp2
            go_ret
            exact ⟨rfl, (hf0.trans hfAB (fun _ _ h => h)).trans hfr3 (fun _ _ h => h)⟩
end Go.Proofs.YtcidlnjpabgioaaGreatDoor
