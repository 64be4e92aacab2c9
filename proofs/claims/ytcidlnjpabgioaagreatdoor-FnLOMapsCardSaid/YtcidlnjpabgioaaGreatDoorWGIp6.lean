import Derived.Test.YtcidlnjpabgioaaGreatDoorWGWide
import Derived.Deep.RegionLaw
import Derived.Lib.Hide
import Derived.Laws.CopyOwn
set_option maxHeartbeats 20000000
set_option maxRecDepth 100000
namespace Go.Proofs.YtcidlnjpabgioaaGreatDoor
open Go.RowKit
theorem mY {w : World} {o : Obj} {n : Nat} (h : n = w.heap.size) : (w.alloc o).heap[n]? = some o := by
 subst h
 exact heap_alloc_new w o
def ipb (r0 r1 : Nat) (i : Nat) : Int := ((if i < 8 then r0 else r1 : Nat) : Int) / 2 ^ (8 * (i % 8)) % 256
def iK (r0 r1 : Nat) (k : Nat) : List Value := (List.range 16).map fun i => if i < k then .int .u8 (ipb r0 r1 i) else .int .u8 0
theorem xI (r0 r1 k i : Nat) (h : i < 16) : (iK r0 r1 k)[i]? = some (if i < k then .int .u8 (ipb r0 r1 i) else .int .u8 0) := by
 simp [iK, h]
theorem aBg (r0 r1 k : Nat) (h : k < 16) : (iK r0 r1 k).set k (.int .u8 (ipb r0 r1 k)) = iK r0 r1 (k + 1) := by
 apply List.ext_getElem?
 intro i
 by_cases hi : i < 16
 · rw [xI _ _ _ _ hi, List.getElem?_set]
   split
   · subst_vars
     rw [if_pos (by simp [iK]; omega), if_pos (by omega)]
   · rw [xI _ _ _ _ hi]
     by_cases h2 : i < k
     · rw [if_pos h2, if_pos (by omega)]
     · rw [if_neg h2, if_neg (by omega)]
 · rw [List.getElem?_eq_none (by simp [iK]; omega), List.getElem?_eq_none (by simp [iK]; omega)]
theorem aCx (w : World) (r0 r1 r2 r3 : Nat) (h0 : r0 < 18446744073709551616) (h1 : r1 < 18446744073709551616) : Calls Tryz.prog 109 #[.agg #[.int .u64 r0, .int .u64 r1, .int .u64 r2, .int .u64 r3]] w fun e w' => e = .returned (.agg (iK r0 r1 16).toArray) ∧ Fr (fun _ => False) w w' := by
 go_enter Tryz.func109, Tryz.ntmps109
 go_wp2
 generalize hW : ((w.alloc _).alloc _).alloc _ = W
 have hfW : Fr (fun _ => False) w W := by subst hW; exact (((Fr.refl _ w).alloc _).alloc _).alloc _
 have e0 : W.cell? ⟨w.heap.size, 0, none⟩ = some (.int .u64 r0) := by subst hW; rw [World.cell?_alloc_lt _ _ _ (by simp; omega), World.cell?_alloc_lt _ _ _ (by simp), aB rfl]; rfl
 have e1 : W.cell? ⟨w.heap.size, 1, none⟩ = some (.int .u64 r1) := by subst hW; rw [World.cell?_alloc_lt _ _ _ (by simp; omega), World.cell?_alloc_lt _ _ _ (by simp), aB rfl]; rfl
 have eR : W.heap[w.heap.size + 1]? = some (.cells #[.int .u8 0, .int .u8 0, .int .u8 0, .int .u8 0, .int .u8 0, .int .u8 0, .int .u8 0, .int .u8 0, .int .u8 0, .int .u8 0, .int .u8 0, .int .u8 0, .int .u8 0, .int .u8 0, .int .u8 0, .int .u8 0] 350 (0, 0)) := by subst hW; rw [Below.heap_alloc _ _ _ (by simp)]; exact mY (by simp)
 have eB : W.heap[w.heap.size + 1 + 1]? = some (.cells (iK r0 r1 0).toArray 350 (0, 0)) := by subst hW; exact mY (by simp)
 have hsz : W.heap.size = w.heap.size + 3 := by subst hW; simp
 clear hW
 go_loopw [5] (fun i wr => ∃ k : Nat, k ≤ 16 ∧ i = .int .i64 k ∧ wr.heap[w.heap.size + 1 + 1]? = some (.cells (iK r0 r1 k).toArray 350 (0, 0)) ∧ Fr (fun q => q = w.heap.size + 1 + 1) W wr) (fun i _ => 16 - (intOf i).toNat)
 case atStart => exact ⟨0, by omega, rfl, eB, Fr.refl _ _⟩
 case round =>
  obtain ⟨k, hk, rfl, hrow, hfr⟩ := hrel
  by_cases hlt : k < 16
  · have q1 : 0 ≤ (k : Int) / 8 := by omega
    have q2 : (k : Int) / 8 < 4 := by omega
    have q3 : 0 ≤ (k : Int) % 8 := by omega
    have q4 : (k : Int) % 8 < 8 := by omega
    have c0 := hfr.aA e0 (by show ¬ w.heap.size = w.heap.size + 1 + 1; omega)
    have c1 := hfr.aA e1 (by show ¬ w.heap.size = w.heap.size + 1 + 1; omega)
    obtain ⟨R, hR, hRb, cK⟩ : ∃ R : Nat, Hid (R = if k < 8 then r0 else r1) ∧ R < 18446744073709551616 ∧ wr.cell? ⟨w.heap.size, k / 8, none⟩ = some (.int .u64 R) := by
     by_cases h8 : k < 8
     · exact ⟨r0, Lib.hid (by rw [if_pos h8]), h0, by rw [show k / 8 = 0 by omega]; exact c0⟩
     · exact ⟨r1, Lib.hid (by rw [if_neg h8]), h1, by rw [show k / 8 = 1 by omega]; exact c1⟩
    have hfz := frozen_of_row wr (w.heap.size + 1 + 1) k _ _ hrow
    have hcl := cell_of_row wr (w.heap.size + 1 + 1) k _ _ _ hrow
    have hcl' : wr.cell? ⟨w.heap.size + 1 + 1, k, none⟩ = some (.int .u8 0) := by
     rw [hcl]
     simp [iK, hlt]
    clear hcl e0 e1 eR eB c0 c1
    go_wp2
    go_roundw
    case rel =>
     have hv : (R : Int) / 2 ^ (8 * (k % 8)) % 256 = ipb r0 r1 k := by rw [ipb, hR.out]
     refine ⟨k + 1, by omega, by go_num, ?_, hfr.setCell (.inl rfl) _⟩
     rw [hv]
     simp [World.setCell, Array.getElem?_modify, hrow, aBg r0 r1 k hlt]
    case measure => simp [intOf]; omega
  · have hke : k = 16 := by omega
    subst hke
    have hat : ∀ i, i < 16 → wr.cell? ⟨w.heap.size + 1 + 1, i, none⟩ = some (.int .u8 (ipb r0 r1 i)) := by
     intro i hi
     rw [cell_of_row wr (w.heap.size + 1 + 1) i _ _ _ hrow]
     simp [iK, hi]
    have hR := (hfr.block (w.heap.size + 1) (by omega) (by show ¬ w.heap.size + 1 = w.heap.size + 1 + 1; omega)).trans eR
    have a0 := hat 0 (by omega)
    have a1 := hat 1 (by omega)
    have a2 := hat 2 (by omega)
    have a3 := hat 3 (by omega)
    have a4 := hat 4 (by omega)
    have a5 := hat 5 (by omega)
    have a6 := hat 6 (by omega)
    have a7 := hat 7 (by omega)
    have a8 := hat 8 (by omega)
    have a9 := hat 9 (by omega)
    have a10 := hat 10 (by omega)
    have a11 := hat 11 (by omega)
    have a12 := hat 12 (by omega)
    have a13 := hat 13 (by omega)
    have a14 := hat 14 (by omega)
    have a15 := hat 15 (by omega)
    have b0 : wr.cell? ⟨w.heap.size + 1, 0, none⟩ = some (.int .u8 0) := by rw [cell_of_row wr _ _ _ _ _ hR]; rfl
    have b1 : wr.cell? ⟨w.heap.size + 1, 1, none⟩ = some (.int .u8 0) := by rw [cell_of_row wr _ _ _ _ _ hR]; rfl
    have b2 : wr.cell? ⟨w.heap.size + 1, 2, none⟩ = some (.int .u8 0) := by rw [cell_of_row wr _ _ _ _ _ hR]; rfl
    have b3 : wr.cell? ⟨w.heap.size + 1, 3, none⟩ = some (.int .u8 0) := by rw [cell_of_row wr _ _ _ _ _ hR]; rfl
    have b4 : wr.cell? ⟨w.heap.size + 1, 4, none⟩ = some (.int .u8 0) := by rw [cell_of_row wr _ _ _ _ _ hR]; rfl
    have b5 : wr.cell? ⟨w.heap.size + 1, 5, none⟩ = some (.int .u8 0) := by rw [cell_of_row wr _ _ _ _ _ hR]; rfl
    have b6 : wr.cell? ⟨w.heap.size + 1, 6, none⟩ = some (.int .u8 0) := by rw [cell_of_row wr _ _ _ _ _ hR]; rfl
    have b7 : wr.cell? ⟨w.heap.size + 1, 7, none⟩ = some (.int .u8 0) := by rw [cell_of_row wr _ _ _ _ _ hR]; rfl
    have b8 : wr.cell? ⟨w.heap.size + 1, 8, none⟩ = some (.int .u8 0) := by rw [cell_of_row wr _ _ _ _ _ hR]; rfl
    have b9 : wr.cell? ⟨w.heap.size + 1, 9, none⟩ = some (.int .u8 0) := by rw [cell_of_row wr _ _ _ _ _ hR]; rfl
    have b10 : wr.cell? ⟨w.heap.size + 1, 10, none⟩ = some (.int .u8 0) := by rw [cell_of_row wr _ _ _ _ _ hR]; rfl
    have b11 : wr.cell? ⟨w.heap.size + 1, 11, none⟩ = some (.int .u8 0) := by rw [cell_of_row wr _ _ _ _ _ hR]; rfl
    have b12 : wr.cell? ⟨w.heap.size + 1, 12, none⟩ = some (.int .u8 0) := by rw [cell_of_row wr _ _ _ _ _ hR]; rfl
    have b13 : wr.cell? ⟨w.heap.size + 1, 13, none⟩ = some (.int .u8 0) := by rw [cell_of_row wr _ _ _ _ _ hR]; rfl
    have b14 : wr.cell? ⟨w.heap.size + 1, 14, none⟩ = some (.int .u8 0) := by rw [cell_of_row wr _ _ _ _ _ hR]; rfl
    have b15 : wr.cell? ⟨w.heap.size + 1, 15, none⟩ = some (.int .u8 0) := by rw [cell_of_row wr _ _ _ _ _ hR]; rfl
    have c0 : wr.frozen? ⟨w.heap.size + 1, 0, none⟩ = false := frozen_of_row wr _ _ _ _ hR
    have c1 : wr.frozen? ⟨w.heap.size + 1, 1, none⟩ = false := frozen_of_row wr _ _ _ _ hR
    have c2 : wr.frozen? ⟨w.heap.size + 1, 2, none⟩ = false := frozen_of_row wr _ _ _ _ hR
    have c3 : wr.frozen? ⟨w.heap.size + 1, 3, none⟩ = false := frozen_of_row wr _ _ _ _ hR
    have c4 : wr.frozen? ⟨w.heap.size + 1, 4, none⟩ = false := frozen_of_row wr _ _ _ _ hR
    have c5 : wr.frozen? ⟨w.heap.size + 1, 5, none⟩ = false := frozen_of_row wr _ _ _ _ hR
    have c6 : wr.frozen? ⟨w.heap.size + 1, 6, none⟩ = false := frozen_of_row wr _ _ _ _ hR
    have c7 : wr.frozen? ⟨w.heap.size + 1, 7, none⟩ = false := frozen_of_row wr _ _ _ _ hR
    have c8 : wr.frozen? ⟨w.heap.size + 1, 8, none⟩ = false := frozen_of_row wr _ _ _ _ hR
    have c9 : wr.frozen? ⟨w.heap.size + 1, 9, none⟩ = false := frozen_of_row wr _ _ _ _ hR
    have c10 : wr.frozen? ⟨w.heap.size + 1, 10, none⟩ = false := frozen_of_row wr _ _ _ _ hR
    have c11 : wr.frozen? ⟨w.heap.size + 1, 11, none⟩ = false := frozen_of_row wr _ _ _ _ hR
    have c12 : wr.frozen? ⟨w.heap.size + 1, 12, none⟩ = false := frozen_of_row wr _ _ _ _ hR
    have c13 : wr.frozen? ⟨w.heap.size + 1, 13, none⟩ = false := frozen_of_row wr _ _ _ _ hR
    have c14 : wr.frozen? ⟨w.heap.size + 1, 14, none⟩ = false := frozen_of_row wr _ _ _ _ hR
    have c15 : wr.frozen? ⟨w.heap.size + 1, 15, none⟩ = false := frozen_of_row wr _ _ _ _ hR
    clear hat hR hrow e0 e1 eR eB
    go_wp2
    refine bodyPost_ret (by simp [results, Tryz.results109, go_sem, b0, b1, b2, b3, b4, b5, b6, b7, b8, b9, b10, b11, b12, b13, b14, b15]; try rfl) rfl ?_
    refine ⟨rfl, ?_⟩
    have hf2 : Fr (fun _ => False) w wr := hfW.trans hfr (fun q hq h => by omega)
    exact ((((((((((((((((hf2).setCell (.inr (by simp)) _).setCell (.inr (by simp)) _).setCell (.inr (by simp)) _).setCell (.inr (by simp)) _).setCell (.inr (by simp)) _).setCell (.inr (by simp)) _).setCell (.inr (by simp)) _).setCell (.inr (by simp)) _).setCell (.inr (by simp)) _).setCell (.inr (by simp)) _).setCell (.inr (by simp)) _).setCell (.inr (by simp)) _).setCell (.inr (by simp)) _).setCell (.inr (by simp)) _).setCell (.inr (by simp)) _).setCell (.inr (by simp)) _
theorem Hot.setRow {w : World} {b g N cap : Nat} {A olds C : List Value} {cur : Array Value} (h : Hot w b g N cap (A ++ olds ++ C)) (hg : w.heap[g]? = some (.cells cur 5 (0, 0))) (news : List Value) (hn : news.length = olds.length) {o : Nat} (ho : o = A.length) :
 Hot (w.setRow g (cur.toList.take o ++ (news ++ cur.toList.drop (o + news.length))).toArray) b g N cap (A ++ news ++ C) := by
 subst ho
 obtain ⟨hb, own, ne⟩ := h
 obtain ⟨hl, hv⟩ := own
 rcases hv with ⟨hv, _⟩ | ⟨g', cap', cur', hv, hb', hg', hnc, hcm, hcs, htake⟩
 · cases hv
 · simp only [Value.slice.injEq, Option.some.injEq, Addr.mk.injEq] at hv
   obtain ⟨⟨rfl, _⟩, _, rfl⟩ := hv
   rw [hg] at hg'
   simp only [Option.some.injEq, Obj.cells.injEq] at hg'
   obtain ⟨rfl, _⟩ := hg'
   have hD : cur.toList = A ++ olds ++ C ++ cur.toList.drop (N * 1) := by
    conv => lhs; rw [← List.take_append_drop (N * 1) cur.toList, htake]
   generalize cur.toList.drop (N * 1) = D at hD
   have e1 : cur.toList.take A.length = A := by rw [hD]; simp [List.append_assoc]
   have e2 : cur.toList.drop (A.length + news.length) = C ++ D := by
    rw [hD, hn, ← List.length_append, List.append_assoc, List.drop_left]
   have hlen : (A ++ news ++ C).length = N * 1 := by rw [← hl]; simp [hn]
   rw [e1, e2]
   refine ⟨(setRow_other w g b _ (fun e => ne e.symm)).trans hb, ⟨hlen, .inr ⟨g, cap, _, rfl, hb', setRow_heap w g cur _ _ _ hg, hnc, hcm, ?_, ?_⟩⟩, ne⟩
   · rw [← hcs, ← Array.length_toList (xs := cur), hD]
     simp [hn]
   · rw [← hlen]
     simp only [← List.append_assoc]
     exact List.take_left
theorem aIR (w : World) (b g N cap : Nat) (A C o1 : List Value) (hot : Hot w b g N cap (A ++ o1 ++ C)) (h1 : o1.length = 16) (x0 x1 x2 x3 x4 x5 x6 x7 x8 x9 x10 x11 x12 x13 x14 x15 : Int) (o c : Nat) (ho : o = A.length) (_hc : 16 ≤ c) :
 Calls Tryz.prog 559 #[.slice (some ⟨g, o, none⟩) 16 c, .agg #[.int .u8 x0, .int .u8 x1, .int .u8 x2, .int .u8 x3, .int .u8 x4, .int .u8 x5, .int .u8 x6, .int .u8 x7, .int .u8 x8, .int .u8 x9, .int .u8 x10, .int .u8 x11, .int .u8 x12, .int .u8 x13, .int .u8 x14, .int .u8 x15]] w fun e w' => e = .returned (.tuple #[]) ∧ Fr (fun k => k = g) w w' ∧ Hot w' b g N cap (A ++ [.int .u8 x0, .int .u8 x1, .int .u8 x2, .int .u8 x3, .int .u8 x4, .int .u8 x5, .int .u8 x6, .int .u8 x7, .int .u8 x8, .int .u8 x9, .int .u8 x10, .int .u8 x11, .int .u8 x12, .int .u8 x13, .int .u8 x14, .int .u8 x15] ++ C) := by
 have hfr := (Fr.refl (fun k => k = g) w).alloc (.cells #[.int .u8 x0, .int .u8 x1, .int .u8 x2, .int .u8 x3, .int .u8 x4, .int .u8 x5, .int .u8 x6, .int .u8 x7, .int .u8 x8, .int .u8 x9, .int .u8 x10, .int .u8 x11, .int .u8 x12, .int .u8 x13, .int .u8 x14, .int .u8 x15] 351)
 have hotA := hot.alloc (.cells #[.int .u8 x0, .int .u8 x1, .int .u8 x2, .int .u8 x3, .int .u8 x4, .int .u8 x5, .int .u8 x6, .int .u8 x7, .int .u8 x8, .int .u8 x9, .int .u8 x10, .int .u8 x11, .int .u8 x12, .int .u8 x13, .int .u8 x14, .int .u8 x15] 351)
 have hsrc := aW w [.int .u8 x0, .int .u8 x1, .int .u8 x2, .int .u8 x3, .int .u8 x4, .int .u8 x5, .int .u8 x6, .int .u8 x7, .int .u8 x8, .int .u8 x9, .int .u8 x10, .int .u8 x11, .int .u8 x12, .int .u8 x13, .int .u8 x14, .int .u8 x15] 351
 have hglt := hotA.glt
 obtain ⟨cur, hg, hN, hNc, hcm⟩ := hotA.row
 have hlen := hot.own.1
 simp only [List.length_append, h1] at hlen
 obtain ⟨i, hi, hz, hsz, hby⟩ := gU.info
 go_enter Tryz.func559, Tryz.ntmps559
 go_wp2_with ((with_reducible show wpList _ _ _ (⟨some 6, _, _, _, _, _⟩ :: _) _ _); refine wpList_copy_own rfl _ _ _ _ rfl _ gU.ht (by rw [hi]; simp [hsz]) g o 16 c ⟨w.heap.size, 0, none⟩ 16 16 rfl rfl cur _ hg [.int .u8 x0, .int .u8 x1, .int .u8 x2, .int .u8 x3, .int .u8 x4, .int .u8 x5, .int .u8 x6, .int .u8 x7, .int .u8 x8, .int .u8 x9, .int .u8 x10, .int .u8 x11, .int .u8 x12, .int .u8 x13, .int .u8 x14, .int .u8 x15] rfl hsrc (by simp; omega) (by simp [Value.oneCell']) ?_; generalize hW : World.setRow _ _ _ = W)
 go_end0
 subst hW
 refine ⟨rfl, hfr.trans (S' := fun k => k = g) ⟨rfl, rfl, rfl, by simp [World.setRow], fun k _ hk => setRow_other _ g k _ hk⟩ (fun _ _ h => h), ?_⟩
 simpa [List.append_assoc] using hotA.setRow hg [.int .u8 x0, .int .u8 x1, .int .u8 x2, .int .u8 x3, .int .u8 x4, .int .u8 x5, .int .u8 x6, .int .u8 x7, .int .u8 x8, .int .u8 x9, .int .u8 x10, .int .u8 x11, .int .u8 x12, .int .u8 x13, .int .u8 x14, .int .u8 x15] (by rw [h1]; rfl) ho
theorem nV : ∀ (k v i : Nat), i < k → (Lib.leBytes k v)[i]? = some ((v / 256 ^ i % 256).toUInt8)
 | 0, v, i, h => by omega
 | k + 1, v, 0, h => by simp [Lib.leBytes]
 | k + 1, v, i + 1, h => by
  rw [Lib.leBytes, List.getElem?_cons_succ, nV k (v / 256) i (by omega), Nat.div_div_eq_div_mul, Nat.pow_succ, Nat.mul_comm]
theorem aFc (n : Nat) : (256 : Nat) ^ n = 2 ^ (8 * n) := by
 rw [Nat.pow_mul]
theorem aCp (c : Cell) (i : Nat) (hi : i < 16) : (aQ (aJ 16 c))[i]? = some (.int .u8 (ipb c.r0 c.r1 i)) := by
 rw [tV, aQ, List.getElem?_map]
 by_cases h : i < 8
 · rw [List.getElem?_append_left (by rw [Lib.leBytes_length]; exact h), nV 8 _ i h, Option.map_some, Lib.toUInt8_mod, ipb, if_pos h, aFc, Nat.mod_eq_of_lt h]
   simp
 · rw [List.getElem?_append_right (by rw [Lib.leBytes_length]; omega), Lib.leBytes_length, nV 8 _ _ (by omega), Option.map_some, Lib.toUInt8_mod, ipb, if_neg h, aFc, show i - 8 = i % 8 by omega]
   simp
theorem aFR (c : Cell) : [.int .u8 (ipb c.r0 c.r1 0), .int .u8 (ipb c.r0 c.r1 1), .int .u8 (ipb c.r0 c.r1 2), .int .u8 (ipb c.r0 c.r1 3), .int .u8 (ipb c.r0 c.r1 4), .int .u8 (ipb c.r0 c.r1 5), .int .u8 (ipb c.r0 c.r1 6), .int .u8 (ipb c.r0 c.r1 7), .int .u8 (ipb c.r0 c.r1 8), .int .u8 (ipb c.r0 c.r1 9), .int .u8 (ipb c.r0 c.r1 10), .int .u8 (ipb c.r0 c.r1 11), .int .u8 (ipb c.r0 c.r1 12), .int .u8 (ipb c.r0 c.r1 13), .int .u8 (ipb c.r0 c.r1 14), .int .u8 (ipb c.r0 c.r1 15)] = aQ (aJ 16 c) := by
 apply List.ext_getElem?
 intro i
 by_cases hi : i < 16
 · rw [aCp c i hi]
   have : i = 0 ∨ i = 1 ∨ i = 2 ∨ i = 3 ∨ i = 4 ∨ i = 5 ∨ i = 6 ∨ i = 7 ∨ i = 8 ∨ i = 9 ∨ i = 10 ∨ i = 11 ∨ i = 12 ∨ i = 13 ∨ i = 14 ∨ i = 15 := by omega
   rcases this with h | h | h | h | h | h | h | h | h | h | h | h | h | h | h | h <;> subst h <;> rfl
 · rw [List.getElem?_eq_none (by simp; omega), List.getElem?_eq_none (by rw [bG, bF 16 (by omega)]; omega)]
end Go.Proofs.YtcidlnjpabgioaaGreatDoor
namespace Go.Proofs.YtcidlnjpabgioaaGreatDoor
open Go.RowKit
theorem aHu : ElT Tryz.prog 349 351 (.agg #[.int .u8 0, .int .u8 0, .int .u8 0, .int .u8 0, .int .u8 0, .int .u8 0, .int .u8 0, .int .u8 0, .int .u8 0, .int .u8 0, .int .u8 0, .int .u8 0, .int .u8 0, .int .u8 0, .int .u8 0, .int .u8 0]) 16 16 := ⟨Tryz.underlying349, info_parts (by kernel_rfl), rfl⟩
theorem aKh : ElT Tryz.prog 348 351 (.agg #[.int .u8 0, .int .u8 0, .int .u8 0, .int .u8 0, .int .u8 0, .int .u8 0, .int .u8 0, .int .u8 0, .int .u8 0, .int .u8 0, .int .u8 0, .int .u8 0, .int .u8 0, .int .u8 0, .int .u8 0, .int .u8 0]) 16 16 := ⟨Tryz.underlying348, info_parts (by kernel_rfl), rfl⟩
theorem aEA (w : World) (p : Nat) (n : Nat) (xs : List Value) (fp : Nat → Prop) (hc : aF w p 349 351 16 n xs fp) (hn : n < 2147483648) (x0 x1 x2 x3 x4 x5 x6 x7 x8 x9 x10 x11 x12 x13 x14 x15 : Int) :
 Calls Tryz.prog 550 #[.pointer (some ⟨p, 0, none⟩), .agg #[.int .u8 x0, .int .u8 x1, .int .u8 x2, .int .u8 x3, .int .u8 x4, .int .u8 x5, .int .u8 x6, .int .u8 x7, .int .u8 x8, .int .u8 x9, .int .u8 x10, .int .u8 x11, .int .u8 x12, .int .u8 x13, .int .u8 x14, .int .u8 x15]] w fun e w' => e = .returned (.tuple #[]) ∧ (∃ fp', aF w' p 349 351 16 (n + 1) (xs ++ [.int .u8 x0, .int .u8 x1, .int .u8 x2, .int .u8 x3, .int .u8 x4, .int .u8 x5, .int .u8 x6, .int .u8 x7, .int .u8 x8, .int .u8 x9, .int .u8 x10, .int .u8 x11, .int .u8 x12, .int .u8 x13, .int .u8 x14, .int .u8 x15]) fp' ∧ Grow w fp fp') ∧ Fr fp w w' := by
 obtain ⟨v, hp, hown, hne, hfp⟩ := hc
 obtain ⟨hcell, hfz⟩ := aF.cell hp
 obtain ⟨a0, c0, rfl⟩ := ownsRow_shape hown
 have hpl := aH hp
 go_enter Tryz.func550, Tryz.ntmps550
 go_wp2_with fail
 generalize hW : w.alloc _ = W
 have hfrW : Fr (fun _ => False) w W := by subst hW; exact (Fr.refl _ w).alloc _
 have d0 : W.cell? ⟨w.heap.size, 0, none⟩ = some (.int .u8 x0) := by subst hW; rw [aB rfl]; rfl
 have d1 : W.cell? ⟨w.heap.size, 1, none⟩ = some (.int .u8 x1) := by subst hW; rw [aB rfl]; rfl
 have d2 : W.cell? ⟨w.heap.size, 2, none⟩ = some (.int .u8 x2) := by subst hW; rw [aB rfl]; rfl
 have d3 : W.cell? ⟨w.heap.size, 3, none⟩ = some (.int .u8 x3) := by subst hW; rw [aB rfl]; rfl
 have d4 : W.cell? ⟨w.heap.size, 4, none⟩ = some (.int .u8 x4) := by subst hW; rw [aB rfl]; rfl
 have d5 : W.cell? ⟨w.heap.size, 5, none⟩ = some (.int .u8 x5) := by subst hW; rw [aB rfl]; rfl
 have d6 : W.cell? ⟨w.heap.size, 6, none⟩ = some (.int .u8 x6) := by subst hW; rw [aB rfl]; rfl
 have d7 : W.cell? ⟨w.heap.size, 7, none⟩ = some (.int .u8 x7) := by subst hW; rw [aB rfl]; rfl
 have d8 : W.cell? ⟨w.heap.size, 8, none⟩ = some (.int .u8 x8) := by subst hW; rw [aB rfl]; rfl
 have d9 : W.cell? ⟨w.heap.size, 9, none⟩ = some (.int .u8 x9) := by subst hW; rw [aB rfl]; rfl
 have d10 : W.cell? ⟨w.heap.size, 10, none⟩ = some (.int .u8 x10) := by subst hW; rw [aB rfl]; rfl
 have d11 : W.cell? ⟨w.heap.size, 11, none⟩ = some (.int .u8 x11) := by subst hW; rw [aB rfl]; rfl
 have d12 : W.cell? ⟨w.heap.size, 12, none⟩ = some (.int .u8 x12) := by subst hW; rw [aB rfl]; rfl
 have d13 : W.cell? ⟨w.heap.size, 13, none⟩ = some (.int .u8 x13) := by subst hW; rw [aB rfl]; rfl
 have d14 : W.cell? ⟨w.heap.size, 14, none⟩ = some (.int .u8 x14) := by subst hW; rw [aB rfl]; rfl
 have d15 : W.cell? ⟨w.heap.size, 15, none⟩ = some (.int .u8 x15) := by subst hW; rw [aB rfl]; rfl
 have hpW : W.heap[p]? = some (.cells #[.slice a0 n c0] 349 (0, 0)) := (hfrW.block p hpl (fun h => h)).trans hp
 have hownW := hfrW.owns hown (fun _ _ h => h)
 obtain ⟨hcellW, hfzW⟩ := aF.cell hpW
 have hplW := aH hpW
 clear hW
 have hpW2 : ∀ o, (W.alloc o).cell? ⟨p, 0, none⟩ = some (.slice a0 n c0) := fun o => (World.cell?_alloc_lt W o _ hplW).trans hcellW
 go_region_law (refine aS _ rfl ?_; refine dB _ aHu _ _ rfl _ _ _ rfl (hownW.alloc _) _ _ _ rfl (Src.ofSlice _ Tryz.underlying349 _ _ _ _ rfl (aW _ [.int .u8 x0, .int .u8 x1, .int .u8 x2, .int .u8 x3, .int .u8 x4, .int .u8 x5, .int .u8 x6, .int .u8 x7, .int .u8 x8, .int .u8 x9, .int .u8 x10, .int .u8 x11, .int .u8 x12, .int .u8 x13, .int .u8 x14, .int .u8 x15] _) (by simp [Value.oneCell'])) ?_ ?_ ?_; (unfold maxLen; omega); omega; intro v' w1 ha; obtain ⟨a', c', rfl⟩ := ha.shape; have hc1 : w1.cell? ⟨p, 0, none⟩ = some (.slice a0 n c0) := ha.2.1.cell ((((Fr.refl (fun _ => False) W).alloc _).drew).aA hcellW (fun h => h)) (fun h => hne h.symm); have hf1 : w1.frozen? ⟨p, 0, none⟩ = false := (World.frozen?_of_block (ha.2.1.block p (by simp; omega) (fun h => hne h.symm))).trans (by show (W.alloc _).frozen? _ = _; rw [World.frozen?_alloc_old _ _ _ (by simp; omega)]; exact hfzW))
 all_goals
  go_end0
  have hres := aF.appended hpW hownW hne hfp (((Fr.refl _ W).alloc _).drew) ha
  obtain ⟨⟨fp', h1, h2⟩, h3⟩ := hres
  exact ⟨rfl, ⟨fp', h1, fun k hk => (h2 k hk).imp id (fun h => Nat.le_trans hfrW.size h)⟩, (hfrW.mono (fun _ _ h => h.elim)).trans h3 (fun _ _ h => h)⟩
theorem xW (w : World) (p : Nat) (n : Nat) (xs : List Value) (fp : Nat → Prop) (hc : aF w p 349 351 16 n xs fp) (m : Nat) (sv : Value) (news : List Value) (hsrc : Src Tryz.prog 16 348 sv m news w) (hn : n + m ≤ 2147483648) :
 Calls Tryz.prog 551 #[.pointer (some ⟨p, 0, none⟩), sv] w fun e w' => e = .returned (.tuple #[]) ∧ (∃ fp', aF w' p 349 351 16 (n + m) (xs ++ news) fp' ∧ Grow w fp fp') ∧ Fr fp w w' := by
 obtain ⟨v, hp, hown, hne, hfp⟩ := hc
 obtain ⟨hcell, hfz⟩ := aF.cell hp
 obtain ⟨a0, c0, rfl⟩ := ownsRow_shape hown
 go_enter Tryz.func551, Tryz.ntmps551
 go_wp2_with ((with_reducible show wpList _ _ _ (⟨some 9, _, _, _, _, _⟩ :: _) _ _); (refine aP _ rfl aHu _ _ rfl _ _ _ rfl hown _ _ _ rfl hsrc ?_ ?_ ?_); (unfold maxLen; omega); omega; intro v' w1 ha; obtain ⟨a', c', rfl⟩ := ha.shape; have hc1 : w1.cell? ⟨p, 0, none⟩ = some (.slice a0 n c0) := ha.2.1.cell hcell (fun h => hne h.symm); have hf1 : w1.frozen? ⟨p, 0, none⟩ = false := (World.frozen?_of_block (ha.2.1.block p (aH hp) (fun h => hne h.symm))).trans hfz)
 go_end0
 exact ⟨rfl, aF.appended hp hown hne hfp (Fr.refl _ w) ha⟩
theorem aKi (w : World) (r0 r1 r2 r3 : Nat) (h0 : r0 < 18446744073709551616 ∧ r1 < 18446744073709551616) : Calls Tryz.prog 108 #[.agg #[.int .u64 r0, .int .u64 r1, .int .u64 r2, .int .u64 r3]] w fun e w' => e = .returned (.agg #[.int .u8 (ipb r0 r1 0), .int .u8 (ipb r0 r1 1), .int .u8 (ipb r0 r1 2), .int .u8 (ipb r0 r1 3), .int .u8 (ipb r0 r1 4), .int .u8 (ipb r0 r1 5), .int .u8 (ipb r0 r1 6), .int .u8 (ipb r0 r1 7), .int .u8 (ipb r0 r1 8), .int .u8 (ipb r0 r1 9), .int .u8 (ipb r0 r1 10), .int .u8 (ipb r0 r1 11), .int .u8 (ipb r0 r1 12), .int .u8 (ipb r0 r1 13), .int .u8 (ipb r0 r1 14), .int .u8 (ipb r0 r1 15)]) ∧ Fr (fun _ => False) w w' := by
 have hb : ∀ w, Calls Tryz.prog 109 #[.agg #[.int .u64 r0, .int .u64 r1, .int .u64 r2, .int .u64 r3]] w fun e w' => e = .returned (.agg #[.int .u8 (ipb r0 r1 0), .int .u8 (ipb r0 r1 1), .int .u8 (ipb r0 r1 2), .int .u8 (ipb r0 r1 3), .int .u8 (ipb r0 r1 4), .int .u8 (ipb r0 r1 5), .int .u8 (ipb r0 r1 6), .int .u8 (ipb r0 r1 7), .int .u8 (ipb r0 r1 8), .int .u8 (ipb r0 r1 9), .int .u8 (ipb r0 r1 10), .int .u8 (ipb r0 r1 11), .int .u8 (ipb r0 r1 12), .int .u8 (ipb r0 r1 13), .int .u8 (ipb r0 r1 14), .int .u8 (ipb r0 r1 15)]) ∧ Fr (fun _ => False) w w' := fun w => aCx w r0 r1 r2 r3 h0.1 h0.2
 go_enter Tryz.func108, Tryz.ntmps108
 go_wp2_with (go_at_call 109; refine (hb _).mono ?_; rintro e w1 ⟨rfl, hf1⟩; have hm : w1.heap[w.heap.size + 1]? = some (.cells #[.int .u8 0, .int .u8 0, .int .u8 0, .int .u8 0, .int .u8 0, .int .u8 0, .int .u8 0, .int .u8 0, .int .u8 0, .int .u8 0, .int .u8 0, .int .u8 0, .int .u8 0, .int .u8 0, .int .u8 0, .int .u8 0] 351 (0, 0)) := hf1.made (by simp); have q0 : w1.cell? ⟨w.heap.size + 1, 0, none⟩ = some (.int .u8 0) := (by (rw [cell_of_row _ _ _ _ _ _ hm]; rfl)); have q1 : w1.cell? ⟨w.heap.size + 1, 1, none⟩ = some (.int .u8 0) := (by (rw [cell_of_row _ _ _ _ _ _ hm]; rfl)); have q2 : w1.cell? ⟨w.heap.size + 1, 2, none⟩ = some (.int .u8 0) := (by (rw [cell_of_row _ _ _ _ _ _ hm]; rfl)); have q3 : w1.cell? ⟨w.heap.size + 1, 3, none⟩ = some (.int .u8 0) := (by (rw [cell_of_row _ _ _ _ _ _ hm]; rfl)); have q4 : w1.cell? ⟨w.heap.size + 1, 4, none⟩ = some (.int .u8 0) := (by (rw [cell_of_row _ _ _ _ _ _ hm]; rfl)); have q5 : w1.cell? ⟨w.heap.size + 1, 5, none⟩ = some (.int .u8 0) := (by (rw [cell_of_row _ _ _ _ _ _ hm]; rfl)); have q6 : w1.cell? ⟨w.heap.size + 1, 6, none⟩ = some (.int .u8 0) := (by (rw [cell_of_row _ _ _ _ _ _ hm]; rfl)); have q7 : w1.cell? ⟨w.heap.size + 1, 7, none⟩ = some (.int .u8 0) := (by (rw [cell_of_row _ _ _ _ _ _ hm]; rfl)); have q8 : w1.cell? ⟨w.heap.size + 1, 8, none⟩ = some (.int .u8 0) := (by (rw [cell_of_row _ _ _ _ _ _ hm]; rfl)); have q9 : w1.cell? ⟨w.heap.size + 1, 9, none⟩ = some (.int .u8 0) := (by (rw [cell_of_row _ _ _ _ _ _ hm]; rfl)); have q10 : w1.cell? ⟨w.heap.size + 1, 10, none⟩ = some (.int .u8 0) := (by (rw [cell_of_row _ _ _ _ _ _ hm]; rfl)); have q11 : w1.cell? ⟨w.heap.size + 1, 11, none⟩ = some (.int .u8 0) := (by (rw [cell_of_row _ _ _ _ _ _ hm]; rfl)); have q12 : w1.cell? ⟨w.heap.size + 1, 12, none⟩ = some (.int .u8 0) := (by (rw [cell_of_row _ _ _ _ _ _ hm]; rfl)); have q13 : w1.cell? ⟨w.heap.size + 1, 13, none⟩ = some (.int .u8 0) := (by (rw [cell_of_row _ _ _ _ _ _ hm]; rfl)); have q14 : w1.cell? ⟨w.heap.size + 1, 14, none⟩ = some (.int .u8 0) := (by (rw [cell_of_row _ _ _ _ _ _ hm]; rfl)); have q15 : w1.cell? ⟨w.heap.size + 1, 15, none⟩ = some (.int .u8 0) := (by (rw [cell_of_row _ _ _ _ _ _ hm]; rfl)); have z0 : w1.frozen? ⟨w.heap.size + 1, 0, none⟩ = false := frozen_of_row _ _ _ _ _ hm; have z1 : w1.frozen? ⟨w.heap.size + 1, 1, none⟩ = false := frozen_of_row _ _ _ _ _ hm; have z2 : w1.frozen? ⟨w.heap.size + 1, 2, none⟩ = false := frozen_of_row _ _ _ _ _ hm; have z3 : w1.frozen? ⟨w.heap.size + 1, 3, none⟩ = false := frozen_of_row _ _ _ _ _ hm; have z4 : w1.frozen? ⟨w.heap.size + 1, 4, none⟩ = false := frozen_of_row _ _ _ _ _ hm; have z5 : w1.frozen? ⟨w.heap.size + 1, 5, none⟩ = false := frozen_of_row _ _ _ _ _ hm; have z6 : w1.frozen? ⟨w.heap.size + 1, 6, none⟩ = false := frozen_of_row _ _ _ _ _ hm; have z7 : w1.frozen? ⟨w.heap.size + 1, 7, none⟩ = false := frozen_of_row _ _ _ _ _ hm; have z8 : w1.frozen? ⟨w.heap.size + 1, 8, none⟩ = false := frozen_of_row _ _ _ _ _ hm; have z9 : w1.frozen? ⟨w.heap.size + 1, 9, none⟩ = false := frozen_of_row _ _ _ _ _ hm; have z10 : w1.frozen? ⟨w.heap.size + 1, 10, none⟩ = false := frozen_of_row _ _ _ _ _ hm; have z11 : w1.frozen? ⟨w.heap.size + 1, 11, none⟩ = false := frozen_of_row _ _ _ _ _ hm; have z12 : w1.frozen? ⟨w.heap.size + 1, 12, none⟩ = false := frozen_of_row _ _ _ _ _ hm; have z13 : w1.frozen? ⟨w.heap.size + 1, 13, none⟩ = false := frozen_of_row _ _ _ _ _ hm; have z14 : w1.frozen? ⟨w.heap.size + 1, 14, none⟩ = false := frozen_of_row _ _ _ _ _ hm; have z15 : w1.frozen? ⟨w.heap.size + 1, 15, none⟩ = false := frozen_of_row _ _ _ _ _ hm)
 refine bodyPost_ret (by simp [results, Tryz.results108, go_sem, q0, q1, q2, q3, q4, q5, q6, q7, q8, q9, q10, q11, q12, q13, q14, q15]; try rfl) rfl ?_
 exact ⟨rfl, (((((((((((((((((((Fr.refl (fun _ => False) w).alloc _).alloc _).trans hf1 (fun _ _ h => h)).setCell (.inr (by simp)) _).setCell (.inr (by simp)) _).setCell (.inr (by simp)) _).setCell (.inr (by simp)) _).setCell (.inr (by simp)) _).setCell (.inr (by simp)) _).setCell (.inr (by simp)) _).setCell (.inr (by simp)) _).setCell (.inr (by simp)) _).setCell (.inr (by simp)) _).setCell (.inr (by simp)) _).setCell (.inr (by simp)) _).setCell (.inr (by simp)) _).setCell (.inr (by simp)) _).setCell (.inr (by simp)) _).setCell (.inr (by simp)) _⟩
theorem aJd (w : World) (nb : Nat) (r0 r1 r2 r3 : Nat) (h0 : r0 < 18446744073709551616 ∧ r1 < 18446744073709551616) (s : ByteArray) (null : Bool) (iv kv : Value) (hf : w.cell? ⟨nb, 1, none⟩ = some (.func (.func 108) #[] #[])) :
 Calls Tryz.prog 564 #[.agg #[.int .u64 r0, .int .u64 r1, .int .u64 r2, .int .u64 r3, .string s, .bool null, iv, kv], .pointer (some ⟨nb, 0, none⟩)] w fun e w' => e = .returned (.agg #[.int .u8 (ipb r0 r1 0), .int .u8 (ipb r0 r1 1), .int .u8 (ipb r0 r1 2), .int .u8 (ipb r0 r1 3), .int .u8 (ipb r0 r1 4), .int .u8 (ipb r0 r1 5), .int .u8 (ipb r0 r1 6), .int .u8 (ipb r0 r1 7), .int .u8 (ipb r0 r1 8), .int .u8 (ipb r0 r1 9), .int .u8 (ipb r0 r1 10), .int .u8 (ipb r0 r1 11), .int .u8 (ipb r0 r1 12), .int .u8 (ipb r0 r1 13), .int .u8 (ipb r0 r1 14), .int .u8 (ipb r0 r1 15)]) ∧ Fr (fun _ => False) w w' := by
 have hf' : ∀ o, (w.alloc o).cell? ⟨nb, 1, none⟩ = some (.func (.func 108) #[] #[]) := fun o => (World.cell?_alloc_lt w o _ (World.block_lt_of_cell? w _ hf)).trans hf
 have hf2 : ∀ o o', ((w.alloc o).alloc o').cell? ⟨nb, 1, none⟩ = some (.func (.func 108) #[] #[]) := fun o o' => (World.cell?_alloc_lt (w.alloc o) o' _ (World.block_lt_of_cell? _ _ (hf' o))).trans (hf' o)
 go_enter Tryz.func564, Tryz.ntmps564
 go_wp2_with (go_at_call 108; refine (aKi _ r0 r1 r2 r3 h0).mono ?_; rintro e w1 ⟨rfl, hf1⟩; have hm : w1.heap[w.heap.size + 1]? = some (.cells #[.int .u8 0, .int .u8 0, .int .u8 0, .int .u8 0, .int .u8 0, .int .u8 0, .int .u8 0, .int .u8 0, .int .u8 0, .int .u8 0, .int .u8 0, .int .u8 0, .int .u8 0, .int .u8 0, .int .u8 0, .int .u8 0] 351 (0, 0)) := hf1.made (by simp); have q0 : w1.cell? ⟨w.heap.size + 1, 0, none⟩ = some (.int .u8 0) := (by (rw [cell_of_row _ _ _ _ _ _ hm]; rfl)); have q1 : w1.cell? ⟨w.heap.size + 1, 1, none⟩ = some (.int .u8 0) := (by (rw [cell_of_row _ _ _ _ _ _ hm]; rfl)); have q2 : w1.cell? ⟨w.heap.size + 1, 2, none⟩ = some (.int .u8 0) := (by (rw [cell_of_row _ _ _ _ _ _ hm]; rfl)); have q3 : w1.cell? ⟨w.heap.size + 1, 3, none⟩ = some (.int .u8 0) := (by (rw [cell_of_row _ _ _ _ _ _ hm]; rfl)); have q4 : w1.cell? ⟨w.heap.size + 1, 4, none⟩ = some (.int .u8 0) := (by (rw [cell_of_row _ _ _ _ _ _ hm]; rfl)); have q5 : w1.cell? ⟨w.heap.size + 1, 5, none⟩ = some (.int .u8 0) := (by (rw [cell_of_row _ _ _ _ _ _ hm]; rfl)); have q6 : w1.cell? ⟨w.heap.size + 1, 6, none⟩ = some (.int .u8 0) := (by (rw [cell_of_row _ _ _ _ _ _ hm]; rfl)); have q7 : w1.cell? ⟨w.heap.size + 1, 7, none⟩ = some (.int .u8 0) := (by (rw [cell_of_row _ _ _ _ _ _ hm]; rfl)); have q8 : w1.cell? ⟨w.heap.size + 1, 8, none⟩ = some (.int .u8 0) := (by (rw [cell_of_row _ _ _ _ _ _ hm]; rfl)); have q9 : w1.cell? ⟨w.heap.size + 1, 9, none⟩ = some (.int .u8 0) := (by (rw [cell_of_row _ _ _ _ _ _ hm]; rfl)); have q10 : w1.cell? ⟨w.heap.size + 1, 10, none⟩ = some (.int .u8 0) := (by (rw [cell_of_row _ _ _ _ _ _ hm]; rfl)); have q11 : w1.cell? ⟨w.heap.size + 1, 11, none⟩ = some (.int .u8 0) := (by (rw [cell_of_row _ _ _ _ _ _ hm]; rfl)); have q12 : w1.cell? ⟨w.heap.size + 1, 12, none⟩ = some (.int .u8 0) := (by (rw [cell_of_row _ _ _ _ _ _ hm]; rfl)); have q13 : w1.cell? ⟨w.heap.size + 1, 13, none⟩ = some (.int .u8 0) := (by (rw [cell_of_row _ _ _ _ _ _ hm]; rfl)); have q14 : w1.cell? ⟨w.heap.size + 1, 14, none⟩ = some (.int .u8 0) := (by (rw [cell_of_row _ _ _ _ _ _ hm]; rfl)); have q15 : w1.cell? ⟨w.heap.size + 1, 15, none⟩ = some (.int .u8 0) := (by (rw [cell_of_row _ _ _ _ _ _ hm]; rfl)); have z0 : w1.frozen? ⟨w.heap.size + 1, 0, none⟩ = false := frozen_of_row _ _ _ _ _ hm; have z1 : w1.frozen? ⟨w.heap.size + 1, 1, none⟩ = false := frozen_of_row _ _ _ _ _ hm; have z2 : w1.frozen? ⟨w.heap.size + 1, 2, none⟩ = false := frozen_of_row _ _ _ _ _ hm; have z3 : w1.frozen? ⟨w.heap.size + 1, 3, none⟩ = false := frozen_of_row _ _ _ _ _ hm; have z4 : w1.frozen? ⟨w.heap.size + 1, 4, none⟩ = false := frozen_of_row _ _ _ _ _ hm; have z5 : w1.frozen? ⟨w.heap.size + 1, 5, none⟩ = false := frozen_of_row _ _ _ _ _ hm; have z6 : w1.frozen? ⟨w.heap.size + 1, 6, none⟩ = false := frozen_of_row _ _ _ _ _ hm; have z7 : w1.frozen? ⟨w.heap.size + 1, 7, none⟩ = false := frozen_of_row _ _ _ _ _ hm; have z8 : w1.frozen? ⟨w.heap.size + 1, 8, none⟩ = false := frozen_of_row _ _ _ _ _ hm; have z9 : w1.frozen? ⟨w.heap.size + 1, 9, none⟩ = false := frozen_of_row _ _ _ _ _ hm; have z10 : w1.frozen? ⟨w.heap.size + 1, 10, none⟩ = false := frozen_of_row _ _ _ _ _ hm; have z11 : w1.frozen? ⟨w.heap.size + 1, 11, none⟩ = false := frozen_of_row _ _ _ _ _ hm; have z12 : w1.frozen? ⟨w.heap.size + 1, 12, none⟩ = false := frozen_of_row _ _ _ _ _ hm; have z13 : w1.frozen? ⟨w.heap.size + 1, 13, none⟩ = false := frozen_of_row _ _ _ _ _ hm; have z14 : w1.frozen? ⟨w.heap.size + 1, 14, none⟩ = false := frozen_of_row _ _ _ _ _ hm; have z15 : w1.frozen? ⟨w.heap.size + 1, 15, none⟩ = false := frozen_of_row _ _ _ _ _ hm)
 refine bodyPost_ret (by simp [results, Tryz.results564, go_sem, q0, q1, q2, q3, q4, q5, q6, q7, q8, q9, q10, q11, q12, q13, q14, q15]; try rfl) rfl ?_
 exact ⟨rfl, (((((((((((((((((((Fr.refl (fun _ => False) w).alloc _).alloc _).trans hf1 (fun _ _ h => h)).setCell (.inr (by simp)) _).setCell (.inr (by simp)) _).setCell (.inr (by simp)) _).setCell (.inr (by simp)) _).setCell (.inr (by simp)) _).setCell (.inr (by simp)) _).setCell (.inr (by simp)) _).setCell (.inr (by simp)) _).setCell (.inr (by simp)) _).setCell (.inr (by simp)) _).setCell (.inr (by simp)) _).setCell (.inr (by simp)) _).setCell (.inr (by simp)) _).setCell (.inr (by simp)) _).setCell (.inr (by simp)) _).setCell (.inr (by simp)) _⟩
theorem aBd (a : Addr) (w : World) : (method (Tryz.prog.types.size + Made.depth) 347 (.pointer (some a)) "Append").run Tryz.prog w = .ok (550, .pointer (some a)) w := by kernel_rfl
theorem uG (a : Addr) (w : World) : (method (Tryz.prog.types.size + Made.depth) 347 (.pointer (some a)) "AppendArr").run Tryz.prog w = .ok (551, .pointer (some a)) w := by kernel_rfl
theorem vS (w : World) (p nb : Nat) (n : Nat) (xs : List Value) (fp : Nat → Prop) (hc : aF w p 349 351 16 n xs fp) (hn : n < 2147483648) (hf : w.cell? ⟨nb, 1, none⟩ = some (.func (.func 108) #[] #[]))
 (r0 r1 r2 r3 : Nat) (h0 : r0 < 18446744073709551616 ∧ r1 < 18446744073709551616) (s : ByteArray) (null : Bool) (iv kv : Value) :
 Calls Tryz.prog 682 #[.agg #[.iface 347 (.pointer (some ⟨p, 0, none⟩)), .func (.func 564) #[] #[.pointer (some ⟨nb, 0, none⟩)], .func (.func 565) #[] #[.pointer (some ⟨nb, 0, none⟩)]], .agg #[.int .u64 r0, .int .u64 r1, .int .u64 r2, .int .u64 r3, .string s, .bool null, iv, kv]] w fun e w' =>
  e = .returned (.tuple #[]) ∧ (∃ fp', aF w' p 349 351 16 (n + 1) (xs ++ [.int .u8 (ipb r0 r1 0), .int .u8 (ipb r0 r1 1), .int .u8 (ipb r0 r1 2), .int .u8 (ipb r0 r1 3), .int .u8 (ipb r0 r1 4), .int .u8 (ipb r0 r1 5), .int .u8 (ipb r0 r1 6), .int .u8 (ipb r0 r1 7), .int .u8 (ipb r0 r1 8), .int .u8 (ipb r0 r1 9), .int .u8 (ipb r0 r1 10), .int .u8 (ipb r0 r1 11), .int .u8 (ipb r0 r1 12), .int .u8 (ipb r0 r1 13), .int .u8 (ipb r0 r1 14), .int .u8 (ipb r0 r1 15)]) fp' ∧ Grow w fp fp') ∧ Fr fp w w' := by
 go_enter Tryz.func682, Tryz.ntmps682
 go_wp2_with fail
 generalize hW : (w.alloc _).alloc _ = W
 have hfrW : Fr (fun _ => False) w W := by subst hW; exact ((Fr.refl _ w).alloc _).alloc _
 have d0 : W.cell? ⟨w.heap.size, 0, none⟩ = some (.iface 347 (.pointer (some ⟨p, 0, none⟩))) := by subst hW; rw [World.cell?_alloc_lt _ _ _ (by simp), aB rfl]; rfl
 have d1 : W.cell? ⟨w.heap.size, 1, none⟩ = some (.func (.func 564) #[] #[.pointer (some ⟨nb, 0, none⟩)]) := by subst hW; rw [World.cell?_alloc_lt _ _ _ (by simp), aB rfl]; rfl
 have e0 : W.cell? ⟨w.heap.size + 1, 0, none⟩ = some (.int .u64 r0) := by subst hW; rw [aB (by simp)]; rfl
 have e1 : W.cell? ⟨w.heap.size + 1, 1, none⟩ = some (.int .u64 r1) := by subst hW; rw [aB (by simp)]; rfl
 have e2 : W.cell? ⟨w.heap.size + 1, 2, none⟩ = some (.int .u64 r2) := by subst hW; rw [aB (by simp)]; rfl
 have e3 : W.cell? ⟨w.heap.size + 1, 3, none⟩ = some (.int .u64 r3) := by subst hW; rw [aB (by simp)]; rfl
 have e4 : W.cell? ⟨w.heap.size + 1, 4, none⟩ = some (.string s) := by subst hW; rw [aB (by simp)]; rfl
 have e5 : W.cell? ⟨w.heap.size + 1, 5, none⟩ = some (.bool null) := by subst hW; rw [aB (by simp)]; rfl
 have e6 : W.cell? ⟨w.heap.size + 1, 6, none⟩ = some iv := by subst hW; rw [aB (by simp)]; rfl
 have e7 : W.cell? ⟨w.heap.size + 1, 7, none⟩ = some kv := by subst hW; rw [aB (by simp)]; rfl
 have hcW : aF W p 349 351 16 n xs fp := hc.aT fun k hk => hfrW.block k (hc.lt k hk) (fun h => h)
 have hfW : W.cell? ⟨nb, 1, none⟩ = some (.func (.func 108) #[] #[]) := hfrW.aA hf (fun h => h)
 have hN : ¬ fp w.heap.size := fun h => by have := hc.lt _ h; omega
 have hN1 : ¬ fp (w.heap.size + 1) := fun h => by have := hc.lt _ h; omega
 clear hW
 go_region_held3 (fun w' => w'.cell? ⟨w.heap.size, 0, none⟩ = some (.iface 347 (.pointer (some ⟨p, 0, none⟩))) ∧ w'.cell? ⟨w.heap.size, 1, none⟩ = some (.func (.func 564) #[] #[.pointer (some ⟨nb, 0, none⟩)]) ∧
  w'.cell? ⟨w.heap.size + 1, 0, none⟩ = some (.int .u64 r0) ∧ w'.cell? ⟨w.heap.size + 1, 1, none⟩ = some (.int .u64 r1) ∧ w'.cell? ⟨w.heap.size + 1, 2, none⟩ = some (.int .u64 r2) ∧ w'.cell? ⟨w.heap.size + 1, 3, none⟩ = some (.int .u64 r3) ∧
  w'.cell? ⟨w.heap.size + 1, 4, none⟩ = some (.string s) ∧ w'.cell? ⟨w.heap.size + 1, 5, none⟩ = some (.bool null) ∧ w'.cell? ⟨w.heap.size + 1, 6, none⟩ = some iv ∧ w'.cell? ⟨w.heap.size + 1, 7, none⟩ = some kv)
  (first
   | exact ⟨d0, d1, e0, e1, e2, e3, e4, e5, e6, e7⟩
   | exact ⟨hf2.aA d0 hN, hf2.aA d1 hN, hf2.aA e0 hN1, hf2.aA e1 hN1, hf2.aA e2 hN1, hf2.aA e3 hN1, hf2.aA e4 hN1, hf2.aA e5 hN1, hf2.aA e6 hN1, hf2.aA e7 hN1⟩
   | exact ⟨hf1.aA d0 (fun h => h), hf1.aA d1 (fun h => h), hf1.aA e0 (fun h => h), hf1.aA e1 (fun h => h), hf1.aA e2 (fun h => h), hf1.aA e3 (fun h => h), hf1.aA e4 (fun h => h), hf1.aA e5 (fun h => h), hf1.aA e6 (fun h => h), hf1.aA e7 (fun h => h)⟩
   | assumption)
  (first
   | (refine aS _ rfl ?_; refine fK _ _ _ _ rfl _ _ rfl (dC.func1 Tryz.call564 (aJd _ nb r0 r1 r2 r3 h0 s null iv kv hfW)) rfl ?_; rintro e w1 ⟨rfl, hf1⟩; refine ⟨_, rfl, ?_⟩)
   | (refine aS _ rfl ?_; refine bU _ _ _ _ _ rfl _ _ rfl (aI.of1 (aBd _ _) Tryz.call550 (aEA _ p n xs fp (hcW.aT fun k hk => hf1.block k (hcW.lt k hk) (fun h => h)) hn (ipb r0 r1 0) (ipb r0 r1 1) (ipb r0 r1 2) (ipb r0 r1 3) (ipb r0 r1 4) (ipb r0 r1 5) (ipb r0 r1 6) (ipb r0 r1 7) (ipb r0 r1 8) (ipb r0 r1 9) (ipb r0 r1 10) (ipb r0 r1 11) (ipb r0 r1 12) (ipb r0 r1 13) (ipb r0 r1 14) (ipb r0 r1 15))) rfl ?_; rintro e w2 ⟨rfl, hcol, hf2'⟩; have hf2 : Fr fp W w2 := (hf1.aG.mono (fun _ _ h => h.elim)).trans hf2' (fun _ _ h => h); refine ⟨_, rfl, ?_⟩))
 all_goals
  go_end0
  refine ⟨rfl, ?_, (hfrW.mono (fun _ _ h => h.elim)).trans hf2 (fun _ _ h => h)⟩
  obtain ⟨fp', h1, h2⟩ := hcol
  exact ⟨fp', h1, fun k hk => (h2 k hk).imp id (fun h => Nat.le_trans (Nat.le_trans hfrW.size hf1.size) h)⟩
def gK (c : Cell) : List Value := [.int .u8 (ipb c.r0 c.r1 0), .int .u8 (ipb c.r0 c.r1 1), .int .u8 (ipb c.r0 c.r1 2), .int .u8 (ipb c.r0 c.r1 3), .int .u8 (ipb c.r0 c.r1 4), .int .u8 (ipb c.r0 c.r1 5), .int .u8 (ipb c.r0 c.r1 6), .int .u8 (ipb c.r0 c.r1 7), .int .u8 (ipb c.r0 c.r1 8), .int .u8 (ipb c.r0 c.r1 9), .int .u8 (ipb c.r0 c.r1 10), .int .u8 (ipb c.r0 c.r1 11), .int .u8 (ipb c.r0 c.r1 12), .int .u8 (ipb c.r0 c.r1 13), .int .u8 (ipb c.r0 c.r1 14), .int .u8 (ipb c.r0 c.r1 15)]
theorem aDC (w : World) (B nb : Nat) (hBw : B ≤ w.heap.size) (hf : w.cell? ⟨nb, 1, none⟩ = some (.func (.func 108) #[] #[])) (cs : List Cell) (v : Value) (xs : List Value) (hs : Sl B w 8 v cs.length xs) (hc : aC B w cs xs) (hn : cs.length ≤ 2147483648) :
 Calls Tryz.prog 685 #[v, .func (.func 564) #[] #[.pointer (some ⟨nb, 0, none⟩)]] w fun e w' => ∃ tv, e = .returned tv ∧ w'.ownsRow 0 351 16 tv cs.length (cs.flatMap gK) ∧ Fr (fun _ => False) w w' := by
 have hs' := hs
 obtain ⟨hxl, ao, cap, rfl, hnc, hcm, h0, ha⟩ := hs
 unfold maxLen at hcm
 clear ha h0 hxl
 go_enter Tryz.func685, Tryz.ntmps685
 go_wp2
 go_loopw [5, 10] (fun tv i wr => ∃ k : Nat, k ≤ cs.length ∧ i = .int .i64 k ∧ wr.ownsRow 0 351 16 tv k ((cs.take k).flatMap gK) ∧ (∀ q, tv.ownBlock = some q → w.heap.size ≤ q) ∧ Fr (fun _ => False) w wr) (fun _ i _ => cs.length - (intOf i).toNat)
 case atStart => exact ⟨0, Nat.zero_le _, rfl, World.ownsRow_nil _ _ _ _, by simp [Value.ownBlock], Fr.refl _ _⟩
 case round =>
  obtain ⟨k, hk, rfl, hown, hsince, hfr⟩ := hrel
  have hbr : Below B w wr := hfr.below hBw (fun _ _ h => h)
  obtain ⟨a0, c0, rfl⟩ := ownsRow_shape hown
  by_cases hlt : k < cs.length
  · obtain ⟨b, off, cap', hv, hbB, vs, hvs, hcell⟩ := (hs'.below hbr).row (aC.below hbr _ _ hc) hlt
    have hstep := Lib.hid (bV gK cs k hlt)
    generalize cs[k] = c at hvs hstep
    obtain ⟨ia, il, ic, ka, kl, kc, rfl, h0, h1, h2, h3, h4⟩ := hvs.open
    simp only [Value.slice.injEq] at hv
    obtain ⟨rfl, _, rfl⟩ := hv
    have d0 := hcell 0 _ rfl
    have d1 := hcell 1 _ rfl
    have d2 := hcell 2 _ rfl
    have d3 := hcell 3 _ rfl
    have d4 := hcell 4 _ rfl
    have d5 := hcell 5 _ rfl
    have d6 := hcell 6 _ rfl
    have d7 := hcell 7 _ rfl
    simp only [Nat.add_zero] at d0
    have hfa : Fr (fun _ => False) w (wr.alloc (.cells #[.int .u64 c.r0, .int .u64 c.r1, .int .u64 c.r2, .int .u64 c.r3, .string c.s, .bool c.null, .slice ia il ic, .slice ka kl kc] 35)) := hfr.alloc _
    have hin := aJd _ nb c.r0 c.r1 c.r2 c.r3 ⟨h0, h1⟩ c.s c.null (.slice ia il ic) (.slice ka kl kc) (hfa.aA hf (fun h => h))
    clear hcell hvs hs' hc
    go_wp2_with (first | ((with_reducible show wpList _ _ _ (⟨some 17, _, _, _, _, _⟩ :: _) _ _); refine dE _ rfl _ _ _ rfl _ _ rfl (dC.func1 Tryz.call564 hin) rfl ?_; rintro e w1 ⟨rfl, hf1⟩; refine ⟨_, rfl, ?_⟩; have hfw1 : Fr (fun _ => False) w w1 := hfa.trans hf1 (fun _ _ h => h); have hown1 := hf1.owns ((Fr.refl (fun _ => False) wr).alloc _ |>.owns hown (fun _ _ h => h)) (fun _ _ h => h)) | ((with_reducible show wpList _ _ _ (⟨some 19, _, _, _, _, _⟩ :: _) _ _); refine aP _ rfl aKh _ _ rfl _ _ _ rfl (hown1.alloc _) _ _ _ rfl (Src.ofSlice _ Tryz.underlying348 _ _ _ _ rfl (aW _ [.int .u8 (ipb c.r0 c.r1 0), .int .u8 (ipb c.r0 c.r1 1), .int .u8 (ipb c.r0 c.r1 2), .int .u8 (ipb c.r0 c.r1 3), .int .u8 (ipb c.r0 c.r1 4), .int .u8 (ipb c.r0 c.r1 5), .int .u8 (ipb c.r0 c.r1 6), .int .u8 (ipb c.r0 c.r1 7), .int .u8 (ipb c.r0 c.r1 8), .int .u8 (ipb c.r0 c.r1 9), .int .u8 (ipb c.r0 c.r1 10), .int .u8 (ipb c.r0 c.r1 11), .int .u8 (ipb c.r0 c.r1 12), .int .u8 (ipb c.r0 c.r1 13), .int .u8 (ipb c.r0 c.r1 14), .int .u8 (ipb c.r0 c.r1 15)] _) (by simp [Value.oneCell'])) ?_ ?_ ?_; (unfold maxLen; omega); omega; intro v' w2 ha; obtain ⟨a', c', rfl⟩ := ha.shape))
    go_roundw
    case rel => exact ⟨k + 1, by omega, by go_num, by rw [hstep.out]; exact ha.1, (ha.since (hfw1.alloc _) hsince).1, (ha.since (hfw1.alloc _) hsince).2⟩
    case measure => simp [intOf]; omega
  · have hke : k = cs.length := by omega
    subst hke
    rw [List.take_length] at hown
    go_wp2
    go_ret
    exact ⟨_, rfl, hown, hfr⟩
theorem zK (cs : List Cell) : ∀ u ∈ cs.flatMap gK, u.oneCell' = true := by
 intro u hu
 obtain ⟨c, _, hc⟩ := List.mem_flatMap.1 hu
 simp only [gK, List.mem_cons, List.not_mem_nil, or_false] at hc
 rcases hc with rfl | rfl | rfl | rfl | rfl | rfl | rfl | rfl | rfl | rfl | rfl | rfl | rfl | rfl | rfl | rfl <;> rfl
theorem oI (w : World) (B p nb : Nat) (hBw : B ≤ w.heap.size) (n : Nat) (xs : List Value) (fp : Nat → Prop) (hc : aF w p 349 351 16 n xs fp) (hf : w.cell? ⟨nb, 1, none⟩ = some (.func (.func 108) #[] #[]))
 (cs : List Cell) (v : Value) (ys : List Value) (hs : Sl B w 8 v cs.length ys) (hcs : aC B w cs ys) (hn : n + cs.length ≤ 2147483648) :
 Calls Tryz.prog 683 #[.agg #[.iface 347 (.pointer (some ⟨p, 0, none⟩)), .func (.func 564) #[] #[.pointer (some ⟨nb, 0, none⟩)], .func (.func 565) #[] #[.pointer (some ⟨nb, 0, none⟩)]], v] w fun e w' =>
  e = .returned (.tuple #[]) ∧ (∃ fp', aF w' p 349 351 16 (n + cs.length) (xs ++ cs.flatMap gK) fp' ∧ Grow w fp fp') ∧ Fr fp w w' := by
 go_enter Tryz.func683, Tryz.ntmps683
 go_wp2_with fail
 generalize hW : w.alloc _ = W
 have hfrW : Fr (fun _ => False) w W := by subst hW; exact (Fr.refl _ w).alloc _
 have d0 : W.cell? ⟨w.heap.size, 0, none⟩ = some (.iface 347 (.pointer (some ⟨p, 0, none⟩))) := by subst hW; rw [aB rfl]; rfl
 have d1 : W.cell? ⟨w.heap.size, 1, none⟩ = some (.func (.func 564) #[] #[.pointer (some ⟨nb, 0, none⟩)]) := by subst hW; rw [aB rfl]; rfl
 have hcW : aF W p 349 351 16 n xs fp := hc.aT fun k hk => hfrW.block k (hc.lt k hk) (fun h => h)
 have hfW : W.cell? ⟨nb, 1, none⟩ = some (.func (.func 108) #[] #[]) := hfrW.aA hf (fun h => h)
 have hN : ¬ fp w.heap.size := fun h => by have := hc.lt _ h; omega
 have hsW := hs.fr hBw hfrW
 have hcsW := aC.below (hfrW.below hBw (fun _ _ h => h)) _ _ hcs
 have hBW : B ≤ W.heap.size := Nat.le_trans hBw hfrW.size
 have hsD := hsW.fr hBW (Fr.refl (fun _ => False) W).drew
 have hcsD := aC.below ((Below.refl B W).drew) _ _ hcsW
 clear hW hs hcs
 go_region_held3 (fun w' => w'.cell? ⟨w.heap.size, 0, none⟩ = some (.iface 347 (.pointer (some ⟨p, 0, none⟩))) ∧ w'.cell? ⟨w.heap.size, 1, none⟩ = some (.func (.func 564) #[] #[.pointer (some ⟨nb, 0, none⟩)]))
  (first
   | exact ⟨d0, d1⟩
   | exact ⟨hf2.aA d0 hN, hf2.aA d1 hN⟩
   | exact ⟨hf1.aA d0 (fun h => h), hf1.aA d1 (fun h => h)⟩
   | assumption)
  (first
   | (go_at_call 685; refine (aDC W.drew B nb hBW hfW cs v ys hsD hcsD (by omega)).mono ?_; rintro e w1 ⟨tv, rfl, hown, hf1⟩)
   | (refine aS _ rfl ?_; refine bU _ _ _ _ _ rfl _ _ rfl (aI.of1 (uG _ _) Tryz.call551 (xW _ p n xs fp (hcW.aT fun k hk => hf1.block k (hcW.lt k hk) (fun h => h)) _ _ _ (Src.jH Tryz.underlying348 hown (zK cs)) hn)) rfl ?_; rintro e w2 ⟨rfl, hcol, hf2'⟩; have hf2 : Fr fp W w2 := (hf1.aG.mono (fun _ _ h => h.elim)).trans hf2' (fun _ _ h => h); refine ⟨_, rfl, ?_⟩))
 all_goals
  go_end0
  refine ⟨rfl, ?_, (hfrW.mono (fun _ _ h => h.elim)).trans hf2 (fun _ _ h => h)⟩
  obtain ⟨fp', h1, h2⟩ := hcol
  exact ⟨fp', h1, fun k hk => (h2 k hk).imp id (fun h => Nat.le_trans (Nat.le_trans hfrW.size hf1.size) h)⟩
theorem aHN (w : World) (a : Option Addr) (n c : Nat) : Calls Tryz.prog 556 #[.slice a n c] w fun e w' => e = .returned (.int .i64 n) ∧ Fr (fun _ => False) w w' := by
 go_enter Tryz.func556, Tryz.ntmps556
 go_wp2
 go_ret
 exact ⟨rfl, Fr.refl _ _⟩
theorem aEJ (w : World) (b : Nat) (fb : Nat → Prop) (bs : List UInt8) (hb : Buf w b fb bs) (a : Option Addr) (c : Nat) (cs : List Cell) (hown : w.ownsRow 0 351 16 (.slice a cs.length c) cs.length (cs.flatMap gK))
 (hd : ∀ k, (Value.slice a cs.length c).ownBlock = some k → ¬ fb k) (hc : ∀ c ∈ cs, c.small) (hl : bs.length + 16 * cs.length ≤ 1099511627776) :
 Calls Tryz.prog 553 #[.slice a cs.length c, .pointer (some ⟨b, 0, none⟩)] w fun e w' => e = .returned (.tuple #[]) ∧ Fr fb w w' ∧ ∃ fb', Buf w' b fb' (bs ++ cs.flatMap (aJ 16)) ∧ Grow w fb fb' := by
 by_cases h0 : cs.length = 0
 · have hcs : cs = [] := List.eq_nil_of_length_eq_zero (by omega)
   subst hcs
   go_enter Tryz.func553, Tryz.ntmps553
   go_wp2
   try simp only [Exit.inBlock, Exit.then]
   refine bodyPost_ret (results_none rfl _ _ _) rfl ?_
   exact ⟨rfl, Fr.refl _ _, fb, by simpa using hb, fun k hk => .inl hk⟩
 · have hb' := hb
   obtain ⟨v, hp, hob, hne, hfp⟩ := hb'
   obtain ⟨hcell, hfz⟩ := aF.cell hp
   obtain ⟨a0, c0, rfl⟩ := ownsRow_shape hob
   have hpl := aH hp
   have hcm : cs.length ≤ 9223372036854775807 := by omega
   go_enter Tryz.func553, Tryz.ntmps553
   go_wp2_with ((with_reducible show wpList _ _ _ (⟨some 25, _, _, _, _, _⟩ :: _) _ _); (refine cO _ rfl gU Tryz.underlying3 _ _ rfl _ _ _ rfl hob _ (16 * cs.length) rfl ?_ ?_ ?_ ?_); go_num; omega; omega; intro v' w1 ha; obtain ⟨a', c', rfl⟩ := ha.shape; have hc1 : w1.cell? ⟨b, 0, none⟩ = some (.slice a0 bs.length c0) := ha.2.1.cell hcell (fun h => hne h.symm); have hf1 : w1.frozen? ⟨b, 0, none⟩ = false := (World.frozen?_of_block (ha.2.1.block b hpl (fun h => hne h.symm))).trans hfz)
   obtain ⟨⟨fb', hcol, hgrow⟩, hfr⟩ := aF.appended hp hob hne hfp (Fr.refl _ w) ha
   generalize w1.setCell ⟨b, 0, none⟩ (Value.slice a' (bs.length + 16 * cs.length) c') = W at hcol hfr ⊢
   obtain ⟨g, cap, hot, hfb'⟩ := Hot.of hcol (by omega)
   have hownW := hfr.owns hown hd
   have hdis : ∀ k, (Value.slice a cs.length c).ownBlock = some k → k ≠ b ∧ k ≠ g := fun k hk => ⟨fun e => hd k hk ((hfp k).2 (.inl e)), fun e => by
    subst e
    rcases hgrow k ((hfb' k).2 (.inr rfl)) with h | h
    · exact hd k hk h
    · have := aK hown hk; omega⟩
   have hS : ∀ k, k < w.heap.size → (k = b ∨ k = g) → fb k := fun k hk hh => (hgrow k ((hfb' k).2 hh)).resolve_right (by omega)
   clear ha hcol hp hob hcell hfz hc1 hf1 hne hb
   go_loopw [5, 7, 30] (fun off _ i wr => ∃ k : Nat, k ≤ cs.length ∧ i = .int .i64 k ∧ off = .int .i64 (bs.length + 16 * k : Nat) ∧ Hot wr b g (bs.length + 16 * cs.length) cap (aQ (bs ++ (cs.take k).flatMap (aJ 16)) ++ List.replicate (16 * (cs.length - k)) (.int .u8 0)) ∧ Fr (fun k => k = b ∨ k = g) W wr) (fun _ _ i _ => cs.length - (intOf i).toNat)
   case atStart => exact ⟨0, Nat.zero_le _, rfl, by simp, by simpa using hot, Fr.refl _ _⟩
   case round =>
    obtain ⟨k, hk, rfl, rfl, hotk, hfrk⟩ := hrel
    by_cases hlt : k < cs.length
    · have hownr := hfrk.owns hownW (fun k hk h => by have := hdis k hk; omega)
      rcases hownr.2 with ⟨hv, _⟩ | ⟨ga, capa, cura, hv, _⟩
      · simp only [Value.slice.injEq] at hv; omega
      · simp only [Value.slice.injEq] at hv
        obtain ⟨rfl, _, rfl⟩ := hv
        have hck := hc cs[k] (List.getElem_mem _)
        have hstep := bV (aJ 16) cs k hlt
        have hat := fun j hj => iY gK 16 (fun _ => rfl) cs k j hlt hj
        generalize cs[k] = cc at hck hstep hat
        obtain ⟨b0, b1, b2, b3, _⟩ := hck
        have hx0 := hownr.cells (g := ga) rfl (k * 16 + 0) _ (hat 0 (by omega))
        rw [Addr.add_lit, Nat.zero_add] at hx0
        have hx1 := hownr.cells (g := ga) rfl (k * 16 + 1) _ (hat 1 (by omega))
        rw [Addr.add_lit, Nat.zero_add] at hx1
        have hx2 := hownr.cells (g := ga) rfl (k * 16 + 2) _ (hat 2 (by omega))
        rw [Addr.add_lit, Nat.zero_add] at hx2
        have hx3 := hownr.cells (g := ga) rfl (k * 16 + 3) _ (hat 3 (by omega))
        rw [Addr.add_lit, Nat.zero_add] at hx3
        have hx4 := hownr.cells (g := ga) rfl (k * 16 + 4) _ (hat 4 (by omega))
        rw [Addr.add_lit, Nat.zero_add] at hx4
        have hx5 := hownr.cells (g := ga) rfl (k * 16 + 5) _ (hat 5 (by omega))
        rw [Addr.add_lit, Nat.zero_add] at hx5
        have hx6 := hownr.cells (g := ga) rfl (k * 16 + 6) _ (hat 6 (by omega))
        rw [Addr.add_lit, Nat.zero_add] at hx6
        have hx7 := hownr.cells (g := ga) rfl (k * 16 + 7) _ (hat 7 (by omega))
        rw [Addr.add_lit, Nat.zero_add] at hx7
        have hx8 := hownr.cells (g := ga) rfl (k * 16 + 8) _ (hat 8 (by omega))
        rw [Addr.add_lit, Nat.zero_add] at hx8
        have hx9 := hownr.cells (g := ga) rfl (k * 16 + 9) _ (hat 9 (by omega))
        rw [Addr.add_lit, Nat.zero_add] at hx9
        have hx10 := hownr.cells (g := ga) rfl (k * 16 + 10) _ (hat 10 (by omega))
        rw [Addr.add_lit, Nat.zero_add] at hx10
        have hx11 := hownr.cells (g := ga) rfl (k * 16 + 11) _ (hat 11 (by omega))
        rw [Addr.add_lit, Nat.zero_add] at hx11
        have hx12 := hownr.cells (g := ga) rfl (k * 16 + 12) _ (hat 12 (by omega))
        rw [Addr.add_lit, Nat.zero_add] at hx12
        have hx13 := hownr.cells (g := ga) rfl (k * 16 + 13) _ (hat 13 (by omega))
        rw [Addr.add_lit, Nat.zero_add] at hx13
        have hx14 := hownr.cells (g := ga) rfl (k * 16 + 14) _ (hat 14 (by omega))
        rw [Addr.add_lit, Nat.zero_add] at hx14
        have hx15 := hownr.cells (g := ga) rfl (k * 16 + 15) _ (hat 15 (by omega))
        rw [Addr.add_lit, Nat.zero_add] at hx15
        simp only [Nat.add_zero] at hx0
        have hbc := hotk.cell
        have hgc := hotk.row
        obtain ⟨_, _, _, hNc, hcapm⟩ := hgc
        unfold maxLen at hcapm
        have hlen : (bs ++ (cs.take k).flatMap (aJ 16)).length = bs.length + 16 * k := by rw [List.length_append, bH _ 16 (bF 16 (by omega)), List.length_take]; congr 2; omega
        have hnum := Lib.hid (aFR cc)
        have hzz : aQ (bs ++ (cs.take k).flatMap (aJ 16)) ++ List.replicate (16 * (cs.length - k)) (.int .u8 0) = aQ (bs ++ (cs.take k).flatMap (aJ 16)) ++ (List.replicate 16 (Value.int .u8 0)) ++ List.replicate (16 * (cs.length - (k + 1))) (.int .u8 0) := by
         simp only [List.append_assoc, List.replicate_append_replicate]
         congr 2
         omega
        rw [hzz] at hotk
        have hoff : bs.length + 16 * k = (aQ (bs ++ (cs.take k).flatMap (aJ 16))).length := by rw [bG, hlen]
        have hput := aIR ((wr.alloc (.cells #[.int .u8 (ipb cc.r0 cc.r1 0), .int .u8 (ipb cc.r0 cc.r1 1), .int .u8 (ipb cc.r0 cc.r1 2), .int .u8 (ipb cc.r0 cc.r1 3), .int .u8 (ipb cc.r0 cc.r1 4), .int .u8 (ipb cc.r0 cc.r1 5), .int .u8 (ipb cc.r0 cc.r1 6), .int .u8 (ipb cc.r0 cc.r1 7), .int .u8 (ipb cc.r0 cc.r1 8), .int .u8 (ipb cc.r0 cc.r1 9), .int .u8 (ipb cc.r0 cc.r1 10), .int .u8 (ipb cc.r0 cc.r1 11), .int .u8 (ipb cc.r0 cc.r1 12), .int .u8 (ipb cc.r0 cc.r1 13), .int .u8 (ipb cc.r0 cc.r1 14), .int .u8 (ipb cc.r0 cc.r1 15)] 351)).drew) b g _ cap _ _ (List.replicate 16 (Value.int .u8 0)) ((hotk.alloc _).drew) (by simp) (ipb cc.r0 cc.r1 0) (ipb cc.r0 cc.r1 1) (ipb cc.r0 cc.r1 2) (ipb cc.r0 cc.r1 3) (ipb cc.r0 cc.r1 4) (ipb cc.r0 cc.r1 5) (ipb cc.r0 cc.r1 6) (ipb cc.r0 cc.r1 7) (ipb cc.r0 cc.r1 8) (ipb cc.r0 cc.r1 9) (ipb cc.r0 cc.r1 10) (ipb cc.r0 cc.r1 11) (ipb cc.r0 cc.r1 12) (ipb cc.r0 cc.r1 13) (ipb cc.r0 cc.r1 14) (ipb cc.r0 cc.r1 15)  (bs.length + 16 * k) (cap - (bs.length + 16 * k)) hoff (by omega)
        have hfa : Fr (fun k => k = b ∨ k = g) W ((wr.alloc (.cells #[.int .u8 (ipb cc.r0 cc.r1 0), .int .u8 (ipb cc.r0 cc.r1 1), .int .u8 (ipb cc.r0 cc.r1 2), .int .u8 (ipb cc.r0 cc.r1 3), .int .u8 (ipb cc.r0 cc.r1 4), .int .u8 (ipb cc.r0 cc.r1 5), .int .u8 (ipb cc.r0 cc.r1 6), .int .u8 (ipb cc.r0 cc.r1 7), .int .u8 (ipb cc.r0 cc.r1 8), .int .u8 (ipb cc.r0 cc.r1 9), .int .u8 (ipb cc.r0 cc.r1 10), .int .u8 (ipb cc.r0 cc.r1 11), .int .u8 (ipb cc.r0 cc.r1 12), .int .u8 (ipb cc.r0 cc.r1 13), .int .u8 (ipb cc.r0 cc.r1 14), .int .u8 (ipb cc.r0 cc.r1 15)] 351)).drew) := (hfrk.alloc _).drew
        have hr : (wr.alloc (.cells #[.int .u8 (ipb cc.r0 cc.r1 0), .int .u8 (ipb cc.r0 cc.r1 1), .int .u8 (ipb cc.r0 cc.r1 2), .int .u8 (ipb cc.r0 cc.r1 3), .int .u8 (ipb cc.r0 cc.r1 4), .int .u8 (ipb cc.r0 cc.r1 5), .int .u8 (ipb cc.r0 cc.r1 6), .int .u8 (ipb cc.r0 cc.r1 7), .int .u8 (ipb cc.r0 cc.r1 8), .int .u8 (ipb cc.r0 cc.r1 9), .int .u8 (ipb cc.r0 cc.r1 10), .int .u8 (ipb cc.r0 cc.r1 11), .int .u8 (ipb cc.r0 cc.r1 12), .int .u8 (ipb cc.r0 cc.r1 13), .int .u8 (ipb cc.r0 cc.r1 14), .int .u8 (ipb cc.r0 cc.r1 15)] 351)).rangeAt wr.heap.size 0 [.int .u8 (ipb cc.r0 cc.r1 0), .int .u8 (ipb cc.r0 cc.r1 1), .int .u8 (ipb cc.r0 cc.r1 2), .int .u8 (ipb cc.r0 cc.r1 3), .int .u8 (ipb cc.r0 cc.r1 4), .int .u8 (ipb cc.r0 cc.r1 5), .int .u8 (ipb cc.r0 cc.r1 6), .int .u8 (ipb cc.r0 cc.r1 7), .int .u8 (ipb cc.r0 cc.r1 8), .int .u8 (ipb cc.r0 cc.r1 9), .int .u8 (ipb cc.r0 cc.r1 10), .int .u8 (ipb cc.r0 cc.r1 11), .int .u8 (ipb cc.r0 cc.r1 12), .int .u8 (ipb cc.r0 cc.r1 13), .int .u8 (ipb cc.r0 cc.r1 14), .int .u8 (ipb cc.r0 cc.r1 15)] := fun j v hv => by
         have := aW wr [.int .u8 (ipb cc.r0 cc.r1 0), .int .u8 (ipb cc.r0 cc.r1 1), .int .u8 (ipb cc.r0 cc.r1 2), .int .u8 (ipb cc.r0 cc.r1 3), .int .u8 (ipb cc.r0 cc.r1 4), .int .u8 (ipb cc.r0 cc.r1 5), .int .u8 (ipb cc.r0 cc.r1 6), .int .u8 (ipb cc.r0 cc.r1 7), .int .u8 (ipb cc.r0 cc.r1 8), .int .u8 (ipb cc.r0 cc.r1 9), .int .u8 (ipb cc.r0 cc.r1 10), .int .u8 (ipb cc.r0 cc.r1 11), .int .u8 (ipb cc.r0 cc.r1 12), .int .u8 (ipb cc.r0 cc.r1 13), .int .u8 (ipb cc.r0 cc.r1 14), .int .u8 (ipb cc.r0 cc.r1 15)] 351 j v hv
         rwa [Addr.add_lit] at this
        have hu6 : Tryz.prog.underlying 351 = some (.array 16 5) := Tryz.underlying351
        have hz6 : (Tryz.prog.info? 351).map (·.size) = some ([.int .u8 (ipb cc.r0 cc.r1 0), .int .u8 (ipb cc.r0 cc.r1 1), .int .u8 (ipb cc.r0 cc.r1 2), .int .u8 (ipb cc.r0 cc.r1 3), .int .u8 (ipb cc.r0 cc.r1 4), .int .u8 (ipb cc.r0 cc.r1 5), .int .u8 (ipb cc.r0 cc.r1 6), .int .u8 (ipb cc.r0 cc.r1 7), .int .u8 (ipb cc.r0 cc.r1 8), .int .u8 (ipb cc.r0 cc.r1 9), .int .u8 (ipb cc.r0 cc.r1 10), .int .u8 (ipb cc.r0 cc.r1 11), .int .u8 (ipb cc.r0 cc.r1 12), .int .u8 (ipb cc.r0 cc.r1 13), .int .u8 (ipb cc.r0 cc.r1 14), .int .u8 (ipb cc.r0 cc.r1 15)] : List Value).length := by kernel_rfl
        have hbc1 : (wr.alloc (.cells #[.int .u8 (ipb cc.r0 cc.r1 0), .int .u8 (ipb cc.r0 cc.r1 1), .int .u8 (ipb cc.r0 cc.r1 2), .int .u8 (ipb cc.r0 cc.r1 3), .int .u8 (ipb cc.r0 cc.r1 4), .int .u8 (ipb cc.r0 cc.r1 5), .int .u8 (ipb cc.r0 cc.r1 6), .int .u8 (ipb cc.r0 cc.r1 7), .int .u8 (ipb cc.r0 cc.r1 8), .int .u8 (ipb cc.r0 cc.r1 9), .int .u8 (ipb cc.r0 cc.r1 10), .int .u8 (ipb cc.r0 cc.r1 11), .int .u8 (ipb cc.r0 cc.r1 12), .int .u8 (ipb cc.r0 cc.r1 13), .int .u8 (ipb cc.r0 cc.r1 14), .int .u8 (ipb cc.r0 cc.r1 15)] 351)).cell? ⟨b, 0, none⟩ = some (.slice (some ⟨g, 0, none⟩) (bs.length + 16 * cs.length) cap) := ((Fr.refl (fun _ => False) wr).alloc _).aA hbc (fun h => h)
        have hgw := hotk.glt
        clear hat hotk
        have ho : bs.length + 16 * k + 16 ≤ cap := by omega
        generalize hoff2 : bs.length + 16 * k = o at ho hput ⊢
        have s0 : (0 : Int) ≤ ↑o := by omega
        have s1 : IntKind.i64.wrap ((o : Int) + 16) = (o : Int) + 16 := by rw [IntKind.wrap_i64]; omega
        have s2 : (o : Int) ≤ (o : Int) + 16 := by omega
        have s3 : (o : Int) + 16 ≤ (cap : Int) := by omega
        have s4 : (0 : Int) ≤ (o : Int) + 16 := by omega
        have s5 : ¬ cap = o := by omega
        have s6 : ((o : Int) + 16).toNat - o = 16 := by omega
        go_wp2
        generalize hWa : wr.alloc (.cells #[.int .u8 (ipb cc.r0 cc.r1 0), .int .u8 (ipb cc.r0 cc.r1 1), .int .u8 (ipb cc.r0 cc.r1 2), .int .u8 (ipb cc.r0 cc.r1 3), .int .u8 (ipb cc.r0 cc.r1 4), .int .u8 (ipb cc.r0 cc.r1 5), .int .u8 (ipb cc.r0 cc.r1 6), .int .u8 (ipb cc.r0 cc.r1 7), .int .u8 (ipb cc.r0 cc.r1 8), .int .u8 (ipb cc.r0 cc.r1 9), .int .u8 (ipb cc.r0 cc.r1 10), .int .u8 (ipb cc.r0 cc.r1 11), .int .u8 (ipb cc.r0 cc.r1 12), .int .u8 (ipb cc.r0 cc.r1 13), .int .u8 (ipb cc.r0 cc.r1 14), .int .u8 (ipb cc.r0 cc.r1 15)] 351) = Wa at hput hfa hbc1 hr ⊢
        clear hWa
        go_region_held3 (fun w' => w'.cell? ⟨b, 0, none⟩ = some (.slice (some ⟨g, 0, none⟩) (bs.length + 16 * cs.length) cap) ∧ w'.rangeAt wr.heap.size 0 [.int .u8 (ipb cc.r0 cc.r1 0), .int .u8 (ipb cc.r0 cc.r1 1), .int .u8 (ipb cc.r0 cc.r1 2), .int .u8 (ipb cc.r0 cc.r1 3), .int .u8 (ipb cc.r0 cc.r1 4), .int .u8 (ipb cc.r0 cc.r1 5), .int .u8 (ipb cc.r0 cc.r1 6), .int .u8 (ipb cc.r0 cc.r1 7), .int .u8 (ipb cc.r0 cc.r1 8), .int .u8 (ipb cc.r0 cc.r1 9), .int .u8 (ipb cc.r0 cc.r1 10), .int .u8 (ipb cc.r0 cc.r1 11), .int .u8 (ipb cc.r0 cc.r1 12), .int .u8 (ipb cc.r0 cc.r1 13), .int .u8 (ipb cc.r0 cc.r1 14), .int .u8 (ipb cc.r0 cc.r1 15)])
         (first
          | exact ⟨hbc1, hr⟩
          | exact ⟨hotn.cell, fun j v hv => hf1.aA (hr j v hv) (by show ¬ wr.heap.size = g; omega)⟩
          | assumption)
         (first
          | (go_at_call 559; refine hput.mono ?_; rintro e w1 ⟨rfl, hf1, hotn⟩; rw [hnum.out] at hotn; simp only [← bQ, List.append_assoc] at hotn; rw [← hstep] at hotn))
        all_goals
         go_wp2
         go_roundw
         case rel => exact ⟨k + 1, by omega, by go_num, by subst hoff2; go_num, hotn, hfa.trans hf1 (fun _ _ h => .inr h)⟩
         case measure => simp [intOf]; omega
    · have hke : k = cs.length := by omega
      subst hke
      go_wp2
      go_end0
      rw [List.take_length, Nat.sub_self, Nat.mul_zero, List.replicate_zero, List.append_nil] at hotk
      have hbuf := fun hfb => Hot.buf (bs := bs ++ cs.flatMap (aJ 16)) (cap := cap) (N := bs.length + 16 * cs.length) hotk (fb := fun k => k = b ∨ k = g) hfb
      exact ⟨rfl, hfr.trans hfrk hS, _, hbuf (fun k => Iff.rfl), fun k hk => hgrow k ((hfb' k).2 hk)⟩
def aCI (B p nb : Nat) (w : World) (fp : Nat → Prop) (σ : List Cell) : Prop :=
 ∃ fp0, aF w p 349 351 16 σ.length (σ.flatMap gK) fp0 ∧ w.cell? ⟨nb, 1, none⟩ = some (.func (.func 108) #[] #[]) ∧ (∀ k, fp k ↔ fp0 k ∨ k = nb) ∧ (∀ k, fp k → B ≤ k) ∧ (¬ fp0 nb) ∧ ∀ c ∈ σ, c.small
theorem aAb (p nb : Nat) (w : World) (name : String) (f : FuncId) (h : (name, f) = ("Append", 682) ∨ (name, f) = ("AppendArr", 683)) : (method (Tryz.prog.types.size + Made.depth) 635 (.agg #[.iface 347 (.pointer (some ⟨p, 0, none⟩)), .func (.func 564) #[] #[.pointer (some ⟨nb, 0, none⟩)], .func (.func 565) #[] #[.pointer (some ⟨nb, 0, none⟩)]]) name).run Tryz.prog w = .ok (f, .agg #[.iface 347 (.pointer (some ⟨p, 0, none⟩)), .func (.func 564) #[] #[.pointer (some ⟨nb, 0, none⟩)], .func (.func 565) #[] #[.pointer (some ⟨nb, 0, none⟩)]]) w := by
 rcases h with h | h <;> (simp only [Prod.mk.injEq] at h; obtain ⟨rfl, rfl⟩ := h; kernel_rfl)
theorem aEt (p nb : Nat) (w : World) (v : Value) (hv : w.cell? ⟨p, 0, none⟩ = some v) : (method (Tryz.prog.types.size + Made.depth) 635 (.agg #[.iface 347 (.pointer (some ⟨p, 0, none⟩)), .func (.func 564) #[] #[.pointer (some ⟨nb, 0, none⟩)], .func (.func 565) #[] #[.pointer (some ⟨nb, 0, none⟩)]]) "Rows").run Tryz.prog w = .ok (556, v) w := by
 obtain ⟨n, hn⟩ := fuel
 rw [hn]
 refine (bD (n := n + 1) Tryz.underlying635 rfl rfl (fun _ => by kernel_rfl) (by kernel_rfl) rfl).trans ?_
 exact aZ (n := n) false (by kernel_rfl) (bT Tryz.underlying347 (cZ Tryz.underlying349 hv))
theorem aGN (p nb : Nat) (w : World) (v : Value) (hv : w.cell? ⟨p, 0, none⟩ = some v) : (method (Tryz.prog.types.size + Made.depth) 635 (.agg #[.iface 347 (.pointer (some ⟨p, 0, none⟩)), .func (.func 564) #[] #[.pointer (some ⟨nb, 0, none⟩)], .func (.func 565) #[] #[.pointer (some ⟨nb, 0, none⟩)]]) "EncodeColumn").run Tryz.prog w = .ok (553, v) w := by
 obtain ⟨n, hn⟩ := fuel
 rw [hn]
 refine (bD (n := n + 1) Tryz.underlying635 rfl rfl (fun _ => by kernel_rfl) (by kernel_rfl) rfl).trans ?_
 exact aZ (n := n) false (by kernel_rfl) (bT Tryz.underlying347 (cZ Tryz.underlying349 hv))
theorem aCI.nb {B p nb : Nat} {w : World} {fp : Nat → Prop} {σ : List Cell} (h : aCI B p nb w fp σ) : nb < w.heap.size ∧ B ≤ nb := by
 obtain ⟨fp0, hc, hnb, hfp, hB, hne, hsm⟩ := h
 exact ⟨World.block_lt_of_cell? w _ hnb, hB nb ((hfp nb).2 (.inr rfl))⟩
theorem aCI.after {B p nb : Nat} {w w' : World} {fp fp0 : Nat → Prop} {σ τ : List Cell} (h : aCI B p nb w fp σ) (hfp : ∀ k, fp k ↔ fp0 k ∨ k = nb) (hne : ¬ fp0 nb)
 (hc : ∃ fp', aF w' p 349 351 16 τ.length (τ.flatMap gK) fp' ∧ Grow w fp0 fp') (hfr : Fr fp0 w w') (hsm : ∀ c ∈ τ, c.small) :
 Fr fp w w' ∧ ∃ fp', aCI B p nb w' fp' τ ∧ Grow w fp fp' := by
 obtain ⟨hlt, hBn⟩ := h.nb
 obtain ⟨_, _, hnb, _, hB, _, _⟩ := h
 obtain ⟨fp', hcol, hg⟩ := hc
 refine ⟨hfr.mono (fun k _ hk => (hfp k).2 (.inl hk)), fun k => fp' k ∨ k = nb, ⟨fp', hcol, hfr.aA hnb hne, fun k => Iff.rfl, ?_, ?_, hsm⟩, ?_⟩
 · rintro k (hk | rfl)
   · rcases hg k hk with hk | hk
     · exact hB k ((hfp k).2 (.inl hk))
     · omega
   · exact hBn
 · intro hk
   rcases hg nb hk with hk | hk
   · exact hne hk
   · omega
 · rintro k (hk | rfl)
   · exact (hg k hk).imp (fun hk => (hfp k).2 (.inl hk)) id
   · exact .inl ((hfp k).2 (.inr rfl))
theorem aIH (B p nb : Nat) : bI Tryz.prog B 635 (.agg #[.iface 347 (.pointer (some ⟨p, 0, none⟩)), .func (.func 564) #[] #[.pointer (some ⟨nb, 0, none⟩)], .func (.func 565) #[] #[.pointer (some ⟨nb, 0, none⟩)]]) (.num .ip6) [] (aCI B p nb) (aCI B p nb) where
 lo := by
  intro w fp σ h k hk
  have hn := h.nb
  obtain ⟨fp0, hc, hnb, hfp, hB, hne, hsm⟩ := h
  refine ⟨hB k hk, ?_⟩
  rcases (hfp k).1 hk with hk | rfl
  · exact hc.lt k hk
  · exact hn.1
 lo' := by
  intro w fp σ h k hk
  have hn := h.nb
  obtain ⟨fp0, hc, hnb, hfp, hB, hne, hsm⟩ := h
  refine ⟨hB k hk, ?_⟩
  rcases (hfp k).1 hk with hk | rfl
  · exact hc.lt k hk
  · exact hn.1
 frame := by
  intro w w' fp σ h hk
  obtain ⟨fp0, hc, hnb, hfp, hB, hne, hsm⟩ := h
  exact ⟨fp0, hc.aT fun k h => hk k ((hfp k).2 (.inl h)), (World.cell?_of_block (hk nb ((hfp nb).2 (.inr rfl)))).trans hnb, hfp, hB, hne, hsm⟩
 frame' := by
  intro w w' fp σ h hk
  obtain ⟨fp0, hc, hnb, hfp, hB, hne, hsm⟩ := h
  exact ⟨fp0, hc.aT fun k h => hk k ((hfp k).2 (.inl h)), (World.cell?_of_block (hk nb ((hfp nb).2 (.inr rfl)))).trans hnb, hfp, hB, hne, hsm⟩
 append := by
  intro w fp σ c vs h hvs hw
  have h' := h
  obtain ⟨fp0, hc, hnb, hfp, hB, hne, hsm⟩ := h'
  have hcs := hvs.small
  obtain ⟨ia, il, ic, ka, kl, kc, rfl, h0, h1, h2, h3, h4⟩ := hvs.open
  have hlen := aN (σ ++ [c])
  have hw' : wts (σ ++ [c]) ≤ 2147483648 := hw
  rw [List.length_append, List.length_singleton] at hlen
  refine aI.of1 (aAb p nb w _ _ (.inl rfl)) Tryz.call682 ((vS w p nb _ _ fp0 hc (by omega) hnb c.r0 c.r1 c.r2 c.r3 ⟨h0, h1⟩ c.s c.null (.slice ia il ic) (.slice ka kl kc)).mono ?_)
  rintro e w' ⟨he, hcol, hfr⟩
  refine ⟨he, h.after hfp hne ?_ hfr (fun d hd => ?_)⟩
  · rw [List.flatMap_append, List.flatMap_singleton, List.length_append, List.length_singleton]
    exact hcol
  · rcases List.mem_append.1 hd with hd | hd
    · exact hsm d hd
    · rw [List.mem_singleton.1 hd]
      exact hcs
 appendArr := by
  intro w fp σ cs v xs h hs hcs hw
  have h' := h
  obtain ⟨fp0, hc, hnb, hfp, hB, hne, hsm⟩ := h'
  have hlen := aN (σ ++ cs)
  have hw' : wts (σ ++ cs) ≤ 2147483648 := hw
  have hn := h.nb
  rw [List.length_append] at hlen
  refine aI.of1 (aAb p nb w _ _ (.inr rfl)) Tryz.call683 ((oI w B p nb (by omega) _ _ fp0 hc hnb cs v xs hs hcs (by omega)).mono ?_)
  rintro e w' ⟨he, hcol, hfr⟩
  refine ⟨he, h.after hfp hne ?_ hfr (fun d hd => ?_)⟩
  · rw [List.flatMap_append, List.length_append]
    exact hcol
  · rcases List.mem_append.1 hd with hd | hd
    · exact hsm d hd
    · exact aC.small hcs d hd
 rows := by
  intro w fp σ h
  obtain ⟨fp0, ⟨v, hp, hown, _⟩, hnb, hfp, hB, hne, hsm⟩ := h
  obtain ⟨a, c, rfl⟩ := ownsRow_shape hown
  exact aI.of0 (aEt p nb w _ (aF.cell hp).1) Tryz.call556 (aHN w a _ c)
 flat := by rintro w name (rfl | rfl | rfl) n m <;> exact eQ Tryz.underlying635 rfl rfl (fun _ => by kernel_rfl) (by kernel_rfl) rfl (by kernel_rfl) n m
 ahead := fun w => by kernel_rfl
 prepare := ⟨false, fun x w => run_typeAssert_lacksB Tryz.underlying102 (by kernel_rfl) (by kernel_rfl) _ x w, fun h => by simpa using h⟩
 state := ⟨false, fun x w => run_typeAssert_lacksB Tryz.underlying172 (by kernel_rfl) (by kernel_rfl) _ x w, by simp⟩
 encode := by
  intro w fp σ b fb bs h hw hb hd hl
  obtain ⟨fp0, ⟨v, hp, hown, hne', hfp0⟩, hnb, hfp, hB, hne, hsm⟩ := h
  obtain ⟨a, c, rfl⟩ := ownsRow_shape hown
  have hl' : (enc (.num .ip6) σ).length = 16 * σ.length := bH _ 16 (bF 16 (by omega)) σ
  exact aI.of1 (aGN p nb w _ (aF.cell hp).1) Tryz.call553 (aEJ w b fb bs hb a c σ hown (fun k hk => hd k ((hfp k).2 (.inl ((hfp0 k).2 (.inr hk))))) (fun c hc => hsm c hc) (by omega))
theorem aEF (w : World) : Calls Tryz.prog 50 #[.int .i64 18] w fun e w' => e = .returned (.iface 359 (.agg #[.iface 347 (.pointer (some ⟨w.heap.size, 0, none⟩)), .func (.func 108) #[] #[], .func (.func 110) #[] #[]])) ∧ w' = w.alloc (.cells #[.slice none 0 0] 349) := by
 have h : Calls Tryz.prog 83 #[.int .i64 18] w fun e w' => e = .returned (.iface 359 (.agg #[.iface 347 (.pointer (some ⟨w.heap.size, 0, none⟩)), .func (.func 108) #[] #[], .func (.func 110) #[] #[]])) ∧ w' = w.alloc (.cells #[.slice none 0 0] 349) := by
  go_enter Tryz.func83, Tryz.ntmps83
  go_wp2
  go_ret
  exact ⟨rfl, rfl⟩
 go_enter Tryz.func50, Tryz.ntmps50
 go_wp2_with (go_at_call 83; refine h.mono ?_; rintro e w1 ⟨rfl, rfl⟩)
 go_ret
 exact ⟨rfl, rfl⟩
theorem aBZ (w : World) (p : Nat) : (method (Tryz.prog.types.size + Made.depth) 359 (.agg #[.iface 347 (.pointer (some ⟨p, 0, none⟩)), .func (.func 108) #[] #[], .func (.func 110) #[] #[]]) "given.example/pub-bradawl/impl.cells").run Tryz.prog w =
 .ok (563, .agg #[.iface 347 (.pointer (some ⟨p, 0, none⟩)), .func (.func 108) #[] #[], .func (.func 110) #[] #[]]) w := by
 obtain ⟨n, hn⟩ := fuel
 rw [hn]
 exact aZ (n := n + 1) false (by kernel_rfl) (dN Tryz.underlying359 rfl)
theorem aHi (w : World) (p B : Nat) (hB : B ≤ p) (hp : w.heap[p]? = some (.cells #[.slice none 0 0] 349 (0, 0))) :
 Calls Tryz.prog 563 #[.agg #[.iface 347 (.pointer (some ⟨p, 0, none⟩)), .func (.func 108) #[] #[], .func (.func 110) #[] #[]]] w fun e w' =>
  ∃ nb fp, e = .returned (.iface 635 (.agg #[.iface 347 (.pointer (some ⟨p, 0, none⟩)), .func (.func 564) #[] #[.pointer (some ⟨nb, 0, none⟩)], .func (.func 565) #[] #[.pointer (some ⟨nb, 0, none⟩)]])) ∧ aCI B p nb w' fp [] ∧ Fr (fun _ => False) w w' := by
 have hpl := aH hp
 go_enter Tryz.func563, Tryz.ntmps563
 go_wp2
 go_ret
 refine ⟨w.heap.size, fun k => k = p ∨ k = w.heap.size, rfl, ⟨fun k => k = p, ⟨.slice none 0 0, (Below.heap_alloc _ _ _ hpl).trans hp, World.ownsRow_nil _ _ _ _, by simp [Value.ownBlock], fun k => by simp [Value.ownBlock]⟩, by rw [aB rfl]; rfl, fun k => Iff.rfl, ?_, by omega, by simp⟩, (Fr.refl _ w).alloc _⟩
 rintro k (rfl | rfl) <;> omega
end Go.Proofs.YtcidlnjpabgioaaGreatDoor
