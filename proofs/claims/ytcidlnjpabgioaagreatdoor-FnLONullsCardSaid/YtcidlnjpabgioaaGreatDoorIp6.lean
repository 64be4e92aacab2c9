/- impl.bytes16. -/
import Derived.Test.YtcidlnjpabgioaaGreatDoorWide
import Derived.Deep.RegionLaw
import Derived.Lib.Hide
import Derived.Laws.CopyOwn
namespace Go.Proofs.YtcidlnjpabgioaaGreatDoor
open Go.RowKit

theorem heap_alloc_at {w : World} {o : Obj} {n : Nat} (h : n = w.heap.size) : (w.alloc o).heap[n]? = some o := by
  subst h
  exact heap_alloc_new w o

/-- Byte number i of two words. -/
def ipb (r0 r1 : Nat) (i : Nat) : Int := ((if i < 8 then r0 else r1 : Nat) : Int) / 2 ^ (8 * (i % 8)) % 256

def ipCells (r0 r1 : Nat) (k : Nat) : List Value := (List.range 16).map fun i => if i < k then .int .u8 (ipb r0 r1 i) else .int .u8 0

theorem ipCells_at (r0 r1 k i : Nat) (h : i < 16) : (ipCells r0 r1 k)[i]? = some (if i < k then .int .u8 (ipb r0 r1 i) else .int .u8 0) := by
  simp [ipCells, h]

theorem ipCells_step (r0 r1 k : Nat) (h : k < 16) : (ipCells r0 r1 k).set k (.int .u8 (ipb r0 r1 k)) = ipCells r0 r1 (k + 1) := by
  apply List.ext_getElem?
  intro i
  by_cases hi : i < 16
  · rw [ipCells_at _ _ _ _ hi, List.getElem?_set]
    split
    · subst_vars
      rw [if_pos (by simp [ipCells]; omega), if_pos (by omega)]
    · rw [ipCells_at _ _ _ _ hi]
      by_cases h2 : i < k
      · rw [if_pos h2, if_pos (by omega)]
      · rw [if_neg h2, if_neg (by omega)]
  · rw [List.getElem?_eq_none (by simp [ipCells]; omega), List.getElem?_eq_none (by simp [ipCells]; omega)]

set_option maxHeartbeats 4000000 in
theorem bytes16_any (w : World) (r0 r1 r2 r3 : Nat) (h0 : r0 < 18446744073709551616) (h1 : r1 < 18446744073709551616) : Calls Tryz.prog 109 #[.agg #[.int .u64 r0, .int .u64 r1, .int .u64 r2, .int .u64 r3]] w fun e w' => e = .returned (.agg (ipCells r0 r1 16).toArray) ∧ Fr (fun _ => False) w w' := by
  go_enter Tryz.func109, Tryz.ntmps109
  go_wp2
  generalize hW : ((w.alloc _).alloc _).alloc _ = W
  have hfW : Fr (fun _ => False) w W := by subst hW; exact (((Fr.refl _ w).alloc _).alloc _).alloc _
  have e0 : W.cell? ⟨w.heap.size, 0, none⟩ = some (.int .u64 r0) := by subst hW; rw [World.cell?_alloc_lt _ _ _ (by simp; omega), World.cell?_alloc_lt _ _ _ (by simp), cell_new rfl]; rfl
  have e1 : W.cell? ⟨w.heap.size, 1, none⟩ = some (.int .u64 r1) := by subst hW; rw [World.cell?_alloc_lt _ _ _ (by simp; omega), World.cell?_alloc_lt _ _ _ (by simp), cell_new rfl]; rfl
  have eR : W.heap[w.heap.size + 1]? = some (.cells #[.int .u8 0, .int .u8 0, .int .u8 0, .int .u8 0, .int .u8 0, .int .u8 0, .int .u8 0, .int .u8 0, .int .u8 0, .int .u8 0, .int .u8 0, .int .u8 0, .int .u8 0, .int .u8 0, .int .u8 0, .int .u8 0] 350 (0, 0)) := by subst hW; rw [Below.heap_alloc _ _ _ (by simp)]; exact heap_alloc_at (by simp)
  have eB : W.heap[w.heap.size + 1 + 1]? = some (.cells (ipCells r0 r1 0).toArray 350 (0, 0)) := by subst hW; exact heap_alloc_at (by simp)
  have hsz : W.heap.size = w.heap.size + 3 := by subst hW; simp
  clear hW
  go_loopw [5] (fun i wr => ∃ k : Nat, k ≤ 16 ∧ i = .int .i64 k ∧ wr.heap[w.heap.size + 1 + 1]? = some (.cells (ipCells r0 r1 k).toArray 350 (0, 0)) ∧ Fr (fun q => q = w.heap.size + 1 + 1) W wr) (fun i _ => 16 - (intOf i).toNat)
  case atStart => exact ⟨0, by omega, rfl, eB, Fr.refl _ _⟩
  case round =>
    obtain ⟨k, hk, rfl, hrow, hfr⟩ := hrel
    by_cases hlt : k < 16
    · have q1 : 0 ≤ (k : Int) / 8 := by omega
      have q2 : (k : Int) / 8 < 4 := by omega
      have q3 : 0 ≤ (k : Int) % 8 := by omega
      have q4 : (k : Int) % 8 < 8 := by omega
      have c0 := hfr.cell_some e0 (by show ¬ w.heap.size = w.heap.size + 1 + 1; omega)
      have c1 := hfr.cell_some e1 (by show ¬ w.heap.size = w.heap.size + 1 + 1; omega)
      obtain ⟨R, hR, hRb, cK⟩ : ∃ R : Nat, Hid (R = if k < 8 then r0 else r1) ∧ R < 18446744073709551616 ∧ wr.cell? ⟨w.heap.size, k / 8, none⟩ = some (.int .u64 R) := by
        by_cases h8 : k < 8
        · exact ⟨r0, Lib.hid (by rw [if_pos h8]), h0, by rw [show k / 8 = 0 by omega]; exact c0⟩
        · exact ⟨r1, Lib.hid (by rw [if_neg h8]), h1, by rw [show k / 8 = 1 by omega]; exact c1⟩
      have hfz := frozen_of_row wr (w.heap.size + 1 + 1) k _ _ hrow
      have hcl := cell_of_row wr (w.heap.size + 1 + 1) k _ _ _ hrow
      have hcl' : wr.cell? ⟨w.heap.size + 1 + 1, k, none⟩ = some (.int .u8 0) := by
        rw [hcl]
        simp [ipCells, hlt]
      clear hcl e0 e1 eR eB c0 c1
      go_wp2
      go_roundw
      case rel =>
        have hv : (R : Int) / 2 ^ (8 * (k % 8)) % 256 = ipb r0 r1 k := by rw [ipb, hR.out]
        refine ⟨k + 1, by omega, by go_num, ?_, hfr.setCell (.inl rfl) _⟩
        rw [hv]
        simp [World.setCell, Array.getElem?_modify, hrow, ipCells_step r0 r1 k hlt]
      case measure => simp [intOf]; omega
    · have hke : k = 16 := by omega
      subst hke
      have hat : ∀ i, i < 16 → wr.cell? ⟨w.heap.size + 1 + 1, i, none⟩ = some (.int .u8 (ipb r0 r1 i)) := by
        intro i hi
        rw [cell_of_row wr (w.heap.size + 1 + 1) i _ _ _ hrow]
        simp [ipCells, hi]
      have hR := (hfr.block (w.heap.size + 1) (by omega) (by show ¬ w.heap.size + 1 = w.heap.size + 1 + 1; omega)).trans eR
      have a0 := hat 0 (by omega)
      have a1 := hat 1 (by omega)
      have a2 := hat 2 (by omega)
      have a3 := hat 3 (by omega)
      have a4 := hat 4 (by omega)
      have a5 := hat 5 (by omega)
      have a6 := hat 6 (by omega)
      have a7 := hat 7 (by omega)
      have a8 := hat 8 (by omega)
      have a9 := hat 9 (by omega)
      have a10 := hat 10 (by omega)
      have a11 := hat 11 (by omega)
      have a12 := hat 12 (by omega)
      have a13 := hat 13 (by omega)
      have a14 := hat 14 (by omega)
      have a15 := hat 15 (by omega)
      have b0 : wr.cell? ⟨w.heap.size + 1, 0, none⟩ = some (.int .u8 0) := by rw [cell_of_row wr _ _ _ _ _ hR]; rfl
      have b1 : wr.cell? ⟨w.heap.size + 1, 1, none⟩ = some (.int .u8 0) := by rw [cell_of_row wr _ _ _ _ _ hR]; rfl
      have b2 : wr.cell? ⟨w.heap.size + 1, 2, none⟩ = some (.int .u8 0) := by rw [cell_of_row wr _ _ _ _ _ hR]; rfl
      have b3 : wr.cell? ⟨w.heap.size + 1, 3, none⟩ = some (.int .u8 0) := by rw [cell_of_row wr _ _ _ _ _ hR]; rfl
      have b4 : wr.cell? ⟨w.heap.size + 1, 4, none⟩ = some (.int .u8 0) := by rw [cell_of_row wr _ _ _ _ _ hR]; rfl
      have b5 : wr.cell? ⟨w.heap.size + 1, 5, none⟩ = some (.int .u8 0) := by rw [cell_of_row wr _ _ _ _ _ hR]; rfl
      have b6 : wr.cell? ⟨w.heap.size + 1, 6, none⟩ = some (.int .u8 0) := by rw [cell_of_row wr _ _ _ _ _ hR]; rfl
      have b7 : wr.cell? ⟨w.heap.size + 1, 7, none⟩ = some (.int .u8 0) := by rw [cell_of_row wr _ _ _ _ _ hR]; rfl
      have b8 : wr.cell? ⟨w.heap.size + 1, 8, none⟩ = some (.int .u8 0) := by rw [cell_of_row wr _ _ _ _ _ hR]; rfl
      have b9 : wr.cell? ⟨w.heap.size + 1, 9, none⟩ = some (.int .u8 0) := by rw [cell_of_row wr _ _ _ _ _ hR]; rfl
      have b10 : wr.cell? ⟨w.heap.size + 1, 10, none⟩ = some (.int .u8 0) := by rw [cell_of_row wr _ _ _ _ _ hR]; rfl
      have b11 : wr.cell? ⟨w.heap.size + 1, 11, none⟩ = some (.int .u8 0) := by rw [cell_of_row wr _ _ _ _ _ hR]; rfl
      have b12 : wr.cell? ⟨w.heap.size + 1, 12, none⟩ = some (.int .u8 0) := by rw [cell_of_row wr _ _ _ _ _ hR]; rfl
      have b13 : wr.cell? ⟨w.heap.size + 1, 13, none⟩ = some (.int .u8 0) := by rw [cell_of_row wr _ _ _ _ _ hR]; rfl
      have b14 : wr.cell? ⟨w.heap.size + 1, 14, none⟩ = some (.int .u8 0) := by rw [cell_of_row wr _ _ _ _ _ hR]; rfl
      have b15 : wr.cell? ⟨w.heap.size + 1, 15, none⟩ = some (.int .u8 0) := by rw [cell_of_row wr _ _ _ _ _ hR]; rfl
      have c0 : wr.frozen? ⟨w.heap.size + 1, 0, none⟩ = false := frozen_of_row wr _ _ _ _ hR
      have c1 : wr.frozen? ⟨w.heap.size + 1, 1, none⟩ = false := frozen_of_row wr _ _ _ _ hR
      have c2 : wr.frozen? ⟨w.heap.size + 1, 2, none⟩ = false := frozen_of_row wr _ _ _ _ hR
      have c3 : wr.frozen? ⟨w.heap.size + 1, 3, none⟩ = false := frozen_of_row wr _ _ _ _ hR
      have c4 : wr.frozen? ⟨w.heap.size + 1, 4, none⟩ = false := frozen_of_row wr _ _ _ _ hR
      have c5 : wr.frozen? ⟨w.heap.size + 1, 5, none⟩ = false := frozen_of_row wr _ _ _ _ hR
      have c6 : wr.frozen? ⟨w.heap.size + 1, 6, none⟩ = false := frozen_of_row wr _ _ _ _ hR
      have c7 : wr.frozen? ⟨w.heap.size + 1, 7, none⟩ = false := frozen_of_row wr _ _ _ _ hR
      have c8 : wr.frozen? ⟨w.heap.size + 1, 8, none⟩ = false := frozen_of_row wr _ _ _ _ hR
      have c9 : wr.frozen? ⟨w.heap.size + 1, 9, none⟩ = false := frozen_of_row wr _ _ _ _ hR
      have c10 : wr.frozen? ⟨w.heap.size + 1, 10, none⟩ = false := frozen_of_row wr _ _ _ _ hR
      have c11 : wr.frozen? ⟨w.heap.size + 1, 11, none⟩ = false := frozen_of_row wr _ _ _ _ hR
      have c12 : wr.frozen? ⟨w.heap.size + 1, 12, none⟩ = false := frozen_of_row wr _ _ _ _ hR
      have c13 : wr.frozen? ⟨w.heap.size + 1, 13, none⟩ = false := frozen_of_row wr _ _ _ _ hR
      have c14 : wr.frozen? ⟨w.heap.size + 1, 14, none⟩ = false := frozen_of_row wr _ _ _ _ hR
      have c15 : wr.frozen? ⟨w.heap.size + 1, 15, none⟩ = false := frozen_of_row wr _ _ _ _ hR
      clear hat hR hrow e0 e1 eR eB
      go_wp2
      refine bodyPost_ret (by simp [results, Tryz.results109, go_sem, b0, b1, b2, b3, b4, b5, b6, b7, b8, b9, b10, b11, b12, b13, b14, b15]; try rfl) rfl ?_
      refine ⟨rfl, ?_⟩
      have hf2 : Fr (fun _ => False) w wr := hfW.trans hfr (fun q hq h => by omega)
      exact ((((((((((((((((hf2).setCell (.inr (by simp)) _).setCell (.inr (by simp)) _).setCell (.inr (by simp)) _).setCell (.inr (by simp)) _).setCell (.inr (by simp)) _).setCell (.inr (by simp)) _).setCell (.inr (by simp)) _).setCell (.inr (by simp)) _).setCell (.inr (by simp)) _).setCell (.inr (by simp)) _).setCell (.inr (by simp)) _).setCell (.inr (by simp)) _).setCell (.inr (by simp)) _).setCell (.inr (by simp)) _).setCell (.inr (by simp)) _).setCell (.inr (by simp)) _

theorem Hot.setRow {w : World} {b g N cap : Nat} {A olds C : List Value} {cur : Array Value} (h : Hot w b g N cap (A ++ olds ++ C)) (hg : w.heap[g]? = some (.cells cur 5 (0, 0))) (news : List Value) (hn : news.length = olds.length) {o : Nat} (ho : o = A.length) :
    Hot (w.setRow g (cur.toList.take o ++ (news ++ cur.toList.drop (o + news.length))).toArray) b g N cap (A ++ news ++ C) := by
  subst ho
  obtain ⟨hb, own, ne⟩ := h
  obtain ⟨hl, hv⟩ := own
  rcases hv with ⟨hv, _⟩ | ⟨g', cap', cur', hv, hb', hg', hnc, hcm, hcs, htake⟩
  · cases hv
  · simp only [Value.slice.injEq, Option.some.injEq, Addr.mk.injEq] at hv
    obtain ⟨⟨rfl, _⟩, _, rfl⟩ := hv
    rw [hg] at hg'
    simp only [Option.some.injEq, Obj.cells.injEq] at hg'
    obtain ⟨rfl, _⟩ := hg'
    have hD : cur.toList = A ++ olds ++ C ++ cur.toList.drop (N * 1) := by
      conv => lhs; rw [← List.take_append_drop (N * 1) cur.toList, htake]
    generalize cur.toList.drop (N * 1) = D at hD
    have e1 : cur.toList.take A.length = A := by rw [hD]; simp [List.append_assoc]
    have e2 : cur.toList.drop (A.length + news.length) = C ++ D := by
      rw [hD, hn, ← List.length_append, List.append_assoc, List.drop_left]
    have hlen : (A ++ news ++ C).length = N * 1 := by rw [← hl]; simp [hn]
    rw [e1, e2]
    refine ⟨(setRow_other w g b _ (fun e => ne e.symm)).trans hb, ⟨hlen, .inr ⟨g, cap, _, rfl, hb', setRow_heap w g cur _ _ _ hg, hnc, hcm, ?_, ?_⟩⟩, ne⟩
    · rw [← hcs, ← Array.length_toList (xs := cur), hD]
      simp [hn]
    · rw [← hlen]
      simp only [← List.append_assoc]
      exact List.take_left

set_option maxHeartbeats 1000000 in
theorem put6_any (w : World) (b g N cap : Nat) (A C o1 : List Value) (hot : Hot w b g N cap (A ++ o1 ++ C)) (h1 : o1.length = 16) (x0 x1 x2 x3 x4 x5 x6 x7 x8 x9 x10 x11 x12 x13 x14 x15 : Int) (o c : Nat) (ho : o = A.length) (_hc : 16 ≤ c) :
    Calls Tryz.prog 559 #[.slice (some ⟨g, o, none⟩) 16 c, .agg #[.int .u8 x0, .int .u8 x1, .int .u8 x2, .int .u8 x3, .int .u8 x4, .int .u8 x5, .int .u8 x6, .int .u8 x7, .int .u8 x8, .int .u8 x9, .int .u8 x10, .int .u8 x11, .int .u8 x12, .int .u8 x13, .int .u8 x14, .int .u8 x15]] w fun e w' => e = .returned (.tuple #[]) ∧ Fr (fun k => k = g) w w' ∧ Hot w' b g N cap (A ++ [.int .u8 x0, .int .u8 x1, .int .u8 x2, .int .u8 x3, .int .u8 x4, .int .u8 x5, .int .u8 x6, .int .u8 x7, .int .u8 x8, .int .u8 x9, .int .u8 x10, .int .u8 x11, .int .u8 x12, .int .u8 x13, .int .u8 x14, .int .u8 x15] ++ C) := by
  have hfr := (Fr.refl (fun k => k = g) w).alloc (.cells #[.int .u8 x0, .int .u8 x1, .int .u8 x2, .int .u8 x3, .int .u8 x4, .int .u8 x5, .int .u8 x6, .int .u8 x7, .int .u8 x8, .int .u8 x9, .int .u8 x10, .int .u8 x11, .int .u8 x12, .int .u8 x13, .int .u8 x14, .int .u8 x15] 351)
  have hotA := hot.alloc (.cells #[.int .u8 x0, .int .u8 x1, .int .u8 x2, .int .u8 x3, .int .u8 x4, .int .u8 x5, .int .u8 x6, .int .u8 x7, .int .u8 x8, .int .u8 x9, .int .u8 x10, .int .u8 x11, .int .u8 x12, .int .u8 x13, .int .u8 x14, .int .u8 x15] 351)
  have hsrc := cells_new w [.int .u8 x0, .int .u8 x1, .int .u8 x2, .int .u8 x3, .int .u8 x4, .int .u8 x5, .int .u8 x6, .int .u8 x7, .int .u8 x8, .int .u8 x9, .int .u8 x10, .int .u8 x11, .int .u8 x12, .int .u8 x13, .int .u8 x14, .int .u8 x15] 351
  have hglt := hotA.glt
  obtain ⟨cur, hg, hN, hNc, hcm⟩ := hotA.row
  have hlen := hot.own.1
  simp only [List.length_append, h1] at hlen
  obtain ⟨i, hi, hz, hsz, hby⟩ := bufEl.info
  go_enter Tryz.func559, Tryz.ntmps559
  go_wp2_with ((with_reducible show wpList _ _ _ (⟨some 6, _, _, _, _, _⟩ :: _) _ _); refine wpList_copy_own rfl _ _ _ _ rfl _ bufEl.ht (by rw [hi]; simp [hsz]) g o 16 c ⟨w.heap.size, 0, none⟩ 16 16 rfl rfl cur _ hg [.int .u8 x0, .int .u8 x1, .int .u8 x2, .int .u8 x3, .int .u8 x4, .int .u8 x5, .int .u8 x6, .int .u8 x7, .int .u8 x8, .int .u8 x9, .int .u8 x10, .int .u8 x11, .int .u8 x12, .int .u8 x13, .int .u8 x14, .int .u8 x15] rfl hsrc (by simp; omega) (by simp [Value.oneCell']) ?_; generalize hW : World.setRow _ _ _ = W)
  go_end0
  subst hW
  refine ⟨rfl, hfr.trans (S' := fun k => k = g) ⟨rfl, rfl, rfl, by simp [World.setRow], fun k _ hk => setRow_other _ g k _ hk⟩ (fun _ _ h => h), ?_⟩
  simpa [List.append_assoc] using hotA.setRow hg [.int .u8 x0, .int .u8 x1, .int .u8 x2, .int .u8 x3, .int .u8 x4, .int .u8 x5, .int .u8 x6, .int .u8 x7, .int .u8 x8, .int .u8 x9, .int .u8 x10, .int .u8 x11, .int .u8 x12, .int .u8 x13, .int .u8 x14, .int .u8 x15] (by rw [h1]; rfl) ho

theorem leBytes_at : ∀ (k v i : Nat), i < k → (Lib.leBytes k v)[i]? = some ((v / 256 ^ i % 256).toUInt8)
  | 0, v, i, h => by omega
  | k + 1, v, 0, h => by simp [Lib.leBytes]
  | k + 1, v, i + 1, h => by
    rw [Lib.leBytes, List.getElem?_cons_succ, leBytes_at k (v / 256) i (by omega), Nat.div_div_eq_div_mul, Nat.pow_succ, Nat.mul_comm]

theorem pow_256 (n : Nat) : (256 : Nat) ^ n = 2 ^ (8 * n) := by
  rw [Nat.pow_mul]

theorem numBytes_at (c : Cell) (i : Nat) (hi : i < 16) : (bcells (numBytes 16 c))[i]? = some (.int .u8 (ipb c.r0 c.r1 i)) := by
  rw [numBytes_16, bcells, List.getElem?_map]
  by_cases h : i < 8
  · rw [List.getElem?_append_left (by rw [Lib.leBytes_length]; exact h), leBytes_at 8 _ i h, Option.map_some, Lib.toUInt8_mod, ipb, if_pos h, pow_256, Nat.mod_eq_of_lt h]
    simp
  · rw [List.getElem?_append_right (by rw [Lib.leBytes_length]; omega), Lib.leBytes_length, leBytes_at 8 _ _ (by omega), Option.map_some, Lib.toUInt8_mod, ipb, if_neg h, pow_256, show i - 8 = i % 8 by omega]
    simp

theorem ip6_bytes (c : Cell) : [.int .u8 (ipb c.r0 c.r1 0), .int .u8 (ipb c.r0 c.r1 1), .int .u8 (ipb c.r0 c.r1 2), .int .u8 (ipb c.r0 c.r1 3), .int .u8 (ipb c.r0 c.r1 4), .int .u8 (ipb c.r0 c.r1 5), .int .u8 (ipb c.r0 c.r1 6), .int .u8 (ipb c.r0 c.r1 7), .int .u8 (ipb c.r0 c.r1 8), .int .u8 (ipb c.r0 c.r1 9), .int .u8 (ipb c.r0 c.r1 10), .int .u8 (ipb c.r0 c.r1 11), .int .u8 (ipb c.r0 c.r1 12), .int .u8 (ipb c.r0 c.r1 13), .int .u8 (ipb c.r0 c.r1 14), .int .u8 (ipb c.r0 c.r1 15)] = bcells (numBytes 16 c) := by
  apply List.ext_getElem?
  intro i
  by_cases hi : i < 16
  · rw [numBytes_at c i hi]
    have : i = 0 ∨ i = 1 ∨ i = 2 ∨ i = 3 ∨ i = 4 ∨ i = 5 ∨ i = 6 ∨ i = 7 ∨ i = 8 ∨ i = 9 ∨ i = 10 ∨ i = 11 ∨ i = 12 ∨ i = 13 ∨ i = 14 ∨ i = 15 := by omega
    rcases this with h | h | h | h | h | h | h | h | h | h | h | h | h | h | h | h <;> subst h <;> rfl
  · rw [List.getElem?_eq_none (by simp; omega), List.getElem?_eq_none (by rw [bcells_length, numBytes_length 16 (by omega)]; omega)]
end Go.Proofs.YtcidlnjpabgioaaGreatDoor
