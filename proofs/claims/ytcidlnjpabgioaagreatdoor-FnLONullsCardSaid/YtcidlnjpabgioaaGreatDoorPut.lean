/- What binary.LittleEndian's PutUint16, PutUint32 and PutUint64 write. -/
import Derived.Test.YtcidlnjpabgioaaGreatDoorLeaf
import Derived.Lib.Endian
import Derived.Lib.EndianBits
import Derived.Laws.IdiomCopy
namespace Go.Proofs.YtcidlnjpabgioaaGreatDoor
open Go.RowKit

theorem heap_setCells (g : Nat) (t : TypeId) : ∀ (vs : List Value) (o : Nat) (w : World) (cur : Array Value), w.heap[g]? = some (.cells cur t (0, 0)) → o + vs.length ≤ cur.size →
    (w.setCells g o vs).heap[g]? = some (.cells (cur.toList.take o ++ vs ++ cur.toList.drop (o + vs.length)).toArray t (0, 0))
  | [], o, w, cur, hg, h => by
    simp only [World.setCells, List.append_nil, List.length_nil, Nat.add_zero, List.take_append_drop, Array.toArray_toList]
    exact hg
  | v :: r, o, w, cur, hg, h => by
    simp only [List.length_cons] at h
    have hg' : (w.setCell ⟨g, o, none⟩ v).heap[g]? = some (.cells (cur.setIfInBounds o v) t (0, 0)) := by
      simp [World.setCell, Array.getElem?_modify, hg]
    rw [World.setCells, heap_setCells g t r (o + 1) _ _ hg' (by simp; omega)]
    congr 3
    have ho : o < cur.toList.length := by simp; omega
    rw [Array.toList_setIfInBounds, List.take_set, List.drop_set_of_lt (by omega)]
    rw [List.take_succ_eq_append_getElem ho, List.set_append_right _ _ (by simp; omega)]
    have hm : o - min o cur.size = 0 := by omega
    simp [hm, show o + 1 + r.length = o + (r.length + 1) by omega]

/-- A stretch of an own row, written anew. -/
theorem ownsRow_setCells {w : World} {e : TypeId} {g N cap : Nat} {xs A olds C : List Value} (h : w.ownsRow 0 e 1 (.slice (some ⟨g, 0, none⟩) N cap) N xs) (hx : xs = A ++ olds ++ C) (news : List Value) (hn : news.length = olds.length) {o : Nat} (ho : o = A.length) :
    (w.setCells g o news).ownsRow 0 e 1 (.slice (some ⟨g, 0, none⟩) N cap) N (A ++ news ++ C) := by
  subst ho hx
  obtain ⟨hl, h⟩ := h
  rcases h with ⟨hv, _⟩ | ⟨g', cap', cur, hv, hb, hg, hnc, hcm, hcs, htake⟩
  · cases hv
  · simp only [Value.slice.injEq, Option.some.injEq, Addr.mk.injEq] at hv
    obtain ⟨⟨rfl, _⟩, _, rfl⟩ := hv
    simp only [List.length_append, Nat.mul_one] at hl
    have hfit : A.length + news.length ≤ cur.size := by omega
    refine ⟨by simp; omega, .inr ⟨g, cap, _, rfl, hb, heap_setCells g e news A.length w cur hg hfit, hnc, hcm, ?_, ?_⟩⟩
    · simp; omega
    · have hA : cur.toList.take A.length = A := by
        have := congrArg (List.take A.length) htake
        rw [List.take_take, Nat.min_eq_left (by omega)] at this
        rw [this]
        simp
      have hC : (cur.toList.drop (A.length + news.length)).take C.length = C := by
        have := congrArg (List.drop (A.length + olds.length)) htake
        rw [List.drop_take] at this
        rw [hn, show C.length = N * 1 - (A.length + olds.length) by omega, this, List.append_assoc, ← List.append_assoc, List.drop_left' (by simp)]
      rw [hA, show N * 1 = (A ++ news).length + C.length by simp; omega, List.toList_toArray, List.take_length_add_append, hC]

theorem Fr.setCells {S : Nat → Prop} {a : World} {g : Nat} (hS : S g ∨ a.heap.size ≤ g) : ∀ (vs : List Value) (o : Nat) (w : World), Fr S a w → Fr S a (w.setCells g o vs)
  | [], _, _, h => h
  | v :: r, o, w, h => by
    rw [World.setCells]
    exact Fr.setCells hS r (o + 1) _ (h.setCell hS v)

set_option maxHeartbeats 4000000 in
set_option maxRecDepth 100000 in
theorem put16_any (g o n c v : Nat) (hv : v < 65536) (w : World) (hn : 2 ≤ n) (hc : ∀ j, j < 2 → ∃ u, w.cell? ⟨g, o + j, none⟩ = some u) (hf : ∀ j, w.frozen? ⟨g, j, none⟩ = false) :
    Calls Tryz.prog 232 #[.agg #[], .slice (some ⟨g, o, none⟩) n c, .int .u16 v] w fun e w' => e = .returned (.tuple #[]) ∧ w' = (w.alloc (.cells #[] 454)).setCells g o (bcells (Lib.leBytes 2 v)) := by
  obtain ⟨x0, c0⟩ := hc 0 (by omega)
  obtain ⟨x1, c1⟩ := hc 1 (by omega)
  simp only [Nat.add_zero] at c0
  have d0 := (World.cell?_alloc_lt w (.cells #[] 454) _ (World.block_lt_of_cell? w _ c0)).trans c0
  have f0 := (World.frozen?_alloc_old w (.cells #[] 454) ⟨g, o, none⟩ (Nat.ne_of_lt (World.block_lt_of_cell? w _ c0))).trans (hf _)
  have d1 := (World.cell?_alloc_lt w (.cells #[] 454) _ (World.block_lt_of_cell? w _ c1)).trans c1
  have f1 := (World.frozen?_alloc_old w (.cells #[] 454) ⟨g, o + 1, none⟩ (Nat.ne_of_lt (World.block_lt_of_cell? w _ c1))).trans (hf _)
  have e0 : ((v % 256 : Nat) : Int) = (v : Int) % 256 := by omega
  have e1 : ((v / 256 % 256 : Nat) : Int) = (v : Int) / 256 := by omega
  have hb : bcells (Lib.leBytes 2 v) = [Value.int .u8 ((v : Int) % 256), Value.int .u8 ((v : Int) / 256)] := by
    simp only [bcells, Lib.leBytes, List.map, Lib.toUInt8_mod, e0, e1]
  clear hc hf
  go_enter Tryz.func232, Tryz.ntmps232
  go_wp2
  go_end0
  refine ⟨rfl, ?_⟩
  rw [hb]
  rfl

set_option maxHeartbeats 4000000 in
set_option maxRecDepth 100000 in
theorem put32_any (g o n c v : Nat) (hv : v < 4294967296) (w : World) (hn : 4 ≤ n) (hc : ∀ j, j < 4 → ∃ u, w.cell? ⟨g, o + j, none⟩ = some u) (hf : ∀ j, w.frozen? ⟨g, j, none⟩ = false) :
    Calls Tryz.prog 233 #[.agg #[], .slice (some ⟨g, o, none⟩) n c, .int .u32 v] w fun e w' => e = .returned (.tuple #[]) ∧ w' = (w.alloc (.cells #[] 454)).setCells g o (bcells (Lib.leBytes 4 v)) := by
  obtain ⟨x0, c0⟩ := hc 0 (by omega)
  obtain ⟨x1, c1⟩ := hc 1 (by omega)
  obtain ⟨x2, c2⟩ := hc 2 (by omega)
  obtain ⟨x3, c3⟩ := hc 3 (by omega)
  simp only [Nat.add_zero] at c0
  have d0 := (World.cell?_alloc_lt w (.cells #[] 454) _ (World.block_lt_of_cell? w _ c0)).trans c0
  have f0 := (World.frozen?_alloc_old w (.cells #[] 454) ⟨g, o, none⟩ (Nat.ne_of_lt (World.block_lt_of_cell? w _ c0))).trans (hf _)
  have d1 := (World.cell?_alloc_lt w (.cells #[] 454) _ (World.block_lt_of_cell? w _ c1)).trans c1
  have f1 := (World.frozen?_alloc_old w (.cells #[] 454) ⟨g, o + 1, none⟩ (Nat.ne_of_lt (World.block_lt_of_cell? w _ c1))).trans (hf _)
  have d2 := (World.cell?_alloc_lt w (.cells #[] 454) _ (World.block_lt_of_cell? w _ c2)).trans c2
  have f2 := (World.frozen?_alloc_old w (.cells #[] 454) ⟨g, o + 2, none⟩ (Nat.ne_of_lt (World.block_lt_of_cell? w _ c2))).trans (hf _)
  have d3 := (World.cell?_alloc_lt w (.cells #[] 454) _ (World.block_lt_of_cell? w _ c3)).trans c3
  have f3 := (World.frozen?_alloc_old w (.cells #[] 454) ⟨g, o + 3, none⟩ (Nat.ne_of_lt (World.block_lt_of_cell? w _ c3))).trans (hf _)
  have e0 : ((v % 256 : Nat) : Int) = (v : Int) % 256 := by omega
  have e1 : ((v / 256 % 256 : Nat) : Int) = (v : Int) / 256 % 256 := by omega
  have e2 : ((v / 256 / 256 % 256 : Nat) : Int) = (v : Int) / 65536 % 256 := by omega
  have e3 : ((v / 256 / 256 / 256 % 256 : Nat) : Int) = (v : Int) / 16777216 := by omega
  have hb : bcells (Lib.leBytes 4 v) = [Value.int .u8 ((v : Int) % 256), Value.int .u8 ((v : Int) / 256 % 256), Value.int .u8 ((v : Int) / 65536 % 256), Value.int .u8 ((v : Int) / 16777216)] := by
    simp only [bcells, Lib.leBytes, List.map, Lib.toUInt8_mod, e0, e1, e2, e3]
  clear hc hf
  go_enter Tryz.func233, Tryz.ntmps233
  go_wp2
  go_end0
  refine ⟨rfl, ?_⟩
  rw [hb]
  rfl

set_option maxHeartbeats 4000000 in
set_option maxRecDepth 100000 in
theorem put64_any (g o n c v : Nat) (hv : v < 18446744073709551616) (w : World) (hn : 8 ≤ n) (hc : ∀ j, j < 8 → ∃ u, w.cell? ⟨g, o + j, none⟩ = some u) (hf : ∀ j, w.frozen? ⟨g, j, none⟩ = false) :
    Calls Tryz.prog 175 #[.agg #[], .slice (some ⟨g, o, none⟩) n c, .int .u64 v] w fun e w' => e = .returned (.tuple #[]) ∧ w' = (w.alloc (.cells #[] 454)).setCells g o (bcells (Lib.leBytes 8 v)) := by
  obtain ⟨x0, c0⟩ := hc 0 (by omega)
  obtain ⟨x1, c1⟩ := hc 1 (by omega)
  obtain ⟨x2, c2⟩ := hc 2 (by omega)
  obtain ⟨x3, c3⟩ := hc 3 (by omega)
  obtain ⟨x4, c4⟩ := hc 4 (by omega)
  obtain ⟨x5, c5⟩ := hc 5 (by omega)
  obtain ⟨x6, c6⟩ := hc 6 (by omega)
  obtain ⟨x7, c7⟩ := hc 7 (by omega)
  simp only [Nat.add_zero] at c0
  have d0 := (World.cell?_alloc_lt w (.cells #[] 454) _ (World.block_lt_of_cell? w _ c0)).trans c0
  have f0 := (World.frozen?_alloc_old w (.cells #[] 454) ⟨g, o, none⟩ (Nat.ne_of_lt (World.block_lt_of_cell? w _ c0))).trans (hf _)
  have d1 := (World.cell?_alloc_lt w (.cells #[] 454) _ (World.block_lt_of_cell? w _ c1)).trans c1
  have f1 := (World.frozen?_alloc_old w (.cells #[] 454) ⟨g, o + 1, none⟩ (Nat.ne_of_lt (World.block_lt_of_cell? w _ c1))).trans (hf _)
  have d2 := (World.cell?_alloc_lt w (.cells #[] 454) _ (World.block_lt_of_cell? w _ c2)).trans c2
  have f2 := (World.frozen?_alloc_old w (.cells #[] 454) ⟨g, o + 2, none⟩ (Nat.ne_of_lt (World.block_lt_of_cell? w _ c2))).trans (hf _)
  have d3 := (World.cell?_alloc_lt w (.cells #[] 454) _ (World.block_lt_of_cell? w _ c3)).trans c3
  have f3 := (World.frozen?_alloc_old w (.cells #[] 454) ⟨g, o + 3, none⟩ (Nat.ne_of_lt (World.block_lt_of_cell? w _ c3))).trans (hf _)
  have d4 := (World.cell?_alloc_lt w (.cells #[] 454) _ (World.block_lt_of_cell? w _ c4)).trans c4
  have f4 := (World.frozen?_alloc_old w (.cells #[] 454) ⟨g, o + 4, none⟩ (Nat.ne_of_lt (World.block_lt_of_cell? w _ c4))).trans (hf _)
  have d5 := (World.cell?_alloc_lt w (.cells #[] 454) _ (World.block_lt_of_cell? w _ c5)).trans c5
  have f5 := (World.frozen?_alloc_old w (.cells #[] 454) ⟨g, o + 5, none⟩ (Nat.ne_of_lt (World.block_lt_of_cell? w _ c5))).trans (hf _)
  have d6 := (World.cell?_alloc_lt w (.cells #[] 454) _ (World.block_lt_of_cell? w _ c6)).trans c6
  have f6 := (World.frozen?_alloc_old w (.cells #[] 454) ⟨g, o + 6, none⟩ (Nat.ne_of_lt (World.block_lt_of_cell? w _ c6))).trans (hf _)
  have d7 := (World.cell?_alloc_lt w (.cells #[] 454) _ (World.block_lt_of_cell? w _ c7)).trans c7
  have f7 := (World.frozen?_alloc_old w (.cells #[] 454) ⟨g, o + 7, none⟩ (Nat.ne_of_lt (World.block_lt_of_cell? w _ c7))).trans (hf _)
  have e0 : ((v % 256 : Nat) : Int) = (v : Int) % 256 := by omega
  have e1 : ((v / 256 % 256 : Nat) : Int) = (v : Int) / 256 % 256 := by omega
  have e2 : ((v / 256 / 256 % 256 : Nat) : Int) = (v : Int) / 65536 % 256 := by omega
  have e3 : ((v / 256 / 256 / 256 % 256 : Nat) : Int) = (v : Int) / 16777216 % 256 := by omega
  have e4 : ((v / 256 / 256 / 256 / 256 % 256 : Nat) : Int) = (v : Int) / 4294967296 % 256 := by omega
  have e5 : ((v / 256 / 256 / 256 / 256 / 256 % 256 : Nat) : Int) = (v : Int) / 1099511627776 % 256 := by omega
  have e6 : ((v / 256 / 256 / 256 / 256 / 256 / 256 % 256 : Nat) : Int) = (v : Int) / 281474976710656 % 256 := by omega
  have e7 : ((v / 256 / 256 / 256 / 256 / 256 / 256 / 256 % 256 : Nat) : Int) = (v : Int) / 72057594037927936 := by omega
  have hb : bcells (Lib.leBytes 8 v) = [Value.int .u8 ((v : Int) % 256), Value.int .u8 ((v : Int) / 256 % 256), Value.int .u8 ((v : Int) / 65536 % 256), Value.int .u8 ((v : Int) / 16777216 % 256), Value.int .u8 ((v : Int) / 4294967296 % 256), Value.int .u8 ((v : Int) / 1099511627776 % 256), Value.int .u8 ((v : Int) / 281474976710656 % 256), Value.int .u8 ((v : Int) / 72057594037927936)] := by
    simp only [bcells, Lib.leBytes, List.map, Lib.toUInt8_mod, e0, e1, e2, e3, e4, e5, e6, e7]
  clear hc hf
  go_enter Tryz.func175, Tryz.ntmps175
  go_wp2
  go_end0
  refine ⟨rfl, ?_⟩
  rw [hb]
  rfl

end Go.Proofs.YtcidlnjpabgioaaGreatDoor
