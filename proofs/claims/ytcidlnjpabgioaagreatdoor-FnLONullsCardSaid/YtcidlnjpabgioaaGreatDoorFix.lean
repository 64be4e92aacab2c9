/- FixedString: what fitted makes. -/
import Derived.Test.YtcidlnjpabgioaaGreatDoorEnc
import Derived.Lib.BufferWrite
import Derived.OwnWalk
namespace Go.Proofs.YtcidlnjpabgioaaGreatDoor
open Go.RowKit

/-- copy(d, s) of a text: as much as there is room for. -/
theorem run_copy_text {P : Program} (w : World) (dT sT ty elem : TypeId) (g dLen dCap : Nat) (s : ByteArray) (cur : Array Value) (t : TypeId)
    (hu : P.underlying dT = some (.slice elem)) (hs : (P.info? elem).map (·.size) = some 1) (hg : w.heap[g]? = some (.cells cur t (0, 0))) (hfit : dLen ≤ cur.size) :
    ∃ v, (Builtin.copy_ #[dT, sT] ty #[.slice (some ⟨g, 0, none⟩) dLen dCap, .string s]).run P w = .ok v (w.setRow g ((bcells s.data.toList).take dLen ++ cur.toList.drop (min s.size dLen)).toArray) := by
  have hl : ((bcells s.data.toList).take dLen).length = min s.size dLen := by
    rw [List.length_take, bcells_length, Array.length_toList, Nat.min_comm]
    rfl
  have hst := run_storeCells_at P g 0 t ((bcells s.data.toList).take dLen) 0 cur w hg (by rw [hl]; omega) (fun u hu => by
    obtain ⟨c, _, rfl⟩ := List.mem_map.1 (List.mem_of_mem_take hu)
    rfl)
  simp only [Nat.add_zero] at hst
  have htk : List.take (min s.size dLen) (List.map (fun b : UInt8 => Value.int IntKind.u8 (b.toNat : Int)) s.data.toList) = (bcells s.data.toList).take dLen := by
    rw [Nat.min_def]
    split
    · rename_i h
      show List.take s.size (bcells _) = _
      rw [List.take_of_length_le (by rw [bcells_length, Array.length_toList]; exact Nat.le_refl _), List.take_of_length_le (by rw [bcells_length, Array.length_toList]; exact h)]
    · rfl
  obtain ⟨i, hi, hsz⟩ := Option.map_eq_some_iff.1 hs
  refine ⟨goInt (Nat.min s.size dLen : Nat), ?_⟩
  simp only [Builtin.copy_, Builtin.lenOf, Builtin.firstCells, sizeOf, typeInfo]
  simp [run_underlying hu, hi]
  rw [show s.size.min dLen = min s.size dLen from rfl, htk, hst]
  simp [Result.andThen, hl]

theorem wpList_copy_text {P : Program} {w : World} {ops : Array Oper} {rest : List Oper} {o : Oper} {a : Act} {Q : Exit → Act → World → Prop} (hgd : o.guard = none) (d s : Operand) (dT sT : TypeId)
    (ho : o.op = .call { callee := .builtin .copy, args := #[d, s], argTypes := #[dT, sT] }) (elem : TypeId) (hu : P.underlying dT = some (.slice elem)) (hsz : (P.info? elem).map (·.size) = some 1)
    (g dLen dCap : Nat) (txt : ByteArray) (hd : a.eval d = .slice (some ⟨g, 0, none⟩) dLen dCap) (hs : a.eval s = .string txt)
    (cur : Array Value) (t : TypeId) (hg : w.heap[g]? = some (.cells cur t (0, 0))) (hfit : dLen ≤ cur.size)
    (h : ∀ v, wpList P ops Q rest (a.put o.dst v) (w.setRow g ((bcells txt.data.toList).take dLen ++ cur.toList.drop (min txt.size dLen)).toArray)) : wpList P ops Q (o :: rest) a w := by
  refine wpList_plain hgd fun K hK => ?_
  obtain ⟨v, hrun⟩ := run_copy_text (P := P) w dT sT o.type elem g dLen dCap txt cur t hu hsz hg hfit
  unfold Oper.wp
  simp [execOp, ho, resolve, invoke, builtin, hd, hs, hrun, Result.andThen]
  exact hK _ _ (h v)

theorem made_row {w1 : World} {g n : Nat} (h : w1.ownsRow 0 5 1 (.slice (some ⟨g, 0, none⟩) n n) n (madeCells (Value.int .u8 0).cells (n * 1)).toList) :
    ∃ cur : Array Value, w1.heap[g]? = some (.cells cur 5 (0, 0)) ∧ cur.toList = List.replicate n (Value.int .u8 0) := by
  rcases h.2 with ⟨hv, _⟩ | ⟨g', cap, cur, hv, _, hg, hnc, hcm, hcs, htake⟩
  · cases hv
  · simp only [Value.slice.injEq, Option.some.injEq, Addr.mk.injEq] at hv
    obtain ⟨⟨rfl, _⟩, _, rfl⟩ := hv
    refine ⟨cur, hg, ?_⟩
    rw [List.take_of_length_le (by rw [Array.length_toList, hcs]; exact Nat.le_refl _)] at htake
    rw [htake]
    apply List.ext_getElem
    · simp [madeCells]
    · intro i h1 h2
      simp [madeCells, Value.cells, Nat.mod_one]

set_option maxHeartbeats 400000 in
theorem fitted_any (w : World) (s : ByteArray) (n : Nat) (hn : n ≤ 1000) :
    Calls Tryz.prog 48 #[.string s, .int .i64 n] w fun e w' => ∃ tv, e = .returned tv ∧ w'.ownsRow 0 5 1 tv n (bcells (fitted n s)) ∧ (∀ q, tv.ownBlock = some q → w.heap.size ≤ q) ∧ Fr (fun _ => False) w w' := by
  obtain ⟨i, hi, hz, hsz, hby⟩ := bufEl.info
  go_enter Tryz.func48, Tryz.ntmps48
  go_wp2_with (first
    | ((with_reducible show wpList _ _ _ (⟨some 7, _, _, _, _, _⟩ :: _) _ _); refine wpList_make_full w rfl _ _ _ rfl 0 _ i _ 1 bufEl.ht hi hz hsz _ _ _ _ n rfl rfl rfl rfl (by rw [hby]; omega) (by unfold maxLen; omega) (Nat.zero_le _) ?_; intro w1 hown hg)
    | ((with_reducible show wpList _ _ _ (⟨some 10, _, _, _, _, _⟩ :: _) _ _); obtain ⟨cur, hrow, hcur⟩ := made_row hown; refine wpList_copy_text rfl _ _ _ _ rfl _ bufEl.ht (by rw [hi]; simp [hsz]) _ _ _ s rfl rfl cur _ hrow (by rw [← Array.length_toList, hcur]; simp) ?_; intro v; generalize hR : ((bcells s.data.toList).take n ++ cur.toList.drop (min s.size n)).toArray = R))
  go_ret
  have hl : s.data.toList.length = s.size := Array.length_toList
  have hcells : (bcells s.data.toList).take n ++ cur.toList.drop (min s.size n) = bcells (fitted n s) := by
    have e0 : bcells (s.data.toList.take n) = (bcells s.data.toList).take n := by simp [bcells, List.map_take]
    have e1 : n - min s.size n = min (n - s.size) n := by omega
    rw [hcur, fitted, List.take_append, hl, bcells_append, e0, List.drop_replicate, List.take_replicate, bcells_zeros, e1]
  have hfl : (bcells (fitted n s)).length = n := by rw [bcells_length, fitted]; simp
  rw [hcells] at hR
  subst hR
  have hw1 := Fr.of_grown hg
  refine ⟨_, rfl, ⟨by rw [hfl, Nat.mul_one], .inr ⟨w.heap.size, n, _, rfl, Nat.zero_le _, setRow_heap w1 _ cur _ _ _ hrow, Nat.le_refl _, by unfold maxLen; omega, ?_, ?_⟩⟩, ?_, ?_⟩
  · rw [List.size_toArray, hfl, Nat.mul_one]
  · rw [List.toList_toArray, List.take_of_length_le (by rw [hfl]; omega)]
  · intro q hq
    have hq' : (Value.slice (some ⟨w.heap.size, 0, none⟩) n n).ownBlock = some q := hq
    simp only [Value.ownBlock, Option.some.injEq] at hq'
    omega
  · refine ⟨hw1.os, hw1.tape, hw1.output, by have := hw1.size; simpa [World.setRow] using this, fun k hk _ => ?_⟩
    rw [setRow_other w1 _ k _ (by omega)]
    exact hw1.block k hk (by simp)
end Go.Proofs.YtcidlnjpabgioaaGreatDoor
