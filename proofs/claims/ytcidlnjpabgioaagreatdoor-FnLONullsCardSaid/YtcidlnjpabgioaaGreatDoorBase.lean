import Derived.WalkKit
import Derived.WalkSpells
import Derived.WalkLawsBesides
import Derived.Deep.RegionHeld3
import Derived.Deep.AppendSrc
import Derived.Deep.Upon
namespace Go.Proofs.YtcidlnjpabgioaaGreatDoor
open Go.RowKit

/-! ## append onto a row of the call's own -/
section
variable {P : Program} (w : World)

theorem run_append_room_own (t tx ty e : TypeId) (i : TypeInfo) (ht : P.underlying t = some (.slice e)) (hi : P.info? e = some i)
    (g sLen sCap : Nat) (cur : Array Value) (hg : w.heap[g]? = some (.cells cur e (0, 0))) (x : Value) (m : Nat) (news : List Value) (hs : Src P i.size tx x m news w)
    (hroom : sLen + m ≤ sCap) (hfit : sLen * i.size + news.length ≤ cur.size) :
    (Builtin.append_ #[t, tx] ty #[.slice (some ⟨g, 0, none⟩) sLen sCap, x]).run P w =
      .ok (.slice (some ⟨g, 0, none⟩) (sLen + m) sCap) (w.setRow g (cur.toList.take (sLen * i.size) ++ news ++ cur.toList.drop (sLen * i.size + news.length)).toArray) := by
  have hst := run_storeCells_at P g (sLen * i.size) e news 0 cur w hg (by simpa using hfit) hs.one
  simp only [Nat.add_zero] at hst
  rcases hs.kind with ⟨e', hk⟩ | hk <;> simp [Builtin.append_, run_underlying ht, run_underlying hk, sizeOf, typeInfo, hi, hs.len, hroom, hs.cells, Addr.add_lit, hst]

theorem append_own (t tx ty e : TypeId) (i : TypeInfo) (z : Value) (size bytes : Nat) (ht : P.underlying t = some (.slice e)) (hi : P.info? e = some i) (hz : i.zero = some z)
    (hsize : i.size = size) (hby : i.bytes = bytes) (hzs : z.cells.size = size)
    (v : Value) (n : Nat) (xs : List Value) (hown : w.ownsRow 0 e size v n xs)
    (x : Value) (m : Nat) (news : List Value) (hs : Src P size tx x m news w)
    (h63 : n + m ≤ maxLen) (hbytes : (n + m) * bytes ≤ 140737488355328) :
    ∃ v' w', (Builtin.append_ #[t, tx] ty #[v, x]).run P w = .ok v' w' ∧ w'.ownsRow 0 e size v' (n + m) (xs ++ news) ∧ w.grownBy w' v.ownBlock ∧
      (v'.ownBlock = v.ownBlock ∨ v'.ownBlock = some w.heap.size) := by
  subst hsize
  subst hby
  have hl := hs.newsLen
  have hsmall : n + m ≤ 9223372036854775807 := by simp only [maxLen] at h63; omega
  have hlen : (xs ++ news).length = (n + m) * i.size := by rw [List.length_append, hown.1, hl, Nat.add_mul]
  have grown : ∀ (old : Nat), old < n + m → ∀ (row : Option Nat),
      (w.drew.alloc (.cells ((xs ++ news).toArray ++ Builtin.zeroCells z.cells (grownCap w (n + m) old e - (n + m))) e)).ownsRow 0 e i.size
        (.slice (some ⟨w.heap.size, 0, none⟩) (n + m) (grownCap w (n + m) old e)) (n + m) (xs ++ news) ∧
      w.grownBy (w.drew.alloc (.cells ((xs ++ news).toArray ++ Builtin.zeroCells z.cells (grownCap w (n + m) old e - (n + m))) e)) row := by
    intro old ho row
    have hge := grownCap_ge w (n + m) old e
    have hcm : grownCap w (n + m) old e ≤ maxLen := grownCap_le_maxLen w (n + m) old e h63
    refine ⟨⟨hlen, .inr ⟨w.heap.size, _, _, rfl, Nat.zero_le _, _root_.Go.heap_alloc_new w.drew _, hge, hcm, ?_, ?_⟩⟩, ⟨rfl, rfl, rfl, by simp, fun k hk _ => Below.heap_alloc w.drew _ k hk⟩⟩
    · rw [Array.size_append, List.size_toArray, size_zeroCells, hzs, hlen, ← Nat.add_mul]
      congr 1
      omega
    · rw [Array.toList_append, ← hlen]
      exact List.take_left
  rcases hown.2 with ⟨rfl, rfl⟩ | ⟨g, cap, cur, rfl, hbg, hg, hnc, hcm, hcs, htake⟩
  · have hx : xs = [] := List.eq_nil_of_length_eq_zero (by simpa using hown.1)
    subst hx
    by_cases hm : m = 0
    · subst hm
      have hn : news = [] := List.eq_nil_of_length_eq_zero (by simpa using hl)
      subst hn
      exact ⟨.slice none 0 0, w, run_append_nothing w t tx ty e i ht hi none 0 0 (Nat.le_refl _) x hs, World.ownsRow_nil w 0 e i.size, ⟨rfl, rfl, rfl, Nat.le_refl _, fun _ _ _ => rfl⟩, .inl rfl⟩
    · have hr := run_append_grow_src (P := P) w t tx ty e i z ht hi hz none 0 0 [] (run_firstCells_none w.drew i.size 0 0 0) x m news hs (by omega) (by omega) (by
        have hb := hbytes; rw [Nat.zero_add] at hb ⊢; exact growslice_fits (by omega) hb)
      have hgr := grown 0 (by omega) (Value.ownBlock (.slice none 0 0))
      simp only [Nat.zero_add, List.nil_append] at hgr hr ⊢
      exact ⟨_, _, hr, hgr.1, hgr.2, .inr rfl⟩
  · by_cases hroom : n + m ≤ cap
    · have hfit : n * i.size + news.length ≤ cur.size := by rw [hl, hcs, ← Nat.add_mul]; exact Nat.mul_le_mul_right _ hroom
      have hr := run_append_room_own (P := P) w t tx ty e i ht hi g n cap cur hg x m news hs hroom hfit
      refine ⟨_, _, hr, ⟨hlen, .inr ⟨g, cap, _, rfl, hbg, setRow_heap w g cur _ e _ hg, hroom, hcm, ?_, ?_⟩⟩, ⟨rfl, rfl, rfl, by simp, fun k _ hk => setRow_other w g k _ (fun e => hk (by simp [Value.ownBlock, e]))⟩, .inl rfl⟩
      · simp only [List.size_toArray, List.length_append, List.length_take, List.length_drop, Array.length_toList]
        omega
      · rw [htake, ← hlen]
        exact List.take_left
    · have holds : ∀ j u, xs[j]? = some u → w.cell? ((⟨g, 0, none⟩ : Addr).add j) = some u := hown.cells (g := g) rfl
      have hr := run_append_grow_src (P := P) w t tx ty e i z ht hi hz (some ⟨g, 0, none⟩) n cap xs (run_firstCells_some w.drew i.size n ⟨g, 0, none⟩ n cap xs hown.1 holds) x m news hs (by omega) (by omega) (growslice_fits (by omega) hbytes)
      have hgr := grown cap (by omega) (Value.ownBlock (.slice (some ⟨g, 0, none⟩) n cap))
      exact ⟨_, _, hr, hgr.1, hgr.2, .inr rfl⟩

theorem zeroCells_byte (m : Nat) : Builtin.zeroCells #[.int .u8 0] m = (List.replicate m (Value.int .u8 0)).toArray := by
  apply Array.ext
  · simp [Builtin.zeroCells]
  · intro i h1 h2
    simp [Builtin.zeroCells, Nat.mod_one]

/-- 'append(b, make([]byte, m)...)', m at least one, onto a row of bytes of the call's own. -/
theorem append_zeros_own (t tn ty e : TypeId) (i : TypeInfo) (kn : IntKind) (ht : P.underlying t = some (.slice e)) (htn : P.underlying tn = some (.int kn)) (hi : P.info? e = some i) (hz : i.zero = some (.int .u8 0))
    (hsize : i.size = 1) (hby : i.bytes = 1)
    (v : Value) (n : Nat) (xs : List Value) (hown : w.ownsRow 0 e 1 v n xs) (m : Nat) (hm : 0 < m) (hbytes : n + m ≤ 140737488355328) :
    ∃ v' w', (Builtin.append_ #[t, tn] ty #[v, .int .i64 m]).run P w = .ok v' w' ∧ w'.ownsRow 0 e 1 v' (n + m) (xs ++ List.replicate m (.int .u8 0)) ∧ w.grownBy w' v.ownBlock ∧
      (v'.ownBlock = v.ownBlock ∨ v'.ownBlock = some w.heap.size) := by
  have hw : IntKind.i64.wrap (m : Int) = m := by rw [IntKind.wrap_i64]; omega
  have hneg : ¬ ((m : Int) < 0) := by omega
  have h48 : ¬ (281474976710656 < (m : Int)) := by omega
  have hl : (List.replicate m (Value.int .u8 0)).length = m * 1 := by simp
  have h1 : ∀ u ∈ List.replicate m (Value.int .u8 0), u.oneCell' = true := by
    intro u hu
    rw [List.eq_of_mem_replicate hu]
    rfl
  have hlen : (xs ++ List.replicate m (Value.int .u8 0)).length = (n + m) * 1 := by rw [List.length_append, hown.1, hl]; omega
  have hm0 : ¬ m = 0 := by omega
  have grown : ∀ (old : Nat), old < n + m → ∀ (row : Option Nat),
      (w.drew.alloc (.cells ((xs ++ List.replicate m (Value.int .u8 0)).toArray ++ Builtin.zeroCells #[.int .u8 0] (grownCap w (n + m) old e - (n + m))) e)).ownsRow 0 e 1
        (.slice (some ⟨w.heap.size, 0, none⟩) (n + m) (grownCap w (n + m) old e)) (n + m) (xs ++ List.replicate m (Value.int .u8 0)) ∧
      w.grownBy (w.drew.alloc (.cells ((xs ++ List.replicate m (Value.int .u8 0)).toArray ++ Builtin.zeroCells #[.int .u8 0] (grownCap w (n + m) old e - (n + m))) e)) row := by
    intro old ho row
    have hge := grownCap_ge w (n + m) old e
    have hcm : grownCap w (n + m) old e ≤ maxLen := grownCap_le_maxLen w (n + m) old e (by unfold maxLen; omega)
    refine ⟨⟨hlen, .inr ⟨w.heap.size, _, _, rfl, Nat.zero_le _, heap_alloc_new w.drew _, hge, hcm, ?_, ?_⟩⟩, ⟨rfl, rfl, rfl, by simp, fun k hk _ => Below.heap_alloc w.drew _ k hk⟩⟩
    · rw [Array.size_append, List.size_toArray, size_zeroCells, hlen]
      simp
      omega
    · rw [Array.toList_append, ← hlen]
      exact List.take_left
  rcases hown.2 with ⟨rfl, rfl⟩ | ⟨g, cap, cur, rfl, hbg, hg, hnc, hcm, hcs, htake⟩
  · have hx : xs = [] := List.eq_nil_of_length_eq_zero (by simpa using hown.1)
    subst hx
    have h48' : ¬ (281474976710656 < Builtin.nextslicecap m 0) := by rw [nextslicecap_zero hm]; omega
    have h63 : ¬ (9223372036854775807 < (m : Int)) := by omega
    have hgr := grown 0 (by omega) (Value.ownBlock (.slice none 0 0))
    refine ⟨_, _, ?_, hgr.1, hgr.2, .inr rfl⟩
    simp [Builtin.append_, run_underlying ht, run_underlying htn, sizeOf, typeInfo, zeroValue, hi, hz, hsize, hby, asInt, asIntOf, hw, hneg, hm0, h48, h48', h63, Question.forced, run_firstCells_none, newRow, grownCap, Value.cells]
    rw [zeroCells_byte m]
    simp
  · by_cases hroom : n + m ≤ cap
    · have hfit : n + m ≤ cur.size := by rw [hcs, Nat.mul_one]; exact hroom
      have hst := run_storeCells_at P g (n * 1) e (List.replicate m (Value.int .u8 0)) 0 cur w hg (by simpa using hfit) h1
      simp only [Nat.add_zero, Nat.mul_one] at hst
      have hr : (Builtin.append_ #[t, tn] ty #[.slice (some ⟨g, 0, none⟩) n cap, .int .i64 m]).run P w = .ok (.slice (some ⟨g, 0, none⟩) (n + m) cap) (w.setRow g (cur.toList.take n ++ List.replicate m (Value.int .u8 0) ++ cur.toList.drop (n + m)).toArray) := by
        simp [Builtin.append_, run_underlying ht, run_underlying htn, sizeOf, typeInfo, zeroValue, hi, hz, hsize, hby, asInt, asIntOf, hw, hneg, hm0, h48, hroom, Addr.add_lit, Value.cells, zeroCells_byte, hst]
      refine ⟨_, _, hr, ⟨hlen, .inr ⟨g, cap, _, rfl, hbg, setRow_heap w g cur _ e _ hg, hroom, hcm, ?_, ?_⟩⟩, ⟨rfl, rfl, rfl, by simp, fun k _ hk => setRow_other w g k _ (fun e => hk (by simp [Value.ownBlock, e]))⟩, .inl rfl⟩
      · simp only [List.size_toArray, List.length_append, List.length_take, List.length_drop, Array.length_toList, List.length_replicate]
        omega
      · rw [Nat.mul_one] at htake
        rw [htake, ← hlen]
        exact List.take_left
    · have holds : ∀ j u, xs[j]? = some u → w.cell? ((⟨g, 0, none⟩ : Addr).add j) = some u := hown.cells (g := g) rfl
      have hold := run_firstCells_some (P := P) w.drew 1 n ⟨g, 0, none⟩ n cap xs hown.1 holds
      have hfit : ¬ (281474976710656 < Builtin.nextslicecap (n + m) cap) := by
        have := growslice_fits (need := n + m) (old := cap) (bytes := 1) (by omega) (by omega)
        omega
      have h63 : ¬ (9223372036854775807 < (n : Int) + (m : Int)) := by omega
      have hgr := grown cap (by omega) (Value.ownBlock (.slice (some ⟨g, 0, none⟩) n cap))
      refine ⟨_, _, ?_, hgr.1, hgr.2, .inr rfl⟩
      simp [Builtin.append_, run_underlying ht, run_underlying htn, sizeOf, typeInfo, zeroValue, hi, hz, hsize, hby, asInt, asIntOf, hw, hneg, hm0, h48, hroom, hfit, h63, Question.forced, hold, newRow, grownCap, Value.cells]
      congr 2
      apply Array.ext'
      simp [zeroCells_byte]
end

/-! ## w' is w but for the blocks in S and new ones -/
structure Fr (S : Nat → Prop) (w w' : World) : Prop where
  os : w'.os = w.os
  tape : w'.tape = w.tape
  output : w'.output = w.output
  size : w.heap.size ≤ w'.heap.size
  block : ∀ k, k < w.heap.size → ¬ S k → w'.heap[k]? = w.heap[k]?

namespace Fr
variable {S S' : Nat → Prop} {a b c w w' : World}
theorem refl (S : Nat → Prop) (w : World) : Fr S w w := ⟨rfl, rfl, rfl, Nat.le_refl _, fun _ _ _ => rfl⟩
theorem mono (h : Fr S a b) (hs : ∀ k, k < a.heap.size → S k → S' k) : Fr S' a b := ⟨h.os, h.tape, h.output, h.size, fun k hk hn => h.block k hk (fun x => hn (hs k hk x))⟩
theorem trans (h : Fr S a b) (k : Fr S' b c) (hs : ∀ k, k < a.heap.size → S' k → S k) : Fr S a c :=
  ⟨k.os.trans h.os, k.tape.trans h.tape, k.output.trans h.output, Nat.le_trans h.size k.size, fun i hi hn =>
    (k.block i (Nat.lt_of_lt_of_le hi h.size) (fun x => hn (hs i hi x))).trans (h.block i hi hn)⟩
theorem drew (h : Fr S a w) : Fr S a w.drew := ⟨h.os, h.tape, h.output, h.size, h.block⟩
theorem of_drew (h : Fr S a.drew w) : Fr S a w := ⟨h.os, h.tape, h.output, h.size, h.block⟩
theorem drewN (h : Fr S a w) (n : Nat) : Fr S a (w.drewN n) := ⟨h.os, h.tape, h.output, h.size, h.block⟩
theorem alloc (h : Fr S a w) (o : Obj) : Fr S a (w.alloc o) :=
  ⟨h.os, h.tape, h.output, by simp; exact Nat.le_succ_of_le h.size, fun k hk hn => (Below.heap_alloc _ _ _ (Nat.lt_of_lt_of_le hk h.size)).trans (h.block k hk hn)⟩
theorem setCell (h : Fr S a w) {p : Addr} (hp : S p.block ∨ a.heap.size ≤ p.block) (u : Value) : Fr S a (w.setCell p u) :=
  ⟨h.os, h.tape, h.output, by simp [World.setCell]; exact h.size, fun k hk hn => (Below.heap_setCell _ _ _ _ (fun e => by subst e; rcases hp with hp | hp; exact hn hp; omega)).trans (h.block k hk hn)⟩
theorem grown (h : Fr S a w) {row : Option Nat} (hg : w.grownBy w' row) (hr : ∀ k, row = some k → S k ∨ a.heap.size ≤ k) : Fr S a w' :=
  ⟨hg.os.trans h.os, hg.tape.trans h.tape, hg.output.trans h.output, Nat.le_trans h.size hg.size, fun k hk hn =>
    (hg.block k (Nat.lt_of_lt_of_le hk h.size) (fun e => by rcases hr k e.symm with hp | hp; exact hn hp; omega)).trans (h.block k hk hn)⟩
theorem of_grown {row : Option Nat} (hg : w.grownBy w' row) : Fr (fun k => row = some k) w w' := ⟨hg.os, hg.tape, hg.output, hg.size, fun k hk hn => hg.block k hk (fun e => hn e.symm)⟩
theorem cell (h : Fr S w w') {p : Addr} (hp : p.block < w.heap.size) (hn : ¬ S p.block) : w'.cell? p = w.cell? p := World.cell?_of_block (h.block p.block hp hn)
theorem cell_some (h : Fr S w w') {p : Addr} {v : Value} (hc : w.cell? p = some v) (hn : ¬ S p.block) : w'.cell? p = some v := (h.cell (World.block_lt_of_cell? w p hc) hn).trans hc
theorem frozen (h : Fr S w w') {p : Addr} (hp : p.block < w.heap.size) (hn : ¬ S p.block) : w'.frozen? p = w.frozen? p := World.frozen?_of_block (h.block p.block hp hn)
theorem below (h : Fr S w w') {B : Nat} (hB : B ≤ w.heap.size) (hS : ∀ k, k < B → ¬ S k) : Below B w w' := ⟨h.os, h.tape, h.output, h.size, fun k hk => h.block k (by omega) (hS k hk)⟩
theorem owns (h : Fr S w w') {base : Nat} {e : TypeId} {size : Nat} {v : Value} {n : Nat} {xs : List Value} (ho : w.ownsRow base e size v n xs) (hn : ∀ k, v.ownBlock = some k → ¬ S k) : w'.ownsRow base e size v n xs := by
  refine ⟨ho.1, ?_⟩
  rcases ho.2 with hn' | ⟨g, cap, cur, rfl, hb, hgg, rest⟩
  · exact .inl hn'
  · refine .inr ⟨g, cap, cur, rfl, hb, ?_, rest⟩
    rw [h.block g (Array.getElem?_eq_some_iff.1 hgg).1 (hn g rfl)]
    exact hgg
end Fr

/-! ## The element type of a slice type, in one word -/
structure ElT (P : Program) (t e : TypeId) (z : Value) (size bytes : Nat) : Prop where
  ht : P.underlying t = some (.slice e)
  info : ∃ i, P.info? e = some i ∧ i.zero = some z ∧ i.size = size ∧ i.bytes = bytes
  zs : z.cells.size = size

section
variable {P : Program} (w : World) {ops : Array Oper} {rest : List Oper} {o : Oper} {a : Act} {Q : Exit → Act → World → Prop} {K : Act → World → Prop} {E : Prop}

/-- What an append onto an own row leaves. -/
def Appended (w w' : World) (e : TypeId) (size : Nat) (v v' : Value) (n : Nat) (xs : List Value) : Prop :=
  w'.ownsRow 0 e size v' n xs ∧ w.grownBy w' v.ownBlock ∧ (v'.ownBlock = v.ownBlock ∨ v'.ownBlock = some w.heap.size)

theorem wp_append {t tx e : TypeId} {z : Value} {size bytes : Nat} (el : ElT P t e z size bytes) (s x : Operand)
    (hop : o.op = .call { callee := .builtin .append, args := #[s, x], argTypes := #[t, tx] })
    (v : Value) (n : Nat) (xs : List Value) (hv : a.eval s = v) (hown : w.ownsRow 0 e size v n xs)
    (xv : Value) (m : Nat) (news : List Value) (hx : a.eval x = xv) (hs : Src P size tx xv m news w)
    (h63 : n + m ≤ maxLen) (hbytes : (n + m) * bytes ≤ 140737488355328)
    (h : ∀ v' w', Appended w w' e size v v' (n + m) (xs ++ news) → K (a.put o.dst v') w') : o.wp P a w K Q := by
  obtain ⟨i, hi, hz, hsz, hby⟩ := el.info
  obtain ⟨v', w', hr, h2⟩ := append_own (P := P) w t tx o.type e i z size bytes el.ht hi hz hsz hby el.zs v n xs hown xv m news hs h63 hbytes
  unfold Oper.wp execOp
  simp only [hop, resolve, invoke, builtin, Sem.run_bind, Sem.run_pure, Result.andThen_ok, List.map_toArray, List.map_cons, List.map_nil, hv, hx, hr]
  exact h v' w' h2

theorem wp_append_zeros {t tn e : TypeId} {kn : IntKind} (el : ElT P t e (.int .u8 0) 1 1) (htn : P.underlying tn = some (.int kn)) (s x : Operand)
    (hop : o.op = .call { callee := .builtin .append, args := #[s, x], argTypes := #[t, tn] })
    (v : Value) (n : Nat) (xs : List Value) (hv : a.eval s = v) (hown : w.ownsRow 0 e 1 v n xs)
    (M : Int) (m : Nat) (hx : a.eval x = .int .i64 M) (hM : M = (m : Int)) (hm : 0 < m) (hbytes : n + m ≤ 140737488355328)
    (h : ∀ v' w', Appended w w' e 1 v v' (n + m) (xs ++ List.replicate m (.int .u8 0)) → K (a.put o.dst v') w') : o.wp P a w K Q := by
  obtain ⟨i, hi, hz, hsz, hby⟩ := el.info
  obtain ⟨v', w', hr, h2⟩ := append_zeros_own (P := P) w t tn o.type e i kn el.ht htn hi hz hsz hby v n xs hown m hm hbytes
  subst hM
  unfold Oper.wp execOp
  simp only [hop, resolve, invoke, builtin, Sem.run_bind, Sem.run_pure, Result.andThen_ok, List.map_toArray, List.map_cons, List.map_nil, hv, hx, hr]
  exact h v' w' h2

theorem step_of_wp (hg : o.guard = none) (h : o.wp P a w K Q) : if Region.wanted o (yielded ops a.tmps) = true then Oper.wp P o a w K Q else E := by
  rw [if_pos (by simp [Region.wanted, hg])]
  exact h

theorem wpList_append {t tx e : TypeId} {z : Value} {size bytes : Nat} (hg : o.guard = none) (el : ElT P t e z size bytes) (s x : Operand)
    (hop : o.op = .call { callee := .builtin .append, args := #[s, x], argTypes := #[t, tx] })
    (v : Value) (n : Nat) (xs : List Value) (hv : a.eval s = v) (hown : w.ownsRow 0 e size v n xs)
    (xv : Value) (m : Nat) (news : List Value) (hx : a.eval x = xv) (hs : Src P size tx xv m news w)
    (h63 : n + m ≤ maxLen) (hbytes : (n + m) * bytes ≤ 140737488355328)
    (h : ∀ v' w', Appended w w' e size v v' (n + m) (xs ++ news) → wpList P ops Q rest (a.put o.dst v') w') : wpList P ops Q (o :: rest) a w :=
  wpList_plain hg fun _ hK => wp_append w el s x hop v n xs hv hown xv m news hx hs h63 hbytes fun v' w' h2 => hK _ _ (h v' w' h2)

theorem step_append {t tx e : TypeId} {z : Value} {size bytes : Nat} (hg : o.guard = none) (el : ElT P t e z size bytes) (s x : Operand)
    (hop : o.op = .call { callee := .builtin .append, args := #[s, x], argTypes := #[t, tx] })
    (v : Value) (n : Nat) (xs : List Value) (hv : a.eval s = v) (hown : w.ownsRow 0 e size v n xs)
    (xv : Value) (m : Nat) (news : List Value) (hx : a.eval x = xv) (hs : Src P size tx xv m news w)
    (h63 : n + m ≤ maxLen) (hbytes : (n + m) * bytes ≤ 140737488355328)
    (h : ∀ v' w', Appended w w' e size v v' (n + m) (xs ++ news) → K (a.put o.dst v') w') : if Region.wanted o (yielded ops a.tmps) = true then Oper.wp P o a w K Q else E :=
  step_of_wp w hg (wp_append w el s x hop v n xs hv hown xv m news hx hs h63 hbytes h)

theorem wpList_append_zeros {t tn e : TypeId} {kn : IntKind} (hg : o.guard = none) (el : ElT P t e (.int .u8 0) 1 1) (htn : P.underlying tn = some (.int kn)) (s x : Operand)
    (hop : o.op = .call { callee := .builtin .append, args := #[s, x], argTypes := #[t, tn] })
    (v : Value) (n : Nat) (xs : List Value) (hv : a.eval s = v) (hown : w.ownsRow 0 e 1 v n xs)
    (M : Int) (m : Nat) (hx : a.eval x = .int .i64 M) (hM : M = (m : Int)) (hm : 0 < m) (hbytes : n + m ≤ 140737488355328)
    (h : ∀ v' w', Appended w w' e 1 v v' (n + m) (xs ++ List.replicate m (.int .u8 0)) → wpList P ops Q rest (a.put o.dst v') w') : wpList P ops Q (o :: rest) a w :=
  wpList_plain hg fun _ hK => wp_append_zeros w el htn s x hop v n xs hv hown M m hx hM hm hbytes fun v' w' h2 => hK _ _ (h v' w' h2)

/-! ## A method called through an interface value, told by a contract -/
/-- The method 'name' of v, called with args in w, comes to R. -/
def Invokes (P : Program) (v : Value) (name : String) (args : Array Value) (w : World) (R : Ending → World → Prop) : Prop :=
  ∃ f args', (callMethod v name args).run P w = .ok (.enter f args') w ∧ Calls P f args' w R

theorem wp_invoke (r : Operand) (name : String) (xs : Array Operand) (ts : Array TypeId) (hop : o.op = .call { callee := .invoke r name, args := xs, argTypes := ts })
    (v : Value) (args : Array Value) (hv : a.eval r = v) {R : Ending → World → Prop} (hc : Invokes P v name args w R) (ha : xs.toList.map a.eval = args.toList)
    (h : ∀ e w', R e w' → ∃ val, e = .returned val ∧ K (a.put o.dst val) w') : o.wp P a w K Q := by
  obtain ⟨f, args', h1, h2⟩ := hc
  unfold Oper.wp execOp
  have ha' : xs.map a.eval = args := by apply Array.ext'; rw [Array.toList_map]; exact ha
  have e1 : (#[v] ++ args)[0]? = some v := by rw [Array.getElem?_append_left (by simp)]; rfl
  have e2 : (#[v] ++ args).extract 1 (#[v] ++ args).size = args := by
    apply Array.ext'
    simp
  simp only [hop, resolve, invoke, Sem.run_bind, Sem.run_pure, Result.andThen_ok, hv, ha', e1, e2, h1, Oper.upon_enter]
  refine h2.mono fun e w' hr => ?_
  obtain ⟨val, rfl, hk⟩ := h e w' hr
  exact hk

theorem wpList_invoke (hg : o.guard = none) (r : Operand) (name : String) (xs : Array Operand) (ts : Array TypeId) (hop : o.op = .call { callee := .invoke r name, args := xs, argTypes := ts })
    (v : Value) (args : Array Value) (hv : a.eval r = v) {R : Ending → World → Prop} (hc : Invokes P v name args w R) (ha : xs.toList.map a.eval = args.toList)
    (h : ∀ e w', R e w' → ∃ val, e = .returned val ∧ wpList P ops Q rest (a.put o.dst val) w') : wpList P ops Q (o :: rest) a w :=
  wpList_plain hg fun _ hK => wp_invoke w r name xs ts hop v args hv hc ha fun e w' hr => let ⟨val, he, hk⟩ := h e w' hr; ⟨val, he, hK _ _ hk⟩

theorem step_invoke (hg : o.guard = none) (r : Operand) (name : String) (xs : Array Operand) (ts : Array TypeId) (hop : o.op = .call { callee := .invoke r name, args := xs, argTypes := ts })
    (v : Value) (args : Array Value) (hv : a.eval r = v) {R : Ending → World → Prop} (hc : Invokes P v name args w R) (ha : xs.toList.map a.eval = args.toList)
    (h : ∀ e w', R e w' → ∃ val, e = .returned val ∧ K (a.put o.dst val) w') : if Region.wanted o (yielded ops a.tmps) = true then Oper.wp P o a w K Q else E :=
  step_of_wp w hg (wp_invoke w r name xs ts hop v args hv hc ha h)
end

theorem Invokes.mono {P : Program} {v : Value} {name : String} {args : Array Value} {w : World} {R R' : Ending → World → Prop} (h : Invokes P v name args w R) (hr : ∀ e w', R e w' → R' e w') : Invokes P v name args w R' := by
  obtain ⟨f, args', h1, h2⟩ := h
  exact ⟨f, args', h1, h2.mono hr⟩
end Go.Proofs.YtcidlnjpabgioaaGreatDoor
