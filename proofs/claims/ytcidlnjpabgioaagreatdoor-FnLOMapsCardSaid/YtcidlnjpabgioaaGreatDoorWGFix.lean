import Derived.Test.YtcidlnjpabgioaaGreatDoorWGStr
import Derived.Test.YtcidlnjpabgioaaGreatDoorWGEnc
import Derived.Lib.BufferWrite
import Derived.OwnWalk
import Derived.Deep.RegionLaw
import Derived.Test.YtcidlnjpabgioaaGreatDoorWGText
set_option maxHeartbeats 1000000
set_option maxRecDepth 100000
namespace Go.Proofs.YtcidlnjpabgioaaGreatDoor
open Go.RowKit
theorem pM {P : Program} {w : World} {t : TypeId} {i : TypeInfo} {fs : Array Field} {a : Addr} {u v : Value} (hu : P.underlying t = some (.struct fs)) (hi : P.info? t = some i) (hs : i.size = 2) (h0 : w.cell? a = some u) (h1 : w.cell? (a.add 1) = some v) : (loadVar t a).run P w = .ok (.agg #[u, v]) w := by
 have hg : (isAgg t).run P w = .ok true w := by simp [isAgg, run_underlying hu]
 have h0' : w.cell? (a.add 0) = some u := by cases a with | mk b o s => cases s <;> simpa [Addr.add] using h0
 unfold loadVar
 simp [Sem.run_bind, hg, sizeOf, typeInfo, hi, hs, loadCells, loadCellsFrom, h0', h1]
theorem zW {w : World} {a : Addr} {u v : Value} (h0 : w.cell? a = some u) (h1 : w.cell? (a.add 1) = some v) : (loadVar 148 a).run Tryz.prog w = .ok (.agg #[u, v]) w := by
 have h : (Tryz.prog.info? 148).map (·.size) = some 2 := by kernel_rfl
 obtain ⟨i, hi, hs⟩ := Option.map_eq_some_iff.1 h
 exact pM Tryz.underlying148 hi hs h0 h1
theorem aAe (p : Nat) (w : World) (name : String) (f : FuncId) (h : (name, f) = ("Append", 299) ∨ (name, f) = ("AppendArr", 300)) :
 (method (Tryz.prog.types.size + Made.depth) 154 (.agg #[.iface 145 (.pointer (some ⟨p, 0, none⟩)), .func (.func 44) #[] #[], .func (.func 45) #[] #[]]) name).run Tryz.prog w =
  .ok (f, .agg #[.iface 145 (.pointer (some ⟨p, 0, none⟩)), .func (.func 44) #[] #[], .func (.func 45) #[] #[]]) w := by
 rcases h with h | h <;> (simp only [Prod.mk.injEq] at h; obtain ⟨rfl, rfl⟩ := h; kernel_rfl)
theorem aDR (p : Nat) (w : World) (u v : Value) (h0 : w.cell? ⟨p, 0, none⟩ = some u) (h1 : w.cell? ⟨p, 1, none⟩ = some v) :
 (method (Tryz.prog.types.size + Made.depth) 154 (.agg #[.iface 145 (.pointer (some ⟨p, 0, none⟩)), .func (.func 44) #[] #[], .func (.func 45) #[] #[]]) "Rows").run Tryz.prog w = .ok (293, .agg #[u, v]) w := by
 obtain ⟨n, hn⟩ := fuel
 rw [hn]
 refine (bD (n := n + 1) Tryz.underlying154 rfl rfl (fun _ => by kernel_rfl) (by kernel_rfl) rfl).trans ?_
 exact aZ (n := n) false (by kernel_rfl) (bT Tryz.underlying145 (zW h0 (by simpa [Addr.add] using h1)))
theorem aGM (p : Nat) (w : World) (u v : Value) (h0 : w.cell? ⟨p, 0, none⟩ = some u) (h1 : w.cell? ⟨p, 1, none⟩ = some v) :
 (method (Tryz.prog.types.size + Made.depth) 154 (.agg #[.iface 145 (.pointer (some ⟨p, 0, none⟩)), .func (.func 44) #[] #[], .func (.func 45) #[] #[]]) "EncodeColumn").run Tryz.prog w = .ok (290, .agg #[u, v]) w := by
 obtain ⟨n, hn⟩ := fuel
 rw [hn]
 refine (bD (n := n + 1) Tryz.underlying154 rfl rfl (fun _ => by kernel_rfl) (by kernel_rfl) rfl).trans ?_
 exact aZ (n := n) false (by kernel_rfl) (bT Tryz.underlying145 (zW h0 (by simpa [Addr.add] using h1)))
theorem aHd (w : World) (v1 : Value) (a : Option Addr) (n c : Nat) : Calls Tryz.prog 293 #[.agg #[v1, .slice a n c]] w fun e w' => e = .returned (.int .i64 n) ∧ Fr (fun _ => False) w w' := by
 go_enter Tryz.func293, Tryz.ntmps293
 go_wp2
 go_ret
 exact ⟨rfl, (Fr.refl _ w).alloc _⟩
def kM (B p : Nat) (w : World) (fp : Nat → Prop) (σ : List Cell) : Prop := iH w p σ fp ∧ (∀ k, fp k → B ≤ k) ∧ ∀ c ∈ σ, c.small
theorem kM.after {B p : Nat} {w w' : World} {fp : Nat → Prop} {σ τ : List Cell} (h : kM B p w fp σ) (hc : ∃ fp', iH w' p τ fp' ∧ Grow w fp fp') (hsm : ∀ c ∈ τ, c.small) : ∃ fp', kM B p w' fp' τ ∧ Grow w fp fp' := by
 obtain ⟨fp', hcol, hg⟩ := hc
 have hp := h.2.1 p h.1.shape
 have := h.1.lt p h.1.shape
 exact ⟨fp', ⟨hcol, fun k hk => (hg k hk).elim (h.2.1 k) (fun h => by omega), hsm⟩, hg⟩
theorem kS (B p : Nat) : bI Tryz.prog B 154 (.agg #[.iface 145 (.pointer (some ⟨p, 0, none⟩)), .func (.func 44) #[] #[], .func (.func 45) #[] #[]]) .str [] (kM B p) (kM B p) where
 lo := fun h k hk => ⟨h.2.1 k hk, h.1.lt k hk⟩
 lo' := fun h k hk => ⟨h.2.1 k hk, h.1.lt k hk⟩
 frame := fun h hk => ⟨h.1.aT hk, h.2⟩
 frame' := fun h hk => ⟨h.1.aT hk, h.2⟩
 append := by
  intro w fp σ c vs h hvs hw
  have hcs := hvs.small
  obtain ⟨ia, il, ic, ka, kl, kc, rfl, h0, h1, h2, h3, h4⟩ := hvs.open
  have hlen := lG (σ ++ [c])
  have hw' : wts (σ ++ [c]) ≤ 2147483648 := hw
  rw [iL, List.length_append, List.length_append, List.length_singleton] at hlen
  refine aI.of1 (aAe p w _ _ (.inl rfl)) Tryz.call299 ((vH w p σ fp h.1 c h4 (by omega) (by omega) c.r0 c.r1 c.r2 c.r3 c.null (.slice ia il ic) (.slice ka kl kc)).mono ?_)
  rintro e w' ⟨he, hcol, hfr⟩
  refine ⟨he, hfr, h.after hcol (fun d hd => ?_)⟩
  rcases List.mem_append.1 hd with hd | hd
  · exact h.2.2 d hd
  · rw [List.mem_singleton.1 hd]
    exact hcs
 appendArr := by
  intro w fp σ cs v xs h hs hcs hw
  have hlen := lG (σ ++ cs)
  have hw' : wts (σ ++ cs) ≤ 2147483648 := hw
  rw [iL, List.length_append, List.length_append] at hlen
  have hB : B ≤ w.heap.size := by
   have := h.2.1 p h.1.shape
   have := h.1.lt p h.1.shape
   omega
  refine aI.of1 (aAe p w _ _ (.inr rfl)) Tryz.call300 ((pF w B p hB σ fp h.1 cs v xs hs hcs (by omega) (by omega)).mono ?_)
  rintro e w' ⟨he, hcol, hfr⟩
  refine ⟨he, hfr, h.after hcol (fun d hd => ?_)⟩
  rcases List.mem_append.1 hd with hd | hd
  · exact h.2.2 d hd
  · exact aC.small hcs d hd
 rows := by
  intro w fp σ h
  obtain ⟨v1, v2, hp, h1, h2, _⟩ := h.1
  obtain ⟨a, c, rfl⟩ := ownsRow_shape h2
  exact aI.of0 (aDR p w _ _ (by rw [cell_of_row _ _ _ _ _ _ hp]; rfl) (by rw [cell_of_row _ _ _ _ _ _ hp]; rfl)) Tryz.call293 (aHd w v1 a _ c)
 flat := by rintro w name (rfl | rfl | rfl) n m <;> exact eQ Tryz.underlying154 rfl rfl (fun _ => by kernel_rfl) (by kernel_rfl) rfl (by kernel_rfl) n m
 ahead := fun w => by kernel_rfl
 prepare := ⟨false, fun x w => run_typeAssert_lacksB Tryz.underlying102 (by kernel_rfl) (by kernel_rfl) _ x w, fun h => by simpa using h⟩
 state := ⟨false, fun x w => run_typeAssert_lacksB Tryz.underlying172 (by kernel_rfl) (by kernel_rfl) _ x w, by simp⟩
 encode := by
  intro w fp σ b fb bs h hw hb hd hl
  obtain ⟨v1, v2, hp, h1, h2, n1, n2, n3, hfp⟩ := h.1
  have hlen := lG σ
  have hw' : wts σ ≤ 2147483648 := hw
  have hh := aEi w b fb bs hb v1 v2 σ h1 h2 (fun k hk => hd k ((hfp k).2 (.inr (.inl hk)))) (fun k hk => hd k ((hfp k).2 (.inr (.inr hk)))) (fun c hc => (h.2.2 c hc).2.2.2.2) (by omega) (by omega) (by rw [← qB]; exact hl)
  rw [qB]
  exact aI.of1 (aGM p w _ _ (by rw [cell_of_row _ _ _ _ _ _ hp]; rfl) (by rw [cell_of_row _ _ _ _ _ _ hp]; rfl)) Tryz.call290 hh
end Go.Proofs.YtcidlnjpabgioaaGreatDoor
namespace Go.Proofs.YtcidlnjpabgioaaGreatDoor
open Go.RowKit
theorem zG {P : Program} (w : World) (dT sT ty elem : TypeId) (g dLen dCap : Nat) (s : ByteArray) (cur : Array Value) (t : TypeId)
 (hu : P.underlying dT = some (.slice elem)) (hs : (P.info? elem).map (·.size) = some 1) (hg : w.heap[g]? = some (.cells cur t (0, 0))) (hfit : dLen ≤ cur.size) :
 ∃ v, (Builtin.copy_ #[dT, sT] ty #[.slice (some ⟨g, 0, none⟩) dLen dCap, .string s]).run P w = .ok v (w.setRow g ((aQ s.data.toList).take dLen ++ cur.toList.drop (min s.size dLen)).toArray) := by
 have hl : ((aQ s.data.toList).take dLen).length = min s.size dLen := by
  rw [List.length_take, bG, Array.length_toList, Nat.min_comm]
  rfl
 have hst := run_storeCells_at P g 0 t ((aQ s.data.toList).take dLen) 0 cur w hg (by rw [hl]; omega) (fun u hu => by
  obtain ⟨c, _, rfl⟩ := List.mem_map.1 (List.mem_of_mem_take hu)
  rfl)
 simp only [Nat.add_zero] at hst
 have htk : List.take (min s.size dLen) (List.map (fun b : UInt8 => Value.int IntKind.u8 (b.toNat : Int)) s.data.toList) = (aQ s.data.toList).take dLen := by
  rw [Nat.min_def]
  split
  · rename_i h
    show List.take s.size (aQ _) = _
    rw [List.take_of_length_le (by rw [bG, Array.length_toList]; exact Nat.le_refl _), List.take_of_length_le (by rw [bG, Array.length_toList]; exact h)]
  · rfl
 obtain ⟨i, hi, hsz⟩ := Option.map_eq_some_iff.1 hs
 refine ⟨goInt (Nat.min s.size dLen : Nat), ?_⟩
 simp only [Builtin.copy_, Builtin.lenOf, Builtin.firstCells, sizeOf, typeInfo]
 simp [run_underlying hu, hi]
 rw [show s.size.min dLen = min s.size dLen from rfl, htk, hst]
 simp [Result.andThen, hl]
theorem rE {P : Program} {w : World} {ops : Array Oper} {rest : List Oper} {o : Oper} {a : Act} {Q : Exit → Act → World → Prop} (hgd : o.guard = none) (d s : Operand) (dT sT : TypeId)
 (ho : o.op = .call { callee := .builtin .copy, args := #[d, s], argTypes := #[dT, sT] }) (elem : TypeId) (hu : P.underlying dT = some (.slice elem)) (hsz : (P.info? elem).map (·.size) = some 1)
 (g dLen dCap : Nat) (txt : ByteArray) (hd : a.eval d = .slice (some ⟨g, 0, none⟩) dLen dCap) (hs : a.eval s = .string txt)
 (cur : Array Value) (t : TypeId) (hg : w.heap[g]? = some (.cells cur t (0, 0))) (hfit : dLen ≤ cur.size)
 (h : ∀ v, wpList P ops Q rest (a.put o.dst v) (w.setRow g ((aQ txt.data.toList).take dLen ++ cur.toList.drop (min txt.size dLen)).toArray)) : wpList P ops Q (o :: rest) a w := by
 refine wpList_plain hgd fun K hK => ?_
 obtain ⟨v, hrun⟩ := zG (P := P) w dT sT o.type elem g dLen dCap txt cur t hu hsz hg hfit
 unfold Oper.wp
 simp [execOp, ho, resolve, invoke, builtin, hd, hs, hrun, Result.andThen]
 exact hK _ _ (h v)
theorem aIJ {w1 : World} {g n : Nat} (h : w1.ownsRow 0 5 1 (.slice (some ⟨g, 0, none⟩) n n) n (madeCells (Value.int .u8 0).cells (n * 1)).toList) :
 ∃ cur : Array Value, w1.heap[g]? = some (.cells cur 5 (0, 0)) ∧ cur.toList = List.replicate n (Value.int .u8 0) := by
 rcases h.2 with ⟨hv, _⟩ | ⟨g', cap, cur, hv, _, hg, hnc, hcm, hcs, htake⟩
 · cases hv
 · simp only [Value.slice.injEq, Option.some.injEq, Addr.mk.injEq] at hv
   obtain ⟨⟨rfl, _⟩, _, rfl⟩ := hv
   refine ⟨cur, hg, ?_⟩
   rw [List.take_of_length_le (by rw [Array.length_toList, hcs]; exact Nat.le_refl _)] at htake
   rw [htake]
   apply List.ext_getElem
   · simp [madeCells]
   · intro i h1 h2
     simp [madeCells, Value.cells, Nat.mod_one]
theorem aCR (w : World) (s : ByteArray) (n : Nat) (hn : n ≤ 1000) :
 Calls Tryz.prog 48 #[.string s, .int .i64 n] w fun e w' => ∃ tv, e = .returned tv ∧ w'.ownsRow 0 5 1 tv n (aQ (fitted n s)) ∧ (∀ q, tv.ownBlock = some q → w.heap.size ≤ q) ∧ Fr (fun _ => False) w w' := by
 obtain ⟨i, hi, hz, hsz, hby⟩ := gU.info
 go_enter Tryz.func48, Tryz.ntmps48
 go_wp2_with (first
  | ((with_reducible show wpList _ _ _ (⟨some 7, _, _, _, _, _⟩ :: _) _ _); refine wpList_make_full w rfl _ _ _ rfl 0 _ i _ 1 gU.ht hi hz hsz _ _ _ _ n rfl rfl rfl rfl (by rw [hby]; omega) (by unfold maxLen; omega) (Nat.zero_le _) ?_; intro w1 hown hg)
  | ((with_reducible show wpList _ _ _ (⟨some 10, _, _, _, _, _⟩ :: _) _ _); obtain ⟨cur, hrow, hcur⟩ := aIJ hown; refine rE rfl _ _ _ _ rfl _ gU.ht (by rw [hi]; simp [hsz]) _ _ _ s rfl rfl cur _ hrow (by rw [← Array.length_toList, hcur]; simp) ?_; intro v; generalize hR : ((aQ s.data.toList).take n ++ cur.toList.drop (min s.size n)).toArray = R))
 go_ret
 have hl : s.data.toList.length = s.size := Array.length_toList
 have hcells : (aQ s.data.toList).take n ++ cur.toList.drop (min s.size n) = aQ (fitted n s) := by
  have e0 : aQ (s.data.toList.take n) = (aQ s.data.toList).take n := by simp [aQ, List.map_take]
  have e1 : n - min s.size n = min (n - s.size) n := by omega
  rw [hcur, fitted, List.take_append, hl, bQ, e0, List.drop_replicate, List.take_replicate, aBt, e1]
 have hfl : (aQ (fitted n s)).length = n := by rw [bG, fitted]; simp
 rw [hcells] at hR
 subst hR
 have hw1 := Fr.iU hg
 refine ⟨_, rfl, ⟨by rw [hfl, Nat.mul_one], .inr ⟨w.heap.size, n, _, rfl, Nat.zero_le _, setRow_heap w1 _ cur _ _ _ hrow, Nat.le_refl _, by unfold maxLen; omega, ?_, ?_⟩⟩, ?_, ?_⟩
 · rw [List.size_toArray, hfl, Nat.mul_one]
 · rw [List.toList_toArray, List.take_of_length_le (by rw [hfl]; omega)]
 · intro q hq
   have hq' : (Value.slice (some ⟨w.heap.size, 0, none⟩) n n).ownBlock = some q := hq
   simp only [Value.ownBlock, Option.some.injEq] at hq'
   omega
 · refine ⟨hw1.os, hw1.tape, hw1.output, by have := hw1.size; simpa [World.setRow] using this, fun k hk _ => ?_⟩
   rw [setRow_other w1 _ k _ (by omega)]
   exact hw1.block k hk (by simp)
end Go.Proofs.YtcidlnjpabgioaaGreatDoor
namespace Go.Proofs.YtcidlnjpabgioaaGreatDoor
open Go.RowKit
theorem aKd : ElT Tryz.prog 176 22 (.slice none 0 0) 1 24 := ⟨Tryz.underlying176, info_parts (by kernel_rfl), rfl⟩
def fixes (m : Nat) (cs : List Cell) : List UInt8 := cs.flatMap fun c => fitted m c.s
theorem yY (m : Nat) (s : ByteArray) : (fitted m s).length = m := by simp [fitted]
theorem qF (m : Nat) (cs : List Cell) : (fixes m cs).length = m * cs.length := bH (fun c : Cell => fitted m c.s) m (fun c => yY m c.s) cs
theorem aAQ (m : Nat) (a b : List Cell) : fixes m (a ++ b) = fixes m a ++ fixes m b := by simp [fixes]
def iQ (w : World) (p m : Nat) (σ : List Cell) (fp : Nat → Prop) : Prop :=
 ∃ v, w.heap[p]? = some (.cells #[v, .int .i64 m] 159 (0, 0)) ∧ w.ownsRow 0 5 1 v (m * σ.length) (aQ (fixes m σ)) ∧ v.ownBlock ≠ some p ∧ ∀ k, fp k ↔ k = p ∨ v.ownBlock = some k
theorem iQ.aT {w w' : World} {p m : Nat} {σ : List Cell} {fp : Nat → Prop} (h : iQ w p m σ fp) (hk : ∀ k, fp k → w'.heap[k]? = w.heap[k]?) : iQ w' p m σ fp := by
 obtain ⟨v, hp, hown, hne, hfp⟩ := h
 refine ⟨v, (hk p ((hfp p).2 (.inl rfl))).trans hp, ⟨hown.1, ?_⟩, hne, hfp⟩
 rcases hown.2 with h0 | ⟨g, cap, cur, rfl, hb, hgg, rest⟩
 · exact .inl h0
 · exact .inr ⟨g, cap, cur, rfl, hb, (hk g ((hfp g).2 (.inr rfl))).trans hgg, rest⟩
theorem iQ.lt {w : World} {p m : Nat} {σ : List Cell} {fp : Nat → Prop} (h : iQ w p m σ fp) : ∀ k, fp k → k < w.heap.size := by
 obtain ⟨v, hp, hown, hne, hfp⟩ := h
 intro k hk
 rcases (hfp k).1 hk with rfl | hk
 · exact aH hp
 · exact aK hown hk
theorem iQ.shape {w : World} {p m : Nat} {σ : List Cell} {fp : Nat → Prop} (h : iQ w p m σ fp) : fp p := by
 obtain ⟨v, hp, hown, hne, hfp⟩ := h
 exact (hfp p).2 (.inl rfl)
def fU (w : World) (m lo : Nat) : List Value → List Cell → Prop
 | [], [] => True
 | v :: vs, c :: cs => (w.ownsRow 0 5 1 v m (aQ (fitted m c.s)) ∧ ∀ q, v.ownBlock = some q → lo ≤ q) ∧ fU w m lo vs cs
 | _, _ => False
theorem fU.map {w w' : World} {m lo lo' : Nat} (hr : ∀ v xs, w.ownsRow 0 5 1 v m xs → (∀ q, v.ownBlock = some q → lo ≤ q) → w'.ownsRow 0 5 1 v m xs ∧ ∀ q, v.ownBlock = some q → lo' ≤ q) : ∀ {vs : List Value} {cs : List Cell}, fU w m lo vs cs → fU w' m lo' vs cs
 | [], [], _ => trivial
 | v :: _, _ :: _, h => ⟨hr v _ h.1.1 h.1.2, fU.map hr h.2⟩
 | [], _ :: _, h => h.elim
 | _ :: _, [], h => h.elim
theorem fU.one {w : World} {m lo : Nat} {v : Value} {c : Cell} (h : w.ownsRow 0 5 1 v m (aQ (fitted m c.s))) (hl : ∀ q, v.ownBlock = some q → lo ≤ q) : ∀ {vs : List Value} {cs : List Cell}, fU w m lo vs cs → fU w m lo (vs ++ [v]) (cs ++ [c])
 | [], [], _ => ⟨⟨h, hl⟩, trivial⟩
 | _ :: _, _ :: _, k => ⟨k.1, fU.one h hl k.2⟩
 | [], _ :: _, k => k.elim
 | _ :: _, [], k => k.elim
theorem fU.at {w : World} {m lo : Nat} : ∀ {vs : List Value} {cs : List Cell}, fU w m lo vs cs → ∀ k (hk : k < cs.length), ∃ v, vs[k]? = some v ∧ w.ownsRow 0 5 1 v m (aQ (fitted m cs[k].s)) ∧ ∀ q, v.ownBlock = some q → lo ≤ q
 | [], [], _, k, hk => by simp at hk
 | v :: _, _ :: _, h, 0, _ => ⟨v, rfl, h.1.1, h.1.2⟩
 | _ :: _, _ :: _, h, k + 1, hk => by
  obtain ⟨v', h1, h2⟩ := fU.at h.2 k (by simpa using hk)
  exact ⟨v', by simpa using h1, by simpa using h2⟩
 | [], _ :: _, h, _, _ => h.elim
 | _ :: _, [], h, _, _ => h.elim
theorem aIl (w : World) (nb m : Nat) (r0 r1 r2 r3 : Nat) (s : ByteArray) (null : Bool) (iv kv : Value) (hm : m ≤ 1000) (hf : w.cell? ⟨nb, 0, none⟩ = some (.int .i64 m)) :
 Calls Tryz.prog 47 #[.agg #[.int .u64 r0, .int .u64 r1, .int .u64 r2, .int .u64 r3, .string s, .bool null, iv, kv], .pointer (some ⟨nb, 0, none⟩)] w fun e w' => ∃ tv, e = .returned tv ∧ w'.ownsRow 0 5 1 tv m (aQ (fitted m s)) ∧ (∀ q, tv.ownBlock = some q → w.heap.size ≤ q) ∧ Fr (fun _ => False) w w' := by
 have hf' : ∀ o, (w.alloc o).cell? ⟨nb, 0, none⟩ = some (.int .i64 m) := fun o => (World.cell?_alloc_lt w o _ (World.block_lt_of_cell? w _ hf)).trans hf
 go_enter Tryz.func47, Tryz.ntmps47
 go_wp2_with (go_at_call 48; refine (aCR _ s m hm).mono ?_; rintro e w1 ⟨tv, rfl, hown, hs, hfr⟩)
 go_ret
 exact ⟨_, rfl, hown, fun q hq => Nat.le_trans (by simp) (hs q hq), ((Fr.refl _ w).alloc _).trans hfr (fun _ _ h => h)⟩
theorem zZ {w0 w2 : World} {tv tv' v : Value} {k n m : Nat} {vals ys xs : List Value} (ha : dA w0 w2 22 1 tv tv' n ys) (hown : w0.ownsRow 0 22 1 tv k vals) (hv : w0.ownsRow 0 5 1 v m xs) : w2.ownsRow 0 5 1 v m xs := by
 refine (Fr.iU ha.2.1).owns hv (fun q hq e => ?_)
 rcases hown.2 with ⟨rfl, _⟩ | ⟨g, cap, cur, rfl, _, hg, _⟩
 · simp [Value.ownBlock] at e
 · simp only [Value.ownBlock, Option.some.injEq] at e
   subst e
   exact ownsRow_ne hv hg (by decide) hq
theorem xC (w : World) (p m : Nat) (σ : List Cell) (fp : Nat → Prop) (h : iQ w p m σ fp) (c : Cell) (tv : Value) (htv : w.ownsRow 0 5 1 tv m (aQ (fitted m c.s))) (hm : 1 ≤ m ∧ m ≤ 1000) (hn : σ.length < 2147483648) :
 Calls Tryz.prog 303 #[.pointer (some ⟨p, 0, none⟩), tv] w fun e w' => e = .returned (.tuple #[]) ∧ (∃ fp', iQ w' p m (σ ++ [c]) fp' ∧ Grow w fp fp') ∧ Fr fp w w' := by
 obtain ⟨v, hp, hown, hne, hfp⟩ := h
 obtain ⟨a0, c0, rfl⟩ := ownsRow_shape hown
 obtain ⟨a1, c1, rfl⟩ := ownsRow_shape htv
 have hpl := aH hp
 have d0 : w.cell? ⟨p, 0, none⟩ = some (.slice a0 (m * σ.length) c0) := by rw [cell_of_row _ _ _ _ _ _ hp]; rfl
 have d1 : w.cell? ⟨p, 1, none⟩ = some (.int .i64 m) := by rw [cell_of_row _ _ _ _ _ _ hp]; rfl
 have hml : m * σ.length ≤ 1000 * 2147483648 := Nat.mul_le_mul hm.2 (by omega)
 have hm0 : ¬ ((m : Int) = 0) := by omega
 have hsrc : Src Tryz.prog 1 22 (.slice a1 m c1) m (aQ (fitted m c.s)) w := Src.jH Tryz.underlying22 htv (fun u hu => by obtain ⟨x, _, rfl⟩ := List.mem_map.1 hu; rfl)
 generalize hM : m * σ.length = M at hp hown hne hfp d0 hml
 go_enter Tryz.func303, Tryz.ntmps303
 go_wp2_with ((with_reducible show wpList _ _ _ (⟨some 28, _, _, _, _, _⟩ :: _) _ _); refine aP _ rfl gU _ _ rfl _ _ _ rfl hown _ _ _ rfl hsrc ?_ ?_ ?_; (unfold maxLen; omega); omega; intro v' w1 ha; obtain ⟨a', c', rfl⟩ := ha.shape; obtain ⟨hcs, hfs⟩ := dU hp hne (Fr.refl _ w) ha; have d2 : w1.cell? ⟨p, 0, none⟩ = some (.slice a0 M c0) := hcs 0; have f2 := hfs 0; have hA := dQ (i := 0) hp hown hne (Fr.refl _ w) ha)
 obtain ⟨hp2, hown2, hne2, hblk2, hfr2⟩ := hA
 have hmul : m * (σ ++ [c]).length = M + m := by rw [List.length_append, List.length_singleton, Nat.mul_add, Nat.mul_one, hM]
 (try simp only [Exit.inBlock, Exit.then]); refine bodyPost_end (results_none rfl _ _ _) rfl ?_
 refine ⟨rfl, ⟨fun k => k = p ∨ (Value.slice a' (M + m) c').ownBlock = some k, ⟨_, hp2, ?_, hne2, fun k => Iff.rfl⟩, ?_⟩, hfr2.mono (fun k _ h => (hfp k).2 h)⟩
 · have e : fixes m [c] = fitted m c.s := by simp [fixes]
   rw [hmul, aAQ, bQ, e]
   exact hown2
 · rintro k (rfl | hk)
   · exact .inl ((hfp k).2 (.inl rfl))
   · rcases hblk2 with e | e
     · exact .inl ((hfp k).2 (.inr (by rw [← e, hk])))
     · rw [e] at hk
       simp only [Option.some.injEq] at hk
       exact .inr (by omega)
theorem zH (w : World) (p m : Nat) (σ : List Cell) (fp : Nat → Prop) (h : iQ w p m σ fp) (cs : List Cell) (tv : Value) (vals : List Value) (hown : w.ownsRow 0 22 1 tv cs.length vals) {lo : Nat} (hfit : fU w m lo vals cs) (hd : ∀ k, tv.ownBlock = some k → ¬ fp k) (hlo : ∀ k, fp k → ¬ lo ≤ k)
 (hm : 1 ≤ m ∧ m ≤ 1000) (hn : σ.length + cs.length ≤ 2147483648) :
 Calls Tryz.prog 304 #[.pointer (some ⟨p, 0, none⟩), tv] w fun e w' => e = .returned (.tuple #[]) ∧ (∃ fp', iQ w' p m (σ ++ cs) fp' ∧ Grow w fp fp') ∧ Fr fp w w' := by
 obtain ⟨a, c, rfl⟩ := ownsRow_shape hown
 have hcm : cs.length ≤ 9223372036854775807 := by omega
 go_enter Tryz.func304, Tryz.ntmps304
 go_wp2
 go_loopw [5, 8] (fun _ i wr => ∃ (k : Nat) (fpk : Nat → Prop), k ≤ cs.length ∧ i = .int .i64 k ∧ iQ wr p m (σ ++ cs.take k) fpk ∧ Grow w fp fpk ∧ Fr fp w wr) (fun _ i _ => cs.length - (intOf i).toNat)
 case atStart => exact ⟨0, fp, Nat.zero_le _, rfl, by simpa using h, fun k hk => .inl hk, Fr.refl _ _⟩
 case round =>
  obtain ⟨k, fpk, hk, rfl, hat, hg, hfr⟩ := hrel
  by_cases hlt : k < cs.length
  · have hownr := hfr.owns hown hd
    rcases hownr.2 with ⟨hv, _⟩ | ⟨ga, capa, cura, hv, _⟩
    · simp only [Value.slice.injEq] at hv; omega
    · simp only [Value.slice.injEq] at hv
      obtain ⟨rfl, _, rfl⟩ := hv
      obtain ⟨ev, he, hev, hel⟩ := hfit.at k hlt
      have hx := hownr.cells (g := ga) rfl k _ he
      have hevr := hfr.owns hev (fun q hq h => hlo q h (hel q hq))
      have hstep := List.take_succ_eq_append_getElem hlt
      generalize cs[k] = cc at hev hevr hstep
      rw [Addr.add_lit, Nat.zero_add] at hx
      obtain ⟨ea, ec, rfl⟩ := ownsRow_shape hev
      have happ := xC wr p m _ fpk hat cc _ hevr hm (by simp; omega)
      go_wp2_with (go_at_call 303; refine happ.mono ?_; rintro e w1 ⟨rfl, ⟨fp', hat', hg'⟩, hfr'⟩)
      go_roundw
      case rel =>
       refine ⟨k + 1, fp', by omega, by go_num, ?_, ?_, ?_⟩
       · rw [hstep, ← List.append_assoc]; exact hat'
       · exact fun q hq => (hg' q hq).elim (hg q) (fun h => .inr (Nat.le_trans hfr.size h))
       · exact hfr.trans hfr' (fun q hq h => (hg q h).resolve_right (by omega))
      case measure => simp [intOf]; omega
  · have hke : k = cs.length := by omega
    subst hke
    rw [List.take_length] at hat
    go_wp2
    go_end0
    exact ⟨rfl, ⟨fpk, hat, hg⟩, hfr⟩
theorem aAL (a : Addr) (w : World) : (method (Tryz.prog.types.size + Made.depth) 157 (.pointer (some a)) "Append").run Tryz.prog w = .ok (303, .pointer (some a)) w := by kernel_rfl
theorem uN (a : Addr) (w : World) : (method (Tryz.prog.types.size + Made.depth) 157 (.pointer (some a)) "AppendArr").run Tryz.prog w = .ok (304, .pointer (some a)) w := by kernel_rfl
theorem vW (w : World) (p nb m : Nat) (σ : List Cell) (fp : Nat → Prop) (hc : iQ w p m σ fp) (c : Cell) (hm : 1 ≤ m ∧ m ≤ 1000) (hn : σ.length < 2147483648) (hf : w.cell? ⟨nb, 0, none⟩ = some (.int .i64 m))
 (r0 r1 r2 r3 : Nat) (null : Bool) (iv kv : Value) :
 Calls Tryz.prog 312 #[.agg #[.iface 157 (.pointer (some ⟨p, 0, none⟩)), .func (.func 47) #[] #[.pointer (some ⟨nb, 0, none⟩)], .func (.func 49) #[] #[]], .agg #[.int .u64 r0, .int .u64 r1, .int .u64 r2, .int .u64 r3, .string c.s, .bool null, iv, kv]] w fun e w' =>
  e = .returned (.tuple #[]) ∧ (∃ fp', iQ w' p m (σ ++ [c]) fp' ∧ Grow w fp fp') ∧ Fr fp w w' := by
 go_enter Tryz.func312, Tryz.ntmps312
 go_wp2_with fail
 generalize hW : (w.alloc _).alloc _ = W
 have hfrW : Fr (fun _ => False) w W := by subst hW; exact ((Fr.refl _ w).alloc _).alloc _
 have d0 : W.cell? ⟨w.heap.size, 0, none⟩ = some (.iface 157 (.pointer (some ⟨p, 0, none⟩))) := by subst hW; rw [World.cell?_alloc_lt _ _ _ (by simp), aB rfl]; rfl
 have d1 : W.cell? ⟨w.heap.size, 1, none⟩ = some (.func (.func 47) #[] #[.pointer (some ⟨nb, 0, none⟩)]) := by subst hW; rw [World.cell?_alloc_lt _ _ _ (by simp), aB rfl]; rfl
 have e0 : W.cell? ⟨w.heap.size + 1, 0, none⟩ = some (.int .u64 r0) := by subst hW; rw [aB (by simp)]; rfl
 have e1 : W.cell? ⟨w.heap.size + 1, 1, none⟩ = some (.int .u64 r1) := by subst hW; rw [aB (by simp)]; rfl
 have e2 : W.cell? ⟨w.heap.size + 1, 2, none⟩ = some (.int .u64 r2) := by subst hW; rw [aB (by simp)]; rfl
 have e3 : W.cell? ⟨w.heap.size + 1, 3, none⟩ = some (.int .u64 r3) := by subst hW; rw [aB (by simp)]; rfl
 have e4 : W.cell? ⟨w.heap.size + 1, 4, none⟩ = some (.string c.s) := by subst hW; rw [aB (by simp)]; rfl
 have e5 : W.cell? ⟨w.heap.size + 1, 5, none⟩ = some (.bool null) := by subst hW; rw [aB (by simp)]; rfl
 have e6 : W.cell? ⟨w.heap.size + 1, 6, none⟩ = some iv := by subst hW; rw [aB (by simp)]; rfl
 have e7 : W.cell? ⟨w.heap.size + 1, 7, none⟩ = some kv := by subst hW; rw [aB (by simp)]; rfl
 have hcW : iQ W p m σ fp := hc.aT fun k hk => hfrW.block k (hc.lt k hk) (fun h => h)
 have hfW : W.cell? ⟨nb, 0, none⟩ = some (.int .i64 m) := hfrW.aA hf (fun h => h)
 have hN : ¬ fp w.heap.size := fun h => by have := hc.lt _ h; omega
 have hN1 : ¬ fp (w.heap.size + 1) := fun h => by have := hc.lt _ h; omega
 clear hW
 go_region_held3 (fun w' => w'.cell? ⟨w.heap.size, 0, none⟩ = some (.iface 157 (.pointer (some ⟨p, 0, none⟩))) ∧ w'.cell? ⟨w.heap.size, 1, none⟩ = some (.func (.func 47) #[] #[.pointer (some ⟨nb, 0, none⟩)]) ∧
  w'.cell? ⟨w.heap.size + 1, 0, none⟩ = some (.int .u64 r0) ∧ w'.cell? ⟨w.heap.size + 1, 1, none⟩ = some (.int .u64 r1) ∧ w'.cell? ⟨w.heap.size + 1, 2, none⟩ = some (.int .u64 r2) ∧ w'.cell? ⟨w.heap.size + 1, 3, none⟩ = some (.int .u64 r3) ∧
  w'.cell? ⟨w.heap.size + 1, 4, none⟩ = some (.string c.s) ∧ w'.cell? ⟨w.heap.size + 1, 5, none⟩ = some (.bool null) ∧ w'.cell? ⟨w.heap.size + 1, 6, none⟩ = some iv ∧ w'.cell? ⟨w.heap.size + 1, 7, none⟩ = some kv)
  (first
   | exact ⟨d0, d1, e0, e1, e2, e3, e4, e5, e6, e7⟩
   | exact ⟨hf2.aA d0 hN, hf2.aA d1 hN, hf2.aA e0 hN1, hf2.aA e1 hN1, hf2.aA e2 hN1, hf2.aA e3 hN1, hf2.aA e4 hN1, hf2.aA e5 hN1, hf2.aA e6 hN1, hf2.aA e7 hN1⟩
   | exact ⟨hf1.aA d0 (fun h => h), hf1.aA d1 (fun h => h), hf1.aA e0 (fun h => h), hf1.aA e1 (fun h => h), hf1.aA e2 (fun h => h), hf1.aA e3 (fun h => h), hf1.aA e4 (fun h => h), hf1.aA e5 (fun h => h), hf1.aA e6 (fun h => h), hf1.aA e7 (fun h => h)⟩
   | assumption)
  (first
   | (refine aS _ rfl ?_; refine fK _ _ _ _ rfl _ _ rfl (dC.func1 Tryz.call47 (aIl _ nb m r0 r1 r2 r3 c.s null iv kv hm.2 hfW)) rfl ?_; rintro e w1 ⟨tv, rfl, hown, hsince, hf1⟩; refine ⟨_, rfl, ?_⟩)
   | (refine aS _ rfl ?_; refine bU _ _ _ _ _ rfl _ _ rfl (aI.of1 (aAL _ _) Tryz.call303 (xC _ p m σ fp (hcW.aT fun k hk => hf1.block k (hcW.lt k hk) (fun h => h)) c tv hown hm hn)) rfl ?_; rintro e w2 ⟨rfl, hcol, hf2'⟩; have hf2 : Fr fp W w2 := (hf1.aG.mono (fun _ _ h => h.elim)).trans hf2' (fun _ _ h => h); refine ⟨_, rfl, ?_⟩))
 all_goals
  go_end0
  refine ⟨rfl, ?_, (hfrW.mono (fun _ _ h => h.elim)).trans hf2 (fun _ _ h => h)⟩
  obtain ⟨fp', h1, h2⟩ := hcol
  exact ⟨fp', h1, fun k hk => (h2 k hk).imp id (fun h => Nat.le_trans (Nat.le_trans hfrW.size hf1.size) h)⟩
theorem aDD (w : World) (B nb m : Nat) (hBw : B ≤ w.heap.size) (hm : m ≤ 1000) (hf : w.cell? ⟨nb, 0, none⟩ = some (.int .i64 m)) (cs : List Cell) (v : Value) (xs : List Value) (hs : Sl B w 8 v cs.length xs) (hc : aC B w cs xs) (hn : cs.length ≤ 2147483648) :
 Calls Tryz.prog 315 #[v, .func (.func 47) #[] #[.pointer (some ⟨nb, 0, none⟩)]] w fun e w' => ∃ tv, e = .returned tv ∧ (∃ vals, w'.ownsRow 0 22 1 tv cs.length vals ∧ fU w' m w.heap.size vals cs) ∧ (∀ q, tv.ownBlock = some q → w.heap.size ≤ q) ∧ Fr (fun _ => False) w w' := by
 have hs' := hs
 obtain ⟨hxl, ao, cap, rfl, hnc, hcm, h0, ha⟩ := hs
 unfold maxLen at hcm
 clear ha h0 hxl
 go_enter Tryz.func315, Tryz.ntmps315
 go_wp2
 go_loopw [5, 10] (fun tv i wr => ∃ (k : Nat) (vals : List Value), k ≤ cs.length ∧ i = .int .i64 k ∧ wr.ownsRow 0 22 1 tv k vals ∧ fU wr m w.heap.size vals (cs.take k) ∧ (∀ q, tv.ownBlock = some q → w.heap.size ≤ q) ∧ Fr (fun _ => False) w wr) (fun _ i _ => cs.length - (intOf i).toNat)
 case atStart => exact ⟨0, [], Nat.zero_le _, rfl, World.ownsRow_nil _ _ _ _, trivial, by simp [Value.ownBlock], Fr.refl _ _⟩
 case round =>
  obtain ⟨k, vals, hk, rfl, hown, hfit, hsince, hfr⟩ := hrel
  have hbr : Below B w wr := hfr.below hBw (fun _ _ h => h)
  obtain ⟨a0, c0, rfl⟩ := ownsRow_shape hown
  by_cases hlt : k < cs.length
  · obtain ⟨b, off, cap', hv, hbB, vs, hvs, hcell⟩ := (hs'.below hbr).row (aC.below hbr _ _ hc) hlt
    have hstep := Lib.hid (List.take_succ_eq_append_getElem hlt)
    generalize cs[k] = c at hvs hstep
    obtain ⟨ia, il, ic, ka, kl, kc, rfl, h0, h1, h2, h3, h4⟩ := hvs.open
    simp only [Value.slice.injEq] at hv
    obtain ⟨rfl, _, rfl⟩ := hv
    have d0 := hcell 0 _ rfl
    have d1 := hcell 1 _ rfl
    have d2 := hcell 2 _ rfl
    have d3 := hcell 3 _ rfl
    have d4 := hcell 4 _ rfl
    have d5 := hcell 5 _ rfl
    have d6 := hcell 6 _ rfl
    have d7 := hcell 7 _ rfl
    simp only [Nat.add_zero] at d0
    have hfa : Fr (fun _ => False) w (wr.alloc (.cells #[.int .u64 c.r0, .int .u64 c.r1, .int .u64 c.r2, .int .u64 c.r3, .string c.s, .bool c.null, .slice ia il ic, .slice ka kl kc] 35)) := hfr.alloc _
    have hin := aIl _ nb m c.r0 c.r1 c.r2 c.r3 c.s c.null (.slice ia il ic) (.slice ka kl kc) hm (hfa.aA hf (fun h => h))
    clear hcell hvs hs' hc
    go_wp2_with (first | ((with_reducible show wpList _ _ _ (⟨some 17, _, _, _, _, _⟩ :: _) _ _); refine dE _ rfl _ _ _ rfl _ _ rfl (dC.func1 Tryz.call47 hin) rfl ?_; rintro e w1 ⟨ev, rfl, hev, hes, hf1⟩; obtain ⟨ea, ec, rfl⟩ := ownsRow_shape hev; refine ⟨_, rfl, ?_⟩; have hfw1 : Fr (fun _ => False) w w1 := hfa.trans hf1 (fun _ _ h => h); have hown1 := hf1.owns ((Fr.refl (fun _ => False) wr).alloc _ |>.owns hown (fun _ _ h => h)) (fun _ _ h => h)) | ((with_reducible show wpList _ _ _ (⟨some 19, _, _, _, _, _⟩ :: _) _ _); refine aP _ rfl aKd _ _ rfl _ _ _ rfl (hown1.alloc _) _ _ _ rfl (Src.ofSlice _ Tryz.underlying176 _ _ _ _ rfl (aW _ [.slice ea m ec] _) (by simp [Value.oneCell'])) ?_ ?_ ?_; (unfold maxLen; omega); omega; intro v' w2 ha; obtain ⟨a', c', rfl⟩ := ha.shape))
    go_roundw
    case rel => 
     refine ⟨k + 1, _, by omega, by go_num, ha.1, ?_, (ha.since (hfw1.alloc _) hsince).1, (ha.since (hfw1.alloc _) hsince).2⟩
     rw [hstep.out]
     exact fU.one (zZ ha (hown1.alloc _) (hev.alloc _)) (fun q hq => Nat.le_trans (by have := hfr.size; simp; omega) (hes q hq)) (hfit.map fun v xs hv hl => ⟨zZ ha (hown1.alloc _) ((hf1.owns ((Fr.refl (fun _ => False) wr).alloc _ |>.owns hv (fun _ _ h => h)) (fun _ _ h => h)).alloc _), hl⟩)
    case measure => simp [intOf]; omega
  · have hke : k = cs.length := by omega
    subst hke
    rw [List.take_length] at hfit
    go_wp2
    go_ret
    exact ⟨_, rfl, ⟨_, hown, hfit⟩, hsince, hfr⟩
theorem pI (w : World) (B p nb m : Nat) (hBw : B ≤ w.heap.size) (σ : List Cell) (fp : Nat → Prop) (hc : iQ w p m σ fp) (hm : 1 ≤ m ∧ m ≤ 1000) (hf : w.cell? ⟨nb, 0, none⟩ = some (.int .i64 m))
 (cs : List Cell) (v : Value) (ys : List Value) (hs : Sl B w 8 v cs.length ys) (hcs : aC B w cs ys) (hn : σ.length + cs.length ≤ 2147483648) :
 Calls Tryz.prog 313 #[.agg #[.iface 157 (.pointer (some ⟨p, 0, none⟩)), .func (.func 47) #[] #[.pointer (some ⟨nb, 0, none⟩)], .func (.func 49) #[] #[]], v] w fun e w' =>
  e = .returned (.tuple #[]) ∧ (∃ fp', iQ w' p m (σ ++ cs) fp' ∧ Grow w fp fp') ∧ Fr fp w w' := by
 go_enter Tryz.func313, Tryz.ntmps313
 go_wp2_with fail
 generalize hW : w.alloc _ = W
 have hfrW : Fr (fun _ => False) w W := by subst hW; exact (Fr.refl _ w).alloc _
 have d0 : W.cell? ⟨w.heap.size, 0, none⟩ = some (.iface 157 (.pointer (some ⟨p, 0, none⟩))) := by subst hW; rw [aB rfl]; rfl
 have d1 : W.cell? ⟨w.heap.size, 1, none⟩ = some (.func (.func 47) #[] #[.pointer (some ⟨nb, 0, none⟩)]) := by subst hW; rw [aB rfl]; rfl
 have hcW : iQ W p m σ fp := hc.aT fun k hk => hfrW.block k (hc.lt k hk) (fun h => h)
 have hfW : W.cell? ⟨nb, 0, none⟩ = some (.int .i64 m) := hfrW.aA hf (fun h => h)
 have hN : ¬ fp w.heap.size := fun h => by have := hc.lt _ h; omega
 have hsW := hs.fr hBw hfrW
 have hcsW := aC.below (hfrW.below hBw (fun _ _ h => h)) _ _ hcs
 have hBW : B ≤ W.heap.size := Nat.le_trans hBw hfrW.size
 have hsD := hsW.fr hBW (Fr.refl (fun _ => False) W).drew
 have hcsD := aC.below ((Below.refl B W).drew) _ _ hcsW
 clear hW hs hcs
 go_region_held3 (fun w' => w'.cell? ⟨w.heap.size, 0, none⟩ = some (.iface 157 (.pointer (some ⟨p, 0, none⟩))) ∧ w'.cell? ⟨w.heap.size, 1, none⟩ = some (.func (.func 47) #[] #[.pointer (some ⟨nb, 0, none⟩)]))
  (first
   | exact ⟨d0, d1⟩
   | exact ⟨hf2.aA d0 hN, hf2.aA d1 hN⟩
   | exact ⟨hf1.aA d0 (fun h => h), hf1.aA d1 (fun h => h)⟩
   | assumption)
  (first
   | (go_at_call 315; refine (aDD W.drew B nb m hBW hm.2 hfW cs v ys hsD hcsD (by omega)).mono ?_; rintro e w1 ⟨tv, rfl, ⟨vals, hown, hfit⟩, hsince, hf1⟩)
   | (refine aS _ rfl ?_; refine bU _ _ _ _ _ rfl _ _ rfl (aI.of1 (uN _ _) Tryz.call304 (zH _ p m σ fp (hcW.aT fun k hk => hf1.block k (hcW.lt k hk) (fun h => h)) cs tv vals hown hfit (fun k hk h => Nat.lt_irrefl _ (Nat.lt_of_lt_of_le (hcW.lt k h) (hsince k hk))) (fun k hk h => Nat.lt_irrefl _ (Nat.lt_of_lt_of_le (hcW.lt k hk) h)) hm hn)) rfl ?_; rintro e w2 ⟨rfl, hcol, hf2'⟩; have hf2 : Fr fp W w2 := (hf1.aG.mono (fun _ _ h => h.elim)).trans hf2' (fun _ _ h => h); refine ⟨_, rfl, ?_⟩))
 all_goals
  go_end0
  refine ⟨rfl, ?_, (hfrW.mono (fun _ _ h => h.elim)).trans hf2 (fun _ _ h => h)⟩
  obtain ⟨fp', h1, h2⟩ := hcol
  exact ⟨fp', h1, fun k hk => (h2 k hk).imp id (fun h => Nat.le_trans (Nat.le_trans hfrW.size hf1.size) h)⟩
end Go.Proofs.YtcidlnjpabgioaaGreatDoor
namespace Go.Proofs.YtcidlnjpabgioaaGreatDoor
open Go.RowKit
theorem aBz {w : World} {a : Addr} {u v : Value} (h0 : w.cell? a = some u) (h1 : w.cell? (a.add 1) = some v) : (loadVar 159 a).run Tryz.prog w = .ok (.agg #[u, v]) w := by
 have h : (Tryz.prog.info? 159).map (·.size) = some 2 := by kernel_rfl
 obtain ⟨i, hi, hs⟩ := Option.map_eq_some_iff.1 h
 exact pM Tryz.underlying159 hi hs h0 h1
theorem ownsRow_le {w : World} {base : Nat} {e : TypeId} {size : Nat} {v : Value} {n : Nat} {xs : List Value} (h : w.ownsRow base e size v n xs) : n ≤ maxLen := by
 rcases h.2 with ⟨_, rfl⟩ | ⟨g, cap, cur, rfl, _, _, hnc, hcm, _⟩
 · exact Nat.zero_le _
 · omega
theorem aHX (w : World) (a : Option Addr) (c m k : Nat) (hm : 1 ≤ m ∧ m ≤ 1000) (hk : m * k ≤ maxLen) : Calls Tryz.prog 309 #[.agg #[.slice a (m * k) c, .int .i64 m]] w fun e w' => e = .returned (.int .i64 k) ∧ Fr (fun _ => False) w w' := by
 have hm0 : ¬ ((m : Int) = 0) := by omega
 have hm1 : ¬ ((m : Int) = -1) := by omega
 have hq : wrap64 (((m * k : Nat) : Int) / (m : Int)) = k := by
  have e : ((m * k : Nat) : Int) / (m : Int) = k := by rw [Int.natCast_mul]; exact Int.mul_ediv_cancel_left _ hm0
  have hkk : k ≤ m * k := Nat.le_mul_of_pos_left k (by omega)
  unfold maxLen at hk
  rw [e]
  unfold wrap64
  omega
 unfold maxLen at hk
 generalize hM : m * k = M at hk hq
 go_enter Tryz.func309, Tryz.ntmps309
 go_wp2
 go_ret
 exact ⟨by rw [← hq]; rfl, (Fr.refl _ w).alloc _⟩
theorem aDu (w : World) (b : Nat) (fb : Nat → Prop) (bs : List UInt8) (hb : Buf w b fb bs) (v : Value) (m : Nat) (cs : List Cell) (hown : w.ownsRow 0 5 1 v (m * cs.length) (aQ (fixes m cs))) (hl : bs.length + (fixes m cs).length ≤ 1099511627776) :
 Calls Tryz.prog 306 #[.agg #[v, .int .i64 m], .pointer (some ⟨b, 0, none⟩)] w fun e w' => e = .returned (.tuple #[]) ∧ Fr fb w w' ∧ ∃ fb', Buf w' b fb' (bs ++ fixes m cs) ∧ Grow w fb fb' := by
 obtain ⟨a1, c1, rfl⟩ := ownsRow_shape hown
 rw [qF] at hl
 go_enter Tryz.func306, Tryz.ntmps306
 go_wp2_with fail
 generalize hM : m * cs.length = M at hown hl
 generalize hW : w.alloc _ = W
 have hfW : Fr (fun _ => False) w W := by subst hW; exact (Fr.refl _ w).alloc _
 have q0 : W.cell? ⟨w.heap.size, 0, none⟩ = some (.slice a1 M c1) := by subst hW; rw [aB rfl]; rfl
 have hbW : Buf W b fb bs := aF.aT hb fun k hk => hfW.block k (aF.lt hb k hk) (fun h => h)
 have hownW := hfW.owns hown (fun _ _ h => h)
 clear hW
 obtain ⟨vb, hp, hob, hne, hfp⟩ := hbW
 obtain ⟨hcell, hfz⟩ := aF.cell hp
 obtain ⟨a0, c0, rfl⟩ := ownsRow_shape hob
 have hpl := aH hp
 have hsrc : Src Tryz.prog 1 22 (.slice a1 M c1) M (aQ (fixes m cs)) W.drew := Src.jH (w := W.drew) Tryz.underlying22 hownW (fun u hu => by obtain ⟨x, _, rfl⟩ := List.mem_map.1 hu; rfl)
 go_region_law (refine aS _ rfl ?_; refine dB _ gU _ _ rfl _ _ _ rfl hob _ _ _ rfl hsrc ?_ ?_ ?_; (unfold maxLen; omega); omega; intro v' w2 ha; obtain ⟨a', c', rfl⟩ := ha.shape; have hc2 : w2.cell? ⟨b, 0, none⟩ = some (.slice a0 bs.length c0) := ha.2.1.cell hcell (fun h => hne h.symm); have hf2 : w2.frozen? ⟨b, 0, none⟩ = false := (World.frozen?_of_block (ha.2.1.block b hpl (fun h => hne h.symm))).trans hfz)
 all_goals
  obtain ⟨⟨fb', hcol, hg⟩, hfr⟩ := aF.appended hp hob hne hfp ((Fr.refl _ W).drew) ha
  go_end0
  have hlen : (bs ++ fixes m cs).length = bs.length + M := by rw [List.length_append, qF, hM]
  exact ⟨rfl, (hfW.mono (fun _ _ h => h.elim)).trans hfr (fun _ _ h => h), fb', Buf.col.2 (by rw [hlen, bQ]; exact hcol), fun k hk => (hg k hk).imp id (fun h => Nat.le_trans hfW.size h)⟩
def aEx (B p nb m : Nat) (w : World) (fp : Nat → Prop) (σ : List Cell) : Prop :=
 ∃ fp0, iQ w p m σ fp0 ∧ w.cell? ⟨nb, 0, none⟩ = some (.int .i64 m) ∧ (∀ k, fp k ↔ fp0 k ∨ k = nb) ∧ (∀ k, fp k → B ≤ k) ∧ (¬ fp0 nb) ∧ ∀ c ∈ σ, c.small
theorem aAr (p nb : Nat) (w : World) (name : String) (f : FuncId) (h : (name, f) = ("Append", 312) ∨ (name, f) = ("AppendArr", 313)) : (method (Tryz.prog.types.size + Made.depth) 166 (.agg #[.iface 157 (.pointer (some ⟨p, 0, none⟩)), .func (.func 47) #[] #[.pointer (some ⟨nb, 0, none⟩)], .func (.func 49) #[] #[]]) name).run Tryz.prog w = .ok (f, .agg #[.iface 157 (.pointer (some ⟨p, 0, none⟩)), .func (.func 47) #[] #[.pointer (some ⟨nb, 0, none⟩)], .func (.func 49) #[] #[]]) w := by
 rcases h with h | h <;> (simp only [Prod.mk.injEq] at h; obtain ⟨rfl, rfl⟩ := h; kernel_rfl)
theorem aEa (p nb : Nat) (w : World) (u v : Value) (h0 : w.cell? ⟨p, 0, none⟩ = some u) (h1 : w.cell? ⟨p, 1, none⟩ = some v) : (method (Tryz.prog.types.size + Made.depth) 166 (.agg #[.iface 157 (.pointer (some ⟨p, 0, none⟩)), .func (.func 47) #[] #[.pointer (some ⟨nb, 0, none⟩)], .func (.func 49) #[] #[]]) "Rows").run Tryz.prog w = .ok (309, .agg #[u, v]) w := by
 obtain ⟨n, hn⟩ := fuel
 rw [hn]
 refine (bD (n := n + 1) Tryz.underlying166 rfl rfl (fun _ => by kernel_rfl) (by kernel_rfl) rfl).trans ?_
 exact aZ (n := n) false (by kernel_rfl) (bT Tryz.underlying157 (aBz h0 (by simpa [Addr.add] using h1)))
theorem aGG (p nb : Nat) (w : World) (u v : Value) (h0 : w.cell? ⟨p, 0, none⟩ = some u) (h1 : w.cell? ⟨p, 1, none⟩ = some v) : (method (Tryz.prog.types.size + Made.depth) 166 (.agg #[.iface 157 (.pointer (some ⟨p, 0, none⟩)), .func (.func 47) #[] #[.pointer (some ⟨nb, 0, none⟩)], .func (.func 49) #[] #[]]) "EncodeColumn").run Tryz.prog w = .ok (306, .agg #[u, v]) w := by
 obtain ⟨n, hn⟩ := fuel
 rw [hn]
 refine (bD (n := n + 1) Tryz.underlying166 rfl rfl (fun _ => by kernel_rfl) (by kernel_rfl) rfl).trans ?_
 exact aZ (n := n) false (by kernel_rfl) (bT Tryz.underlying157 (aBz h0 (by simpa [Addr.add] using h1)))
theorem aEx.nb {B p nb m : Nat} {w : World} {fp : Nat → Prop} {σ : List Cell} (h : aEx B p nb m w fp σ) : nb < w.heap.size ∧ B ≤ nb := by
 obtain ⟨fp0, hc, hnb, hfp, hB, hne, hsm⟩ := h
 exact ⟨World.block_lt_of_cell? w _ hnb, hB nb ((hfp nb).2 (.inr rfl))⟩
theorem aEx.after {B p nb m : Nat} {w w' : World} {fp fp0 : Nat → Prop} {σ τ : List Cell} (h : aEx B p nb m w fp σ) (hfp : ∀ k, fp k ↔ fp0 k ∨ k = nb) (hne : ¬ fp0 nb)
 (hc : ∃ fp', iQ w' p m τ fp' ∧ Grow w fp0 fp') (hfr : Fr fp0 w w') (hsm : ∀ c ∈ τ, c.small) :
 Fr fp w w' ∧ ∃ fp', aEx B p nb m w' fp' τ ∧ Grow w fp fp' := by
 obtain ⟨hlt, hBn⟩ := h.nb
 obtain ⟨_, _, hnb, _, hB, _, _⟩ := h
 obtain ⟨fp', hcol, hg⟩ := hc
 refine ⟨hfr.mono (fun k _ hk => (hfp k).2 (.inl hk)), fun k => fp' k ∨ k = nb, ⟨fp', hcol, hfr.aA hnb hne, fun k => Iff.rfl, ?_, ?_, hsm⟩, ?_⟩
 · rintro k (hk | rfl)
   · rcases hg k hk with hk | hk
     · exact hB k ((hfp k).2 (.inl hk))
     · omega
   · exact hBn
 · intro hk
   rcases hg nb hk with hk | hk
   · exact hne hk
   · omega
 · rintro k (hk | rfl)
   · exact (hg k hk).imp (fun hk => (hfp k).2 (.inl hk)) id
   · exact .inl ((hfp k).2 (.inr rfl))
theorem aJs (B p nb m : Nat) (hm : 1 ≤ m ∧ m ≤ 1000) : bI Tryz.prog B 166 (.agg #[.iface 157 (.pointer (some ⟨p, 0, none⟩)), .func (.func 47) #[] #[.pointer (some ⟨nb, 0, none⟩)], .func (.func 49) #[] #[]]) (.fix m) [] (aEx B p nb m) (aEx B p nb m) where
 lo := by
  intro w fp σ h k hk
  have hn := h.nb
  obtain ⟨fp0, hc, hnb, hfp, hB, hne, hsm⟩ := h
  refine ⟨hB k hk, ?_⟩
  rcases (hfp k).1 hk with hk | rfl
  · exact hc.lt k hk
  · exact hn.1
 lo' := by
  intro w fp σ h k hk
  have hn := h.nb
  obtain ⟨fp0, hc, hnb, hfp, hB, hne, hsm⟩ := h
  refine ⟨hB k hk, ?_⟩
  rcases (hfp k).1 hk with hk | rfl
  · exact hc.lt k hk
  · exact hn.1
 frame := by
  intro w w' fp σ h hk
  obtain ⟨fp0, hc, hnb, hfp, hB, hne, hsm⟩ := h
  exact ⟨fp0, hc.aT fun k h => hk k ((hfp k).2 (.inl h)), (World.cell?_of_block (hk nb ((hfp nb).2 (.inr rfl)))).trans hnb, hfp, hB, hne, hsm⟩
 frame' := by
  intro w w' fp σ h hk
  obtain ⟨fp0, hc, hnb, hfp, hB, hne, hsm⟩ := h
  exact ⟨fp0, hc.aT fun k h => hk k ((hfp k).2 (.inl h)), (World.cell?_of_block (hk nb ((hfp nb).2 (.inr rfl)))).trans hnb, hfp, hB, hne, hsm⟩
 append := by
  intro w fp σ c vs h hvs hw
  have h' := h
  obtain ⟨fp0, hc, hnb, hfp, hB, hne, hsm⟩ := h'
  have hcs := hvs.small
  obtain ⟨ia, il, ic, ka, kl, kc, rfl, h0, h1, h2, h3, h4⟩ := hvs.open
  have hlen := aN (σ ++ [c])
  have hw' : wts (σ ++ [c]) ≤ 2147483648 := hw
  rw [List.length_append, List.length_singleton] at hlen
  refine aI.of1 (aAr p nb w _ _ (.inl rfl)) Tryz.call312 ((vW w p nb m σ fp0 hc c hm (by omega) hnb c.r0 c.r1 c.r2 c.r3 c.null (.slice ia il ic) (.slice ka kl kc)).mono ?_)
  rintro e w' ⟨he, hcol, hfr⟩
  refine ⟨he, h.after hfp hne hcol hfr (fun d hd => ?_)⟩
  · rcases List.mem_append.1 hd with hd | hd
    · exact hsm d hd
    · rw [List.mem_singleton.1 hd]
      exact hcs
 appendArr := by
  intro w fp σ cs v xs h hs hcs hw
  have h' := h
  obtain ⟨fp0, hc, hnb, hfp, hB, hne, hsm⟩ := h'
  have hlen := aN (σ ++ cs)
  have hw' : wts (σ ++ cs) ≤ 2147483648 := hw
  have hn := h.nb
  rw [List.length_append] at hlen
  refine aI.of1 (aAr p nb w _ _ (.inr rfl)) Tryz.call313 ((pI w B p nb m (by omega) σ fp0 hc hm hnb cs v xs hs hcs (by omega)).mono ?_)
  rintro e w' ⟨he, hcol, hfr⟩
  refine ⟨he, h.after hfp hne hcol hfr (fun d hd => ?_)⟩
  · rcases List.mem_append.1 hd with hd | hd
    · exact hsm d hd
    · exact aC.small hcs d hd
 rows := by
  intro w fp σ h
  obtain ⟨fp0, ⟨v, hp, hown, _⟩, hnb, hfp, hB, hne, hsm⟩ := h
  obtain ⟨a, c, rfl⟩ := ownsRow_shape hown
  exact aI.of0 (aEa p nb w _ _ (by rw [cell_of_row _ _ _ _ _ _ hp]; rfl) (by rw [cell_of_row _ _ _ _ _ _ hp]; rfl)) Tryz.call309 (aHX w a c m _ hm (ownsRow_le hown))
 flat := by rintro w name (rfl | rfl | rfl) n m <;> exact eQ Tryz.underlying166 rfl rfl (fun _ => by kernel_rfl) (by kernel_rfl) rfl (by kernel_rfl) n m
 ahead := fun w => by kernel_rfl
 prepare := ⟨false, fun x w => run_typeAssert_lacksB Tryz.underlying102 (by kernel_rfl) (by kernel_rfl) _ x w, fun h => by simpa using h⟩
 state := ⟨false, fun x w => run_typeAssert_lacksB Tryz.underlying172 (by kernel_rfl) (by kernel_rfl) _ x w, by simp⟩
 encode := by
  intro w fp σ b fb bs h hw hb hd hl
  obtain ⟨fp0, ⟨v, hp, hown, hne', hfp0⟩, hnb, hfp, hB, hne, hsm⟩ := h
  have hw' : wts σ ≤ 2147483648 := hw
  have hlen := aN σ
  have he : enc (.fix m) σ = fixes m σ := by rw [enc]; rfl
  rw [he]
  exact aI.of1 (aGG p nb w _ _ (by rw [cell_of_row _ _ _ _ _ _ hp]; rfl) (by rw [cell_of_row _ _ _ _ _ _ hp]; rfl)) Tryz.call306 (aDu w b fb bs hb v m σ hown (by rw [he] at hl; exact hl))
end Go.Proofs.YtcidlnjpabgioaaGreatDoor
namespace Go.Proofs.YtcidlnjpabgioaaGreatDoor
open Go.RowKit
theorem bI.low {P : Program} {B B' : Nat} {t : TypeId} {u : Value} {T : Ty} {st : List UInt8} {R Rp : World → (Nat → Prop) → List Cell → Prop} (h : bI P B t u T st R Rp) (hB : B' ≤ B) : bI P B' t u T st R Rp where
 lo := fun hR k hk => ⟨Nat.le_trans hB (h.lo hR k hk).1, (h.lo hR k hk).2⟩
 lo' := fun hR k hk => ⟨Nat.le_trans hB (h.lo' hR k hk).1, (h.lo' hR k hk).2⟩
 frame := h.frame
 frame' := h.frame'
 append := fun hR hc => h.append hR (hc.mono hB)
 appendArr := fun hR hs hc => h.appendArr hR (hs.mono hB) (aC.mono hB _ _ hc)
 rows := h.rows
 flat := h.flat
 ahead := h.ahead
 prepare := h.prepare
 state := h.state
 encode := h.encode
theorem aGH (w : World) (nm : ByteArray) (hl : nm.toList = [83, 116, 114, 105, 110, 103]) : Calls Tryz.prog 36 #[.string nm, .slice none 0 0] w (bJ .str [] w) := by
 go_enter Tryz.func36, Tryz.ntmps36
 go_wp2
 go_ret
 refine ⟨_, _, _, _, fun k => k = w.heap.size, rfl, kS w.heap.size w.heap.size, ⟨⟨.slice none 0 0, .slice none 0 0, heap_alloc_new w _, World.ownsRow_nil _ _ _ _, World.ownsRow_nil _ _ _ _, by simp [Value.ownBlock], by simp [Value.ownBlock], by simp [Value.ownBlock], fun k => by simp [Value.ownBlock]⟩, fun k hk => by omega, by simp⟩, (Below.refl _ w).alloc (Nat.le_refl _) _⟩
theorem aCz : digits 5 = [53] := by rw [digits]; rfl
theorem aAk : digits 16 = [49, 54] := by rw [digits, dif_neg (by omega), digits]; rfl
theorem aCm {n : Nat} (h : n = 5 ∨ n = 16) : Lib.atoi (digits n) = some (n : Int) ∧ (digits n).length ≤ 18 := by
 rcases h with rfl | rfl
 · rw [aCz]; exact ⟨by decide, by decide⟩
 · rw [aAk]; exact ⟨by decide, by decide⟩
theorem aGL (n : Nat) (hn : n = 5 ∨ n = 16) (w : World) (nm : ByteArray) (hl : nm.toList = [70, 105, 120, 101, 100, 83, 116, 114, 105, 110, 103]) (lo : Nat) (v : Value) (hv : Strs w lo v [digits n]) :
 Calls Tryz.prog 36 #[.string nm, v] w (bJ (.fix n) [] w) := by
 obtain ⟨ha1, ha2⟩ := aCm hn
 have hat : ∀ w, Calls Tryz.prog 46 #[.string ⟨(digits n).toArray⟩] w fun e w' => e = .returned (.tuple #[.int .i64 n, .nilIface]) ∧ Fr (fun _ => False) w w' := fun w =>
  (Tryz.strconv_Atoi ⟨(digits n).toArray⟩ n (by show (digits n).toArray.size ≤ 18; simpa using ha2) (by simpa using ha1) w).mono fun e w' ⟨he, t, ht⟩ => ⟨he, by subst ht; exact Fr.bytes w _ t⟩
 obtain ⟨hown, -⟩ := hv
 rcases hown.2 with ⟨-, h0⟩ | ⟨g, cap, cur, rfl, _, hg, hnc, hcm, _⟩
 · simp at h0
 have hc := hown.cells (g := g) rfl 0 _ rfl
 simp only [Addr.add_lit, Nat.add_zero] at hc
 simp only [List.length_singleton] at hnc hcm
 unfold maxLen at hcm
 have hn1 : (1 : Int) ≤ (n : Int) ∧ (n : Int) ≤ 1000 := by omega
 clear hn ha1 ha2 hown
 go_enter Tryz.func36, Tryz.ntmps36
 go_wp2_with (go_at_call 46; refine (hat _).mono ?_; rintro e w1 ⟨rfl, hfr⟩)
 go_ret
 have hs := hfr.size
 refine ⟨_, _, _, _, fun k => k = w1.heap.size + 1 ∨ k = w1.heap.size, rfl, aJs w.heap.size (w1.heap.size + 1) w1.heap.size n (by omega), ⟨fun k => k = w1.heap.size + 1, ⟨.slice none 0 0, ?_, ?_, by simp [Value.ownBlock], fun k => by simp [Value.ownBlock]⟩, ?_, fun k => Iff.rfl, fun k hk => by omega, by omega, by simp⟩, ?_⟩
 · have h := heap_alloc_new (w1.alloc (.cells #[.int .i64 n] 3)) (.cells #[.slice none 0 0, .int .i64 n] 159)
   simpa using h
 · exact World.ownsRow_nil _ _ _ _
 · rw [World.cell?_alloc_lt _ _ _ (by simp), aB rfl]; rfl
 · exact ((hfr.below (Nat.le_refl _) (fun _ _ h => h)).alloc hs _).alloc (by simp; omega) _
end Go.Proofs.YtcidlnjpabgioaaGreatDoor
