import Derived.Test.YtcidlnjpabgioaaGreatDoorWGBase
import Derived.Lib.Hide
import Derived.Lib.Endian
import Derived.Lib.EndianBits
import Derived.Laws.IdiomCopy
import Derived.Stop.Asserts
set_option maxHeartbeats 4000000
set_option maxRecDepth 100000
namespace Go.Proofs.YtcidlnjpabgioaaGreatDoor
open Go.RowKit
def aF (w : World) (p : Nat) (tc e : TypeId) (size n : Nat) (xs : List Value) (fp : Nat → Prop) : Prop :=
 ∃ v, w.heap[p]? = some (.cells #[v] tc (0, 0)) ∧ w.ownsRow 0 e size v n xs ∧ v.ownBlock ≠ some p ∧ ∀ k, fp k ↔ k = p ∨ v.ownBlock = some k
theorem ownsRow_shape {w : World} {base : Nat} {e : TypeId} {size : Nat} {v : Value} {n : Nat} {xs : List Value} (h : w.ownsRow base e size v n xs) : ∃ a c, v = .slice a n c := by
 rcases h.2 with ⟨rfl, rfl⟩ | ⟨g, cap, cur, rfl, _⟩
 · exact ⟨_, _, rfl⟩
 · exact ⟨_, _, rfl⟩
theorem aK {w : World} {base : Nat} {e : TypeId} {size : Nat} {v : Value} {n : Nat} {xs : List Value} (h : w.ownsRow base e size v n xs) {k : Nat} (hk : v.ownBlock = some k) : k < w.heap.size := (h.lt k hk).2
theorem dA.shape {w w' : World} {e : TypeId} {size : Nat} {v v' : Value} {n : Nat} {xs : List Value} (h : dA w w' e size v v' n xs) : ∃ a c, v' = .slice a n c := ownsRow_shape h.1
theorem aH {w : World} {p : Nat} {o : Obj} (h : w.heap[p]? = some o) : p < w.heap.size := (Array.getElem?_eq_some_iff.1 h).1
theorem yZ {w : World} {p : Nat} {v : Value} {tc : TypeId} (h : w.heap[p]? = some (.cells #[v] tc (0, 0))) (u : Value) : (w.setCell ⟨p, 0, none⟩ u).heap[p]? = some (.cells #[u] tc (0, 0)) := by
 simp [World.setCell, Array.getElem?_modify, h]
theorem aF.appended {w w0 w1 : World} {p : Nat} {tc e : TypeId} {size n m : Nat} {xs ys : List Value} {fp : Nat → Prop} {v v' : Value}
 (hp : w.heap[p]? = some (.cells #[v] tc (0, 0))) (_hown : w.ownsRow 0 e size v n xs) (hne : v.ownBlock ≠ some p) (hfp : ∀ k, fp k ↔ k = p ∨ v.ownBlock = some k)
 (h0 : Fr (fun _ => False) w w0) (ha : dA w0 w1 e size v v' m ys) :
 (∃ fp', aF (w1.setCell ⟨p, 0, none⟩ v') p tc e size m ys fp' ∧ Grow w fp fp') ∧ Fr fp w (w1.setCell ⟨p, 0, none⟩ v') := by
 obtain ⟨h1, hg, h2⟩ := ha
 have hpl := aH hp
 have hs0 := h0.size
 have hp0 : w0.heap[p]? = some (.cells #[v] tc (0, 0)) := (h0.block p hpl (fun h => h)).trans hp
 have hp1 : w1.heap[p]? = some (.cells #[v] tc (0, 0)) := (hg.block p (by omega) (fun h => hne h.symm)).trans hp0
 have hne' : v'.ownBlock ≠ some p := by
  rcases h2 with h2 | h2 <;> rw [h2]
  · exact hne
  · simp; omega
 refine ⟨⟨fun k => k = p ∨ v'.ownBlock = some k, ⟨v', yZ hp1 v', ?_, hne', fun k => Iff.rfl⟩, ?_⟩, ?_⟩
 · exact ((Fr.refl (fun k => k = p) w1).setCell (.inl rfl) v').owns h1 (fun k hk e => hne' (by rw [hk, e]))
 · rintro k (rfl | hk)
   · exact .inl ((hfp k).2 (.inl rfl))
   · rcases h2 with h2 | h2
     · exact .inl ((hfp k).2 (.inr (by rw [← h2, hk])))
     · rw [h2] at hk
       simp only [Option.some.injEq] at hk
       exact .inr (by omega)
 · exact ((h0.mono (fun k _ h => h.elim)).grown hg (fun k hk => .inl ((hfp k).2 (.inr hk)))).setCell (.inl ((hfp p).2 (.inl rfl))) v'
theorem aF.cell {w : World} {p : Nat} {v : Value} {tc : TypeId} (hp : w.heap[p]? = some (.cells #[v] tc (0, 0))) : w.cell? ⟨p, 0, none⟩ = some v ∧ w.frozen? ⟨p, 0, none⟩ = false :=
 ⟨by rw [cell_of_row _ _ _ _ _ _ hp]; rfl, frozen_of_row _ _ _ _ _ hp⟩
theorem aF.aT {w w' : World} {p : Nat} {tc e : TypeId} {size n : Nat} {xs : List Value} {fp : Nat → Prop} (h : aF w p tc e size n xs fp) (hk : ∀ k, fp k → w'.heap[k]? = w.heap[k]?) : aF w' p tc e size n xs fp := by
 obtain ⟨v, hp, hown, hne, hfp⟩ := h
 refine ⟨v, (hk p ((hfp p).2 (.inl rfl))).trans hp, ⟨hown.1, ?_⟩, hne, hfp⟩
 rcases hown.2 with h0 | ⟨g, cap, cur, rfl, hb, hgg, rest⟩
 · exact .inl h0
 · exact .inr ⟨g, cap, cur, rfl, hb, (hk g ((hfp g).2 (.inr rfl))).trans hgg, rest⟩
theorem aF.lt {w : World} {p : Nat} {tc e : TypeId} {size n : Nat} {xs : List Value} {fp : Nat → Prop} (h : aF w p tc e size n xs fp) : ∀ k, fp k → k < w.heap.size := by
 obtain ⟨v, hp, hown, hne, hfp⟩ := h
 intro k hk
 rcases (hfp k).1 hk with rfl | hk
 · exact aH hp
 · exact aK hown hk
theorem aB {w : World} {c : Array Value} {t : TypeId} {n : Nat} (h : n = w.heap.size) (i : Nat) : (w.alloc (.cells c t)).cell? ⟨n, i, none⟩ = c[i]? := by
 subst h
 exact World.cell?_alloc_new w c t i
theorem aW (w : World) (xs : List Value) (t : TypeId) : ∀ j u, xs[j]? = some u → (w.alloc (.cells xs.toArray t)).cell? ((⟨w.heap.size, 0, none⟩ : Addr).add j) = some u := by
 intro j u hj
 rw [Addr.add_lit, Nat.zero_add, World.cell?_alloc_new]
 simpa using hj
section
variable {P : Program} {w : World}
theorem aDw {n : Nat} {t : TypeId} {i : TypeInfo} {m : Method} {v : Value} {name : String} {f : FuncId} {pr : Bool} (hi : P.info? t = some i) (hm : i.methods.find? (·.name == name) = some m) (hp : m.path = #[]) (hf : m.func = some (f, pr))
 {r : Value} (hr : (receiverAt t (.val v) pr (some ((name.splitOn ".").getLastD name))).run P w = .ok r w) : (method (n + 1) t v name).run P w = .ok (f, r) w := by
 have ht : (typeInfo t).run P w = .ok i w := by simp [typeInfo, hi]
 unfold method
 rw [Sem.run_bind, ht]
 simp only [Result.andThen_ok, hm, hp, List.toList_toArray, Sem.run_bind, follow, Sem.run_pure, hf, Array.isEmpty_empty, if_true, hr]
theorem aBa {n : Nat} {t : TypeId} {i : TypeInfo} {m : Method} {name : String} {s : TypeId} {fs : Array Field} {fd : Field} (hi : P.info? t = some i) (hm : i.methods.find? (·.name == name) = some m)
 (hp : m.path = #[{ struct := s, index := 0, deref := false }]) (hf : m.func = none) (hs : P.underlying s = some (.struct fs)) (hfd : fs[0]? = some fd) (hfo : fd.offset = 0) (hag : ∀ w, (isAgg fd.type).run P w = .ok false w)
 {cs : Array Value} {t' : TypeId} {v' : Value} (hc : cs[0]? = some (.iface t' v')) : (method (n + 1) t (.agg cs) name).run P w = (method n t' v' name).run P w := by
 conv => lhs; unfold method
 simp only [Sem.run_bind, typeInfo, run_program, Result.andThen_ok, hi, Sem.run_pure, hm, hp, follow, hf, run_underlying hs, hfd, part, hfo, hc, Place.get]
 simp [Sem.run_bind, hag]
theorem aAS {t : TypeId} {e : TypeId} {v : Value} {nm : Option String} (hu : P.underlying t = some (.pointer e)) : (receiverAt t (.val v) true nm).run P w = .ok v w := by
 simp [receiverAt, run_underlying hu, Place.get]
theorem bT {t : TypeId} {e : TypeId} {a : Addr} {r : Value} {nm : String} (hu : P.underlying t = some (.pointer e)) (hl : (loadVar e a).run P w = .ok r w) : (receiverAt t (.val (.pointer (some a))) false (some nm)).run P w = .ok r w := by
 have h0 : Builtin.ssaWrapNilChk_ #[t] t #[.pointer (some a), strVal "", strVal nm] = pure (.pointer (some a)) := rfl
 simp [receiverAt, run_underlying hu, Place.get, h0, asAddr, hl]
theorem dN {t : TypeId} {d : TypeDesc} {v : Value} {nm : Option String} (hu : P.underlying t = some d) (hd : (match d with | .pointer _ => false | _ => true) = true) : (receiverAt t (.val v) false nm).run P w = .ok v w := by
 unfold receiverAt
 simp only [Sem.run_bind, run_underlying hu, Result.andThen_ok]
 cases d <;> simp_all [Place.get]
end
theorem aI.of {P : Program} {t : TypeId} {v r : Value} {name : String} {args : Array Value} {w : World} {R : Ending → World → Prop} {k : FuncId}
 (hm : (method (P.types.size + Made.depth) t v name).run P w = .ok (k, r) w)
 (hk : ∀ (args : Array Value) (w : World), (callFunc k args).run P w = .ok (.enter k args) w) (h : Calls P k (#[r] ++ args) w R) : aI P (.iface t v) name args w R :=
 ⟨k, _, by simp only [callMethod, Sem.run_bind, run_program, Result.andThen_ok, hm, hk], h⟩
theorem aI.of1 {P : Program} {t : TypeId} {v r x : Value} {name : String} {w : World} {R : Ending → World → Prop} {k : FuncId}
 (hm : (method (P.types.size + Made.depth) t v name).run P w = .ok (k, r) w)
 (hk : ∀ (args : Array Value) (w : World), (callFunc k args).run P w = .ok (.enter k args) w) (h : Calls P k #[r, x] w R) : aI P (.iface t v) name #[x] w R :=
 aI.of hm hk (by simpa using h)
theorem aI.of0 {P : Program} {t : TypeId} {v r : Value} {name : String} {w : World} {R : Ending → World → Prop} {k : FuncId}
 (hm : (method (P.types.size + Made.depth) t v name).run P w = .ok (k, r) w)
 (hk : ∀ (args : Array Value) (w : World), (callFunc k args).run P w = .ok (.enter k args) w) (h : Calls P k #[r] w R) : aI P (.iface t v) name #[] w R :=
 aI.of hm hk (by simpa using h)
theorem dC.func1 {P : Program} {k : FuncId} {x c : Value} {w : World} {R : Ending → World → Prop} (hk : ∀ (args : Array Value) (w : World), (callFunc k args).run P w = .ok (.enter k args) w)
 (h : Calls P k #[x, c] w R) : dC P (.func (.func k) #[] #[c]) #[x] w R := dC.func hk (by simpa using h)
theorem dC.func0 {P : Program} {k : FuncId} {x : Value} {w : World} {R : Ending → World → Prop} (hk : ∀ (args : Array Value) (w : World), (callFunc k args).run P w = .ok (.enter k args) w)
 (h : Calls P k #[x] w R) : dC P (.func (.func k) #[] #[]) #[x] w R := dC.func hk (by simpa using h)
theorem bP.open {B : Nat} {w : World} : ∀ {c : Cell} {vs : List Value}, bP B w c vs → ∃ (ia : Option Addr) (il ic : Nat) (ka : Option Addr) (kl kc : Nat),
 vs = [.int .u64 c.r0, .int .u64 c.r1, .int .u64 c.r2, .int .u64 c.r3, .string c.s, .bool c.null, .slice ia il ic, .slice ka kl kc] ∧
  c.r0 < 18446744073709551616 ∧ c.r1 < 18446744073709551616 ∧ c.r2 < 18446744073709551616 ∧ c.r3 < 18446744073709551616 ∧ c.s.size ≤ 65536
 | .mk r0 r1 r2 r3 s null items keys, vs => by
  unfold bP
  rintro ⟨iv, kv, ixs, kxs, rfl, h0, h1, h2, h3, h4, ⟨_, ia, ic, rfl, _⟩, _, ⟨_, ka, kc, rfl, _⟩, _⟩
  exact ⟨_, _, _, _, _, _, rfl, h0, h1, h2, h3, h4⟩
theorem bP.small {B : Nat} {w : World} {c : Cell} {vs : List Value} (h : bP B w c vs) : c.small := by
 obtain ⟨_, _, _, _, _, _, _, h0, h1, h2, h3, h4⟩ := h.open
 exact ⟨h0, h1, h2, h3, h4⟩
theorem aC.small {B : Nat} {w : World} : ∀ {cs : List Cell} {xs : List Value}, aC B w cs xs → ∀ c ∈ cs, c.small
 | [], _, _, c, h => by simp at h
 | d :: cs, xs, hh, c, h => by
  unfold aC at hh
  obtain ⟨vs, rest, rfl, h1, h2⟩ := hh
  rcases List.mem_cons.1 h with rfl | h
  · exact h1.small
  · exact aC.small h2 c h
theorem bV {α β : Type} (f : α → List β) (l : List α) (k : Nat) (h : k < l.length) : (l.take (k + 1)).flatMap f = (l.take k).flatMap f ++ f l[k] := by
 rw [List.take_succ_eq_append_getElem h, List.flatMap_append]
 simp
theorem dA.since {w w0 w1 : World} {e : TypeId} {size : Nat} {v v' : Value} {n : Nat} {xs : List Value} (ha : dA w0 w1 e size v v' n xs) (h0 : Fr (fun _ => False) w w0) (hv : ∀ q, v.ownBlock = some q → w.heap.size ≤ q) :
 (∀ q, v'.ownBlock = some q → w.heap.size ≤ q) ∧ Fr (fun _ => False) w w1 := by
 refine ⟨fun q hq => ?_, h0.grown ha.2.1 (fun k hk => .inr (hv k hk))⟩
 rcases ha.2.2 with h | h
 · exact hv q (by rw [← h, hq])
 · rw [h] at hq
   simp only [Option.some.injEq] at hq
   have := h0.size
   omega
theorem Src.jH {P : Program} {w : World} {base : Nat} {e e' tx : TypeId} {size : Nat} {v : Value} {n : Nat} {xs : List Value} (hk : P.underlying tx = some (.slice e')) (h : w.ownsRow base e size v n xs) (h1 : ∀ u ∈ xs, u.oneCell' = true) : Src P size tx v n xs w := by
 rcases h.2 with ⟨rfl, rfl⟩ | ⟨g, cap, cur, rfl, hb, hg, hrest⟩
 · have hx : xs = [] := List.eq_nil_of_length_eq_zero (by simpa using h.1)
   subst hx
   exact Src.ofNil w hk 0
 · exact Src.ofSlice w hk _ _ _ _ h.1 (World.ownsRow.cells h (g := g) rfl) h1
theorem Sl.fr {B : Nat} {w w' : World} {size n : Nat} {v : Value} {xs : List Value} (h : Sl B w size v n xs) (hB : B ≤ w.heap.size) (hf : Fr (fun _ => False) w w') : Sl B w' size v n xs := h.below (hf.below hB (fun _ _ h => h))
end Go.Proofs.YtcidlnjpabgioaaGreatDoor
namespace Go.Proofs.YtcidlnjpabgioaaGreatDoor
open Go.RowKit
theorem jC (g : Nat) (t : TypeId) : ∀ (vs : List Value) (o : Nat) (w : World) (cur : Array Value), w.heap[g]? = some (.cells cur t (0, 0)) → o + vs.length ≤ cur.size →
 (w.setCells g o vs).heap[g]? = some (.cells (cur.toList.take o ++ vs ++ cur.toList.drop (o + vs.length)).toArray t (0, 0))
 | [], o, w, cur, hg, h => by
  simp only [World.setCells, List.append_nil, List.length_nil, Nat.add_zero, List.take_append_drop, Array.toArray_toList]
  exact hg
 | v :: r, o, w, cur, hg, h => by
  simp only [List.length_cons] at h
  have hg' : (w.setCell ⟨g, o, none⟩ v).heap[g]? = some (.cells (cur.setIfInBounds o v) t (0, 0)) := by
   simp [World.setCell, Array.getElem?_modify, hg]
  rw [World.setCells, jC g t r (o + 1) _ _ hg' (by simp; omega)]
  congr 3
  have ho : o < cur.toList.length := by simp; omega
  rw [Array.toList_setIfInBounds, List.take_set, List.drop_set_of_lt (by omega)]
  rw [List.take_succ_eq_append_getElem ho, List.set_append_right _ _ (by simp; omega)]
  have hm : o - min o cur.size = 0 := by omega
  simp [hm, show o + 1 + r.length = o + (r.length + 1) by omega]
theorem kV {w : World} {e : TypeId} {g N cap : Nat} {xs A olds C : List Value} (h : w.ownsRow 0 e 1 (.slice (some ⟨g, 0, none⟩) N cap) N xs) (hx : xs = A ++ olds ++ C) (news : List Value) (hn : news.length = olds.length) {o : Nat} (ho : o = A.length) :
 (w.setCells g o news).ownsRow 0 e 1 (.slice (some ⟨g, 0, none⟩) N cap) N (A ++ news ++ C) := by
 subst ho hx
 obtain ⟨hl, h⟩ := h
 rcases h with ⟨hv, _⟩ | ⟨g', cap', cur, hv, hb, hg, hnc, hcm, hcs, htake⟩
 · cases hv
 · simp only [Value.slice.injEq, Option.some.injEq, Addr.mk.injEq] at hv
   obtain ⟨⟨rfl, _⟩, _, rfl⟩ := hv
   simp only [List.length_append, Nat.mul_one] at hl
   have hfit : A.length + news.length ≤ cur.size := by omega
   refine ⟨by simp; omega, .inr ⟨g, cap, _, rfl, hb, jC g e news A.length w cur hg hfit, hnc, hcm, ?_, ?_⟩⟩
   · simp; omega
   · have hA : cur.toList.take A.length = A := by
      have := congrArg (List.take A.length) htake
      rw [List.take_take, Nat.min_eq_left (by omega)] at this
      rw [this]
      simp
     have hC : (cur.toList.drop (A.length + news.length)).take C.length = C := by
      have := congrArg (List.drop (A.length + olds.length)) htake
      rw [List.drop_take] at this
      rw [hn, show C.length = N * 1 - (A.length + olds.length) by omega, this, List.append_assoc, ← List.append_assoc, List.drop_left' (by simp)]
     rw [hA, show N * 1 = (A ++ news).length + C.length by simp; omega, List.toList_toArray, List.take_length_add_append, hC]
theorem Fr.setCells {S : Nat → Prop} {a : World} {g : Nat} (hS : S g ∨ a.heap.size ≤ g) : ∀ (vs : List Value) (o : Nat) (w : World), Fr S a w → Fr S a (w.setCells g o vs)
 | [], _, _, h => h
 | v :: r, o, w, h => by
  rw [World.setCells]
  exact Fr.setCells hS r (o + 1) _ (h.setCell hS v)
theorem zX (g o n c v : Nat) (hv : v < 65536) (w : World) (hn : 2 ≤ n) (hc : ∀ j, j < 2 → ∃ u, w.cell? ⟨g, o + j, none⟩ = some u) (hf : ∀ j, w.frozen? ⟨g, j, none⟩ = false) :
 Calls Tryz.prog 232 #[.agg #[], .slice (some ⟨g, o, none⟩) n c, .int .u16 v] w fun e w' => e = .returned (.tuple #[]) ∧ w' = (w.alloc (.cells #[] 454)).setCells g o (aQ (Lib.leBytes 2 v)) := by
 obtain ⟨x0, c0⟩ := hc 0 (by omega)
 obtain ⟨x1, c1⟩ := hc 1 (by omega)
 simp only [Nat.add_zero] at c0
 have d0 := (World.cell?_alloc_lt w (.cells #[] 454) _ (World.block_lt_of_cell? w _ c0)).trans c0
 have f0 := (World.frozen?_alloc_old w (.cells #[] 454) ⟨g, o, none⟩ (Nat.ne_of_lt (World.block_lt_of_cell? w _ c0))).trans (hf _)
 have d1 := (World.cell?_alloc_lt w (.cells #[] 454) _ (World.block_lt_of_cell? w _ c1)).trans c1
 have f1 := (World.frozen?_alloc_old w (.cells #[] 454) ⟨g, o + 1, none⟩ (Nat.ne_of_lt (World.block_lt_of_cell? w _ c1))).trans (hf _)
 have e0 : ((v % 256 : Nat) : Int) = (v : Int) % 256 := by omega
 have e1 : ((v / 256 % 256 : Nat) : Int) = (v : Int) / 256 := by omega
 have hb : aQ (Lib.leBytes 2 v) = [Value.int .u8 ((v : Int) % 256), Value.int .u8 ((v : Int) / 256)] := by
  simp only [aQ, Lib.leBytes, List.map, Lib.toUInt8_mod, e0, e1]
 clear hc hf
 go_enter Tryz.func232, Tryz.ntmps232
 go_wp2
 go_end0
 refine ⟨rfl, ?_⟩
 rw [hb]
 rfl
theorem rW (g o n c v : Nat) (hv : v < 4294967296) (w : World) (hn : 4 ≤ n) (hc : ∀ j, j < 4 → ∃ u, w.cell? ⟨g, o + j, none⟩ = some u) (hf : ∀ j, w.frozen? ⟨g, j, none⟩ = false) :
 Calls Tryz.prog 233 #[.agg #[], .slice (some ⟨g, o, none⟩) n c, .int .u32 v] w fun e w' => e = .returned (.tuple #[]) ∧ w' = (w.alloc (.cells #[] 454)).setCells g o (aQ (Lib.leBytes 4 v)) := by
 obtain ⟨x0, c0⟩ := hc 0 (by omega)
 obtain ⟨x1, c1⟩ := hc 1 (by omega)
 obtain ⟨x2, c2⟩ := hc 2 (by omega)
 obtain ⟨x3, c3⟩ := hc 3 (by omega)
 simp only [Nat.add_zero] at c0
 have d0 := (World.cell?_alloc_lt w (.cells #[] 454) _ (World.block_lt_of_cell? w _ c0)).trans c0
 have f0 := (World.frozen?_alloc_old w (.cells #[] 454) ⟨g, o, none⟩ (Nat.ne_of_lt (World.block_lt_of_cell? w _ c0))).trans (hf _)
 have d1 := (World.cell?_alloc_lt w (.cells #[] 454) _ (World.block_lt_of_cell? w _ c1)).trans c1
 have f1 := (World.frozen?_alloc_old w (.cells #[] 454) ⟨g, o + 1, none⟩ (Nat.ne_of_lt (World.block_lt_of_cell? w _ c1))).trans (hf _)
 have d2 := (World.cell?_alloc_lt w (.cells #[] 454) _ (World.block_lt_of_cell? w _ c2)).trans c2
 have f2 := (World.frozen?_alloc_old w (.cells #[] 454) ⟨g, o + 2, none⟩ (Nat.ne_of_lt (World.block_lt_of_cell? w _ c2))).trans (hf _)
 have d3 := (World.cell?_alloc_lt w (.cells #[] 454) _ (World.block_lt_of_cell? w _ c3)).trans c3
 have f3 := (World.frozen?_alloc_old w (.cells #[] 454) ⟨g, o + 3, none⟩ (Nat.ne_of_lt (World.block_lt_of_cell? w _ c3))).trans (hf _)
 have e0 : ((v % 256 : Nat) : Int) = (v : Int) % 256 := by omega
 have e1 : ((v / 256 % 256 : Nat) : Int) = (v : Int) / 256 % 256 := by omega
 have e2 : ((v / 256 / 256 % 256 : Nat) : Int) = (v : Int) / 65536 % 256 := by omega
 have e3 : ((v / 256 / 256 / 256 % 256 : Nat) : Int) = (v : Int) / 16777216 := by omega
 have hb : aQ (Lib.leBytes 4 v) = [Value.int .u8 ((v : Int) % 256), Value.int .u8 ((v : Int) / 256 % 256), Value.int .u8 ((v : Int) / 65536 % 256), Value.int .u8 ((v : Int) / 16777216)] := by
  simp only [aQ, Lib.leBytes, List.map, Lib.toUInt8_mod, e0, e1, e2, e3]
 clear hc hf
 go_enter Tryz.func233, Tryz.ntmps233
 go_wp2
 go_end0
 refine ⟨rfl, ?_⟩
 rw [hb]
 rfl
theorem mJ (g o n c v : Nat) (hv : v < 18446744073709551616) (w : World) (hn : 8 ≤ n) (hc : ∀ j, j < 8 → ∃ u, w.cell? ⟨g, o + j, none⟩ = some u) (hf : ∀ j, w.frozen? ⟨g, j, none⟩ = false) :
 Calls Tryz.prog 175 #[.agg #[], .slice (some ⟨g, o, none⟩) n c, .int .u64 v] w fun e w' => e = .returned (.tuple #[]) ∧ w' = (w.alloc (.cells #[] 454)).setCells g o (aQ (Lib.leBytes 8 v)) := by
 obtain ⟨x0, c0⟩ := hc 0 (by omega)
 obtain ⟨x1, c1⟩ := hc 1 (by omega)
 obtain ⟨x2, c2⟩ := hc 2 (by omega)
 obtain ⟨x3, c3⟩ := hc 3 (by omega)
 obtain ⟨x4, c4⟩ := hc 4 (by omega)
 obtain ⟨x5, c5⟩ := hc 5 (by omega)
 obtain ⟨x6, c6⟩ := hc 6 (by omega)
 obtain ⟨x7, c7⟩ := hc 7 (by omega)
 simp only [Nat.add_zero] at c0
 have d0 := (World.cell?_alloc_lt w (.cells #[] 454) _ (World.block_lt_of_cell? w _ c0)).trans c0
 have f0 := (World.frozen?_alloc_old w (.cells #[] 454) ⟨g, o, none⟩ (Nat.ne_of_lt (World.block_lt_of_cell? w _ c0))).trans (hf _)
 have d1 := (World.cell?_alloc_lt w (.cells #[] 454) _ (World.block_lt_of_cell? w _ c1)).trans c1
 have f1 := (World.frozen?_alloc_old w (.cells #[] 454) ⟨g, o + 1, none⟩ (Nat.ne_of_lt (World.block_lt_of_cell? w _ c1))).trans (hf _)
 have d2 := (World.cell?_alloc_lt w (.cells #[] 454) _ (World.block_lt_of_cell? w _ c2)).trans c2
 have f2 := (World.frozen?_alloc_old w (.cells #[] 454) ⟨g, o + 2, none⟩ (Nat.ne_of_lt (World.block_lt_of_cell? w _ c2))).trans (hf _)
 have d3 := (World.cell?_alloc_lt w (.cells #[] 454) _ (World.block_lt_of_cell? w _ c3)).trans c3
 have f3 := (World.frozen?_alloc_old w (.cells #[] 454) ⟨g, o + 3, none⟩ (Nat.ne_of_lt (World.block_lt_of_cell? w _ c3))).trans (hf _)
 have d4 := (World.cell?_alloc_lt w (.cells #[] 454) _ (World.block_lt_of_cell? w _ c4)).trans c4
 have f4 := (World.frozen?_alloc_old w (.cells #[] 454) ⟨g, o + 4, none⟩ (Nat.ne_of_lt (World.block_lt_of_cell? w _ c4))).trans (hf _)
 have d5 := (World.cell?_alloc_lt w (.cells #[] 454) _ (World.block_lt_of_cell? w _ c5)).trans c5
 have f5 := (World.frozen?_alloc_old w (.cells #[] 454) ⟨g, o + 5, none⟩ (Nat.ne_of_lt (World.block_lt_of_cell? w _ c5))).trans (hf _)
 have d6 := (World.cell?_alloc_lt w (.cells #[] 454) _ (World.block_lt_of_cell? w _ c6)).trans c6
 have f6 := (World.frozen?_alloc_old w (.cells #[] 454) ⟨g, o + 6, none⟩ (Nat.ne_of_lt (World.block_lt_of_cell? w _ c6))).trans (hf _)
 have d7 := (World.cell?_alloc_lt w (.cells #[] 454) _ (World.block_lt_of_cell? w _ c7)).trans c7
 have f7 := (World.frozen?_alloc_old w (.cells #[] 454) ⟨g, o + 7, none⟩ (Nat.ne_of_lt (World.block_lt_of_cell? w _ c7))).trans (hf _)
 have e0 : ((v % 256 : Nat) : Int) = (v : Int) % 256 := by omega
 have e1 : ((v / 256 % 256 : Nat) : Int) = (v : Int) / 256 % 256 := by omega
 have e2 : ((v / 256 / 256 % 256 : Nat) : Int) = (v : Int) / 65536 % 256 := by omega
 have e3 : ((v / 256 / 256 / 256 % 256 : Nat) : Int) = (v : Int) / 16777216 % 256 := by omega
 have e4 : ((v / 256 / 256 / 256 / 256 % 256 : Nat) : Int) = (v : Int) / 4294967296 % 256 := by omega
 have e5 : ((v / 256 / 256 / 256 / 256 / 256 % 256 : Nat) : Int) = (v : Int) / 1099511627776 % 256 := by omega
 have e6 : ((v / 256 / 256 / 256 / 256 / 256 / 256 % 256 : Nat) : Int) = (v : Int) / 281474976710656 % 256 := by omega
 have e7 : ((v / 256 / 256 / 256 / 256 / 256 / 256 / 256 % 256 : Nat) : Int) = (v : Int) / 72057594037927936 := by omega
 have hb : aQ (Lib.leBytes 8 v) = [Value.int .u8 ((v : Int) % 256), Value.int .u8 ((v : Int) / 256 % 256), Value.int .u8 ((v : Int) / 65536 % 256), Value.int .u8 ((v : Int) / 16777216 % 256), Value.int .u8 ((v : Int) / 4294967296 % 256), Value.int .u8 ((v : Int) / 1099511627776 % 256), Value.int .u8 ((v : Int) / 281474976710656 % 256), Value.int .u8 ((v : Int) / 72057594037927936)] := by
  simp only [aQ, Lib.leBytes, List.map, Lib.toUInt8_mod, e0, e1, e2, e3, e4, e5, e6, e7]
 clear hc hf
 go_enter Tryz.func175, Tryz.ntmps175
 go_wp2
 go_end0
 refine ⟨rfl, ?_⟩
 rw [hb]
 rfl
end Go.Proofs.YtcidlnjpabgioaaGreatDoor
namespace Go.Proofs.YtcidlnjpabgioaaGreatDoor
open Go.RowKit
section
variable {P : Program} {w : World}
theorem aZ {n : Nat} {t : TypeId} {v : Value} {name : String} {f : FuncId} (pr : Bool) (h : ((P.info? t).bind fun i => i.methods.find? (·.name == name)).map (fun m => (m.path, m.func)) = some (#[], some (f, pr)))
 {r : Value} (hr : (receiverAt t (.val v) pr (some ((name.splitOn ".").getLastD name))).run P w = .ok r w) : (method (n + 1) t v name).run P w = .ok (f, r) w := by
 cases hi : P.info? t with
 | none => simp [hi] at h
 | some i =>
  cases hm : i.methods.find? (·.name == name) with
  | none => simp [hi, hm] at h
  | some m =>
   simp only [hi, hm, Option.bind_some, Option.map_some, Option.some.injEq, Prod.mk.injEq] at h
   exact aDw hi hm h.1 h.2 hr
theorem bD {n : Nat} {t : TypeId} {name : String} {s : TypeId} {fs : Array Field} {fd : Field} (hs : P.underlying s = some (.struct fs)) (hfd : fs[0]? = some fd) (hfo : fd.offset = 0) (hag : ∀ w, (isAgg fd.type).run P w = .ok false w)
 (h : ((P.info? t).bind fun i => i.methods.find? (·.name == name)).map (fun m => (m.path, m.func)) = some (#[{ struct := s, index := 0, deref := false }], none))
 {cs : Array Value} {t' : TypeId} {v' : Value} (hc : cs[0]? = some (.iface t' v')) : (method (n + 1) t (.agg cs) name).run P w = (method n t' v' name).run P w := by
 cases hi : P.info? t with
 | none => simp [hi] at h
 | some i =>
  cases hm : i.methods.find? (·.name == name) with
  | none => simp [hi, hm] at h
  | some m =>
   simp only [hi, hm, Option.bind_some, Option.map_some, Option.some.injEq, Prod.mk.injEq] at h
   exact aBa hi hm h.1 h.2 hs hfd hfo hag hc
theorem jQ {t : TypeId} {v : Value} {name : String} (h : ((P.info? t).bind fun i => i.methods.find? (·.name == name)).map (fun m => m.func.isSome) = some true) (n m : Nat) : (method (n + 1) t v name).run P w = (method (m + 1) t v name).run P w := by
 cases hi : P.info? t with
 | none => simp [hi] at h
 | some i =>
  cases hm : i.methods.find? (·.name == name) with
  | none => simp [hi, hm] at h
  | some mt =>
   simp only [hi, hm, Option.bind_some, Option.map_some, Option.some.injEq] at h
   obtain ⟨x, hx⟩ := Option.isSome_iff_exists.1 h
   unfold method
   simp only [Sem.run_bind, typeInfo, run_program, Result.andThen_ok, hi, Sem.run_pure, hm, hx]
theorem eQ {t : TypeId} {name : String} {s : TypeId} {fs : Array Field} {fd : Field} (hs : P.underlying s = some (.struct fs)) (hfd : fs[0]? = some fd) (hfo : fd.offset = 0) (hag : ∀ w, (isAgg fd.type).run P w = .ok false w)
 (h : ((P.info? t).bind fun i => i.methods.find? (·.name == name)).map (fun m => (m.path, m.func)) = some (#[{ struct := s, index := 0, deref := false }], none))
 {cs : Array Value} {t' : TypeId} {v' : Value} (hc : cs[0]? = some (.iface t' v')) (h2 : ((P.info? t').bind fun i => i.methods.find? (·.name == name)).map (fun m => m.func.isSome) = some true) (n m : Nat) :
 (method (n + 2) t (.agg cs) name).run P w = (method (m + 2) t (.agg cs) name).run P w := by
 rw [bD (n := n + 1) hs hfd hfo hag h hc, bD (n := m + 1) hs hfd hfo hag h hc]
 exact jQ h2 n m
end
theorem cZ {P : Program} {w : World} {t e : TypeId} {a : Addr} {v : Value} (hu : P.underlying t = some (.slice e)) (hc : w.cell? a = some v) : (loadVar t a).run P w = .ok v w := by
 have hi : (isAgg t).run P w = .ok false w := by simp [isAgg, run_underlying hu]
 unfold loadVar
 simp [Sem.run_bind, hi, hc]
theorem fuel : ∃ n, Tryz.prog.types.size + Made.depth = n + 2 := ⟨Tryz.prog.types.size + Made.depth - 2, by kernel_rfl⟩
theorem aAW {w : World} {n : Nat} (h : n = w.heap.size) (xs : List Value) (t : TypeId) : ∀ j u, xs[j]? = some u → (w.alloc (.cells xs.toArray t)).cell? ((⟨n, 0, none⟩ : Addr).add j) = some u := by
 subst h
 exact aW w xs t
theorem setCells_size (g : Nat) : ∀ (vs : List Value) (o : Nat) (w : World), (w.setCells g o vs).heap.size = w.heap.size
 | [], _, _ => rfl
 | v :: r, o, w => by rw [World.setCells, setCells_size g r]; simp [World.setCell]
theorem Fr.made {w w1 : World} {c : Array Value} {t : TypeId} (h : Fr (fun _ => False) (w.alloc (.cells c t)) w1) {n : Nat} (hn : n = w.heap.size) : w1.heap[n]? = some (.cells c t (0, 0)) := by
 subst hn
 exact (h.block _ (by simp) (fun h => h)).trans (heap_alloc_new w _)
theorem aHW (n : Int) : IntKind.i16.wrap n = (n + 32768) % 65536 - 32768 := by
 simp only [IntKind.wrap, IntKind.bits, IntKind.signed]
 simp
 split <;> omega
theorem aJS (n : Int) : IntKind.i8.wrap n = (n + 128) % 256 - 128 := by
 simp only [IntKind.wrap, IntKind.bits, IntKind.signed]
 simp
 split <;> omega
theorem aCZ (n : Int) : IntKind.u64.wrap (wrap64 n) = n % 18446744073709551616 := by
 rw [IntKind.wrap_u64]
 unfold wrap64
 rw [Int.sub_emod, Int.emod_emod, ← Int.sub_emod]
 congr 1
 omega
theorem aDB (n : Int) : IntKind.u32.wrap (wrap32 n) = n % 4294967296 := by
 rw [IntKind.wrap_u32]
 unfold wrap32
 rw [Int.sub_emod, Int.emod_emod, ← Int.sub_emod]
 congr 1
 omega
theorem aIi (n : Int) : IntKind.u8.wrap (IntKind.i8.wrap n) = n % 256 := by
 rw [IntKind.wrap_u8', aJS]
 omega
theorem Buf.col {w : World} {b : Nat} {fb : Nat → Prop} {bs : List UInt8} : Buf w b fb bs ↔ aF w b 114 5 1 bs.length (aQ bs) fb := Iff.rfl
structure Hot (w : World) (b g N cap : Nat) (xs : List Value) : Prop where
 hb : w.heap[b]? = some (.cells #[.slice (some ⟨g, 0, none⟩) N cap] 114 (0, 0))
 own : w.ownsRow 0 5 1 (.slice (some ⟨g, 0, none⟩) N cap) N xs
 ne : g ≠ b
namespace Hot
variable {w w' : World} {b g N cap : Nat} {xs : List Value}
theorem cell (h : Hot w b g N cap xs) : w.cell? ⟨b, 0, none⟩ = some (.slice (some ⟨g, 0, none⟩) N cap) := (aF.cell h.hb).1
theorem frozen (h : Hot w b g N cap xs) : w.frozen? ⟨b, 0, none⟩ = false := (aF.cell h.hb).2
theorem row (h : Hot w b g N cap xs) : ∃ cur : Array Value, w.heap[g]? = some (.cells cur 5 (0, 0)) ∧ N ≤ cur.size ∧ N ≤ cap ∧ cap ≤ maxLen := by
 rcases h.own.2 with ⟨hv, _⟩ | ⟨g', cap', cur, hv, _, hg, hnc, hcm, hcs, _⟩
 · cases hv
 · simp only [Value.slice.injEq, Option.some.injEq, Addr.mk.injEq] at hv
   obtain ⟨⟨rfl, _⟩, _, rfl⟩ := hv
   exact ⟨cur, hg, by omega, hnc, hcm⟩
theorem there (h : Hot w b g N cap xs) {o m : Nat} (hm : o + m ≤ N) : ∀ j, j < m → ∃ u, w.cell? ⟨g, o + j, none⟩ = some u := by
 obtain ⟨cur, hg, hN, _⟩ := h.row
 intro j hj
 refine ⟨cur[o + j]'(by omega), ?_⟩
 rw [cell_of_row _ _ _ _ _ _ hg, Array.getElem?_eq_getElem]
theorem cold (h : Hot w b g N cap xs) : ∀ j, w.frozen? ⟨g, j, none⟩ = false := by
 obtain ⟨cur, hg, hN, _⟩ := h.row
 exact fun j => frozen_of_row _ _ _ _ _ hg
theorem fr (h : Hot w b g N cap xs) {S : Nat → Prop} (hf : Fr S w w') (hb : ¬ S b) (hg : ¬ S g) : Hot w' b g N cap xs :=
 ⟨(hf.block b (aH h.hb) hb).trans h.hb, hf.owns h.own (fun k hk hs => by simp only [Value.ownBlock, Option.some.injEq] at hk; subst hk; exact hg hs), h.ne⟩
theorem glt (h : Hot w b g N cap xs) : g < w.heap.size := by obtain ⟨cur, hg, _⟩ := h.row; exact aH hg
theorem alloc (h : Hot w b g N cap xs) (o : Obj) : Hot (w.alloc o) b g N cap xs := h.fr ((Fr.refl (fun _ => False) w).alloc o) (fun h => h) (fun h => h)
theorem drew (h : Hot w b g N cap xs) : Hot w.drew b g N cap xs := h.fr ((Fr.refl (fun _ => False) w).drew) (fun h => h) (fun h => h)
theorem put {A olds C : List Value} (h : Hot w b g N cap xs) (hx : xs = A ++ olds ++ C) (news : List Value) (hn : news.length = olds.length) {o : Nat} (ho : o = A.length) : Hot (w.setCells g o news) b g N cap (A ++ news ++ C) :=
 ⟨((Fr.setCells (S := fun k => k = g) (.inl rfl) news o w (Fr.refl _ w)).block b (aH h.hb) (fun e => h.ne e.symm)).trans h.hb, kV h.own hx news hn ho, h.ne⟩
theorem buf {bs : List UInt8} (h : Hot w b g N cap (aQ bs)) {fb : Nat → Prop} (hfb : ∀ k, fb k ↔ k = b ∨ k = g) : Buf w b fb bs := by
 have hl := h.own.1
 simp only [bG, Nat.mul_one] at hl
 subst hl
 exact ⟨_, h.hb, h.own, by simpa [Value.ownBlock] using h.ne, fun k => by rw [hfb]; simp [Value.ownBlock, eq_comm]⟩
theorem of {fb : Nat → Prop} (h : aF w b 114 5 1 N xs fb) (hN : 0 < N) : ∃ g cap, Hot w b g N cap xs ∧ ∀ k, fb k ↔ k = b ∨ k = g := by
 obtain ⟨v, hp, hown, hne, hfp⟩ := h
 have hown' := hown
 rcases hown.2 with ⟨_, rfl⟩ | ⟨g, cap, cur, rfl, _⟩
 · omega
 · exact ⟨g, cap, ⟨hp, hown', by simpa [Value.ownBlock] using hne⟩, fun k => by rw [hfp]; simp [Value.ownBlock, eq_comm]⟩
end Hot
theorem gU : ElT Tryz.prog 22 5 (.int .u8 0) 1 1 := ⟨Tryz.underlying22, info_parts (by kernel_rfl), rfl⟩
theorem aBt (m : Nat) : List.replicate m (Value.int .u8 0) = aQ (List.replicate m 0) := by simp [aQ]
theorem bH {α β : Type} (f : α → List β) (B : Nat) (h : ∀ a, (f a).length = B) : ∀ l : List α, (l.flatMap f).length = B * l.length
 | [] => rfl
 | a :: l => by rw [List.flatMap_cons, List.length_append, h, bH f B h l, List.length_cons, Nat.mul_succ]; omega
theorem iY {α β : Type} (f : α → List β) (m : Nat) (h : ∀ a, (f a).length = m) : ∀ (l : List α) (k j : Nat) (hk : k < l.length), j < m → (l.flatMap f)[k * m + j]? = (f l[k])[j]?
 | [], k, j, hk, _ => by simp at hk
 | a :: l, 0, j, _, hj => by
  rw [List.flatMap_cons, Nat.zero_mul, Nat.zero_add, List.getElem?_append_left (by rw [h]; exact hj)]
  rfl
 | a :: l, k + 1, j, hk, hj => by
  have e : (k + 1) * m + j = (f a).length + (k * m + j) := by rw [h, Nat.add_mul]; omega
  rw [List.flatMap_cons, e, List.getElem?_append_right (by omega), Nat.add_sub_cancel_left, iY f m h l k j (by simpa using hk) hj]
  rfl
theorem bF (B : Nat) (hB : B ≤ 32) (c : Cell) : (aJ B c).length = B := by simp [aJ, Lib.leBytes_length]; omega
theorem tV (c : Cell) : aJ 16 c = Lib.leBytes 8 c.r0 ++ Lib.leBytes 8 c.r1 := by
 unfold aJ
 rw [List.append_assoc]
 exact List.take_left' (by simp [Lib.leBytes_length])
theorem aCH (c : Cell) : aJ 32 c = Lib.leBytes 8 c.r0 ++ Lib.leBytes 8 c.r1 ++ Lib.leBytes 8 c.r2 ++ Lib.leBytes 8 c.r3 := by
 unfold aJ
 exact List.take_of_length_le (by simp [Lib.leBytes_length])
theorem qJ : ∀ (k m v : Nat), k ≤ m → (Lib.leBytes m v).take k = Lib.leBytes k v
 | 0, m, v, _ => by simp [Lib.leBytes]
 | k + 1, 0, v, h => by omega
 | k + 1, m + 1, v, h => by rw [Lib.leBytes, Lib.leBytes, List.take_succ_cons, qJ k m _ (by omega)]
theorem gX : ∀ (k v : Nat), Lib.leBytes k (v % 256 ^ k) = Lib.leBytes k v
 | 0, v => by simp [Lib.leBytes]
 | k + 1, v => by
  have h1 : (v % 256 ^ (k + 1)) % 256 = v % 256 := by rw [Nat.mod_mod_of_dvd]; exact ⟨256 ^ k, by rw [Nat.pow_succ]; omega⟩
  have h2 : (v % 256 ^ (k + 1)) / 256 = (v / 256) % 256 ^ k := by rw [Nat.pow_succ, Nat.mul_comm, Nat.mod_mul_right_div_self]
  rw [Lib.leBytes, Lib.leBytes, h1, h2, gX k (v / 256)]
theorem dI (B : Nat) (hB : B ≤ 8) (c : Cell) : aJ B c = Lib.leBytes B c.r0 := by
 unfold aJ
 rw [List.append_assoc, List.append_assoc, List.take_append_of_le_length (by rw [Lib.leBytes_length]; exact hB), qJ _ _ _ hB]
end Go.Proofs.YtcidlnjpabgioaaGreatDoor
