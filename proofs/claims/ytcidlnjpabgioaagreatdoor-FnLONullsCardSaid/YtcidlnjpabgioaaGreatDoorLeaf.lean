import Derived.Test.YtcidlnjpabgioaaGreatDoorCE
import Derived.Lib.Hide
namespace Go.Proofs.YtcidlnjpabgioaaGreatDoor
open Go.RowKit

/-- Block p holds a slice (a variable of type tc) that owns the cells xs, n elements of type e; fp are the blocks. -/
def ColAt (w : World) (p : Nat) (tc e : TypeId) (size n : Nat) (xs : List Value) (fp : Nat → Prop) : Prop :=
  ∃ v, w.heap[p]? = some (.cells #[v] tc (0, 0)) ∧ w.ownsRow 0 e size v n xs ∧ v.ownBlock ≠ some p ∧ ∀ k, fp k ↔ k = p ∨ v.ownBlock = some k

theorem ownsRow_shape {w : World} {base : Nat} {e : TypeId} {size : Nat} {v : Value} {n : Nat} {xs : List Value} (h : w.ownsRow base e size v n xs) : ∃ a c, v = .slice a n c := by
  rcases h.2 with ⟨rfl, rfl⟩ | ⟨g, cap, cur, rfl, _⟩
  · exact ⟨_, _, rfl⟩
  · exact ⟨_, _, rfl⟩

theorem ownsRow_lt {w : World} {base : Nat} {e : TypeId} {size : Nat} {v : Value} {n : Nat} {xs : List Value} (h : w.ownsRow base e size v n xs) {k : Nat} (hk : v.ownBlock = some k) : k < w.heap.size := (h.lt k hk).2

theorem Appended.shape {w w' : World} {e : TypeId} {size : Nat} {v v' : Value} {n : Nat} {xs : List Value} (h : Appended w w' e size v v' n xs) : ∃ a c, v' = .slice a n c := ownsRow_shape h.1

theorem heap_lt {w : World} {p : Nat} {o : Obj} (h : w.heap[p]? = some o) : p < w.heap.size := (Array.getElem?_eq_some_iff.1 h).1

theorem heap_setCell0 {w : World} {p : Nat} {v : Value} {tc : TypeId} (h : w.heap[p]? = some (.cells #[v] tc (0, 0))) (u : Value) : (w.setCell ⟨p, 0, none⟩ u).heap[p]? = some (.cells #[u] tc (0, 0)) := by
  simp [World.setCell, Array.getElem?_modify, h]

/-- '*c = append(*c, ..)': w0 is w with new blocks, w1 what the append leaves. -/
theorem ColAt.appended {w w0 w1 : World} {p : Nat} {tc e : TypeId} {size n m : Nat} {xs ys : List Value} {fp : Nat → Prop} {v v' : Value}
    (hp : w.heap[p]? = some (.cells #[v] tc (0, 0))) (_hown : w.ownsRow 0 e size v n xs) (hne : v.ownBlock ≠ some p) (hfp : ∀ k, fp k ↔ k = p ∨ v.ownBlock = some k)
    (h0 : Fr (fun _ => False) w w0) (ha : Appended w0 w1 e size v v' m ys) :
    (∃ fp', ColAt (w1.setCell ⟨p, 0, none⟩ v') p tc e size m ys fp' ∧ Grow w fp fp') ∧ Fr fp w (w1.setCell ⟨p, 0, none⟩ v') := by
  obtain ⟨h1, hg, h2⟩ := ha
  have hpl := heap_lt hp
  have hs0 := h0.size
  have hp0 : w0.heap[p]? = some (.cells #[v] tc (0, 0)) := (h0.block p hpl (fun h => h)).trans hp
  have hp1 : w1.heap[p]? = some (.cells #[v] tc (0, 0)) := (hg.block p (by omega) (fun h => hne h.symm)).trans hp0
  have hne' : v'.ownBlock ≠ some p := by
    rcases h2 with h2 | h2 <;> rw [h2]
    · exact hne
    · simp; omega
  refine ⟨⟨fun k => k = p ∨ v'.ownBlock = some k, ⟨v', heap_setCell0 hp1 v', ?_, hne', fun k => Iff.rfl⟩, ?_⟩, ?_⟩
  · exact ((Fr.refl (fun k => k = p) w1).setCell (.inl rfl) v').owns h1 (fun k hk e => hne' (by rw [hk, e]))
  · rintro k (rfl | hk)
    · exact .inl ((hfp k).2 (.inl rfl))
    · rcases h2 with h2 | h2
      · exact .inl ((hfp k).2 (.inr (by rw [← h2, hk])))
      · rw [h2] at hk
        simp only [Option.some.injEq] at hk
        exact .inr (by omega)
  · exact ((h0.mono (fun k _ h => h.elim)).grown hg (fun k hk => .inl ((hfp k).2 (.inr hk)))).setCell (.inl ((hfp p).2 (.inl rfl))) v'

theorem ColAt.cell {w : World} {p : Nat} {v : Value} {tc : TypeId} (hp : w.heap[p]? = some (.cells #[v] tc (0, 0))) : w.cell? ⟨p, 0, none⟩ = some v ∧ w.frozen? ⟨p, 0, none⟩ = false :=
  ⟨by rw [cell_of_row _ _ _ _ _ _ hp]; rfl, frozen_of_row _ _ _ _ _ hp⟩

theorem ColAt.framed {w w' : World} {p : Nat} {tc e : TypeId} {size n : Nat} {xs : List Value} {fp : Nat → Prop} (h : ColAt w p tc e size n xs fp) (hk : ∀ k, fp k → w'.heap[k]? = w.heap[k]?) : ColAt w' p tc e size n xs fp := by
  obtain ⟨v, hp, hown, hne, hfp⟩ := h
  refine ⟨v, (hk p ((hfp p).2 (.inl rfl))).trans hp, ⟨hown.1, ?_⟩, hne, hfp⟩
  rcases hown.2 with h0 | ⟨g, cap, cur, rfl, hb, hgg, rest⟩
  · exact .inl h0
  · exact .inr ⟨g, cap, cur, rfl, hb, (hk g ((hfp g).2 (.inr rfl))).trans hgg, rest⟩

theorem ColAt.lt {w : World} {p : Nat} {tc e : TypeId} {size n : Nat} {xs : List Value} {fp : Nat → Prop} (h : ColAt w p tc e size n xs fp) : ∀ k, fp k → k < w.heap.size := by
  obtain ⟨v, hp, hown, hne, hfp⟩ := h
  intro k hk
  rcases (hfp k).1 hk with rfl | hk
  · exact heap_lt hp
  · exact ownsRow_lt hown hk


theorem cell_new {w : World} {c : Array Value} {t : TypeId} {n : Nat} (h : n = w.heap.size) (i : Nat) : (w.alloc (.cells c t)).cell? ⟨n, i, none⟩ = c[i]? := by
  subst h
  exact World.cell?_alloc_new w c t i

/-- The method of a pointer behind an interface value. -/
theorem Invokes.ptr {P : Program} {t : TypeId} {a : Addr} {name : String} {args : Array Value} {w : World} {R : Ending → World → Prop} (k : FuncId)
    (hm : (method (P.types.size + Made.depth) t (.pointer (some a)) name).run P w = .ok (k, .pointer (some a)) w)
    (hk : ∀ (args : Array Value) (w : World), (callFunc k args).run P w = .ok (.enter k args) w) (h : Calls P k (#[.pointer (some a)] ++ args) w R) : Invokes P (.iface t (.pointer (some a))) name args w R :=
  ⟨k, _, by simp only [callMethod, Sem.run_bind, run_program, Result.andThen_ok, hm, hk], h⟩


theorem cells_new (w : World) (xs : List Value) (t : TypeId) : ∀ j u, xs[j]? = some u → (w.alloc (.cells xs.toArray t)).cell? ((⟨w.heap.size, 0, none⟩ : Addr).add j) = some u := by
  intro j u hj
  rw [Addr.add_lit, Nat.zero_add, World.cell?_alloc_new]
  simpa using hj
/-! ## Where a method is found -/
section
variable {P : Program} {w : World}
/-- A method of the type's own: the receiver is the value (or what it leads to). -/
theorem method_own {n : Nat} {t : TypeId} {i : TypeInfo} {m : Method} {v : Value} {name : String} {f : FuncId} {pr : Bool} (hi : P.info? t = some i) (hm : i.methods.find? (·.name == name) = some m) (hp : m.path = #[]) (hf : m.func = some (f, pr))
    {r : Value} (hr : (receiverAt t (.val v) pr (some ((name.splitOn ".").getLastD name))).run P w = .ok r w) : (method (n + 1) t v name).run P w = .ok (f, r) w := by
  have ht : (typeInfo t).run P w = .ok i w := by simp [typeInfo, hi]
  unfold method
  rw [Sem.run_bind, ht]
  simp only [Result.andThen_ok, hm, hp, List.toList_toArray, Sem.run_bind, follow, Sem.run_pure, hf, Array.isEmpty_empty, if_true, hr]

/-- A method of an embedded interface value, the struct's first field. -/
theorem method_iface {n : Nat} {t : TypeId} {i : TypeInfo} {m : Method} {name : String} {s : TypeId} {fs : Array Field} {fd : Field} (hi : P.info? t = some i) (hm : i.methods.find? (·.name == name) = some m)
    (hp : m.path = #[{ struct := s, index := 0, deref := false }]) (hf : m.func = none) (hs : P.underlying s = some (.struct fs)) (hfd : fs[0]? = some fd) (hfo : fd.offset = 0) (hag : ∀ w, (isAgg fd.type).run P w = .ok false w)
    {cs : Array Value} {t' : TypeId} {v' : Value} (hc : cs[0]? = some (.iface t' v')) : (method (n + 1) t (.agg cs) name).run P w = (method n t' v' name).run P w := by
  conv => lhs; unfold method
  simp only [Sem.run_bind, typeInfo, run_program, Result.andThen_ok, hi, Sem.run_pure, hm, hp, follow, hf, run_underlying hs, hfd, part, hfo, hc, Place.get]
  simp [Sem.run_bind, hag]

theorem receiver_ptr {t : TypeId} {e : TypeId} {v : Value} {nm : Option String} (hu : P.underlying t = some (.pointer e)) : (receiverAt t (.val v) true nm).run P w = .ok v w := by
  simp [receiverAt, run_underlying hu, Place.get]
/-- The value behind a pointer. -/
theorem receiver_val {t : TypeId} {e : TypeId} {a : Addr} {r : Value} {nm : String} (hu : P.underlying t = some (.pointer e)) (hl : (loadVar e a).run P w = .ok r w) : (receiverAt t (.val (.pointer (some a))) false (some nm)).run P w = .ok r w := by
  have h0 : Builtin.ssaWrapNilChk_ #[t] t #[.pointer (some a), strVal "", strVal nm] = pure (.pointer (some a)) := rfl
  simp [receiverAt, run_underlying hu, Place.get, h0, asAddr, hl]
theorem receiver_own {t : TypeId} {d : TypeDesc} {v : Value} {nm : Option String} (hu : P.underlying t = some d) (hd : (match d with | .pointer _ => false | _ => true) = true) : (receiverAt t (.val v) false nm).run P w = .ok v w := by
  unfold receiverAt
  simp only [Sem.run_bind, run_underlying hu, Result.andThen_ok]
  cases d <;> simp_all [Place.get]
end

theorem Invokes.of {P : Program} {t : TypeId} {v r : Value} {name : String} {args : Array Value} {w : World} {R : Ending → World → Prop} {k : FuncId}
    (hm : (method (P.types.size + Made.depth) t v name).run P w = .ok (k, r) w)
    (hk : ∀ (args : Array Value) (w : World), (callFunc k args).run P w = .ok (.enter k args) w) (h : Calls P k (#[r] ++ args) w R) : Invokes P (.iface t v) name args w R :=
  ⟨k, _, by simp only [callMethod, Sem.run_bind, run_program, Result.andThen_ok, hm, hk], h⟩
theorem Invokes.of1 {P : Program} {t : TypeId} {v r x : Value} {name : String} {w : World} {R : Ending → World → Prop} {k : FuncId}
    (hm : (method (P.types.size + Made.depth) t v name).run P w = .ok (k, r) w)
    (hk : ∀ (args : Array Value) (w : World), (callFunc k args).run P w = .ok (.enter k args) w) (h : Calls P k #[r, x] w R) : Invokes P (.iface t v) name #[x] w R :=
  Invokes.of hm hk (by simpa using h)
theorem Invokes.of0 {P : Program} {t : TypeId} {v r : Value} {name : String} {w : World} {R : Ending → World → Prop} {k : FuncId}
    (hm : (method (P.types.size + Made.depth) t v name).run P w = .ok (k, r) w)
    (hk : ∀ (args : Array Value) (w : World), (callFunc k args).run P w = .ok (.enter k args) w) (h : Calls P k #[r] w R) : Invokes P (.iface t v) name #[] w R :=
  Invokes.of hm hk (by simpa using h)
theorem CallsV.func1 {P : Program} {k : FuncId} {x c : Value} {w : World} {R : Ending → World → Prop} (hk : ∀ (args : Array Value) (w : World), (callFunc k args).run P w = .ok (.enter k args) w)
    (h : Calls P k #[x, c] w R) : CallsV P (.func (.func k) #[] #[c]) #[x] w R := CallsV.func hk (by simpa using h)
theorem CallsV.func0 {P : Program} {k : FuncId} {x : Value} {w : World} {R : Ending → World → Prop} (hk : ∀ (args : Array Value) (w : World), (callFunc k args).run P w = .ok (.enter k args) w)
    (h : Calls P k #[x] w R) : CallsV P (.func (.func k) #[] #[]) #[x] w R := CallsV.func hk (by simpa using h)

theorem CallsV.func2 {P : Program} {k : FuncId} {x y z : Value} {w : World} {R : Ending → World → Prop} (hk : ∀ (args : Array Value) (w : World), (callFunc k args).run P w = .ok (.enter k args) w)
    (h : Calls P k #[x, y, z] w R) : CallsV P (.func (.func k) #[] #[]) #[x, y, z] w R := CallsV.func hk (by simpa using h)

/-- A row's eight cells, by its parts. -/
theorem CellIn.open {B : Nat} {w : World} : ∀ {c : Cell} {vs : List Value}, CellIn B w c vs → ∃ (ia : Option Addr) (il ic : Nat) (ka : Option Addr) (kl kc : Nat),
    vs = [.int .u64 c.r0, .int .u64 c.r1, .int .u64 c.r2, .int .u64 c.r3, .string c.s, .bool c.null, .slice ia il ic, .slice ka kl kc] ∧
      c.r0 < 18446744073709551616 ∧ c.r1 < 18446744073709551616 ∧ c.r2 < 18446744073709551616 ∧ c.r3 < 18446744073709551616 ∧ c.s.size ≤ 65536
  | .mk r0 r1 r2 r3 s null items keys, vs => by
    unfold CellIn
    rintro ⟨iv, kv, ixs, kxs, rfl, h0, h1, h2, h3, h4, ⟨_, ia, ic, rfl, _⟩, _, ⟨_, ka, kc, rfl, _⟩, _⟩
    exact ⟨_, _, _, _, _, _, rfl, h0, h1, h2, h3, h4⟩

theorem CellIn.small {B : Nat} {w : World} {c : Cell} {vs : List Value} (h : CellIn B w c vs) : c.small := by
  obtain ⟨_, _, _, _, _, _, _, h0, h1, h2, h3, h4⟩ := h.open
  exact ⟨h0, h1, h2, h3, h4⟩
theorem CellsIn.small {B : Nat} {w : World} : ∀ {cs : List Cell} {xs : List Value}, CellsIn B w cs xs → ∀ c ∈ cs, c.small
  | [], _, _, c, h => by simp at h
  | d :: cs, xs, hh, c, h => by
    unfold CellsIn at hh
    obtain ⟨vs, rest, rfl, h1, h2⟩ := hh
    rcases List.mem_cons.1 h with rfl | h
    · exact h1.small
    · exact CellsIn.small h2 c h

theorem flatMap_step {α β : Type} (f : α → List β) (l : List α) (k : Nat) (h : k < l.length) : (l.take (k + 1)).flatMap f = (l.take k).flatMap f ++ f l[k] := by
  rw [List.take_succ_eq_append_getElem h, List.flatMap_append]
  simp

/-- An own row that is there since w alone, grown on. -/
theorem Appended.since {w w0 w1 : World} {e : TypeId} {size : Nat} {v v' : Value} {n : Nat} {xs : List Value} (ha : Appended w0 w1 e size v v' n xs) (h0 : Fr (fun _ => False) w w0) (hv : ∀ q, v.ownBlock = some q → w.heap.size ≤ q) :
    (∀ q, v'.ownBlock = some q → w.heap.size ≤ q) ∧ Fr (fun _ => False) w w1 := by
  refine ⟨fun q hq => ?_, h0.grown ha.2.1 (fun k hk => .inr (hv k hk))⟩
  rcases ha.2.2 with h | h
  · exact hv q (by rw [← h, hq])
  · rw [h] at hq
    simp only [Option.some.injEq] at hq
    have := h0.size
    omega

/-- What an own row yields as the source of an append. -/
theorem Src.ofOwn {P : Program} {w : World} {base : Nat} {e e' tx : TypeId} {size : Nat} {v : Value} {n : Nat} {xs : List Value} (hk : P.underlying tx = some (.slice e')) (h : w.ownsRow base e size v n xs) (h1 : ∀ u ∈ xs, u.oneCell' = true) : Src P size tx v n xs w := by
  rcases h.2 with ⟨rfl, rfl⟩ | ⟨g, cap, cur, rfl, hb, hg, hrest⟩
  · have hx : xs = [] := List.eq_nil_of_length_eq_zero (by simpa using h.1)
    subst hx
    exact Src.ofNil w hk 0
  · exact Src.ofSlice w hk _ _ _ _ h.1 (World.ownsRow.cells h (g := g) rfl) h1

theorem Sl.fr {B : Nat} {w w' : World} {size n : Nat} {v : Value} {xs : List Value} (h : Sl B w size v n xs) (hB : B ≤ w.heap.size) (hf : Fr (fun _ => False) w w') : Sl B w' size v n xs := h.below (hf.below hB (fun _ _ h => h))
end Go.Proofs.YtcidlnjpabgioaaGreatDoor
