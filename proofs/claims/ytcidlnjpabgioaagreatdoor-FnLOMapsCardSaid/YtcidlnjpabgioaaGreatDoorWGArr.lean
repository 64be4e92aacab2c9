import Derived.Test.YtcidlnjpabgioaaGreatDoorWGNul
import Derived.Test.YtcidlnjpabgioaaGreatDoorWKu64
import Derived.Test.YtcidlnjpabgioaaGreatDoorWGTree
import Derived.DeepKeys4
import Derived.Test.YtcidlnjpabgioaaGreatDoorWGByte
set_option maxHeartbeats 4000000
set_option maxRecDepth 100000
namespace Go.Proofs.YtcidlnjpabgioaaGreatDoor
open Go.RowKit
def ends (f : Cell → Nat) : Nat → List Cell → List Cell
 | _, [] => []
 | n, c :: cs => .mk (n + f c) 0 0 0 ⟨#[]⟩ false [] [] :: ends f (n + f c) cs
def total (f : Cell → Nat) : List Cell → Nat
 | [] => 0
 | c :: cs => f c + total f cs
theorem jO (f : Cell → Nat) : ∀ (a b : List Cell), total f (a ++ b) = total f a + total f b
 | [], b => by simp [total]
 | c :: a, b => by rw [List.cons_append, total, total, jO f a b]; omega
theorem kG (f : Cell → Nat) : ∀ (n : Nat) (cs : List Cell), (ends f n cs).length = cs.length
 | _, [] => rfl
 | n, c :: cs => by rw [ends, List.length_cons, List.length_cons, kG f _ cs]
theorem iM (f : Cell → Nat) : ∀ (n : Nat) (cs : List Cell), (ends f n cs).flatMap (aJ 8) = offsets f n cs
 | _, [] => rfl
 | n, c :: cs => by rw [ends, offsets, List.flatMap_cons, iM f _ cs, dI 8 (by omega)]; rfl
theorem kJ (f : Cell → Nat) : ∀ (n : Nat) (a : List Cell) (c : Cell), ends f n (a ++ [c]) = ends f n a ++ [.mk (n + total f a + f c) 0 0 0 ⟨#[]⟩ false [] []]
 | n, [], c => by simp [ends, total]
 | n, d :: a, c => by rw [List.cons_append, ends, ends, kJ f _ a c, total, List.cons_append, show n + f d + total f a = n + (f d + total f a) by omega]
theorem aBs (f : Cell → Nat) : ∀ (n : Nat) (cs : List Cell), ∀ x ∈ ends f n cs, x.r0 ≤ n + total f cs
 | _, [], x, h => by simp [ends] at h
 | n, c :: cs, x, h => by
  rw [ends] at h
  rw [total]
  rcases List.mem_cons.1 h with rfl | h
  · show n + f c ≤ _
    omega
  · have := aBs f _ cs x h
    omega
def gW (c : Cell) : Nat := c.items.length
theorem lC : ∀ (cs : List Cell), total gW cs = (cs.flatMap Cell.items).length
 | [] => rfl
 | c :: cs => by rw [total, lC cs, List.flatMap_cons, List.length_append]; rfl
theorem aAI (t : Ty) (cs : List Cell) : enc (.arr t) cs = (ends gW 0 cs).flatMap (aJ 8) ++ enc t (cs.flatMap Cell.items) := by rw [enc, iM]; rfl
theorem iE : ∀ (cs : List Cell), wts (cs.flatMap Cell.items) + cs.length ≤ wts cs
 | [] => Nat.le_refl _
 | c :: cs => by
  have := iE cs
  rw [List.flatMap_cons, dV, wts, Cell.jW, List.length_cons]
  omega
theorem bP.full {B : Nat} {w : World} : ∀ {c : Cell} {vs : List Value}, bP B w c vs → ∃ (ia : Option Addr) (ic : Nat) (ka : Option Addr) (kc : Nat) (ixs kxs : List Value),
 vs = [.int .u64 c.r0, .int .u64 c.r1, .int .u64 c.r2, .int .u64 c.r3, .string c.s, .bool c.null, .slice ia c.items.length ic, .slice ka c.keys.length kc] ∧
  Sl B w 8 (.slice ia c.items.length ic) c.items.length ixs ∧ aC B w c.items ixs ∧ Sl B w 8 (.slice ka c.keys.length kc) c.keys.length kxs ∧ aC B w c.keys kxs
 | .mk r0 r1 r2 r3 s null items keys, vs => by
  unfold bP
  rintro ⟨iv, kv, ixs, kxs, rfl, h0, h1, h2, h3, h4, hi, hci, hk, hck⟩
  obtain ⟨ia, ic, rfl, _⟩ := hi.2
  obtain ⟨ka, kc, rfl, _⟩ := hk.2
  exact ⟨ia, ic, ka, kc, ixs, kxs, rfl, hi, hci, hk, hck⟩
def fE (B : Nat) (w : World) : List Cell → List Value → Prop
 | [], xs => xs = []
 | c :: cs, xs => ∃ v rest ixs, xs = v :: rest ∧ Sl B w 8 v c.items.length ixs ∧ aC B w c.items ixs ∧ fE B w cs rest
theorem fE.below {B : Nat} {w w' : World} (hb : Below B w w') : ∀ (cs : List Cell) (xs : List Value), fE B w cs xs → fE B w' cs xs
 | [], _, h => h
 | _ :: _, _, ⟨v, rest, ixs, h0, h1, h2, h3⟩ => ⟨v, rest, ixs, h0, h1.below hb, aC.below hb _ _ h2, fE.below hb _ _ h3⟩
theorem fE.snoc {B : Nat} {w : World} {c : Cell} {v : Value} {ixs : List Value} (h : Sl B w 8 v c.items.length ixs) (hc : aC B w c.items ixs) : ∀ {cs : List Cell} {xs : List Value}, fE B w cs xs → fE B w (cs ++ [c]) (xs ++ [v])
 | [], _, rfl => ⟨v, [], ixs, rfl, h, hc, rfl⟩
 | _ :: _, _, ⟨u, rest, jxs, h0, h1, h2, h3⟩ => ⟨u, _, jxs, by rw [h0]; rfl, h1, h2, fE.snoc h hc h3⟩
theorem fE.at {B : Nat} {w : World} : ∀ {cs : List Cell} {xs : List Value}, fE B w cs xs → ∀ k (hk : k < cs.length), ∃ v ixs, xs[k]? = some v ∧ Sl B w 8 v cs[k].items.length ixs ∧ aC B w cs[k].items ixs
 | [], _, _, k, hk => by simp at hk
 | c :: cs, _, ⟨v, rest, ixs, h0, h1, h2, _⟩, 0, _ => ⟨v, ixs, by rw [h0]; rfl, h1, h2⟩
 | c :: cs, _, ⟨v, rest, ixs, h0, h1, h2, h3⟩, k + 1, hk => by
  obtain ⟨u, jxs, g0, g1, g2⟩ := fE.at h3 k (by simpa using hk)
  exact ⟨u, jxs, by rw [h0]; exact g0, g1, g2⟩
def fG (B : Nat) (t : TypeId) (u : Value) (R : World → (Nat → Prop) → List Cell → Prop) (p : Nat) (w : World) (fp : Nat → Prop) (σ : List Cell) : Prop :=
 ∃ v fpc, w.heap[p]? = some (.cells #[v, .iface t u] 127 (0, 0)) ∧ w.ownsRow 0 24 1 v σ.length ((ends gW 0 σ).flatMap dH) ∧ R w fpc (σ.flatMap Cell.items) ∧ v.ownBlock ≠ some p ∧ ¬ fpc p ∧ (∀ k, v.ownBlock = some k → ¬ fpc k) ∧
  (∀ k, fp k ↔ k = p ∨ v.ownBlock = some k ∨ fpc k) ∧ ∀ k, fp k → B ≤ k
section
variable {B : Nat} {t : TypeId} {u : Value} {T : Ty} {st : List UInt8} {R Rp : World → (Nat → Prop) → List Cell → Prop}
theorem fG.lt (hRl : ∀ {w fp σ}, R w fp σ → ∀ k, fp k → B ≤ k ∧ k < w.heap.size) {p : Nat} {w : World} {fp : Nat → Prop} {σ : List Cell} (h : fG B t u R p w fp σ) : ∀ k, fp k → B ≤ k ∧ k < w.heap.size := by
 obtain ⟨v, fpc, hp, hown, hR, n1, n2, n3, hfp, hB⟩ := h
 intro k hk
 refine ⟨hB k hk, ?_⟩
 rcases (hfp k).1 hk with rfl | hk | hk
 · exact aH hp
 · exact aK hown hk
 · exact (hRl hR k hk).2
theorem fG.aT (hRf : ∀ {w w' fp σ}, R w fp σ → (∀ k, fp k → w'.heap[k]? = w.heap[k]?) → R w' fp σ) {p : Nat} {w w' : World} {fp : Nat → Prop} {σ : List Cell} (h : fG B t u R p w fp σ) (hk : ∀ k, fp k → w'.heap[k]? = w.heap[k]?) : fG B t u R p w' fp σ := by
 obtain ⟨v, fpc, hp, hown, hR, n1, n2, n3, hfp, hB⟩ := h
 refine ⟨v, fpc, (hk p ((hfp p).2 (.inl rfl))).trans hp, ⟨hown.1, ?_⟩, hRf hR (fun k h => hk k ((hfp k).2 (.inr (.inr h)))), n1, n2, n3, hfp, hB⟩
 rcases hown.2 with h0 | ⟨g, cap, cur, rfl, hb, hgg, rest⟩
 · exact .inl h0
 · exact .inr ⟨g, cap, cur, rfl, hb, (hk g ((hfp g).2 (.inr (.inl rfl)))).trans hgg, rest⟩
theorem fG.grown (hRf : ∀ {w w' fp σ}, R w fp σ → (∀ k, fp k → w'.heap[k]? = w.heap[k]?) → R w' fp σ) (hRl : ∀ {w fp σ}, R w fp σ → ∀ k, fp k → B ≤ k ∧ k < w.heap.size)
 {w w1 w2 w3 : World} {p : Nat} {fp fpc fpc1 : Nat → Prop} {σ : List Cell} {c : Cell} {v v' : Value} (hown : w.ownsRow 0 24 1 v σ.length ((ends gW 0 σ).flatMap dH))
 (hp : w.heap[p]? = some (.cells #[v, .iface t u] 127 (0, 0))) (n1 : v.ownBlock ≠ some p) (n2 : ¬ fpc p) (n3 : ∀ k, v.ownBlock = some k → ¬ fpc k) (hfp : ∀ k, fp k ↔ k = p ∨ v.ownBlock = some k ∨ fpc k) (hB : ∀ k, fp k → B ≤ k)
 (hf1 : Fr fpc w w1) (hR1 : R w1 fpc1 (σ.flatMap Cell.items ++ c.items)) (hg1 : Grow w fpc fpc1) (h12 : Fr (fun _ => False) w1 w2)
 (ha : dA w2 w3 24 1 v v' (σ.length + 1) ((ends gW 0 σ).flatMap dH ++ [.int .u64 (σ.flatMap Cell.items ++ c.items).length])) :
 Fr fp w (w3.setCell ⟨p, 0, none⟩ v') ∧ ∃ fp', fG B t u R p (w3.setCell ⟨p, 0, none⟩ v') fp' (σ ++ [c]) ∧ Grow w fp fp' := by
 have hpl := aH hp
 have hvl : ∀ k, v.ownBlock = some k → k < w.heap.size := fun k hk => aK hown hk
 have hs1 := hf1.size
 have hs2 := h12.size
 obtain ⟨h1, h2, h3, h4, h5⟩ := dQ (i := 0) ((hf1.block p hpl n2).trans hp) (hf1.owns hown n3) n1 h12 ha
 have hkeep : ∀ k, fpc1 k → (w3.setCell ⟨p, 0, none⟩ v').heap[k]? = w1.heap[k]? := fun k hk => h5.block k (hRl hR1 k hk).2 (fun h => by
  rcases hg1 k hk with h' | h'
  · rcases h with rfl | h
    · exact n2 h'
    · exact n3 k h h'
  · rcases h with rfl | h
    · omega
    · have := hvl k h; omega)
 have hv' : ∀ k, v'.ownBlock = some k → v.ownBlock = some k ∨ w1.heap.size ≤ k := fun k hk => by
  rcases h4 with e | e
  · exact .inl (by rw [← e, hk])
  · rw [e] at hk
    simp only [Option.some.injEq] at hk
    exact .inr (by omega)
 refine ⟨(hf1.mono (fun k _ h => (hfp k).2 (.inr (.inr h)))).trans h5 (fun k _ h => (hfp k).2 (h.imp id .inl)), fun k => k = p ∨ v'.ownBlock = some k ∨ fpc1 k, ⟨v', fpc1, h1, ?_, ?_, h3, fun h => ?_, fun k hk h => ?_, fun k => Iff.rfl, fun k hk => ?_⟩, fun k hk => ?_⟩
 · rw [kJ, List.flatMap_append, List.length_append]
   have e : 0 + total gW σ + gW c = (σ.flatMap Cell.items ++ c.items).length := by rw [lC, List.length_append, Nat.zero_add]; rfl
   rw [e]
   exact h2
 · rw [List.flatMap_append, List.flatMap_singleton]
   exact hRf hR1 hkeep
 · rcases hg1 p h with h | h
   · exact n2 h
   · omega
 · rcases hv' k hk with h' | h'
   · rcases hg1 k h with h | h
     · exact n3 k h' h
     · have := hvl k h'; omega
   · have := (hRl hR1 k h).2; omega
 · rcases hk with rfl | hk | hk
   · exact hB k ((hfp k).2 (.inl rfl))
   · rcases hv' k hk with h | h
     · exact hB k ((hfp k).2 (.inr (.inl h)))
     · have := hB p ((hfp p).2 (.inl rfl)); omega
   · exact (hRl hR1 k hk).1
 · rcases hk with rfl | hk | hk
   · exact .inl ((hfp k).2 (.inl rfl))
   · exact (hv' k hk).imp (fun h => (hfp k).2 (.inr (.inl h))) (fun h => by omega)
   · exact (hg1 k hk).imp (fun h => (hfp k).2 (.inr (.inr h))) id
theorem aDF (cs : bI Tryz.prog B t u T st R Rp)
 (w : World) (p : Nat) (fp : Nat → Prop) (σ : List Cell) (h : fG B t u R p w fp σ) (c : Cell) (sv : Value) (xs : List Value) (hs : Sl B w 8 sv c.items.length xs) (hcs : aC B w c.items xs) (hw : wts (σ ++ [c]) ≤ 2147483648) :
 Calls Tryz.prog 160 #[.pointer (some ⟨p, 0, none⟩), sv] w fun e w' => e = .returned (.tuple #[]) ∧ Fr fp w w' ∧ ∃ fp', fG B t u R p w' fp' (σ ++ [c]) ∧ Grow w fp fp' := by
 obtain ⟨v, fpc, hp, hown, hR, n1, n2, n3, hfp, hB⟩ := h
 have hpl := aH hp
 have hlt : ∀ k, fpc k → k < w.heap.size := fun k hk => (cs.lo hR k hk).2
 have hvl : ∀ k, v.ownBlock = some k → k < w.heap.size := fun k hk => aK hown hk
 have hwt := iE (σ ++ [c])
 have hlen := aN (σ ++ [c])
 rw [List.flatMap_append, List.flatMap_singleton, List.length_append, List.length_singleton] at hwt
 rw [List.length_append, List.length_singleton] at hlen
 have hn2 := aN (σ.flatMap Cell.items ++ c.items)
 have hi := cs.appendArr hR hs hcs (show wts _ ≤ _ by omega)
 obtain ⟨a0, c0, rfl⟩ := ownsRow_shape hown
 have d0 : w.cell? ⟨p, 0, none⟩ = some (.slice a0 σ.length c0) := by rw [cell_of_row _ _ _ _ _ _ hp]; rfl
 have d1 : w.cell? ⟨p, 1, none⟩ = some (.iface t u) := by rw [cell_of_row _ _ _ _ _ _ hp]; rfl
 go_enter Tryz.func160, Tryz.ntmps160
 go_wp2_with ((with_reducible show wpList _ _ _ (⟨some 9, _, _, _, _, _⟩ :: _) _ _); refine aY _ rfl _ _ _ _ rfl _ _ rfl hi rfl ?_; rintro e w1 ⟨rfl, hf1, fpc1, hR1, hg1⟩; refine ⟨_, rfl, ?_⟩)
 have hs1 := hf1.size
 have p1 : w1.heap[p]? = some (.cells #[.slice a0 σ.length c0, .iface t u] 127 (0, 0)) := (hf1.block p hpl n2).trans hp
 have o1 := hf1.owns hown n3
 have q0 : w1.cell? ⟨p, 0, none⟩ = some (.slice a0 σ.length c0) := hf1.aA d0 n2
 have q1 : w1.cell? ⟨p, 1, none⟩ = some (.iface t u) := hf1.aA d1 n2
 have hR1d : R w1.drew fpc1 (σ.flatMap Cell.items ++ c.items) := cs.frame hR1 (fun _ _ => rfl)
 have hrows := cs.rows hR1d
 generalize hN : (σ.flatMap Cell.items ++ c.items).length = N at hrows hn2
 have hwr : IntKind.u64.wrap (N : Int) = N := by rw [IntKind.wrap_u64]; omega
 clear d0 d1 hi hs hcs
 go_region_law (first
  | (refine aS _ rfl ?_; refine bU _ _ _ _ _ rfl _ _ rfl hrows rfl ?_; rintro e w2 ⟨rfl, hf2⟩; refine ⟨_, rfl, ?_⟩; have r0 := hf2.aA (show w1.drew.cell? ⟨p, 0, none⟩ = _ from q0) (fun h => h); have r1 := hf2.aA (show w1.drew.cell? ⟨p, 1, none⟩ = _ from q1) (fun h => h); have hf12 := hf2.aG; have r0a : ∀ o, (w2.alloc o).cell? ⟨p, 0, none⟩ = some (.slice a0 σ.length c0) := fun o => (hf12.alloc o).aA q0 (fun h => h))
  | (refine aS _ rfl ?_; refine dB _ vC _ _ rfl _ _ _ rfl ((hf12.owns o1 (fun _ _ h => h)).alloc _) _ _ _ rfl (Src.ofSlice _ Tryz.underlying125 _ _ _ _ rfl (aW _ [.int .u64 N] _) (by simp [Value.oneCell'])) ?_ ?_ ?_; (unfold maxLen; omega); omega; intro v' w3 ha; obtain ⟨a', c', rfl⟩ := ha.shape; obtain ⟨hcs3, hfs3⟩ := dU p1 n1 (hf12.alloc _) ha; have s0 : w3.cell? ⟨p, 0, none⟩ = some (.slice a0 σ.length c0) := hcs3 0; have g0 := hfs3 0))
 all_goals
  go_end0
  subst hN
  exact ⟨rfl, fG.grown (R := R) cs.frame cs.lo hown hp n1 n2 n3 hfp hB hf1 hR1 hg1 (hf12.alloc _) ha⟩
theorem xU (sp : bI Tryz.prog B t u T st R Rp) (w : World) (p : Nat) (fp : Nat → Prop) (σ : List Cell) (h : fG B t u R p w fp σ) (cs : List Cell) (tv : Value) (vals : List Value) (hown : w.ownsRow 0 31 1 tv cs.length vals) (hni : fE B w cs vals)
 (hd : ∀ k, tv.ownBlock = some k → ¬ fp k) (hw : wts (σ ++ cs) ≤ 2147483648) :
 Calls Tryz.prog 177 #[.pointer (some ⟨p, 0, none⟩), tv] w fun e w' => e = .returned (.tuple #[]) ∧ Fr fp w w' ∧ ∃ fp', fG B t u R p w' fp' (σ ++ cs) ∧ Grow w fp fp' := by
 obtain ⟨at_, ct, rfl⟩ := ownsRow_shape hown
 have hlo := h.lt sp.lo
 have hBw : B ≤ w.heap.size := by
  obtain ⟨v, fpc, hp, _, _, _, _, _, hfp, _⟩ := h
  have := hlo p ((hfp p).2 (.inl rfl))
  omega
 have hcm : cs.length ≤ 9223372036854775807 := by
  have := aN (σ ++ cs)
  rw [List.length_append] at this
  omega
 go_enter Tryz.func177, Tryz.ntmps177
 go_wp2
 go_loopw [5, 8] (fun _ i wr => ∃ (k : Nat) (fpk : Nat → Prop), k ≤ cs.length ∧ i = .int .i64 k ∧ fG B t u R p wr fpk (σ ++ cs.take k) ∧ Grow w fp fpk ∧ Fr fp w wr) (fun _ i _ => cs.length - (intOf i).toNat)
 case atStart => exact ⟨0, fp, Nat.zero_le _, rfl, by simpa using h, fun k hk => .inl hk, Fr.refl _ _⟩
 case round =>
  obtain ⟨k, fpk, hk, rfl, hat, hg, hfr⟩ := hrel
  by_cases hlt : k < cs.length
  · have hownr := hfr.owns hown hd
    rcases hownr.2 with ⟨hv, _⟩ | ⟨ga, capa, cura, hv, _⟩
    · simp only [Value.slice.injEq] at hv; omega
    · simp only [Value.slice.injEq] at hv
      obtain ⟨rfl, _, rfl⟩ := hv
      obtain ⟨sv, ixs, hvx, hsl, hci⟩ := hni.at k hlt
      have hbr : Below B w wr := hfr.below hBw (fun q hq h => by have := (hlo q h).1; omega)
      have hslr := hsl.below hbr
      have hcir := aC.below hbr _ _ hci
      have hstep := Lib.hid (List.take_succ_eq_append_getElem hlt)
      have hwk : wts (σ ++ cs.take k ++ [cs[k]]) ≤ 2147483648 := by
       have := iT (σ ++ cs) (σ.length + (k + 1))
       rw [List.take_length_add_append, List.take_succ_eq_append_getElem hlt, ← List.append_assoc] at this
       omega
      generalize cs[k] = c at hsl hci hslr hcir hstep hwk
      have x0 := hownr.cells (g := ga) rfl _ _ hvx
      rw [Addr.add_lit, Nat.zero_add] at x0
      have hsz := hfr.size
      generalize hτ : σ ++ cs.take k = τ at hat hwk
      obtain ⟨v, fpc, hp, hownv, hR, n1, n2, n3, hfp, hB⟩ := hat
      have hpl := aH hp
      have hwt := iE (τ ++ [c])
      have hlen := aN (τ ++ [c])
      rw [List.flatMap_append, List.flatMap_singleton, List.length_append, List.length_singleton] at hwt
      rw [List.length_append, List.length_singleton] at hlen
      have hn2 := aN (τ.flatMap Cell.items ++ c.items)
      have hi := sp.appendArr hR hslr hcir (show wts _ ≤ _ by omega)
      obtain ⟨a0, c0, rfl⟩ := ownsRow_shape hownv
      have d0 : wr.cell? ⟨p, 0, none⟩ = some (.slice a0 τ.length c0) := by rw [cell_of_row _ _ _ _ _ _ hp]; rfl
      have d1 : wr.cell? ⟨p, 1, none⟩ = some (.iface t u) := by rw [cell_of_row _ _ _ _ _ _ hp]; rfl
      obtain ⟨sa, sc, rfl⟩ : ∃ sa sc, sv = .slice sa c.items.length sc := by obtain ⟨sa, sc, e, _⟩ := hslr.2; exact ⟨sa, sc, e⟩
      generalize c.items.length = sl at hsl hslr hi x0
      clear hni hvx hsl hci hslr hcir hownr
      go_wp2_with ((with_reducible show wpList _ _ _ (⟨some 17, _, _, _, _, _⟩ :: _) _ _); refine aY _ rfl _ _ _ _ rfl _ _ rfl hi rfl ?_; rintro e w1 ⟨rfl, hf1, fpc1, hR1, hg1⟩; refine ⟨_, rfl, ?_⟩)
      have hs1 := hf1.size
      have p1 : w1.heap[p]? = some (.cells #[.slice a0 τ.length c0, .iface t u] 127 (0, 0)) := (hf1.block p hpl n2).trans hp
      have o1 := hf1.owns hownv n3
      have q0 : w1.cell? ⟨p, 0, none⟩ = some (.slice a0 τ.length c0) := hf1.aA d0 n2
      have q1 : w1.cell? ⟨p, 1, none⟩ = some (.iface t u) := hf1.aA d1 n2
      have hR1d : R w1.drew fpc1 (τ.flatMap Cell.items ++ c.items) := sp.frame hR1 (fun _ _ => rfl)
      have hrows := sp.rows hR1d
      generalize hN : (τ.flatMap Cell.items ++ c.items).length = N at hrows hn2
      have hwr : IntKind.u64.wrap (N : Int) = N := by rw [IntKind.wrap_u64]; omega
      clear d0 d1 hi
      go_region_law (first
       | (refine aS _ rfl ?_; refine bU _ _ _ _ _ rfl _ _ rfl hrows rfl ?_; rintro e w2 ⟨rfl, hf2⟩; refine ⟨_, rfl, ?_⟩; have r0 := hf2.aA (show w1.drew.cell? ⟨p, 0, none⟩ = _ from q0) (fun h => h); have r1 := hf2.aA (show w1.drew.cell? ⟨p, 1, none⟩ = _ from q1) (fun h => h); have hf12 := hf2.aG; have r0a : ∀ o, (w2.alloc o).cell? ⟨p, 0, none⟩ = some (.slice a0 τ.length c0) := fun o => (hf12.alloc o).aA q0 (fun h => h))
       | (refine aS _ rfl ?_; refine dB _ vC _ _ rfl _ _ _ rfl ((hf12.owns o1 (fun _ _ h => h)).alloc _) _ _ _ rfl (Src.ofSlice _ Tryz.underlying125 _ _ _ _ rfl (aW _ [.int .u64 N] _) (by simp [Value.oneCell'])) ?_ ?_ ?_; (unfold maxLen; omega); omega; intro v' w3 ha; obtain ⟨a', c', rfl⟩ := ha.shape; obtain ⟨hcs3, hfs3⟩ := dU p1 n1 (hf12.alloc _) ha; have s0 : w3.cell? ⟨p, 0, none⟩ = some (.slice a0 τ.length c0) := hcs3 0; have g0 := hfs3 0))
      all_goals
       subst hN
       obtain ⟨hfin, fp', hat', hg'⟩ := fG.grown (R := R) sp.frame sp.lo hownv hp n1 n2 n3 hfp hB hf1 hR1 hg1 (hf12.alloc _) ha
       go_wp2
       go_roundw
       case rel =>
        refine ⟨k + 1, fp', by omega, by go_num, ?_, ?_, ?_⟩
        · rw [hstep.out, ← List.append_assoc, hτ]; exact hat'
        · intro q hq
          rcases hg' q hq with h | h
          · exact hg q h
          · exact .inr (by omega)
        · exact hfr.trans hfin (fun q hq h => (hg q h).resolve_right (by omega))
       case measure => simp [intOf]; omega
  · have hke : k = cs.length := by omega
    subst hke
    rw [List.take_length] at hat
    go_wp2
    go_end0
    exact ⟨rfl, hfr, fpk, hat, hg⟩
end
end Go.Proofs.YtcidlnjpabgioaaGreatDoor
namespace Go.Proofs.YtcidlnjpabgioaaGreatDoor
open Go.RowKit
theorem aDo : ElT Tryz.prog 460 31 (.slice none 0 0) 1 24 := ⟨Tryz.underlying460, info_parts (by kernel_rfl), rfl⟩
theorem aFW (w : World) (r0 r1 r2 r3 : Nat) (s : ByteArray) (null : Bool) (ia : Option Addr) (il ic : Nat) (kv : Value) :
 Calls Tryz.prog 182 #[.agg #[.int .u64 r0, .int .u64 r1, .int .u64 r2, .int .u64 r3, .string s, .bool null, .slice ia il ic, kv]] w fun e w' => e = .returned (.slice ia il ic) ∧ Fr (fun _ => False) w w' := by
 go_enter Tryz.func182, Tryz.ntmps182
 go_wp2
 go_ret
 exact ⟨rfl, (Fr.refl _ w).alloc _⟩
theorem aEh (w : World) (B : Nat) (hBw : B ≤ w.heap.size) (cs : List Cell) (v : Value) (xs : List Value) (hs : Sl B w 8 v cs.length xs) (hc : aC B w cs xs) (hn : cs.length ≤ 2147483648) :
 Calls Tryz.prog 181 #[v, .func (.func 182) #[] #[]] w fun e w' => ∃ tv, e = .returned tv ∧ (∃ vals, w'.ownsRow 0 31 1 tv cs.length vals ∧ fE B w' cs vals) ∧ (∀ q, tv.ownBlock = some q → w.heap.size ≤ q) ∧ Fr (fun _ => False) w w' := by
 have hs' := hs
 obtain ⟨hxl, ao, cap, rfl, hnc, hcm, h0, ha⟩ := hs
 unfold maxLen at hcm
 clear ha h0 hxl
 go_enter Tryz.func181, Tryz.ntmps181
 go_wp2
 go_loopw [5, 10] (fun tv i wr => ∃ (k : Nat) (vals : List Value), k ≤ cs.length ∧ i = .int .i64 k ∧ wr.ownsRow 0 31 1 tv k vals ∧ fE B wr (cs.take k) vals ∧ (∀ q, tv.ownBlock = some q → w.heap.size ≤ q) ∧ Fr (fun _ => False) w wr) (fun _ i _ => cs.length - (intOf i).toNat)
 case atStart => exact ⟨0, [], Nat.zero_le _, rfl, World.ownsRow_nil _ _ _ _, rfl, by simp [Value.ownBlock], Fr.refl _ _⟩
 case round =>
  obtain ⟨k, vals, hk, rfl, hown, hni, hsince, hfr⟩ := hrel
  have hbr : Below B w wr := hfr.below hBw (fun _ _ h => h)
  have hbB2 : B ≤ wr.heap.size := Nat.le_trans hBw hfr.size
  obtain ⟨a0, c0, rfl⟩ := ownsRow_shape hown
  by_cases hlt : k < cs.length
  · obtain ⟨b, off, cap', hv, hbB, vs, hvs, hcell⟩ := (hs'.below hbr).row (aC.below hbr _ _ hc) hlt
    have hstep := Lib.hid (List.take_succ_eq_append_getElem hlt)
    generalize cs[k] = c at hvs hstep
    obtain ⟨ia, ic, ka, kc, ixs, kxs, rfl, hit, hci, -, -⟩ := hvs.full
    simp only [Value.slice.injEq] at hv
    obtain ⟨rfl, _, rfl⟩ := hv
    have d0 := hcell 0 _ rfl
    have d1 := hcell 1 _ rfl
    have d2 := hcell 2 _ rfl
    have d3 := hcell 3 _ rfl
    have d4 := hcell 4 _ rfl
    have d5 := hcell 5 _ rfl
    have d6 := hcell 6 _ rfl
    have d7 := hcell 7 _ rfl
    simp only [Nat.add_zero] at d0
    obtain ⟨il, hil⟩ : ∃ il, c.items.length = il := ⟨_, rfl⟩
    generalize c.keys.length = kl at d7
    rw [hil] at hit d6
    have hilH := Lib.hid hil
    clear hil
    have hfa : Fr (fun _ => False) w (wr.alloc (.cells #[.int .u64 c.r0, .int .u64 c.r1, .int .u64 c.r2, .int .u64 c.r3, .string c.s, .bool c.null, .slice ia il ic, .slice ka kl kc] 35)) := hfr.alloc _
    have hin := aFW (wr.alloc (.cells #[.int .u64 c.r0, .int .u64 c.r1, .int .u64 c.r2, .int .u64 c.r3, .string c.s, .bool c.null, .slice ia il ic, .slice ka kl kc] 35)) c.r0 c.r1 c.r2 c.r3 c.s c.null ia il ic (.slice ka kl kc)
    clear hcell hvs hs' hc
    go_wp2_with (first | ((with_reducible show wpList _ _ _ (⟨some 17, _, _, _, _, _⟩ :: _) _ _); refine dE _ rfl _ _ _ rfl _ _ rfl (dC.func0 Tryz.call182 hin) rfl ?_; rintro e w1 ⟨rfl, hf1⟩; refine ⟨_, rfl, ?_⟩; have hfw1 : Fr (fun _ => False) w w1 := hfa.trans hf1 (fun _ _ h => h); have hown1 := hf1.owns ((Fr.refl (fun _ => False) wr).alloc _ |>.owns hown (fun _ _ h => h)) (fun _ _ h => h)) | ((with_reducible show wpList _ _ _ (⟨some 19, _, _, _, _, _⟩ :: _) _ _); refine aP _ rfl aDo _ _ rfl _ _ _ rfl (hown1.alloc _) _ _ _ rfl (Src.ofSlice _ Tryz.underlying460 _ _ _ _ rfl (aW _ [.slice ia il ic] _) (by simp [Value.oneCell'])) ?_ ?_ ?_; (unfold maxLen; omega); omega; intro v' w2 ha; obtain ⟨a', c', rfl⟩ := ha.shape))
    go_roundw
    case rel =>
     refine ⟨k + 1, _, by omega, by go_num, ha.1, ?_, (ha.since (hfw1.alloc _) hsince).1, (ha.since (hfw1.alloc _) hsince).2⟩
     rw [hstep.out]
     have hb2 : Below B wr w2 := (((((Fr.refl (fun _ => False) wr).alloc _).trans hf1 (fun _ _ h => h)).alloc _).mono (S' := fun q => w.heap.size ≤ q) (fun _ _ h => h.elim)).grown ha.2.1 (fun q hq => .inl (hsince q hq)) |>.below hbB2 (fun q hq h => by omega)
     exact fE.snoc (by rw [hilH.out]; exact hit.below hb2) (aC.below hb2 _ _ hci) (fE.below hb2 _ _ hni)
    case measure => simp [intOf]; omega
  · have hke : k = cs.length := by omega
    subst hke
    rw [List.take_length] at hni
    go_wp2
    go_ret
    exact ⟨_, rfl, ⟨_, hown, hni⟩, hsince, hfr⟩
end Go.Proofs.YtcidlnjpabgioaaGreatDoor
namespace Go.Proofs.YtcidlnjpabgioaaGreatDoor
open Go.RowKit
section
variable {B : Nat} {t : TypeId} {u : Value} {T : Ty} {st : List UInt8} {R Rp : World → (Nat → Prop) → List Cell → Prop}
theorem fG.base (hRl : ∀ {w fp σ}, R w fp σ → ∀ k, fp k → B ≤ k ∧ k < w.heap.size) {p : Nat} {w : World} {fp : Nat → Prop} {σ : List Cell} (h : fG B t u R p w fp σ) : B ≤ w.heap.size := by
 have hlo := h.lt (R := R) hRl
 obtain ⟨v, fpc, hp, _, _, _, _, _, hfp, _⟩ := h
 have := hlo p ((hfp p).2 (.inl rfl))
 omega
theorem zD (cs : bI Tryz.prog B t u T st R Rp) (w : World) (p : Nat) (fp : Nat → Prop) (σ : List Cell) (h : fG B t u R p w fp σ) (c : Cell) (vs : List Value) (hvs : bP B w c vs) (hw : wts (σ ++ [c]) ≤ 2147483648) :
 Calls Tryz.prog 178 #[.agg #[.pointer (some ⟨p, 0, none⟩)], .agg vs.toArray] w fun e w' => e = .returned (.tuple #[]) ∧ Fr fp w w' ∧ ∃ fp', fG B t u R p w' fp' (σ ++ [c]) ∧ Grow w fp fp' := by
 have hlo := h.lt cs.lo
 have hBw := h.base cs.lo
 obtain ⟨ia, ic, ka, kc, ixs, kxs, rfl, hit, hci, -, -⟩ := hvs.full
 have hcall := fun W (hf : Fr (fun _ => False) w W) => aDF cs W p fp σ (h.aT cs.frame fun k hk => hf.block k (hlo k hk).2 (fun h => h)) c _ ixs (hit.fr hBw hf) (aC.below (hf.below hBw (fun _ _ h => h)) _ _ hci) hw
 clear hit hci
 generalize c.items.length = il at hcall ⊢
 generalize c.keys.length = kl at hcall ⊢
 go_enter Tryz.func178, Tryz.ntmps178
 go_wp2_with (go_at_call 160; refine (hcall _ (((Fr.refl _ w).alloc _).alloc _)).mono ?_; rintro e w2 ⟨rfl, hf2, hfin⟩)
 go_end0
 obtain ⟨fp', h1, h2⟩ := hfin
 exact ⟨rfl, (((Fr.refl fp w).alloc _).alloc _).trans hf2 (fun _ _ h => h), fp', h1, fun k hk => (h2 k hk).imp id (fun h => by simp at h; omega)⟩
theorem qW (sp : bI Tryz.prog B t u T st R Rp) (w : World) (p : Nat) (fp : Nat → Prop) (σ : List Cell) (h : fG B t u R p w fp σ) (cs : List Cell) (v : Value) (ys : List Value) (hs : Sl B w 8 v cs.length ys) (hcs : aC B w cs ys) (hw : wts (σ ++ cs) ≤ 2147483648) :
 Calls Tryz.prog 179 #[.agg #[.pointer (some ⟨p, 0, none⟩)], v] w fun e w' => e = .returned (.tuple #[]) ∧ Fr fp w w' ∧ ∃ fp', fG B t u R p w' fp' (σ ++ cs) ∧ Grow w fp fp' := by
 have hlo := h.lt sp.lo
 have hBw := h.base sp.lo
 have hn : cs.length ≤ 2147483648 := by
  have := aN (σ ++ cs)
  rw [List.length_append] at this
  omega
 go_enter Tryz.func179, Tryz.ntmps179
 go_wp2_with fail
 generalize hW : w.alloc _ = W
 have hfrW : Fr (fun _ => False) w W := by subst hW; exact (Fr.refl _ w).alloc _
 have d0 : W.cell? ⟨w.heap.size, 0, none⟩ = some (.pointer (some ⟨p, 0, none⟩)) := by subst hW; rw [aB rfl]; rfl
 have hN : ¬ fp w.heap.size := fun h => by have := hlo _ h; omega
 have hsW := hs.fr hBw hfrW
 have hcsW := aC.below (hfrW.below hBw (fun _ _ h => h)) _ _ hcs
 have hBW : B ≤ W.heap.size := Nat.le_trans hBw hfrW.size
 have hsD := hsW.fr hBW (Fr.refl (fun _ => False) W).drew
 have hcsD := aC.below ((Below.refl B W).drew) _ _ hcsW
 clear hW hs hcs
 go_region_held3 (fun w' => w'.cell? ⟨w.heap.size, 0, none⟩ = some (.pointer (some ⟨p, 0, none⟩)))
  (first
   | exact d0
   | exact hf2.aA (hf1.aG.aA d0 (fun h => h)) hN
   | exact hf1.aG.aA d0 (fun h => h)
   | assumption)
  (first
   | (go_at_call 181; refine (aEh W.drew B hBW cs v ys hsD hcsD hn).mono ?_; rintro e w1 ⟨tv, rfl, ⟨vals, hown, hni⟩, hsince, hf1⟩)
   | (go_at_call 177; refine (xU sp _ p fp σ (h.aT sp.frame fun k hk => (hfrW.trans hf1.aG (fun _ _ h => h)).block k (hlo k hk).2 (fun h => h)) cs tv vals hown hni (fun k hk h => by have h1 := (hlo k h).2; have h2 : W.heap.size ≤ k := hsince k hk; have h3 := hfrW.size; omega) hw).mono ?_; rintro e w2 ⟨rfl, hf2, hfin⟩))
 all_goals
  go_end0
  obtain ⟨fp', h1, h2⟩ := hfin
  have hs1 := (hfrW.trans hf1.aG (fun _ _ h => h)).size
  exact ⟨rfl, ((hfrW.trans hf1.aG (fun _ _ h => h)).mono (fun _ _ h => h.elim)).trans hf2 (fun _ _ h => h), fp', h1, fun k hk => (h2 k hk).imp id (fun h => by omega)⟩
theorem fG.child {R' : World → (Nat → Prop) → List Cell → Prop} {w w' : World} {p : Nat} {fp fpc fpc' : Nat → Prop} {σ : List Cell} {v : Value} (hp : w.heap[p]? = some (.cells #[v, .iface t u] 127 (0, 0))) (hown : w.ownsRow 0 24 1 v σ.length ((ends gW 0 σ).flatMap dH))
 (n1 : v.ownBlock ≠ some p) (n2 : ¬ fpc p) (n3 : ∀ k, v.ownBlock = some k → ¬ fpc k) (hfp : ∀ k, fp k ↔ k = p ∨ v.ownBlock = some k ∨ fpc k) (hB : ∀ k, fp k → B ≤ k)
 (hf : Fr fpc w w') (hR : R' w' fpc' (σ.flatMap Cell.items)) (hg : Grow w fpc fpc') : Fr fp w w' ∧ ∃ fp', fG B t u R' p w' fp' σ ∧ Grow w fp fp' := by
 have hpl := aH hp
 have hvl : ∀ k, v.ownBlock = some k → k < w.heap.size := fun k hk => aK hown hk
 have hBp : B ≤ p := hB p ((hfp p).2 (.inl rfl))
 refine ⟨hf.mono (fun k _ h => (hfp k).2 (.inr (.inr h))), fun k => k = p ∨ v.ownBlock = some k ∨ fpc' k, ⟨v, fpc', (hf.block p hpl n2).trans hp, hf.owns hown n3, hR, n1, ?_, ?_, fun k => Iff.rfl, ?_⟩, ?_⟩
 · intro h
   rcases hg p h with h | h
   · exact n2 h
   · omega
 · intro k hk h
   rcases hg k h with h | h
   · exact n3 k hk h
   · have := hvl k hk; omega
 · rintro k (rfl | hk | hk)
   · exact hBp
   · exact hB k ((hfp k).2 (.inr (.inl hk)))
   · rcases hg k hk with h | h
     · exact hB k ((hfp k).2 (.inr (.inr h)))
     · omega
 · rintro k (rfl | hk | hk)
   · exact .inl ((hfp k).2 (.inl rfl))
   · exact .inl ((hfp k).2 (.inr (.inl hk)))
   · exact (hg k hk).imp (fun h => (hfp k).2 (.inr (.inr h))) id
theorem aBP (sp : bI Tryz.prog B t u T st R Rp) (w : World) (p : Nat) (fp : Nat → Prop) (σ : List Cell) (h : fG B t u R p w fp σ) :
 Calls Tryz.prog 164 #[.pointer (some ⟨p, 0, none⟩)] w fun e w' => e = .returned .nilIface ∧ Fr fp w w' ∧ ∃ fp', fG B t u Rp p w' fp' σ ∧ Grow w fp fp' := by
 obtain ⟨v, fpc, hp, hown, hR, n1, n2, n3, hfp, hB⟩ := h
 have d1 : w.cell? ⟨p, 1, none⟩ = some (.iface t u) := by rw [cell_of_row _ _ _ _ _ _ hp]; rfl
 obtain ⟨q, hta, hpr⟩ := sp.prepare
 have hta' := hta 59
 have hpr := hpr hR
 cases q with
 | false =>
  simp only [Bool.false_eq_true, if_false] at hpr hta'
  go_enter Tryz.func164, Tryz.ntmps164
  go_wp2
  go_ret
  exact ⟨rfl, Fr.refl _ _, fp, ⟨v, fpc, hp, hown, hpr, n1, n2, n3, hfp, hB⟩, fun k hk => .inl hk⟩
 | true =>
  simp only [if_true] at hpr hta'
  go_enter Tryz.func164, Tryz.ntmps164
  go_wp2_with ((with_reducible show wpList _ _ _ (⟨some 16, _, _, _, _, _⟩ :: _) _ _); refine aY _ rfl _ _ _ _ rfl _ _ rfl hpr rfl ?_; rintro e w' ⟨rfl, hf1, hR1⟩; refine ⟨_, rfl, ?_⟩)
  go_ret
  obtain ⟨fpc', h1, h2⟩ := hR1
  exact ⟨rfl, fG.child hp hown n1 n2 n3 hfp hB hf1 h1 h2⟩
theorem aFC (sp : bI Tryz.prog B t u T st R Rp) (w : World) (p : Nat) (fpc : Nat → Prop) (τ : List Cell) (hR : Rp w fpc τ) (d1 : w.cell? ⟨p, 1, none⟩ = some (.iface t u)) (b : Nat) (fb : Nat → Prop) (bs : List UInt8) (hb : Buf w b fb bs) (hd : ∀ k, fpc k → ¬ fb k) (hl : bs.length + st.length ≤ 2147483648) :
 Calls Tryz.prog 163 #[.pointer (some ⟨p, 0, none⟩), .pointer (some ⟨b, 0, none⟩)] w fun e w' => e = .returned (.tuple #[]) ∧ Fr fb w w' ∧ ∃ fb', Buf w' b fb' (bs ++ st) ∧ Grow w fb fb' := by
 obtain ⟨q, hta, hst⟩ := sp.state
 have hta' := hta 59
 cases q with
 | false =>
  simp only [Bool.false_eq_true, if_false] at hst hta'
  subst hst
  go_enter Tryz.func163, Tryz.ntmps163
  go_wp2
  go_end0
  exact ⟨rfl, Fr.refl _ w, fb, by simpa using hb, fun k hk => .inl hk⟩
 | true =>
  simp only [if_true] at hst hta'
  have hi := hst hR hb hd hl
  go_enter Tryz.func163, Tryz.ntmps163
  go_wp2_with ((with_reducible show wpList _ _ _ (⟨some 17, _, _, _, _, _⟩ :: _) _ _); refine aY _ rfl _ _ _ _ rfl _ _ rfl hi rfl ?_; rintro e w' ⟨rfl, hf1, hb1⟩; refine ⟨_, rfl, ?_⟩)
  go_end0
  exact ⟨rfl, hf1, hb1⟩
theorem eF (f : Cell → Nat) (n : Nat) (cs : List Cell) : ((ends f n cs).flatMap (aJ 8)).length = 8 * cs.length := by
 rw [bH _ 8 (bF 8 (by omega)), kG]
theorem aDd (sp : bI Tryz.prog B t u T st R Rp) (w : World) (fpc : Nat → Prop) (σ : List Cell) (hR : Rp w fpc (σ.flatMap Cell.items)) (v : Value) (hown : w.ownsRow 0 24 1 v σ.length ((ends gW 0 σ).flatMap dH)) (b : Nat) (fb : Nat → Prop) (bs : List UInt8) (hb : Buf w b fb bs) (hd : ∀ k, fpc k → ¬ fb k)
 (hdv : ∀ k, v.ownBlock = some k → ¬ fb k) (hw : wts σ ≤ 2147483648) (hl : bs.length + (enc (.arr T) σ).length ≤ 1099511627776) :
 Calls Tryz.prog 162 #[.agg #[v, .iface t u], .pointer (some ⟨b, 0, none⟩)] w fun e w' => e = .returned (.tuple #[]) ∧ Fr fb w w' ∧ ∃ fb', Buf w' b fb' (bs ++ enc (.arr T) σ) ∧ Grow w fb fb' := by
 obtain ⟨a1, c1, rfl⟩ := ownsRow_shape hown
 rw [aAI] at hl
 rw [List.length_append, eF] at hl
 have hlo := sp.lo' hR
 have hiw := iE σ
 have htl := lC σ
 have hil := aN (σ.flatMap Cell.items)
 have hA : Fr (fun _ => False) w (w.alloc (.cells #[.slice a1 σ.length c1, .iface t u] 127)) := (Fr.refl _ w).alloc _
 have hRA : Rp (w.alloc (.cells #[.slice a1 σ.length c1, .iface t u] 127)) fpc (σ.flatMap Cell.items) := sp.frame' hR fun k hk => Below.heap_alloc _ _ _ (hlo k hk).2
 have hbA : Buf (w.alloc (.cells #[.slice a1 σ.length c1, .iface t u] 127)) b fb bs := aF.aT hb fun k hk => Below.heap_alloc _ _ _ (aF.lt hb k hk)
 have hoA := hA.owns hown (fun _ _ h => h)
 have hflt : ∀ k, fb k → k < w.heap.size := aF.lt hb
 have hel := kG gW 0 σ
 have henc := nT _ b fb bs hbA a1 c1 (ends gW 0 σ) (by rw [hel]; exact hoA) (by rw [hel]; exact hdv) (fun c hc => by have := aBs gW 0 σ c hc; omega) (by rw [hel]; omega)
 rw [hel] at henc
 have q1 : (w.alloc (.cells #[.slice a1 σ.length c1, .iface t u] 127)).cell? ⟨w.heap.size, 1, none⟩ = some (.iface t u) := by rw [aB rfl]; rfl
 have hNb : ¬ fb w.heap.size := fun h => by have := hflt _ h; omega
 have hol := eF gW 0 σ
 go_enter Tryz.func162, Tryz.ntmps162
 go_wp2_with (first
  | (go_at_call 170; refine henc.mono ?_; rintro e w1 ⟨rfl, hf1, fb1, hb1, hg1⟩; have q2 := hf1.aA q1 hNb; have hsz1 := hf1.size; have hi := sp.encode (sp.frame' hRA (w' := w1) fun k hk => hf1.block k (sp.lo' hRA k hk).2 (hd k hk)) (show wts _ ≤ _ by omega) hb1 (fun k hk h => (hg1 k h).elim (hd k hk) (fun h => by have := (sp.lo' hRA k hk).2; omega)) (by rw [List.length_append, hol]; omega))
  | ((with_reducible show wpList _ _ _ (⟨some 11, _, _, _, _, _⟩ :: _) _ _); refine aY _ rfl _ _ _ _ rfl _ _ rfl hi rfl ?_; rintro e w2 ⟨rfl, hf2, fb2, hb2, hg2⟩; refine ⟨_, rfl, ?_⟩))
 go_end0
 refine ⟨rfl, ((hA.mono (fun _ _ h => h.elim)).trans hf1 (fun _ _ h => h)).trans hf2 (fun k hk h => (hg1 k h).resolve_right (by simp; omega)), fb2, ?_, fun k hk => ?_⟩
 · rw [aAI, ← List.append_assoc]
   exact hb2
 · rcases hg2 k hk with h | h
   · rcases hg1 k h with h | h
     · exact .inl h
     · simp at h; exact .inr (by omega)
   · simp at hsz1; exact .inr (by omega)
end
theorem aHv {w : World} {a : Addr} {u v : Value} (h0 : w.cell? a = some u) (h1 : w.cell? (a.add 1) = some v) : (loadVar 127 a).run Tryz.prog w = .ok (.agg #[u, v]) w := by
 have h : (Tryz.prog.info? 127).map (·.size) = some 2 := by kernel_rfl
 obtain ⟨i, hi, hs⟩ := Option.map_eq_some_iff.1 h
 exact pM Tryz.underlying127 hi hs h0 h1
theorem qL (p : Nat) (w : World) (name : String) (f : FuncId) (h : (name, f) = ("Append", 178) ∨ (name, f) = ("AppendArr", 179)) :
 (method (Tryz.prog.types.size + Made.depth) 76 (.agg #[.pointer (some ⟨p, 0, none⟩)]) name).run Tryz.prog w = .ok (f, .agg #[.pointer (some ⟨p, 0, none⟩)]) w := by
 rcases h with h | h <;> (simp only [Prod.mk.injEq] at h; obtain ⟨rfl, rfl⟩ := h; kernel_rfl)
theorem pO (p : Nat) (w : World) (u v : Value) (h0 : w.cell? ⟨p, 0, none⟩ = some u) (h1 : w.cell? ⟨p, 1, none⟩ = some v) (name : String) (f : FuncId)
 (h : (name, f) = ("Rows", 167) ∨ (name, f) = ("EncodeColumn", 162)) :
 (method (Tryz.prog.types.size + Made.depth) 76 (.agg #[.pointer (some ⟨p, 0, none⟩)]) name).run Tryz.prog w = .ok (f, .agg #[u, v]) w := by
 obtain ⟨n, hn⟩ := fuel
 rw [hn]
 have hr := jF (P := Tryz.prog) Tryz.underlying73 (aHv h0 (by simpa [Addr.add] using h1))
 rcases h with h | h <;> (simp only [Prod.mk.injEq] at h; obtain ⟨rfl, rfl⟩ := h; exact iC (n := n + 1) false Tryz.underlying76 rfl rfl (fun _ => by kernel_rfl) (by kernel_rfl) rfl hr)
theorem oG (p : Nat) (w : World) (name : String) (f : FuncId) (h : (name, f) = ("Prepare", 164) ∨ (name, f) = ("EncodeState", 163)) :
 (method (Tryz.prog.types.size + Made.depth) 76 (.agg #[.pointer (some ⟨p, 0, none⟩)]) name).run Tryz.prog w = .ok (f, .pointer (some ⟨p, 0, none⟩)) w := by
 obtain ⟨n, hn⟩ := fuel
 rw [hn]
 rcases h with h | h <;> (simp only [Prod.mk.injEq] at h; obtain ⟨rfl, rfl⟩ := h; exact iC (n := n + 1) true Tryz.underlying76 rfl rfl (fun _ => by kernel_rfl) (by kernel_rfl) rfl (kN Tryz.underlying73))
theorem aHt (w : World) (a : Option Addr) (n c : Nat) (x : Value) (hx : ∃ t u, x = .iface t u) : Calls Tryz.prog 167 #[.agg #[.slice a n c, x]] w fun e w' => e = .returned (.int .i64 n) ∧ Fr (fun _ => False) w w' := by
 obtain ⟨t, u, rfl⟩ := hx
 go_enter Tryz.func167, Tryz.ntmps167
 go_wp2_with (go_at_call 173; refine (wF _ a n c).mono ?_; rintro e w1 ⟨rfl, hf1⟩)
 go_ret
 exact ⟨rfl, ((Fr.refl _ w).alloc _).trans hf1 (fun _ _ h => h)⟩
theorem aBU {B : Nat} {t : TypeId} {u : Value} {T : Ty} {st : List UInt8} {R Rp : World → (Nat → Prop) → List Cell → Prop} (sp : bI Tryz.prog B t u T st R Rp) (p : Nat) :
 bI Tryz.prog B 76 (.agg #[.pointer (some ⟨p, 0, none⟩)]) (.arr T) st (fG B t u R p) (fG B t u Rp p) where
 lo := fun h => h.lt sp.lo
 lo' := fun h => h.lt sp.lo'
 frame := fun h hk => h.aT sp.frame hk
 frame' := fun h hk => h.aT sp.frame' hk
 append := by
  intro w fp σ c vs h hvs hw
  exact aI.of1 (qL p w _ _ (.inl rfl)) Tryz.call178 (zD sp w p fp σ h c vs hvs hw)
 appendArr := by
  intro w fp σ cs v xs h hs hcs hw
  exact aI.of1 (qL p w _ _ (.inr rfl)) Tryz.call179 (qW sp w p fp σ h cs v xs hs hcs hw)
 rows := by
  intro w fp σ h
  obtain ⟨v, fpc, hp, hown, _⟩ := h
  obtain ⟨a, c, rfl⟩ := ownsRow_shape hown
  exact aI.of0 (pO p w _ _ (by rw [cell_of_row _ _ _ _ _ _ hp]; rfl) (by rw [cell_of_row _ _ _ _ _ _ hp]; rfl) _ _ (.inl rfl)) Tryz.call167 (aHt w a _ c _ ⟨_, _, rfl⟩)
 flat := by rintro w name (rfl | rfl | rfl) n m <;> exact jQ (by kernel_rfl) (n + 1) (m + 1)
 ahead := fun w => by kernel_rfl
 prepare := ⟨true, fun x w => run_typeAssert_hasB Tryz.underlying102 (by kernel_rfl) _ x w, fun {w fp σ} h => by
  simp only [if_true]
  exact aI.of0 (oG p w _ _ (.inl rfl)) Tryz.call164 (aBP sp w p fp σ h)⟩
 state := ⟨true, fun x w => run_typeAssert_hasB Tryz.underlying172 (by kernel_rfl) _ x w, by
  simp only [if_true]
  intro w fp σ b fb bs h hb hd hl
  obtain ⟨v, fpc, hp, hown, hR, n1, n2, n3, hfp, hB⟩ := h
  exact aI.of1 (oG p w _ _ (.inr rfl)) Tryz.call163 (aFC sp w p fpc _ hR (by rw [cell_of_row _ _ _ _ _ _ hp]; rfl) b fb bs hb (fun k hk => hd k ((hfp k).2 (.inr (.inr hk)))) hl)⟩
 encode := by
  intro w fp σ b fb bs h hw hb hd hl
  obtain ⟨v, fpc, hp, hown, hR, n1, n2, n3, hfp, hB⟩ := h
  obtain ⟨a, c, rfl⟩ := ownsRow_shape hown
  exact aI.of1 (pO p w _ _ (by rw [cell_of_row _ _ _ _ _ _ hp]; rfl) (by rw [cell_of_row _ _ _ _ _ _ hp]; rfl) _ _ (.inr rfl)) Tryz.call162
   (aDd sp w fpc σ hR _ hown b fb bs hb (fun k hk => hd k ((hfp k).2 (.inr (.inr hk)))) (fun k hk => hd k ((hfp k).2 (.inr (.inl hk)))) hw hl)
end Go.Proofs.YtcidlnjpabgioaaGreatDoor
namespace Go.Proofs.YtcidlnjpabgioaaGreatDoor
open Go.RowKit
theorem aEq (t : TypeId) (u : Value) (w : World) : Calls Tryz.prog 32 #[.iface t u] w fun e w' => e = .returned (.pointer (some ⟨w.heap.size, 0, none⟩)) ∧ w' = w.alloc (.cells #[.slice none 0 0, .iface t u] 127) := by
 go_enter Tryz.func32, Tryz.ntmps32
 go_wp2
 go_ret
 exact ⟨rfl, rfl⟩
theorem aIx (t : Ty) (hkid : fV t) (hs : iW (text t)) (hn : (text t).length ≤ 900000) : fV (.arr t) := by
 intro w htab
 obtain ⟨ts, hts⟩ : ∃ ts, Hid (ts = [t]) := ⟨_, Lib.hid rfl⟩
 obtain ⟨LS, hLS⟩ : ∃ LS, Hid (LS = ts.map text) := ⟨_, Lib.hid rfl⟩
 have hLn : Hid (LS.length = ts.length) := Lib.hid (by rw [hLS.out, List.length_map])
 have hLb : LS.length ≤ 1000 := by rw [hLn.out, hts.out]; simp
 have hkids : ∀ x ∈ ts, fV x := fun x hx => by rw [hts.out] at hx; rw [List.mem_singleton.1 hx]; exact hkid
 have hpa : Calls Tryz.prog 31 #[.string (aV (text (.arr t)))] w (lJ [65, 114, 114, 97, 121] LS w) := by
  rw [text]
  exact iP w htab [65, 114, 114, 97, 121] (text t) LS (by unfold fM; decide) (by simp; omega) hs.ascii (by rw [hLS.out, hts.out]; exact kX hs)
 generalize aV (text (.arr t)) = txt at hpa
 go_enter Tryz.func23, Tryz.ntmps23
 go_wp2_with (go_at_call 31; refine hpa.mono ?_; rintro e w1 ⟨nm, v, rfl, hl, ⟨hown, hsince⟩, hb⟩; obtain ⟨av, cv, rfl⟩ := ownsRow_shape hown)
 go_loopw [5, 21] (fun l i wr => ∃ (k : Nat) (ks : List Kid), k ≤ LS.length ∧ i = .int .i64 k ∧ wr.ownsRow 0 59 1 l k (ks.map Kid.v) ∧ (∀ q, l.ownBlock = some q → w1.heap.size ≤ q) ∧ Apart l ks ∧ Kids w1.heap.size wr ks ∧ ks.map Kid.T = ts.take k ∧ Below w1.heap.size w1 wr) (fun _ i _ => LS.length - (intOf i).toNat)
 case atStart => exact ⟨0, [], Nat.zero_le _, rfl, World.ownsRow_nil _ _ _ _, by simp [Value.ownBlock], by simp [Apart], Kids.nil _ _, rfl, Below.refl _ _⟩
 case round =>
  obtain ⟨k, ks, hk, rfl, hownl, hsl, hal, hks, hkt, hbr⟩ := hrel
  obtain ⟨la, lc, rfl⟩ := ownsRow_shape hownl
  have hw1 := hbr.size
  by_cases hlt : k < LS.length
  · have hkl : k < ts.length := by rw [← hLn.out]; exact hlt
    have hstep := Lib.hid (List.take_succ_eq_append_getElem hkl)
    have hmem : ts[k] ∈ ts := List.getElem_mem _
    have hLk : LS[k]? = some (text ts[k]) := by rw [hLS.out, List.getElem?_map, List.getElem?_eq_getElem hkl]; rfl
    generalize ts[k] = tk at hstep hmem hLk
    have hownr := (Below.fr hbr).owns hown (fun _ _ h => h)
    rcases hownr.2 with ⟨hv, h0⟩ | ⟨ga, capa, cura, hv, _, _, hnc, hcm, _⟩
    · omega
    · simp only [Value.slice.injEq] at hv
      obtain ⟨rfl, _, rfl⟩ := hv
      have hcell := hownr.cells (g := ga) rfl k (.string (aV (text tk))) (by rw [List.getElem?_map, hLk]; rfl)
      rw [Addr.add_lit, Nat.zero_add] at hcell
      have hcall := hkids tk hmem wr ((htab.below hb).below hbr)
      have hll := fun q (h : (Value.slice la k lc).ownBlock = some q) => aK hownl h
      have hkt2 := Lib.hid hkt
      unfold maxLen at hcm
      clear hmem hLk hownr hkt hsince hown
      go_wp2_with (first
       | (go_at_call 23; refine hcall.mono ?_; rintro e w2 ⟨t, u, R, Rp, fp, rfl, cs, hR, hb2⟩; have hown2 := (Below.fr hb2).owns hownl (fun _ _ h => h))
       | ((with_reducible show wpList _ _ _ (⟨some 32, _, _, _, _, _⟩ :: _) _ _); refine aP _ rfl qN _ _ rfl _ _ _ rfl (hown2.alloc _) _ _ _ rfl (Src.ofSlice _ Tryz.underlying72 _ _ _ _ rfl (aW _ [.iface t u] _) (by simp [Value.oneCell'])) ?_ ?_ ?_; (unfold maxLen; omega); omega; intro v' w3 ha; obtain ⟨a', c', rfl⟩ := ha.shape))
      go_roundw
      case rel =>
       have hmore := Kids.more hks hw1 hb2 (k := ⟨t, u, tk, R, Rp, fp⟩) cs hR hll hal ha
       refine ⟨k + 1, ks ++ [⟨t, u, tk, R, Rp, fp⟩], by omega, by go_num, ?_, ?_, hmore.2, hmore.1, ?_, ?_⟩
       · rw [List.map_append]
         exact ha.1
       · intro q hq
         rcases ha.2.2 with e | e
         · exact hsl q (e.symm.trans hq)
         · rw [e] at hq
           simp only [Option.some.injEq] at hq
           have := hb2.size
           simp at hq
           omega
       · rw [List.map_append, hkt2.out, hstep.out]
         rfl
       · exact hbr.trans ((((Below.fr hb2).alloc _).mono (S' := fun q => w1.heap.size ≤ q) (fun _ _ h => h.elim)).grown ha.2.1 (fun q hq => .inl (hsl q hq)) |>.below hw1 (fun q hq h => by omega))
      case measure => simp [intOf]; omega
  · have hkl : k = ts.length := by rw [← hLn.out]; omega
    subst hkl
    rw [List.take_length] at hkt
    have hlen : ks.length = ts.length := by rw [← List.length_map (f := Kid.T), hkt]
    clear hkids hsince hown
    have hne : ts.length = 1 := by rw [hts.out]; rfl
    rcases hownl.2 with ⟨hv, h0⟩ | ⟨ga, capa, cura, hv, _, _, hnc, hcm, _⟩
    · omega
    · simp only [Value.slice.injEq] at hv
      obtain ⟨rfl, _, rfl⟩ := hv
      obtain ⟨kd, rfl⟩ := List.length_eq_one_iff.1 (hlen.trans hne)
      have hcell := hownl.cells (g := ga) rfl 0 (.iface kd.t kd.u) rfl
      simp only [Addr.add_lit, Nat.add_zero] at hcell
      have hkT : kd.T = t := by rw [hts.out] at hkt; simpa using hkt
      obtain ⟨hcs, hR⟩ := hks.1 kd (by simp)
      have hlo := fun q hq => hcs.lo hR q hq
      obtain ⟨kt, ku, kT, kR, kRp, kfp⟩ := kd
      simp only at hkT hcs hR hlo hcell
      subst hkT
      have hne2 := Lib.hid hne
      rw [hne] at hnc
      unfold maxLen at hcm
      have hone : (ts.length : Int) = 1 := by rw [hne]; rfl
      clear hkt hlen hownl hks hal hsl
      go_wp2_with (go_at_call 32; refine (aEq kt ku wr).mono ?_; rintro e w2 ⟨rfl, rfl⟩)
      go_ret
      have hs1 := hb.size
      have hlo2 : ∀ q, kfp q → w.heap.size ≤ q ∧ q < wr.heap.size := fun q hq => ⟨by have := (hlo q hq).1; omega, (hlo q hq).2⟩
      have hsp := aBU (hcs.low hs1) wr.heap.size
      refine ⟨_, _, fG w.heap.size kt ku kR wr.heap.size, fG w.heap.size kt ku kRp wr.heap.size, fun q => q = wr.heap.size ∨ kfp q, rfl, by rw [st]; exact hsp, ⟨.slice none 0 0, kfp, heap_alloc_new wr _, World.ownsRow_nil _ _ _ _, ?_, by simp [Value.ownBlock], fun h => by have := (hlo _ h).2; omega, by simp [Value.ownBlock], fun q => by simp [Value.ownBlock], ?_⟩, ?_⟩
      · exact hcs.frame hR fun q hq => Below.heap_alloc _ _ _ (hlo q hq).2
      · rintro q (rfl | hq)
        · omega
        · exact (hlo2 q hq).1
      · exact (hb.trans (hbr.mono hs1)).alloc (by omega) _
end Go.Proofs.YtcidlnjpabgioaaGreatDoor
namespace Go.Proofs.YtcidlnjpabgioaaGreatDoor
open Go.RowKit
mutual
def qK : Cell → Cell → Bool
 | .mk a0 a1 a2 a3 at' an ai ak, .mk b0 b1 b2 b3 bt bn bi bk => ((((a0 : Int) == b0 && (a1 : Int) == b1 && (a2 : Int) == b2 && (a3 : Int) == b3) && (at'.toList == bt.toList)) && (an == bn)) && allB ai bi && allB ak bk
def allB : List Cell → List Cell → Bool
 | [], [] => true
 | a :: l, b :: m => qK a b && allB l m
 | [], _ :: _ => false
 | _ :: _, [] => false
end
theorem aHR (a b : Cell) : qK a b = (((((a.r0 : Int) == b.r0 && (a.r1 : Int) == b.r1 && (a.r2 : Int) == b.r2 && (a.r3 : Int) == b.r3) && (a.s.toList == b.s.toList)) && (a.null == b.null)) && allB a.items b.items && allB a.keys b.keys) := by
 cases a
 cases b
 unfold qK
 rfl
theorem aBC : ∀ (l m : List Cell), allB l m = true → l.length = m.length
 | [], [], _ => rfl
 | a :: l, b :: m, h => by
  unfold allB at h
  rw [Bool.and_eq_true] at h
  rw [List.length_cons, List.length_cons, aBC l m h.2]
 | [], _ :: _, h => by unfold allB at h; cases h
 | _ :: _, [], h => by unfold allB at h; cases h
theorem zN : ∀ (l m : List Cell) (k : Nat) (hk : k < l.length) (hm : k < m.length), allB (l.take k) (m.take k) = true → allB (l.take (k + 1)) (m.take (k + 1)) = qK l[k] m[k] ∧ (qK l[k] m[k] = false → allB l m = false)
 | [], _, _, hk, _, _ => by simp at hk
 | _ :: _, [], _, _, hm, _ => by simp at hm
 | a :: l, b :: m, 0, _, _, _ => by
  refine ⟨by simp [allB], fun h => ?_⟩
  unfold allB
  simp only [List.getElem_cons_zero] at h
  rw [h]
  rfl
 | a :: l, b :: m, k + 1, hk, hm, h => by
  rw [List.take_succ_cons, List.take_succ_cons] at h
  unfold allB at h
  rw [Bool.and_eq_true] at h
  obtain ⟨h1, h2⟩ := zN l m k (by simpa using hk) (by simpa using hm) h.2
  rw [List.take_succ_cons, List.take_succ_cons]
  simp only [List.getElem_cons_succ]
  refine ⟨?_, fun hs => ?_⟩
  · conv => lhs; unfold allB
    rw [h.1, h1]
    rfl
  · unfold allB
    rw [h.1, h2 hs]
    rfl
theorem aKA (w : World) (a0 a1 a2 a3 b0 b1 b2 b3 : Int) :
 (Op.equalIn 10000 33 (.agg #[.int .u64 a0, .int .u64 a1, .int .u64 a2, .int .u64 a3]) (.agg #[.int .u64 b0, .int .u64 b1, .int .u64 b2, .int .u64 b3])).run Tryz.prog w = .ok (a0 == b0 && a1 == b1 && a2 == b2 && a3 == b3) w := by
 have hu : Tryz.prog.underlying 24 = some (.int .u64) := Tryz.underlying24
 obtain ⟨i, hi, -⟩ : ∃ i, Tryz.prog.info? 24 = some i ∧ i.zero = some (.int .u64 0) ∧ i.size = 1 ∧ i.bytes = 8 := info_parts (by kernel_rfl)
 have hc : Tryz.prog.cellsOf 24 = 1 := by kernel_rfl
 have e : ∀ d (x y : Int) (w : World), (Op.equalIn (d + 1) 24 (.int .u64 x) (.int .u64 y)).run Tryz.prog w = .ok (x == y) w := fun d x y w => by simp [Op.equalIn, run_underlying hu]
 rw [show (10000 : Nat) = 9999 + 1 from rfl, run_equalIn_array w 9999 _ _ Tryz.underlying33 hi, hc]
 simp only [show List.range 4 = [0, 1, 2, 3] from rfl]
 have hag : ∀ w : World, (isAgg 24).run Tryz.prog w = .ok false w := fun w => by simp [isAgg, run_underlying hu]
 have hp : ∀ (xs : Array Value) (i : Nat) (v : Value) (w : World), xs[i]? = some v → (part 24 xs i).run Tryz.prog w = .ok v w := fun xs i v w h => by simp [part, hag, h]
 have step : ∀ (xs ys : Array Value) (i : Nat) (is : List Nat) (x y : Int), xs[i]? = some (.int .u64 x) → ys[i]? = some (.int .u64 y) → (Op.eqItems 9999 24 1 xs ys (i :: is)).run Tryz.prog w = if x == y then (Op.eqItems 9999 24 1 xs ys is).run Tryz.prog w else .ok false w := fun xs ys i is x y hx hy => by
  simp only [Op.eqItems, Sem.run_bind, Nat.mul_one]
  rw [hp _ i _ w hx]
  simp only [Result.andThen_ok]
  rw [hp _ i _ w hy]
  simp only [Result.andThen_ok, e]
  cases x == y <;> simp
 rw [step _ _ 0 _ a0 b0 rfl rfl, step _ _ 1 _ a1 b1 rfl rfl, step _ _ 2 _ a2 b2 rfl rfl, step _ _ 3 _ a3 b3 rfl rfl]
 cases a0 == b0 <;> cases a1 == b1 <;> cases a2 == b2 <;> cases a3 == b3 <;> simp [Op.eqItems]
def aAT (a : Cell) : Prop := ∀ (B : Nat) (w : World) (b : Cell) (xs ys : List Value), bP B w a xs → bP B w b ys → B ≤ w.heap.size →
 Calls Tryz.prog 30 #[.agg xs.toArray, .agg ys.toArray] w fun e w' => e = .returned (.bool (qK a b)) ∧ Fr (fun _ => False) w w'
def aJq (l : List Cell) : Prop := ∀ (B : Nat) (w : World) (m : List Cell) (u v : Value) (xs ys : List Value), Sl B w 8 u l.length xs → aC B w l xs → Sl B w 8 v m.length ys → aC B w m ys → B ≤ w.heap.size →
 Calls Tryz.prog 19 #[u, v] w fun e w' => e = .returned (.bool (allB l m)) ∧ Fr (fun _ => False) w w'
theorem zU {w w1 : World} {xs ys : Array Value} {t u : TypeId} (hf : Fr (fun _ => False) ((w.alloc (.cells xs t)).alloc (.cells ys u)) w1) : (∀ j, w1.cell? ⟨w.heap.size, j, none⟩ = xs[j]?) ∧ ∀ j, w1.cell? ⟨w.heap.size + 1, j, none⟩ = ys[j]? := by
 have h1 : w1.heap[w.heap.size]? = some (.cells xs t (0, 0)) := (hf.block _ (by simp; omega) (fun h => h)).trans ((Below.heap_alloc _ _ _ (by simp)).trans (heap_alloc_new w _))
 have h2 : w1.heap[w.heap.size + 1]? = some (.cells ys u (0, 0)) := (hf.block _ (by simp) (fun h => h)).trans (by rw [show w.heap.size + 1 = (w.alloc (.cells xs t)).heap.size by simp]; exact heap_alloc_new _ _)
 exact ⟨fun j => by rw [cell_of_row _ _ _ _ _ _ h1], fun j => by rw [cell_of_row _ _ _ _ _ _ h2]⟩
theorem aKg (a : Cell) (hi : aJq a.items) (hk : aJq a.keys) : aAT a := by
 intro B w b xs ys ha hb hB
 obtain ⟨ia, ic, ka, kc, ixs, kxs, rfl, hit, hci, hkt, hck⟩ := ha.full
 obtain ⟨ja, jc, la, lc, jxs, lxs, rfl, hjt, hcj, hlt, hcl⟩ := hb.full
 have hsb := Lib.hid (aHR a b)
 have hI := fun W (hf : Fr (fun _ => False) w W) => hi B W b.items _ _ _ _ (hit.below (hf.below hB (fun _ _ h => h))) (aC.below (hf.below hB (fun _ _ h => h)) _ _ hci) (hjt.below (hf.below hB (fun _ _ h => h))) (aC.below (hf.below hB (fun _ _ h => h)) _ _ hcj) (Nat.le_trans hB hf.size)
 have hK := fun W (hf : Fr (fun _ => False) w W) => hk B W b.keys _ _ _ _ (hkt.below (hf.below hB (fun _ _ h => h))) (aC.below (hf.below hB (fun _ _ h => h)) _ _ hck) (hlt.below (hf.below hB (fun _ _ h => h))) (aC.below (hf.below hB (fun _ _ h => h)) _ _ hcl) (Nat.le_trans hB hf.size)
 generalize a.items.length = il at hI
 generalize b.items.length = jl at hI
 generalize a.keys.length = kl at hK
 generalize b.keys.length = ll at hK
 clear hit hci hkt hck hjt hcj hlt hcl ha hb
 have hrow := fun W : World => aKA W a.r0 a.r1 a.r2 a.r3 b.r0 b.r1 b.r2 b.r3
 generalize ((a.r0 : Int) == b.r0 && (a.r1 : Int) == b.r1 && (a.r2 : Int) == b.r2 && (a.r3 : Int) == b.r3) = rb at hrow hsb
 generalize allB a.items b.items = ib at hI hsb
 generalize allB a.keys b.keys = kb at hK hsb
 generalize qK a b = sb at hsb ⊢
 generalize (a.r0 : Int) = a0 at hrow ⊢
 generalize (a.r1 : Int) = a1 at hrow ⊢
 generalize (a.r2 : Int) = a2 at hrow ⊢
 generalize (a.r3 : Int) = a3 at hrow ⊢
 generalize (b.r0 : Int) = b0 at hrow ⊢
 generalize (b.r1 : Int) = b1 at hrow ⊢
 generalize (b.r2 : Int) = b2 at hrow ⊢
 generalize (b.r3 : Int) = b3 at hrow ⊢
 go_enter Tryz.func30, Tryz.ntmps30
 go_wp2_with (first
  | (go_at_call 19; refine (hK _ hf01).mono ?_; rintro e w2 ⟨rfl, hf2⟩)
  | (go_at_call 19; refine (hI _ (((Fr.refl (fun _ => False) w).alloc _).alloc _)).mono ?_; rintro e w1 ⟨rfl, hf1⟩; have hf01 : Fr (fun _ => False) w w1 := (((Fr.refl (fun _ => False) w).alloc _).alloc _).trans hf1 (fun _ _ h => h); have m6 : w1.cell? ⟨w.heap.size, 7, none⟩ = some (.slice ka kl kc) := (zU hf1).1 7; have m7 : w1.cell? ⟨w.heap.size + 1, 7, none⟩ = some (.slice la ll lc) := (zU hf1).2 7))
 all_goals go_ret
 all_goals rw [hsb.out]
 all_goals clear hrow hI hK hsb
 · exact ⟨congrArg (fun z => Ending.returned (.bool z)) (by simp [*]), hf01.trans hf2 (fun _ _ h => h)⟩
 · exact ⟨congrArg (fun z => Ending.returned (.bool z)) (by simp [*]), hf01⟩
 all_goals exact ⟨congrArg (fun z => Ending.returned (.bool z)) (by simp [*]), ((Fr.refl (fun _ => False) w).alloc _).alloc _⟩
theorem aHn (l : List Cell) (h : ∀ a ∈ l, aAT a) : aJq l := by
 intro B w m u v xs ys hu hcu hv hcv hB
 have hu' := hu
 have hv' := hv
 obtain ⟨hxl, ua, uc, rfl, hunc, hucm, -, -⟩ := hu'
 obtain ⟨hyl, va, vc, rfl, hvnc, hvcm, -, -⟩ := hv'
 have hlen := aBC l m
 obtain ⟨n, hn⟩ : ∃ n, Hid (l.length = n) := ⟨_, Lib.hid rfl⟩
 obtain ⟨k, hk⟩ : ∃ k, Hid (m.length = k) := ⟨_, Lib.hid rfl⟩
 rw [hn.out] at hunc
 rw [hk.out] at hvnc
 unfold maxLen at hucm hvcm
 have hlen' := Lib.hid hlen
 clear hlen hxl hyl
 go_enter Tryz.func19, Tryz.ntmps19
 rw [hn.out, hk.out]
 by_cases hnk : n = k
 · subst hnk
   go_wp2_with fail
   go_loopw [13] (fun i wr => ∃ j : Nat, j ≤ n ∧ i = .int .i64 j ∧ allB (l.take j) (m.take j) = true ∧ Fr (fun _ => False) w wr) (fun i _ => n - (intOf i).toNat)
   case atStart => exact ⟨0, Nat.zero_le _, rfl, by simp [allB], Fr.refl _ _⟩
   case round =>
    obtain ⟨j, hj, rfl, htake, hfr⟩ := hrel
    by_cases hjn : j < n
    · have hb := hfr.below hB (fun _ _ h => h)
      have hjl : j < l.length := by rw [hn.out]; exact hjn
      have hjm : j < m.length := by rw [hk.out]; exact hjn
      obtain ⟨b1, o1, cp1, hv1, hbB1, vs1, hvs1, hcell1⟩ := (hu.below hb).row (aC.below hb _ _ hcu) hjl
      obtain ⟨b2, o2, cp2, hv2, hbB2, vs2, hvs2, hcell2⟩ := (hv.below hb).row (aC.below hb _ _ hcv) hjm
      have hsame := h l[j] (List.getElem_mem _) B wr.drew m[j] vs1 vs2 (bP.below (Below.refl B wr).drew _ _ hvs1) (bP.below (Below.refl B wr).drew _ _ hvs2) (Nat.le_trans hB hfr.size)
      obtain ⟨ht1, ht2⟩ := zN l m j hjl hjm htake
      replace ht1 := Lib.hid ht1
      replace ht2 := Lib.hid ht2
      generalize qK l[j] m[j] = sb at hsame ht1 ht2
      obtain ⟨a0, a1, a2, a3, at', an, ia, il, ic, ka, kl, kc, rfl⟩ := hvs1.spelled
      obtain ⟨d0, d1, d2, d3, dt, dn, ja, jl, jc, la, ll, lc, rfl⟩ := hvs2.spelled
      simp only [Value.slice.injEq] at hv1 hv2
      obtain ⟨rfl, _, rfl⟩ := hv1
      obtain ⟨rfl, _, rfl⟩ := hv2
      have c0 := hcell1 0 _ rfl
      have c1 := hcell1 1 _ rfl
      have c2 := hcell1 2 _ rfl
      have c3 := hcell1 3 _ rfl
      have c4 := hcell1 4 _ rfl
      have c5 := hcell1 5 _ rfl
      have c6 := hcell1 6 _ rfl
      have c7 := hcell1 7 _ rfl
      have e0 := hcell2 0 _ rfl
      have e1 := hcell2 1 _ rfl
      have e2 := hcell2 2 _ rfl
      have e3 := hcell2 3 _ rfl
      have e4 := hcell2 4 _ rfl
      have e5 := hcell2 5 _ rfl
      have e6 := hcell2 6 _ rfl
      have e7 := hcell2 7 _ rfl
      simp only [Nat.add_zero] at c0 e0
      have hln := hn.out
      clear hcell1 hcell2 hvs1 hvs2 hu hv hcu hcv h hjl hjm
      go_wp2_with fail
      go_region_law (go_simp; go_at_call 30; refine hsame.mono ?_; rintro e w2 ⟨rfl, hf2⟩)
      all_goals
       have hf2' := hf2.aG
       go_wp2
       · rename_i hx
         go_ret
         exact ⟨congrArg (fun z => Ending.returned (.bool z)) (ht2.out (by simpa using hx)).symm, hfr.trans hf2' (fun _ _ h => h)⟩
       · rename_i hx
         go_roundw
         case rel => exact ⟨j + 1, by omega, by go_num, by rw [ht1.out]; simpa using hx, hfr.trans hf2' (fun _ _ h => h)⟩
         case measure => simp [intOf]; omega
    · have hje : j = n := by omega
      subst hje
      rw [List.take_of_length_le (by rw [hn.out]; exact Nat.le_refl _), List.take_of_length_le (by rw [hk.out]; exact Nat.le_refl _)] at htake
      go_wp2
      go_ret
      exact ⟨congrArg (fun z => Ending.returned (.bool z)) htake.symm, hfr⟩
 · have hne : ¬ (n : Int) = k := by omega
   go_wp2
   go_ret
   refine ⟨congrArg (fun z => Ending.returned (.bool z)) ?_, Fr.refl _ _⟩
   cases hab : allB l m with
   | false => rfl
   | true => exact absurd ((hn.out.symm.trans (hlen'.out hab)).trans hk.out) hnk
mutual
theorem aBK : ∀ a, aAT a
 | .mk a0 a1 a2 a3 t n is ks => aKg (.mk a0 a1 a2 a3 t n is ks) (aHn is (qV is)) (aHn ks (qV ks))
theorem qV : ∀ (l : List Cell), ∀ a ∈ l, aAT a
 | [], a, h => by simp at h
 | b :: l, a, h => by
  rcases List.mem_cons.1 h with h | h
  · rw [h]; exact aBK b
  · exact qV l a h
end
end Go.Proofs.YtcidlnjpabgioaaGreatDoor
namespace Go.Proofs.YtcidlnjpabgioaaGreatDoor
open Go.RowKit
theorem aGX (l : List Cell) (x : Cell) (B : Nat) (w : World) (u : Value) (xs vs : List Value) (hu : Sl B w 8 u l.length xs) (hcu : aC B w l xs) (hx : bP B w x vs) (hB : B ≤ w.heap.size) :
 Calls Tryz.prog 21 #[u, .agg vs.toArray] w fun e w' => ∃ b, e = .returned (.bool b) ∧ Fr (fun _ => False) w w' := by
 have hu' := hu
 obtain ⟨hxl, ua, uc, rfl, hunc, hucm, -, -⟩ := hu'
 obtain ⟨n, hn⟩ : ∃ n, Hid (l.length = n) := ⟨_, Lib.hid rfl⟩
 rw [hn.out] at hunc
 unfold maxLen at hucm
 have hxs := hx
 obtain ⟨x0, x1, x2, x3, xt, xn, ia, il, ic, ka, kl, kc, rfl⟩ := hx.spelled
 clear hxl hx
 go_enter Tryz.func21, Tryz.ntmps21
 rw [hn.out]
 go_wp2_with fail
 go_loopw [9] (fun i wr => ∃ j : Nat, j ≤ n ∧ i = .int .i64 j ∧ Fr (fun _ => False) (w.alloc (.cells #[.int .u64 x0, .int .u64 x1, .int .u64 x2, .int .u64 x3, .string xt, .bool xn, .slice ia il ic, .slice ka kl kc] 35)) wr) (fun i _ => n - (intOf i).toNat)
 case atStart => exact ⟨0, Nat.zero_le _, rfl, Fr.refl _ _⟩
 case round =>
  obtain ⟨j, hj, rfl, hfr⟩ := hrel
  have hfr0 : Fr (fun _ => False) w wr := ((Fr.refl (fun _ => False) w).alloc _).trans hfr (fun _ _ h => h)
  by_cases hjn : j < n
  · have hb := hfr0.below hB (fun _ _ h => h)
    have hjl : j < l.length := by rw [hn.out]; exact hjn
    obtain ⟨b1, o1, cp1, hv1, hbB1, vs1, hvs1, hcell1⟩ := (hu.below hb).row (aC.below hb _ _ hcu) hjl
    have hs0 := hfr0.size
    have hsame := fun (o : Obj) => aBK x B (wr.alloc o) l[j] _ vs1 (bP.below (hb.alloc (by omega) o) _ _ hxs) (bP.below ((Below.refl B wr).alloc (by omega) o) _ _ hvs1) (by simp; omega)
    generalize qK x l[j] = sb at hsame
    obtain ⟨a0, a1, a2, a3, at', an, ja, jl, jc, la, ll, lc, rfl⟩ := hvs1.spelled
    simp only [Value.slice.injEq] at hv1
    obtain ⟨rfl, _, rfl⟩ := hv1
    have c0 := hcell1 0 _ rfl
    have c1 := hcell1 1 _ rfl
    have c2 := hcell1 2 _ rfl
    have c3 := hcell1 3 _ rfl
    have c4 := hcell1 4 _ rfl
    have c5 := hcell1 5 _ rfl
    have c6 := hcell1 6 _ rfl
    have c7 := hcell1 7 _ rfl
    simp only [Nat.add_zero] at c0
    have hxb : wr.heap[w.heap.size]? = some (.cells #[.int .u64 x0, .int .u64 x1, .int .u64 x2, .int .u64 x3, .string xt, .bool xn, .slice ia il ic, .slice ka kl kc] 35 (0, 0)) := (hfr.block _ (by simp) (fun h => h)).trans (heap_alloc_new w _)
    have hxw := aH hxb
    have hbx := fun (o : Obj) => aX.eight (aX.of_block (xs := [.int .u64 x0, .int .u64 x1, .int .u64 x2, .int .u64 x3, .string xt, .bool xn, .slice ia il ic, .slice ka kl kc]) ((Below.heap_alloc wr o _ hxw).trans hxb))
    have g0 := fun o => (hbx o).1
    have g1 := fun o => (hbx o).2.1
    have g2 := fun o => (hbx o).2.2.1
    have g3 := fun o => (hbx o).2.2.2.1
    have g4 := fun o => (hbx o).2.2.2.2.1
    have g5 := fun o => (hbx o).2.2.2.2.2.1
    have g6 := fun o => (hbx o).2.2.2.2.2.2.1
    have g7 := fun o => (hbx o).2.2.2.2.2.2.2
    clear hcell1 hvs1 hu hcu hjl hbx hxb hxs
    go_wp2_with (go_at_call 30; refine (hsame _).mono ?_; rintro e w2 ⟨rfl, hf2⟩)
    all_goals have hf2' : Fr (fun _ => False) wr w2 := ((Fr.refl (fun _ => False) wr).alloc _).trans hf2 (fun _ _ h => h)
    · go_ret
      exact ⟨true, rfl, hfr0.trans hf2' (fun _ _ h => h)⟩
    · go_roundw
      case rel => exact ⟨j + 1, by omega, by go_num, hfr.trans hf2' (fun _ _ h => h)⟩
      case measure => simp [intOf]; omega
  · go_wp2
    go_ret
    exact ⟨false, rfl, hfr0⟩
end Go.Proofs.YtcidlnjpabgioaaGreatDoor
