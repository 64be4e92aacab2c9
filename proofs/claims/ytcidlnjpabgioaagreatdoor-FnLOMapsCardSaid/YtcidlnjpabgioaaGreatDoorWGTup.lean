import Derived.Test.YtcidlnjpabgioaaGreatDoorWGTree
import Derived.Test.YtcidlnjpabgioaaGreatDoorWGArr
set_option maxHeartbeats 8000000
set_option maxRecDepth 100000
namespace Go.Proofs.YtcidlnjpabgioaaGreatDoor
open Go.RowKit
def kC (i : Nat) (σ : List Cell) : List Cell := σ.map fun c => c.items.getD i Cell.zero
theorem lQ (i : Nat) (a b : List Cell) : kC i (a ++ b) = kC i a ++ kC i b := List.map_append
theorem aCD (i : Nat) (a : List Cell) : (kC i a).length = a.length := List.length_map _
theorem aFi : ∀ (l : List Cell) (i : Nat), (l.getD i Cell.zero).wt ≤ 1 + wts l
 | [], i => by
  have h0 : (⟨#[]⟩ : ByteArray).size = 0 := rfl
  simp only [List.getD_nil, Cell.zero, Cell.wt, wts, h0]
  omega
 | c :: l, 0 => by rw [List.getD_cons_zero, wts]; omega
 | c :: l, i + 1 => by
  have := aFi l i
  rw [List.getD_cons_succ, wts]
  omega
theorem qI (i : Nat) : ∀ (σ : List Cell), wts (kC i σ) ≤ wts σ
 | [] => Nat.le_refl _
 | c :: σ => by
  have h1 := qI i σ
  have h2 := aFi c.items i
  have h3 := Cell.jW c
  show wts (c.items.getD i Cell.zero :: kC i σ) ≤ _
  rw [wts, wts]
  omega
theorem rU : ∀ (a : List Ty) (t : Ty) (j : Nat) (cs : List Cell), encs (a ++ [t]) j cs = encs a j cs ++ enc t (kC (j + a.length) cs)
 | [], t, j, cs => by simp [encs, kC]
 | x :: a, t, j, cs => by
  rw [List.cons_append, encs, encs, rU a t (j + 1) cs, List.append_assoc, List.length_cons, show j + 1 + a.length = j + (a.length + 1) by omega]
theorem vY : ∀ (a : List Ty) (t : Ty), sts (a ++ [t]) = sts a ++ st t
 | [], t => by simp [sts]
 | x :: a, t => by rw [List.cons_append, sts, sts, vY a t, List.append_assoc]
theorem lH {α : Type} (f : Nat → α) (k : Nat) : (List.range (k + 1)).map f = (List.range k).map f ++ [f k] := by rw [List.range_succ, List.map_append]; rfl
theorem aJW (f : Nat → Ty) (n : Nat) (cs : List Cell) : ∀ k, k ≤ n → (encs ((List.range k).map f) 0 cs).length ≤ (encs ((List.range n).map f) 0 cs).length := by
 induction n with
 | zero => intro k hk; rw [Nat.le_zero.1 hk]; exact Nat.le_refl _
 | succ n ih =>
  intro k hk
  rcases Nat.lt_or_ge n k with h | h
  · rw [show k = n + 1 by omega]; exact Nat.le_refl _
  · have := ih k h
    rw [lH f n, rU, List.length_append]
    omega
theorem aKy (f : Nat → Ty) (n : Nat) : ∀ k, k ≤ n → (sts ((List.range k).map f)).length ≤ (sts ((List.range n).map f)).length := by
 induction n with
 | zero => intro k hk; rw [Nat.le_zero.1 hk]; exact Nat.le_refl _
 | succ n ih =>
  intro k hk
  rcases Nat.lt_or_ge n k with h | h
  · rw [show k = n + 1 by omega]; exact Nat.le_refl _
  · have := ih k h
    rw [lH f n, vY, List.length_append]
    omega
structure aKf (n : Nat) (Q : Nat → World → (Nat → Prop) → Prop) (w : World) (fs : Nat → Nat → Prop) : Prop where
 has : ∀ i, i < n → Q i w (fs i)
 ap : ∀ i j, i < n → j < n → i ≠ j → ∀ q, fs i q → ¬ fs j q
theorem aKf.turn {n : Nat} {Q Q' : Nat → World → (Nat → Prop) → Prop} {w w' : World} {fs : Nat → Nat → Prop} {k : Nat} {f' : Nat → Prop} (h : aKf n Q w fs) (hk : k < n) (hlt : ∀ i, i < n → ∀ q, fs i q → q < w.heap.size) (hf : Fr (fs k) w w') (hq : Q' k w' f') (hg : Grow w (fs k) f')
 (ho : ∀ i, i < n → i ≠ k → Q i w (fs i) → (∀ q, fs i q → w'.heap[q]? = w.heap[q]?) → Q' i w' (fs i)) : aKf n Q' w' (fun i => if i = k then f' else fs i) := by
 refine ⟨fun i hi => ?_, fun i j hi hj hij q hq1 hq2 => ?_⟩
 · by_cases e : i = k
   · subst e; simpa using hq
   · simp only [if_neg e]
     exact ho i hi e (h.has i hi) (fun q hq => hf.block q (hlt i hi q hq) (h.ap i k hi hk e q hq))
 · by_cases e1 : i = k
   · have e2 : j ≠ k := fun e => hij (e1.trans e.symm)
     simp only [if_pos e1, if_neg e2] at hq1 hq2
     rcases hg q hq1 with h1 | h1
     · exact h.ap k j hk hj (fun e => e2 e.symm) q h1 hq2
     · have := hlt j hj q hq2; omega
   · simp only [if_neg e1] at hq1
     by_cases e2 : j = k
     · simp only [if_pos e2] at hq2
       rcases hg q hq2 with h1 | h1
       · exact h.ap i k hi hk e1 q hq1 h1
       · have := hlt i hi q hq1; omega
     · simp only [if_neg e2] at hq2
       exact h.ap i j hi hj hij q hq1 hq2
def dZ (B n : Nat) (K : Nat → Kid) (Q : Nat → World → (Nat → Prop) → Prop) (tv cv : Value) (w : World) (fp : Nat → Prop) : Prop :=
 ∃ fs, w.ownsRow 0 502 1 tv n ((List.range n).map fun i => (K i).v) ∧ w.ownsRow 0 59 1 cv n ((List.range n).map fun i => (K i).v) ∧ aKf n Q w fs ∧
  (∀ i, i < n → ∀ q, fs i q → (B ≤ q ∧ q < w.heap.size) ∧ tv.ownBlock ≠ some q ∧ cv.ownBlock ≠ some q) ∧ (∀ q, fp q ↔ tv.ownBlock = some q ∨ cv.ownBlock = some q ∨ ∃ i, i < n ∧ fs i q) ∧ ∀ q, fp q → B ≤ q
theorem oQ {w w' : World} {base : Nat} {e : TypeId} {size : Nat} {v : Value} {n : Nat} {xs : List Value} (h : w.ownsRow base e size v n xs) (hk : ∀ q, v.ownBlock = some q → w'.heap[q]? = w.heap[q]?) : w'.ownsRow base e size v n xs := by
 refine ⟨h.1, ?_⟩
 rcases h.2 with h0 | ⟨g, cap, cur, rfl, hb, hgg, rest⟩
 · exact .inl h0
 · exact .inr ⟨g, cap, cur, rfl, hb, (hk g rfl).trans hgg, rest⟩
namespace dZ
variable {B n : Nat} {K : Nat → Kid} {Q Q' : Nat → World → (Nat → Prop) → Prop} {tv cv : Value} {w w' : World} {fp : Nat → Prop}
theorem lt (h : dZ B n K Q tv cv w fp) : ∀ q, fp q → B ≤ q ∧ q < w.heap.size := by
 obtain ⟨fs, h1, h2, hm, hd, hfp, hB⟩ := h
 intro q hq
 refine ⟨hB q hq, ?_⟩
 rcases (hfp q).1 hq with hq | hq | ⟨i, hi, hq⟩
 · exact aK h1 hq
 · exact aK h2 hq
 · exact (hd i hi q hq).1.2
theorem aT (h : dZ B n K Q tv cv w fp) (hk : ∀ q, fp q → w'.heap[q]? = w.heap[q]?) (ho : ∀ i, i < n → ∀ f, Q i w f → (∀ q, f q → w'.heap[q]? = w.heap[q]?) → Q' i w' f) : dZ B n K Q' tv cv w' fp := by
 obtain ⟨fs, h1, h2, hm, hd, hfp, hB⟩ := h
 refine ⟨fs, oQ h1 (fun q hq => hk q ((hfp q).2 (.inl hq))), oQ h2 (fun q hq => hk q ((hfp q).2 (.inr (.inl hq)))), ⟨fun i hi => ho i hi _ (hm.has i hi) (fun q hq => hk q ((hfp q).2 (.inr (.inr ⟨i, hi, hq⟩)))), hm.ap⟩, fun i hi q hq => ?_, hfp, hB⟩
 obtain ⟨⟨a, b⟩, c⟩ := hd i hi q hq
 exact ⟨⟨a, aH ((hk q ((hfp q).2 (.inr (.inr ⟨i, hi, hq⟩)))).trans (Array.getElem?_eq_getElem b))⟩, c⟩
theorem at_ (h : dZ B n K Q tv cv w fp) {k : Nat} (hk : k < n) : ∃ fk, Q k w fk ∧ (∀ q, fk q → fp q ∧ B ≤ q ∧ q < w.heap.size) ∧
 ∀ {w' : World} {Q' : Nat → World → (Nat → Prop) → Prop} {f' : Nat → Prop}, Fr fk w w' → Q' k w' f' → Grow w fk f' → (∀ q, f' q → B ≤ q ∧ q < w'.heap.size) → (∀ i, i < n → i ≠ k → ∀ f, Q i w f → (∀ q, f q → w'.heap[q]? = w.heap[q]?) → Q' i w' f) →
  ∃ fp', dZ B n K Q' tv cv w' fp' ∧ Grow w fp fp' := by
 obtain ⟨fs, h1, h2, hm, hd, hfp, hB⟩ := h
 refine ⟨fs k, hm.has k hk, fun q hq => ⟨(hfp q).2 (.inr (.inr ⟨k, hk, hq⟩)), (hd k hk q hq).1⟩, fun {w' Q' f'} hf hq hg hl ho => ?_⟩
 have hs := hf.size
 have hmany := hm.turn hk (fun i hi q hq => (hd i hi q hq).1.2) hf hq hg (fun i hi hik hQ hkeep => ho i hi hik _ hQ hkeep)
 refine ⟨fun q => tv.ownBlock = some q ∨ cv.ownBlock = some q ∨ ∃ i, i < n ∧ (if i = k then f' else fs i) q, ⟨fun i => if i = k then f' else fs i, hf.owns h1 (fun q hq h => (hd k hk q h).2.1 hq), hf.owns h2 (fun q hq h => (hd k hk q h).2.2 hq), hmany, fun i hi q hq => ?_, fun q => Iff.rfl, ?_⟩, ?_⟩
 · by_cases e : i = k
   · simp only [if_pos e] at hq
     refine ⟨hl q hq, ?_⟩
     rcases hg q hq with h | h
     · exact (hd k hk q h).2
     · exact ⟨fun e => by have := aK h1 e; omega, fun e => by have := aK h2 e; omega⟩
   · simp only [if_neg e] at hq
     obtain ⟨⟨a, b⟩, c⟩ := hd i hi q hq
     exact ⟨⟨a, by omega⟩, c⟩
 · rintro q (hq | hq | ⟨i, hi, hq⟩)
   · exact hB q ((hfp q).2 (.inl hq))
   · exact hB q ((hfp q).2 (.inr (.inl hq)))
   · by_cases e : i = k
     · simp only [if_pos e] at hq; exact (hl q hq).1
     · simp only [if_neg e] at hq; exact (hd i hi q hq).1.1
 · rintro q (hq | hq | ⟨i, hi, hq⟩)
   · exact .inl ((hfp q).2 (.inl hq))
   · exact .inl ((hfp q).2 (.inr (.inl hq)))
   · by_cases e : i = k
     · simp only [if_pos e] at hq
       exact (hg q hq).imp (fun h => (hfp q).2 (.inr (.inr ⟨k, hk, h⟩))) id
     · simp only [if_neg e] at hq
       exact .inl ((hfp q).2 (.inr (.inr ⟨i, hi, hq⟩)))
theorem turn (h : dZ B n K Q tv cv w fp) (ho : ∀ i, i < n → ∀ f, Q i w f → Q' i w f) : dZ B n K Q' tv cv w fp := h.aT (fun _ _ => rfl) fun i hi f hq _ => ho i hi f hq
end dZ
end Go.Proofs.YtcidlnjpabgioaaGreatDoor
namespace Go.Proofs.YtcidlnjpabgioaaGreatDoor
open Go.RowKit
def wG (K : Nat → Kid) (σ : List Cell) : Nat → World → (Nat → Prop) → Prop := fun i w f => (K i).R w f (kC i σ)
def zC (K : Nat → Kid) (σ : List Cell) : Nat → World → (Nat → Prop) → Prop := fun i w f => (K i).Rp w f (kC i σ)
def lK (K : Nat → Kid) (σ : List Cell) (c : Cell) (k : Nat) : Nat → World → (Nat → Prop) → Prop := fun i w f => (K i).R w f (kC i (if i < k then σ ++ [c] else σ))
def lL (K : Nat → Kid) (σ : List Cell) (k : Nat) : Nat → World → (Nat → Prop) → Prop := fun i w f => if i < k then (K i).Rp w f (kC i σ) else (K i).R w f (kC i σ)
theorem aHh : Tryz.prog.types.size + Made.depth = 783 := by kernel_rfl
section
variable {B n : Nat} {K : Nat → Kid} {tv cv : Value}
theorem xQ (hK : ∀ i, i < n → bI Tryz.prog B (K i).t (K i).u (K i).T (st (K i).T) (K i).R (K i).Rp) (w : World) (hBw : B ≤ w.heap.size) (fp : Nat → Prop) (σ : List Cell) (h : dZ B n K (wG K σ) tv cv w fp) (c : Cell) (vs : List Value) (hvs : bP B w c vs) (hw : wts (σ ++ [c]) ≤ 2147483648) :
 Calls Tryz.prog 272 #[.agg #[tv, cv], .agg vs.toArray] w fun e w' => e = .returned (.tuple #[]) ∧ Fr fp w w' ∧ ∃ fp', dZ B n K (wG K (σ ++ [c])) tv cv w' fp' ∧ Grow w fp fp' := by
 have hlo := h.lt
 obtain ⟨⟨a1, c1, rfl⟩, ⟨a2, c2, rfl⟩, hnm⟩ : (∃ a c, tv = .slice a n c) ∧ (∃ a c, cv = .slice a n c) ∧ n ≤ 9223372036854775807 := by
  obtain ⟨fs, h1, h2, _⟩ := h
  refine ⟨ownsRow_shape h1, ownsRow_shape h2, ?_⟩
  rcases h1.2 with ⟨_, rfl⟩ | ⟨g, cap, cur, rfl, _, _, hnc, hcm, _⟩
  · omega
  · unfold maxLen at hcm; omega
 obtain ⟨ia, ic, ka, kc, ixs, kxs, rfl, hit, hci, -, -⟩ := hvs.full
 obtain ⟨il, hil⟩ : ∃ il, c.items.length = il := ⟨_, rfl⟩
 rw [hil] at hit ⊢
 generalize c.keys.length = kl
 go_enter Tryz.func272, Tryz.ntmps272
 go_wp2
 generalize hW : (w.alloc _).alloc _ = W
 have hfrW : Fr (fun _ => False) w W := by subst hW; exact ((Fr.refl _ w).alloc _).alloc _
 have hsW : W.heap.size = w.heap.size + 2 := by subst hW; simp
 have e6 : W.cell? ⟨w.heap.size + 1, 6, none⟩ = some (.slice ia il ic) := by subst hW; rw [aB (by simp)]; rfl
 clear hW
 have hW0 : dZ B n K (lK K σ c 0) (.slice a1 n c1) (.slice a2 n c2) W fp := h.aT (fun q hq => hfrW.block q (hlo q hq).2 (fun h => h)) fun i hi f hq hkeep => by
  unfold lK
  simp only [Nat.not_lt_zero, if_false]
  exact (hK i hi).frame hq hkeep
 go_loopw [4, 5, 9] (fun _ _ i wr => ∃ (k : Nat) (fpk : Nat → Prop), k ≤ n ∧ i = .int .i64 k ∧ dZ B n K (lK K σ c k) (.slice a1 n c1) (.slice a2 n c2) wr fpk ∧ Grow W fp fpk ∧ Fr fp W wr) (fun _ _ i _ => n - (intOf i).toNat)
 case atStart => exact ⟨0, fp, Nat.zero_le _, rfl, hW0, fun k hk => .inl hk, Fr.refl _ _⟩
 case round =>
  obtain ⟨k, fpk, hk, rfl, hat, hg, hfr⟩ := hrel
  by_cases hlt : k < n
  · have hat' := hat
    obtain ⟨fs, ho1, ho2, -⟩ := hat'
    rcases ho2.2 with ⟨hv, h0⟩ | ⟨g2, cap2, cur2, hv, -⟩
    · omega
    · simp only [Value.slice.injEq] at hv
      obtain ⟨rfl, _, rfl⟩ := hv
      have hcell := ho2.cells (g := g2) rfl k (.iface (K k).t (K k).u) (by rw [List.getElem?_map, List.getElem?_range hlt]; rfl)
      rw [Addr.add_lit, Nat.zero_add] at hcell
      obtain ⟨fk, hQk, hfk, hturn⟩ := hat.at_ hlt
      unfold lK at hQk
      simp only [Nat.lt_irrefl, if_false] at hQk
      have hother : ∀ (w' : World) (i : Nat), i < n → i ≠ k → ∀ f, lK K σ c k i wr f → (∀ q, f q → w'.heap[q]? = wr.heap[q]?) → lK K σ c (k + 1) i w' f := by
       intro w' i hi hik f hq hkeep
       unfold lK at hq ⊢
       have e : (i < k + 1) = (i < k) := by apply propext; omega
       simp only [e]
       exact (hK i hi).frame hq hkeep
      have hbox := hfr.aA e6 (fun h => absurd (hlo _ h).2 (by show ¬ (w.heap.size + 1 < w.heap.size); omega))
      have hwk : Wt (K k).T (kC k σ ++ [c.items.getD k Cell.zero]) ≤ 2147483648 := by
       have := qI k (σ ++ [c])
       rw [lQ] at this
       exact Nat.le_trans this hw
      have hBr : B ≤ wr.heap.size := by have := hfr.size; omega
      have hfr0 : Fr fp w wr := (hfrW.mono (fun _ _ h => h.elim)).trans hfr (fun _ _ h => h)
      have hbr : Below B w wr := hfr0.below hBw (fun q hq h => by have := (hlo q h).1; omega)
      clear ho1 ho2
      by_cases hkl : k < il
      · have hkl' : k < c.items.length := by omega
        obtain ⟨b, off, cap', hv, hbB, us, hus, hx⟩ := ((hil ▸ hit : Sl B w 8 (.slice ia il ic) c.items.length ixs).below hbr).row (aC.below hbr _ _ hci) hkl'
        have hget : c.items.getD k Cell.zero = c.items[k] := by rw [List.getD_eq_getElem?_getD, List.getElem?_eq_getElem hkl']; rfl
        have hst : kC k (σ ++ [c]) = kC k σ ++ [c.items[k]] := by rw [lQ]; show _ ++ [c.items.getD k Cell.zero] = _; rw [hget]
        rw [hget] at hwk
        have hstH := Lib.hid hst
        generalize c.items[k] = d at hus hwk hst hstH
        have hus' := hus
        obtain ⟨ja, jl, jc, la, ll, lc, rfl, -⟩ := hus.open
        simp only [Value.slice.injEq] at hv
        obtain ⟨rfl, -, rfl⟩ := hv
        have d0 := hx 0 _ rfl
        have d1 := hx 1 _ rfl
        have d2 := hx 2 _ rfl
        have d3 := hx 3 _ rfl
        have d4 := hx 4 _ rfl
        have d5 := hx 5 _ rfl
        have d6 := hx 6 _ rfl
        have d7 := hx 7 _ rfl
        simp only [Nat.add_zero] at d0
        have hi := (hK k hlt).append ((hK k hlt).frame (w' := wr.drew) hQk (fun _ _ => rfl)) (bP.below ((Below.refl B wr).drew) _ _ hus) hwk
        have hah : (nilAhead 783 (K k).t (K k).u "Append").run Tryz.prog wr.drew = .ok (some false) wr.drew := by rw [← aHh]; exact (hK k hlt).ahead wr.drew
        clear hx hus hci hit hst hget
        clear hil
        go_wp2
        go_region_law (first
         | (refine aS _ rfl ?_; refine bU _ _ _ _ _ rfl _ _ rfl hi rfl ?_; rintro e w2 ⟨rfl, hf2, f2, hR2, hg2⟩; refine ⟨_, rfl, ?_⟩))
        all_goals
         have hs2 := hf2.aG.size
         obtain ⟨fp', hat2, hg3⟩ := hturn (Q' := lK K σ c (k + 1)) hf2.aG (by unfold lK; simp only [Nat.lt_succ_self, if_true]; rw [hstH.out]; exact hR2) hg2 (fun q hq => (hK k hlt).lo hR2 q hq) (fun i hi hik f hq hkeep => hother _ i hi hik f hq hkeep)
         go_wp2
         go_roundw
         case rel =>
          refine ⟨k + 1, fp', by omega, by go_num, hat2, fun q hq => ?_, hfr.trans hf2.aG (fun q hq h => (hg q (hfk q h).1).resolve_right (by omega))⟩
          have := hfr.size
          rcases hg3 q hq with h | h
          · exact hg q h
          · exact .inr (by omega)
         case measure => simp [intOf]; omega
      · have hget : c.items.getD k Cell.zero = Cell.zero := by rw [List.getD_eq_getElem?_getD, List.getElem?_eq_none (by omega)]; rfl
        have hstH := Lib.hid (show kC k (σ ++ [c]) = kC k σ ++ [Cell.zero] by rw [lQ]; show _ ++ [c.items.getD k Cell.zero] = _; rw [hget])
        rw [hget] at hwk
        have hi := (hK k hlt).append hQk (bP.zero B wr) hwk
        clear hci hit hget hil
        go_wp2_with ((with_reducible show wpList _ _ _ (⟨some 31, _, _, _, _, _⟩ :: _) _ _); refine aY _ rfl _ _ _ _ rfl _ _ rfl hi rfl ?_; rintro e w2 ⟨rfl, hf2, f2, hR2, hg2⟩; refine ⟨_, rfl, ?_⟩)
        have hs2 := hf2.size
        obtain ⟨fp', hat2, hg3⟩ := hturn (Q' := lK K σ c (k + 1)) hf2 (by unfold lK; simp only [Nat.lt_succ_self, if_true]; rw [hstH.out]; exact hR2) hg2 (fun q hq => (hK k hlt).lo hR2 q hq) (fun i hi hik f hq hkeep => hother _ i hi hik f hq hkeep)
        go_roundw
        case rel =>
         refine ⟨k + 1, fp', by omega, by go_num, hat2, fun q hq => ?_, hfr.trans hf2 (fun q hq h => (hg q (hfk q h).1).resolve_right (by omega))⟩
         have := hfr.size
         rcases hg3 q hq with h | h
         · exact hg q h
         · exact .inr (by omega)
        case measure => simp [intOf]; omega
  · have hke : k = n := by omega
    subst hke
    go_wp2
    go_end0
    refine ⟨rfl, (hfrW.mono (fun _ _ h => h.elim)).trans hfr (fun _ _ h => h), fpk, hat.turn fun i hi f hq => ?_, fun q hq => (hg q hq).imp id (fun h => by omega)⟩
    unfold lK at hq
    rw [if_pos hi] at hq
    exact hq
end
end Go.Proofs.YtcidlnjpabgioaaGreatDoor
namespace Go.Proofs.YtcidlnjpabgioaaGreatDoor
open Go.RowKit
section
variable {B n : Nat} {K : Nat → Kid} {tv cv : Value}
theorem dZ.shape {Q : Nat → World → (Nat → Prop) → Prop} {w : World} {fp : Nat → Prop} (h : dZ B n K Q tv cv w fp) : (∃ a c, tv = .slice a n c) ∧ (∃ a c, cv = .slice a n c) ∧ n ≤ 9223372036854775807 := by
 obtain ⟨fs, h1, h2, _⟩ := h
 refine ⟨ownsRow_shape h1, ownsRow_shape h2, ?_⟩
 rcases h1.2 with ⟨_, rfl⟩ | ⟨g, cap, cur, rfl, _, _, hnc, hcm, _⟩
 · omega
 · unfold maxLen at hcm; omega
theorem dZ.cell {Q : Nat → World → (Nat → Prop) → Prop} {w : World} {fp : Nat → Prop} (h : dZ B n K Q tv cv w fp) {k : Nat} (hk : k < n) : ∃ g c, tv = .slice (some ⟨g, 0, none⟩) n c ∧ n ≤ c ∧ w.cell? ⟨g, k, none⟩ = some (.iface (K k).t (K k).u) := by
 obtain ⟨fs, ho1, ho2, _⟩ := h
 rcases ho1.2 with ⟨hv, h0⟩ | ⟨g, cap, cur, rfl, _, _, hnc, _⟩
 · omega
 · have hcell := ho1.cells (g := g) rfl k (.iface (K k).t (K k).u) (by rw [List.getElem?_map, List.getElem?_range hk]; rfl)
   rw [Addr.add_lit, Nat.zero_add] at hcell
   exact ⟨g, cap, rfl, hnc, hcell⟩
theorem yS (hK : ∀ i, i < n → bI Tryz.prog B (K i).t (K i).u (K i).T (st (K i).T) (K i).R (K i).Rp) (w : World) (hBw : B ≤ w.heap.size) (fp : Nat → Prop) (σ : List Cell) (h : dZ B n K (wG K σ) tv cv w fp) (cs : List Cell) (v : Value) (ys : List Value) (hs : Sl B w 8 v cs.length ys) (hcs : aC B w cs ys) (hw : wts (σ ++ cs) ≤ 2147483648) :
 Calls Tryz.prog 273 #[.agg #[tv, cv], v] w fun e w' => e = .returned (.tuple #[]) ∧ Fr fp w w' ∧ ∃ fp', dZ B n K (wG K (σ ++ cs)) tv cv w' fp' ∧ Grow w fp fp' := by
 have hlo := h.lt
 have hsh := h.shape
 have hs' := hs
 obtain ⟨hxl, ao, cap, rfl, hnc, hcm, h0, ha⟩ := hs
 unfold maxLen at hcm
 clear ha h0 hxl
 obtain ⟨⟨a1, c1, rfl⟩, ⟨a2, c2, rfl⟩, hnm⟩ := hsh
 go_enter Tryz.func273, Tryz.ntmps273
 go_wp2
 generalize hW : w.alloc _ = W
 have hfrW : Fr (fun _ => False) w W := by subst hW; exact (Fr.refl _ w).alloc _
 have hsW : W.heap.size = w.heap.size + 1 := by subst hW; simp
 have q0 : W.cell? ⟨w.heap.size, 0, none⟩ = some (.slice a1 n c1) := by subst hW; rw [aB (by simp)]; rfl
 have q1 : W.cell? ⟨w.heap.size, 1, none⟩ = some (.slice a2 n c2) := by subst hW; rw [aB (by simp)]; rfl
 clear hW
 have hframe : ∀ {w w' : World} {τ : List Cell}, ∀ i, i < n → ∀ f, wG K τ i w f → (∀ q, f q → w'.heap[q]? = w.heap[q]?) → wG K τ i w' f := fun i hi f hq hkeep => (hK i hi).frame hq hkeep
 have hW0 : dZ B n K (wG K σ) (.slice a1 n c1) (.slice a2 n c2) W fp := h.aT (fun q hq => hfrW.block q (hlo q hq).2 (fun h => h)) hframe
 go_loopw [8] (fun i wr => ∃ (k : Nat) (fpk : Nat → Prop), k ≤ cs.length ∧ i = .int .i64 k ∧ dZ B n K (wG K (σ ++ cs.take k)) (.slice a1 n c1) (.slice a2 n c2) wr fpk ∧ Grow W fp fpk ∧ Fr fp W wr) (fun i _ => cs.length - (intOf i).toNat)
 case atStart => exact ⟨0, fp, Nat.zero_le _, rfl, by simpa using hW0, fun k hk => .inl hk, Fr.refl _ _⟩
 case round =>
  obtain ⟨k, fpk, hk, rfl, hat, hg, hfr⟩ := hrel
  have hfr0 : Fr fp w wr := (hfrW.mono (fun _ _ h => h.elim)).trans hfr (fun _ _ h => h)
  have hbr : Below B w wr := hfr0.below hBw (fun q hq h => by have := (hlo q h).1; omega)
  have hBr : B ≤ wr.heap.size := by have := hfr.size; omega
  by_cases hlt : k < cs.length
  · obtain ⟨b, off, cap', hv, hbB, vs, hvs, hcell⟩ := (hs'.below hbr).row (aC.below hbr _ _ hcs) hlt
    have hstep := Lib.hid (List.take_succ_eq_append_getElem hlt)
    have hwk : wts (σ ++ cs.take k ++ [cs[k]]) ≤ 2147483648 := by
     have := iT (σ ++ cs) (σ.length + (k + 1))
     rw [List.take_length_add_append, List.take_succ_eq_append_getElem hlt, ← List.append_assoc] at this
     omega
    generalize cs[k] = c at hvs hstep hwk
    have hvs' := hvs
    obtain ⟨ia, il, ic, ka, kl, kc, rfl, -⟩ := hvs.open
    simp only [Value.slice.injEq] at hv
    obtain ⟨rfl, -, rfl⟩ := hv
    have d0 := hcell 0 _ rfl
    have d1 := hcell 1 _ rfl
    have d2 := hcell 2 _ rfl
    have d3 := hcell 3 _ rfl
    have d4 := hcell 4 _ rfl
    have d5 := hcell 5 _ rfl
    have d6 := hcell 6 _ rfl
    have d7 := hcell 7 _ rfl
    simp only [Nat.add_zero] at d0
    have x0 := hfr.aA q0 (fun h => absurd (hlo _ h).2 (by show ¬ (w.heap.size < w.heap.size); omega))
    have x1 := hfr.aA q1 (fun h => absurd (hlo _ h).2 (by show ¬ (w.heap.size < w.heap.size); omega))
    have x0a : ∀ o, (wr.alloc o).cell? ⟨w.heap.size, 0, none⟩ = some (.slice a1 n c1) := fun o => (((Fr.refl (fun _ => False) wr).alloc o).aA x0 (fun h => h))
    have x1a : ∀ o, (wr.alloc o).cell? ⟨w.heap.size, 1, none⟩ = some (.slice a2 n c2) := fun o => (((Fr.refl (fun _ => False) wr).alloc o).aA x1 (fun h => h))
    have hlok := hat.lt
    have happ := xQ hK (wr.alloc (.cells #[.int .u64 c.r0, .int .u64 c.r1, .int .u64 c.r2, .int .u64 c.r3, .string c.s, .bool c.null, .slice ia il ic, .slice ka kl kc] 35)) (by simp; omega) fpk (σ ++ cs.take k)
     (hat.aT (fun q hq => Below.heap_alloc _ _ _ (hlok q hq).2) hframe) c _ (bP.below ((Below.refl B wr).alloc hBr _) _ _ hvs) hwk
    clear hcell hvs hcs hs' hframe
    go_wp2_with (go_at_call 272; refine happ.mono ?_; rintro e w1 ⟨rfl, hf1, fp', hat', hg'⟩)
    go_roundw
    case rel =>
     refine ⟨k + 1, fp', by omega, by go_num, ?_, ?_, ?_⟩
     · rw [hstep.out, ← List.append_assoc]; exact hat'
     · intro q hq
       have := hfr.size
       rcases hg' q hq with h | h
       · exact hg q h
       · simp at h; exact .inr (by omega)
     · exact (hfr.alloc _).trans hf1 (fun q hq h => (hg q h).resolve_right (by omega))
    case measure => simp [intOf]; omega
  · have hke : k = cs.length := by omega
    subst hke
    rw [List.take_length] at hat
    go_wp2
    go_end0
    exact ⟨rfl, hfr0, fpk, hat, fun q hq => (hg q hq).imp id (fun h => by omega)⟩
theorem aGF (h0 : 0 < n) (w : World) (Q : Nat → World → (Nat → Prop) → Prop) (fp : Nat → Prop) (h : dZ B n K Q tv cv w fp) : Calls Tryz.prog 271 #[tv] w fun e w' => e = .returned (.iface (K 0).t (K 0).u) ∧ w' = w := by
 have hsh := h.shape.2.2
 obtain ⟨g, c, rfl, hnc, hcell⟩ := h.cell h0
 clear h
 go_enter Tryz.func271, Tryz.ntmps271
 go_wp2
 go_ret
 exact ⟨rfl, rfl⟩
theorem aHz (hK : ∀ i, i < n → bI Tryz.prog B (K i).t (K i).u (K i).T (st (K i).T) (K i).R (K i).Rp) (h0 : 0 < n) (w : World) (fp : Nat → Prop) (σ : List Cell) (h : dZ B n K (wG K σ) tv cv w fp) :
 Calls Tryz.prog 268 #[tv] w fun e w' => e = .returned (.int .i64 σ.length) ∧ Fr (fun _ => False) w w' := by
 have hf := aGF h0 w _ fp h
 obtain ⟨fk, hQ, -, -⟩ := h.at_ h0
 have hi := (hK 0 h0).rows hQ
 rw [aCD] at hi
 clear h hQ
 go_enter Tryz.func268, Tryz.ntmps268
 go_wp2_with (first
  | (go_at_call 271; refine hf.mono ?_; rintro e w1 ⟨rfl, rfl⟩)
  | ((with_reducible show wpList _ _ _ (⟨some 9, _, _, _, _, _⟩ :: _) _ _); refine aY _ rfl _ _ _ _ rfl _ _ rfl hi rfl ?_; rintro e w1 ⟨rfl, hf1⟩; refine ⟨_, rfl, ?_⟩))
 go_ret
 exact ⟨rfl, hf1⟩
theorem aBQ (hK : ∀ i, i < n → bI Tryz.prog B (K i).t (K i).u (K i).T (st (K i).T) (K i).R (K i).Rp) (w : World) (fp : Nat → Prop) (σ : List Cell) (h : dZ B n K (wG K σ) tv cv w fp) :
 Calls Tryz.prog 266 #[tv] w fun e w' => e = .returned .nilIface ∧ Fr fp w w' ∧ ∃ fp', dZ B n K (zC K σ) tv cv w' fp' ∧ Grow w fp fp' := by
 obtain ⟨⟨a1, c1, rfl⟩, -, hnm⟩ := h.shape
 have hlo := h.lt
 have hW0 : dZ B n K (lL K σ 0) (.slice a1 n c1) cv w fp := h.turn fun i hi f hq => by unfold lL; simp only [Nat.not_lt_zero, if_false]; exact hq
 go_enter Tryz.func266, Tryz.ntmps266
 go_wp2
 go_loopw [10] (fun i wr => ∃ (k : Nat) (fpk : Nat → Prop), k ≤ n ∧ i = .int .i64 k ∧ dZ B n K (lL K σ k) (.slice a1 n c1) cv wr fpk ∧ Grow w fp fpk ∧ Fr fp w wr) (fun i _ => n - (intOf i).toNat)
 case atStart => exact ⟨0, fp, Nat.zero_le _, rfl, hW0, fun k hk => .inl hk, Fr.refl _ _⟩
 case round =>
  obtain ⟨k, fpk, hk, rfl, hat, hg, hfr⟩ := hrel
  have hsz := hfr.size
  by_cases hlt : k < n
  · obtain ⟨g, c, hv, hnc, hcell⟩ := hat.cell hlt
    simp only [Value.slice.injEq, true_and] at hv
    obtain ⟨rfl, rfl⟩ := hv
    have hother : ∀ (w' : World) (i : Nat), i < n → i ≠ k → ∀ f, lL K σ k i wr f → (∀ q, f q → w'.heap[q]? = wr.heap[q]?) → lL K σ (k + 1) i w' f := by
     intro w' i hi hik f hq hkeep
     unfold lL at hq ⊢
     have e : (i < k + 1) = (i < k) := by apply propext; omega
     simp only [e]
     split at hq
     · rw [if_pos (by assumption)]; exact (hK i hi).frame' hq hkeep
     · rw [if_neg (by assumption)]; exact (hK i hi).frame hq hkeep
    obtain ⟨fk, hQk, hfk, hturn⟩ := hat.at_ hlt
    unfold lL at hQk
    simp only [Nat.lt_irrefl, if_false] at hQk
    obtain ⟨q, hta, hpr⟩ := (hK k hlt).prepare
    have hta' := hta 502
    have hpr := hpr hQk
    cases q with
    | false =>
     simp only [Bool.false_eq_true, if_false] at hpr hta'
     obtain ⟨fp', hat2, hg3⟩ := hturn (Q' := lL K σ (k + 1)) (w' := wr) (f' := fk) (Fr.refl _ _) (by unfold lL; simp only [Nat.lt_succ_self, if_true]; exact hpr) (fun q hq => .inl hq) (fun q hq => (hfk q hq).2) (fun i hi hik f hq hkeep => hother _ i hi hik f hq hkeep)
     clear hta hturn hother hat hW0
     go_wp2
     go_roundw
     case rel =>
      refine ⟨k + 1, fp', by omega, by go_num, hat2, fun q hq => ?_, hfr⟩
      rcases hg3 q hq with h | h
      · exact hg q h
      · exact .inr (by omega)
     case measure => simp [intOf]; omega
    | true =>
     simp only [if_true] at hpr hta'
     clear hta hat hW0
     go_wp2_with ((with_reducible show wpList _ _ _ (⟨some 21, _, _, _, _, _⟩ :: _) _ _); refine aY _ rfl _ _ _ _ rfl _ _ rfl hpr rfl ?_; rintro e w2 ⟨rfl, hf2, f2, hR2, hg2⟩; refine ⟨_, rfl, ?_⟩)
     have hs2 := hf2.size
     obtain ⟨fp', hat2, hg3⟩ := hturn (Q' := lL K σ (k + 1)) hf2 (by unfold lL; simp only [Nat.lt_succ_self, if_true]; exact hR2) hg2 (fun q hq => (hK k hlt).lo' hR2 q hq) (fun i hi hik f hq hkeep => hother _ i hi hik f hq hkeep)
     go_roundw
     case rel =>
      refine ⟨k + 1, fp', by omega, by go_num, hat2, fun q hq => ?_, hfr.trans hf2 (fun q hq h => (hg q (hfk q h).1).resolve_right (by omega))⟩
      rcases hg3 q hq with h | h
      · exact hg q h
      · exact .inr (by omega)
     case measure => simp [intOf]; omega
  · have hke : k = n := by omega
    subst hke
    go_wp2
    go_ret
    refine ⟨rfl, hfr, fpk, hat.turn fun i hi f hq => ?_, hg⟩
    unfold lL at hq
    rw [if_pos hi] at hq
    exact hq
theorem aGm (hK : ∀ i, i < n → bI Tryz.prog B (K i).t (K i).u (K i).T (st (K i).T) (K i).R (K i).Rp) (w : World) (fp : Nat → Prop) (σ : List Cell) (h : dZ B n K (zC K σ) tv cv w fp) (b : Nat) (fb : Nat → Prop) (bs : List UInt8) (hb : Buf w b fb bs) (hd : ∀ k, fp k → ¬ fb k)
 (hl : bs.length + (sts ((List.range n).map fun i => (K i).T)).length ≤ 2147483648) :
 Calls Tryz.prog 265 #[tv, .pointer (some ⟨b, 0, none⟩)] w fun e w' => e = .returned (.tuple #[]) ∧ Fr fb w w' ∧ ∃ fb', Buf w' b fb' (bs ++ sts ((List.range n).map fun i => (K i).T)) ∧ Grow w fb fb' := by
 obtain ⟨⟨a1, c1, rfl⟩, -, hnm⟩ := h.shape
 have hlo := h.lt
 have hframe : ∀ {w' : World}, ∀ i, i < n → ∀ f, zC K σ i w f → (∀ q, f q → w'.heap[q]? = w.heap[q]?) → zC K σ i w' f := fun i hi f hq hkeep => (hK i hi).frame' hq hkeep
 go_enter Tryz.func265, Tryz.ntmps265
 go_wp2
 go_loopw [10] (fun i wr => ∃ (k : Nat) (fbk : Nat → Prop), k ≤ n ∧ i = .int .i64 k ∧ Buf wr b fbk (bs ++ sts ((List.range k).map fun i => (K i).T)) ∧ Grow w fb fbk ∧ Fr fb w wr) (fun i _ => n - (intOf i).toNat)
 case atStart => exact ⟨0, fb, Nat.zero_le _, rfl, by simpa [sts] using hb, fun k hk => .inl hk, Fr.refl _ _⟩
 case round =>
  obtain ⟨k, fbk, hk, rfl, hbk, hg, hfr⟩ := hrel
  have hsz := hfr.size
  by_cases hlt : k < n
  · have hat : dZ B n K (zC K σ) (.slice a1 n c1) cv wr fp := h.aT (fun q hq => hfr.block q (hlo q hq).2 (hd q hq)) hframe
    obtain ⟨g, c, hv, hnc, hcell⟩ := hat.cell hlt
    simp only [Value.slice.injEq, true_and] at hv
    obtain ⟨rfl, rfl⟩ := hv
    obtain ⟨fk, hQk, hfk, -⟩ := hat.at_ hlt
    have hdk : ∀ q, fk q → ¬ fbk q := fun q hq h => (hg q h).elim (hd q (hfk q hq).1) (fun h => by have := (hlo q (hfk q hq).1).2; omega)
    have hle := aKy (fun i => (K i).T) n (k + 1) (by omega)
    have hsn := vY ((List.range k).map fun i => (K i).T) (K k).T
    rw [← lH] at hsn
    obtain ⟨q, hta, hst⟩ := (hK k hlt).state
    have hta' := hta 502
    have hsn2 := Lib.hid hsn
    rw [hsn, List.length_append] at hle
    cases q with
    | false =>
     simp only [Bool.false_eq_true, if_false] at hst hta'
     clear hta hat hframe hsn
     go_wp2
     go_roundw
     case rel =>
      refine ⟨k + 1, fbk, by omega, by go_num, ?_, hg, hfr⟩
      rw [hsn2.out, hst, List.append_nil]
      exact hbk
     case measure => simp [intOf]; omega
    | true =>
     simp only [if_true] at hst hta'
     have hi := hst hQk hbk hdk (by rw [List.length_append]; omega)
     clear hta hat hframe hsn
     go_wp2_with ((with_reducible show wpList _ _ _ (⟨some 22, _, _, _, _, _⟩ :: _) _ _); refine aY _ rfl _ _ _ _ rfl _ _ rfl hi rfl ?_; rintro e w2 ⟨rfl, hf2, fb2, hb2, hg2⟩; refine ⟨_, rfl, ?_⟩)
     have hs2 := hf2.size
     go_roundw
     case rel =>
      refine ⟨k + 1, fb2, by omega, by go_num, ?_, fun q hq => ?_, hfr.trans hf2 (fun q hq h => (hg q h).resolve_right (by omega))⟩
      · rw [hsn2.out, ← List.append_assoc]
        exact hb2
      · rcases hg2 q hq with h | h
        · exact hg q h
        · exact .inr (by omega)
     case measure => simp [intOf]; omega
  · have hke : k = n := by omega
    subst hke
    go_wp2
    go_end0
    exact ⟨rfl, hfr, fbk, hbk, hg⟩
theorem aDh (hK : ∀ i, i < n → bI Tryz.prog B (K i).t (K i).u (K i).T (st (K i).T) (K i).R (K i).Rp) (w : World) (fp : Nat → Prop) (σ : List Cell) (h : dZ B n K (zC K σ) tv cv w fp) (hw : wts σ ≤ 2147483648) (b : Nat) (fb : Nat → Prop) (bs : List UInt8) (hb : Buf w b fb bs) (hd : ∀ k, fp k → ¬ fb k)
 (hl : bs.length + (encs ((List.range n).map fun i => (K i).T) 0 σ).length ≤ 1099511627776) :
 Calls Tryz.prog 264 #[tv, .pointer (some ⟨b, 0, none⟩)] w fun e w' => e = .returned (.tuple #[]) ∧ Fr fb w w' ∧ ∃ fb', Buf w' b fb' (bs ++ encs ((List.range n).map fun i => (K i).T) 0 σ) ∧ Grow w fb fb' := by
 obtain ⟨⟨a1, c1, rfl⟩, -, hnm⟩ := h.shape
 have hlo := h.lt
 have hframe : ∀ {w' : World}, ∀ i, i < n → ∀ f, zC K σ i w f → (∀ q, f q → w'.heap[q]? = w.heap[q]?) → zC K σ i w' f := fun i hi f hq hkeep => (hK i hi).frame' hq hkeep
 go_enter Tryz.func264, Tryz.ntmps264
 go_wp2
 go_loopw [8] (fun i wr => ∃ (k : Nat) (fbk : Nat → Prop), k ≤ n ∧ i = .int .i64 k ∧ Buf wr b fbk (bs ++ encs ((List.range k).map fun i => (K i).T) 0 σ) ∧ Grow w fb fbk ∧ Fr fb w wr) (fun i _ => n - (intOf i).toNat)
 case atStart => exact ⟨0, fb, Nat.zero_le _, rfl, by simpa [encs] using hb, fun k hk => .inl hk, Fr.refl _ _⟩
 case round =>
  obtain ⟨k, fbk, hk, rfl, hbk, hg, hfr⟩ := hrel
  have hsz := hfr.size
  by_cases hlt : k < n
  · have hat : dZ B n K (zC K σ) (.slice a1 n c1) cv wr fp := h.aT (fun q hq => hfr.block q (hlo q hq).2 (hd q hq)) hframe
    obtain ⟨g, c, hv, hnc, hcell⟩ := hat.cell hlt
    simp only [Value.slice.injEq, true_and] at hv
    obtain ⟨rfl, rfl⟩ := hv
    obtain ⟨fk, hQk, hfk, -⟩ := hat.at_ hlt
    have hdk : ∀ q, fk q → ¬ fbk q := fun q hq h => (hg q h).elim (hd q (hfk q hq).1) (fun h => by have := (hlo q (hfk q hq).1).2; omega)
    have hle := aJW (fun i => (K i).T) n σ (k + 1) (by omega)
    have hsn := rU ((List.range k).map fun i => (K i).T) (K k).T 0 σ
    rw [← lH, List.length_map, List.length_range, Nat.zero_add] at hsn
    have hsn2 := Lib.hid hsn
    rw [hsn, List.length_append] at hle
    have hi := (hK k hlt).encode hQk (Nat.le_trans (qI k σ) hw) hbk hdk (by rw [List.length_append]; omega)
    clear hat hframe hsn
    go_wp2_with ((with_reducible show wpList _ _ _ (⟨some 14, _, _, _, _, _⟩ :: _) _ _); refine aY _ rfl _ _ _ _ rfl _ _ rfl hi rfl ?_; rintro e w2 ⟨rfl, hf2, fb2, hb2, hg2⟩; refine ⟨_, rfl, ?_⟩)
    have hs2 := hf2.size
    go_roundw
    case rel =>
     refine ⟨k + 1, fb2, by omega, by go_num, ?_, fun q hq => ?_, hfr.trans hf2 (fun q hq h => (hg q h).resolve_right (by omega))⟩
     · rw [hsn2.out, ← List.append_assoc]
       exact hb2
     · rcases hg2 q hq with h | h
       · exact hg q h
       · exact .inr (by omega)
    case measure => simp [intOf]; omega
  · have hke : k = n := by omega
    subst hke
    go_wp2
    go_end0
    exact ⟨rfl, hfr, fbk, hbk, hg⟩
end
theorem oN (tv cv : Value) (w : World) (name : String) (f : FuncId) (h : (name, f) = ("Append", 272) ∨ (name, f) = ("AppendArr", 273)) :
 (method (Tryz.prog.types.size + Made.depth) 96 (.agg #[tv, cv]) name).run Tryz.prog w = .ok (f, .agg #[tv, cv]) w := by
 rcases h with h | h <;> (simp only [Prod.mk.injEq] at h; obtain ⟨rfl, rfl⟩ := h; kernel_rfl)
theorem jL (tv cv : Value) (w : World) (name : String) (f : FuncId)
 (h : (name, f) = ("Rows", 268) ∨ (name, f) = ("EncodeColumn", 264) ∨ (name, f) = ("Prepare", 266) ∨ (name, f) = ("EncodeState", 265)) :
 (method (Tryz.prog.types.size + Made.depth) 96 (.agg #[tv, cv]) name).run Tryz.prog w = .ok (f, tv) w := by
 obtain ⟨n, hn⟩ := fuel
 rw [hn]
 rcases h with h | h | h | h <;> (simp only [Prod.mk.injEq] at h; obtain ⟨rfl, rfl⟩ := h; exact iC (n := n + 1) false Tryz.underlying96 rfl rfl (fun _ => by kernel_rfl) (by kernel_rfl) rfl (dN Tryz.underlying94 rfl))
theorem dZ.base {B n : Nat} {K : Nat → Kid} {tv cv : Value} {Q : Nat → World → (Nat → Prop) → Prop} {w : World} {fp : Nat → Prop} (h0 : 0 < n) (h : dZ B n K Q tv cv w fp) : B ≤ w.heap.size := by
 obtain ⟨g, c, rfl, hnc, hcell⟩ := h.cell h0
 have hl := h.lt
 obtain ⟨fs, h1, h2, hm, hd, hfp, hB⟩ := h
 have := hl g ((hfp g).2 (.inl rfl))
 omega
theorem aBG {B n : Nat} {K : Nat → Kid} {tv cv : Value} (hK : ∀ i, i < n → bI Tryz.prog B (K i).t (K i).u (K i).T (st (K i).T) (K i).R (K i).Rp) (h0 : 0 < n) :
 bI Tryz.prog B 96 (.agg #[tv, cv]) (.tup ((List.range n).map fun i => (K i).T)) (sts ((List.range n).map fun i => (K i).T)) (fun w fp σ => dZ B n K (wG K σ) tv cv w fp) (fun w fp σ => dZ B n K (zC K σ) tv cv w fp) where
 lo := fun h => h.lt
 lo' := fun h => h.lt
 frame := fun h hk => h.aT hk fun i hi _ hq hkeep => (hK i hi).frame hq hkeep
 frame' := fun h hk => h.aT hk fun i hi _ hq hkeep => (hK i hi).frame' hq hkeep
 append := fun {w fp σ c vs} h hvs hw => aI.of1 (oN tv cv w _ _ (.inl rfl)) Tryz.call272 (xQ hK w (h.base h0) fp σ h c vs hvs hw)
 appendArr := fun {w fp σ cs v xs} h hs hcs hw => aI.of1 (oN tv cv w _ _ (.inr rfl)) Tryz.call273 (yS hK w (h.base h0) fp σ h cs v xs hs hcs hw)
 rows := fun {w fp σ} h => aI.of0 (jL tv cv w _ _ (.inl rfl)) Tryz.call268 (aHz hK h0 w fp σ h)
 flat := by rintro w name (rfl | rfl | rfl) n m <;> exact jQ (by kernel_rfl) (n + 1) (m + 1)
 ahead := fun w => by kernel_rfl
 prepare := ⟨true, fun x w => run_typeAssert_hasB Tryz.underlying102 (by kernel_rfl) _ x w, fun {w fp σ} h => by
  simp only [if_true]
  exact aI.of0 (jL tv cv w _ _ (.inr (.inr (.inl rfl)))) Tryz.call266 (aBQ hK w fp σ h)⟩
 state := ⟨true, fun x w => run_typeAssert_hasB Tryz.underlying172 (by kernel_rfl) _ x w, by
  simp only [if_true]
  intro w fp σ b fb bs h hb hd hl
  exact aI.of1 (jL tv cv w _ _ (.inr (.inr (.inr rfl)))) Tryz.call265 (aGm hK w fp σ h b fb bs hb hd hl)⟩
 encode := by
  intro w fp σ b fb bs h hw hb hd hl
  rw [enc] at hl ⊢
  exact aI.of1 (jL tv cv w _ _ (.inr (.inl rfl))) Tryz.call264 (aDh hK w fp σ h hw b fb bs hb hd hl)
end Go.Proofs.YtcidlnjpabgioaaGreatDoor
namespace Go.Proofs.YtcidlnjpabgioaaGreatDoor
open Go.RowKit
theorem aKC : ElT Tryz.prog 94 502 .nilIface 1 16 := ⟨Tryz.underlying94, info_parts (by kernel_rfl), rfl⟩
def Kid.none : Kid := ⟨0, .nilIface, .str, fun _ _ _ => False, fun _ _ _ => False, fun _ => False⟩
theorem vF {α β : Type} (f : α → β) (d : α) : ∀ (l : List α), (List.range l.length).map (fun i => f (l.getD i d)) = l.map f := by
 intro l
 apply List.ext_getElem?
 intro i
 rw [List.getElem?_map, List.getElem?_map]
 by_cases h : i < l.length
 · rw [List.getElem?_range h, List.getElem?_eq_getElem h]
   simp [List.getD_eq_getElem?_getD, List.getElem?_eq_getElem h]
 · rw [List.getElem?_eq_none (by simp; omega), List.getElem?_eq_none (by omega)]
   rfl
def aFX (T : Ty) (s : List UInt8) (B : Nat) (tv cv : Value) (w : World) : Prop :=
 ∃ R Rp fp, bI Tryz.prog B 96 (.agg #[tv, cv]) T s R Rp ∧ R w fp []
theorem aIc {B B2 : Nat} {wr w3 : World} {ks : List Kid} {tv cv : Value} {n : Nat} (hn : ks.length = n) (hks : Kids B2 wr ks) (h0 : 0 < n) (hB : B ≤ B2) (hB2 : B2 ≤ wr.heap.size) (hcv : wr.ownsRow 0 59 1 cv n (ks.map Kid.v)) (hsl : ∀ q, cv.ownBlock = some q → B2 ≤ q) (hal : Apart cv ks)
 (htv : w3.ownsRow 0 502 1 tv n (ks.map Kid.v)) (htl : ∀ q, tv.ownBlock = some q → wr.heap.size < q) (hb3 : Below wr.heap.size wr w3) :
 aFX (.tup (ks.map Kid.T)) (sts (ks.map Kid.T)) B tv cv w3 := by
 subst hn
 have hkd : ∀ i (hi : i < ks.length), ks.getD i Kid.none = ks[i] := fun i hi => by simp [List.getD_eq_getElem?_getD, List.getElem?_eq_getElem hi]
 have hmem : ∀ i, i < ks.length → ks.getD i Kid.none ∈ ks := fun i hi => by rw [hkd i hi]; exact List.getElem_mem _
 have hT : (List.range ks.length).map (fun i => (ks.getD i Kid.none).T) = ks.map Kid.T := vF Kid.T Kid.none ks
 have hV : (List.range ks.length).map (fun i => (ks.getD i Kid.none).v) = ks.map Kid.v := vF Kid.v Kid.none ks
 have hs3 := hb3.size
 have hsp := aBG (B := B) (n := ks.length) (K := fun i => ks.getD i Kid.none) (tv := tv) (cv := cv) (fun i hi => (hks.1 _ (hmem i hi)).1.low hB) h0
 rw [hT] at hsp
 refine ⟨_, _, fun q => tv.ownBlock = some q ∨ cv.ownBlock = some q ∨ ∃ i, i < ks.length ∧ (ks.getD i Kid.none).fp q, hsp, fun i => (ks.getD i Kid.none).fp, by rw [hV]; exact htv, by rw [hV]; exact (Below.fr hb3).owns hcv (fun _ _ h => h), ⟨fun i hi => ?_, fun i j hi hj hij q hq hq' => ?_⟩, fun i hi q hq => ?_, fun q => Iff.rfl, ?_⟩
 · obtain ⟨hsi, hRi⟩ := hks.1 _ (hmem i hi)
   show (ks.getD i Kid.none).R w3 (ks.getD i Kid.none).fp (kC i [])
   exact hsi.frame hRi fun q hq => hb3.block q (hsi.lo hRi q hq).2
 · rw [hkd i hi] at hq
   rw [hkd j hj] at hq'
   rcases Nat.lt_or_gt_of_ne hij with h | h
   · exact (List.pairwise_iff_getElem.1 hks.2) i j hi hj h q hq hq'
   · exact (List.pairwise_iff_getElem.1 hks.2) j i hj hi h q hq' hq
 · have hl := hks.lt (hmem i hi) hq
   refine ⟨⟨by omega, by omega⟩, fun h => ?_, fun h => hal _ (hmem i hi) q hq h⟩
   have := htl q h
   omega
 · rintro q (h | h | ⟨i, hi, hq⟩)
   · have := htl q h; omega
   · have := hsl q h; omega
   · have := (hks.lt (hmem i hi) hq).1; omega
theorem aJh (ts : List Ty) (hts0 : ts ≠ []) (hlen0 : ts.length ≤ 1000) (hkids : ∀ x ∈ ts, fV x) (hf : mV ts) (hn : (texts ts).length ≤ 900000) : fV (.tup ts) := by
 intro w htab
 obtain ⟨LS, hLS⟩ : ∃ LS, Hid (LS = ts.map text) := ⟨_, Lib.hid rfl⟩
 have hLn : Hid (LS.length = ts.length) := Lib.hid (by rw [hLS.out, List.length_map])
 have hLb : LS.length ≤ 1000 := by rw [hLn.out]; exact hlen0
 have hpa : Calls Tryz.prog 31 #[.string (aV (text (.tup ts)))] w (lJ [84, 117, 112, 108, 101] LS w) := by
  rw [text]
  exact iP w htab [84, 117, 112, 108, 101] (texts ts) LS (by unfold fM; decide) (by simp; omega) (lM ts hf hts0).2 (by rw [hLS.out]; exact (sW ts hf hts0).1)
 generalize aV (text (.tup ts)) = txt at hpa
 go_enter Tryz.func23, Tryz.ntmps23
 go_wp2_with (go_at_call 31; refine hpa.mono ?_; rintro e w1 ⟨nm, v, rfl, hl, ⟨hown, hsince⟩, hb⟩; obtain ⟨av, cv, rfl⟩ := ownsRow_shape hown)
 go_loopw [5, 21] (fun l i wr => ∃ (k : Nat) (ks : List Kid), k ≤ LS.length ∧ i = .int .i64 k ∧ wr.ownsRow 0 59 1 l k (ks.map Kid.v) ∧ (∀ q, l.ownBlock = some q → w1.heap.size ≤ q) ∧ Apart l ks ∧ Kids w1.heap.size wr ks ∧ ks.map Kid.T = ts.take k ∧ Below w1.heap.size w1 wr) (fun _ i _ => LS.length - (intOf i).toNat)
 case atStart => exact ⟨0, [], Nat.zero_le _, rfl, World.ownsRow_nil _ _ _ _, by simp [Value.ownBlock], by simp [Apart], Kids.nil _ _, rfl, Below.refl _ _⟩
 case round =>
  obtain ⟨k, ks, hk, rfl, hownl, hsl, hal, hks, hkt, hbr⟩ := hrel
  obtain ⟨la, lc, rfl⟩ := ownsRow_shape hownl
  have hw1 := hbr.size
  by_cases hlt : k < LS.length
  · have hkl : k < ts.length := by rw [← hLn.out]; exact hlt
    have hstep := Lib.hid (List.take_succ_eq_append_getElem hkl)
    have hmem : ts[k] ∈ ts := List.getElem_mem _
    have hLk : LS[k]? = some (text ts[k]) := by rw [hLS.out, List.getElem?_map, List.getElem?_eq_getElem hkl]; rfl
    generalize ts[k] = tk at hstep hmem hLk
    have hownr := (Below.fr hbr).owns hown (fun _ _ h => h)
    rcases hownr.2 with ⟨hv, h0⟩ | ⟨ga, capa, cura, hv, _, _, hnc, hcm, _⟩
    · omega
    · simp only [Value.slice.injEq] at hv
      obtain ⟨rfl, _, rfl⟩ := hv
      have hcell := hownr.cells (g := ga) rfl k (.string (aV (text tk))) (by rw [List.getElem?_map, hLk]; rfl)
      rw [Addr.add_lit, Nat.zero_add] at hcell
      have hcall := hkids tk hmem wr ((htab.below hb).below hbr)
      have hll := fun q (h : (Value.slice la k lc).ownBlock = some q) => aK hownl h
      have hkt2 := Lib.hid hkt
      unfold maxLen at hcm
      clear hmem hLk hownr hkt hsince hown
      go_wp2_with (first
       | (go_at_call 23; refine hcall.mono ?_; rintro e w2 ⟨t, u, R, Rp, fp, rfl, cs, hR, hb2⟩; have hown2 := (Below.fr hb2).owns hownl (fun _ _ h => h))
       | ((with_reducible show wpList _ _ _ (⟨some 32, _, _, _, _, _⟩ :: _) _ _); refine aP _ rfl qN _ _ rfl _ _ _ rfl (hown2.alloc _) _ _ _ rfl (Src.ofSlice _ Tryz.underlying72 _ _ _ _ rfl (aW _ [.iface t u] _) (by simp [Value.oneCell'])) ?_ ?_ ?_; (unfold maxLen; omega); omega; intro v' w3 ha; obtain ⟨a', c', rfl⟩ := ha.shape))
      go_roundw
      case rel =>
       have hmore := Kids.more hks hw1 hb2 (k := ⟨t, u, tk, R, Rp, fp⟩) cs hR hll hal ha
       refine ⟨k + 1, ks ++ [⟨t, u, tk, R, Rp, fp⟩], by omega, by go_num, ?_, ?_, hmore.2, hmore.1, ?_, ?_⟩
       · rw [List.map_append]
         exact ha.1
       · intro q hq
         rcases ha.2.2 with e | e
         · exact hsl q (e.symm.trans hq)
         · rw [e] at hq
           simp only [Option.some.injEq] at hq
           have := hb2.size
           simp at hq
           omega
       · rw [List.map_append, hkt2.out, hstep.out]
         rfl
       · exact hbr.trans ((((Below.fr hb2).alloc _).mono (S' := fun q => w1.heap.size ≤ q) (fun _ _ h => h.elim)).grown ha.2.1 (fun q hq => .inl (hsl q hq)) |>.below hw1 (fun q hq h => by omega))
      case measure => simp [intOf]; omega
  · have hkl : k = ts.length := by rw [← hLn.out]; omega
    subst hkl
    rw [List.take_length] at hkt
    have hlen : ks.length = ts.length := by rw [← List.length_map (f := Kid.T), hkt]
    clear hkids hsince hown
    have hpos : 0 < ts.length := List.length_pos_iff.2 hts0
    have hbk : ts.length ≤ 1000 := hlen0
    have hkt' := Lib.hid hkt
    have hlen' := Lib.hid hlen
    clear hkt hlen hts0 hlen0 hf hn
    generalize hN : ts.length = N at hownl hpos hbk hlen' hLn hlt hk ⊢
    rcases hownl.2 with ⟨hv, h0⟩ | ⟨ga, capa, cura, hv, _, _, hnc, hcm, _⟩
    · omega
    · simp only [Value.slice.injEq] at hv
      obtain ⟨rfl, _, rfl⟩ := hv
      unfold maxLen at hcm
      have hposI : (0 : Int) < N := by omega
      clear hN
      obtain ⟨wo, hwo⟩ : ∃ wo, wo = wr := ⟨_, rfl⟩
      subst hwo
      go_wp2_with fail
      generalize hX : wo.alloc _ = X
      have hXp : X.heap[wo.heap.size]? = some (.cells #[.slice none 0 0, .slice (some ⟨ga, 0, none⟩) N lc] 96 (0, 0)) := by subst hX; exact heap_alloc_new wo _
      have hXb : Below wo.heap.size wo X := by subst hX; exact (Below.refl _ wo).alloc (Nat.le_refl _) _
      clear hX
      go_loopw [109] (fun i w' => ∃ (k : Nat) (tv : Value), k ≤ N ∧ i = .int .i64 k ∧ w'.heap[wo.heap.size]? = some (.cells #[tv, .slice (some ⟨ga, 0, none⟩) N lc] 96 (0, 0)) ∧ w'.ownsRow 0 502 1 tv k ((ks.take k).map Kid.v) ∧ (∀ q, tv.ownBlock = some q → wo.heap.size < q) ∧ Below wo.heap.size wo w') (fun i _ => N - (intOf i).toNat)
      case atStart => exact ⟨0, .slice none 0 0, Nat.zero_le _, rfl, hXp, World.ownsRow_nil _ _ _ _, by simp [Value.ownBlock], hXb⟩
      case round =>
       obtain ⟨j, tv, hj, rfl, hpr, htv, htl, hbw⟩ := hrel
       have hw2 := hbw.size
       have hne : tv.ownBlock ≠ some wo.heap.size := fun h => by have := htl _ h; omega
       have hpl := aH hpr
       by_cases hjn : j < N
       · obtain ⟨ta, tc, rfl⟩ := ownsRow_shape htv
         have hjk : j < ks.length := by rw [hlen'.out]; exact hjn
         have hcell : wr.cell? ⟨ga, j, none⟩ = some (.iface ks[j].t ks[j].u) := by
          have h1 := hownl.cells (g := ga) rfl j (.iface ks[j].t ks[j].u) (by rw [List.getElem?_map, List.getElem?_eq_getElem hjk]; rfl)
          rw [Addr.add_lit, Nat.zero_add] at h1
          exact (hbw.cell (p := ⟨ga, j, none⟩) (aK hownl rfl)).trans h1
         have hstep := Lib.hid (List.take_succ_eq_append_getElem hjk)
         generalize ks[j] = kj at hcell hstep
         have d0 : wr.cell? ⟨wo.heap.size, 0, none⟩ = some (.slice ta j tc) := by rw [cell_of_row _ _ _ _ _ _ hpr]; rfl
         have hd := Lib.hid hpr
         clear hcm hownl hks
         go_wp2_with ((with_reducible show wpList _ _ _ (⟨some 117, _, _, _, _, _⟩ :: _) _ _); refine aP _ rfl aKC _ _ rfl _ _ _ rfl (htv.alloc _) _ _ _ rfl (Src.ofSlice _ Tryz.underlying94 _ _ _ _ rfl (aW _ [.iface kj.t kj.u] _) (by simp [Value.oneCell'])) ?_ ?_ ?_; (unfold maxLen; omega); omega; intro v' w3 ha; obtain ⟨a', c', rfl⟩ := ha.shape; obtain ⟨hcs3, hfs3⟩ := dU hd.out hne ((Fr.refl _ _).alloc _) ha; have s0 : w3.cell? ⟨wo.heap.size, 0, none⟩ = some (.slice ta j tc) := hcs3 0; have g0 := hfs3 0)
         obtain ⟨q1, q2, q3, q4, q5⟩ := dQ (i := 0) hd.out htv hne ((Fr.refl _ _).alloc _) ha
         clear hpr
         go_roundw
         case rel =>
          refine ⟨j + 1, .slice a' (j + 1) c', by omega, by go_num, q1, by rw [hstep.out, List.map_append]; exact q2, fun q hq => ?_, hbw.trans (q5.below hw2 fun q hq h => ?_)⟩
          · rcases q4 with e | e
            · exact htl q (e.symm.trans hq)
            · rw [e] at hq
              simp only [Option.some.injEq] at hq
              simp at hq
              omega
          · rcases h with h | h
            · omega
            · have := htl q h; omega
         case measure => simp [intOf]; omega
       · have hje : j = N := by omega
         subst hje
         rw [List.take_of_length_le (by rw [hlen'.out]; exact Nat.le_refl _)] at htv
         have e0 : wr.cell? ⟨wo.heap.size, 0, none⟩ = some tv := by rw [cell_of_row _ _ _ _ _ _ hpr]; rfl
         have e1 : wr.cell? ⟨wo.heap.size, 1, none⟩ = some (.slice (some ⟨ga, 0, none⟩) j lc) := by rw [cell_of_row _ _ _ _ _ _ hpr]; rfl
         go_wp2
         go_ret
         have hs1 := hb.size
         obtain ⟨R, Rp, fp, h1, h2⟩ := aIc (B := w.heap.size) hlen'.out hks hpos hs1 hw1 hownl hsl hal htv htl hbw
         rw [hkt'.out] at h1
         refine ⟨_, _, R, Rp, fp, rfl, by rw [st]; exact h1, h2, (hb.trans (hbr.mono hs1)).trans (hbw.mono (by omega))⟩
end Go.Proofs.YtcidlnjpabgioaaGreatDoor
