import Derived.Test.YtcidlnjpabgioaaGreatDoorWKu8
import Derived.Test.YtcidlnjpabgioaaGreatDoorWGStr
import Derived.Deep.RegionLaw
import Derived.Test.YtcidlnjpabgioaaGreatDoorWGFix
set_option maxHeartbeats 2000000
set_option maxRecDepth 100000
namespace Go.Proofs.YtcidlnjpabgioaaGreatDoor
open Go.RowKit
theorem aIy (w : World) (p : Nat) (cur : Array Value) (tc : TypeId) (n : Nat) (xs : List Value) (v : Value) (h0 : cur[0]? = some v) (hp : w.heap[p]? = some (.cells cur tc (0, 0))) (hown : w.ownsRow 0 5 1 v n xs) (hne : v.ownBlock ≠ some p) (hn : n < 2147483648) (x : Int) :
 Calls Tryz.prog 194 #[.pointer (some ⟨p, 0, none⟩), .int .u8 x] w fun e w' => e = .returned (.tuple #[]) ∧ ∃ v', w'.heap[p]? = some (.cells (cur.setIfInBounds 0 v') tc (0, 0)) ∧ w'.ownsRow 0 5 1 v' (n + 1) (xs ++ [.int .u8 x]) ∧ v'.ownBlock ≠ some p ∧
  (∀ k, v'.ownBlock = some k → v.ownBlock = some k ∨ w.heap.size ≤ k) ∧ Fr (fun k => k = p ∨ v.ownBlock = some k) w w' := by
 obtain ⟨a0, c0, rfl⟩ := ownsRow_shape hown
 have hpl := aH hp
 have hcell : w.cell? ⟨p, 0, none⟩ = some (.slice a0 n c0) := by rw [cell_of_row _ _ _ _ _ _ hp, h0]
 have hsrc : Src Tryz.prog 1 128 (.slice (some ⟨w.heap.size, 0, none⟩) 1 1) 1 [.int .u8 x] (w.alloc (.cells [.int .u8 x].toArray 5)) :=
  Src.ofSlice _ Tryz.underlying128 _ _ _ _ rfl (aW _ _ _) (by simp [Value.oneCell'])
 go_enter Tryz.func194, Tryz.ntmps194
 go_wp2_with ((with_reducible show wpList _ _ _ (⟨some 10, _, _, _, _, _⟩ :: _) _ _); (refine aP _ rfl aJf _ _ rfl _ _ _ rfl (hown.alloc _) _ _ _ rfl hsrc ?_ ?_ ?_); (unfold maxLen; omega); omega; intro v' w1 ha; obtain ⟨a', c', rfl⟩ := ha.shape; obtain ⟨hcs, hfs⟩ := dU hp hne ((Fr.refl _ w).alloc _) ha; have d2 : w1.cell? ⟨p, 0, none⟩ = some (.slice a0 n c0) := (hcs 0).trans h0; have f2 := hfs 0; have hA := dQ (i := 0) hp hown hne ((Fr.refl _ w).alloc _) ha)
 obtain ⟨hp2, hown2, hne2, hblk2, hfr2⟩ := hA
 go_end0
 refine ⟨rfl, _, hp2, hown2, hne2, fun k hk => ?_, hfr2⟩
 rcases hblk2 with e | e
 · exact .inl (by rw [← e, hk])
 · rw [e] at hk
   simp only [Option.some.injEq] at hk
   simp at hk
   exact .inr (by omega)
def mark (c : Cell) : UInt8 := if c.null then 1 else 0
def nz (c : Cell) : Cell := if c.null then Cell.zero else c
theorem aFk (t : Ty) (cs : List Cell) : enc (.nul t) cs = cs.map mark ++ enc t (cs.map nz) := by rw [enc]; rfl
theorem aKO (c : Cell) : (nz c).wt ≤ c.wt := by
 unfold nz
 split
 · rw [Cell.jW c]
   have h0 : (⟨#[]⟩ : ByteArray).size = 0 := rfl
   simp only [Cell.zero, Cell.wt, wts, h0]
   omega
 · exact Nat.le_refl _
theorem aEs : ∀ (cs : List Cell), wts (cs.map nz) ≤ wts cs
 | [] => Nat.le_refl _
 | c :: cs => by
  have h1 := aKO c
  have h2 := aEs cs
  rw [List.map_cons, wts, wts]
  omega
theorem bP.zero (B : Nat) (w : World) : bP B w Cell.zero [.int .u64 0, .int .u64 0, .int .u64 0, .int .u64 0, .string ⟨#[]⟩, .bool false, .slice none 0 0, .slice none 0 0] := by
 unfold Cell.zero bP
 refine ⟨.slice none 0 0, .slice none 0 0, [], [], rfl, by decide, by decide, by decide, by decide, by decide, ⟨rfl, none, 0, rfl, Nat.le_refl _, by unfold maxLen; omega, fun _ => rfl, fun _ h => by cases h⟩, ?_, ⟨rfl, none, 0, rfl, Nat.le_refl _, by unfold maxLen; omega, fun _ => rfl, fun _ h => by cases h⟩, ?_⟩ <;> (unfold aC; rfl)
theorem aHs (w : World) : Calls Tryz.prog 205 #[] w fun e w' => e = .returned (.agg #[.bool false, .int .u64 0, .int .u64 0, .int .u64 0, .int .u64 0, .string ⟨#[]⟩, .bool false, .slice none 0 0, .slice none 0 0]) ∧ Fr (fun _ => False) w w' := by
 go_enter Tryz.func205, Tryz.ntmps205
 go_wp2
 refine bodyPost_ret (by simp [results, Tryz.results205, go_sem]; try rfl) rfl ?_
 exact ⟨rfl, (Fr.refl _ w).alloc _⟩
theorem aCK (w : World) (r0 r1 r2 r3 : Nat) (s : ByteArray) (null : Bool) (ia : Option Addr) (il ic : Nat) (ka : Option Addr) (kl kc : Nat) : Calls Tryz.prog 206 #[.agg #[.int .u64 r0, .int .u64 r1, .int .u64 r2, .int .u64 r3, .string s, .bool null, .slice ia il ic, .slice ka kl kc]] w fun e w' =>
 e = .returned (.agg #[.bool true, .int .u64 r0, .int .u64 r1, .int .u64 r2, .int .u64 r3, .string s, .bool null, .slice ia il ic, .slice ka kl kc]) ∧ Fr (fun _ => False) w w' := by
 go_enter Tryz.func206, Tryz.ntmps206
 go_wp2
 refine bodyPost_ret (by simp [results, Tryz.results206, go_sem]; try rfl) rfl ?_
 exact ⟨rfl, ((Fr.refl _ w).alloc _).alloc _⟩
def lD (c : Cell) (ia : Option Addr) (il ic : Nat) (ka : Option Addr) (kl kc : Nat) : List Value :=
 if c.null then [.int .u64 0, .int .u64 0, .int .u64 0, .int .u64 0, .string ⟨#[]⟩, .bool false, .slice none 0 0, .slice none 0 0]
 else [.int .u64 c.r0, .int .u64 c.r1, .int .u64 c.r2, .int .u64 c.r3, .string c.s, .bool false, .slice ia il ic, .slice ka kl kc]
theorem maybe_any (w : World) (c : Cell) (ia : Option Addr) (il ic : Nat) (ka : Option Addr) (kl kc : Nat) :
 Calls Tryz.prog 203 #[.agg #[.int .u64 c.r0, .int .u64 c.r1, .int .u64 c.r2, .int .u64 c.r3, .string c.s, .bool c.null, .slice ia il ic, .slice ka kl kc]] w fun e w' =>
  e = .returned (.agg (.bool (!c.null) :: lD c ia il ic ka kl kc).toArray) ∧ Fr (fun _ => False) w w' := by
 have hz : ∀ w1, Fr (fun _ => False) ((w.alloc (.cells #[.int .u64 c.r0, .int .u64 c.r1, .int .u64 c.r2, .int .u64 c.r3, .string c.s, .bool c.null, .slice ia il ic, .slice ka kl kc] 35)).alloc (.cells #[.bool false, .int .u64 0, .int .u64 0, .int .u64 0, .int .u64 0, .string ⟨#[]⟩, .bool false, .slice none 0 0, .slice none 0 0] 467)) w1 →
  ∀ i, w1.cell? ⟨w.heap.size + 1, i, none⟩ = #[Value.bool false, .int .u64 0, .int .u64 0, .int .u64 0, .int .u64 0, .string ⟨#[]⟩, .bool false, .slice none 0 0, .slice none 0 0][i]? ∧ w1.frozen? ⟨w.heap.size + 1, i, none⟩ = false := by
  intro w1 hf i
  have hm := hf.made (n := w.heap.size + 1) (by simp)
  exact ⟨by rw [cell_of_row _ _ _ _ _ _ hm], frozen_of_row _ _ _ _ _ hm⟩
 cases hnull : c.null with
 | true =>
  have hv : lD c ia il ic ka kl kc = [.int .u64 0, .int .u64 0, .int .u64 0, .int .u64 0, .string ⟨#[]⟩, .bool false, .slice none 0 0, .slice none 0 0] := by simp [lD, hnull]
  rw [hv]
  rw [hnull] at hz
  go_enter Tryz.func203, Tryz.ntmps203
  go_wp2_with (go_at_call 205; refine (aHs _).mono ?_; rintro e w1 ⟨rfl, hf1⟩; have hz1 := hz w1 hf1; have z0 := hz1 0; have z1 := hz1 1; have z2 := hz1 2; have z3 := hz1 3; have z4 := hz1 4; have z5 := hz1 5; have z6 := hz1 6; have z7 := hz1 7; have z8 := hz1 8; simp only [List.getElem?_toArray, List.getElem?_cons_zero, List.getElem?_cons_succ] at z0 z1 z2 z3 z4 z5 z6 z7 z8)
  refine bodyPost_ret (by simp [results, Tryz.results203, go_sem, z0, z1, z2, z3, z4, z5, z6, z7, z8]; try rfl) rfl ?_
  exact ⟨rfl, ((((((((((((Fr.refl _ w).alloc _).alloc _).trans hf1 (fun _ _ h => h)).setCell (.inr (by simp)) _).setCell (.inr (by simp)) _).setCell (.inr (by simp)) _).setCell (.inr (by simp)) _).setCell (.inr (by simp)) _).setCell (.inr (by simp)) _).setCell (.inr (by simp)) _).setCell (.inr (by simp)) _).setCell (.inr (by simp)) _⟩
 | false =>
  have hv : lD c ia il ic ka kl kc = [.int .u64 c.r0, .int .u64 c.r1, .int .u64 c.r2, .int .u64 c.r3, .string c.s, .bool false, .slice ia il ic, .slice ka kl kc] := by simp [lD, hnull]
  rw [hv]
  rw [hnull] at hz
  go_enter Tryz.func203, Tryz.ntmps203
  go_wp2_with (go_at_call 206; refine (aCK _ _ _ _ _ _ _ _ _ _ _ _ _).mono ?_; rintro e w1 ⟨rfl, hf1⟩; have hz1 := hz w1 hf1; have z0 := hz1 0; have z1 := hz1 1; have z2 := hz1 2; have z3 := hz1 3; have z4 := hz1 4; have z5 := hz1 5; have z6 := hz1 6; have z7 := hz1 7; have z8 := hz1 8; simp only [List.getElem?_toArray, List.getElem?_cons_zero, List.getElem?_cons_succ] at z0 z1 z2 z3 z4 z5 z6 z7 z8)
  refine bodyPost_ret (by simp [results, Tryz.results203, go_sem, z0, z1, z2, z3, z4, z5, z6, z7, z8]; try rfl) rfl ?_
  exact ⟨rfl, ((((((((((((Fr.refl _ w).alloc _).alloc _).trans hf1 (fun _ _ h => h)).setCell (.inr (by simp)) _).setCell (.inr (by simp)) _).setCell (.inr (by simp)) _).setCell (.inr (by simp)) _).setCell (.inr (by simp)) _).setCell (.inr (by simp)) _).setCell (.inr (by simp)) _).setCell (.inr (by simp)) _).setCell (.inr (by simp)) _⟩
theorem bP.maybe {B : Nat} {w : World} {c : Cell} {ia : Option Addr} {il ic : Nat} {ka : Option Addr} {kl kc : Nat} (h : bP B w c [.int .u64 c.r0, .int .u64 c.r1, .int .u64 c.r2, .int .u64 c.r3, .string c.s, .bool c.null, .slice ia il ic, .slice ka kl kc]) : bP B w (nz c) (lD c ia il ic ka kl kc) := by
 unfold nz lD
 cases hn : c.null with
 | true => exact bP.zero B w
 | false => rw [hn] at h; exact h
def gI (B : Nat) (t : TypeId) (u : Value) (R : World → (Nat → Prop) → List Cell → Prop) (p : Nat) (w : World) (fp : Nat → Prop) (σ : List Cell) : Prop :=
 ∃ v fpc, w.heap[p]? = some (.cells #[v, .iface t u] 130 (0, 0)) ∧ w.ownsRow 0 5 1 v σ.length (aQ (σ.map mark)) ∧ R w fpc (σ.map nz) ∧ v.ownBlock ≠ some p ∧ ¬ fpc p ∧ (∀ k, v.ownBlock = some k → ¬ fpc k) ∧
  (∀ k, fp k ↔ k = p ∨ v.ownBlock = some k ∨ fpc k) ∧ ∀ k, fp k → B ≤ k
theorem wQ {B : Nat} {t : TypeId} {u : Value} {T : Ty} {st : List UInt8} {R Rp : World → (Nat → Prop) → List Cell → Prop} (cs : bI Tryz.prog B t u T st R Rp)
 (w : World) (p : Nat) (fp : Nat → Prop) (σ : List Cell) (h : gI B t u R p w fp σ) (c : Cell) (vs : List Value) (hvs : bP B w (nz c) vs) (hw : wts (σ ++ [c]) ≤ 2147483648) :
 Calls Tryz.prog 183 #[.pointer (some ⟨p, 0, none⟩), .agg (.bool (!c.null) :: vs).toArray] w fun e w' => e = .returned (.tuple #[]) ∧ Fr fp w w' ∧ ∃ fp', gI B t u R p w' fp' (σ ++ [c]) ∧ Grow w fp fp' := by
 obtain ⟨v, fpc, hp, hown, hR, n1, n2, n3, hfp, hB⟩ := h
 have hvs' := hvs
 obtain ⟨ia, il, ic, ka, kl, kc, rfl, -⟩ := hvs.open
 have hpl := aH hp
 have hlt : ∀ k, fpc k → k < w.heap.size := fun k hk => (cs.lo hR k hk).2
 have hlen := aN (σ ++ [c])
 rw [List.length_append, List.length_singleton] at hlen
 have hwc : Wt T (σ.map nz ++ [nz c]) ≤ 2147483648 := by
  have := aEs (σ ++ [c])
  rw [List.map_append] at this
  exact Nat.le_trans this hw
 have hval : Value.agg (.bool (!c.null) :: [.int .u64 (nz c).r0, .int .u64 (nz c).r1, .int .u64 (nz c).r2, .int .u64 (nz c).r3, .string (nz c).s, .bool (nz c).null, .slice ia il ic, .slice ka kl kc]).toArray = .agg #[.bool (!c.null), .int .u64 (nz c).r0, .int .u64 (nz c).r1, .int .u64 (nz c).r2, .int .u64 (nz c).r3, .string (nz c).s, .bool (nz c).null, .slice ia il ic, .slice ka kl kc] := rfl
 rw [hval]
 clear hval
 have main : ∀ (W : World) (bn : Bool) (hnull : c.null = bn), W = w.alloc (.cells #[.bool (!bn), .int .u64 (nz c).r0, .int .u64 (nz c).r1, .int .u64 (nz c).r2, .int .u64 (nz c).r3, .string (nz c).s, .bool (nz c).null, .slice ia il ic, .slice ka kl kc] 467) →
  Calls Tryz.prog 194 #[.pointer (some ⟨p, 0, none⟩), .int .u8 (if bn then 1 else 0)] W fun e w1 => e = .returned (.tuple #[]) ∧ ∃ v', w1.heap[p]? = some (.cells #[v', .iface t u] 130 (0, 0)) ∧ w1.ownsRow 0 5 1 v' (σ ++ [c]).length (aQ ((σ ++ [c]).map mark)) ∧ v'.ownBlock ≠ some p ∧
   (∀ k, v'.ownBlock = some k → v.ownBlock = some k ∨ w.heap.size ≤ k) ∧ Fr (fun k => k = p ∨ v.ownBlock = some k) W w1 := by
  intro W bn hnull hW
  have hfW : Fr (fun _ => False) w W := by subst hW; exact (Fr.refl _ w).alloc _
  have hpW := (hfW.block p hpl (fun h => h)).trans hp
  have hownW := hfW.owns hown (fun _ _ h => h)
  refine (aIy W p _ _ σ.length _ v rfl hpW hownW n1 (by omega) _).mono ?_
  rintro e w1 ⟨rfl, v', h1, h2, h3, h4, h5⟩
  refine ⟨rfl, v', h1, ?_, h3, fun k hk => (h4 k hk).imp id (fun h => Nat.le_trans hfW.size h), h5⟩
  rw [List.length_append, List.map_append, bQ]
  have e : aQ ([c].map mark) = [.int .u8 (if bn then 1 else 0)] := by simp only [aQ, mark, List.map, hnull]; cases bn <;> rfl
  rw [e]
  exact h2
 have tail : ∀ (W w1 : World) (bn : Bool) (v' : Value), W = w.alloc (.cells #[.bool (!bn), .int .u64 (nz c).r0, .int .u64 (nz c).r1, .int .u64 (nz c).r2, .int .u64 (nz c).r3, .string (nz c).s, .bool (nz c).null, .slice ia il ic, .slice ka kl kc] 467) →
  w1.heap[p]? = some (.cells #[v', .iface t u] 130 (0, 0)) → w1.ownsRow 0 5 1 v' (σ ++ [c]).length (aQ ((σ ++ [c]).map mark)) → v'.ownBlock ≠ some p → (∀ k, v'.ownBlock = some k → v.ownBlock = some k ∨ w.heap.size ≤ k) → Fr (fun k => k = p ∨ v.ownBlock = some k) W w1 →
  (∀ j x, #[Value.int .u64 (nz c).r0, .int .u64 (nz c).r1, .int .u64 (nz c).r2, .int .u64 (nz c).r3, .string (nz c).s, .bool (nz c).null, .slice ia il ic, .slice ka kl kc][j]? = some x → w1.cell? ⟨w.heap.size, j + 1, none⟩ = some x) ∧
  aI Tryz.prog (.iface t u) "Append" #[.agg #[.int .u64 (nz c).r0, .int .u64 (nz c).r1, .int .u64 (nz c).r2, .int .u64 (nz c).r3, .string (nz c).s, .bool (nz c).null, .slice ia il ic, .slice ka kl kc]] w1.drew fun e w2 =>
   e = .returned (.tuple #[]) ∧ Fr fpc w1.drew w2 ∧ Fr fp w w2 ∧ ∃ fp', gI B t u R p w2 fp' (σ ++ [c]) ∧ Grow w fp fp' := by
  intro W w1 bn v' hW hp1 hown1 hne1 hv1 hf1
  have hfW : Fr (fun _ => False) w W := by subst hW; exact (Fr.refl _ w).alloc _
  have hWs : W.heap.size = w.heap.size + 1 := by subst hW; simp
  have hvlt : ∀ k, v.ownBlock = some k → k < w.heap.size := fun k hk => aK hown hk
  have hf01 : Fr (fun k => k = p ∨ v.ownBlock = some k) w w1 := (hfW.mono (fun _ _ h => h.elim)).trans hf1 (fun _ _ h => h)
  have hsz := hf01.size
  have hBp : B ≤ p := hB p ((hfp p).2 (.inl rfl))
  have hBv : ∀ k, v.ownBlock = some k → B ≤ k := fun k hk => hB k ((hfp k).2 (.inr (.inl hk)))
  refine ⟨fun j x hj => ?_, ?_⟩
  · have hbox : w1.heap[w.heap.size]? = some (.cells #[.bool (!bn), .int .u64 (nz c).r0, .int .u64 (nz c).r1, .int .u64 (nz c).r2, .int .u64 (nz c).r3, .string (nz c).s, .bool (nz c).null, .slice ia il ic, .slice ka kl kc] 467 (0, 0)) := by
     refine (hf1.block _ (by omega) (fun h => h.elim (fun e => by omega) (fun e => by have := hvlt _ e; omega))).trans ?_
     subst hW
     exact heap_alloc_new w _
    rw [cell_of_row _ _ _ _ _ _ hbox, List.getElem?_toArray, List.getElem?_cons_succ]
    rw [List.getElem?_toArray] at hj
    exact hj
  · have hkeep : ∀ k, fpc k → w1.heap[k]? = w.heap[k]? := fun k hk => hf01.block k (hlt k hk) (fun h => h.elim (fun e => n2 (e ▸ hk)) (fun e => n3 k e hk))
    have hRd : R w1.drew fpc (σ.map nz) := cs.frame hR hkeep
    have hBd : Below B w w1.drew := (hf01.drew).below (by omega) (fun k hk h => h.elim (fun e => by omega) (fun e => by have := hBv k e; omega))
    refine (cs.append hRd (bP.below hBd _ _ hvs') hwc).mono ?_
    rintro e w2 ⟨rfl, hf2, fpc', hR2, hg2⟩
    have hf2' := hf2.aG
    have hg2' : ∀ k, fpc' k → fpc k ∨ w1.heap.size ≤ k := hg2
    have hs2 := hf2'.size
    have hv1c : ∀ k, v'.ownBlock = some k → ¬ fpc k := fun k hk h => (hv1 k hk).elim (fun e => n3 k e h) (fun e => by have := hlt k h; omega)
    have hv1l : ∀ k, v'.ownBlock = some k → k < w1.heap.size := fun k hk => aK hown1 hk
    refine ⟨rfl, hf2, (hf01.mono (fun k _ h => (hfp k).2 (h.elim .inl (fun h => .inr (.inl h))))).trans hf2' (fun k _ h => (hfp k).2 (.inr (.inr h))), fun k => k = p ∨ v'.ownBlock = some k ∨ fpc' k, ⟨v', fpc', (hf2'.block p (by omega) n2).trans hp1, hf2'.owns hown1 hv1c, ?_, hne1, ?_, ?_, fun k => Iff.rfl, ?_⟩, ?_⟩
    · rw [List.map_append]
      exact hR2
    · intro h
      rcases hg2' p h with h | h
      · exact n2 h
      · omega
    · intro k hk h
      rcases hg2' k h with h | h
      · exact hv1c k hk h
      · have := hv1l k hk; omega
    · rintro k (rfl | hk | hk)
      · exact hBp
      · rcases hv1 k hk with h | h
        · exact hBv k h
        · omega
      · rcases hg2' k hk with h | h
        · exact hB k ((hfp k).2 (.inr (.inr h)))
        · omega
    · rintro k (rfl | hk | hk)
      · exact .inl ((hfp k).2 (.inl rfl))
      · exact (hv1 k hk).imp (fun h => (hfp k).2 (.inr (.inl h))) id
      · rcases hg2' k hk with h | h
        · exact .inl ((hfp k).2 (.inr (.inr h)))
        · exact .inr (by omega)
 cases hnull : c.null with
 | true =>
  have hm := main _ true hnull rfl
  go_enter Tryz.func183, Tryz.ntmps183
  go_wp2_with (go_at_call 194; refine hm.mono ?_; rintro e w1 ⟨rfl, v', hp1, hown1, hne1, hv1, hf1⟩)
  have tl := tail _ w1 true v' rfl hp1 hown1 hne1 hv1 hf1
  obtain ⟨hbx, hi⟩ := tl
  have d0 : w1.cell? ⟨p, 1, none⟩ = some (.iface t u) := by rw [cell_of_row _ _ _ _ _ _ hp1]; rfl
  have d1 := hbx 0 (.int .u64 (nz c).r0) rfl
  have d2 := hbx 1 (.int .u64 (nz c).r1) rfl
  have d3 := hbx 2 (.int .u64 (nz c).r2) rfl
  have d4 := hbx 3 (.int .u64 (nz c).r3) rfl
  have d5 := hbx 4 (.string (nz c).s) rfl
  have d6 := hbx 5 (.bool (nz c).null) rfl
  have d7 := hbx 6 (.slice ia il ic) rfl
  have d8 := hbx 7 (.slice ka kl kc) rfl
  have hsz : w.heap.size < w1.heap.size := World.block_lt_of_cell? w1 _ d1
  have hpn : ¬ fpc w.heap.size := fun h => by have := hlt _ h; omega
  simp only [Nat.reduceAdd] at d1 d2 d3 d4 d5 d6 d7 d8
  clear hbx main tail hm
  go_region_held3 (fun w' => w'.cell? ⟨p, 1, none⟩ = some (.iface t u) ∧ w'.cell? ⟨w.heap.size, 1, none⟩ = some (.int .u64 (nz c).r0) ∧ w'.cell? ⟨w.heap.size, 2, none⟩ = some (.int .u64 (nz c).r1) ∧ w'.cell? ⟨w.heap.size, 3, none⟩ = some (.int .u64 (nz c).r2) ∧ w'.cell? ⟨w.heap.size, 4, none⟩ = some (.int .u64 (nz c).r3) ∧ w'.cell? ⟨w.heap.size, 5, none⟩ = some (.string (nz c).s) ∧ w'.cell? ⟨w.heap.size, 6, none⟩ = some (.bool (nz c).null) ∧ w'.cell? ⟨w.heap.size, 7, none⟩ = some (.slice ia il ic) ∧ w'.cell? ⟨w.heap.size, 8, none⟩ = some (.slice ka kl kc))
   (first
    | exact ⟨d0, d1, d2, d3, d4, d5, d6, d7, d8⟩
    | exact ⟨hf2.aG.aA d0 n2, hf2.aG.aA d1 hpn, hf2.aG.aA d2 hpn, hf2.aG.aA d3 hpn, hf2.aG.aA d4 hpn, hf2.aG.aA d5 hpn, hf2.aG.aA d6 hpn, hf2.aG.aA d7 hpn, hf2.aG.aA d8 hpn⟩
    | assumption)
   (first
    | (refine aS _ rfl ?_; refine bU _ _ _ _ _ rfl _ _ rfl hi rfl ?_; rintro e w2 ⟨rfl, hf2, hfin⟩; refine ⟨_, rfl, ?_⟩))
  all_goals
   go_end0
   exact ⟨rfl, hfin.1, hfin.2⟩
 | false =>
  have hm := main _ false hnull rfl
  go_enter Tryz.func183, Tryz.ntmps183
  go_wp2_with (go_at_call 194; refine hm.mono ?_; rintro e w1 ⟨rfl, v', hp1, hown1, hne1, hv1, hf1⟩)
  have tl := tail _ w1 false v' rfl hp1 hown1 hne1 hv1 hf1
  obtain ⟨hbx, hi⟩ := tl
  have d0 : w1.cell? ⟨p, 1, none⟩ = some (.iface t u) := by rw [cell_of_row _ _ _ _ _ _ hp1]; rfl
  have d1 := hbx 0 (.int .u64 (nz c).r0) rfl
  have d2 := hbx 1 (.int .u64 (nz c).r1) rfl
  have d3 := hbx 2 (.int .u64 (nz c).r2) rfl
  have d4 := hbx 3 (.int .u64 (nz c).r3) rfl
  have d5 := hbx 4 (.string (nz c).s) rfl
  have d6 := hbx 5 (.bool (nz c).null) rfl
  have d7 := hbx 6 (.slice ia il ic) rfl
  have d8 := hbx 7 (.slice ka kl kc) rfl
  have hsz : w.heap.size < w1.heap.size := World.block_lt_of_cell? w1 _ d1
  have hpn : ¬ fpc w.heap.size := fun h => by have := hlt _ h; omega
  simp only [Nat.reduceAdd] at d1 d2 d3 d4 d5 d6 d7 d8
  clear hbx main tail hm
  go_region_held3 (fun w' => w'.cell? ⟨p, 1, none⟩ = some (.iface t u) ∧ w'.cell? ⟨w.heap.size, 1, none⟩ = some (.int .u64 (nz c).r0) ∧ w'.cell? ⟨w.heap.size, 2, none⟩ = some (.int .u64 (nz c).r1) ∧ w'.cell? ⟨w.heap.size, 3, none⟩ = some (.int .u64 (nz c).r2) ∧ w'.cell? ⟨w.heap.size, 4, none⟩ = some (.int .u64 (nz c).r3) ∧ w'.cell? ⟨w.heap.size, 5, none⟩ = some (.string (nz c).s) ∧ w'.cell? ⟨w.heap.size, 6, none⟩ = some (.bool (nz c).null) ∧ w'.cell? ⟨w.heap.size, 7, none⟩ = some (.slice ia il ic) ∧ w'.cell? ⟨w.heap.size, 8, none⟩ = some (.slice ka kl kc))
   (first
    | exact ⟨d0, d1, d2, d3, d4, d5, d6, d7, d8⟩
    | exact ⟨hf2.aG.aA d0 n2, hf2.aG.aA d1 hpn, hf2.aG.aA d2 hpn, hf2.aG.aA d3 hpn, hf2.aG.aA d4 hpn, hf2.aG.aA d5 hpn, hf2.aG.aA d6 hpn, hf2.aG.aA d7 hpn, hf2.aG.aA d8 hpn⟩
    | assumption)
   (first
    | (refine aS _ rfl ?_; refine bU _ _ _ _ _ rfl _ _ rfl hi rfl ?_; rintro e w2 ⟨rfl, hf2, hfin⟩; refine ⟨_, rfl, ?_⟩))
  all_goals
   go_end0
   exact ⟨rfl, hfin.1, hfin.2⟩
end Go.Proofs.YtcidlnjpabgioaaGreatDoor
namespace Go.Proofs.YtcidlnjpabgioaaGreatDoor
open Go.RowKit
section
variable {B : Nat} {t : TypeId} {u : Value} {T : Ty} {st : List UInt8} {R Rp : World → (Nat → Prop) → List Cell → Prop}
theorem gI.lt (hRl : ∀ {w fp σ}, R w fp σ → ∀ k, fp k → B ≤ k ∧ k < w.heap.size) {p : Nat} {w : World} {fp : Nat → Prop} {σ : List Cell} (h : gI B t u R p w fp σ) : ∀ k, fp k → B ≤ k ∧ k < w.heap.size := by
 obtain ⟨v, fpc, hp, hown, hR, n1, n2, n3, hfp, hB⟩ := h
 intro k hk
 refine ⟨hB k hk, ?_⟩
 rcases (hfp k).1 hk with rfl | hk | hk
 · exact aH hp
 · exact aK hown hk
 · exact (hRl hR k hk).2
theorem gI.aT (hRf : ∀ {w w' fp σ}, R w fp σ → (∀ k, fp k → w'.heap[k]? = w.heap[k]?) → R w' fp σ) {p : Nat} {w w' : World} {fp : Nat → Prop} {σ : List Cell} (h : gI B t u R p w fp σ) (hk : ∀ k, fp k → w'.heap[k]? = w.heap[k]?) : gI B t u R p w' fp σ := by
 obtain ⟨v, fpc, hp, hown, hR, n1, n2, n3, hfp, hB⟩ := h
 refine ⟨v, fpc, (hk p ((hfp p).2 (.inl rfl))).trans hp, ⟨hown.1, ?_⟩, hRf hR (fun k h => hk k ((hfp k).2 (.inr (.inr h)))), n1, n2, n3, hfp, hB⟩
 rcases hown.2 with h0 | ⟨g, cap, cur, rfl, hb, hgg, rest⟩
 · exact .inl h0
 · exact .inr ⟨g, cap, cur, rfl, hb, (hk g ((hfp g).2 (.inr (.inl rfl)))).trans hgg, rest⟩
theorem aAx (cs : bI Tryz.prog B t u T st R Rp) (w : World) (p : Nat) (fp : Nat → Prop) (σ : List Cell) (h : gI B t u R p w fp σ) (c : Cell) (ia : Option Addr) (il ic : Nat) (ka : Option Addr) (kl kc : Nat)
 (hvs : bP B w c [.int .u64 c.r0, .int .u64 c.r1, .int .u64 c.r2, .int .u64 c.r3, .string c.s, .bool c.null, .slice ia il ic, .slice ka kl kc]) (hw : wts (σ ++ [c]) ≤ 2147483648) :
 Calls Tryz.prog 200 #[.agg #[.pointer (some ⟨p, 0, none⟩)], .agg #[.int .u64 c.r0, .int .u64 c.r1, .int .u64 c.r2, .int .u64 c.r3, .string c.s, .bool c.null, .slice ia il ic, .slice ka kl kc]] w fun e w' => e = .returned (.tuple #[]) ∧ Fr fp w w' ∧ ∃ fp', gI B t u R p w' fp' (σ ++ [c]) ∧ Grow w fp fp' := by
 have hlo := h.lt cs.lo
 have hBw : B ≤ w.heap.size := by
  obtain ⟨v, fpc, hp, hown, hR, n1, n2, n3, hfp, hB⟩ := h
  have := hlo p ((hfp p).2 (.inl rfl))
  omega
 go_enter Tryz.func200, Tryz.ntmps200
 go_wp2_with fail
 generalize hW : (w.alloc _).alloc _ = W
 have hfrW : Fr (fun _ => False) w W := by subst hW; exact ((Fr.refl _ w).alloc _).alloc _
 have d0 : W.cell? ⟨w.heap.size, 0, none⟩ = some (.pointer (some ⟨p, 0, none⟩)) := by subst hW; rw [World.cell?_alloc_lt _ _ _ (by simp), aB rfl]; rfl
 have e0 : W.cell? ⟨w.heap.size + 1, 0, none⟩ = some (.int .u64 c.r0) := by subst hW; rw [aB (by simp)]; rfl
 have e1 : W.cell? ⟨w.heap.size + 1, 1, none⟩ = some (.int .u64 c.r1) := by subst hW; rw [aB (by simp)]; rfl
 have e2 : W.cell? ⟨w.heap.size + 1, 2, none⟩ = some (.int .u64 c.r2) := by subst hW; rw [aB (by simp)]; rfl
 have e3 : W.cell? ⟨w.heap.size + 1, 3, none⟩ = some (.int .u64 c.r3) := by subst hW; rw [aB (by simp)]; rfl
 have e4 : W.cell? ⟨w.heap.size + 1, 4, none⟩ = some (.string c.s) := by subst hW; rw [aB (by simp)]; rfl
 have e5 : W.cell? ⟨w.heap.size + 1, 5, none⟩ = some (.bool c.null) := by subst hW; rw [aB (by simp)]; rfl
 have e6 : W.cell? ⟨w.heap.size + 1, 6, none⟩ = some (.slice ia il ic) := by subst hW; rw [aB (by simp)]; rfl
 have e7 : W.cell? ⟨w.heap.size + 1, 7, none⟩ = some (.slice ka kl kc) := by subst hW; rw [aB (by simp)]; rfl
 have hN : ¬ fp w.heap.size := fun h => by have := hlo _ h; omega
 have hN1 : ¬ fp (w.heap.size + 1) := fun h => by have := hlo _ h; omega
 clear hW
 go_region_held3 (fun w' => w'.cell? ⟨w.heap.size, 0, none⟩ = some (.pointer (some ⟨p, 0, none⟩)) ∧ w'.cell? ⟨w.heap.size + 1, 0, none⟩ = some (.int .u64 c.r0) ∧ w'.cell? ⟨w.heap.size + 1, 1, none⟩ = some (.int .u64 c.r1) ∧ w'.cell? ⟨w.heap.size + 1, 2, none⟩ = some (.int .u64 c.r2) ∧ w'.cell? ⟨w.heap.size + 1, 3, none⟩ = some (.int .u64 c.r3) ∧ w'.cell? ⟨w.heap.size + 1, 4, none⟩ = some (.string c.s) ∧ w'.cell? ⟨w.heap.size + 1, 5, none⟩ = some (.bool c.null) ∧ w'.cell? ⟨w.heap.size + 1, 6, none⟩ = some (.slice ia il ic) ∧ w'.cell? ⟨w.heap.size + 1, 7, none⟩ = some (.slice ka kl kc))
  (first
   | exact ⟨d0, e0, e1, e2, e3, e4, e5, e6, e7⟩
   | exact ⟨hf2.aA (hf1.aG.aA d0 (fun h => h)) hN, hf2.aA (hf1.aG.aA e0 (fun h => h)) hN1, hf2.aA (hf1.aG.aA e1 (fun h => h)) hN1, hf2.aA (hf1.aG.aA e2 (fun h => h)) hN1, hf2.aA (hf1.aG.aA e3 (fun h => h)) hN1, hf2.aA (hf1.aG.aA e4 (fun h => h)) hN1, hf2.aA (hf1.aG.aA e5 (fun h => h)) hN1, hf2.aA (hf1.aG.aA e6 (fun h => h)) hN1, hf2.aA (hf1.aG.aA e7 (fun h => h)) hN1⟩
   | exact ⟨hf1.aG.aA d0 (fun h => h), hf1.aG.aA e0 (fun h => h), hf1.aG.aA e1 (fun h => h), hf1.aG.aA e2 (fun h => h), hf1.aG.aA e3 (fun h => h), hf1.aG.aA e4 (fun h => h), hf1.aG.aA e5 (fun h => h), hf1.aG.aA e6 (fun h => h), hf1.aG.aA e7 (fun h => h)⟩
   | assumption)
  (first
   | (go_at_call 203; refine (maybe_any _ c ia il ic ka kl kc).mono ?_; rintro e w1 ⟨rfl, hf1⟩)
   | (go_at_call 183; refine (wQ cs _ p fp σ (h.aT cs.frame fun k hk => (hfrW.trans hf1.aG (fun _ _ h => h)).block k (hlo k hk).2 (fun h => h)) c _ (bP.below ((hfrW.trans hf1.aG (fun _ _ h => h)).below hBw (fun _ _ h => h)) _ _ hvs).maybe hw).mono ?_; rintro e w2 ⟨rfl, hf2, hfin⟩))
 all_goals
  go_end0
  obtain ⟨fp', h1, h2⟩ := hfin
  have hs1 := (hfrW.trans hf1.aG (fun _ _ h => h)).size
  exact ⟨rfl, ((hfrW.trans hf1.aG (fun _ _ h => h)).mono (fun _ _ h => h.elim)).trans hf2 (fun _ _ h => h), fp', h1, fun k hk => (h2 k hk).imp id (fun h => by omega)⟩
end
end Go.Proofs.YtcidlnjpabgioaaGreatDoor
namespace Go.Proofs.YtcidlnjpabgioaaGreatDoor
open Go.RowKit
theorem aJD : ElT Tryz.prog 469 467 (.agg #[.bool false, .int .u64 0, .int .u64 0, .int .u64 0, .int .u64 0, .string ⟨#[]⟩, .bool false, .slice none 0 0, .slice none 0 0]) 9 112 := ⟨Tryz.underlying469, info_parts (by kernel_rfl), rfl⟩
theorem aBv (c : Cell) (ia : Option Addr) (il ic : Nat) (ka : Option Addr) (kl kc : Nat) : ∃ (r0 r1 r2 r3 : Nat) (s : ByteArray) (ja : Option Addr) (jl jc : Nat) (la : Option Addr) (ll lc : Nat),
 lD c ia il ic ka kl kc = [.int .u64 r0, .int .u64 r1, .int .u64 r2, .int .u64 r3, .string s, .bool false, .slice ja jl jc, .slice la ll lc] := by
 unfold lD
 cases c.null with
 | true => exact ⟨0, 0, 0, 0, _, none, 0, 0, none, 0, 0, rfl⟩
 | false => exact ⟨_, _, _, _, _, _, _, _, _, _, _, rfl⟩
def jG (B : Nat) (w : World) : List Cell → List Value → Prop
 | [], xs => xs = []
 | c :: cs, xs => ∃ vs rest, xs = (.bool (!c.null) :: vs) ++ rest ∧ bP B w (nz c) vs ∧ jG B w cs rest
theorem jG.below {B : Nat} {w w' : World} (hb : Below B w w') : ∀ (cs : List Cell) (xs : List Value), jG B w cs xs → jG B w' cs xs
 | [], _, h => h
 | _ :: _, _, ⟨vs, rest, h0, h1, h2⟩ => ⟨vs, rest, h0, bP.below hb _ _ h1, jG.below hb _ _ h2⟩
theorem jG.snoc {B : Nat} {w : World} {c : Cell} {vs : List Value} (h : bP B w (nz c) vs) : ∀ {cs : List Cell} {xs : List Value}, jG B w cs xs → jG B w (cs ++ [c]) (xs ++ (.bool (!c.null) :: vs))
 | [], _, rfl => ⟨vs, [], by simp, h, rfl⟩
 | _ :: _, _, ⟨us, rest, h0, h1, h2⟩ => ⟨us, _, by rw [h0, List.append_assoc], h1, jG.snoc h h2⟩
theorem jG.at {B : Nat} {w : World} : ∀ {cs : List Cell} {xs : List Value}, jG B w cs xs → ∀ k (hk : k < cs.length), ∃ vs, bP B w (nz cs[k]) vs ∧ ∀ j u, (Value.bool (!cs[k].null) :: vs)[j]? = some u → xs[k * 9 + j]? = some u
 | [], _, _, k, hk => by simp at hk
 | c :: cs, _, ⟨vs, rest, h0, h1, _⟩, 0, _ => ⟨vs, h1, fun j u hj => by
  replace hj : (Value.bool (!c.null) :: vs)[j]? = some u := hj
  rw [h0, Nat.zero_mul, Nat.zero_add, List.getElem?_append_left (List.getElem?_eq_some_iff.1 hj).1]
  exact hj⟩
 | c :: cs, _, ⟨vs, rest, h0, h1, h2⟩, k + 1, hk => by
  obtain ⟨vs', g1, g2⟩ := jG.at h2 k (by simpa using hk)
  refine ⟨vs', g1, fun j u hj => ?_⟩
  have hl : (Value.bool (!c.null) :: vs).length = 9 := by rw [List.length_cons, h1.length]
  rw [h0, List.getElem?_append_right (by rw [hl]; omega), hl, show (k + 1) * 9 + j - 9 = k * 9 + j by omega]
  exact g2 j u hj
theorem aDc (w : World) (B : Nat) (hBw : B ≤ w.heap.size) (cs : List Cell) (v : Value) (xs : List Value) (hs : Sl B w 8 v cs.length xs) (hc : aC B w cs xs) (hn : cs.length ≤ 2147483648) :
 Calls Tryz.prog 204 #[v, .func (.func 203) #[] #[]] w fun e w' => ∃ tv, e = .returned tv ∧ (∃ vals, w'.ownsRow 0 467 9 tv cs.length vals ∧ jG B w' cs vals) ∧ (∀ q, tv.ownBlock = some q → w.heap.size ≤ q) ∧ Fr (fun _ => False) w w' := by
 have hs' := hs
 obtain ⟨hxl, ao, cap, rfl, hnc, hcm, h0, ha⟩ := hs
 unfold maxLen at hcm
 clear ha h0 hxl
 go_enter Tryz.func204, Tryz.ntmps204
 go_wp2
 go_loopw [5, 10] (fun tv i wr => ∃ (k : Nat) (vals : List Value), k ≤ cs.length ∧ i = .int .i64 k ∧ wr.ownsRow 0 467 9 tv k vals ∧ jG B wr (cs.take k) vals ∧ (∀ q, tv.ownBlock = some q → w.heap.size ≤ q) ∧ Fr (fun _ => False) w wr) (fun _ i _ => cs.length - (intOf i).toNat)
 case atStart => exact ⟨0, [], Nat.zero_le _, rfl, World.ownsRow_nil _ _ _ _, rfl, by simp [Value.ownBlock], Fr.refl _ _⟩
 case round =>
  obtain ⟨k, vals, hk, rfl, hown, hni, hsince, hfr⟩ := hrel
  have hbr : Below B w wr := hfr.below hBw (fun _ _ h => h)
  have hbB2 : B ≤ wr.heap.size := Nat.le_trans hBw hfr.size
  obtain ⟨a0, c0, rfl⟩ := ownsRow_shape hown
  by_cases hlt : k < cs.length
  · obtain ⟨b, off, cap', hv, hbB, vs, hvs, hcell⟩ := (hs'.below hbr).row (aC.below hbr _ _ hc) hlt
    have hstep := Lib.hid (List.take_succ_eq_append_getElem hlt)
    generalize cs[k] = c at hvs hstep
    obtain ⟨ia, il, ic, ka, kl, kc, rfl, -⟩ := hvs.open
    simp only [Value.slice.injEq] at hv
    obtain ⟨rfl, _, rfl⟩ := hv
    have d0 := hcell 0 _ rfl
    have d1 := hcell 1 _ rfl
    have d2 := hcell 2 _ rfl
    have d3 := hcell 3 _ rfl
    have d4 := hcell 4 _ rfl
    have d5 := hcell 5 _ rfl
    have d6 := hcell 6 _ rfl
    have d7 := hcell 7 _ rfl
    simp only [Nat.add_zero] at d0
    have hfa : Fr (fun _ => False) w (wr.alloc (.cells #[.int .u64 c.r0, .int .u64 c.r1, .int .u64 c.r2, .int .u64 c.r3, .string c.s, .bool c.null, .slice ia il ic, .slice ka kl kc] 35)) := hfr.alloc _
    have hvs2 := hvs
    have hin := maybe_any (wr.alloc (.cells #[.int .u64 c.r0, .int .u64 c.r1, .int .u64 c.r2, .int .u64 c.r3, .string c.s, .bool c.null, .slice ia il ic, .slice ka kl kc] 35)) c ia il ic ka kl kc
    obtain ⟨m0, m1, m2, m3, ms, ja, jl, jc, la, ll, lc, hmv⟩ := aBv c ia il ic ka kl kc
    have hmay : ∀ {w}, bP B w c [.int .u64 c.r0, .int .u64 c.r1, .int .u64 c.r2, .int .u64 c.r3, .string c.s, .bool c.null, .slice ia il ic, .slice ka kl kc] → bP B w (nz c) _ := fun h => hmv ▸ h.maybe
    rw [hmv] at hin
    clear hcell hvs hs' hc
    go_wp2_with (first | (go_at_call 203; refine hin.mono ?_; rintro e w1 ⟨rfl, hf1⟩; have hfw1 : Fr (fun _ => False) w w1 := hfa.trans hf1 (fun _ _ h => h); have hown1 := hf1.owns ((Fr.refl (fun _ => False) wr).alloc _ |>.owns hown (fun _ _ h => h)) (fun _ _ h => h)) | ((with_reducible show wpList _ _ _ (⟨some 19, _, _, _, _, _⟩ :: _) _ _); refine aP _ rfl aJD _ _ rfl _ _ _ rfl (hown1.alloc _) _ _ _ rfl (Src.ofSlice _ Tryz.underlying469 _ _ _ _ rfl (aW _ [.bool (!c.null), .int .u64 m0, .int .u64 m1, .int .u64 m2, .int .u64 m3, .string ms, .bool false, .slice ja jl jc, .slice la ll lc] _) (by simp [Value.oneCell'])) ?_ ?_ ?_; (unfold maxLen; omega); omega; intro v' w2 ha; obtain ⟨a', c', rfl⟩ := ha.shape))
    go_roundw
    case rel => 
     refine ⟨k + 1, _, by omega, by go_num, ha.1, ?_, (ha.since (hfw1.alloc _) hsince).1, (ha.since (hfw1.alloc _) hsince).2⟩
     rw [hstep.out]
     have hb2 : Below B wr w2 := (((((Fr.refl (fun _ => False) wr).alloc _).trans hf1 (fun _ _ h => h)).alloc _).mono (S' := fun q => w.heap.size ≤ q) (fun _ _ h => h.elim)).grown ha.2.1 (fun q hq => .inl (hsince q hq)) |>.below hbB2 (fun q hq h => by omega)
     exact jG.snoc (hmay (bP.below hb2 _ _ hvs2)) (jG.below hb2 _ _ hni)
    case measure => simp [intOf]; omega
  · have hke : k = cs.length := by omega
    subst hke
    rw [List.take_length] at hni
    go_wp2
    go_ret
    exact ⟨_, rfl, ⟨_, hown, hni⟩, hsince, hfr⟩
section
variable {B : Nat} {t : TypeId} {u : Value} {T : Ty} {st : List UInt8} {R Rp : World → (Nat → Prop) → List Cell → Prop}
theorem yC (sp : bI Tryz.prog B t u T st R Rp) (w : World) (p : Nat) (fp : Nat → Prop) (σ : List Cell) (h : gI B t u R p w fp σ) (cs : List Cell) (tv : Value) (vals : List Value) (hown : w.ownsRow 0 467 9 tv cs.length vals) (hni : jG B w cs vals)
 (hd : ∀ k, tv.ownBlock = some k → ¬ fp k) (hw : wts (σ ++ cs) ≤ 2147483648) :
 Calls Tryz.prog 184 #[.pointer (some ⟨p, 0, none⟩), tv] w fun e w' => e = .returned (.tuple #[]) ∧ Fr fp w w' ∧ ∃ fp', gI B t u R p w' fp' (σ ++ cs) ∧ Grow w fp fp' := by
 obtain ⟨a, c, rfl⟩ := ownsRow_shape hown
 have hlo := h.lt sp.lo
 have hBw : B ≤ w.heap.size := by
  obtain ⟨v, fpc, hp, _, _, _, _, _, hfp, _⟩ := h
  have := hlo p ((hfp p).2 (.inl rfl))
  omega
 have hcm : cs.length ≤ 9223372036854775807 := by
  have := aN (σ ++ cs)
  rw [List.length_append] at this
  omega
 go_enter Tryz.func184, Tryz.ntmps184
 go_wp2
 go_loopw [5, 8] (fun _ i wr => ∃ (k : Nat) (fpk : Nat → Prop), k ≤ cs.length ∧ i = .int .i64 k ∧ gI B t u R p wr fpk (σ ++ cs.take k) ∧ Grow w fp fpk ∧ Fr fp w wr) (fun _ i _ => cs.length - (intOf i).toNat)
 case atStart => exact ⟨0, fp, Nat.zero_le _, rfl, by simpa using h, fun k hk => .inl hk, Fr.refl _ _⟩
 case round =>
  obtain ⟨k, fpk, hk, rfl, hat, hg, hfr⟩ := hrel
  by_cases hlt : k < cs.length
  · have hownr := hfr.owns hown hd
    rcases hownr.2 with ⟨hv, _⟩ | ⟨ga, capa, cura, hv, _⟩
    · simp only [Value.slice.injEq] at hv; omega
    · simp only [Value.slice.injEq] at hv
      obtain ⟨rfl, _, rfl⟩ := hv
      obtain ⟨vs, hvs, hvx⟩ := hni.at k hlt
      have hbr : Below B w wr := hfr.below hBw (fun q hq h => by have := (hlo q h).1; omega)
      have hvr := bP.below hbr _ _ hvs
      have hstep := List.take_succ_eq_append_getElem hlt
      have hwk : wts (σ ++ cs.take k ++ [cs[k]]) ≤ 2147483648 := by
       have := iT (σ ++ cs) (σ.length + (k + 1))
       rw [List.take_length_add_append, hstep, ← List.append_assoc] at this
       omega
      generalize cs[k] = cc at hvs hvr hvx hstep hwk
      obtain ⟨ia, il, ic, ka, kl, kc, rfl, -⟩ := hvs.open
      have hx : ∀ j u, #[.bool (!cc.null), .int .u64 (nz cc).r0, .int .u64 (nz cc).r1, .int .u64 (nz cc).r2, .int .u64 (nz cc).r3, .string (nz cc).s, .bool (nz cc).null, .slice ia il ic, .slice ka kl kc][j]? = some u → wr.cell? ⟨ga, k * 9 + j, none⟩ = some u := by
       intro j u hj
       rw [List.getElem?_toArray] at hj
       have := hownr.cells (g := ga) rfl _ _ (hvx j u hj)
       rw [Addr.add_lit, Nat.zero_add] at this
       exact this
      have x0 := hx 0 (.bool (!cc.null)) rfl
      have x1 := hx 1 (.int .u64 (nz cc).r0) rfl
      have x2 := hx 2 (.int .u64 (nz cc).r1) rfl
      have x3 := hx 3 (.int .u64 (nz cc).r2) rfl
      have x4 := hx 4 (.int .u64 (nz cc).r3) rfl
      have x5 := hx 5 (.string (nz cc).s) rfl
      have x6 := hx 6 (.bool (nz cc).null) rfl
      have x7 := hx 7 (.slice ia il ic) rfl
      have x8 := hx 8 (.slice ka kl kc) rfl
      simp only [Nat.add_zero] at x0
      have hlok := hat.lt sp.lo
      have hatA : gI B t u R p (wr.alloc (.cells #[.bool (!cc.null), .int .u64 (nz cc).r0, .int .u64 (nz cc).r1, .int .u64 (nz cc).r2, .int .u64 (nz cc).r3, .string (nz cc).s, .bool (nz cc).null, .slice ia il ic, .slice ka kl kc] 467)) fpk (σ ++ cs.take k) := hat.aT sp.frame fun q hq => Below.heap_alloc _ _ _ (hlok q hq).2
      have hBr : B ≤ wr.heap.size := Nat.le_trans hBw hfr.size
      have happ := wQ sp _ p fpk (σ ++ cs.take k) hatA cc _ (bP.below ((Below.refl B wr).alloc hBr _) _ _ hvr) hwk
      have hval : Value.agg (.bool (!cc.null) :: [.int .u64 (nz cc).r0, .int .u64 (nz cc).r1, .int .u64 (nz cc).r2, .int .u64 (nz cc).r3, .string (nz cc).s, .bool (nz cc).null, .slice ia il ic, .slice ka kl kc]).toArray = .agg #[.bool (!cc.null), .int .u64 (nz cc).r0, .int .u64 (nz cc).r1, .int .u64 (nz cc).r2, .int .u64 (nz cc).r3, .string (nz cc).s, .bool (nz cc).null, .slice ia il ic, .slice ka kl kc] := rfl
      rw [hval] at happ
      clear hval hx hvx hni hatA hvr hvs
      go_wp2_with (go_at_call 183; refine happ.mono ?_; rintro e w1 ⟨rfl, hf1, fp', hat', hg'⟩)
      go_roundw
      case rel =>
       refine ⟨k + 1, fp', by omega, by go_num, ?_, ?_, ?_⟩
       · rw [hstep, ← List.append_assoc]; exact hat'
       · intro q hq
         have := hfr.size
         rcases hg' q hq with h | h
         · exact hg q h
         · simp at h; exact .inr (by omega)
       · exact (hfr.alloc _).trans hf1 (fun q hq h => (hg q h).resolve_right (by omega))
      case measure => simp [intOf]; omega
  · have hke : k = cs.length := by omega
    subst hke
    rw [List.take_length] at hat
    go_wp2
    go_end0
    exact ⟨rfl, hfr, fpk, hat, hg⟩
end
end Go.Proofs.YtcidlnjpabgioaaGreatDoor
namespace Go.Proofs.YtcidlnjpabgioaaGreatDoor
open Go.RowKit
section
variable {B : Nat} {t : TypeId} {u : Value} {T : Ty} {st : List UInt8} {R Rp : World → (Nat → Prop) → List Cell → Prop}
theorem uA (sp : bI Tryz.prog B t u T st R Rp) (w : World) (p : Nat) (fp : Nat → Prop) (σ : List Cell) (h : gI B t u R p w fp σ) (cs : List Cell) (v : Value) (ys : List Value) (hs : Sl B w 8 v cs.length ys) (hcs : aC B w cs ys) (hw : wts (σ ++ cs) ≤ 2147483648) :
 Calls Tryz.prog 201 #[.agg #[.pointer (some ⟨p, 0, none⟩)], v] w fun e w' => e = .returned (.tuple #[]) ∧ Fr fp w w' ∧ ∃ fp', gI B t u R p w' fp' (σ ++ cs) ∧ Grow w fp fp' := by
 have hlo := h.lt sp.lo
 have hBw : B ≤ w.heap.size := by
  obtain ⟨v, fpc, hp, _, _, _, _, _, hfp, _⟩ := h
  have := hlo p ((hfp p).2 (.inl rfl))
  omega
 have hn : cs.length ≤ 2147483648 := by
  have := aN (σ ++ cs)
  rw [List.length_append] at this
  omega
 go_enter Tryz.func201, Tryz.ntmps201
 go_wp2_with fail
 generalize hW : w.alloc _ = W
 have hfrW : Fr (fun _ => False) w W := by subst hW; exact (Fr.refl _ w).alloc _
 have d0 : W.cell? ⟨w.heap.size, 0, none⟩ = some (.pointer (some ⟨p, 0, none⟩)) := by subst hW; rw [aB rfl]; rfl
 have hN : ¬ fp w.heap.size := fun h => by have := hlo _ h; omega
 have hsW := hs.fr hBw hfrW
 have hcsW := aC.below (hfrW.below hBw (fun _ _ h => h)) _ _ hcs
 have hBW : B ≤ W.heap.size := Nat.le_trans hBw hfrW.size
 have hsD := hsW.fr hBW (Fr.refl (fun _ => False) W).drew
 have hcsD := aC.below ((Below.refl B W).drew) _ _ hcsW
 clear hW hs hcs
 go_region_held3 (fun w' => w'.cell? ⟨w.heap.size, 0, none⟩ = some (.pointer (some ⟨p, 0, none⟩)))
  (first
   | exact d0
   | exact hf2.aA (hf1.aG.aA d0 (fun h => h)) hN
   | exact hf1.aG.aA d0 (fun h => h)
   | assumption)
  (first
   | (go_at_call 204; refine (aDc W.drew B hBW cs v ys hsD hcsD hn).mono ?_; rintro e w1 ⟨tv, rfl, ⟨vals, hown, hni⟩, hsince, hf1⟩)
   | (go_at_call 184; refine (yC sp _ p fp σ (h.aT sp.frame fun k hk => (hfrW.trans hf1.aG (fun _ _ h => h)).block k (hlo k hk).2 (fun h => h)) cs tv vals hown hni (fun k hk h => by have h1 := (hlo k h).2; have h2 : W.heap.size ≤ k := hsince k hk; have h3 := hfrW.size; omega) hw).mono ?_; rintro e w2 ⟨rfl, hf2, hfin⟩))
 all_goals
  go_end0
  obtain ⟨fp', h1, h2⟩ := hfin
  have hs1 := (hfrW.trans hf1.aG (fun _ _ h => h)).size
  exact ⟨rfl, ((hfrW.trans hf1.aG (fun _ _ h => h)).mono (fun _ _ h => h.elim)).trans hf2 (fun _ _ h => h), fp', h1, fun k hk => (h2 k hk).imp id (fun h => by omega)⟩
theorem gI.child {R' : World → (Nat → Prop) → List Cell → Prop} {w w' : World} {p : Nat} {fp fpc fpc' : Nat → Prop} {σ : List Cell} {v : Value} (_h : gI B t u R p w fp σ) (hp : w.heap[p]? = some (.cells #[v, .iface t u] 130 (0, 0))) (hown : w.ownsRow 0 5 1 v σ.length (aQ (σ.map mark)))
 (n1 : v.ownBlock ≠ some p) (n2 : ¬ fpc p) (n3 : ∀ k, v.ownBlock = some k → ¬ fpc k) (hfp : ∀ k, fp k ↔ k = p ∨ v.ownBlock = some k ∨ fpc k) (hB : ∀ k, fp k → B ≤ k) (_hlt : ∀ k, fpc k → k < w.heap.size)
 (hf : Fr fpc w w') (hR : R' w' fpc' (σ.map nz)) (hg : Grow w fpc fpc') : Fr fp w w' ∧ ∃ fp', gI B t u R' p w' fp' σ ∧ Grow w fp fp' := by
 have hpl := aH hp
 have hvl : ∀ k, v.ownBlock = some k → k < w.heap.size := fun k hk => aK hown hk
 have hBp : B ≤ p := hB p ((hfp p).2 (.inl rfl))
 refine ⟨hf.mono (fun k _ h => (hfp k).2 (.inr (.inr h))), fun k => k = p ∨ v.ownBlock = some k ∨ fpc' k, ⟨v, fpc', (hf.block p hpl n2).trans hp, hf.owns hown n3, hR, n1, ?_, ?_, fun k => Iff.rfl, ?_⟩, ?_⟩
 · intro h
   rcases hg p h with h | h
   · exact n2 h
   · omega
 · intro k hk h
   rcases hg k h with h | h
   · exact n3 k hk h
   · have := hvl k hk; omega
 · rintro k (rfl | hk | hk)
   · exact hBp
   · exact hB k ((hfp k).2 (.inr (.inl hk)))
   · rcases hg k hk with h | h
     · exact hB k ((hfp k).2 (.inr (.inr h)))
     · omega
 · rintro k (rfl | hk | hk)
   · exact .inl ((hfp k).2 (.inl rfl))
   · exact .inl ((hfp k).2 (.inr (.inl hk)))
   · exact (hg k hk).imp (fun h => (hfp k).2 (.inr (.inr h))) id
theorem aBL (sp : bI Tryz.prog B t u T st R Rp) (w : World) (p : Nat) (fp : Nat → Prop) (σ : List Cell) (h : gI B t u R p w fp σ) :
 Calls Tryz.prog 188 #[.pointer (some ⟨p, 0, none⟩)] w fun e w' => e = .returned .nilIface ∧ Fr fp w w' ∧ ∃ fp', gI B t u Rp p w' fp' σ ∧ Grow w fp fp' := by
 obtain ⟨v, fpc, hp, hown, hR, n1, n2, n3, hfp, hB⟩ := h
 have d1 : w.cell? ⟨p, 1, none⟩ = some (.iface t u) := by rw [cell_of_row _ _ _ _ _ _ hp]; rfl
 have hlt : ∀ k, fpc k → k < w.heap.size := fun k hk => (sp.lo hR k hk).2
 have hpl := aH hp
 obtain ⟨q, hta, hpr⟩ := sp.prepare
 have hta' := hta 59
 have hpr := hpr hR
 cases q with
 | false =>
  simp only [Bool.false_eq_true, if_false] at hpr hta'
  go_enter Tryz.func188, Tryz.ntmps188
  go_wp2
  go_ret
  exact ⟨rfl, Fr.refl _ _, fp, ⟨v, fpc, hp, hown, hpr, n1, n2, n3, hfp, hB⟩, fun k hk => .inl hk⟩
 | true =>
  simp only [if_true] at hpr hta'
  go_enter Tryz.func188, Tryz.ntmps188
  go_wp2_with ((with_reducible show wpList _ _ _ (⟨some 16, _, _, _, _, _⟩ :: _) _ _); refine aY _ rfl _ _ _ _ rfl _ _ rfl hpr rfl ?_; rintro e w' ⟨rfl, hf1, hR1⟩; refine ⟨_, rfl, ?_⟩)
  go_ret
  obtain ⟨fpc', h1, h2⟩ := hR1
  exact ⟨rfl, gI.child ⟨v, fpc, hp, hown, hR, n1, n2, n3, hfp, hB⟩ hp hown n1 n2 n3 hfp hB hlt hf1 h1 h2⟩
theorem aGz (sp : bI Tryz.prog B t u T st R Rp) (w : World) (fpc : Nat → Prop) (τ : List Cell) (hR : Rp w fpc τ) (v : Value) (hvs : ∃ a n c, v = .slice a n c) (b : Nat) (fb : Nat → Prop) (bs : List UInt8) (hb : Buf w b fb bs) (hd : ∀ k, fpc k → ¬ fb k) (hl : bs.length + st.length ≤ 2147483648) :
 Calls Tryz.prog 187 #[.agg #[v, .iface t u], .pointer (some ⟨b, 0, none⟩)] w fun e w' => e = .returned (.tuple #[]) ∧ Fr fb w w' ∧ ∃ fb', Buf w' b fb' (bs ++ st) ∧ Grow w fb fb' := by
 obtain ⟨q, hta, hst⟩ := sp.state
 have hta' := hta 59
 have hlo := sp.lo' hR
 have hRA : Rp (w.alloc (.cells #[v, .iface t u] 130)) fpc τ := sp.frame' hR fun k hk => Below.heap_alloc _ _ _ (hlo k hk).2
 have hbA : Buf (w.alloc (.cells #[v, .iface t u] 130)) b fb bs := aF.aT hb fun k hk => Below.heap_alloc _ _ _ (aF.lt hb k hk)
 obtain ⟨av, nv, cv, rfl⟩ := hvs
 cases q with
 | false =>
  simp only [Bool.false_eq_true, if_false] at hst hta'
  subst hst
  go_enter Tryz.func187, Tryz.ntmps187
  go_wp2
  go_end0
  exact ⟨rfl, (Fr.refl _ w).alloc _, fb, by simpa using hbA, fun k hk => .inl hk⟩
 | true =>
  simp only [if_true] at hst hta'
  have hi := hst hRA hbA hd hl
  go_enter Tryz.func187, Tryz.ntmps187
  go_wp2_with ((with_reducible show wpList _ _ _ (⟨some 15, _, _, _, _, _⟩ :: _) _ _); refine aY _ rfl _ _ _ _ rfl _ _ rfl hi rfl ?_; rintro e w' ⟨rfl, hf1, hb1⟩; refine ⟨_, rfl, ?_⟩)
  go_end0
  obtain ⟨fb', h1, h2⟩ := hb1
  exact ⟨rfl, ((Fr.refl fb w).alloc _).trans hf1 (fun _ _ h => h), fb', h1, fun k hk => (h2 k hk).imp id (fun h => by simp at h; omega)⟩
def mc (c : Cell) : Cell := .mk (mark c).toNat 0 0 0 ⟨#[]⟩ false [] []
theorem aBY (σ : List Cell) : (σ.map mc).flatMap (aJ 1) = σ.map mark := by
 induction σ with
 | nil => rfl
 | cons c σ ih =>
  have h : aJ 1 (mc c) = [mark c] := by
   rw [dI 1 (by omega)]
   show Lib.leBytes 1 (mark c).toNat = _
   unfold mark
   cases c.null <;> rfl
  rw [List.map_cons, List.flatMap_cons, List.map_cons, ih, h]
  rfl
theorem aJl (σ : List Cell) : (σ.map mc).flatMap dP = aQ (σ.map mark) := by rw [aCB, aBY]
theorem aDK (sp : bI Tryz.prog B t u T st R Rp) (w : World) (fpc : Nat → Prop) (σ : List Cell) (hR : Rp w fpc (σ.map nz)) (v : Value) (hown : w.ownsRow 0 5 1 v σ.length (aQ (σ.map mark))) (b : Nat) (fb : Nat → Prop) (bs : List UInt8) (hb : Buf w b fb bs) (hd : ∀ k, fpc k → ¬ fb k)
 (hdv : ∀ k, v.ownBlock = some k → ¬ fb k) (hw : wts σ ≤ 2147483648) (hl : bs.length + (enc (.nul T) σ).length ≤ 1099511627776) :
 Calls Tryz.prog 186 #[.agg #[v, .iface t u], .pointer (some ⟨b, 0, none⟩)] w fun e w' => e = .returned (.tuple #[]) ∧ Fr fb w w' ∧ ∃ fb', Buf w' b fb' (bs ++ enc (.nul T) σ) ∧ Grow w fb fb' := by
 obtain ⟨a1, c1, rfl⟩ := ownsRow_shape hown
 rw [aFk] at hl
 rw [List.length_append, List.length_map] at hl
 have hlo := sp.lo' hR
 have hsl := aN σ
 have hA : Fr (fun _ => False) w (w.alloc (.cells #[.slice a1 σ.length c1, .iface t u] 130)) := (Fr.refl _ w).alloc _
 have hRA : Rp (w.alloc (.cells #[.slice a1 σ.length c1, .iface t u] 130)) fpc (σ.map nz) := sp.frame' hR fun k hk => Below.heap_alloc _ _ _ (hlo k hk).2
 have hbA : Buf (w.alloc (.cells #[.slice a1 σ.length c1, .iface t u] 130)) b fb bs := aF.aT hb fun k hk => Below.heap_alloc _ _ _ (aF.lt hb k hk)
 have hoA := hA.owns hown (fun _ _ h => h)
 have hflt : ∀ k, fb k → k < w.heap.size := aF.lt hb
 have hmcl : (σ.map mc).length = σ.length := List.length_map _
 have henc := sD _ b fb bs hbA a1 c1 (σ.map mc) (by rw [hmcl, aJl]; exact hoA) (by rw [hmcl]; exact hdv) (fun c hc => by obtain ⟨x, _, rfl⟩ := List.mem_map.1 hc; exact Nat.lt_of_lt_of_le (mark x).toNat_lt (by decide)) (by rw [hmcl]; omega)
 rw [hmcl, aBY] at henc
 have q1 : (w.alloc (.cells #[.slice a1 σ.length c1, .iface t u] 130)).cell? ⟨w.heap.size, 1, none⟩ = some (.iface t u) := by rw [aB rfl]; rfl
 have hNb : ¬ fb w.heap.size := fun h => by have := hflt _ h; omega
 go_enter Tryz.func186, Tryz.ntmps186
 go_wp2_with (first
  | (go_at_call 195; refine henc.mono ?_; rintro e w1 ⟨rfl, hf1, fb1, hb1, hg1⟩; have q2 := hf1.aA q1 hNb; have hsz1 := hf1.size; have hi := sp.encode (sp.frame' hRA (w' := w1) fun k hk => hf1.block k (sp.lo' hRA k hk).2 (hd k hk)) (Nat.le_trans (aEs σ) hw) hb1 (fun k hk h => (hg1 k h).elim (hd k hk) (fun h => by have := (sp.lo' hRA k hk).2; omega)) (by rw [List.length_append, List.length_map]; omega))
  | ((with_reducible show wpList _ _ _ (⟨some 11, _, _, _, _, _⟩ :: _) _ _); refine aY _ rfl _ _ _ _ rfl _ _ rfl hi rfl ?_; rintro e w2 ⟨rfl, hf2, fb2, hb2, hg2⟩; refine ⟨_, rfl, ?_⟩))
 go_end0
 refine ⟨rfl, ((hA.mono (fun _ _ h => h.elim)).trans hf1 (fun _ _ h => h)).trans hf2 (fun k hk h => (hg1 k h).resolve_right (by simp; omega)), fb2, ?_, fun k hk => ?_⟩
 · rw [aFk, ← List.append_assoc]
   exact hb2
 · rcases hg2 k hk with h | h
   · rcases hg1 k h with h | h
     · exact .inl h
     · simp at h; exact .inr (by omega)
   · simp at hsz1; exact .inr (by omega)
end
end Go.Proofs.YtcidlnjpabgioaaGreatDoor
namespace Go.Proofs.YtcidlnjpabgioaaGreatDoor
open Go.RowKit
section
variable {P : Program} {w : World}
theorem iC {n : Nat} {t : TypeId} {name : String} {s : TypeId} {fs : Array Field} {fd : Field} {f : FuncId} (pr : Bool) (hs : P.underlying s = some (.struct fs)) (hfd : fs[0]? = some fd) (hfo : fd.offset = 0) (hag : ∀ w, (isAgg fd.type).run P w = .ok false w)
 (h : ((P.info? t).bind fun i => i.methods.find? (·.name == name)).map (fun m => (m.path, m.func)) = some (#[{ struct := s, index := 0, deref := false }], some (f, pr)))
 {cs : Array Value} {v r : Value} (hc : cs[0]? = some v) (hr : (receiverAt fd.type (.val v) pr none).run P w = .ok r w) : (method (n + 1) t (.agg cs) name).run P w = .ok (f, r) w := by
 cases hi : P.info? t with
 | none => simp [hi] at h
 | some i =>
  cases hm : i.methods.find? (·.name == name) with
  | none => simp [hi, hm] at h
  | some m =>
   simp only [hi, hm, Option.bind_some, Option.map_some, Option.some.injEq, Prod.mk.injEq] at h
   obtain ⟨hp, hf⟩ := h
   unfold method
   simp only [Sem.run_bind, typeInfo, run_program, Result.andThen_ok, hi, Sem.run_pure, hm, hp, follow, hf, run_underlying hs, hfd, part, hfo, hc]
   simp [Sem.run_bind, hag, hr]
theorem kN {t e : TypeId} {v : Value} (hu : P.underlying t = some (.pointer e)) : (receiverAt t (.val v) true none).run P w = .ok v w := by
 simp [receiverAt, run_underlying hu, Place.get]
theorem jF {t e : TypeId} {a : Addr} {r : Value} (hu : P.underlying t = some (.pointer e)) (hl : (loadVar e a).run P w = .ok r w) : (receiverAt t (.val (.pointer (some a))) false none).run P w = .ok r w := by
 simp [receiverAt, run_underlying hu, Place.get, asAddr, hl]
end
theorem aHC {w : World} {a : Addr} {u v : Value} (h0 : w.cell? a = some u) (h1 : w.cell? (a.add 1) = some v) : (loadVar 130 a).run Tryz.prog w = .ok (.agg #[u, v]) w := by
 have h : (Tryz.prog.info? 130).map (·.size) = some 2 := by kernel_rfl
 obtain ⟨i, hi, hs⟩ := Option.map_eq_some_iff.1 h
 exact pM Tryz.underlying130 hi hs h0 h1
theorem tN (p : Nat) (w : World) (name : String) (f : FuncId) (h : (name, f) = ("Append", 200) ∨ (name, f) = ("AppendArr", 201)) :
 (method (Tryz.prog.types.size + Made.depth) 80 (.agg #[.pointer (some ⟨p, 0, none⟩)]) name).run Tryz.prog w = .ok (f, .agg #[.pointer (some ⟨p, 0, none⟩)]) w := by
 rcases h with h | h <;> (simp only [Prod.mk.injEq] at h; obtain ⟨rfl, rfl⟩ := h; kernel_rfl)
theorem mD (p : Nat) (w : World) (u v : Value) (h0 : w.cell? ⟨p, 0, none⟩ = some u) (h1 : w.cell? ⟨p, 1, none⟩ = some v) (name : String) (f : FuncId)
 (h : (name, f) = ("Rows", 191) ∨ (name, f) = ("EncodeColumn", 186) ∨ (name, f) = ("EncodeState", 187)) :
 (method (Tryz.prog.types.size + Made.depth) 80 (.agg #[.pointer (some ⟨p, 0, none⟩)]) name).run Tryz.prog w = .ok (f, .agg #[u, v]) w := by
 obtain ⟨n, hn⟩ := fuel
 rw [hn]
 have hr := jF (P := Tryz.prog) Tryz.underlying77 (aHC h0 (by simpa [Addr.add] using h1))
 rcases h with h | h | h <;> (simp only [Prod.mk.injEq] at h; obtain ⟨rfl, rfl⟩ := h; exact iC (n := n + 1) false Tryz.underlying80 rfl rfl (fun _ => by kernel_rfl) (by kernel_rfl) rfl hr)
theorem aAP (p : Nat) (w : World) : (method (Tryz.prog.types.size + Made.depth) 80 (.agg #[.pointer (some ⟨p, 0, none⟩)]) "Prepare").run Tryz.prog w = .ok (188, .pointer (some ⟨p, 0, none⟩)) w := by
 obtain ⟨n, hn⟩ := fuel
 rw [hn]
 exact iC (n := n + 1) true Tryz.underlying80 rfl rfl (fun _ => by kernel_rfl) (by kernel_rfl) rfl (kN Tryz.underlying77)
theorem aHZ (w : World) (a : Option Addr) (n c : Nat) (x : Value) (hx : ∃ t u, x = .iface t u) : Calls Tryz.prog 191 #[.agg #[.slice a n c, x]] w fun e w' => e = .returned (.int .i64 n) ∧ Fr (fun _ => False) w w' := by
 obtain ⟨t, u, rfl⟩ := hx
 go_enter Tryz.func191, Tryz.ntmps191
 go_wp2_with (go_at_call 197; refine (aFp _ a n c).mono ?_; rintro e w1 ⟨rfl, hf1⟩)
 go_ret
 exact ⟨rfl, ((Fr.refl _ w).alloc _).trans hf1 (fun _ _ h => h)⟩
theorem aEP {B : Nat} {t : TypeId} {u : Value} {T : Ty} {st : List UInt8} {R Rp : World → (Nat → Prop) → List Cell → Prop} (sp : bI Tryz.prog B t u T st R Rp) (p : Nat) :
 bI Tryz.prog B 80 (.agg #[.pointer (some ⟨p, 0, none⟩)]) (.nul T) st (gI B t u R p) (gI B t u Rp p) where
 lo := fun h => h.lt sp.lo
 lo' := fun h => h.lt sp.lo'
 frame := fun h hk => h.aT sp.frame hk
 frame' := fun h hk => h.aT sp.frame' hk
 append := by
  intro w fp σ c vs h hvs hw
  have hvs' := hvs
  obtain ⟨ia, il, ic, ka, kl, kc, rfl, -⟩ := hvs.open
  exact aI.of1 (tN p w _ _ (.inl rfl)) Tryz.call200 (aAx sp w p fp σ h c ia il ic ka kl kc hvs' hw)
 appendArr := by
  intro w fp σ cs v xs h hs hcs hw
  exact aI.of1 (tN p w _ _ (.inr rfl)) Tryz.call201 (uA sp w p fp σ h cs v xs hs hcs hw)
 rows := by
  intro w fp σ h
  obtain ⟨v, fpc, hp, hown, _⟩ := h
  obtain ⟨a, c, rfl⟩ := ownsRow_shape hown
  exact aI.of0 (mD p w _ _ (by rw [cell_of_row _ _ _ _ _ _ hp]; rfl) (by rw [cell_of_row _ _ _ _ _ _ hp]; rfl) _ _ (.inl rfl)) Tryz.call191 (aHZ w a _ c _ ⟨_, _, rfl⟩)
 flat := by rintro w name (rfl | rfl | rfl) n m <;> exact jQ (by kernel_rfl) (n + 1) (m + 1)
 ahead := fun w => by kernel_rfl
 prepare := ⟨true, fun x w => run_typeAssert_hasB Tryz.underlying102 (by kernel_rfl) _ x w, fun {w fp σ} h => by
  simp only [if_true]
  exact aI.of0 (aAP p w) Tryz.call188 (aBL sp w p fp σ h)⟩
 state := ⟨true, fun x w => run_typeAssert_hasB Tryz.underlying172 (by kernel_rfl) _ x w, by
  simp only [if_true]
  intro w fp σ b fb bs h hb hd hl
  obtain ⟨v, fpc, hp, hown, hR, n1, n2, n3, hfp, hB⟩ := h
  obtain ⟨a, c, rfl⟩ := ownsRow_shape hown
  exact aI.of1 (mD p w _ _ (by rw [cell_of_row _ _ _ _ _ _ hp]; rfl) (by rw [cell_of_row _ _ _ _ _ _ hp]; rfl) _ _ (.inr (.inr rfl))) Tryz.call187
   (aGz sp w fpc _ hR _ ⟨_, _, _, rfl⟩ b fb bs hb (fun k hk => hd k ((hfp k).2 (.inr (.inr hk)))) hl)⟩
 encode := by
  intro w fp σ b fb bs h hw hb hd hl
  obtain ⟨v, fpc, hp, hown, hR, n1, n2, n3, hfp, hB⟩ := h
  obtain ⟨a, c, rfl⟩ := ownsRow_shape hown
  exact aI.of1 (mD p w _ _ (by rw [cell_of_row _ _ _ _ _ _ hp]; rfl) (by rw [cell_of_row _ _ _ _ _ _ hp]; rfl) _ _ (.inr (.inl rfl))) Tryz.call186
   (aDK sp w fpc σ hR _ hown b fb bs hb (fun k hk => hd k ((hfp k).2 (.inr (.inr hk)))) (fun k hk => hd k ((hfp k).2 (.inr (.inl hk)))) hw hl)
end Go.Proofs.YtcidlnjpabgioaaGreatDoor
