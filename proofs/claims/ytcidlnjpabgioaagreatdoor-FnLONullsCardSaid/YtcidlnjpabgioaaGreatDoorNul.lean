/- The column that may be NULL: over a column's contract. -/
import Derived.Test.YtcidlnjpabgioaaGreatDoorKu8
import Derived.Test.YtcidlnjpabgioaaGreatDoorStr
import Derived.Deep.RegionLaw
namespace Go.Proofs.YtcidlnjpabgioaaGreatDoor
open Go.RowKit

/-- '(*ColUInt8).Append' on a struct's first field. -/
theorem u8_field (w : World) (p : Nat) (cur : Array Value) (tc : TypeId) (n : Nat) (xs : List Value) (v : Value) (h0 : cur[0]? = some v) (hp : w.heap[p]? = some (.cells cur tc (0, 0))) (hown : w.ownsRow 0 5 1 v n xs) (hne : v.ownBlock ≠ some p) (hn : n < 2147483648) (x : Int) :
    Calls Tryz.prog 194 #[.pointer (some ⟨p, 0, none⟩), .int .u8 x] w fun e w' => e = .returned (.tuple #[]) ∧ ∃ v', w'.heap[p]? = some (.cells (cur.setIfInBounds 0 v') tc (0, 0)) ∧ w'.ownsRow 0 5 1 v' (n + 1) (xs ++ [.int .u8 x]) ∧ v'.ownBlock ≠ some p ∧
      (∀ k, v'.ownBlock = some k → v.ownBlock = some k ∨ w.heap.size ≤ k) ∧ Fr (fun k => k = p ∨ v.ownBlock = some k) w w' := by
  obtain ⟨a0, c0, rfl⟩ := ownsRow_shape hown
  have hpl := heap_lt hp
  have hcell : w.cell? ⟨p, 0, none⟩ = some (.slice a0 n c0) := by rw [cell_of_row _ _ _ _ _ _ hp, h0]
  have hsrc : Src Tryz.prog 1 128 (.slice (some ⟨w.heap.size, 0, none⟩) 1 1) 1 [.int .u8 x] (w.alloc (.cells [.int .u8 x].toArray 5)) :=
    Src.ofSlice _ Tryz.underlying128 _ _ _ _ rfl (cells_new _ _ _) (by simp [Value.oneCell'])
  go_enter Tryz.func194, Tryz.ntmps194
  go_wp2_with ((with_reducible show wpList _ _ _ (⟨some 10, _, _, _, _, _⟩ :: _) _ _); (refine wpList_append _ rfl u8_el _ _ rfl _ _ _ rfl (hown.alloc _) _ _ _ rfl hsrc ?_ ?_ ?_); (unfold maxLen; omega); omega; intro v' w1 ha; obtain ⟨a', c', rfl⟩ := ha.shape; obtain ⟨hcs, hfs⟩ := field_cells hp hne ((Fr.refl _ w).alloc _) ha; have d2 : w1.cell? ⟨p, 0, none⟩ = some (.slice a0 n c0) := (hcs 0).trans h0; have f2 := hfs 0; have hA := field_appended (i := 0) hp hown hne ((Fr.refl _ w).alloc _) ha)
  obtain ⟨hp2, hown2, hne2, hblk2, hfr2⟩ := hA
  go_end0
  refine ⟨rfl, _, hp2, hown2, hne2, fun k hk => ?_, hfr2⟩
  rcases hblk2 with e | e
  · exact .inl (by rw [← e, hk])
  · rw [e] at hk
    simp only [Option.some.injEq] at hk
    simp at hk
    exact .inr (by omega)

/-- The mark of a row, and what stands in its place. -/
def mark (c : Cell) : UInt8 := if c.null then 1 else 0
def nz (c : Cell) : Cell := if c.null then Cell.zero else c
theorem enc_nul (t : Ty) (cs : List Cell) : enc (.nul t) cs = cs.map mark ++ enc t (cs.map nz) := by rw [enc]; rfl
theorem nz_wt (c : Cell) : (nz c).wt ≤ c.wt := by
  unfold nz
  split
  · rw [Cell.wt_eq c]
    have h0 : (⟨#[]⟩ : ByteArray).size = 0 := rfl
    simp only [Cell.zero, Cell.wt, wts, h0]
    omega
  · exact Nat.le_refl _
theorem nz_wts : ∀ (cs : List Cell), wts (cs.map nz) ≤ wts cs
  | [] => Nat.le_refl _
  | c :: cs => by
    have h1 := nz_wt c
    have h2 := nz_wts cs
    rw [List.map_cons, wts, wts]
    omega

/-- A row in memory, as eight cells; the zero row. -/
theorem CellIn.zero (B : Nat) (w : World) : CellIn B w Cell.zero [.int .u64 0, .int .u64 0, .int .u64 0, .int .u64 0, .string ⟨#[]⟩, .bool false, .slice none 0 0, .slice none 0 0] := by
  unfold Cell.zero CellIn
  refine ⟨.slice none 0 0, .slice none 0 0, [], [], rfl, by decide, by decide, by decide, by decide, by decide, ⟨rfl, none, 0, rfl, Nat.le_refl _, by unfold maxLen; omega, fun _ => rfl, fun _ h => by cases h⟩, ?_, ⟨rfl, none, 0, rfl, Nat.le_refl _, by unfold maxLen; omega, fun _ => rfl, fun _ h => by cases h⟩, ?_⟩ <;> (unfold CellsIn; rfl)

theorem null_any (w : World) : Calls Tryz.prog 205 #[] w fun e w' => e = .returned (.agg #[.bool false, .int .u64 0, .int .u64 0, .int .u64 0, .int .u64 0, .string ⟨#[]⟩, .bool false, .slice none 0 0, .slice none 0 0]) ∧ Fr (fun _ => False) w w' := by
  go_enter Tryz.func205, Tryz.ntmps205
  go_wp2
  refine bodyPost_ret (by simp [results, Tryz.results205, go_sem]; try rfl) rfl ?_
  exact ⟨rfl, (Fr.refl _ w).alloc _⟩

theorem newnull_any (w : World) (r0 r1 r2 r3 : Nat) (s : ByteArray) (null : Bool) (ia : Option Addr) (il ic : Nat) (ka : Option Addr) (kl kc : Nat) : Calls Tryz.prog 206 #[.agg #[.int .u64 r0, .int .u64 r1, .int .u64 r2, .int .u64 r3, .string s, .bool null, .slice ia il ic, .slice ka kl kc]] w fun e w' =>
    e = .returned (.agg #[.bool true, .int .u64 r0, .int .u64 r1, .int .u64 r2, .int .u64 r3, .string s, .bool null, .slice ia il ic, .slice ka kl kc]) ∧ Fr (fun _ => False) w w' := by
  go_enter Tryz.func206, Tryz.ntmps206
  go_wp2
  refine bodyPost_ret (by simp [results, Tryz.results206, go_sem]; try rfl) rfl ?_
  exact ⟨rfl, ((Fr.refl _ w).alloc _).alloc _⟩

/-- A row as maybe hands it on. -/
def maybeV (c : Cell) (ia : Option Addr) (il ic : Nat) (ka : Option Addr) (kl kc : Nat) : List Value :=
  if c.null then [.int .u64 0, .int .u64 0, .int .u64 0, .int .u64 0, .string ⟨#[]⟩, .bool false, .slice none 0 0, .slice none 0 0]
  else [.int .u64 c.r0, .int .u64 c.r1, .int .u64 c.r2, .int .u64 c.r3, .string c.s, .bool false, .slice ia il ic, .slice ka kl kc]

set_option maxHeartbeats 1000000 in
theorem maybe_any (w : World) (c : Cell) (ia : Option Addr) (il ic : Nat) (ka : Option Addr) (kl kc : Nat) :
    Calls Tryz.prog 203 #[.agg #[.int .u64 c.r0, .int .u64 c.r1, .int .u64 c.r2, .int .u64 c.r3, .string c.s, .bool c.null, .slice ia il ic, .slice ka kl kc]] w fun e w' =>
      e = .returned (.agg (.bool (!c.null) :: maybeV c ia il ic ka kl kc).toArray) ∧ Fr (fun _ => False) w w' := by
  have hz : ∀ w1, Fr (fun _ => False) ((w.alloc (.cells #[.int .u64 c.r0, .int .u64 c.r1, .int .u64 c.r2, .int .u64 c.r3, .string c.s, .bool c.null, .slice ia il ic, .slice ka kl kc] 35)).alloc (.cells #[.bool false, .int .u64 0, .int .u64 0, .int .u64 0, .int .u64 0, .string ⟨#[]⟩, .bool false, .slice none 0 0, .slice none 0 0] 467)) w1 →
      ∀ i, w1.cell? ⟨w.heap.size + 1, i, none⟩ = #[Value.bool false, .int .u64 0, .int .u64 0, .int .u64 0, .int .u64 0, .string ⟨#[]⟩, .bool false, .slice none 0 0, .slice none 0 0][i]? ∧ w1.frozen? ⟨w.heap.size + 1, i, none⟩ = false := by
    intro w1 hf i
    have hm := hf.made (n := w.heap.size + 1) (by simp)
    exact ⟨by rw [cell_of_row _ _ _ _ _ _ hm], frozen_of_row _ _ _ _ _ hm⟩
  cases hnull : c.null with
  | true =>
    have hv : maybeV c ia il ic ka kl kc = [.int .u64 0, .int .u64 0, .int .u64 0, .int .u64 0, .string ⟨#[]⟩, .bool false, .slice none 0 0, .slice none 0 0] := by simp [maybeV, hnull]
    rw [hv]
    rw [hnull] at hz
    go_enter Tryz.func203, Tryz.ntmps203
    go_wp2_with (go_at_call 205; refine (null_any _).mono ?_; rintro e w1 ⟨rfl, hf1⟩; have hz1 := hz w1 hf1; have z0 := hz1 0; have z1 := hz1 1; have z2 := hz1 2; have z3 := hz1 3; have z4 := hz1 4; have z5 := hz1 5; have z6 := hz1 6; have z7 := hz1 7; have z8 := hz1 8; simp only [List.getElem?_toArray, List.getElem?_cons_zero, List.getElem?_cons_succ] at z0 z1 z2 z3 z4 z5 z6 z7 z8)
    refine bodyPost_ret (by simp [results, Tryz.results203, go_sem, z0, z1, z2, z3, z4, z5, z6, z7, z8]; try rfl) rfl ?_
    exact ⟨rfl, ((((((((((((Fr.refl _ w).alloc _).alloc _).trans hf1 (fun _ _ h => h)).setCell (.inr (by simp)) _).setCell (.inr (by simp)) _).setCell (.inr (by simp)) _).setCell (.inr (by simp)) _).setCell (.inr (by simp)) _).setCell (.inr (by simp)) _).setCell (.inr (by simp)) _).setCell (.inr (by simp)) _).setCell (.inr (by simp)) _⟩
  | false =>
    have hv : maybeV c ia il ic ka kl kc = [.int .u64 c.r0, .int .u64 c.r1, .int .u64 c.r2, .int .u64 c.r3, .string c.s, .bool false, .slice ia il ic, .slice ka kl kc] := by simp [maybeV, hnull]
    rw [hv]
    rw [hnull] at hz
    go_enter Tryz.func203, Tryz.ntmps203
    go_wp2_with (go_at_call 206; refine (newnull_any _ _ _ _ _ _ _ _ _ _ _ _ _).mono ?_; rintro e w1 ⟨rfl, hf1⟩; have hz1 := hz w1 hf1; have z0 := hz1 0; have z1 := hz1 1; have z2 := hz1 2; have z3 := hz1 3; have z4 := hz1 4; have z5 := hz1 5; have z6 := hz1 6; have z7 := hz1 7; have z8 := hz1 8; simp only [List.getElem?_toArray, List.getElem?_cons_zero, List.getElem?_cons_succ] at z0 z1 z2 z3 z4 z5 z6 z7 z8)
    refine bodyPost_ret (by simp [results, Tryz.results203, go_sem, z0, z1, z2, z3, z4, z5, z6, z7, z8]; try rfl) rfl ?_
    exact ⟨rfl, ((((((((((((Fr.refl _ w).alloc _).alloc _).trans hf1 (fun _ _ h => h)).setCell (.inr (by simp)) _).setCell (.inr (by simp)) _).setCell (.inr (by simp)) _).setCell (.inr (by simp)) _).setCell (.inr (by simp)) _).setCell (.inr (by simp)) _).setCell (.inr (by simp)) _).setCell (.inr (by simp)) _).setCell (.inr (by simp)) _⟩

theorem CellIn.maybe {B : Nat} {w : World} {c : Cell} {ia : Option Addr} {il ic : Nat} {ka : Option Addr} {kl kc : Nat} (h : CellIn B w c [.int .u64 c.r0, .int .u64 c.r1, .int .u64 c.r2, .int .u64 c.r3, .string c.s, .bool c.null, .slice ia il ic, .slice ka kl kc]) : CellIn B w (nz c) (maybeV c ia il ic ka kl kc) := by
  unfold nz maybeV
  cases hn : c.null with
  | true => exact CellIn.zero B w
  | false => rw [hn] at h; exact h

/-- Block p holds a column that may be NULL over the column (t, u). -/
def NulAt (B : Nat) (t : TypeId) (u : Value) (R : World → (Nat → Prop) → List Cell → Prop) (p : Nat) (w : World) (fp : Nat → Prop) (σ : List Cell) : Prop :=
  ∃ v fpc, w.heap[p]? = some (.cells #[v, .iface t u] 130 (0, 0)) ∧ w.ownsRow 0 5 1 v σ.length (bcells (σ.map mark)) ∧ R w fpc (σ.map nz) ∧ v.ownBlock ≠ some p ∧ ¬ fpc p ∧ (∀ k, v.ownBlock = some k → ¬ fpc k) ∧
    (∀ k, fp k ↔ k = p ∨ v.ownBlock = some k ∨ fpc k) ∧ ∀ k, fp k → B ≤ k

set_option maxRecDepth 100000 in
set_option maxHeartbeats 1000000 in
theorem nul_append {B : Nat} {t : TypeId} {u : Value} {T : Ty} {st : List UInt8} {R Rp : World → (Nat → Prop) → List Cell → Prop} (cs : ColSpec Tryz.prog B t u T st R Rp)
    (w : World) (p : Nat) (fp : Nat → Prop) (σ : List Cell) (h : NulAt B t u R p w fp σ) (c : Cell) (vs : List Value) (hvs : CellIn B w (nz c) vs) (hw : wts (σ ++ [c]) ≤ 2147483648) :
    Calls Tryz.prog 183 #[.pointer (some ⟨p, 0, none⟩), .agg (.bool (!c.null) :: vs).toArray] w fun e w' => e = .returned (.tuple #[]) ∧ Fr fp w w' ∧ ∃ fp', NulAt B t u R p w' fp' (σ ++ [c]) ∧ Grow w fp fp' := by
  obtain ⟨v, fpc, hp, hown, hR, n1, n2, n3, hfp, hB⟩ := h
  have hvs' := hvs
  obtain ⟨ia, il, ic, ka, kl, kc, rfl, -⟩ := hvs.open
  have hpl := heap_lt hp
  have hlt : ∀ k, fpc k → k < w.heap.size := fun k hk => (cs.lo hR k hk).2
  have hlen := length_le_wts (σ ++ [c])
  rw [List.length_append, List.length_singleton] at hlen
  have hwc : Wt T (σ.map nz ++ [nz c]) ≤ 2147483648 := by
    have := nz_wts (σ ++ [c])
    rw [List.map_append] at this
    exact Nat.le_trans this hw
  have hval : Value.agg (.bool (!c.null) :: [.int .u64 (nz c).r0, .int .u64 (nz c).r1, .int .u64 (nz c).r2, .int .u64 (nz c).r3, .string (nz c).s, .bool (nz c).null, .slice ia il ic, .slice ka kl kc]).toArray = .agg #[.bool (!c.null), .int .u64 (nz c).r0, .int .u64 (nz c).r1, .int .u64 (nz c).r2, .int .u64 (nz c).r3, .string (nz c).s, .bool (nz c).null, .slice ia il ic, .slice ka kl kc] := rfl
  rw [hval]
  clear hval
  have main : ∀ (W : World) (bn : Bool) (hnull : c.null = bn), W = w.alloc (.cells #[.bool (!bn), .int .u64 (nz c).r0, .int .u64 (nz c).r1, .int .u64 (nz c).r2, .int .u64 (nz c).r3, .string (nz c).s, .bool (nz c).null, .slice ia il ic, .slice ka kl kc] 467) →
      Calls Tryz.prog 194 #[.pointer (some ⟨p, 0, none⟩), .int .u8 (if bn then 1 else 0)] W fun e w1 => e = .returned (.tuple #[]) ∧ ∃ v', w1.heap[p]? = some (.cells #[v', .iface t u] 130 (0, 0)) ∧ w1.ownsRow 0 5 1 v' (σ ++ [c]).length (bcells ((σ ++ [c]).map mark)) ∧ v'.ownBlock ≠ some p ∧
        (∀ k, v'.ownBlock = some k → v.ownBlock = some k ∨ w.heap.size ≤ k) ∧ Fr (fun k => k = p ∨ v.ownBlock = some k) W w1 := by
    intro W bn hnull hW
    have hfW : Fr (fun _ => False) w W := by subst hW; exact (Fr.refl _ w).alloc _
    have hpW := (hfW.block p hpl (fun h => h)).trans hp
    have hownW := hfW.owns hown (fun _ _ h => h)
    refine (u8_field W p _ _ σ.length _ v rfl hpW hownW n1 (by omega) _).mono ?_
    rintro e w1 ⟨rfl, v', h1, h2, h3, h4, h5⟩
    refine ⟨rfl, v', h1, ?_, h3, fun k hk => (h4 k hk).imp id (fun h => Nat.le_trans hfW.size h), h5⟩
    rw [List.length_append, List.map_append, bcells_append]
    have e : bcells ([c].map mark) = [.int .u8 (if bn then 1 else 0)] := by simp only [bcells, mark, List.map, hnull]; cases bn <;> rfl
    rw [e]
    exact h2
  have tail : ∀ (W w1 : World) (bn : Bool) (v' : Value), W = w.alloc (.cells #[.bool (!bn), .int .u64 (nz c).r0, .int .u64 (nz c).r1, .int .u64 (nz c).r2, .int .u64 (nz c).r3, .string (nz c).s, .bool (nz c).null, .slice ia il ic, .slice ka kl kc] 467) →
      w1.heap[p]? = some (.cells #[v', .iface t u] 130 (0, 0)) → w1.ownsRow 0 5 1 v' (σ ++ [c]).length (bcells ((σ ++ [c]).map mark)) → v'.ownBlock ≠ some p → (∀ k, v'.ownBlock = some k → v.ownBlock = some k ∨ w.heap.size ≤ k) → Fr (fun k => k = p ∨ v.ownBlock = some k) W w1 →
      (∀ j x, #[Value.int .u64 (nz c).r0, .int .u64 (nz c).r1, .int .u64 (nz c).r2, .int .u64 (nz c).r3, .string (nz c).s, .bool (nz c).null, .slice ia il ic, .slice ka kl kc][j]? = some x → w1.cell? ⟨w.heap.size, j + 1, none⟩ = some x) ∧
      Invokes Tryz.prog (.iface t u) "Append" #[.agg #[.int .u64 (nz c).r0, .int .u64 (nz c).r1, .int .u64 (nz c).r2, .int .u64 (nz c).r3, .string (nz c).s, .bool (nz c).null, .slice ia il ic, .slice ka kl kc]] w1.drew fun e w2 =>
        e = .returned (.tuple #[]) ∧ Fr fpc w1.drew w2 ∧ Fr fp w w2 ∧ ∃ fp', NulAt B t u R p w2 fp' (σ ++ [c]) ∧ Grow w fp fp' := by
    intro W w1 bn v' hW hp1 hown1 hne1 hv1 hf1
    have hfW : Fr (fun _ => False) w W := by subst hW; exact (Fr.refl _ w).alloc _
    have hWs : W.heap.size = w.heap.size + 1 := by subst hW; simp
    have hvlt : ∀ k, v.ownBlock = some k → k < w.heap.size := fun k hk => ownsRow_lt hown hk
    have hf01 : Fr (fun k => k = p ∨ v.ownBlock = some k) w w1 := (hfW.mono (fun _ _ h => h.elim)).trans hf1 (fun _ _ h => h)
    have hsz := hf01.size
    have hBp : B ≤ p := hB p ((hfp p).2 (.inl rfl))
    have hBv : ∀ k, v.ownBlock = some k → B ≤ k := fun k hk => hB k ((hfp k).2 (.inr (.inl hk)))
    refine ⟨fun j x hj => ?_, ?_⟩
    · have hbox : w1.heap[w.heap.size]? = some (.cells #[.bool (!bn), .int .u64 (nz c).r0, .int .u64 (nz c).r1, .int .u64 (nz c).r2, .int .u64 (nz c).r3, .string (nz c).s, .bool (nz c).null, .slice ia il ic, .slice ka kl kc] 467 (0, 0)) := by
        refine (hf1.block _ (by omega) (fun h => h.elim (fun e => by omega) (fun e => by have := hvlt _ e; omega))).trans ?_
        subst hW
        exact heap_alloc_new w _
      rw [cell_of_row _ _ _ _ _ _ hbox, List.getElem?_toArray, List.getElem?_cons_succ]
      rw [List.getElem?_toArray] at hj
      exact hj
    · have hkeep : ∀ k, fpc k → w1.heap[k]? = w.heap[k]? := fun k hk => hf01.block k (hlt k hk) (fun h => h.elim (fun e => n2 (e ▸ hk)) (fun e => n3 k e hk))
      have hRd : R w1.drew fpc (σ.map nz) := cs.frame hR hkeep
      have hBd : Below B w w1.drew := (hf01.drew).below (by omega) (fun k hk h => h.elim (fun e => by omega) (fun e => by have := hBv k e; omega))
      refine (cs.append hRd (CellIn.below hBd _ _ hvs') hwc).mono ?_
      rintro e w2 ⟨rfl, hf2, fpc', hR2, hg2⟩
      have hf2' := hf2.of_drew
      have hg2' : ∀ k, fpc' k → fpc k ∨ w1.heap.size ≤ k := hg2
      have hs2 := hf2'.size
      have hv1c : ∀ k, v'.ownBlock = some k → ¬ fpc k := fun k hk h => (hv1 k hk).elim (fun e => n3 k e h) (fun e => by have := hlt k h; omega)
      have hv1l : ∀ k, v'.ownBlock = some k → k < w1.heap.size := fun k hk => ownsRow_lt hown1 hk
      refine ⟨rfl, hf2, (hf01.mono (fun k _ h => (hfp k).2 (h.elim .inl (fun h => .inr (.inl h))))).trans hf2' (fun k _ h => (hfp k).2 (.inr (.inr h))), fun k => k = p ∨ v'.ownBlock = some k ∨ fpc' k, ⟨v', fpc', (hf2'.block p (by omega) n2).trans hp1, hf2'.owns hown1 hv1c, ?_, hne1, ?_, ?_, fun k => Iff.rfl, ?_⟩, ?_⟩
      · rw [List.map_append]
        exact hR2
      · intro h
        rcases hg2' p h with h | h
        · exact n2 h
        · omega
      · intro k hk h
        rcases hg2' k h with h | h
        · exact hv1c k hk h
        · have := hv1l k hk; omega
      · rintro k (rfl | hk | hk)
        · exact hBp
        · rcases hv1 k hk with h | h
          · exact hBv k h
          · omega
        · rcases hg2' k hk with h | h
          · exact hB k ((hfp k).2 (.inr (.inr h)))
          · omega
      · rintro k (rfl | hk | hk)
        · exact .inl ((hfp k).2 (.inl rfl))
        · exact (hv1 k hk).imp (fun h => (hfp k).2 (.inr (.inl h))) id
        · rcases hg2' k hk with h | h
          · exact .inl ((hfp k).2 (.inr (.inr h)))
          · exact .inr (by omega)
  cases hnull : c.null with
  | true =>
    have hm := main _ true hnull rfl
    go_enter Tryz.func183, Tryz.ntmps183
    go_wp2_with (go_at_call 194; refine hm.mono ?_; rintro e w1 ⟨rfl, v', hp1, hown1, hne1, hv1, hf1⟩)
    have tl := tail _ w1 true v' rfl hp1 hown1 hne1 hv1 hf1
    obtain ⟨hbx, hi⟩ := tl
    have d0 : w1.cell? ⟨p, 1, none⟩ = some (.iface t u) := by rw [cell_of_row _ _ _ _ _ _ hp1]; rfl
    have d1 := hbx 0 (.int .u64 (nz c).r0) rfl
    have d2 := hbx 1 (.int .u64 (nz c).r1) rfl
    have d3 := hbx 2 (.int .u64 (nz c).r2) rfl
    have d4 := hbx 3 (.int .u64 (nz c).r3) rfl
    have d5 := hbx 4 (.string (nz c).s) rfl
    have d6 := hbx 5 (.bool (nz c).null) rfl
    have d7 := hbx 6 (.slice ia il ic) rfl
    have d8 := hbx 7 (.slice ka kl kc) rfl
    have hsz : w.heap.size < w1.heap.size := World.block_lt_of_cell? w1 _ d1
    have hpn : ¬ fpc w.heap.size := fun h => by have := hlt _ h; omega
    simp only [Nat.reduceAdd] at d1 d2 d3 d4 d5 d6 d7 d8
    clear hbx main tail hm
    go_region_held3 (fun w' => w'.cell? ⟨p, 1, none⟩ = some (.iface t u) ∧ w'.cell? ⟨w.heap.size, 1, none⟩ = some (.int .u64 (nz c).r0) ∧ w'.cell? ⟨w.heap.size, 2, none⟩ = some (.int .u64 (nz c).r1) ∧ w'.cell? ⟨w.heap.size, 3, none⟩ = some (.int .u64 (nz c).r2) ∧ w'.cell? ⟨w.heap.size, 4, none⟩ = some (.int .u64 (nz c).r3) ∧ w'.cell? ⟨w.heap.size, 5, none⟩ = some (.string (nz c).s) ∧ w'.cell? ⟨w.heap.size, 6, none⟩ = some (.bool (nz c).null) ∧ w'.cell? ⟨w.heap.size, 7, none⟩ = some (.slice ia il ic) ∧ w'.cell? ⟨w.heap.size, 8, none⟩ = some (.slice ka kl kc))
      (first
        | exact ⟨d0, d1, d2, d3, d4, d5, d6, d7, d8⟩
        | exact ⟨hf2.of_drew.cell_some d0 n2, hf2.of_drew.cell_some d1 hpn, hf2.of_drew.cell_some d2 hpn, hf2.of_drew.cell_some d3 hpn, hf2.of_drew.cell_some d4 hpn, hf2.of_drew.cell_some d5 hpn, hf2.of_drew.cell_some d6 hpn, hf2.of_drew.cell_some d7 hpn, hf2.of_drew.cell_some d8 hpn⟩
        | assumption)
      (first
        | (refine step_of_wp _ rfl ?_; refine wp_invoke _ _ _ _ _ rfl _ _ rfl hi rfl ?_; rintro e w2 ⟨rfl, hf2, hfin⟩; refine ⟨_, rfl, ?_⟩))
    all_goals
      go_end0
      exact ⟨rfl, hfin.1, hfin.2⟩
  | false =>
    have hm := main _ false hnull rfl
    go_enter Tryz.func183, Tryz.ntmps183
    go_wp2_with (go_at_call 194; refine hm.mono ?_; rintro e w1 ⟨rfl, v', hp1, hown1, hne1, hv1, hf1⟩)
    have tl := tail _ w1 false v' rfl hp1 hown1 hne1 hv1 hf1
    obtain ⟨hbx, hi⟩ := tl
    have d0 : w1.cell? ⟨p, 1, none⟩ = some (.iface t u) := by rw [cell_of_row _ _ _ _ _ _ hp1]; rfl
    have d1 := hbx 0 (.int .u64 (nz c).r0) rfl
    have d2 := hbx 1 (.int .u64 (nz c).r1) rfl
    have d3 := hbx 2 (.int .u64 (nz c).r2) rfl
    have d4 := hbx 3 (.int .u64 (nz c).r3) rfl
    have d5 := hbx 4 (.string (nz c).s) rfl
    have d6 := hbx 5 (.bool (nz c).null) rfl
    have d7 := hbx 6 (.slice ia il ic) rfl
    have d8 := hbx 7 (.slice ka kl kc) rfl
    have hsz : w.heap.size < w1.heap.size := World.block_lt_of_cell? w1 _ d1
    have hpn : ¬ fpc w.heap.size := fun h => by have := hlt _ h; omega
    simp only [Nat.reduceAdd] at d1 d2 d3 d4 d5 d6 d7 d8
    clear hbx main tail hm
    go_region_held3 (fun w' => w'.cell? ⟨p, 1, none⟩ = some (.iface t u) ∧ w'.cell? ⟨w.heap.size, 1, none⟩ = some (.int .u64 (nz c).r0) ∧ w'.cell? ⟨w.heap.size, 2, none⟩ = some (.int .u64 (nz c).r1) ∧ w'.cell? ⟨w.heap.size, 3, none⟩ = some (.int .u64 (nz c).r2) ∧ w'.cell? ⟨w.heap.size, 4, none⟩ = some (.int .u64 (nz c).r3) ∧ w'.cell? ⟨w.heap.size, 5, none⟩ = some (.string (nz c).s) ∧ w'.cell? ⟨w.heap.size, 6, none⟩ = some (.bool (nz c).null) ∧ w'.cell? ⟨w.heap.size, 7, none⟩ = some (.slice ia il ic) ∧ w'.cell? ⟨w.heap.size, 8, none⟩ = some (.slice ka kl kc))
      (first
        | exact ⟨d0, d1, d2, d3, d4, d5, d6, d7, d8⟩
        | exact ⟨hf2.of_drew.cell_some d0 n2, hf2.of_drew.cell_some d1 hpn, hf2.of_drew.cell_some d2 hpn, hf2.of_drew.cell_some d3 hpn, hf2.of_drew.cell_some d4 hpn, hf2.of_drew.cell_some d5 hpn, hf2.of_drew.cell_some d6 hpn, hf2.of_drew.cell_some d7 hpn, hf2.of_drew.cell_some d8 hpn⟩
        | assumption)
      (first
        | (refine step_of_wp _ rfl ?_; refine wp_invoke _ _ _ _ _ rfl _ _ rfl hi rfl ?_; rintro e w2 ⟨rfl, hf2, hfin⟩; refine ⟨_, rfl, ?_⟩))
    all_goals
      go_end0
      exact ⟨rfl, hfin.1, hfin.2⟩
end Go.Proofs.YtcidlnjpabgioaaGreatDoor
