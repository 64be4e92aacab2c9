/- nulls: what a column that may be NULL is to impl. -/
import Derived.Test.YtcidlnjpabgioaaGreatDoorNul
namespace Go.Proofs.YtcidlnjpabgioaaGreatDoor
open Go.RowKit

section
variable {B : Nat} {t : TypeId} {u : Value} {T : Ty} {st : List UInt8} {R Rp : World → (Nat → Prop) → List Cell → Prop}

theorem NulAt.lt (hRl : ∀ {w fp σ}, R w fp σ → ∀ k, fp k → B ≤ k ∧ k < w.heap.size) {p : Nat} {w : World} {fp : Nat → Prop} {σ : List Cell} (h : NulAt B t u R p w fp σ) : ∀ k, fp k → B ≤ k ∧ k < w.heap.size := by
  obtain ⟨v, fpc, hp, hown, hR, n1, n2, n3, hfp, hB⟩ := h
  intro k hk
  refine ⟨hB k hk, ?_⟩
  rcases (hfp k).1 hk with rfl | hk | hk
  · exact heap_lt hp
  · exact ownsRow_lt hown hk
  · exact (hRl hR k hk).2

theorem NulAt.framed (hRf : ∀ {w w' fp σ}, R w fp σ → (∀ k, fp k → w'.heap[k]? = w.heap[k]?) → R w' fp σ) {p : Nat} {w w' : World} {fp : Nat → Prop} {σ : List Cell} (h : NulAt B t u R p w fp σ) (hk : ∀ k, fp k → w'.heap[k]? = w.heap[k]?) : NulAt B t u R p w' fp σ := by
  obtain ⟨v, fpc, hp, hown, hR, n1, n2, n3, hfp, hB⟩ := h
  refine ⟨v, fpc, (hk p ((hfp p).2 (.inl rfl))).trans hp, ⟨hown.1, ?_⟩, hRf hR (fun k h => hk k ((hfp k).2 (.inr (.inr h)))), n1, n2, n3, hfp, hB⟩
  rcases hown.2 with h0 | ⟨g, cap, cur, rfl, hb, hgg, rest⟩
  · exact .inl h0
  · exact .inr ⟨g, cap, cur, rfl, hb, (hk g ((hfp g).2 (.inr (.inl rfl)))).trans hgg, rest⟩

set_option maxRecDepth 100000 in
set_option maxHeartbeats 1000000 in
theorem nulls_append (cs : ColSpec Tryz.prog B t u T st R Rp) (w : World) (p : Nat) (fp : Nat → Prop) (σ : List Cell) (h : NulAt B t u R p w fp σ) (c : Cell) (ia : Option Addr) (il ic : Nat) (ka : Option Addr) (kl kc : Nat)
    (hvs : CellIn B w c [.int .u64 c.r0, .int .u64 c.r1, .int .u64 c.r2, .int .u64 c.r3, .string c.s, .bool c.null, .slice ia il ic, .slice ka kl kc]) (hw : wts (σ ++ [c]) ≤ 2147483648) :
    Calls Tryz.prog 200 #[.agg #[.pointer (some ⟨p, 0, none⟩)], .agg #[.int .u64 c.r0, .int .u64 c.r1, .int .u64 c.r2, .int .u64 c.r3, .string c.s, .bool c.null, .slice ia il ic, .slice ka kl kc]] w fun e w' => e = .returned (.tuple #[]) ∧ Fr fp w w' ∧ ∃ fp', NulAt B t u R p w' fp' (σ ++ [c]) ∧ Grow w fp fp' := by
  have hlo := h.lt cs.lo
  have hBw : B ≤ w.heap.size := by
    obtain ⟨v, fpc, hp, hown, hR, n1, n2, n3, hfp, hB⟩ := h
    have := hlo p ((hfp p).2 (.inl rfl))
    omega
  go_enter Tryz.func200, Tryz.ntmps200
  go_wp2_with fail
  generalize hW : (w.alloc _).alloc _ = W
  have hfrW : Fr (fun _ => False) w W := by subst hW; exact ((Fr.refl _ w).alloc _).alloc _
  have d0 : W.cell? ⟨w.heap.size, 0, none⟩ = some (.pointer (some ⟨p, 0, none⟩)) := by subst hW; rw [World.cell?_alloc_lt _ _ _ (by simp), cell_new rfl]; rfl
  have e0 : W.cell? ⟨w.heap.size + 1, 0, none⟩ = some (.int .u64 c.r0) := by subst hW; rw [cell_new (by simp)]; rfl
  have e1 : W.cell? ⟨w.heap.size + 1, 1, none⟩ = some (.int .u64 c.r1) := by subst hW; rw [cell_new (by simp)]; rfl
  have e2 : W.cell? ⟨w.heap.size + 1, 2, none⟩ = some (.int .u64 c.r2) := by subst hW; rw [cell_new (by simp)]; rfl
  have e3 : W.cell? ⟨w.heap.size + 1, 3, none⟩ = some (.int .u64 c.r3) := by subst hW; rw [cell_new (by simp)]; rfl
  have e4 : W.cell? ⟨w.heap.size + 1, 4, none⟩ = some (.string c.s) := by subst hW; rw [cell_new (by simp)]; rfl
  have e5 : W.cell? ⟨w.heap.size + 1, 5, none⟩ = some (.bool c.null) := by subst hW; rw [cell_new (by simp)]; rfl
  have e6 : W.cell? ⟨w.heap.size + 1, 6, none⟩ = some (.slice ia il ic) := by subst hW; rw [cell_new (by simp)]; rfl
  have e7 : W.cell? ⟨w.heap.size + 1, 7, none⟩ = some (.slice ka kl kc) := by subst hW; rw [cell_new (by simp)]; rfl
  have hN : ¬ fp w.heap.size := fun h => by have := hlo _ h; omega
  have hN1 : ¬ fp (w.heap.size + 1) := fun h => by have := hlo _ h; omega
  clear hW
  go_region_held3 (fun w' => w'.cell? ⟨w.heap.size, 0, none⟩ = some (.pointer (some ⟨p, 0, none⟩)) ∧ w'.cell? ⟨w.heap.size + 1, 0, none⟩ = some (.int .u64 c.r0) ∧ w'.cell? ⟨w.heap.size + 1, 1, none⟩ = some (.int .u64 c.r1) ∧ w'.cell? ⟨w.heap.size + 1, 2, none⟩ = some (.int .u64 c.r2) ∧ w'.cell? ⟨w.heap.size + 1, 3, none⟩ = some (.int .u64 c.r3) ∧ w'.cell? ⟨w.heap.size + 1, 4, none⟩ = some (.string c.s) ∧ w'.cell? ⟨w.heap.size + 1, 5, none⟩ = some (.bool c.null) ∧ w'.cell? ⟨w.heap.size + 1, 6, none⟩ = some (.slice ia il ic) ∧ w'.cell? ⟨w.heap.size + 1, 7, none⟩ = some (.slice ka kl kc))
    (first
      | exact ⟨d0, e0, e1, e2, e3, e4, e5, e6, e7⟩
      | exact ⟨hf2.cell_some (hf1.of_drew.cell_some d0 (fun h => h)) hN, hf2.cell_some (hf1.of_drew.cell_some e0 (fun h => h)) hN1, hf2.cell_some (hf1.of_drew.cell_some e1 (fun h => h)) hN1, hf2.cell_some (hf1.of_drew.cell_some e2 (fun h => h)) hN1, hf2.cell_some (hf1.of_drew.cell_some e3 (fun h => h)) hN1, hf2.cell_some (hf1.of_drew.cell_some e4 (fun h => h)) hN1, hf2.cell_some (hf1.of_drew.cell_some e5 (fun h => h)) hN1, hf2.cell_some (hf1.of_drew.cell_some e6 (fun h => h)) hN1, hf2.cell_some (hf1.of_drew.cell_some e7 (fun h => h)) hN1⟩
      | exact ⟨hf1.of_drew.cell_some d0 (fun h => h), hf1.of_drew.cell_some e0 (fun h => h), hf1.of_drew.cell_some e1 (fun h => h), hf1.of_drew.cell_some e2 (fun h => h), hf1.of_drew.cell_some e3 (fun h => h), hf1.of_drew.cell_some e4 (fun h => h), hf1.of_drew.cell_some e5 (fun h => h), hf1.of_drew.cell_some e6 (fun h => h), hf1.of_drew.cell_some e7 (fun h => h)⟩
      | assumption)
    (first
      | (go_at_call 203; refine (maybe_any _ c ia il ic ka kl kc).mono ?_; rintro e w1 ⟨rfl, hf1⟩)
      | (go_at_call 183; refine (nul_append cs _ p fp σ (h.framed cs.frame fun k hk => (hfrW.trans hf1.of_drew (fun _ _ h => h)).block k (hlo k hk).2 (fun h => h)) c _ (CellIn.below ((hfrW.trans hf1.of_drew (fun _ _ h => h)).below hBw (fun _ _ h => h)) _ _ hvs).maybe hw).mono ?_; rintro e w2 ⟨rfl, hf2, hfin⟩))
  all_goals
    go_end0
    obtain ⟨fp', h1, h2⟩ := hfin
    have hs1 := (hfrW.trans hf1.of_drew (fun _ _ h => h)).size
    exact ⟨rfl, ((hfrW.trans hf1.of_drew (fun _ _ h => h)).mono (fun _ _ h => h.elim)).trans hf2 (fun _ _ h => h), fp', h1, fun k hk => (h2 k hk).imp id (fun h => by omega)⟩
end
end Go.Proofs.YtcidlnjpabgioaaGreatDoor
