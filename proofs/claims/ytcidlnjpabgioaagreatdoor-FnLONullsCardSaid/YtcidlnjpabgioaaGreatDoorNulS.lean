/- nulls keeps ColSpec, if its column does. -/
import Derived.Test.YtcidlnjpabgioaaGreatDoorNulT
namespace Go.Proofs.YtcidlnjpabgioaaGreatDoor
open Go.RowKit

section
variable {B : Nat} {t : TypeId} {u : Value} {T : Ty} {st : List UInt8} {R Rp : World → (Nat → Prop) → List Cell → Prop}

set_option maxRecDepth 100000 in
set_option maxHeartbeats 1000000 in
theorem nulls_appendArr (sp : ColSpec Tryz.prog B t u T st R Rp) (w : World) (p : Nat) (fp : Nat → Prop) (σ : List Cell) (h : NulAt B t u R p w fp σ) (cs : List Cell) (v : Value) (ys : List Value) (hs : Sl B w 8 v cs.length ys) (hcs : CellsIn B w cs ys) (hw : wts (σ ++ cs) ≤ 2147483648) :
    Calls Tryz.prog 201 #[.agg #[.pointer (some ⟨p, 0, none⟩)], v] w fun e w' => e = .returned (.tuple #[]) ∧ Fr fp w w' ∧ ∃ fp', NulAt B t u R p w' fp' (σ ++ cs) ∧ Grow w fp fp' := by
  have hlo := h.lt sp.lo
  have hBw : B ≤ w.heap.size := by
    obtain ⟨v, fpc, hp, _, _, _, _, _, hfp, _⟩ := h
    have := hlo p ((hfp p).2 (.inl rfl))
    omega
  have hn : cs.length ≤ 2147483648 := by
    have := length_le_wts (σ ++ cs)
    rw [List.length_append] at this
    omega
  go_enter Tryz.func201, Tryz.ntmps201
  go_wp2_with fail
  generalize hW : w.alloc _ = W
  have hfrW : Fr (fun _ => False) w W := by subst hW; exact (Fr.refl _ w).alloc _
  have d0 : W.cell? ⟨w.heap.size, 0, none⟩ = some (.pointer (some ⟨p, 0, none⟩)) := by subst hW; rw [cell_new rfl]; rfl
  have hN : ¬ fp w.heap.size := fun h => by have := hlo _ h; omega
  have hsW := hs.fr hBw hfrW
  have hcsW := CellsIn.below (hfrW.below hBw (fun _ _ h => h)) _ _ hcs
  have hBW : B ≤ W.heap.size := Nat.le_trans hBw hfrW.size
  have hsD := hsW.fr hBW (Fr.refl (fun _ => False) W).drew
  have hcsD := CellsIn.below ((Below.refl B W).drew) _ _ hcsW
  clear hW hs hcs
  go_region_held3 (fun w' => w'.cell? ⟨w.heap.size, 0, none⟩ = some (.pointer (some ⟨p, 0, none⟩)))
    (first
      | exact d0
      | exact hf2.cell_some (hf1.of_drew.cell_some d0 (fun h => h)) hN
      | exact hf1.of_drew.cell_some d0 (fun h => h)
      | assumption)
    (first
      | (go_at_call 204; refine (nul_turned W.drew B hBW cs v ys hsD hcsD hn).mono ?_; rintro e w1 ⟨tv, rfl, ⟨vals, hown, hni⟩, hsince, hf1⟩)
      | (go_at_call 184; refine (nul_appendArr sp _ p fp σ (h.framed sp.frame fun k hk => (hfrW.trans hf1.of_drew (fun _ _ h => h)).block k (hlo k hk).2 (fun h => h)) cs tv vals hown hni (fun k hk h => by have h1 := (hlo k h).2; have h2 : W.heap.size ≤ k := hsince k hk; have h3 := hfrW.size; omega) hw).mono ?_; rintro e w2 ⟨rfl, hf2, hfin⟩))
  all_goals
    go_end0
    obtain ⟨fp', h1, h2⟩ := hfin
    have hs1 := (hfrW.trans hf1.of_drew (fun _ _ h => h)).size
    exact ⟨rfl, ((hfrW.trans hf1.of_drew (fun _ _ h => h)).mono (fun _ _ h => h.elim)).trans hf2 (fun _ _ h => h), fp', h1, fun k hk => (h2 k hk).imp id (fun h => by omega)⟩

/-- The column beneath turns. -/
theorem NulAt.child {R' : World → (Nat → Prop) → List Cell → Prop} {w w' : World} {p : Nat} {fp fpc fpc' : Nat → Prop} {σ : List Cell} {v : Value} (_h : NulAt B t u R p w fp σ) (hp : w.heap[p]? = some (.cells #[v, .iface t u] 130 (0, 0))) (hown : w.ownsRow 0 5 1 v σ.length (bcells (σ.map mark)))
    (n1 : v.ownBlock ≠ some p) (n2 : ¬ fpc p) (n3 : ∀ k, v.ownBlock = some k → ¬ fpc k) (hfp : ∀ k, fp k ↔ k = p ∨ v.ownBlock = some k ∨ fpc k) (hB : ∀ k, fp k → B ≤ k) (_hlt : ∀ k, fpc k → k < w.heap.size)
    (hf : Fr fpc w w') (hR : R' w' fpc' (σ.map nz)) (hg : Grow w fpc fpc') : Fr fp w w' ∧ ∃ fp', NulAt B t u R' p w' fp' σ ∧ Grow w fp fp' := by
  have hpl := heap_lt hp
  have hvl : ∀ k, v.ownBlock = some k → k < w.heap.size := fun k hk => ownsRow_lt hown hk
  have hBp : B ≤ p := hB p ((hfp p).2 (.inl rfl))
  refine ⟨hf.mono (fun k _ h => (hfp k).2 (.inr (.inr h))), fun k => k = p ∨ v.ownBlock = some k ∨ fpc' k, ⟨v, fpc', (hf.block p hpl n2).trans hp, hf.owns hown n3, hR, n1, ?_, ?_, fun k => Iff.rfl, ?_⟩, ?_⟩
  · intro h
    rcases hg p h with h | h
    · exact n2 h
    · omega
  · intro k hk h
    rcases hg k h with h | h
    · exact n3 k hk h
    · have := hvl k hk; omega
  · rintro k (rfl | hk | hk)
    · exact hBp
    · exact hB k ((hfp k).2 (.inr (.inl hk)))
    · rcases hg k hk with h | h
      · exact hB k ((hfp k).2 (.inr (.inr h)))
      · omega
  · rintro k (rfl | hk | hk)
    · exact .inl ((hfp k).2 (.inl rfl))
    · exact .inl ((hfp k).2 (.inr (.inl hk)))
    · exact (hg k hk).imp (fun h => (hfp k).2 (.inr (.inr h))) id

set_option maxRecDepth 100000 in
set_option maxHeartbeats 1000000 in
theorem nul_prepare (sp : ColSpec Tryz.prog B t u T st R Rp) (w : World) (p : Nat) (fp : Nat → Prop) (σ : List Cell) (h : NulAt B t u R p w fp σ) :
    Calls Tryz.prog 188 #[.pointer (some ⟨p, 0, none⟩)] w fun e w' => e = .returned .nilIface ∧ Fr fp w w' ∧ ∃ fp', NulAt B t u Rp p w' fp' σ ∧ Grow w fp fp' := by
  obtain ⟨v, fpc, hp, hown, hR, n1, n2, n3, hfp, hB⟩ := h
  have d1 : w.cell? ⟨p, 1, none⟩ = some (.iface t u) := by rw [cell_of_row _ _ _ _ _ _ hp]; rfl
  have hlt : ∀ k, fpc k → k < w.heap.size := fun k hk => (sp.lo hR k hk).2
  have hpl := heap_lt hp
  obtain ⟨q, hta, hpr⟩ := sp.prepare
  have hta' := hta 59
  have hpr := hpr hR
  cases q with
  | false =>
    simp only [Bool.false_eq_true, if_false] at hpr hta'
    go_enter Tryz.func188, Tryz.ntmps188
    go_wp2
    go_ret
    exact ⟨rfl, Fr.refl _ _, fp, ⟨v, fpc, hp, hown, hpr, n1, n2, n3, hfp, hB⟩, fun k hk => .inl hk⟩
  | true =>
    simp only [if_true] at hpr hta'
    go_enter Tryz.func188, Tryz.ntmps188
    go_wp2_with ((with_reducible show wpList _ _ _ (⟨some 16, _, _, _, _, _⟩ :: _) _ _); refine wpList_invoke _ rfl _ _ _ _ rfl _ _ rfl hpr rfl ?_; rintro e w' ⟨rfl, hf1, hR1⟩; refine ⟨_, rfl, ?_⟩)
    go_ret
    obtain ⟨fpc', h1, h2⟩ := hR1
    exact ⟨rfl, NulAt.child ⟨v, fpc, hp, hown, hR, n1, n2, n3, hfp, hB⟩ hp hown n1 n2 n3 hfp hB hlt hf1 h1 h2⟩

set_option maxHeartbeats 1000000 in
theorem nul_state (sp : ColSpec Tryz.prog B t u T st R Rp) (w : World) (fpc : Nat → Prop) (τ : List Cell) (hR : Rp w fpc τ) (v : Value) (hvs : ∃ a n c, v = .slice a n c) (b : Nat) (fb : Nat → Prop) (bs : List UInt8) (hb : Buf w b fb bs) (hd : ∀ k, fpc k → ¬ fb k) (hl : bs.length ≤ 2147483648) :
    Calls Tryz.prog 187 #[.agg #[v, .iface t u], .pointer (some ⟨b, 0, none⟩)] w fun e w' => e = .returned (.tuple #[]) ∧ Fr fb w w' ∧ ∃ fb', Buf w' b fb' (bs ++ st) ∧ Grow w fb fb' := by
  obtain ⟨q, hta, hst⟩ := sp.state
  have hta' := hta 59
  have hlo := sp.lo' hR
  have hRA : Rp (w.alloc (.cells #[v, .iface t u] 130)) fpc τ := sp.frame' hR fun k hk => Below.heap_alloc _ _ _ (hlo k hk).2
  have hbA : Buf (w.alloc (.cells #[v, .iface t u] 130)) b fb bs := ColAt.framed hb fun k hk => Below.heap_alloc _ _ _ (ColAt.lt hb k hk)
  obtain ⟨av, nv, cv, rfl⟩ := hvs
  cases q with
  | false =>
    simp only [Bool.false_eq_true, if_false] at hst hta'
    subst hst
    go_enter Tryz.func187, Tryz.ntmps187
    go_wp2
    go_end0
    exact ⟨rfl, (Fr.refl _ w).alloc _, fb, by simpa using hbA, fun k hk => .inl hk⟩
  | true =>
    simp only [if_true] at hst hta'
    have hi := hst hRA hbA hd hl
    go_enter Tryz.func187, Tryz.ntmps187
    go_wp2_with ((with_reducible show wpList _ _ _ (⟨some 15, _, _, _, _, _⟩ :: _) _ _); refine wpList_invoke _ rfl _ _ _ _ rfl _ _ rfl hi rfl ?_; rintro e w' ⟨rfl, hf1, hb1⟩; refine ⟨_, rfl, ?_⟩)
    go_end0
    obtain ⟨fb', h1, h2⟩ := hb1
    exact ⟨rfl, ((Fr.refl fb w).alloc _).trans hf1 (fun _ _ h => h), fb', h1, fun k hk => (h2 k hk).imp id (fun h => by simp at h; omega)⟩

/-- The marks as rows of bytes. -/
def mc (c : Cell) : Cell := .mk (mark c).toNat 0 0 0 ⟨#[]⟩ false [] []
theorem mc_bytes (σ : List Cell) : (σ.map mc).flatMap (numBytes 1) = σ.map mark := by
  induction σ with
  | nil => rfl
  | cons c σ ih =>
    have h : numBytes 1 (mc c) = [mark c] := by
      rw [numBytes_word 1 (by omega)]
      show Lib.leBytes 1 (mark c).toNat = _
      unfold mark
      cases c.null <;> rfl
    rw [List.map_cons, List.flatMap_cons, List.map_cons, ih, h]
    rfl
theorem mc_cells (σ : List Cell) : (σ.map mc).flatMap u8_cells = bcells (σ.map mark) := by rw [u8_bytes, mc_bytes]

set_option maxRecDepth 100000 in
set_option maxHeartbeats 1000000 in
theorem nul_encode (sp : ColSpec Tryz.prog B t u T st R Rp) (w : World) (fpc : Nat → Prop) (σ : List Cell) (hR : Rp w fpc (σ.map nz)) (v : Value) (hown : w.ownsRow 0 5 1 v σ.length (bcells (σ.map mark))) (b : Nat) (fb : Nat → Prop) (bs : List UInt8) (hb : Buf w b fb bs) (hd : ∀ k, fpc k → ¬ fb k)
    (hdv : ∀ k, v.ownBlock = some k → ¬ fb k) (hw : wts σ ≤ 2147483648) (hl : bs.length + (enc (.nul T) σ).length ≤ 1099511627776) :
    Calls Tryz.prog 186 #[.agg #[v, .iface t u], .pointer (some ⟨b, 0, none⟩)] w fun e w' => e = .returned (.tuple #[]) ∧ Fr fb w w' ∧ ∃ fb', Buf w' b fb' (bs ++ enc (.nul T) σ) ∧ Grow w fb fb' := by
  obtain ⟨a1, c1, rfl⟩ := ownsRow_shape hown
  rw [enc_nul] at hl
  rw [List.length_append, List.length_map] at hl
  have hlo := sp.lo' hR
  have hsl := length_le_wts σ
  have hA : Fr (fun _ => False) w (w.alloc (.cells #[.slice a1 σ.length c1, .iface t u] 130)) := (Fr.refl _ w).alloc _
  have hRA : Rp (w.alloc (.cells #[.slice a1 σ.length c1, .iface t u] 130)) fpc (σ.map nz) := sp.frame' hR fun k hk => Below.heap_alloc _ _ _ (hlo k hk).2
  have hbA : Buf (w.alloc (.cells #[.slice a1 σ.length c1, .iface t u] 130)) b fb bs := ColAt.framed hb fun k hk => Below.heap_alloc _ _ _ (ColAt.lt hb k hk)
  have hoA := hA.owns hown (fun _ _ h => h)
  have hflt : ∀ k, fb k → k < w.heap.size := ColAt.lt hb
  have hmcl : (σ.map mc).length = σ.length := List.length_map _
  have henc := u8_encode _ b fb bs hbA a1 c1 (σ.map mc) (by rw [hmcl, mc_cells]; exact hoA) (by rw [hmcl]; exact hdv) (fun c hc => by obtain ⟨x, _, rfl⟩ := List.mem_map.1 hc; exact Nat.lt_of_lt_of_le (mark x).toNat_lt (by decide)) (by rw [hmcl]; omega)
  rw [hmcl, mc_bytes] at henc
  have q1 : (w.alloc (.cells #[.slice a1 σ.length c1, .iface t u] 130)).cell? ⟨w.heap.size, 1, none⟩ = some (.iface t u) := by rw [cell_new rfl]; rfl
  have hNb : ¬ fb w.heap.size := fun h => by have := hflt _ h; omega
  go_enter Tryz.func186, Tryz.ntmps186
  go_wp2_with (first
    | (go_at_call 195; refine henc.mono ?_; rintro e w1 ⟨rfl, hf1, fb1, hb1, hg1⟩; have q2 := hf1.cell_some q1 hNb; have hsz1 := hf1.size; have hi := sp.encode (sp.frame' hRA (w' := w1) fun k hk => hf1.block k (sp.lo' hRA k hk).2 (hd k hk)) (Nat.le_trans (nz_wts σ) hw) hb1 (fun k hk h => (hg1 k h).elim (hd k hk) (fun h => by have := (sp.lo' hRA k hk).2; omega)) (by rw [List.length_append, List.length_map]; omega))
    | ((with_reducible show wpList _ _ _ (⟨some 11, _, _, _, _, _⟩ :: _) _ _); refine wpList_invoke _ rfl _ _ _ _ rfl _ _ rfl hi rfl ?_; rintro e w2 ⟨rfl, hf2, fb2, hb2, hg2⟩; refine ⟨_, rfl, ?_⟩))
  go_end0
  refine ⟨rfl, ((hA.mono (fun _ _ h => h.elim)).trans hf1 (fun _ _ h => h)).trans hf2 (fun k hk h => (hg1 k h).resolve_right (by simp; omega)), fb2, ?_, fun k hk => ?_⟩
  · rw [enc_nul, ← List.append_assoc]
    exact hb2
  · rcases hg2 k hk with h | h
    · rcases hg1 k h with h | h
      · exact .inl h
      · simp at h; exact .inr (by omega)
    · simp at hsz1; exact .inr (by omega)
end
end Go.Proofs.YtcidlnjpabgioaaGreatDoor
