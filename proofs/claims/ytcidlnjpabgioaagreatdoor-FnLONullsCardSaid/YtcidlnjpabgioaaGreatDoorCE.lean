import Derived.Test.YtcidlnjpabgioaaGreatDoorCL
import Derived.LoopTactic
import Derived.Outline
namespace Go.Proofs.YtcidlnjpabgioaaGreatDoor
open Go.RowKit

/-- What tree makes of a type's text. -/
def TreeSays (T : Ty) (st : List UInt8) (w : World) (e : Ending) (w' : World) : Prop :=
  ∃ t u R Rp fp, e = .returned (.iface t u) ∧ ColSpec Tryz.prog w.heap.size t u T st R Rp ∧ R w' fp [] ∧ Below w.heap.size w w'

theorem CellIn.spelled {B : Nat} {w : World} : ∀ {c : Cell} {vs : List Value}, CellIn B w c vs → ∃ (r0 r1 r2 r3 : Nat) (s : ByteArray) (null : Bool) (ia : Option Addr) (il ic : Nat) (ka : Option Addr) (kl kc : Nat), vs = [.int .u64 r0, .int .u64 r1, .int .u64 r2, .int .u64 r3, .string s, .bool null, .slice ia il ic, .slice ka kl kc]
  | .mk r0 r1 r2 r3 s null items keys, vs => by
    unfold CellIn
    rintro ⟨iv, kv, ixs, kxs, rfl, _, _, _, _, _, ⟨_, ia, ic, rfl, _⟩, _, ⟨_, ka, kc, rfl, _⟩, _⟩
    exact ⟨_, _, _, _, _, _, _, _, _, _, _, _, rfl⟩

/-- A slice of rows that is not empty: where row number k lies. -/
theorem Sl.row {B : Nat} {w : World} {v : Value} {cs : List Cell} {xs : List Value} (h : Sl B w 8 v cs.length xs) (hc : CellsIn B w cs xs) {k : Nat} (hk : k < cs.length) :
    ∃ b off cap, v = .slice (some ⟨b, off, none⟩) cs.length cap ∧ b < B ∧ ∃ vs, CellIn B w cs[k] vs ∧ ∀ j u, vs[j]? = some u → w.cell? ⟨b, off + k * 8 + j, none⟩ = some u := by
  obtain ⟨hxl, ao, cap, rfl, hnc, hcm, h0, ha⟩ := h
  cases ao with
  | none => have := h0 rfl; omega
  | some ad =>
    obtain ⟨hb, hsp, hcell⟩ := ha ad rfl
    obtain ⟨b, off, sp⟩ := ad
    simp only at hsp hb
    subst hsp
    refine ⟨b, off, cap, rfl, hb, _, hc.at k cs[k] (by simp [hk]), fun j u hj => ?_⟩
    rw [List.getElem?_take, List.getElem?_drop] at hj
    split at hj
    · have := hcell _ _ hj
      rw [Addr.add_lit] at this
      rw [Nat.add_assoc]
      exact this
    · cases hj

theorem ownsRow_ne {w : World} {base : Nat} {e : TypeId} {size : Nat} {v : Value} {n : Nat} {xs : List Value} (h : w.ownsRow base e size v n xs) {q : Nat} {c : Array Value} {t : TypeId} {f : Nat × Nat}
    (hq : w.heap[q]? = some (.cells c t f)) (ht : t ≠ e) : v.ownBlock ≠ some q := by
  intro hv
  rcases h.2 with ⟨rfl, _⟩ | ⟨g, cap, cur, rfl, _, hg, _⟩
  · simp [Value.ownBlock] at hv
  · simp only [Value.ownBlock, Option.some.injEq] at hv
    subst hv
    rw [hg] at hq
    simp only [Option.some.injEq, Obj.cells.injEq] at hq
    exact ht hq.2.1.symm

theorem Bytes.setCell {w : World} {v : Value} {bs : List UInt8} (h : Bytes w v bs) {q : Nat} {c : Array Value} {t : TypeId} {f : Nat × Nat} (hq : w.heap[q]? = some (.cells c t f)) (ht : t ≠ 5) (x : Value) :
    Bytes (w.setCell ⟨q, 0, none⟩ x) v bs :=
  ((Fr.refl (fun k => k = q) w).setCell (.inl rfl) x).owns h (fun k hk e => by subst e; exact ownsRow_ne h hq ht hk)

set_option maxHeartbeats 1000000 in
theorem CLEncode_any (T : Ty) (st : List UInt8) (txt : ByteArray) (htree : ∀ w, Calls Tryz.prog 23 #[.string txt] w (TreeSays T st w))
    (w : World) (σ : List Cell) (rv : Value) (xs : List Value) (hs : Sl w.heap.size w 8 rv σ.length xs) (hc : CellsIn w.heap.size w σ xs) (hw : Wt T σ ≤ 2147483648) (hl : (enc T σ).length ≤ 1099511627776) :
    Calls Tryz.prog 10 #[.string txt, rv] w fun e w' => ∃ v1 v2, e = .returned (.tuple #[v1, v2, .bool true]) ∧ Bytes w' v1 st ∧ Bytes w' v2 (enc T σ) ∧ Below w.heap.size w w' := by
  have hs' := hs
  obtain ⟨hxl, ao, cap, rfl, hnc, hcm, h0, ha⟩ := hs
  unfold maxLen at hcm
  clear ha h0 hxl
  go_enter_defers Tryz.func10, Tryz.ntmps10
  go_wp2_with (go_at_call 23; refine (htree _).mono ?_; rintro e w1 ⟨t, u, R, Rp, fp, rfl, cs, hR, hb⟩)
  simp only [World.size_alloc] at hb cs
  have hbw : Below w.heap.size w w1 := ((Below.refl _ w).alloc (Nat.le_refl _) _).trans (hb.mono (by omega))
  go_loopw [16] (fun i wr => ∃ (k : Nat) (fpk : Nat → Prop), k ≤ σ.length ∧ i = .int .i64 k ∧ R wr fpk (σ.take k) ∧ Below (w.heap.size + 1) w1 wr) (fun i _ => σ.length - (intOf i).toNat)
  case atStart => exact ⟨0, fp, Nat.zero_le _, rfl, by simpa using hR, Below.refl _ _⟩
  case round =>
    obtain ⟨k, fpk, hk, rfl, hRk, hbk⟩ := hrel
    have hbr : Below w.heap.size w wr := hbw.trans (hbk.mono (by omega))
    have hsr : w.heap.size + 1 ≤ wr.heap.size := by have := hbk.size; have := hb.size; simp at this; omega
    by_cases hlt : k < σ.length
    · obtain ⟨b, off, cap', hv, hbB, vs, hvs, hcell⟩ := (hs'.below hbr).row (CellsIn.below hbr _ _ hc) hlt
      obtain ⟨r0, r1, r2, r3, s, null, ia, il, ic, ka, kl, kc, rfl⟩ := hvs.spelled
      simp only [Value.slice.injEq] at hv
      obtain ⟨rfl, _, rfl⟩ := hv
      have c0 := hcell 0 _ rfl
      have c1 := hcell 1 _ rfl
      have c2 := hcell 2 _ rfl
      have c3 := hcell 3 _ rfl
      have c4 := hcell 4 _ rfl
      have c5 := hcell 5 _ rfl
      have c6 := hcell 6 _ rfl
      have c7 := hcell 7 _ rfl
      simp only [Nat.add_zero] at c0
      clear hcell
      have hsz : wr.heap.size < (wr.alloc (.cells #[.int .u64 r0, .int .u64 r1, .int .u64 r2, .int .u64 r3, .string s, .bool null, .slice ia il ic, .slice ka kl kc] 35)).heap.size := by simp
      have hba : Below (w.heap.size + 1) w1 (wr.alloc (.cells #[.int .u64 r0, .int .u64 r1, .int .u64 r2, .int .u64 r3, .string s, .bool null, .slice ia il ic, .slice ka kl kc] 35)) := hbk.alloc hsr _
      have hRa := cs.frame (w' := wr.alloc (.cells #[.int .u64 r0, .int .u64 r1, .int .u64 r2, .int .u64 r3, .string s, .bool null, .slice ia il ic, .slice ka kl kc] 35)) hRk (fun q hq => Below.heap_alloc _ _ _ (cs.lo hRk q hq).2)
      have hva := (CellIn.below (B := w.heap.size) (w' := wr.alloc (.cells #[.int .u64 r0, .int .u64 r1, .int .u64 r2, .int .u64 r3, .string s, .bool null, .slice ia il ic, .slice ka kl kc] 35)) ((Below.refl _ wr).alloc (by omega) _) _ _ hvs).mono (B' := w.heap.size + 1) (by omega)
      have hi := cs.append hRa hva (Nat.le_trans (by rw [← List.take_succ_eq_append_getElem hlt]; exact wts_take _ _) hw)
      have hlo := fun q hq => (cs.lo hRa q hq).1
      clear hRa hva hvs
      go_wp2_with ((with_reducible show wpList _ _ _ (⟨some 22, _, _, _, _, _⟩ :: _) _ _); refine wpList_invoke _ rfl _ _ _ _ rfl _ _ rfl hi rfl ?_; rintro e w2 ⟨rfl, hfr, fp2, hR2, hg2⟩; refine ⟨_, rfl, ?_⟩)
      go_roundw
      case rel => exact ⟨k + 1, fp2, by omega, by go_num, by rw [List.take_succ_eq_append_getElem hlt]; exact hR2, hba.trans (hfr.below (by omega) (fun q hq hfq => by have := hlo q hfq; omega))⟩
      case measure => simp [intOf]; omega
    · have hke : σ.take k = σ := List.take_of_length_le (by omega)
      rw [hke] at hRk
      have h24 := out_any cs wr fpk σ hRk hsr hw hl
      have hcell6 : wr.cell? ⟨w.heap.size, 0, none⟩ = some (.bool false) := by
        rw [(hb.trans hbk).cell (p := ⟨w.heap.size, 0, none⟩) (by simp)]
        simp
      have hfz6 : wr.frozen? ⟨w.heap.size, 0, none⟩ = false := by
        rw [(hb.trans hbk).frozen (p := ⟨w.heap.size, 0, none⟩) (by simp)]
        simp
      clear hs' hc
      go_wp2_with (go_at_call 24; refine h24.mono ?_; rintro e w2 ⟨v1, v2, rfl, hv1, hv2, hb2⟩; have hc6 := (hb2.cell (p := ⟨w.heap.size, 0, none⟩) (by simp)).trans hcell6; have hf6 := (hb2.frozen (p := ⟨w.heap.size, 0, none⟩) (by simp)).trans hfz6)
      have hc6' := World.cell?_setCell_same w2 ⟨w.heap.size, 0, none⟩ (.bool true) hc6
      refine leaves_cons (f := 22) (args := #[.pointer (some ⟨w.heap.size, 0, none⟩)]) (by simp) (by simp [go_sem]) ?_
      refine (caught_idle ⟨w.heap.size, 0, none⟩ _).mono ?_
      rintro e u' w'' ⟨rfl, rfl, rfl⟩
      have hlast : Below w.heap.size w (w2.setCell ⟨w.heap.size, 0, none⟩ (.bool true)) := ((hbw.trans (hbk.mono (by omega))).trans (hb2.mono (by omega))).setCell (by simp) _
      have hq : w2.heap[w.heap.size]? = some (.cells #[.bool false] 4 (0, 0)) := by
        rw [hb2.block _ (by omega), hbk.block _ (by omega), hb.block _ (by omega)]
        exact heap_alloc_new _ _
      have hv1' := hv1.setCell hq (by decide) (.bool true)
      have hv2' := hv2.setCell hq (by decide) (.bool true)
      simp [Leaves, settle, results, Tryz.results10, go_sem, hc6']
      exact ⟨_, _, ⟨rfl, rfl⟩, hv1', hv2', hlast⟩
end Go.Proofs.YtcidlnjpabgioaaGreatDoor
