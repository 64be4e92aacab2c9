/- The column of strings keeps ColSpec. -/
import Derived.Test.YtcidlnjpabgioaaGreatDoorStrE
namespace Go.Proofs.YtcidlnjpabgioaaGreatDoor
open Go.RowKit

theorem load_two {P : Program} {w : World} {t : TypeId} {i : TypeInfo} {fs : Array Field} {a : Addr} {u v : Value} (hu : P.underlying t = some (.struct fs)) (hi : P.info? t = some i) (hs : i.size = 2) (h0 : w.cell? a = some u) (h1 : w.cell? (a.add 1) = some v) : (loadVar t a).run P w = .ok (.agg #[u, v]) w := by
  have hg : (isAgg t).run P w = .ok true w := by simp [isAgg, run_underlying hu]
  have h0' : w.cell? (a.add 0) = some u := by cases a with | mk b o s => cases s <;> simpa [Addr.add] using h0
  unfold loadVar
  simp [Sem.run_bind, hg, sizeOf, typeInfo, hi, hs, loadCells, loadCellsFrom, h0', h1]

theorem load_strs {w : World} {a : Addr} {u v : Value} (h0 : w.cell? a = some u) (h1 : w.cell? (a.add 1) = some v) : (loadVar 148 a).run Tryz.prog w = .ok (.agg #[u, v]) w := by
  have h : (Tryz.prog.info? 148).map (·.size) = some 2 := by kernel_rfl
  obtain ⟨i, hi, hs⟩ := Option.map_eq_some_iff.1 h
  exact load_two Tryz.underlying148 hi hs h0 h1

theorem str_m_own (p : Nat) (w : World) (name : String) (f : FuncId) (h : (name, f) = ("Append", 299) ∨ (name, f) = ("AppendArr", 300)) :
    (method (Tryz.prog.types.size + Made.depth) 154 (.agg #[.iface 145 (.pointer (some ⟨p, 0, none⟩)), .func (.func 44) #[] #[], .func (.func 45) #[] #[]]) name).run Tryz.prog w =
      .ok (f, .agg #[.iface 145 (.pointer (some ⟨p, 0, none⟩)), .func (.func 44) #[] #[], .func (.func 45) #[] #[]]) w := by
  rcases h with h | h <;> (simp only [Prod.mk.injEq] at h; obtain ⟨rfl, rfl⟩ := h; kernel_rfl)

theorem str_m_rows (p : Nat) (w : World) (u v : Value) (h0 : w.cell? ⟨p, 0, none⟩ = some u) (h1 : w.cell? ⟨p, 1, none⟩ = some v) :
    (method (Tryz.prog.types.size + Made.depth) 154 (.agg #[.iface 145 (.pointer (some ⟨p, 0, none⟩)), .func (.func 44) #[] #[], .func (.func 45) #[] #[]]) "Rows").run Tryz.prog w = .ok (293, .agg #[u, v]) w := by
  obtain ⟨n, hn⟩ := fuel
  rw [hn]
  refine (method_iface2 (n := n + 1) Tryz.underlying154 rfl rfl (fun _ => by kernel_rfl) (by kernel_rfl) rfl).trans ?_
  exact method_own2 (n := n) false (by kernel_rfl) (receiver_val Tryz.underlying145 (load_strs h0 (by simpa [Addr.add] using h1)))

theorem str_m_enc (p : Nat) (w : World) (u v : Value) (h0 : w.cell? ⟨p, 0, none⟩ = some u) (h1 : w.cell? ⟨p, 1, none⟩ = some v) :
    (method (Tryz.prog.types.size + Made.depth) 154 (.agg #[.iface 145 (.pointer (some ⟨p, 0, none⟩)), .func (.func 44) #[] #[], .func (.func 45) #[] #[]]) "EncodeColumn").run Tryz.prog w = .ok (290, .agg #[u, v]) w := by
  obtain ⟨n, hn⟩ := fuel
  rw [hn]
  refine (method_iface2 (n := n + 1) Tryz.underlying154 rfl rfl (fun _ => by kernel_rfl) (by kernel_rfl) rfl).trans ?_
  exact method_own2 (n := n) false (by kernel_rfl) (receiver_val Tryz.underlying145 (load_strs h0 (by simpa [Addr.add] using h1)))

set_option maxHeartbeats 400000 in
theorem str_rows (w : World) (v1 : Value) (a : Option Addr) (n c : Nat) : Calls Tryz.prog 293 #[.agg #[v1, .slice a n c]] w fun e w' => e = .returned (.int .i64 n) ∧ Fr (fun _ => False) w w' := by
  go_enter Tryz.func293, Tryz.ntmps293
  go_wp2
  go_ret
  exact ⟨rfl, (Fr.refl _ w).alloc _⟩

def strR (B p : Nat) (w : World) (fp : Nat → Prop) (σ : List Cell) : Prop := StrAt w p σ fp ∧ (∀ k, fp k → B ≤ k) ∧ ∀ c ∈ σ, c.small

theorem strR.after {B p : Nat} {w w' : World} {fp : Nat → Prop} {σ τ : List Cell} (h : strR B p w fp σ) (hc : ∃ fp', StrAt w' p τ fp' ∧ Grow w fp fp') (hsm : ∀ c ∈ τ, c.small) : ∃ fp', strR B p w' fp' τ ∧ Grow w fp fp' := by
  obtain ⟨fp', hcol, hg⟩ := hc
  have hp := h.2.1 p h.1.shape
  have := h.1.lt p h.1.shape
  exact ⟨fp', ⟨hcol, fun k hk => (hg k hk).elim (h.2.1 k) (fun h => by omega), hsm⟩, hg⟩

set_option maxHeartbeats 400000 in
theorem str_spec (B p : Nat) : ColSpec Tryz.prog B 154 (.agg #[.iface 145 (.pointer (some ⟨p, 0, none⟩)), .func (.func 44) #[] #[], .func (.func 45) #[] #[]]) .str [] (strR B p) (strR B p) where
  lo := fun h k hk => ⟨h.2.1 k hk, h.1.lt k hk⟩
  lo' := fun h k hk => ⟨h.2.1 k hk, h.1.lt k hk⟩
  frame := fun h hk => ⟨h.1.framed hk, h.2⟩
  frame' := fun h hk => ⟨h.1.framed hk, h.2⟩
  append := by
    intro w fp σ c vs h hvs hw
    have hcs := hvs.small
    obtain ⟨ia, il, ic, ka, kl, kc, rfl, h0, h1, h2, h3, h4⟩ := hvs.open
    have hlen := cat_le_wts (σ ++ [c])
    have hw' : wts (σ ++ [c]) ≤ 2147483648 := hw
    rw [cat_append, List.length_append, List.length_append, List.length_singleton] at hlen
    refine Invokes.of1 (str_m_own p w _ _ (.inl rfl)) Tryz.call299 ((str_leafAppend w p σ fp h.1 c h4 (by omega) (by omega) c.r0 c.r1 c.r2 c.r3 c.null (.slice ia il ic) (.slice ka kl kc)).mono ?_)
    rintro e w' ⟨he, hcol, hfr⟩
    refine ⟨he, hfr, h.after hcol (fun d hd => ?_)⟩
    rcases List.mem_append.1 hd with hd | hd
    · exact h.2.2 d hd
    · rw [List.mem_singleton.1 hd]
      exact hcs
  appendArr := by
    intro w fp σ cs v xs h hs hcs hw
    have hlen := cat_le_wts (σ ++ cs)
    have hw' : wts (σ ++ cs) ≤ 2147483648 := hw
    rw [cat_append, List.length_append, List.length_append] at hlen
    have hB : B ≤ w.heap.size := by
      have := h.2.1 p h.1.shape
      have := h.1.lt p h.1.shape
      omega
    refine Invokes.of1 (str_m_own p w _ _ (.inr rfl)) Tryz.call300 ((str_leafAppendArr w B p hB σ fp h.1 cs v xs hs hcs (by omega) (by omega)).mono ?_)
    rintro e w' ⟨he, hcol, hfr⟩
    refine ⟨he, hfr, h.after hcol (fun d hd => ?_)⟩
    rcases List.mem_append.1 hd with hd | hd
    · exact h.2.2 d hd
    · exact CellsIn.small hcs d hd
  rows := by
    intro w fp σ h
    obtain ⟨v1, v2, hp, h1, h2, _⟩ := h.1
    obtain ⟨a, c, rfl⟩ := ownsRow_shape h2
    exact Invokes.of0 (str_m_rows p w _ _ (by rw [cell_of_row _ _ _ _ _ _ hp]; rfl) (by rw [cell_of_row _ _ _ _ _ _ hp]; rfl)) Tryz.call293 (str_rows w v1 a _ c)
  prepare := ⟨false, fun x w => run_typeAssert_lacksB Tryz.underlying102 (by kernel_rfl) (by kernel_rfl) _ x w, fun h => by simpa using h⟩
  state := ⟨false, fun x w => run_typeAssert_lacksB Tryz.underlying172 (by kernel_rfl) (by kernel_rfl) _ x w, by simp⟩
  encode := by
    intro w fp σ b fb bs h hw hb hd hl
    obtain ⟨v1, v2, hp, h1, h2, n1, n2, n3, hfp⟩ := h.1
    have hlen := cat_le_wts σ
    have hw' : wts σ ≤ 2147483648 := hw
    have hh := str_encode w b fb bs hb v1 v2 σ h1 h2 (fun k hk => hd k ((hfp k).2 (.inr (.inl hk)))) (fun k hk => hd k ((hfp k).2 (.inr (.inr hk)))) (fun c hc => (h.2.2 c hc).2.2.2.2) (by omega) (by omega) (by rw [← strBytes_enc]; exact hl)
    rw [strBytes_enc]
    exact Invokes.of1 (str_m_enc p w _ _ (by rw [cell_of_row _ _ _ _ _ _ hp]; rfl) (by rw [cell_of_row _ _ _ _ _ _ hp]; rfl)) Tryz.call290 hh
end Go.Proofs.YtcidlnjpabgioaaGreatDoor
