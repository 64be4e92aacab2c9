/- The column of FixedString keeps ColSpec. -/
import Derived.Test.YtcidlnjpabgioaaGreatDoorFixL
import Derived.Test.YtcidlnjpabgioaaGreatDoorStrS
import Derived.Deep.RegionLaw
namespace Go.Proofs.YtcidlnjpabgioaaGreatDoor
open Go.RowKit

theorem load_fix {w : World} {a : Addr} {u v : Value} (h0 : w.cell? a = some u) (h1 : w.cell? (a.add 1) = some v) : (loadVar 159 a).run Tryz.prog w = .ok (.agg #[u, v]) w := by
  have h : (Tryz.prog.info? 159).map (·.size) = some 2 := by kernel_rfl
  obtain ⟨i, hi, hs⟩ := Option.map_eq_some_iff.1 h
  exact load_two Tryz.underlying159 hi hs h0 h1

theorem ownsRow_le {w : World} {base : Nat} {e : TypeId} {size : Nat} {v : Value} {n : Nat} {xs : List Value} (h : w.ownsRow base e size v n xs) : n ≤ maxLen := by
  rcases h.2 with ⟨_, rfl⟩ | ⟨g, cap, cur, rfl, _, _, hnc, hcm, _⟩
  · exact Nat.zero_le _
  · omega

set_option maxHeartbeats 400000 in
theorem fix_rows (w : World) (a : Option Addr) (c m k : Nat) (hm : 1 ≤ m ∧ m ≤ 1000) (hk : m * k ≤ maxLen) : Calls Tryz.prog 309 #[.agg #[.slice a (m * k) c, .int .i64 m]] w fun e w' => e = .returned (.int .i64 k) ∧ Fr (fun _ => False) w w' := by
  have hm0 : ¬ ((m : Int) = 0) := by omega
  have hm1 : ¬ ((m : Int) = -1) := by omega
  have hq : wrap64 (((m * k : Nat) : Int) / (m : Int)) = k := by
    have e : ((m * k : Nat) : Int) / (m : Int) = k := by rw [Int.natCast_mul]; exact Int.mul_ediv_cancel_left _ hm0
    have hkk : k ≤ m * k := Nat.le_mul_of_pos_left k (by omega)
    unfold maxLen at hk
    rw [e]
    unfold wrap64
    omega
  unfold maxLen at hk
  generalize hM : m * k = M at hk hq
  go_enter Tryz.func309, Tryz.ntmps309
  go_wp2
  go_ret
  exact ⟨by rw [← hq]; rfl, (Fr.refl _ w).alloc _⟩

set_option maxRecDepth 100000 in
set_option maxHeartbeats 1000000 in
theorem fix_encode (w : World) (b : Nat) (fb : Nat → Prop) (bs : List UInt8) (hb : Buf w b fb bs) (v : Value) (m : Nat) (cs : List Cell) (hown : w.ownsRow 0 5 1 v (m * cs.length) (bcells (fixes m cs))) (hl : bs.length + (fixes m cs).length ≤ 1099511627776) :
    Calls Tryz.prog 306 #[.agg #[v, .int .i64 m], .pointer (some ⟨b, 0, none⟩)] w fun e w' => e = .returned (.tuple #[]) ∧ Fr fb w w' ∧ ∃ fb', Buf w' b fb' (bs ++ fixes m cs) ∧ Grow w fb fb' := by
  obtain ⟨a1, c1, rfl⟩ := ownsRow_shape hown
  rw [fixes_length] at hl
  go_enter Tryz.func306, Tryz.ntmps306
  go_wp2_with fail
  generalize hM : m * cs.length = M at hown hl
  generalize hW : w.alloc _ = W
  have hfW : Fr (fun _ => False) w W := by subst hW; exact (Fr.refl _ w).alloc _
  have q0 : W.cell? ⟨w.heap.size, 0, none⟩ = some (.slice a1 M c1) := by subst hW; rw [cell_new rfl]; rfl
  have hbW : Buf W b fb bs := ColAt.framed hb fun k hk => hfW.block k (ColAt.lt hb k hk) (fun h => h)
  have hownW := hfW.owns hown (fun _ _ h => h)
  clear hW
  obtain ⟨vb, hp, hob, hne, hfp⟩ := hbW
  obtain ⟨hcell, hfz⟩ := ColAt.cell hp
  obtain ⟨a0, c0, rfl⟩ := ownsRow_shape hob
  have hpl := heap_lt hp
  have hsrc : Src Tryz.prog 1 22 (.slice a1 M c1) M (bcells (fixes m cs)) W.drew := Src.ofOwn (w := W.drew) Tryz.underlying22 hownW (fun u hu => by obtain ⟨x, _, rfl⟩ := List.mem_map.1 hu; rfl)
  go_region_law (refine step_of_wp _ rfl ?_; refine wp_append _ bufEl _ _ rfl _ _ _ rfl hob _ _ _ rfl hsrc ?_ ?_ ?_; (unfold maxLen; omega); omega; intro v' w2 ha; obtain ⟨a', c', rfl⟩ := ha.shape; have hc2 : w2.cell? ⟨b, 0, none⟩ = some (.slice a0 bs.length c0) := ha.2.1.cell hcell (fun h => hne h.symm); have hf2 : w2.frozen? ⟨b, 0, none⟩ = false := (World.frozen?_of_block (ha.2.1.block b hpl (fun h => hne h.symm))).trans hfz)
  all_goals
    obtain ⟨⟨fb', hcol, hg⟩, hfr⟩ := ColAt.appended hp hob hne hfp ((Fr.refl _ W).drew) ha
    go_end0
    have hlen : (bs ++ fixes m cs).length = bs.length + M := by rw [List.length_append, fixes_length, hM]
    exact ⟨rfl, (hfW.mono (fun _ _ h => h.elim)).trans hfr (fun _ _ h => h), fb', Buf.col.2 (by rw [hlen, bcells_append]; exact hcol), fun k hk => (hg k hk).imp id (fun h => Nat.le_trans hfW.size h)⟩

/-- The column, and the block of its functions. -/
def fixR (B p nb m : Nat) (w : World) (fp : Nat → Prop) (σ : List Cell) : Prop :=
  ∃ fp0, FixAt w p m σ fp0 ∧ w.cell? ⟨nb, 0, none⟩ = some (.int .i64 m) ∧ (∀ k, fp k ↔ fp0 k ∨ k = nb) ∧ (∀ k, fp k → B ≤ k) ∧ (¬ fp0 nb) ∧ ∀ c ∈ σ, c.small

theorem fix_m_own (p nb : Nat) (w : World) (name : String) (f : FuncId) (h : (name, f) = ("Append", 312) ∨ (name, f) = ("AppendArr", 313)) : (method (Tryz.prog.types.size + Made.depth) 166 (.agg #[.iface 157 (.pointer (some ⟨p, 0, none⟩)), .func (.func 47) #[] #[.pointer (some ⟨nb, 0, none⟩)], .func (.func 49) #[] #[]]) name).run Tryz.prog w = .ok (f, .agg #[.iface 157 (.pointer (some ⟨p, 0, none⟩)), .func (.func 47) #[] #[.pointer (some ⟨nb, 0, none⟩)], .func (.func 49) #[] #[]]) w := by
  rcases h with h | h <;> (simp only [Prod.mk.injEq] at h; obtain ⟨rfl, rfl⟩ := h; kernel_rfl)

theorem fix_m_rows (p nb : Nat) (w : World) (u v : Value) (h0 : w.cell? ⟨p, 0, none⟩ = some u) (h1 : w.cell? ⟨p, 1, none⟩ = some v) : (method (Tryz.prog.types.size + Made.depth) 166 (.agg #[.iface 157 (.pointer (some ⟨p, 0, none⟩)), .func (.func 47) #[] #[.pointer (some ⟨nb, 0, none⟩)], .func (.func 49) #[] #[]]) "Rows").run Tryz.prog w = .ok (309, .agg #[u, v]) w := by
  obtain ⟨n, hn⟩ := fuel
  rw [hn]
  refine (method_iface2 (n := n + 1) Tryz.underlying166 rfl rfl (fun _ => by kernel_rfl) (by kernel_rfl) rfl).trans ?_
  exact method_own2 (n := n) false (by kernel_rfl) (receiver_val Tryz.underlying157 (load_fix h0 (by simpa [Addr.add] using h1)))

theorem fix_m_enc (p nb : Nat) (w : World) (u v : Value) (h0 : w.cell? ⟨p, 0, none⟩ = some u) (h1 : w.cell? ⟨p, 1, none⟩ = some v) : (method (Tryz.prog.types.size + Made.depth) 166 (.agg #[.iface 157 (.pointer (some ⟨p, 0, none⟩)), .func (.func 47) #[] #[.pointer (some ⟨nb, 0, none⟩)], .func (.func 49) #[] #[]]) "EncodeColumn").run Tryz.prog w = .ok (306, .agg #[u, v]) w := by
  obtain ⟨n, hn⟩ := fuel
  rw [hn]
  refine (method_iface2 (n := n + 1) Tryz.underlying166 rfl rfl (fun _ => by kernel_rfl) (by kernel_rfl) rfl).trans ?_
  exact method_own2 (n := n) false (by kernel_rfl) (receiver_val Tryz.underlying157 (load_fix h0 (by simpa [Addr.add] using h1)))

theorem fixR.nb {B p nb m : Nat} {w : World} {fp : Nat → Prop} {σ : List Cell} (h : fixR B p nb m w fp σ) : nb < w.heap.size ∧ B ≤ nb := by
  obtain ⟨fp0, hc, hnb, hfp, hB, hne, hsm⟩ := h
  exact ⟨World.block_lt_of_cell? w _ hnb, hB nb ((hfp nb).2 (.inr rfl))⟩

/-- What comes of a change of the column alone. -/
theorem fixR.after {B p nb m : Nat} {w w' : World} {fp fp0 : Nat → Prop} {σ τ : List Cell} (h : fixR B p nb m w fp σ) (hfp : ∀ k, fp k ↔ fp0 k ∨ k = nb) (hne : ¬ fp0 nb)
    (hc : ∃ fp', FixAt w' p m τ fp' ∧ Grow w fp0 fp') (hfr : Fr fp0 w w') (hsm : ∀ c ∈ τ, c.small) :
    Fr fp w w' ∧ ∃ fp', fixR B p nb m w' fp' τ ∧ Grow w fp fp' := by
  obtain ⟨hlt, hBn⟩ := h.nb
  obtain ⟨_, _, hnb, _, hB, _, _⟩ := h
  obtain ⟨fp', hcol, hg⟩ := hc
  refine ⟨hfr.mono (fun k _ hk => (hfp k).2 (.inl hk)), fun k => fp' k ∨ k = nb, ⟨fp', hcol, hfr.cell_some hnb hne, fun k => Iff.rfl, ?_, ?_, hsm⟩, ?_⟩
  · rintro k (hk | rfl)
    · rcases hg k hk with hk | hk
      · exact hB k ((hfp k).2 (.inl hk))
      · omega
    · exact hBn
  · intro hk
    rcases hg nb hk with hk | hk
    · exact hne hk
    · omega
  · rintro k (hk | rfl)
    · exact (hg k hk).imp (fun hk => (hfp k).2 (.inl hk)) id
    · exact .inl ((hfp k).2 (.inr rfl))

set_option maxHeartbeats 400000 in
theorem fix_spec (B p nb m : Nat) (hm : 1 ≤ m ∧ m ≤ 1000) : ColSpec Tryz.prog B 166 (.agg #[.iface 157 (.pointer (some ⟨p, 0, none⟩)), .func (.func 47) #[] #[.pointer (some ⟨nb, 0, none⟩)], .func (.func 49) #[] #[]]) (.fix m) [] (fixR B p nb m) (fixR B p nb m) where
  lo := by
    intro w fp σ h k hk
    have hn := h.nb
    obtain ⟨fp0, hc, hnb, hfp, hB, hne, hsm⟩ := h
    refine ⟨hB k hk, ?_⟩
    rcases (hfp k).1 hk with hk | rfl
    · exact hc.lt k hk
    · exact hn.1
  lo' := by
    intro w fp σ h k hk
    have hn := h.nb
    obtain ⟨fp0, hc, hnb, hfp, hB, hne, hsm⟩ := h
    refine ⟨hB k hk, ?_⟩
    rcases (hfp k).1 hk with hk | rfl
    · exact hc.lt k hk
    · exact hn.1
  frame := by
    intro w w' fp σ h hk
    obtain ⟨fp0, hc, hnb, hfp, hB, hne, hsm⟩ := h
    exact ⟨fp0, hc.framed fun k h => hk k ((hfp k).2 (.inl h)), (World.cell?_of_block (hk nb ((hfp nb).2 (.inr rfl)))).trans hnb, hfp, hB, hne, hsm⟩
  frame' := by
    intro w w' fp σ h hk
    obtain ⟨fp0, hc, hnb, hfp, hB, hne, hsm⟩ := h
    exact ⟨fp0, hc.framed fun k h => hk k ((hfp k).2 (.inl h)), (World.cell?_of_block (hk nb ((hfp nb).2 (.inr rfl)))).trans hnb, hfp, hB, hne, hsm⟩
  append := by
    intro w fp σ c vs h hvs hw
    have h' := h
    obtain ⟨fp0, hc, hnb, hfp, hB, hne, hsm⟩ := h'
    have hcs := hvs.small
    obtain ⟨ia, il, ic, ka, kl, kc, rfl, h0, h1, h2, h3, h4⟩ := hvs.open
    have hlen := length_le_wts (σ ++ [c])
    have hw' : wts (σ ++ [c]) ≤ 2147483648 := hw
    rw [List.length_append, List.length_singleton] at hlen
    refine Invokes.of1 (fix_m_own p nb w _ _ (.inl rfl)) Tryz.call312 ((fix_leafAppend w p nb m σ fp0 hc c hm (by omega) hnb c.r0 c.r1 c.r2 c.r3 c.null (.slice ia il ic) (.slice ka kl kc)).mono ?_)
    rintro e w' ⟨he, hcol, hfr⟩
    refine ⟨he, h.after hfp hne hcol hfr (fun d hd => ?_)⟩
    · rcases List.mem_append.1 hd with hd | hd
      · exact hsm d hd
      · rw [List.mem_singleton.1 hd]
        exact hcs
  appendArr := by
    intro w fp σ cs v xs h hs hcs hw
    have h' := h
    obtain ⟨fp0, hc, hnb, hfp, hB, hne, hsm⟩ := h'
    have hlen := length_le_wts (σ ++ cs)
    have hw' : wts (σ ++ cs) ≤ 2147483648 := hw
    have hn := h.nb
    rw [List.length_append] at hlen
    refine Invokes.of1 (fix_m_own p nb w _ _ (.inr rfl)) Tryz.call313 ((fix_leafAppendArr w B p nb m (by omega) σ fp0 hc hm hnb cs v xs hs hcs (by omega)).mono ?_)
    rintro e w' ⟨he, hcol, hfr⟩
    refine ⟨he, h.after hfp hne hcol hfr (fun d hd => ?_)⟩
    · rcases List.mem_append.1 hd with hd | hd
      · exact hsm d hd
      · exact CellsIn.small hcs d hd
  rows := by
    intro w fp σ h
    obtain ⟨fp0, ⟨v, hp, hown, _⟩, hnb, hfp, hB, hne, hsm⟩ := h
    obtain ⟨a, c, rfl⟩ := ownsRow_shape hown
    exact Invokes.of0 (fix_m_rows p nb w _ _ (by rw [cell_of_row _ _ _ _ _ _ hp]; rfl) (by rw [cell_of_row _ _ _ _ _ _ hp]; rfl)) Tryz.call309 (fix_rows w a c m _ hm (ownsRow_le hown))
  prepare := ⟨false, fun x w => run_typeAssert_lacksB Tryz.underlying102 (by kernel_rfl) (by kernel_rfl) _ x w, fun h => by simpa using h⟩
  state := ⟨false, fun x w => run_typeAssert_lacksB Tryz.underlying172 (by kernel_rfl) (by kernel_rfl) _ x w, by simp⟩
  encode := by
    intro w fp σ b fb bs h hw hb hd hl
    obtain ⟨fp0, ⟨v, hp, hown, hne', hfp0⟩, hnb, hfp, hB, hne, hsm⟩ := h
    have hw' : wts σ ≤ 2147483648 := hw
    have hlen := length_le_wts σ
    have he : enc (.fix m) σ = fixes m σ := by rw [enc]; rfl
    rw [he]
    exact Invokes.of1 (fix_m_enc p nb w _ _ (by rw [cell_of_row _ _ _ _ _ _ hp]; rfl) (by rw [cell_of_row _ _ _ _ _ _ hp]; rfl)) Tryz.call306 (fix_encode w b fb bs hb v m σ hown (by rw [he] at hl; exact hl))
end Go.Proofs.YtcidlnjpabgioaaGreatDoor
