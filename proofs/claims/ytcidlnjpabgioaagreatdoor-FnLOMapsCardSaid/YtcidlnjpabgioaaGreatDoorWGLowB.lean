import Derived.Test.YtcidlnjpabgioaaGreatDoorWGLowA
import Derived.Deep.Cut
import Derived.Deep.CutRange
import Derived.Test.YtcidlnjpabgioaaGreatDoorWGNul
import Derived.Test.YtcidlnjpabgioaaGreatDoorWGTree
set_option maxHeartbeats 8000000
set_option maxRecDepth 100000
namespace Go.Proofs.YtcidlnjpabgioaaGreatDoor
open Go.RowKit
def aFr (w : World) (n : Nat) (nums : List Nat) (kv x3 x4 x5 : Value) : Prop :=
 (n ≤ 256 ∧ x3 = kv ∧ w.ownsRow 0 5 1 kv nums.length ((nums.map dL).flatMap dP)) ∨
 (256 < n ∧ n ≤ 65536 ∧ x4 = kv ∧ w.ownsRow 0 199 1 kv nums.length ((nums.map dL).flatMap dF)) ∨
 (65536 < n ∧ x5 = kv ∧ w.ownsRow 0 209 1 kv nums.length ((nums.map dL).flatMap dG))
def vV (B q p : Nat) (w : World) (fp : Nat → Prop) (σ : List Cell) : Prop :=
 ∃ v fk kv x3 x4 x5 x6 x7 x8, w.heap[p]? = some (.cells #[v, jU q, .int .u8 (gV (aU [] σ).length : Nat), x3, x4, x5, x6, x7, x8] 142 (0, 0)) ∧ w.ownsRow 0 84 5 v σ.length (σ.flatMap dK) ∧ kM B q w fk (aU [] σ) ∧
  aFr w (aU [] σ).length (dD (aU [] σ) σ) kv x3 x4 x5 ∧ v.ownBlock ≠ some p ∧ kv.ownBlock ≠ some p ∧ ¬ fk p ∧ (∀ k, v.ownBlock = some k → ¬ fk k) ∧ (∀ k, kv.ownBlock = some k → ¬ fk k) ∧ (∀ k, fp k ↔ k = p ∨ v.ownBlock = some k ∨ kv.ownBlock = some k ∨ fk k) ∧ (∀ k, fp k → B ≤ k) ∧ wts σ ≤ 2147483648
theorem aBX (q : Nat) (w : World) : (method (Tryz.prog.types.size + Made.depth) 86 (.agg #[.iface 154 (aEv q)]) "Reset").run Tryz.prog w = .ok (291, .pointer (some ⟨q, 0, none⟩)) w := by
 obtain ⟨n, hn⟩ := aKs
 rw [hn]
 refine (bD (n := n + 2) Tryz.underlying86 rfl rfl (fun _ => by kernel_rfl) (by kernel_rfl) rfl).trans ?_
 refine (bD (n := n + 1) Tryz.underlying154 rfl rfl (fun _ => by kernel_rfl) (by kernel_rfl) rfl).trans ?_
 exact aZ (n := n) true (by kernel_rfl) (aAS Tryz.underlying145)
theorem aEC (σ : List Cell) (k : Nat) (hk : k < σ.length) (j : Nat) (hj : j < 5) : (σ.flatMap dK)[k * 5 + j]? = (dK σ[k])[j]? := iY dK 5 (fun _ => rfl) σ k j hk hj
theorem aCE (B q p : Nat) (w : World) (fp : Nat → Prop) (σ : List Cell) (h : iG B q p w fp σ) :
 Calls Tryz.prog 212 #[.pointer (some ⟨p, 0, none⟩)] w fun e w' => e = .returned .nilIface ∧ Fr fp w w' ∧ ∃ fp', vV B q p w' fp' σ ∧ Grow w fp fp' := by
 have hlo := h.lt
 obtain ⟨v, fk, hp, hown, hR, n1, n2, n3, hfp, hB, hsm, hwt⟩ := h
 have hlen := aN σ
 have hpl := aH hp
 obtain ⟨a0, c0, rfl⟩ := ownsRow_shape hown
 have hvl : ∀ k, (Value.slice a0 σ.length c0).ownBlock = some k → k < w.heap.size := fun k hk => aK hown hk
 have hfl : ∀ k, fk k → k < w.heap.size := fun k hk => ((bW B q).lo hR k hk).2
 have c_0 : w.cell? ⟨p, 0, none⟩ = some (.slice a0 σ.length c0) := by rw [cell_of_row _ _ _ _ _ _ hp]; rfl
 have c_8 : w.cell? ⟨p, 8, none⟩ = some (.slice none 0 0) := by rw [cell_of_row _ _ _ _ _ _ hp]; rfl
 have hmm := @run_makeMap Tryz.prog
 go_enter Tryz.func212, Tryz.ntmps212
 go_upto_region 1 with fail
 go_cut [] from 9 (fun W1 => ∃ a8 c8, W1.heap[p]? = some (.cells #[.slice a0 σ.length c0, jU q, .int .u8 0, .slice none 0 0, .slice none 0 0, .slice none 0 0, .slice none 0 0, .map none, .slice a8 σ.length c8] 142 (0, 0)) ∧ W1.ownsRow 0 3 1 (.slice a8 σ.length c8) σ.length (List.replicate σ.length (.int .i64 0)) ∧ (Value.slice a8 σ.length c8).ownBlock ≠ some p ∧ (∀ k, (Value.slice a8 σ.length c8).ownBlock = some k → w.heap.size ≤ k) ∧ Fr (fun k => k = p) w W1)
 case first =>
  go_region_law (refine aS _ rfl ?_; refine nP _ aKD Tryz.underlying3 _ _ rfl rfl σ.length rfl (by omega) ?_; intro v8 w1 ha; obtain ⟨a8, c8, rfl⟩ := ha.shape; obtain ⟨hcs8, hfs8⟩ := dU (v := .slice none 0 0) hp (by simp [Value.ownBlock]) ((Fr.refl _ w).drew) ha; have s8 : w1.cell? ⟨p, 8, none⟩ = some (.slice none 0 0) := hcs8 8; have g8 := hfs8 8)
  all_goals
   have hfa := dQ (i := 8) (v := .slice none 0 0) hp (World.ownsRow_nil _ _ _ _) (by simp [Value.ownBlock]) ((Fr.refl _ w).drew) ha
   obtain ⟨hp1, own8, hne8, hblk8, hf1⟩ := hfa
   go_wp2_with fail
   go_meet
   case rel =>
    refine ⟨a8, c8, hp1, own8, hne8, fun k hk => ?_, hf1.mono (fun k _ h => h.elim id (fun h => by cases h))⟩
    rcases hblk8 with e | e
    · rw [hk] at e; cases e
    · rw [e] at hk; simp only [Option.some.injEq] at hk; have : w.drew.heap.size = w.heap.size := rfl; omega
 case rest =>
  obtain ⟨a8, c8, hp1, own8, hne8, hb8, hf1⟩ := hcut
  have k_7 : wc.cell? ⟨p, 7, none⟩ = some (.map none) := by rw [cell_of_row _ _ _ _ _ _ hp1]; rfl
  have z_7 : wc.frozen? ⟨p, 7, none⟩ = false := frozen_of_row _ _ _ _ _ hp1
  have hs1 := hf1.size
  have own8lt : ∀ k, (Value.slice a8 σ.length c8).ownBlock = some k → k < wc.heap.size := fun k hk => aK own8 hk
  have heq : ∀ w, (binOp .eql 139 (.map none) (.map none)).run Tryz.prog w = .ok (.bool true) w := fun w => by kernel_rfl
  have k_7a : (wc.alloc (.map #[] 0)).cell? ⟨p, 7, none⟩ = some (.map none) := (((Fr.refl (fun _ => False) wc).alloc _).aA k_7 (fun h => h))
  have z_7a : (wc.alloc (.map #[] 0)).frozen? ⟨p, 7, none⟩ = false := (World.frozen?_of_block (Below.heap_alloc wc _ _ (aH hp1))).trans z_7
  generalize hW2 : (wc.alloc (.map #[] 0)).setCell ⟨p, 7, none⟩ (.map (some wc.heap.size)) = W2
  have hf2 : Fr (fun x => x = p) wc W2 := by subst hW2; exact ((Fr.refl (fun x => x = p) wc).alloc _).setCell (.inl rfl) _
  have hp2 : W2.heap[p]? = some (.cells #[.slice a0 σ.length c0, jU q, .int .u8 0, .slice none 0 0, .slice none 0 0, .slice none 0 0, .slice none 0 0, .map (some wc.heap.size), .slice a8 σ.length c8] 142 (0, 0)) := by
   subst hW2
   exact dW ((Below.heap_alloc wc _ _ (aH hp1)).trans hp1) 7 _
  have hmap2 : gJ W2 wc.heap.size [] := by
   subst hW2
   exact (gJ.made wc).fr (S := fun x => x = p) ((Fr.refl (fun x => x = p) _).setCell (.inl rfl) _) (fun e => by have := aH hp1; omega)
  have hs2 : wc.heap.size < W2.heap.size := by subst hW2; simp [World.setCell]
  have hf02 : Fr (fun x => x = p) w W2 := hf1.trans hf2 (fun _ _ h => h)
  have hR2 := (bW B q).frame (w' := W2) hR (fun k hk => hf02.block k (hfl k hk) (fun e => n2 (e ▸ hk)))
  have own8b := hf2.owns own8 (fun k hk e => hne8 (by rw [hk, e]))
  have hownv := hf02.owns hown (fun k hk e => n1 (by rw [hk, e]))
  have hres := aI.of0 (aBX q W2) Tryz.call291 (aGs W2 q fk hR2.1)
  have j_1 : W2.cell? ⟨p, 1, none⟩ = some (jU q) := by rw [cell_of_row _ _ _ _ _ _ hp2]; rfl
  have hqk : fk q := hR.1.shape
  clear hp1 own8
  go_wp2_with ((with_reducible show wpList _ _ _ (⟨some 40, _, _, _, _, _⟩ :: _) _ _); refine aY _ rfl _ _ _ _ rfl _ _ rfl hres rfl ?_; rintro e W3 ⟨rfl, hst3, hf3⟩; refine ⟨_, rfl, ?_⟩; have j_0 : W3.cell? ⟨p, 0, none⟩ = some (.slice a0 σ.length c0) := (by rw [cell_of_row _ _ _ _ _ _ ((hf3.block p (aH hp2) (fun e => n2 (e ▸ hqk))).trans hp2)]; rfl))
  have hpq : ¬ p = q := fun e => n2 (e ▸ hqk)
  have hp3 := (hf3.block p (aH hp2) hpq).trans hp2
  have hql := hfl q hqk
  have own8c := hf3.owns own8b (fun k hk e => by have := hb8 k hk; omega)
  have hownv3 := hf3.owns hownv (fun k hk e => n3 k hk (e ▸ hqk))
  have hmap3 := hmap2.fr hf3 (fun e => by omega)
  have hR3 : kM B q W3 fk [] := ⟨hst3, hR.2.1, by simp⟩
  have hs3 := hf3.size
  have hf03 : Fr (fun x => x = p ∨ fk x) w W3 := (hf02.mono (fun _ _ h => .inl h)).trans hf3 (fun x _ h => .inr (h ▸ hqk))
  obtain ⟨mb, hmb⟩ : ∃ mb, wc.heap.size = mb := ⟨_, rfl⟩
  rw [hmb] at hp3 hmap3 own8lt hs1 hs2
  have hmb3 : mb < W3.heap.size := by omega
  clear hmb hW2 hf2 hp2 hmap2 hres j_1 hst3 hf3 own8b hownv heq k_7a z_7a k_7 z_7 hf1 hf02 hR2 hR hp hown hmm c_0 c_8 hs2
  go_loopw [3, 46] (fun last i wr => ∃ (k : Nat) (fk' : Nat → Prop), k ≤ σ.length ∧ last = .int .i64 (aU [] (σ.take k)).length ∧ i = .int .i64 k ∧ wr.ownsRow 0 3 1 (.slice a8 σ.length c8) σ.length ((dD (aU [] (σ.take k)) (σ.take k)).map (fun n : Nat => .int .i64 n) ++ List.replicate (σ.length - k) (.int .i64 0)) ∧ gJ wr mb (aU [] (σ.take k)) ∧
   kM B q wr fk' (aU [] (σ.take k)) ∧ (∀ x, fk' x → fk x ∨ W3.heap.size ≤ x) ∧ Fr (fun x => x = mb ∨ (Value.slice a8 σ.length c8).ownBlock = some x ∨ fk x) W3 wr) (fun _ i _ => σ.length - (intOf i).toNat)
  case atStart => exact ⟨0, fk, Nat.zero_le _, rfl, rfl, by simpa [dD] using own8c, hmap3, hR3, fun x h => .inl h, Fr.refl _ _⟩
  case round =>
   obtain ⟨k, fk', hk, rfl, rfl, own8r, hmapr, hRr, hfk', hfr⟩ := hrel
   have hsr := hfr.size
   have hpS : ¬ (p = mb ∨ (Value.slice a8 σ.length c8).ownBlock = some p ∨ fk p) := fun h => h.elim (fun e => by omega) (fun h => h.elim (fun e => by have := hb8 p e; omega) n2)
   have hpr := (hfr.block p (aH hp3) hpS).trans hp3
   have j_1 : wr.cell? ⟨p, 1, none⟩ = some (jU q) := by rw [cell_of_row _ _ _ _ _ _ hpr]; rfl
   have j_7 : wr.cell? ⟨p, 7, none⟩ = some (.map (some mb)) := by rw [cell_of_row _ _ _ _ _ _ hpr]; rfl
   have j_8 : wr.cell? ⟨p, 8, none⟩ = some (.slice a8 σ.length c8) := by rw [cell_of_row _ _ _ _ _ _ hpr]; rfl
   by_cases hlt : k < σ.length
   · have hownr := hfr.owns hownv3 (fun x hx h => h.elim (fun e => by have := hvl x hx; omega) (fun h => h.elim (fun e => by have := hb8 x e; have := hvl x hx; omega) (n3 x hx)))
     rcases hownr.2 with ⟨hv, -⟩ | ⟨gv, capv, curv, hv, -, -, hncv, -⟩
     · simp only [Value.slice.injEq] at hv; omega
     rcases own8r.2 with ⟨hv8, -⟩ | ⟨g8, cap8, cur8, hv8, -, hg8, hnc8, hcm8, hcs8, -⟩
     · simp only [Value.slice.injEq] at hv8; omega
     simp only [Value.slice.injEq] at hv hv8
     obtain ⟨rfl, -, rfl⟩ := hv
     obtain ⟨rfl, -, rfl⟩ := hv8
     have hx : ∀ j u, j < 5 → (dK σ[k])[j]? = some u → wr.cell? ⟨gv, k * 5 + j, none⟩ = some u := fun j u hj hu => by
      have := hownr.cells (g := gv) rfl (k * 5 + j) u ((aEC σ k hlt j hj).trans hu)
      rw [Addr.add_lit, Nat.zero_add] at this
      exact this
     have hc := hsm σ[k] (List.getElem_mem _)
     have hst := List.take_succ_eq_append_getElem hlt
     have hidx1 : aU [] (σ.take (k + 1)) = if (aU [] (σ.take k)).any (fA σ[k]) then aU [] (σ.take k) else aU [] (σ.take k) ++ [σ[k].keyed] := by rw [hst, sN]
     have hnums := aAv σ k hlt
     have hism := oV (σ.take k) [] (fun c hc => hsm c (List.mem_of_mem_take hc)) (by simp)
     have hiap := pK (σ.take k) [] List.Pairwise.nil
     have hilen := gQ (σ.take k) []
     have hiw := jB (σ.take (k + 1)) []
     have hiw2 := iT σ (k + 1)
     simp only [wts, List.length_nil, Nat.zero_add, List.length_take] at hiw hilen
     generalize σ[k] = c at hx hc hidx1 hnums
     have hg8l := own8lt g8 rfl
     have hg8b := hb8 g8 rfl
     have hfk'n : ∀ x, fk' x → x ≠ mb ∧ x ≠ g8 ∧ x ≠ p := fun x h => by
      rcases hfk' x h with h | h
      · have := hfl x h
        exact ⟨by omega, by omega, fun e => n2 (e ▸ h)⟩
      · exact ⟨by omega, by omega, by omega⟩
     have fin : ∀ (Wx : World) (fk2 : Nat → Prop), Fr (fun x => x = mb ∨ fk' x) wr Wx → gJ Wx mb (aU [] (σ.take (k + 1))) → kM B q Wx fk2 (aU [] (σ.take (k + 1))) → (∀ x, fk2 x → fk' x ∨ wr.heap.size ≤ x) →
      (Wx.cell? ⟨p, 8, none⟩ = some (.slice (some ⟨g8, 0, none⟩) σ.length c8) ∧ (∃ u, Wx.cell? ⟨g8, k, none⟩ = some u) ∧ Wx.frozen? ⟨g8, k, none⟩ = false) ∧
      (∀ n : Nat, n = (aU [] (σ.take (k + 1))).findIdx (fA c) → (Wx.setCell ⟨g8, k, none⟩ (.int .i64 n)).ownsRow 0 3 1 (.slice (some ⟨g8, 0, none⟩) σ.length c8) σ.length ((dD (aU [] (σ.take (k + 1))) (σ.take (k + 1))).map (fun n : Nat => .int .i64 n) ++ List.replicate (σ.length - (k + 1)) (.int .i64 0)) ∧
       gJ (Wx.setCell ⟨g8, k, none⟩ (.int .i64 n)) mb (aU [] (σ.take (k + 1))) ∧ kM B q (Wx.setCell ⟨g8, k, none⟩ (.int .i64 n)) fk2 (aU [] (σ.take (k + 1))) ∧ (∀ x, fk2 x → fk x ∨ W3.heap.size ≤ x) ∧
       Fr (fun x => x = mb ∨ (Value.slice (some ⟨g8, 0, none⟩) σ.length c8).ownBlock = some x ∨ fk x) W3 (Wx.setCell ⟨g8, k, none⟩ (.int .i64 n))) := by
      intro Wx fk2 hfx hmx hRx hgx
      have hnS : ∀ x, x < wr.heap.size → ¬ (x = mb ∨ fk' x) → Wx.heap[x]? = wr.heap[x]? := fun x h1 h2 => hfx.block x h1 h2
      have hpx := (hnS p (aH hpr) (fun h => h.elim (fun e => by omega) (fun h => (hfk'n p h).2.2 rfl))).trans hpr
      have hgx8 := (hnS g8 (aH hg8) (fun h => h.elim (fun e => by omega) (fun h => (hfk'n g8 h).2.1 rfl))).trans hg8
      have own8x := hfx.owns own8r (fun x hx h => by
       simp only [Value.ownBlock, Option.some.injEq] at hx
       subst hx
       exact h.elim (fun e => by omega) (fun h => (hfk'n g8 h).2.1 rfl))
      refine ⟨⟨by rw [cell_of_row _ _ _ _ _ _ hpx]; rfl, ⟨cur8[k]'(by omega), by rw [cell_of_row _ _ _ _ _ _ hgx8, Array.getElem?_eq_getElem]⟩, frozen_of_row _ _ _ _ _ hgx8⟩, fun n hn => ?_⟩
      have hfs : Fr (fun x => x = g8) Wx (Wx.setCell ⟨g8, k, none⟩ (.int .i64 n)) := (Fr.refl (fun x => x = g8) Wx).setCell (.inl rfl) _
      have hrl : List.replicate (σ.length - k) (Value.int .i64 0) = [.int .i64 0] ++ List.replicate (σ.length - (k + 1)) (.int .i64 0) := by
       rw [show σ.length - k = (σ.length - (k + 1)) + 1 by omega, List.replicate_succ]
       rfl
      have hset := kV (A := (dD (aU [] (σ.take k)) (σ.take k)).map (fun n : Nat => .int .i64 n)) (olds := [.int .i64 0]) (C := List.replicate (σ.length - (k + 1)) (.int .i64 0)) own8x (by rw [hrl, List.append_assoc]) [.int .i64 n] rfl (o := k) (by rw [List.length_map]; unfold dD; rw [List.length_map, List.length_take]; omega)
      refine ⟨?_, hmx.fr hfs (fun e => by omega), (bW B q).frame hRx (fun x hx => hfs.block x ((bW B q).lo hRx x hx).2 (fun e => ?_)), fun x hx => ?_, (hfr.trans hfx (fun x hx h => ?_)).trans hfs (fun x hx h => ?_)⟩
      · rw [hnums, List.map_append, List.map_singleton, ← hn]
        exact hset
      · rcases hgx x hx with h | h
        · exact (hfk'n x h).2.1 e
        · have := aH hg8; omega
      · rcases hgx x hx with h | h
        · exact hfk' x h
        · exact .inr (by omega)
      · exact h.elim .inl (fun h => .inr (.inr ((hfk' x h).resolve_right (by omega))))
      · exact .inr (.inl (by simp [Value.ownBlock, h]))
     have x0 := hx 0 _ (by decide) rfl
     have x1 := hx 1 _ (by decide) rfl
     have x2 := hx 2 _ (by decide) rfl
     have x3 := hx 3 _ (by decide) rfl
     have x4 := hx 4 _ (by decide) rfl
     simp only [Nat.add_zero] at x0
     generalize hW5 : wr.alloc (.cells #[.int .u64 c.r0, .int .u64 c.r1, .int .u64 c.r2, .int .u64 c.r3, .string c.s] 84) = W5
     have hf5 : Fr (fun _ => False) wr W5 := by subst hW5; exact (Fr.refl _ wr).alloc _
     have hb5 : ∀ j, W5.cell? ⟨wr.heap.size, j, none⟩ = #[Value.int .u64 c.r0, .int .u64 c.r1, .int .u64 c.r2, .int .u64 c.r3, .string c.s][j]? := fun j => by subst hW5; rw [aB rfl]
     have b0 := hb5 0
     have b1 := hb5 1
     have b2 := hb5 2
     have b3 := hb5 3
     have b4 := hb5 4
     simp only [List.getElem?_toArray, List.getElem?_cons_zero, List.getElem?_cons_succ] at b0 b1 b2 b3 b4
     have m_7 := hf5.aA j_7 (fun h => h)
     have m_1 := hf5.aA j_1 (fun h => h)
     obtain ⟨nn, hlook, hnn⟩ := gJ.look (w := W5.drew) (hmapr.fr (S := fun _ => False) hf5.drew (fun h => h)) hism hiap hc
     have hlook' : (Instr.lookup 139 (.map (some mb)) (.agg #[.int .u64 c.r0, .int .u64 c.r1, .int .u64 c.r2, .int .u64 c.r3, .string c.s]) true).run Tryz.prog W5.drew = .ok (.tuple #[.int .i64 nn, .bool ((aU [] (σ.take k)).any (fA c))]) W5.drew := hlook
     clear hlook hx hownr own8r hg8 hpr hb5 j_1 j_7 j_8
     cases hany : (aU [] (σ.take k)).any (fA c) with
     | true =>
      rw [hany] at hlook' hidx1 hnn
      simp only [if_true] at hidx1
      have hnn := hnn rfl
      obtain ⟨⟨y8, ⟨uy, yc⟩, yf⟩, hend⟩ := fin W5.drew fk' ((hf5.mono (fun _ _ h => h.elim)).drew) (by rw [hidx1]; exact hmapr.fr (S := fun _ => False) (hf5.drew) (fun h => h)) (by rw [hidx1]; exact (bW B q).frame hRr (fun x hx => hf5.block x ((bW B q).lo hRr x hx).2 (fun h => h))) (fun x h => .inl h)
      have hend' := hend _ (hidx1 ▸ rfl : (aU [] (σ.take k)).findIdx (fA c) = (aU [] (σ.take (k + 1))).findIdx (fA c))
      have hendH := Lib.hid hend'
      have hidxH := Lib.hid hidx1
      subst hnn
      have hlen1 : (aU [] (σ.take (k + 1))).length = (aU [] (σ.take k)).length := by rw [hidx1]
      have hlenH := Lib.hid hlen1
      clear fin hend hend' hidx1 hany hlen1 hnums hmapr hRr hism hiap hst
      go_wp2
      go_region
      all_goals
       go_wp2
       go_roundw
       case rel =>
        obtain ⟨g1, g2, g3, g4, g5⟩ := hendH.out
        exact ⟨k + 1, fk', by omega, by rw [hlenH.out], by go_num, g1, g2, g3, g4, g5⟩
       case measure => simp [intOf]; omega
     | false =>
      rw [hany] at hlook' hidx1
      simp only [Bool.false_eq_true, if_false] at hidx1
      have hlen1 : (aU [] (σ.take (k + 1))).length = (aU [] (σ.take k)).length + 1 := by rw [hidx1, List.length_append]; rfl
      have hnum : (aU [] (σ.take k)).length = (aU [] (σ.take (k + 1))).findIdx (fA c) := by rw [hidx1, aIk hany]
      have hRd : kM B q W5.drew.drew fk' (aU [] (σ.take k)) := (bW B q).frame hRr (fun x hx => hf5.block x ((bW B q).lo hRr x hx).2 (fun h => h))
      have hi := (bW B q).append hRd hc (by rw [← hidx1]; exact Nat.le_trans hiw (by omega))
      have hs5 := hf5.size
      have h5lt : ∀ x, fk' x → x < wr.heap.size := fun x hx => ((bW B q).lo hRr x hx).2
      have hlenH := Lib.hid hlen1
      have hnumH := Lib.hid hnum
      have hidxH := Lib.hid hidx1
      have hile : (aU [] (σ.take k)).length ≤ 2147483648 := by omega
      have finH := Lib.hid @fin
      clear fin hidx1 hany hlen1 hnum hnums hism hiap hst hnn hiw
      go_wp2
      go_region
      all_goals
       go_wp2
       go_region_law (refine aS _ rfl ?_; refine bU _ _ _ _ _ rfl _ _ rfl hi rfl ?_; rintro e w2 ⟨rfl, hf6, f2, hR6, hg6⟩; refine ⟨_, rfl, ?_⟩)
       all_goals
        have hf6' := hf6.aG.aG
        have hs6 := hf6'.size
        have hfk5 : ∀ x, x < wr.heap.size → ¬ fk' x → w2.heap[x]? = wr.heap[x]? := fun x h1 h2 => (hf6'.block x (by omega) h2).trans (hf5.block x h1 (fun h => h))
        have q_7 : w2.cell? ⟨p, 7, none⟩ = some (.map (some mb)) := hf6'.aA m_7 (fun h => (hfk'n p h).2.2 rfl)
        have hnt : ¬ fk' wr.heap.size := fun h => by have := h5lt _ h; omega
        have e0 := hf6'.aA b0 hnt
        have e1 := hf6'.aA b1 hnt
        have e2 := hf6'.aA b2 hnt
        have e3 := hf6'.aA b3 hnt
        have e4 := hf6'.aA b4 hnt
        have hmap2 : gJ w2.drew mb (aU [] (σ.take k)) := hmapr.fr (S := fun x => fk' x) ((hf5.mono (fun _ _ h => h.elim)).trans hf6' (fun _ _ h => h)).drew (fun h => (hfk'n mb h).1 rfl)
        obtain ⟨W6, hput, hmap6, hf7⟩ := gJ.put hmap2 hile hc
        have hput' : (Instr.mapUpdate 139 (.map (some mb)) (.agg #[.int .u64 c.r0, .int .u64 c.r1, .int .u64 c.r2, .int .u64 c.r3, .string c.s]) (.int .i64 (aU [] (σ.take k)).length)).run Tryz.prog w2.drew = .ok () W6 := hput
        have hf7' := hf7.aG
        have hfin := finH.out W6 f2 (((hf5.mono (fun _ _ h => h.elim)).trans (hf6'.mono (fun _ _ h => .inr h)) (fun _ _ h => h)).trans (hf7'.mono (fun _ _ h => .inl h)) (fun _ _ h => h)) (by rw [hidxH.out]; exact hmap6)
         (by rw [hidxH.out]; exact (bW B q).frame hR6 (fun x hx => hf7'.block x ((bW B q).lo hR6 x hx).2 (fun e => by
          rcases hg6 x hx with h | h
          · exact (hfk'n x h).1 e
          · have : W5.drew.drew.heap.size = W5.heap.size := rfl
            omega))) (fun x hx => (hg6 x hx).imp id (fun h => by have : W5.drew.drew.heap.size = W5.heap.size := rfl; omega))
        obtain ⟨⟨y8, ⟨uy, yc⟩, yf⟩, hend⟩ := hfin
        have hendH := Lib.hid (hend _ hnumH.out)
        clear hend hput hmap2 hmap6 hi hRd hmapr hRr hR6
        go_wp2
        go_region
        all_goals
         go_wp2
         go_roundw
         case rel =>
          obtain ⟨g1, g2, g3, g4, g5⟩ := hendH.out
          exact ⟨k + 1, f2, by omega, by rw [hlenH.out]; go_num, by go_num, g1, g2, g3, g4, g5⟩
         case measure => simp [intOf]; omega
   · have hke : k = σ.length := by omega
     subst hke
     rw [List.take_length] at own8r hmapr hRr ⊢
     rw [Nat.sub_self, List.replicate_zero, List.append_nil] at own8r
     have hNl := gQ σ []
     rw [List.length_nil, Nat.zero_add] at hNl
     have hnl : (dD (aU [] σ) σ).length = σ.length := List.length_map _
     have z_2 : wr.frozen? ⟨p, 2, none⟩ = false := frozen_of_row _ _ _ _ _ hpr
     have j_2 : wr.cell? ⟨p, 2, none⟩ = some (.int .u8 0) := by rw [cell_of_row _ _ _ _ _ _ hpr]; rfl
     have h5lt : ∀ x, fk' x → B ≤ x ∧ x < wr.heap.size := fun x hx => (bW B q).lo hRr x hx
     have hBp := hlo p ((hfp p).2 (.inl rfl))
     have hownr := hfr.owns hownv3 (fun x hx h => h.elim (fun e => by have := hvl x hx; omega) (fun h => h.elim (fun e => by have := hb8 x e; have := hvl x hx; omega) (n3 x hx)))
     have hw3 := hf03.size
     have done : ∀ (κ : Nat) (Wf : World) (tv x3 x4 x5 x6 x7 x8 : Value), Wf.heap[p]? = some (.cells #[.slice a0 σ.length c0, jU q, .int .u8 (κ : Nat), x3, x4, x5, x6, x7, x8] 142 (0, 0)) → κ = gV (aU [] σ).length → Fr (fun x => x = p) wr Wf → aFr Wf (aU [] σ).length (dD (aU [] σ) σ) tv x3 x4 x5 → (∀ x, tv.ownBlock = some x → wr.heap.size ≤ x) →
      Fr fp w Wf ∧ ∃ fp', vV B q p Wf fp' σ ∧ Grow w fp fp' := by
      intro κ Wf tv x3 x4 x5 x6 x7 x8 hpf hκ hff hkeys htv
      have hfk'2 : ∀ x, fk' x → x ≠ p := fun x h e => by
       rcases hfk' x h with h | h
       · exact n2 (e ▸ h)
       · omega
      refine ⟨((hf03.mono (fun x _ h => (hfp x).2 (h.imp id .inr))).trans hfr (fun x hx h => h.elim (fun e => by omega) (fun h => h.elim (fun e => by have := hb8 x e; omega) (fun h => (hfp x).2 (.inr (.inr h)))))).trans hff (fun x _ e => (hfp x).2 (.inl e)), fun x => x = p ∨ (Value.slice a0 σ.length c0).ownBlock = some x ∨ tv.ownBlock = some x ∨ fk' x,
       ⟨_, fk', tv, x3, x4, x5, x6, x7, x8, hκ ▸ hpf, hff.owns hownr (fun x hx e => n1 (by rw [hx, e])), (bW B q).frame hRr (fun x hx => hff.block x (h5lt x hx).2 (hfk'2 x hx)), hkeys, n1, fun e => ?_, fun h => hfk'2 p h rfl, fun x hx h => ?_, fun x hx h => ?_, fun x => Iff.rfl, ?_, hwt⟩, ?_⟩
      · have := htv p e; omega
      · rcases hfk' x h with h | h
        · exact n3 x hx h
        · have := hvl x hx; omega
      · have := htv x hx; have := (h5lt x h).2; omega
      · rintro x (rfl | hx | hx | hx)
        · exact hBp.1
        · exact hB x ((hfp x).2 (.inr (.inl hx)))
        · have := htv x hx; omega
        · exact (h5lt x hx).1
      · rintro x (rfl | hx | hx | hx)
        · exact .inl ((hfp x).2 (.inl rfl))
        · exact .inl ((hfp x).2 (.inr (.inl hx)))
        · exact .inr (by have := htv x hx; omega)
        · rcases hfk' x hx with h | h
          · exact .inl ((hfp x).2 (.inr (.inr h)))
          · exact .inr (by omega)
     have hNi : ((aU [] σ).length : Int) ≤ 2147483648 := by omega
     have hwrN : IntKind.u64.wrap ((aU [] σ).length : Int) = (aU [] σ).length := by rw [IntKind.wrap_u64]; omega
     clear hmapr j_1 j_7 j_8 hownv3 hp3 own8c hmap3 hR3
     by_cases hN : (aU [] σ).length ≤ 256
     · generalize hWk : wr.setCell ⟨p, 2, none⟩ (.int .u8 0) = Wk
       have hfk : Fr (fun x => x = p) wr Wk := by subst hWk; exact (Fr.refl (fun x => x = p) wr).setCell (.inl rfl) _
       have hpk : Wk.heap[p]? = some (.cells #[.slice a0 σ.length c0, jU q, .int .u8 0, .slice none 0 0, .slice none 0 0, .slice none 0 0, .slice none 0 0, .map (some mb), .slice a8 σ.length c8] 142 (0, 0)) := by subst hWk; exact dW hpr 2 _
       have l_2 : Wk.cell? ⟨p, 2, none⟩ = some (.int .u8 0) := by rw [cell_of_row _ _ _ _ _ _ hpk]; rfl
       have l_8 : Wk.cell? ⟨p, 8, none⟩ = some (.slice a8 σ.length c8) := by rw [cell_of_row _ _ _ _ _ _ hpk]; rfl
       have l_3 : Wk.cell? ⟨p, 3, none⟩ = some (.slice none 0 0) := by rw [cell_of_row _ _ _ _ _ _ hpk]; rfl
       have hfill := aKn Wk.drew (dD (aU [] σ) σ) (.slice a8 σ.length c8) (by rw [hnl]; exact hfk.owns own8r (fun x hx e => hne8 (by rw [hx, e]))) (by rw [hnl]; omega)
       rw [hnl] at hfill
       go_wp2
       go_region_law (go_simp; go_at_call 221; refine hfill.mono ?_; rintro e w2 ⟨tv, rfl, hown2, hsince2, hf2⟩; obtain ⟨at3, ct3, rfl⟩ := ownsRow_shape hown2; have hf2' := hf2.aG; have hpk2 := (hf2'.block p (aH hpk) (fun h => h)).trans hpk; have k_3 : w2.cell? ⟨p, 3, none⟩ = some (.slice none 0 0) := (by rw [cell_of_row _ _ _ _ _ _ hpk2]; rfl); have z_3 : w2.frozen? ⟨p, 3, none⟩ = false := frozen_of_row _ _ _ _ _ hpk2)
       all_goals
        have hsk := hfk.size
        have hlast := dW hpk2 3 (.slice at3 σ.length ct3)
        have hfs : Fr (fun x => x = p) w2 (w2.setCell ⟨p, 3, none⟩ (.slice at3 σ.length ct3)) := (Fr.refl (fun x => x = p) w2).setCell (.inl rfl) _
        have htv : ∀ x, (Value.slice at3 σ.length ct3).ownBlock = some x → wr.heap.size ≤ x := fun x hx => Nat.le_trans hsk (hsince2 x hx)
        have hres := done 0 _ (.slice at3 σ.length ct3) _ _ _ _ _ _ hlast (by unfold gV; simp [hN]) ((hfk.trans hf2' (fun _ _ h => h.elim)).trans hfs (fun _ _ h => h)) (.inl ⟨hN, rfl, (by rw [hnl]; exact hfs.owns hown2 (fun x hx e => by have := htv x hx; have := aH hpr; omega))⟩) htv
        go_wp2
        go_ret
        exact ⟨rfl, hres⟩
     · by_cases hN2 : (aU [] σ).length ≤ 65536
       · generalize hWk : wr.setCell ⟨p, 2, none⟩ (.int .u8 1) = Wk
         have hfk : Fr (fun x => x = p) wr Wk := by subst hWk; exact (Fr.refl (fun x => x = p) wr).setCell (.inl rfl) _
         have hpk : Wk.heap[p]? = some (.cells #[.slice a0 σ.length c0, jU q, .int .u8 1, .slice none 0 0, .slice none 0 0, .slice none 0 0, .slice none 0 0, .map (some mb), .slice a8 σ.length c8] 142 (0, 0)) := by subst hWk; exact dW hpr 2 _
         have l_2 : Wk.cell? ⟨p, 2, none⟩ = some (.int .u8 1) := by rw [cell_of_row _ _ _ _ _ _ hpk]; rfl
         have l_8 : Wk.cell? ⟨p, 8, none⟩ = some (.slice a8 σ.length c8) := by rw [cell_of_row _ _ _ _ _ _ hpk]; rfl
         have l_3 : Wk.cell? ⟨p, 4, none⟩ = some (.slice none 0 0) := by rw [cell_of_row _ _ _ _ _ _ hpk]; rfl
         have hfill := aJm Wk.drew (dD (aU [] σ) σ) (.slice a8 σ.length c8) (by rw [hnl]; exact hfk.owns own8r (fun x hx e => hne8 (by rw [hx, e]))) (by rw [hnl]; omega)
         rw [hnl] at hfill
         go_wp2
         go_region_law (go_simp; go_at_call 222; refine hfill.mono ?_; rintro e w2 ⟨tv, rfl, hown2, hsince2, hf2⟩; obtain ⟨at3, ct3, rfl⟩ := ownsRow_shape hown2; have hf2' := hf2.aG; have hpk2 := (hf2'.block p (aH hpk) (fun h => h)).trans hpk; have k_3 : w2.cell? ⟨p, 4, none⟩ = some (.slice none 0 0) := (by rw [cell_of_row _ _ _ _ _ _ hpk2]; rfl); have z_3 : w2.frozen? ⟨p, 4, none⟩ = false := frozen_of_row _ _ _ _ _ hpk2)
         all_goals
          have hsk := hfk.size
          have hlast := dW hpk2 4 (.slice at3 σ.length ct3)
          have hfs : Fr (fun x => x = p) w2 (w2.setCell ⟨p, 4, none⟩ (.slice at3 σ.length ct3)) := (Fr.refl (fun x => x = p) w2).setCell (.inl rfl) _
          have htv : ∀ x, (Value.slice at3 σ.length ct3).ownBlock = some x → wr.heap.size ≤ x := fun x hx => Nat.le_trans hsk (hsince2 x hx)
          have hres := done 1 _ (.slice at3 σ.length ct3) _ _ _ _ _ _ hlast (by unfold gV; simp [hN, hN2]) ((hfk.trans hf2' (fun _ _ h => h.elim)).trans hfs (fun _ _ h => h)) (.inr (.inl ⟨by omega, hN2, rfl, (by rw [hnl]; exact hfs.owns hown2 (fun x hx e => by have := htv x hx; have := aH hpr; omega))⟩)) htv
          go_wp2
          go_ret
          exact ⟨rfl, hres⟩
       · generalize hWk : wr.setCell ⟨p, 2, none⟩ (.int .u8 2) = Wk
         have hfk : Fr (fun x => x = p) wr Wk := by subst hWk; exact (Fr.refl (fun x => x = p) wr).setCell (.inl rfl) _
         have hpk : Wk.heap[p]? = some (.cells #[.slice a0 σ.length c0, jU q, .int .u8 2, .slice none 0 0, .slice none 0 0, .slice none 0 0, .slice none 0 0, .map (some mb), .slice a8 σ.length c8] 142 (0, 0)) := by subst hWk; exact dW hpr 2 _
         have l_2 : Wk.cell? ⟨p, 2, none⟩ = some (.int .u8 2) := by rw [cell_of_row _ _ _ _ _ _ hpk]; rfl
         have l_8 : Wk.cell? ⟨p, 8, none⟩ = some (.slice a8 σ.length c8) := by rw [cell_of_row _ _ _ _ _ _ hpk]; rfl
         have l_3 : Wk.cell? ⟨p, 5, none⟩ = some (.slice none 0 0) := by rw [cell_of_row _ _ _ _ _ _ hpk]; rfl
         have hfill := aIX Wk.drew (dD (aU [] σ) σ) (.slice a8 σ.length c8) (by rw [hnl]; exact hfk.owns own8r (fun x hx e => hne8 (by rw [hx, e]))) (by rw [hnl]; omega)
         rw [hnl] at hfill
         go_wp2
         go_region_law (go_simp; go_at_call 223; refine hfill.mono ?_; rintro e w2 ⟨tv, rfl, hown2, hsince2, hf2⟩; obtain ⟨at3, ct3, rfl⟩ := ownsRow_shape hown2; have hf2' := hf2.aG; have hpk2 := (hf2'.block p (aH hpk) (fun h => h)).trans hpk; have k_3 : w2.cell? ⟨p, 5, none⟩ = some (.slice none 0 0) := (by rw [cell_of_row _ _ _ _ _ _ hpk2]; rfl); have z_3 : w2.frozen? ⟨p, 5, none⟩ = false := frozen_of_row _ _ _ _ _ hpk2)
         all_goals
          have hsk := hfk.size
          have hlast := dW hpk2 5 (.slice at3 σ.length ct3)
          have hfs : Fr (fun x => x = p) w2 (w2.setCell ⟨p, 5, none⟩ (.slice at3 σ.length ct3)) := (Fr.refl (fun x => x = p) w2).setCell (.inl rfl) _
          have htv : ∀ x, (Value.slice at3 σ.length ct3).ownBlock = some x → wr.heap.size ≤ x := fun x hx => Nat.le_trans hsk (hsince2 x hx)
          have hres := done 2 _ (.slice at3 σ.length ct3) _ _ _ _ _ _ hlast (by unfold gV; simp [hN, hN2]) ((hfk.trans hf2' (fun _ _ h => h.elim)).trans hfs (fun _ _ h => h)) (.inr (.inr ⟨by omega, rfl, (by rw [hnl]; exact hfs.owns hown2 (fun x hx e => by have := htv x hx; have := aH hpr; omega))⟩)) htv
          go_wp2
          go_ret
          exact ⟨rfl, hres⟩
end Go.Proofs.YtcidlnjpabgioaaGreatDoor
namespace Go.Proofs.YtcidlnjpabgioaaGreatDoor
open Go.RowKit
theorem aJi {w : World} {a : Addr} {x0 x1 x2 x3 x4 x5 x6 x7 x8 : Value} (h0 : w.cell? a = some x0) (h1 : w.cell? (a.add 1) = some x1) (h2 : w.cell? (a.add 2) = some x2) (h3 : w.cell? (a.add 3) = some x3) (h4 : w.cell? (a.add 4) = some x4) (h5 : w.cell? (a.add 5) = some x5) (h6 : w.cell? (a.add 6) = some x6) (h7 : w.cell? (a.add 7) = some x7) (h8 : w.cell? (a.add 8) = some x8) :
 (loadVar 142 a).run Tryz.prog w = .ok (.agg #[x0, x1, x2, x3, x4, x5, x6, x7, x8]) w := by
 have h : (Tryz.prog.info? 142).map (·.size) = some 9 := by kernel_rfl
 obtain ⟨i, hi, hs⟩ := Option.map_eq_some_iff.1 h
 have hg : (isAgg 142).run Tryz.prog w = .ok true w := by simp [isAgg, run_underlying Tryz.underlying142]
 have h0' : w.cell? (a.add 0) = some x0 := by cases a with | mk b o s => cases s <;> simpa [Addr.add] using h0
 unfold loadVar
 simp [Sem.run_bind, hg, sizeOf, typeInfo, hi, hs, loadCells, loadCellsFrom, h0', h1, h2, h3, h4, h5, h6, h7, h8]
theorem lT (w : World) (a : Option Addr) (n c : Nat) (q : Nat) (x2 x3 x4 x5 x6 x7 x8 : Value) : Calls Tryz.prog 215 #[.agg #[.slice a n c, jU q, x2, x3, x4, x5, x6, x7, x8]] w fun e w' => e = .returned (.int .i64 n) ∧ Fr (fun _ => False) w w' := by
 go_enter Tryz.func215, Tryz.ntmps215
 go_wp2
 go_ret
 exact ⟨rfl, (Fr.refl _ w).alloc _⟩
theorem aJV : Lib.leBytes 8 1 = [1, 0, 0, 0, 0, 0, 0, 0] := by decide
theorem aGv (B q : Nat) (w : World) (fk : Nat → Prop) (idx : List Cell) (hR : kM B q w fk idx) (x0 x2 x3 x4 x5 x6 x7 x8 : Value) (b : Nat) (fb : Nat → Prop) (bs : List UInt8) (hb : Buf w b fb bs) (hd : ∀ k, fk k → ¬ fb k) (hl : bs.length + 8 ≤ 2147483648) :
 Calls Tryz.prog 211 #[.agg #[x0, jU q, x2, x3, x4, x5, x6, x7, x8], .pointer (some ⟨b, 0, none⟩)] w fun e w' => e = .returned (.tuple #[]) ∧ Fr fb w w' ∧ ∃ fb', Buf w' b fb' (bs ++ [1, 0, 0, 0, 0, 0, 0, 0]) ∧ Grow w fb fb' := by
 have hblt := aF.lt hb
 have hflt : ∀ k, fk k → k < w.heap.size := fun k hk => ((bW B q).lo hR k hk).2
 generalize hW : w.alloc (.cells #[x0, jU q, x2, x3, x4, x5, x6, x7, x8] 142) = W
 have hfW : Fr (fun _ => False) w W := by subst hW; exact (Fr.refl _ w).alloc _
 have hsW : W.heap.size = w.heap.size + 1 := by subst hW; simp
 have q1 : W.cell? ⟨w.heap.size, 1, none⟩ = some (jU q) := by subst hW; rw [aB rfl]; rfl
 have hbW : Buf W b fb bs := aF.aT hb fun q hq => hfW.block q (hblt q hq) (fun h => h)
 have hput := fO W b fb bs hbW 1 (by decide) (by omega)
 have hN : ¬ fb w.heap.size := fun h => by have := hblt _ h; omega
 obtain ⟨hta, hst⟩ := (bW B q).state
 have hta' := hta 132
 have hRw := fun w1 (hf1 : Fr fb w w1) => (bW B q).frame (w' := w1) hR fun k hk => hf1.block k (hflt k hk) (hd k hk)
 clear hta
 go_enter Tryz.func211, Tryz.ntmps211
 go_wp2_with (first
  | (go_at_call 218; refine hput.mono ?_; rintro e w1 ⟨rfl, hf1, fb1, hb1, hg1⟩; have q2 := hf1.aA q1 hN; have hs1 := hf1.size; have hf01 : Fr fb w w1 := (hfW.mono (fun _ _ h => h.elim)).trans hf1 (fun _ _ h => h); have hi := hst (hRw w1 hf01) hb1 (fun k hk h => (hg1 k h).elim (hd k hk) (fun h => by have := hflt k hk; omega)) (by rw [List.length_append, Lib.leBytes_length]; simp; omega))
  | ((with_reducible show wpList _ _ _ (⟨some 17, _, _, _, _, _⟩ :: _) _ _); refine aY _ rfl _ _ _ _ rfl _ _ rfl hi rfl ?_; rintro e w2 ⟨rfl, hf2, fb2, hb2, hg2⟩; refine ⟨_, rfl, ?_⟩))
 go_end0
 refine ⟨rfl, hf01.trans hf2 (fun k hk h => (hg1 k h).resolve_right (by omega)), fb2, ?_, fun k hk => ?_⟩
 · rw [← aJV]
   simpa using hb2
 · rcases hg2 k hk with h | h
   · rcases hg1 k h with h | h
     · exact .inl h
     · exact .inr (by omega)
   · exact .inr (by omega)
theorem nD (m : Nat) (hm : m ≤ 8) (idx σ : List Cell) : ((dD idx σ).map dL).flatMap (aJ m) = σ.flatMap fun c => Lib.leBytes m (idx.findIdx (fA c)) := by
 unfold dD
 rw [List.map_map, List.flatMap_map]
 congr 1
 funext c
 exact dI m hm _
theorem yG (m : Nat) (idx σ : List Cell) : (σ.flatMap fun c => Lib.leBytes m (idx.findIdx (fA c))).length = m * σ.length := bH _ m (fun _ => Lib.leBytes_length _ _) σ
theorem nM (idx σ : List Cell) (h : idx.length ≤ 2147483648) : ∀ c ∈ (dD idx σ).map dL, c.r0 < 18446744073709551616 := by
 intro c hc
 obtain ⟨n, hn, rfl⟩ := List.mem_map.1 hc
 obtain ⟨d, hd, rfl⟩ := List.mem_map.1 hn
 have : idx.findIdx (fA d) ≤ idx.length := List.findIdx_le_length
 show idx.findIdx (fA d) < _
 omega
theorem aBJ (B q p : Nat) (w : World) (fp : Nat → Prop) (h : vV B q p w fp []) (b : Nat) (fb : Nat → Prop) (bs : List UInt8) (hb : Buf w b fb bs) :
 Calls Tryz.prog 210 #[.pointer (some ⟨p, 0, none⟩), .pointer (some ⟨b, 0, none⟩)] w fun e w' => e = .returned (.tuple #[]) ∧ Fr fb w w' ∧ ∃ fb', Buf w' b fb' (bs ++ enc .low []) ∧ Grow w fb fb' := by
 obtain ⟨v, fk, kv, x3, x4, x5, x6, x7, x8, hp, hown, -⟩ := h
 have hblt := aF.lt hb
 obtain ⟨a0, c0, rfl⟩ := ownsRow_shape hown
 simp only [List.length_nil] at hp
 have k_0 : w.cell? ⟨p, 0, none⟩ = some (.slice a0 0 c0) := by rw [cell_of_row _ _ _ _ _ _ hp]; rfl
 have k_1 : w.cell? ⟨p, 1, none⟩ = some (jU q) := by rw [cell_of_row _ _ _ _ _ _ hp]; rfl
 have k_2 : w.cell? ⟨p, 2, none⟩ = some (.int .u8 (gV (aU [] []).length : Nat)) := by rw [cell_of_row _ _ _ _ _ _ hp]; rfl
 have k_3 : w.cell? ⟨p, 3, none⟩ = some x3 := by rw [cell_of_row _ _ _ _ _ _ hp]; rfl
 have k_4 : w.cell? ⟨p, 4, none⟩ = some x4 := by rw [cell_of_row _ _ _ _ _ _ hp]; rfl
 have k_5 : w.cell? ⟨p, 5, none⟩ = some x5 := by rw [cell_of_row _ _ _ _ _ _ hp]; rfl
 have k_6 : w.cell? ⟨p, 6, none⟩ = some x6 := by rw [cell_of_row _ _ _ _ _ _ hp]; rfl
 have k_7 : w.cell? ⟨p, 7, none⟩ = some x7 := by rw [cell_of_row _ _ _ _ _ _ hp]; rfl
 have k_8 : w.cell? ⟨p, 8, none⟩ = some x8 := by rw [cell_of_row _ _ _ _ _ _ hp]; rfl
 have hrow := lT w a0 0 c0 q (.int .u8 (gV (aU [] []).length : Nat)) x3 x4 x5 x6 x7 x8
 have he : enc .low [] = [] := by rw [enc]; rfl
 rw [he]
 clear hp hown
 go_enter Tryz.func210, Tryz.ntmps210
 go_wp2_with (go_at_call 215; refine hrow.mono ?_; rintro e w1 ⟨rfl, hf1⟩)
 try simp only [Exit.inBlock, Exit.then]
 refine bodyPost_ret (results_none rfl _ _ _) rfl ?_
 exact ⟨rfl, hf1.mono (fun _ _ h => h.elim), fb, by rw [List.append_nil]; exact Buf.col.2 (aF.aT hb fun q hq => hf1.block q (hblt q hq) (fun h => h)), fun q hq => .inl hq⟩
theorem yN (B q p : Nat) (w : World) (fk : Nat → Prop) (σ : List Cell) (a0 : Option Addr) (c0 : Nat) (a1 : Option Addr) (c1 : Nat) (x4 x5 x6 x7 x8 : Value) (hp : w.heap[p]? = some (.cells #[.slice a0 σ.length c0, jU q, .int .u8 0, .slice a1 σ.length c1, x4, x5, x6, x7, x8] 142 (0, 0)))
 (hR : kM B q w fk (aU [] σ)) (hkv : w.ownsRow 0 5 1 (.slice a1 σ.length c1) σ.length (((dD (aU [] σ) σ).map dL).flatMap dP)) (b : Nat) (fb : Nat → Prop) (bs : List UInt8) (hb : Buf w b fb bs) (hpb : ¬ fb p) (hd : ∀ k, fk k → ¬ fb k) (hkb : ∀ k, (Value.slice a1 σ.length c1).ownBlock = some k → ¬ fb k)
 (hσ : σ.length ≠ 0) (hw : wts σ ≤ 2147483648) (hl : bs.length + ((Lib.leBytes 8 1536).length + ((Lib.leBytes 8 (aU [] σ).length).length + ((enc .str (aU [] σ)).length + ((Lib.leBytes 8 σ.length).length + 1 * σ.length)))) ≤ 1099511627776) :
 Calls Tryz.prog 210 #[.pointer (some ⟨p, 0, none⟩), .pointer (some ⟨b, 0, none⟩)] w fun e w' => e = .returned (.tuple #[]) ∧ Fr fb w w' ∧ ∃ fb', Buf w' b fb' (bs ++ (Lib.leBytes 8 1536 ++ (Lib.leBytes 8 (aU [] σ).length ++ (enc .str (aU [] σ) ++ (Lib.leBytes 8 σ.length ++ ((dD (aU [] σ) σ).map dL).flatMap (aJ 1)))))) ∧ Grow w fb fb' := by
 have hpl := aH hp
 have hblt := aF.lt hb
 have hflt : ∀ k, fk k → k < w.heap.size := fun k hk => ((bW B q).lo hR k hk).2
 have hklt : ∀ k, (Value.slice a1 σ.length c1).ownBlock = some k → k < w.heap.size := fun k hk => aK hkv hk
 have hwl := aN σ
 have hil := gQ σ []
 have hiw := jB σ []
 simp only [wts, List.length_nil, Nat.zero_add, Lib.leBytes_length] at hil hiw hl
 have hnl : (dD (aU [] σ) σ).length = σ.length := List.length_map _
 have hnl2 : ((dD (aU [] σ) σ).map dL).length = σ.length := by rw [List.length_map, hnl]
 have hsmall := nM (aU [] σ) σ (by omega)
 have k_0 : w.cell? ⟨p, 0, none⟩ = some (.slice a0 σ.length c0) := by rw [cell_of_row _ _ _ _ _ _ hp]; rfl
 have k_1 : w.cell? ⟨p, 1, none⟩ = some (jU q) := by rw [cell_of_row _ _ _ _ _ _ hp]; rfl
 have k_2 : w.cell? ⟨p, 2, none⟩ = some (.int .u8 0) := by rw [cell_of_row _ _ _ _ _ _ hp]; rfl
 have k_3 : w.cell? ⟨p, 3, none⟩ = some (.slice a1 σ.length c1) := by rw [cell_of_row _ _ _ _ _ _ hp]; rfl
 have k_4 : w.cell? ⟨p, 4, none⟩ = some x4 := by rw [cell_of_row _ _ _ _ _ _ hp]; rfl
 have k_5 : w.cell? ⟨p, 5, none⟩ = some x5 := by rw [cell_of_row _ _ _ _ _ _ hp]; rfl
 have k_6 : w.cell? ⟨p, 6, none⟩ = some x6 := by rw [cell_of_row _ _ _ _ _ _ hp]; rfl
 have k_7 : w.cell? ⟨p, 7, none⟩ = some x7 := by rw [cell_of_row _ _ _ _ _ _ hp]; rfl
 have k_8 : w.cell? ⟨p, 8, none⟩ = some x8 := by rw [cell_of_row _ _ _ _ _ _ hp]; rfl
 have hσz : ¬ (σ.length : Int) = 0 := by omega
 have hRw := fun w1 (hf1 : Fr fb w w1) => (bW B q).frame (w' := w1) hR fun k hk => hf1.block k (hflt k hk) (hd k hk)
 have hKw : ∀ w1, Fr fb w w1 → w1.ownsRow 0 5 1 (.slice a1 σ.length c1) σ.length (((dD (aU [] σ) σ).map dL).flatMap dP) := fun w1 hf1 => hf1.owns hkv hkb
 have hrow := fun w1 => lT w1 a0 σ.length c0 q (.int .u8 0) (.slice a1 σ.length c1) x4 x5 x6 x7 x8
 generalize aU [] σ = idx at hRw hKw hiw hil hl hnl hnl2 hsmall ⊢
 generalize hnums : (dD idx σ).map dL = nums at hKw hnl2 hsmall ⊢
 have hKwH := Lib.hid hKw
 have hRwH := Lib.hid @hRw
 clear hp hkv hR hnums hnl hKw hRw
 go_enter Tryz.func210, Tryz.ntmps210
 go_wp2_with (first
  | (go_at_call 215; refine (hrow w).mono ?_; rintro e w1 ⟨rfl, hf1⟩; have l_0 := hf1.aA k_0 (fun h => h); have l_1 := hf1.aA k_1 (fun h => h); have l_2 := hf1.aA k_2 (fun h => h); have l_3 := hf1.aA k_3 (fun h => h); have l_4 := hf1.aA k_4 (fun h => h); have l_5 := hf1.aA k_5 (fun h => h); have l_6 := hf1.aA k_6 (fun h => h); have l_7 := hf1.aA k_7 (fun h => h); have l_8 := hf1.aA k_8 (fun h => h); have hf01 : Fr fb w w1 := hf1.mono (fun _ _ h => h.elim); have hs1 := hf1.size; have hb1 : Buf w1 b fb bs := aF.aT hb fun q hq => hf1.block q (hblt q hq) (fun h => h); have hput2 := fO w1 b fb bs hb1 1536 (by decide) (by omega))
  | (go_at_call 218; refine hput2.mono ?_; rintro e w2 ⟨rfl, hf2, fb2, hb2, hg2⟩; have m_0 := hf2.aA l_0 hpb; have m_1 := hf2.aA l_1 hpb; have m_2 := hf2.aA l_2 hpb; have m_3 := hf2.aA l_3 hpb; have m_4 := hf2.aA l_4 hpb; have m_5 := hf2.aA l_5 hpb; have m_6 := hf2.aA l_6 hpb; have m_7 := hf2.aA l_7 hpb; have m_8 := hf2.aA l_8 hpb; have hf02 : Fr fb w w2 := hf01.trans hf2 (fun _ _ h => h); have hs2 := hf2.size; have hpb2 : ¬ fb2 p := fun h => (hg2 p h).elim hpb (fun h => by omega); have hrows3 := (bW B q).rows (hRwH.out w2 hf02))
  | ((with_reducible show wpList _ _ _ (⟨some 24, _, _, _, _, _⟩ :: _) _ _); refine aY _ rfl _ _ _ _ rfl _ _ rfl hrows3 rfl ?_; rintro e w3 ⟨rfl, hf3⟩; refine ⟨_, rfl, ?_⟩; have n_0 := hf3.aA m_0 (fun h => h); have n_1 := hf3.aA m_1 (fun h => h); have n_2 := hf3.aA m_2 (fun h => h); have n_3 := hf3.aA m_3 (fun h => h); have n_4 := hf3.aA m_4 (fun h => h); have n_5 := hf3.aA m_5 (fun h => h); have n_6 := hf3.aA m_6 (fun h => h); have n_7 := hf3.aA m_7 (fun h => h); have n_8 := hf3.aA m_8 (fun h => h); have hf03 : Fr fb w w3 := hf02.trans hf3 (fun _ _ h => h.elim); have hs3 := hf3.size; have hb3 : Buf w3 b fb2 (bs ++ Lib.leBytes 8 1536) := aF.aT hb2 fun q hq => hf3.block q (aF.lt hb2 q hq) (fun h => h); have hput4 := fO w3 b fb2 _ hb3 idx.length (by omega) (by rw [List.length_append, Lib.leBytes_length]; omega))
  | (go_at_call 218; refine hput4.mono ?_; rintro e w4 ⟨rfl, hf4, fb4, hb4, hg4⟩; have o_0 := hf4.aA n_0 hpb2; have o_1 := hf4.aA n_1 hpb2; have o_2 := hf4.aA n_2 hpb2; have o_3 := hf4.aA n_3 hpb2; have o_4 := hf4.aA n_4 hpb2; have o_5 := hf4.aA n_5 hpb2; have o_6 := hf4.aA n_6 hpb2; have o_7 := hf4.aA n_7 hpb2; have o_8 := hf4.aA n_8 hpb2; have hs4 := hf4.size; have hf04 : Fr fb w w4 := hf03.trans hf4 (fun q hq h => (hg2 q h).resolve_right (by omega)); have hgr4 : ∀ x, fb4 x → fb x ∨ w.heap.size ≤ x := fun x h => (hg4 x h).elim (fun h => (hg2 x h).imp id (fun h => by omega)) (fun h => .inr (by omega)); have hpb4 : ¬ fb4 p := fun h => (hgr4 p h).elim hpb (fun h => by omega);
      have henc5 := (bW B q).encode (hRwH.out w4 hf04) (show wts _ ≤ _ by omega) hb4 (fun x hx h => (hgr4 x h).elim (hd x hx) (fun h => by have := hflt x hx; omega)) (by rw [List.length_append, List.length_append, Lib.leBytes_length, Lib.leBytes_length]; omega))
  | ((with_reducible show wpList _ _ _ (⟨some 31, _, _, _, _, _⟩ :: _) _ _); refine aY _ rfl _ _ _ _ rfl _ _ rfl henc5 rfl ?_; rintro e w5 ⟨rfl, hf5, fb5, hb5, hg5⟩; refine ⟨_, rfl, ?_⟩; have r_0 := hf5.aA o_0 hpb4; have r_1 := hf5.aA o_1 hpb4; have r_2 := hf5.aA o_2 hpb4; have r_3 := hf5.aA o_3 hpb4; have r_4 := hf5.aA o_4 hpb4; have r_5 := hf5.aA o_5 hpb4; have r_6 := hf5.aA o_6 hpb4; have r_7 := hf5.aA o_7 hpb4; have r_8 := hf5.aA o_8 hpb4; have hs5 := hf5.size; have hf05 : Fr fb w w5 := hf04.trans hf5 (fun q hq h => (hgr4 q h).resolve_right (by omega)); have hgr5 : ∀ x, fb5 x → fb x ∨ w.heap.size ≤ x := fun x h => (hg5 x h).elim (hgr4 x) (fun h => .inr (by omega)); have hpb5 : ¬ fb5 p := fun h => (hgr5 p h).elim hpb (fun h => by omega))
  | (go_at_call 215; refine (hrow w5).mono ?_; rintro e w6 ⟨rfl, hf6⟩; have s_0 := hf6.aA r_0 (fun h => h); have s_1 := hf6.aA r_1 (fun h => h); have s_2 := hf6.aA r_2 (fun h => h); have s_3 := hf6.aA r_3 (fun h => h); have s_4 := hf6.aA r_4 (fun h => h); have s_5 := hf6.aA r_5 (fun h => h); have s_6 := hf6.aA r_6 (fun h => h); have s_7 := hf6.aA r_7 (fun h => h); have s_8 := hf6.aA r_8 (fun h => h); have hs6 := hf6.size; have hf06 : Fr fb w w6 := hf05.trans hf6 (fun _ _ h => h.elim); have hb6 := Buf.col.2 (aF.aT hb5 fun q hq => hf6.block q (aF.lt hb5 q hq) (fun h => h)); have hput7 := fO w6 b fb5 _ hb6 σ.length (by omega) (by rw [List.length_append, List.length_append, List.length_append, Lib.leBytes_length, Lib.leBytes_length]; omega))
  | (go_at_call 218; refine hput7.mono ?_; rintro e w7 ⟨rfl, hf7, fb7, hb7, hg7⟩; have t_0 := hf7.aA s_0 hpb5; have t_1 := hf7.aA s_1 hpb5; have t_2 := hf7.aA s_2 hpb5; have t_3 := hf7.aA s_3 hpb5; have t_4 := hf7.aA s_4 hpb5; have t_5 := hf7.aA s_5 hpb5; have t_6 := hf7.aA s_6 hpb5; have t_7 := hf7.aA s_7 hpb5; have t_8 := hf7.aA s_8 hpb5; have hs7 := hf7.size; have hf07 : Fr fb w w7 := hf06.trans hf7 (fun q hq h => (hgr5 q h).resolve_right (by omega)); have hgr7 : ∀ x, fb7 x → fb x ∨ w.heap.size ≤ x := fun x h => (hg7 x h).elim (hgr5 x) (fun h => .inr (by omega));
      have henc8 := sD w7 b fb7 _ hb7 a1 c1 nums (by rw [hnl2]; exact hKwH.out w7 hf07) (by rw [hnl2]; exact fun x hx h => (hgr7 x h).elim (hkb x hx) (fun h => by have := hklt x hx; omega)) hsmall (by rw [hnl2, List.length_append, List.length_append, List.length_append, List.length_append, Lib.leBytes_length, Lib.leBytes_length, Lib.leBytes_length]; omega); rw [hnl2] at henc8)
  | (go_at_call 195; refine henc8.mono ?_; rintro e w8 ⟨rfl, hf8, fb8, hb8, hg8⟩))
 go_end0
 refine ⟨rfl, hf07.trans hf8 (fun q hq h => (hgr7 q h).resolve_right (by omega)), fb8, by simpa [List.append_assoc] using hb8, fun x h => (hg8 x h).elim (hgr7 x) (fun h => .inr (by omega))⟩
theorem wY (B q p : Nat) (w : World) (fk : Nat → Prop) (σ : List Cell) (a0 : Option Addr) (c0 : Nat) (a1 : Option Addr) (c1 : Nat) (x3 x5 x6 x7 x8 : Value) (hp : w.heap[p]? = some (.cells #[.slice a0 σ.length c0, jU q, .int .u8 1, x3, .slice a1 σ.length c1, x5, x6, x7, x8] 142 (0, 0)))
 (hR : kM B q w fk (aU [] σ)) (hkv : w.ownsRow 0 199 1 (.slice a1 σ.length c1) σ.length (((dD (aU [] σ) σ).map dL).flatMap dF)) (b : Nat) (fb : Nat → Prop) (bs : List UInt8) (hb : Buf w b fb bs) (hpb : ¬ fb p) (hd : ∀ k, fk k → ¬ fb k) (hkb : ∀ k, (Value.slice a1 σ.length c1).ownBlock = some k → ¬ fb k)
 (hσ : σ.length ≠ 0) (hw : wts σ ≤ 2147483648) (hl : bs.length + ((Lib.leBytes 8 1537).length + ((Lib.leBytes 8 (aU [] σ).length).length + ((enc .str (aU [] σ)).length + ((Lib.leBytes 8 σ.length).length + 2 * σ.length)))) ≤ 1099511627776) :
 Calls Tryz.prog 210 #[.pointer (some ⟨p, 0, none⟩), .pointer (some ⟨b, 0, none⟩)] w fun e w' => e = .returned (.tuple #[]) ∧ Fr fb w w' ∧ ∃ fb', Buf w' b fb' (bs ++ (Lib.leBytes 8 1537 ++ (Lib.leBytes 8 (aU [] σ).length ++ (enc .str (aU [] σ) ++ (Lib.leBytes 8 σ.length ++ ((dD (aU [] σ) σ).map dL).flatMap (aJ 2)))))) ∧ Grow w fb fb' := by
 have hpl := aH hp
 have hblt := aF.lt hb
 have hflt : ∀ k, fk k → k < w.heap.size := fun k hk => ((bW B q).lo hR k hk).2
 have hklt : ∀ k, (Value.slice a1 σ.length c1).ownBlock = some k → k < w.heap.size := fun k hk => aK hkv hk
 have hwl := aN σ
 have hil := gQ σ []
 have hiw := jB σ []
 simp only [wts, List.length_nil, Nat.zero_add, Lib.leBytes_length] at hil hiw hl
 have hnl : (dD (aU [] σ) σ).length = σ.length := List.length_map _
 have hnl2 : ((dD (aU [] σ) σ).map dL).length = σ.length := by rw [List.length_map, hnl]
 have hsmall := nM (aU [] σ) σ (by omega)
 have k_0 : w.cell? ⟨p, 0, none⟩ = some (.slice a0 σ.length c0) := by rw [cell_of_row _ _ _ _ _ _ hp]; rfl
 have k_1 : w.cell? ⟨p, 1, none⟩ = some (jU q) := by rw [cell_of_row _ _ _ _ _ _ hp]; rfl
 have k_2 : w.cell? ⟨p, 2, none⟩ = some (.int .u8 1) := by rw [cell_of_row _ _ _ _ _ _ hp]; rfl
 have k_3 : w.cell? ⟨p, 3, none⟩ = some x3 := by rw [cell_of_row _ _ _ _ _ _ hp]; rfl
 have k_4 : w.cell? ⟨p, 4, none⟩ = some (.slice a1 σ.length c1) := by rw [cell_of_row _ _ _ _ _ _ hp]; rfl
 have k_5 : w.cell? ⟨p, 5, none⟩ = some x5 := by rw [cell_of_row _ _ _ _ _ _ hp]; rfl
 have k_6 : w.cell? ⟨p, 6, none⟩ = some x6 := by rw [cell_of_row _ _ _ _ _ _ hp]; rfl
 have k_7 : w.cell? ⟨p, 7, none⟩ = some x7 := by rw [cell_of_row _ _ _ _ _ _ hp]; rfl
 have k_8 : w.cell? ⟨p, 8, none⟩ = some x8 := by rw [cell_of_row _ _ _ _ _ _ hp]; rfl
 have hσz : ¬ (σ.length : Int) = 0 := by omega
 have hRw := fun w1 (hf1 : Fr fb w w1) => (bW B q).frame (w' := w1) hR fun k hk => hf1.block k (hflt k hk) (hd k hk)
 have hKw : ∀ w1, Fr fb w w1 → w1.ownsRow 0 199 1 (.slice a1 σ.length c1) σ.length (((dD (aU [] σ) σ).map dL).flatMap dF) := fun w1 hf1 => hf1.owns hkv hkb
 have hrow := fun w1 => lT w1 a0 σ.length c0 q (.int .u8 1) x3 (.slice a1 σ.length c1) x5 x6 x7 x8
 generalize aU [] σ = idx at hRw hKw hiw hil hl hnl hnl2 hsmall ⊢
 generalize hnums : (dD idx σ).map dL = nums at hKw hnl2 hsmall ⊢
 have hKwH := Lib.hid hKw
 have hRwH := Lib.hid @hRw
 clear hp hkv hR hnums hnl hKw hRw
 go_enter Tryz.func210, Tryz.ntmps210
 go_wp2_with (first
  | (go_at_call 215; refine (hrow w).mono ?_; rintro e w1 ⟨rfl, hf1⟩; have l_0 := hf1.aA k_0 (fun h => h); have l_1 := hf1.aA k_1 (fun h => h); have l_2 := hf1.aA k_2 (fun h => h); have l_3 := hf1.aA k_3 (fun h => h); have l_4 := hf1.aA k_4 (fun h => h); have l_5 := hf1.aA k_5 (fun h => h); have l_6 := hf1.aA k_6 (fun h => h); have l_7 := hf1.aA k_7 (fun h => h); have l_8 := hf1.aA k_8 (fun h => h); have hf01 : Fr fb w w1 := hf1.mono (fun _ _ h => h.elim); have hs1 := hf1.size; have hb1 : Buf w1 b fb bs := aF.aT hb fun q hq => hf1.block q (hblt q hq) (fun h => h); have hput2 := fO w1 b fb bs hb1 1537 (by decide) (by omega))
  | (go_at_call 218; refine hput2.mono ?_; rintro e w2 ⟨rfl, hf2, fb2, hb2, hg2⟩; have m_0 := hf2.aA l_0 hpb; have m_1 := hf2.aA l_1 hpb; have m_2 := hf2.aA l_2 hpb; have m_3 := hf2.aA l_3 hpb; have m_4 := hf2.aA l_4 hpb; have m_5 := hf2.aA l_5 hpb; have m_6 := hf2.aA l_6 hpb; have m_7 := hf2.aA l_7 hpb; have m_8 := hf2.aA l_8 hpb; have hf02 : Fr fb w w2 := hf01.trans hf2 (fun _ _ h => h); have hs2 := hf2.size; have hpb2 : ¬ fb2 p := fun h => (hg2 p h).elim hpb (fun h => by omega); have hrows3 := (bW B q).rows (hRwH.out w2 hf02))
  | ((with_reducible show wpList _ _ _ (⟨some 24, _, _, _, _, _⟩ :: _) _ _); refine aY _ rfl _ _ _ _ rfl _ _ rfl hrows3 rfl ?_; rintro e w3 ⟨rfl, hf3⟩; refine ⟨_, rfl, ?_⟩; have n_0 := hf3.aA m_0 (fun h => h); have n_1 := hf3.aA m_1 (fun h => h); have n_2 := hf3.aA m_2 (fun h => h); have n_3 := hf3.aA m_3 (fun h => h); have n_4 := hf3.aA m_4 (fun h => h); have n_5 := hf3.aA m_5 (fun h => h); have n_6 := hf3.aA m_6 (fun h => h); have n_7 := hf3.aA m_7 (fun h => h); have n_8 := hf3.aA m_8 (fun h => h); have hf03 : Fr fb w w3 := hf02.trans hf3 (fun _ _ h => h.elim); have hs3 := hf3.size; have hb3 : Buf w3 b fb2 (bs ++ Lib.leBytes 8 1537) := aF.aT hb2 fun q hq => hf3.block q (aF.lt hb2 q hq) (fun h => h); have hput4 := fO w3 b fb2 _ hb3 idx.length (by omega) (by rw [List.length_append, Lib.leBytes_length]; omega))
  | (go_at_call 218; refine hput4.mono ?_; rintro e w4 ⟨rfl, hf4, fb4, hb4, hg4⟩; have o_0 := hf4.aA n_0 hpb2; have o_1 := hf4.aA n_1 hpb2; have o_2 := hf4.aA n_2 hpb2; have o_3 := hf4.aA n_3 hpb2; have o_4 := hf4.aA n_4 hpb2; have o_5 := hf4.aA n_5 hpb2; have o_6 := hf4.aA n_6 hpb2; have o_7 := hf4.aA n_7 hpb2; have o_8 := hf4.aA n_8 hpb2; have hs4 := hf4.size; have hf04 : Fr fb w w4 := hf03.trans hf4 (fun q hq h => (hg2 q h).resolve_right (by omega)); have hgr4 : ∀ x, fb4 x → fb x ∨ w.heap.size ≤ x := fun x h => (hg4 x h).elim (fun h => (hg2 x h).imp id (fun h => by omega)) (fun h => .inr (by omega)); have hpb4 : ¬ fb4 p := fun h => (hgr4 p h).elim hpb (fun h => by omega);
      have henc5 := (bW B q).encode (hRwH.out w4 hf04) (show wts _ ≤ _ by omega) hb4 (fun x hx h => (hgr4 x h).elim (hd x hx) (fun h => by have := hflt x hx; omega)) (by rw [List.length_append, List.length_append, Lib.leBytes_length, Lib.leBytes_length]; omega))
  | ((with_reducible show wpList _ _ _ (⟨some 31, _, _, _, _, _⟩ :: _) _ _); refine aY _ rfl _ _ _ _ rfl _ _ rfl henc5 rfl ?_; rintro e w5 ⟨rfl, hf5, fb5, hb5, hg5⟩; refine ⟨_, rfl, ?_⟩; have r_0 := hf5.aA o_0 hpb4; have r_1 := hf5.aA o_1 hpb4; have r_2 := hf5.aA o_2 hpb4; have r_3 := hf5.aA o_3 hpb4; have r_4 := hf5.aA o_4 hpb4; have r_5 := hf5.aA o_5 hpb4; have r_6 := hf5.aA o_6 hpb4; have r_7 := hf5.aA o_7 hpb4; have r_8 := hf5.aA o_8 hpb4; have hs5 := hf5.size; have hf05 : Fr fb w w5 := hf04.trans hf5 (fun q hq h => (hgr4 q h).resolve_right (by omega)); have hgr5 : ∀ x, fb5 x → fb x ∨ w.heap.size ≤ x := fun x h => (hg5 x h).elim (hgr4 x) (fun h => .inr (by omega)); have hpb5 : ¬ fb5 p := fun h => (hgr5 p h).elim hpb (fun h => by omega))
  | (go_at_call 215; refine (hrow w5).mono ?_; rintro e w6 ⟨rfl, hf6⟩; have s_0 := hf6.aA r_0 (fun h => h); have s_1 := hf6.aA r_1 (fun h => h); have s_2 := hf6.aA r_2 (fun h => h); have s_3 := hf6.aA r_3 (fun h => h); have s_4 := hf6.aA r_4 (fun h => h); have s_5 := hf6.aA r_5 (fun h => h); have s_6 := hf6.aA r_6 (fun h => h); have s_7 := hf6.aA r_7 (fun h => h); have s_8 := hf6.aA r_8 (fun h => h); have hs6 := hf6.size; have hf06 : Fr fb w w6 := hf05.trans hf6 (fun _ _ h => h.elim); have hb6 := Buf.col.2 (aF.aT hb5 fun q hq => hf6.block q (aF.lt hb5 q hq) (fun h => h)); have hput7 := fO w6 b fb5 _ hb6 σ.length (by omega) (by rw [List.length_append, List.length_append, List.length_append, Lib.leBytes_length, Lib.leBytes_length]; omega))
  | (go_at_call 218; refine hput7.mono ?_; rintro e w7 ⟨rfl, hf7, fb7, hb7, hg7⟩; have t_0 := hf7.aA s_0 hpb5; have t_1 := hf7.aA s_1 hpb5; have t_2 := hf7.aA s_2 hpb5; have t_3 := hf7.aA s_3 hpb5; have t_4 := hf7.aA s_4 hpb5; have t_5 := hf7.aA s_5 hpb5; have t_6 := hf7.aA s_6 hpb5; have t_7 := hf7.aA s_7 hpb5; have t_8 := hf7.aA s_8 hpb5; have hs7 := hf7.size; have hf07 : Fr fb w w7 := hf06.trans hf7 (fun q hq h => (hgr5 q h).resolve_right (by omega)); have hgr7 : ∀ x, fb7 x → fb x ∨ w.heap.size ≤ x := fun x h => (hg7 x h).elim (hgr5 x) (fun h => .inr (by omega));
      have henc8 := xA w7 b fb7 _ hb7 a1 c1 nums (by rw [hnl2]; exact hKwH.out w7 hf07) (by rw [hnl2]; exact fun x hx h => (hgr7 x h).elim (hkb x hx) (fun h => by have := hklt x hx; omega)) hsmall (by rw [hnl2, List.length_append, List.length_append, List.length_append, List.length_append, Lib.leBytes_length, Lib.leBytes_length, Lib.leBytes_length]; omega); rw [hnl2] at henc8)
  | (go_at_call 219; refine henc8.mono ?_; rintro e w8 ⟨rfl, hf8, fb8, hb8, hg8⟩))
 go_end0
 refine ⟨rfl, hf07.trans hf8 (fun q hq h => (hgr7 q h).resolve_right (by omega)), fb8, by simpa [List.append_assoc] using hb8, fun x h => (hg8 x h).elim (hgr7 x) (fun h => .inr (by omega))⟩
theorem uZ (B q p : Nat) (w : World) (fk : Nat → Prop) (σ : List Cell) (a0 : Option Addr) (c0 : Nat) (a1 : Option Addr) (c1 : Nat) (x3 x4 x6 x7 x8 : Value) (hp : w.heap[p]? = some (.cells #[.slice a0 σ.length c0, jU q, .int .u8 2, x3, x4, .slice a1 σ.length c1, x6, x7, x8] 142 (0, 0)))
 (hR : kM B q w fk (aU [] σ)) (hkv : w.ownsRow 0 209 1 (.slice a1 σ.length c1) σ.length (((dD (aU [] σ) σ).map dL).flatMap dG)) (b : Nat) (fb : Nat → Prop) (bs : List UInt8) (hb : Buf w b fb bs) (hpb : ¬ fb p) (hd : ∀ k, fk k → ¬ fb k) (hkb : ∀ k, (Value.slice a1 σ.length c1).ownBlock = some k → ¬ fb k)
 (hσ : σ.length ≠ 0) (hw : wts σ ≤ 2147483648) (hl : bs.length + ((Lib.leBytes 8 1538).length + ((Lib.leBytes 8 (aU [] σ).length).length + ((enc .str (aU [] σ)).length + ((Lib.leBytes 8 σ.length).length + 4 * σ.length)))) ≤ 1099511627776) :
 Calls Tryz.prog 210 #[.pointer (some ⟨p, 0, none⟩), .pointer (some ⟨b, 0, none⟩)] w fun e w' => e = .returned (.tuple #[]) ∧ Fr fb w w' ∧ ∃ fb', Buf w' b fb' (bs ++ (Lib.leBytes 8 1538 ++ (Lib.leBytes 8 (aU [] σ).length ++ (enc .str (aU [] σ) ++ (Lib.leBytes 8 σ.length ++ ((dD (aU [] σ) σ).map dL).flatMap (aJ 4)))))) ∧ Grow w fb fb' := by
 have hpl := aH hp
 have hblt := aF.lt hb
 have hflt : ∀ k, fk k → k < w.heap.size := fun k hk => ((bW B q).lo hR k hk).2
 have hklt : ∀ k, (Value.slice a1 σ.length c1).ownBlock = some k → k < w.heap.size := fun k hk => aK hkv hk
 have hwl := aN σ
 have hil := gQ σ []
 have hiw := jB σ []
 simp only [wts, List.length_nil, Nat.zero_add, Lib.leBytes_length] at hil hiw hl
 have hnl : (dD (aU [] σ) σ).length = σ.length := List.length_map _
 have hnl2 : ((dD (aU [] σ) σ).map dL).length = σ.length := by rw [List.length_map, hnl]
 have hsmall := nM (aU [] σ) σ (by omega)
 have k_0 : w.cell? ⟨p, 0, none⟩ = some (.slice a0 σ.length c0) := by rw [cell_of_row _ _ _ _ _ _ hp]; rfl
 have k_1 : w.cell? ⟨p, 1, none⟩ = some (jU q) := by rw [cell_of_row _ _ _ _ _ _ hp]; rfl
 have k_2 : w.cell? ⟨p, 2, none⟩ = some (.int .u8 2) := by rw [cell_of_row _ _ _ _ _ _ hp]; rfl
 have k_3 : w.cell? ⟨p, 3, none⟩ = some x3 := by rw [cell_of_row _ _ _ _ _ _ hp]; rfl
 have k_4 : w.cell? ⟨p, 4, none⟩ = some x4 := by rw [cell_of_row _ _ _ _ _ _ hp]; rfl
 have k_5 : w.cell? ⟨p, 5, none⟩ = some (.slice a1 σ.length c1) := by rw [cell_of_row _ _ _ _ _ _ hp]; rfl
 have k_6 : w.cell? ⟨p, 6, none⟩ = some x6 := by rw [cell_of_row _ _ _ _ _ _ hp]; rfl
 have k_7 : w.cell? ⟨p, 7, none⟩ = some x7 := by rw [cell_of_row _ _ _ _ _ _ hp]; rfl
 have k_8 : w.cell? ⟨p, 8, none⟩ = some x8 := by rw [cell_of_row _ _ _ _ _ _ hp]; rfl
 have hσz : ¬ (σ.length : Int) = 0 := by omega
 have hRw := fun w1 (hf1 : Fr fb w w1) => (bW B q).frame (w' := w1) hR fun k hk => hf1.block k (hflt k hk) (hd k hk)
 have hKw : ∀ w1, Fr fb w w1 → w1.ownsRow 0 209 1 (.slice a1 σ.length c1) σ.length (((dD (aU [] σ) σ).map dL).flatMap dG) := fun w1 hf1 => hf1.owns hkv hkb
 have hrow := fun w1 => lT w1 a0 σ.length c0 q (.int .u8 2) x3 x4 (.slice a1 σ.length c1) x6 x7 x8
 generalize aU [] σ = idx at hRw hKw hiw hil hl hnl hnl2 hsmall ⊢
 generalize hnums : (dD idx σ).map dL = nums at hKw hnl2 hsmall ⊢
 have hKwH := Lib.hid hKw
 have hRwH := Lib.hid @hRw
 clear hp hkv hR hnums hnl hKw hRw
 go_enter Tryz.func210, Tryz.ntmps210
 go_wp2_with (first
  | (go_at_call 215; refine (hrow w).mono ?_; rintro e w1 ⟨rfl, hf1⟩; have l_0 := hf1.aA k_0 (fun h => h); have l_1 := hf1.aA k_1 (fun h => h); have l_2 := hf1.aA k_2 (fun h => h); have l_3 := hf1.aA k_3 (fun h => h); have l_4 := hf1.aA k_4 (fun h => h); have l_5 := hf1.aA k_5 (fun h => h); have l_6 := hf1.aA k_6 (fun h => h); have l_7 := hf1.aA k_7 (fun h => h); have l_8 := hf1.aA k_8 (fun h => h); have hf01 : Fr fb w w1 := hf1.mono (fun _ _ h => h.elim); have hs1 := hf1.size; have hb1 : Buf w1 b fb bs := aF.aT hb fun q hq => hf1.block q (hblt q hq) (fun h => h); have hput2 := fO w1 b fb bs hb1 1538 (by decide) (by omega))
  | (go_at_call 218; refine hput2.mono ?_; rintro e w2 ⟨rfl, hf2, fb2, hb2, hg2⟩; have m_0 := hf2.aA l_0 hpb; have m_1 := hf2.aA l_1 hpb; have m_2 := hf2.aA l_2 hpb; have m_3 := hf2.aA l_3 hpb; have m_4 := hf2.aA l_4 hpb; have m_5 := hf2.aA l_5 hpb; have m_6 := hf2.aA l_6 hpb; have m_7 := hf2.aA l_7 hpb; have m_8 := hf2.aA l_8 hpb; have hf02 : Fr fb w w2 := hf01.trans hf2 (fun _ _ h => h); have hs2 := hf2.size; have hpb2 : ¬ fb2 p := fun h => (hg2 p h).elim hpb (fun h => by omega); have hrows3 := (bW B q).rows (hRwH.out w2 hf02))
  | ((with_reducible show wpList _ _ _ (⟨some 24, _, _, _, _, _⟩ :: _) _ _); refine aY _ rfl _ _ _ _ rfl _ _ rfl hrows3 rfl ?_; rintro e w3 ⟨rfl, hf3⟩; refine ⟨_, rfl, ?_⟩; have n_0 := hf3.aA m_0 (fun h => h); have n_1 := hf3.aA m_1 (fun h => h); have n_2 := hf3.aA m_2 (fun h => h); have n_3 := hf3.aA m_3 (fun h => h); have n_4 := hf3.aA m_4 (fun h => h); have n_5 := hf3.aA m_5 (fun h => h); have n_6 := hf3.aA m_6 (fun h => h); have n_7 := hf3.aA m_7 (fun h => h); have n_8 := hf3.aA m_8 (fun h => h); have hf03 : Fr fb w w3 := hf02.trans hf3 (fun _ _ h => h.elim); have hs3 := hf3.size; have hb3 : Buf w3 b fb2 (bs ++ Lib.leBytes 8 1538) := aF.aT hb2 fun q hq => hf3.block q (aF.lt hb2 q hq) (fun h => h); have hput4 := fO w3 b fb2 _ hb3 idx.length (by omega) (by rw [List.length_append, Lib.leBytes_length]; omega))
  | (go_at_call 218; refine hput4.mono ?_; rintro e w4 ⟨rfl, hf4, fb4, hb4, hg4⟩; have o_0 := hf4.aA n_0 hpb2; have o_1 := hf4.aA n_1 hpb2; have o_2 := hf4.aA n_2 hpb2; have o_3 := hf4.aA n_3 hpb2; have o_4 := hf4.aA n_4 hpb2; have o_5 := hf4.aA n_5 hpb2; have o_6 := hf4.aA n_6 hpb2; have o_7 := hf4.aA n_7 hpb2; have o_8 := hf4.aA n_8 hpb2; have hs4 := hf4.size; have hf04 : Fr fb w w4 := hf03.trans hf4 (fun q hq h => (hg2 q h).resolve_right (by omega)); have hgr4 : ∀ x, fb4 x → fb x ∨ w.heap.size ≤ x := fun x h => (hg4 x h).elim (fun h => (hg2 x h).imp id (fun h => by omega)) (fun h => .inr (by omega)); have hpb4 : ¬ fb4 p := fun h => (hgr4 p h).elim hpb (fun h => by omega);
      have henc5 := (bW B q).encode (hRwH.out w4 hf04) (show wts _ ≤ _ by omega) hb4 (fun x hx h => (hgr4 x h).elim (hd x hx) (fun h => by have := hflt x hx; omega)) (by rw [List.length_append, List.length_append, Lib.leBytes_length, Lib.leBytes_length]; omega))
  | ((with_reducible show wpList _ _ _ (⟨some 31, _, _, _, _, _⟩ :: _) _ _); refine aY _ rfl _ _ _ _ rfl _ _ rfl henc5 rfl ?_; rintro e w5 ⟨rfl, hf5, fb5, hb5, hg5⟩; refine ⟨_, rfl, ?_⟩; have r_0 := hf5.aA o_0 hpb4; have r_1 := hf5.aA o_1 hpb4; have r_2 := hf5.aA o_2 hpb4; have r_3 := hf5.aA o_3 hpb4; have r_4 := hf5.aA o_4 hpb4; have r_5 := hf5.aA o_5 hpb4; have r_6 := hf5.aA o_6 hpb4; have r_7 := hf5.aA o_7 hpb4; have r_8 := hf5.aA o_8 hpb4; have hs5 := hf5.size; have hf05 : Fr fb w w5 := hf04.trans hf5 (fun q hq h => (hgr4 q h).resolve_right (by omega)); have hgr5 : ∀ x, fb5 x → fb x ∨ w.heap.size ≤ x := fun x h => (hg5 x h).elim (hgr4 x) (fun h => .inr (by omega)); have hpb5 : ¬ fb5 p := fun h => (hgr5 p h).elim hpb (fun h => by omega))
  | (go_at_call 215; refine (hrow w5).mono ?_; rintro e w6 ⟨rfl, hf6⟩; have s_0 := hf6.aA r_0 (fun h => h); have s_1 := hf6.aA r_1 (fun h => h); have s_2 := hf6.aA r_2 (fun h => h); have s_3 := hf6.aA r_3 (fun h => h); have s_4 := hf6.aA r_4 (fun h => h); have s_5 := hf6.aA r_5 (fun h => h); have s_6 := hf6.aA r_6 (fun h => h); have s_7 := hf6.aA r_7 (fun h => h); have s_8 := hf6.aA r_8 (fun h => h); have hs6 := hf6.size; have hf06 : Fr fb w w6 := hf05.trans hf6 (fun _ _ h => h.elim); have hb6 := Buf.col.2 (aF.aT hb5 fun q hq => hf6.block q (aF.lt hb5 q hq) (fun h => h)); have hput7 := fO w6 b fb5 _ hb6 σ.length (by omega) (by rw [List.length_append, List.length_append, List.length_append, Lib.leBytes_length, Lib.leBytes_length]; omega))
  | (go_at_call 218; refine hput7.mono ?_; rintro e w7 ⟨rfl, hf7, fb7, hb7, hg7⟩; have t_0 := hf7.aA s_0 hpb5; have t_1 := hf7.aA s_1 hpb5; have t_2 := hf7.aA s_2 hpb5; have t_3 := hf7.aA s_3 hpb5; have t_4 := hf7.aA s_4 hpb5; have t_5 := hf7.aA s_5 hpb5; have t_6 := hf7.aA s_6 hpb5; have t_7 := hf7.aA s_7 hpb5; have t_8 := hf7.aA s_8 hpb5; have hs7 := hf7.size; have hf07 : Fr fb w w7 := hf06.trans hf7 (fun q hq h => (hgr5 q h).resolve_right (by omega)); have hgr7 : ∀ x, fb7 x → fb x ∨ w.heap.size ≤ x := fun x h => (hg7 x h).elim (hgr5 x) (fun h => .inr (by omega));
      have henc8 := vN w7 b fb7 _ hb7 a1 c1 nums (by rw [hnl2]; exact hKwH.out w7 hf07) (by rw [hnl2]; exact fun x hx h => (hgr7 x h).elim (hkb x hx) (fun h => by have := hklt x hx; omega)) hsmall (by rw [hnl2, List.length_append, List.length_append, List.length_append, List.length_append, Lib.leBytes_length, Lib.leBytes_length, Lib.leBytes_length]; omega); rw [hnl2] at henc8)
  | (go_at_call 220; refine henc8.mono ?_; rintro e w8 ⟨rfl, hf8, fb8, hb8, hg8⟩))
 go_end0
 refine ⟨rfl, hf07.trans hf8 (fun q hq h => (hgr7 q h).resolve_right (by omega)), fb8, by simpa [List.append_assoc] using hb8, fun x h => (hg8 x h).elim (hgr7 x) (fun h => .inr (by omega))⟩
theorem aJF (σ : List Cell) (h : σ ≠ []) : enc .low σ = Lib.leBytes 8 (1536 + gV (aU [] σ).length) ++ (Lib.leBytes 8 (aU [] σ).length ++ (enc .str (aU [] σ) ++ (Lib.leBytes 8 σ.length ++ σ.flatMap fun c => Lib.leBytes (lowWide (aU [] σ).length) ((aU [] σ).findIdx (fA c))))) := by
 rw [enc, enc]
 unfold nN
 rw [if_neg h]
theorem aDf (B q p : Nat) (w : World) (fp : Nat → Prop) (σ : List Cell) (h : vV B q p w fp σ) (b : Nat) (fb : Nat → Prop) (bs : List UInt8) (hb : Buf w b fb bs) (hd : ∀ k, fp k → ¬ fb k) (hl : bs.length + (enc .low σ).length ≤ 1099511627776) :
 Calls Tryz.prog 210 #[.pointer (some ⟨p, 0, none⟩), .pointer (some ⟨b, 0, none⟩)] w fun e w' => e = .returned (.tuple #[]) ∧ Fr fb w w' ∧ ∃ fb', Buf w' b fb' (bs ++ enc .low σ) ∧ Grow w fb fb' := by
 by_cases hσ : σ = []
 · subst hσ
   exact aBJ B q p w fp h b fb bs hb
 · have hσl : σ.length ≠ 0 := fun h => hσ (List.eq_nil_of_length_eq_zero h)
   obtain ⟨v, fk, kv, x3, x4, x5, x6, x7, x8, hp, hown, hR, hkeys, n1, n2, n3, n4, n5, hfp, hB, hw⟩ := h
   obtain ⟨a0, c0, rfl⟩ := ownsRow_shape hown
   have hnl : (dD (aU [] σ) σ).length = σ.length := List.length_map _
   rw [aJF σ hσ] at hl ⊢
   simp only [List.length_append, yG] at hl
   have hpb : ¬ fb p := hd p ((hfp p).2 (.inl rfl))
   have hdk : ∀ k, fk k → ¬ fb k := fun k hk => hd k ((hfp k).2 (.inr (.inr (.inr hk))))
   have hkb : ∀ k, kv.ownBlock = some k → ¬ fb k := fun k hk => hd k ((hfp k).2 (.inr (.inr (.inl hk))))
   rcases hkeys with ⟨hN, rfl, hk⟩ | ⟨hN, hN2, rfl, hk⟩ | ⟨hN, rfl, hk⟩
   · have e1 : gV (aU [] σ).length = 0 := if_pos hN
     have e2 : lowWide (aU [] σ).length = 1 := if_pos hN
     rw [hnl] at hk
     obtain ⟨a1, c1, rfl⟩ := ownsRow_shape hk
     rw [e1] at hp hl ⊢
     rw [e2, ← nD 1 (by decide)]
     rw [e2] at hl
     exact yN B q p w fk σ a0 c0 a1 c1 _ _ _ _ _ hp hR hk b fb bs hb hpb hdk hkb hσl hw hl
   · have e1 : gV (aU [] σ).length = 1 := by unfold gV; rw [if_neg (by omega), if_pos hN2]
     have e2 : lowWide (aU [] σ).length = 2 := by unfold lowWide; rw [if_neg (by omega), if_pos hN2]
     rw [hnl] at hk
     obtain ⟨a1, c1, rfl⟩ := ownsRow_shape hk
     rw [e1] at hp hl ⊢
     rw [e2, ← nD 2 (by decide)]
     rw [e2] at hl
     exact wY B q p w fk σ a0 c0 a1 c1 _ _ _ _ _ hp hR hk b fb bs hb hpb hdk hkb hσl hw hl
   · have e1 : gV (aU [] σ).length = 2 := by unfold gV; rw [if_neg (by omega), if_neg (by omega)]
     have e2 : lowWide (aU [] σ).length = 4 := by unfold lowWide; rw [if_neg (by omega), if_neg (by omega)]
     rw [hnl] at hk
     obtain ⟨a1, c1, rfl⟩ := ownsRow_shape hk
     rw [e1] at hp hl ⊢
     rw [e2, ← nD 4 (by decide)]
     rw [e2] at hl
     exact uZ B q p w fk σ a0 c0 a1 c1 _ _ _ _ _ hp hR hk b fb bs hb hpb hdk hkb hσl hw hl
theorem sJ (p : Nat) (w : World) (name : String) (f : FuncId) (h : (name, f) = ("Append", 242) ∨ (name, f) = ("AppendArr", 243)) :
 (method (Tryz.prog.types.size + Made.depth) 88 (.agg #[.pointer (some ⟨p, 0, none⟩)]) name).run Tryz.prog w = .ok (f, .agg #[.pointer (some ⟨p, 0, none⟩)]) w := by
 rcases h with h | h <;> (simp only [Prod.mk.injEq] at h; obtain ⟨rfl, rfl⟩ := h; kernel_rfl)
theorem sO (p : Nat) (w : World) (cs : Array Value) (x0 x1 x2 x3 x4 x5 x6 x7 x8 : Value) (hp : w.heap[p]? = some (.cells #[x0, x1, x2, x3, x4, x5, x6, x7, x8] 142 (0, 0))) (name : String) (f : FuncId)
 (h : (name, f) = ("Rows", 215) ∨ (name, f) = ("EncodeState", 211)) (hcs : cs = #[x0, x1, x2, x3, x4, x5, x6, x7, x8]) :
 (method (Tryz.prog.types.size + Made.depth) 88 (.agg #[.pointer (some ⟨p, 0, none⟩)]) name).run Tryz.prog w = .ok (f, .agg cs) w := by
 subst hcs
 obtain ⟨n, hn⟩ := fuel
 rw [hn]
 have hc : ∀ j, w.cell? ((⟨p, 0, none⟩ : Addr).add j) = #[x0, x1, x2, x3, x4, x5, x6, x7, x8][j]? := fun j => by rw [Addr.add_lit, Nat.zero_add, cell_of_row _ _ _ _ _ _ hp]
 have hc0 : w.cell? ⟨p, 0, none⟩ = some x0 := by rw [cell_of_row _ _ _ _ _ _ hp]; rfl
 have hr := jF (P := Tryz.prog) Tryz.underlying81 (aJi hc0 (hc 1) (hc 2) (hc 3) (hc 4) (hc 5) (hc 6) (hc 7) (hc 8))
 rcases h with h | h <;> (simp only [Prod.mk.injEq] at h; obtain ⟨rfl, rfl⟩ := h; exact iC (n := n + 1) false Tryz.underlying88 rfl rfl (fun _ => by kernel_rfl) (by kernel_rfl) rfl hr)
theorem sS (p : Nat) (w : World) (name : String) (f : FuncId) (h : (name, f) = ("Prepare", 212) ∨ (name, f) = ("EncodeColumn", 210)) :
 (method (Tryz.prog.types.size + Made.depth) 88 (.agg #[.pointer (some ⟨p, 0, none⟩)]) name).run Tryz.prog w = .ok (f, .pointer (some ⟨p, 0, none⟩)) w := by
 obtain ⟨n, hn⟩ := fuel
 rw [hn]
 rcases h with h | h <;> (simp only [Prod.mk.injEq] at h; obtain ⟨rfl, rfl⟩ := h; exact iC (n := n + 1) true Tryz.underlying88 rfl rfl (fun _ => by kernel_rfl) (by kernel_rfl) rfl (kN Tryz.underlying81))
theorem vV.lt {B q p : Nat} {w : World} {fp : Nat → Prop} {σ : List Cell} (h : vV B q p w fp σ) : ∀ k, fp k → B ≤ k ∧ k < w.heap.size := by
 obtain ⟨v, fk, kv, x3, x4, x5, x6, x7, x8, hp, hown, hR, hkeys, n1, n2, n3, n4, n5, hfp, hB, hw⟩ := h
 intro k hk
 refine ⟨hB k hk, ?_⟩
 rcases (hfp k).1 hk with rfl | hk | hk | hk
 · exact aH hp
 · exact aK hown hk
 · rcases hkeys with ⟨_, _, h⟩ | ⟨_, _, _, h⟩ | ⟨_, _, h⟩ <;> exact aK h hk
 · exact ((bW B q).lo hR k hk).2
theorem vV.aT {B q p : Nat} {w w' : World} {fp : Nat → Prop} {σ : List Cell} (h : vV B q p w fp σ) (hk : ∀ k, fp k → w'.heap[k]? = w.heap[k]?) : vV B q p w' fp σ := by
 obtain ⟨v, fk, kv, x3, x4, x5, x6, x7, x8, hp, hown, hR, hkeys, n1, n2, n3, n4, n5, hfp, hB, hw⟩ := h
 have ow : ∀ {e : TypeId} {size : Nat} {v : Value} {n : Nat} {xs : List Value}, w.ownsRow 0 e size v n xs → (∀ k, v.ownBlock = some k → fp k) → w'.ownsRow 0 e size v n xs := by
  intro e size v n xs ho hv
  refine ⟨ho.1, ?_⟩
  rcases ho.2 with h0 | ⟨g, cap, cur, rfl, hb, hgg, rest⟩
  · exact .inl h0
  · exact .inr ⟨g, cap, cur, rfl, hb, (hk g (hv g rfl)).trans hgg, rest⟩
 have hkv : ∀ k, kv.ownBlock = some k → fp k := fun k h => (hfp k).2 (.inr (.inr (.inl h)))
 refine ⟨v, fk, kv, x3, x4, x5, x6, x7, x8, (hk p ((hfp p).2 (.inl rfl))).trans hp, ow hown (fun k h => (hfp k).2 (.inr (.inl h))), (bW B q).frame hR (fun k h => hk k ((hfp k).2 (.inr (.inr (.inr h))))), ?_, n1, n2, n3, n4, n5, hfp, hB, hw⟩
 rcases hkeys with ⟨h1, h2, h⟩ | ⟨h1, h2, h3, h⟩ | ⟨h1, h2, h⟩
 · exact .inl ⟨h1, h2, ow h hkv⟩
 · exact .inr (.inl ⟨h1, h2, h3, ow h hkv⟩)
 · exact .inr (.inr ⟨h1, h2, ow h hkv⟩)
theorem aEw (B q p : Nat) : bI Tryz.prog B 88 (.agg #[.pointer (some ⟨p, 0, none⟩)]) .low [1, 0, 0, 0, 0, 0, 0, 0] (iG B q p) (vV B q p) where
 lo := fun h => h.lt
 lo' := fun h => h.lt
 frame := fun h hk => h.aT hk
 frame' := fun h hk => h.aT hk
 append := by
  intro w fp σ c vs h hvs hw
  have hc := hvs.small
  obtain ⟨ia, il, ic, ka, kl, kc, rfl, -⟩ := hvs.open
  exact aI.of1 (sJ p w _ _ (.inl rfl)) Tryz.call242 (aBq B q p w fp σ h c ia il ic ka kl kc hc hw)
 appendArr := by
  intro w fp σ cs v xs h hs hcs hw
  exact aI.of1 (sJ p w _ _ (.inr rfl)) Tryz.call243 (uO B q p w fp σ h cs v xs hs hcs hw)
 rows := by
  intro w fp σ h
  obtain ⟨v, fk, hp, hown, _⟩ := h
  obtain ⟨a, c, rfl⟩ := ownsRow_shape hown
  exact aI.of0 (sO p w _ _ _ _ _ _ _ _ _ _ hp _ _ (.inl rfl) rfl) Tryz.call215 (lT w a _ c q _ _ _ _ _ _ _)
 flat := by rintro w name (rfl | rfl | rfl) n m <;> exact jQ (by kernel_rfl) (n + 1) (m + 1)
 ahead := fun w => by kernel_rfl
 prepare := ⟨true, fun x w => run_typeAssert_hasB Tryz.underlying102 (by kernel_rfl) _ x w, fun {w fp σ} h => by
  simp only [if_true]
  exact aI.of0 (sS p w _ _ (.inl rfl)) Tryz.call212 (aCE B q p w fp σ h)⟩
 state := ⟨true, fun x w => run_typeAssert_hasB Tryz.underlying172 (by kernel_rfl) _ x w, by
  simp only [if_true]
  intro w fp σ b fb bs h hb hd hl
  obtain ⟨v, fk, kv, x3, x4, x5, x6, x7, x8, hp, hown, hR, hkeys, n1, n2, n3, n4, n5, hfp, hB, hw⟩ := h
  exact aI.of1 (sO p w _ _ _ _ _ _ _ _ _ _ hp _ _ (.inr rfl) rfl) Tryz.call211 (aGv B q w fk _ hR _ _ _ _ _ _ _ _ b fb bs hb (fun k hk => hd k ((hfp k).2 (.inr (.inr (.inr hk))))) hl)⟩
 encode := by
  intro w fp σ b fb bs h hw hb hd hl
  exact aI.of1 (sS p w _ _ (.inr rfl)) Tryz.call210 (aDf B q p w fp σ h b fb bs hb hd hl)
end Go.Proofs.YtcidlnjpabgioaaGreatDoor
namespace Go.Proofs.YtcidlnjpabgioaaGreatDoor
open Go.RowKit
def aFj (w : World) (e : Ending) (w' : World) : Prop :=
 ∃ q, e = .returned (.iface 154 (aEv q)) ∧ kM w.heap.size q w' (fun k => k = q) [] ∧ Below w.heap.size w w'
theorem vX (w : World) (nm : ByteArray) (hl : nm.toList = [83, 116, 114, 105, 110, 103]) : Calls Tryz.prog 36 #[.string nm, .slice none 0 0] w (aFj w) := by
 go_enter Tryz.func36, Tryz.ntmps36
 go_wp2
 go_ret
 refine ⟨w.heap.size, rfl, ⟨⟨.slice none 0 0, .slice none 0 0, heap_alloc_new w _, World.ownsRow_nil _ _ _ _, World.ownsRow_nil _ _ _ _, by simp [Value.ownBlock], by simp [Value.ownBlock], by simp [Value.ownBlock], fun k => by simp [Value.ownBlock]⟩, fun k hk => by omega, by simp⟩, (Below.refl _ w).alloc (Nat.le_refl _) _⟩
theorem yM (w : World) : Calls Tryz.prog 23 #[.string (aV [83, 116, 114, 105, 110, 103])] w (aFj w) := by
 have hpa := qC w (aV [83, 116, 114, 105, 110, 103]) (by rw [kU]; exact index_none _ (by unfold fM; decide))
 have hp := vX w (aV [83, 116, 114, 105, 110, 103]) (bY _)
 have hl := bY [83, 116, 114, 105, 110, 103]
 generalize aV [83, 116, 114, 105, 110, 103] = nm at hpa hl hp
 go_enter Tryz.func23, Tryz.ntmps23
 go_wp2_with (go_at_call 31; refine hpa.mono ?_; rintro e w1 ⟨rfl, rfl⟩)
 go_loop [21] (fun i => i = .int .i64 0) (fun _ => 0)
 case atStart => exact rfl
 case round =>
  subst hrel
  go_wp2_with (go_at_call 36; refine hp.mono ?_; rintro e w2 ⟨q, rfl, hts⟩)
  go_ret
  exact ⟨q, rfl, hts⟩
theorem aEY (t : TypeId) (u : Value) (w : World) : Calls Tryz.prog 34 #[.iface t u] w fun e w' => e = .returned (.pointer (some ⟨w.heap.size, 0, none⟩)) ∧ w' = w.alloc (.cells #[.slice none 0 0, .iface t u, .int .u8 0, .slice none 0 0, .slice none 0 0, .slice none 0 0, .slice none 0 0, .map none, .slice none 0 0] 142) := by
 go_enter Tryz.func34, Tryz.ntmps34
 go_wp2
 go_ret
 exact ⟨rfl, rfl⟩
theorem aIw : fV .low := by
 intro w htab
 have hpa : Calls Tryz.prog 31 #[.string (aV (text .low))] w (lJ [76, 111, 119, 67, 97, 114, 100, 105, 110, 97, 108, 105, 116, 121] [[83, 116, 114, 105, 110, 103]] w) := by
  rw [text]
  exact iP w htab [76, 111, 119, 67, 97, 114, 100, 105, 110, 97, 108, 105, 116, 121] [83, 116, 114, 105, 110, 103] [[83, 116, 114, 105, 110, 103]] (by unfold fM; decide) (by simp) (by decide) (kX (gY (by unfold fM; decide) (by simp)))
 generalize aV (text .low) = txt at hpa
 go_enter Tryz.func23, Tryz.ntmps23
 go_wp2_with (go_at_call 31; refine hpa.mono ?_; rintro e w1 ⟨nm, v, rfl, hl, ⟨hown, hsince⟩, hb⟩; obtain ⟨av, cv, rfl⟩ := ownsRow_shape hown)
 simp only [List.length_singleton] at hown hsince ⊢
 go_loopw [5, 21] (fun l i wr => Below w1.heap.size w1 wr ∧ (i = .int .i64 0 ∧ l = .slice none 0 0 ∨ i = .int .i64 1 ∧ ∃ q, wr.ownsRow 0 59 1 l 1 [.iface 154 (aEv q)] ∧ kM w1.heap.size q wr (fun k => k = q) [])) (fun _ i _ => 1 - (intOf i).toNat)
 case atStart => exact ⟨Below.refl _ _, .inl ⟨rfl, rfl⟩⟩
 case round =>
  obtain ⟨hbr, hcase⟩ := hrel
  have hw1 := hbr.size
  rcases hcase with ⟨rfl, rfl⟩ | ⟨rfl, q, hownl, hq⟩
  · have hownr := (Below.fr hbr).owns hown (fun _ _ h => h)
    rcases hownr.2 with ⟨hv, h0⟩ | ⟨ga, capa, cura, hv, _, _, hnc, hcm, _⟩
    · simp at h0
    · simp only [Value.slice.injEq] at hv
      obtain ⟨rfl, _, rfl⟩ := hv
      have hcell := hownr.cells (g := ga) rfl 0 (.string (aV [83, 116, 114, 105, 110, 103])) rfl
      simp only [Addr.add_lit, Nat.add_zero] at hcell
      have hcall := yM wr
      unfold maxLen at hcm
      clear hownr hsince hown
      generalize aV [83, 116, 114, 105, 110, 103] = sn at hcell hcall
      go_wp2_with (first
       | (go_at_call 23; refine hcall.mono ?_; rintro e w2 ⟨q, rfl, hR, hb2⟩)
       | ((with_reducible show wpList _ _ _ (⟨some 32, _, _, _, _, _⟩ :: _) _ _); refine aP _ rfl qN _ _ rfl _ _ _ rfl (World.ownsRow_nil _ _ _ _) _ _ _ rfl (Src.ofSlice _ Tryz.underlying72 _ _ _ _ rfl (aW _ [.iface 154 (aEv q)] _) (by simp [Value.oneCell'])) ?_ ?_ ?_; (unfold maxLen; omega); omega; intro v' w3 ha; obtain ⟨a', c', rfl⟩ := ha.shape))
      go_roundw
      case rel =>
       have hs2 := hb2.size
       have hgr : Below w1.heap.size w1 w3 := hbr.trans ((((Below.fr hb2).alloc _).mono (S' := fun q => w1.heap.size ≤ q) (fun _ _ h => h.elim)).grown ha.2.1 (fun q hq => by cases hq) |>.below hw1 (fun q hq h => by omega))
       refine ⟨hgr, .inr ⟨rfl, q, ha.1, ?_⟩⟩
       have hsp := (kS wr.heap.size q)
       have hlt := (hsp.lo hR q rfl)
       refine (kS w1.heap.size q).frame (w := w2) ⟨hR.1, fun k hk => by have := hR.2.1 k hk; omega, hR.2.2⟩ fun k hk => ?_
       subst hk
       exact (ha.2.1.block k (by simp; omega) (fun h => by cases h)).trans (Below.heap_alloc _ _ _ hlt.2)
      case measure => simp [intOf]
  · rcases hownl.2 with ⟨hv, h0⟩ | ⟨ga, capa, cura, hv, _, _, hnc, hcm, _⟩
    · omega
    · subst hv
      have hcell := hownl.cells (g := ga) rfl 0 (.iface 154 (aEv q)) rfl
      simp only [Addr.add_lit, Nat.add_zero] at hcell
      have hlt := (kS w1.heap.size q).lo hq q rfl
      unfold maxLen at hcm
      clear hownl hown hsince
      go_wp2_with (go_at_call 34; refine (aEY _ _ wr).mono ?_; rintro e w2 ⟨rfl, rfl⟩)
      go_ret
      have hs1 := hb.size
      have hqA := (kS w1.heap.size q).frame hq (w' := wr.alloc (.cells #[.slice none 0 0, jU q, .int .u8 0, .slice none 0 0, .slice none 0 0, .slice none 0 0, .slice none 0 0, .map none, .slice none 0 0] 142)) fun k hk => by subst hk; exact Below.heap_alloc _ _ _ hlt.2
      refine ⟨_, _, iG w.heap.size q wr.heap.size, vV w.heap.size q wr.heap.size, fun x => x = wr.heap.size ∨ x = q, rfl, by rw [st]; exact aEw w.heap.size q wr.heap.size, ⟨.slice none 0 0, fun k => k = q, heap_alloc_new wr _, World.ownsRow_nil _ _ _ _, ⟨hqA.1, fun k hk => by have := hqA.2.1 k hk; omega, hqA.2.2⟩, by simp [Value.ownBlock], fun h => by have := hlt.2; omega, by simp [Value.ownBlock], fun x => by simp [Value.ownBlock], ?_, by simp, by simp [wts]⟩, ?_⟩
      · rintro x (rfl | rfl)
        · omega
        · omega
      · exact (hb.trans (hbr.mono hs1)).alloc (by omega) _
end Go.Proofs.YtcidlnjpabgioaaGreatDoor
