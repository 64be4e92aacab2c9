import Derived.Test.YtcidlnjpabgioaaGreatDoorWGEnc
import Derived.Deep.RegionLaw
set_option maxHeartbeats 1000000
set_option maxRecDepth 100000
namespace Go.Proofs.YtcidlnjpabgioaaGreatDoor
open Go.RowKit
theorem aJf : ElT Tryz.prog 128 5 (.int .u8 0) 1 1 := ⟨Tryz.underlying128, info_parts (by kernel_rfl), rfl⟩
theorem aIG : ElT Tryz.prog 22 5 (.int .u8 0) 1 1 := ⟨Tryz.underlying22, info_parts (by kernel_rfl), rfl⟩
theorem aGe (w : World) (p : Nat) (n : Nat) (xs : List Value) (fp : Nat → Prop) (hc : aF w p 128 5 1 n xs fp) (hn : n < 2147483648) (x : Int) :
 Calls Tryz.prog 194 #[.pointer (some ⟨p, 0, none⟩), .int .u8 x] w fun e w' => e = .returned (.tuple #[]) ∧ (∃ fp', aF w' p 128 5 1 (n + 1) (xs ++ [.int .u8 x]) fp' ∧ Grow w fp fp') ∧ Fr fp w w' := by
 obtain ⟨v, hp, hown, hne, hfp⟩ := hc
 obtain ⟨hcell, hfz⟩ := aF.cell hp
 obtain ⟨a0, c0, rfl⟩ := ownsRow_shape hown
 have hpl := aH hp
 have hsrc : Src Tryz.prog 1 128 (.slice (some ⟨w.heap.size, 0, none⟩) 1 1) 1 [.int .u8 x] (w.alloc (.cells [.int .u8 x].toArray 5)) :=
  Src.ofSlice _ Tryz.underlying128 _ _ _ _ rfl (aW _ _ _) (by simp [Value.oneCell'])
 go_enter Tryz.func194, Tryz.ntmps194
 go_wp2_with ((with_reducible show wpList _ _ _ (⟨some 10, _, _, _, _, _⟩ :: _) _ _); (refine aP _ rfl aJf _ _ rfl _ _ _ rfl (hown.alloc _) _ _ _ rfl hsrc ?_ ?_ ?_); (unfold maxLen; omega); omega; intro v' w1 ha; obtain ⟨a', c', rfl⟩ := ha.shape; have hc1 : w1.cell? ⟨p, 0, none⟩ = some (.slice a0 n c0) := ha.2.1.cell (by simpa using (World.cell?_alloc_lt w _ _ hpl).trans hcell) (fun h => hne h.symm); have hf1 : w1.frozen? ⟨p, 0, none⟩ = false := (World.frozen?_of_block (ha.2.1.block p (by simp; omega) (fun h => hne h.symm))).trans (by rw [World.frozen?_alloc_old _ _ _ (by simp; omega)]; exact hfz))
 go_end0
 exact ⟨rfl, aF.appended hp hown hne hfp ((Fr.refl _ w).alloc _) ha⟩
theorem aAG (w : World) (p : Nat) (n : Nat) (xs : List Value) (fp : Nat → Prop) (hc : aF w p 128 5 1 n xs fp) (m : Nat) (sv : Value) (news : List Value) (hsrc : Src Tryz.prog 1 22 sv m news w) (hn : n + m ≤ 2147483648) :
 Calls Tryz.prog 410 #[.pointer (some ⟨p, 0, none⟩), sv] w fun e w' => e = .returned (.tuple #[]) ∧ (∃ fp', aF w' p 128 5 1 (n + m) (xs ++ news) fp' ∧ Grow w fp fp') ∧ Fr fp w w' := by
 obtain ⟨v, hp, hown, hne, hfp⟩ := hc
 obtain ⟨hcell, hfz⟩ := aF.cell hp
 obtain ⟨a0, c0, rfl⟩ := ownsRow_shape hown
 go_enter Tryz.func410, Tryz.ntmps410
 go_wp2_with ((with_reducible show wpList _ _ _ (⟨some 9, _, _, _, _, _⟩ :: _) _ _); (refine aP _ rfl aJf _ _ rfl _ _ _ rfl hown _ _ _ rfl hsrc ?_ ?_ ?_); (unfold maxLen; omega); omega; intro v' w1 ha; obtain ⟨a', c', rfl⟩ := ha.shape; have hc1 : w1.cell? ⟨p, 0, none⟩ = some (.slice a0 n c0) := ha.2.1.cell hcell (fun h => hne h.symm); have hf1 : w1.frozen? ⟨p, 0, none⟩ = false := (World.frozen?_of_block (ha.2.1.block p (aH hp) (fun h => hne h.symm))).trans hfz)
 go_end0
 exact ⟨rfl, aF.appended hp hown hne hfp (Fr.refl _ w) ha⟩
theorem aKw (w : World) (r0 r1 r2 r3 : Nat) (_h0 : r0 < 18446744073709551616) : Calls Tryz.prog 75 #[.agg #[.int .u64 r0, .int .u64 r1, .int .u64 r2, .int .u64 r3]] w fun e w' => e = .returned (.int .u8 (IntKind.u8.wrap r0)) ∧ Fr (fun _ => False) w w' := by
 go_enter Tryz.func75, Tryz.ntmps75
 go_wp2
 go_ret
 exact ⟨rfl, (Fr.refl _ w).alloc _⟩
theorem u8_in (w : World) (nb : Nat) (r0 r1 r2 r3 : Nat) (h0 : r0 < 18446744073709551616) (s : ByteArray) (null : Bool) (iv kv : Value) (hf : w.cell? ⟨nb, 1, none⟩ = some (.func (.func 75) #[] #[])) :
 Calls Tryz.prog 416 #[.agg #[.int .u64 r0, .int .u64 r1, .int .u64 r2, .int .u64 r3, .string s, .bool null, iv, kv], .pointer (some ⟨nb, 0, none⟩)] w fun e w' => e = .returned (.int .u8 (IntKind.u8.wrap r0)) ∧ Fr (fun _ => False) w w' := by
 have hf' : ∀ o, (w.alloc o).cell? ⟨nb, 1, none⟩ = some (.func (.func 75) #[] #[]) := fun o => (World.cell?_alloc_lt w o _ (World.block_lt_of_cell? w _ hf)).trans hf
 have hraw := aKw (w.alloc (.cells #[.int .u64 r0, .int .u64 r1, .int .u64 r2, .int .u64 r3, .string s, .bool null, iv, kv] 35)) r0 r1 r2 r3 h0
 go_enter Tryz.func416, Tryz.ntmps416
 go_wp2_with (go_at_call 75; refine hraw.mono ?_; rintro e w' ⟨rfl, hfr⟩)
 go_ret
 exact ⟨rfl, ((Fr.refl _ w).alloc _).trans hfr (fun _ _ h => h)⟩
theorem aBx (a : Addr) (w : World) : (method (Tryz.prog.types.size + Made.depth) 249 (.pointer (some a)) "Append").run Tryz.prog w = .ok (194, .pointer (some a)) w := by kernel_rfl
theorem uX (a : Addr) (w : World) : (method (Tryz.prog.types.size + Made.depth) 249 (.pointer (some a)) "AppendArr").run Tryz.prog w = .ok (410, .pointer (some a)) w := by kernel_rfl
theorem yB (w : World) (p nb : Nat) (n : Nat) (xs : List Value) (fp : Nat → Prop) (hc : aF w p 128 5 1 n xs fp) (hn : n < 2147483648) (hf : w.cell? ⟨nb, 1, none⟩ = some (.func (.func 75) #[] #[]))
 (r0 r1 r2 r3 : Nat) (h0 : r0 < 18446744073709551616) (s : ByteArray) (null : Bool) (iv kv : Value) :
 Calls Tryz.prog 642 #[.agg #[.iface 249 (.pointer (some ⟨p, 0, none⟩)), .func (.func 416) #[] #[.pointer (some ⟨nb, 0, none⟩)], .func (.func 417) #[] #[.pointer (some ⟨nb, 0, none⟩)]], .agg #[.int .u64 r0, .int .u64 r1, .int .u64 r2, .int .u64 r3, .string s, .bool null, iv, kv]] w fun e w' =>
  e = .returned (.tuple #[]) ∧ (∃ fp', aF w' p 128 5 1 (n + 1) (xs ++ [.int .u8 (IntKind.u8.wrap r0)]) fp' ∧ Grow w fp fp') ∧ Fr fp w w' := by
 go_enter Tryz.func642, Tryz.ntmps642
 go_wp2_with fail
 generalize hW : (w.alloc _).alloc _ = W
 have hfrW : Fr (fun _ => False) w W := by subst hW; exact ((Fr.refl _ w).alloc _).alloc _
 have d0 : W.cell? ⟨w.heap.size, 0, none⟩ = some (.iface 249 (.pointer (some ⟨p, 0, none⟩))) := by subst hW; rw [World.cell?_alloc_lt _ _ _ (by simp), aB rfl]; rfl
 have d1 : W.cell? ⟨w.heap.size, 1, none⟩ = some (.func (.func 416) #[] #[.pointer (some ⟨nb, 0, none⟩)]) := by subst hW; rw [World.cell?_alloc_lt _ _ _ (by simp), aB rfl]; rfl
 have e0 : W.cell? ⟨w.heap.size + 1, 0, none⟩ = some (.int .u64 r0) := by subst hW; rw [aB (by simp)]; rfl
 have e1 : W.cell? ⟨w.heap.size + 1, 1, none⟩ = some (.int .u64 r1) := by subst hW; rw [aB (by simp)]; rfl
 have e2 : W.cell? ⟨w.heap.size + 1, 2, none⟩ = some (.int .u64 r2) := by subst hW; rw [aB (by simp)]; rfl
 have e3 : W.cell? ⟨w.heap.size + 1, 3, none⟩ = some (.int .u64 r3) := by subst hW; rw [aB (by simp)]; rfl
 have e4 : W.cell? ⟨w.heap.size + 1, 4, none⟩ = some (.string s) := by subst hW; rw [aB (by simp)]; rfl
 have e5 : W.cell? ⟨w.heap.size + 1, 5, none⟩ = some (.bool null) := by subst hW; rw [aB (by simp)]; rfl
 have e6 : W.cell? ⟨w.heap.size + 1, 6, none⟩ = some iv := by subst hW; rw [aB (by simp)]; rfl
 have e7 : W.cell? ⟨w.heap.size + 1, 7, none⟩ = some kv := by subst hW; rw [aB (by simp)]; rfl
 have hcW : aF W p 128 5 1 n xs fp := hc.aT fun k hk => hfrW.block k (hc.lt k hk) (fun h => h)
 have hfW : W.cell? ⟨nb, 1, none⟩ = some (.func (.func 75) #[] #[]) := hfrW.aA hf (fun h => h)
 have hN : ¬ fp w.heap.size := fun h => by have := hc.lt _ h; omega
 have hN1 : ¬ fp (w.heap.size + 1) := fun h => by have := hc.lt _ h; omega
 clear hW
 go_region_held3 (fun w' => w'.cell? ⟨w.heap.size, 0, none⟩ = some (.iface 249 (.pointer (some ⟨p, 0, none⟩))) ∧ w'.cell? ⟨w.heap.size, 1, none⟩ = some (.func (.func 416) #[] #[.pointer (some ⟨nb, 0, none⟩)]) ∧
  w'.cell? ⟨w.heap.size + 1, 0, none⟩ = some (.int .u64 r0) ∧ w'.cell? ⟨w.heap.size + 1, 1, none⟩ = some (.int .u64 r1) ∧ w'.cell? ⟨w.heap.size + 1, 2, none⟩ = some (.int .u64 r2) ∧ w'.cell? ⟨w.heap.size + 1, 3, none⟩ = some (.int .u64 r3) ∧
  w'.cell? ⟨w.heap.size + 1, 4, none⟩ = some (.string s) ∧ w'.cell? ⟨w.heap.size + 1, 5, none⟩ = some (.bool null) ∧ w'.cell? ⟨w.heap.size + 1, 6, none⟩ = some iv ∧ w'.cell? ⟨w.heap.size + 1, 7, none⟩ = some kv)
  (first
   | exact ⟨d0, d1, e0, e1, e2, e3, e4, e5, e6, e7⟩
   | exact ⟨hf2.aA d0 hN, hf2.aA d1 hN, hf2.aA e0 hN1, hf2.aA e1 hN1, hf2.aA e2 hN1, hf2.aA e3 hN1, hf2.aA e4 hN1, hf2.aA e5 hN1, hf2.aA e6 hN1, hf2.aA e7 hN1⟩
   | exact ⟨hf1.aA d0 (fun h => h), hf1.aA d1 (fun h => h), hf1.aA e0 (fun h => h), hf1.aA e1 (fun h => h), hf1.aA e2 (fun h => h), hf1.aA e3 (fun h => h), hf1.aA e4 (fun h => h), hf1.aA e5 (fun h => h), hf1.aA e6 (fun h => h), hf1.aA e7 (fun h => h)⟩
   | assumption)
  (first
   | (refine aS _ rfl ?_; refine fK _ _ _ _ rfl _ _ rfl (dC.func1 Tryz.call416 (u8_in _ nb r0 r1 r2 r3 h0 s null iv kv hfW)) rfl ?_; rintro e w1 ⟨rfl, hf1⟩; refine ⟨_, rfl, ?_⟩)
   | (refine aS _ rfl ?_; refine bU _ _ _ _ _ rfl _ _ rfl (aI.of1 (aBx _ _) Tryz.call194 (aGe _ p n xs fp (hcW.aT fun k hk => hf1.block k (hcW.lt k hk) (fun h => h)) hn (IntKind.u8.wrap r0))) rfl ?_; rintro e w2 ⟨rfl, hcol, hf2'⟩; have hf2 : Fr fp W w2 := (hf1.aG.mono (fun _ _ h => h.elim)).trans hf2' (fun _ _ h => h); refine ⟨_, rfl, ?_⟩))
 all_goals
  go_end0
  refine ⟨rfl, ?_, (hfrW.mono (fun _ _ h => h.elim)).trans hf2 (fun _ _ h => h)⟩
  obtain ⟨fp', h1, h2⟩ := hcol
  exact ⟨fp', h1, fun k hk => (h2 k hk).imp id (fun h => Nat.le_trans (Nat.le_trans hfrW.size hf1.size) h)⟩
def dP (c : Cell) : List Value := [.int .u8 (IntKind.u8.wrap c.r0)]
theorem aGI (w : World) (B nb : Nat) (hBw : B ≤ w.heap.size) (hf : w.cell? ⟨nb, 1, none⟩ = some (.func (.func 75) #[] #[])) (cs : List Cell) (v : Value) (xs : List Value) (hs : Sl B w 8 v cs.length xs) (hc : aC B w cs xs) (hn : cs.length ≤ 2147483648) :
 Calls Tryz.prog 645 #[v, .func (.func 416) #[] #[.pointer (some ⟨nb, 0, none⟩)]] w fun e w' => ∃ tv, e = .returned tv ∧ w'.ownsRow 0 5 1 tv cs.length (cs.flatMap dP) ∧ Fr (fun _ => False) w w' := by
 have hs' := hs
 obtain ⟨hxl, ao, cap, rfl, hnc, hcm, h0, ha⟩ := hs
 unfold maxLen at hcm
 clear ha h0 hxl
 go_enter Tryz.func645, Tryz.ntmps645
 go_wp2
 go_loopw [5, 10] (fun tv i wr => ∃ k : Nat, k ≤ cs.length ∧ i = .int .i64 k ∧ wr.ownsRow 0 5 1 tv k ((cs.take k).flatMap dP) ∧ (∀ q, tv.ownBlock = some q → w.heap.size ≤ q) ∧ Fr (fun _ => False) w wr) (fun _ i _ => cs.length - (intOf i).toNat)
 case atStart => exact ⟨0, Nat.zero_le _, rfl, World.ownsRow_nil _ _ _ _, by simp [Value.ownBlock], Fr.refl _ _⟩
 case round =>
  obtain ⟨k, hk, rfl, hown, hsince, hfr⟩ := hrel
  have hbr : Below B w wr := hfr.below hBw (fun _ _ h => h)
  obtain ⟨a0, c0, rfl⟩ := ownsRow_shape hown
  by_cases hlt : k < cs.length
  · obtain ⟨b, off, cap', hv, hbB, vs, hvs, hcell⟩ := (hs'.below hbr).row (aC.below hbr _ _ hc) hlt
    have hstep := Lib.hid (bV dP cs k hlt)
    generalize cs[k] = c at hvs hstep
    obtain ⟨ia, il, ic, ka, kl, kc, rfl, h0, h1, h2, h3, h4⟩ := hvs.open
    simp only [Value.slice.injEq] at hv
    obtain ⟨rfl, _, rfl⟩ := hv
    have d0 := hcell 0 _ rfl
    have d1 := hcell 1 _ rfl
    have d2 := hcell 2 _ rfl
    have d3 := hcell 3 _ rfl
    have d4 := hcell 4 _ rfl
    have d5 := hcell 5 _ rfl
    have d6 := hcell 6 _ rfl
    have d7 := hcell 7 _ rfl
    simp only [Nat.add_zero] at d0
    have hfa : Fr (fun _ => False) w (wr.alloc (.cells #[.int .u64 c.r0, .int .u64 c.r1, .int .u64 c.r2, .int .u64 c.r3, .string c.s, .bool c.null, .slice ia il ic, .slice ka kl kc] 35)) := hfr.alloc _
    have hin := u8_in _ nb c.r0 c.r1 c.r2 c.r3 h0 c.s c.null (.slice ia il ic) (.slice ka kl kc) (hfa.aA hf (fun h => h))
    clear hcell hvs hs' hc
    go_wp2_with (first | ((with_reducible show wpList _ _ _ (⟨some 17, _, _, _, _, _⟩ :: _) _ _); refine dE _ rfl _ _ _ rfl _ _ rfl (dC.func1 Tryz.call416 hin) rfl ?_; rintro e w1 ⟨rfl, hf1⟩; refine ⟨_, rfl, ?_⟩; have hfw1 : Fr (fun _ => False) w w1 := hfa.trans hf1 (fun _ _ h => h); have hown1 := hf1.owns ((Fr.refl (fun _ => False) wr).alloc _ |>.owns hown (fun _ _ h => h)) (fun _ _ h => h)) | ((with_reducible show wpList _ _ _ (⟨some 19, _, _, _, _, _⟩ :: _) _ _); refine aP _ rfl aIG _ _ rfl _ _ _ rfl (hown1.alloc _) _ _ _ rfl (Src.ofSlice _ Tryz.underlying22 _ _ _ _ rfl (aW _ [.int .u8 (IntKind.u8.wrap c.r0)] _) (by simp [Value.oneCell'])) ?_ ?_ ?_; (unfold maxLen; omega); omega; intro v' w2 ha; obtain ⟨a', c', rfl⟩ := ha.shape))
    go_roundw
    case rel => exact ⟨k + 1, by omega, by go_num, by rw [hstep.out]; exact ha.1, (ha.since (hfw1.alloc _) hsince).1, (ha.since (hfw1.alloc _) hsince).2⟩
    case measure => simp [intOf]; omega
  · have hke : k = cs.length := by omega
    subst hke
    rw [List.take_length] at hown
    go_wp2
    go_ret
    exact ⟨_, rfl, hown, hfr⟩
theorem pY (cs : List Cell) : ∀ u ∈ cs.flatMap dP, u.oneCell' = true := by
 intro u hu
 obtain ⟨c, _, hc⟩ := List.mem_flatMap.1 hu
 simp only [dP, List.mem_cons, List.not_mem_nil, or_false] at hc
 subst hc; rfl
theorem rZ (w : World) (B p nb : Nat) (hBw : B ≤ w.heap.size) (n : Nat) (xs : List Value) (fp : Nat → Prop) (hc : aF w p 128 5 1 n xs fp) (hf : w.cell? ⟨nb, 1, none⟩ = some (.func (.func 75) #[] #[]))
 (cs : List Cell) (v : Value) (ys : List Value) (hs : Sl B w 8 v cs.length ys) (hcs : aC B w cs ys) (hn : n + cs.length ≤ 2147483648) :
 Calls Tryz.prog 643 #[.agg #[.iface 249 (.pointer (some ⟨p, 0, none⟩)), .func (.func 416) #[] #[.pointer (some ⟨nb, 0, none⟩)], .func (.func 417) #[] #[.pointer (some ⟨nb, 0, none⟩)]], v] w fun e w' =>
  e = .returned (.tuple #[]) ∧ (∃ fp', aF w' p 128 5 1 (n + cs.length) (xs ++ cs.flatMap dP) fp' ∧ Grow w fp fp') ∧ Fr fp w w' := by
 go_enter Tryz.func643, Tryz.ntmps643
 go_wp2_with fail
 generalize hW : w.alloc _ = W
 have hfrW : Fr (fun _ => False) w W := by subst hW; exact (Fr.refl _ w).alloc _
 have d0 : W.cell? ⟨w.heap.size, 0, none⟩ = some (.iface 249 (.pointer (some ⟨p, 0, none⟩))) := by subst hW; rw [aB rfl]; rfl
 have d1 : W.cell? ⟨w.heap.size, 1, none⟩ = some (.func (.func 416) #[] #[.pointer (some ⟨nb, 0, none⟩)]) := by subst hW; rw [aB rfl]; rfl
 have hcW : aF W p 128 5 1 n xs fp := hc.aT fun k hk => hfrW.block k (hc.lt k hk) (fun h => h)
 have hfW : W.cell? ⟨nb, 1, none⟩ = some (.func (.func 75) #[] #[]) := hfrW.aA hf (fun h => h)
 have hN : ¬ fp w.heap.size := fun h => by have := hc.lt _ h; omega
 have hsW := hs.fr hBw hfrW
 have hcsW := aC.below (hfrW.below hBw (fun _ _ h => h)) _ _ hcs
 have hBW : B ≤ W.heap.size := Nat.le_trans hBw hfrW.size
 have hsD := hsW.fr hBW (Fr.refl (fun _ => False) W).drew
 have hcsD := aC.below ((Below.refl B W).drew) _ _ hcsW
 clear hW hs hcs
 go_region_held3 (fun w' => w'.cell? ⟨w.heap.size, 0, none⟩ = some (.iface 249 (.pointer (some ⟨p, 0, none⟩))) ∧ w'.cell? ⟨w.heap.size, 1, none⟩ = some (.func (.func 416) #[] #[.pointer (some ⟨nb, 0, none⟩)]))
  (first
   | exact ⟨d0, d1⟩
   | exact ⟨hf2.aA d0 hN, hf2.aA d1 hN⟩
   | exact ⟨hf1.aA d0 (fun h => h), hf1.aA d1 (fun h => h)⟩
   | assumption)
  (first
   | (go_at_call 645; refine (aGI W.drew B nb hBW hfW cs v ys hsD hcsD (by omega)).mono ?_; rintro e w1 ⟨tv, rfl, hown, hf1⟩)
   | (refine aS _ rfl ?_; refine bU _ _ _ _ _ rfl _ _ rfl (aI.of1 (uX _ _) Tryz.call410 (aAG _ p n xs fp (hcW.aT fun k hk => hf1.block k (hcW.lt k hk) (fun h => h)) _ _ _ (Src.jH Tryz.underlying22 hown (pY cs)) hn)) rfl ?_; rintro e w2 ⟨rfl, hcol, hf2'⟩; have hf2 : Fr fp W w2 := (hf1.aG.mono (fun _ _ h => h.elim)).trans hf2' (fun _ _ h => h); refine ⟨_, rfl, ?_⟩))
 all_goals
  go_end0
  refine ⟨rfl, ?_, (hfrW.mono (fun _ _ h => h.elim)).trans hf2 (fun _ _ h => h)⟩
  obtain ⟨fp', h1, h2⟩ := hcol
  exact ⟨fp', h1, fun k hk => (h2 k hk).imp id (fun h => Nat.le_trans (Nat.le_trans hfrW.size hf1.size) h)⟩
theorem aFp (w : World) (a : Option Addr) (n c : Nat) : Calls Tryz.prog 197 #[.slice a n c] w fun e w' => e = .returned (.int .i64 n) ∧ Fr (fun _ => False) w w' := by
 go_enter Tryz.func197, Tryz.ntmps197
 go_wp2
 go_ret
 exact ⟨rfl, Fr.refl _ _⟩
theorem aCB (cs : List Cell) : cs.flatMap dP = aQ (cs.flatMap (aJ 1)) := by
 induction cs with
 | nil => rfl
 | cons c cs ih =>
  rw [List.flatMap_cons, List.flatMap_cons, bQ, ih, dI 1 (by omega)]
  congr 1
  simp only [dP, aQ, Lib.leBytes, List.map, Lib.toUInt8_mod]
  rw [IntKind.wrap_u8']
  simp
theorem sD (w : World) (b : Nat) (fb : Nat → Prop) (bs : List UInt8) (hb : Buf w b fb bs) (a : Option Addr) (c : Nat) (cs : List Cell) (hown : w.ownsRow 0 5 1 (.slice a cs.length c) cs.length (cs.flatMap dP))
 (_hd : ∀ k, (Value.slice a cs.length c).ownBlock = some k → ¬ fb k) (_hc : ∀ c ∈ cs, c.r0 < 18446744073709551616) (hl : bs.length + 1 * cs.length ≤ 1099511627776) :
 Calls Tryz.prog 195 #[.slice a cs.length c, .pointer (some ⟨b, 0, none⟩)] w fun e w' => e = .returned (.tuple #[]) ∧ Fr fb w w' ∧ ∃ fb', Buf w' b fb' (bs ++ cs.flatMap (aJ 1)) ∧ Grow w fb fb' := by
 by_cases h0 : cs.length = 0
 · have hcs : cs = [] := List.eq_nil_of_length_eq_zero (by omega)
   subst hcs
   go_enter Tryz.func195, Tryz.ntmps195
   go_wp2
   try simp only [Exit.inBlock, Exit.then]
   refine bodyPost_ret (results_none rfl _ _ _) rfl ?_
   exact ⟨rfl, Fr.refl _ _, fb, by simpa using hb, fun k hk => .inl hk⟩
 · have hb' := hb
   obtain ⟨v, hp, hob, hne, hfp⟩ := hb'
   obtain ⟨hcell, hfz⟩ := aF.cell hp
   obtain ⟨a0, c0, rfl⟩ := ownsRow_shape hob
   have hpl := aH hp
   have hcm : cs.length ≤ 9223372036854775807 := by omega
   have hsrc : Src Tryz.prog 1 128 (.slice a cs.length c) cs.length (cs.flatMap dP) w := Src.jH Tryz.underlying128 hown (pY cs)
   go_enter Tryz.func195, Tryz.ntmps195
   go_wp2_with ((with_reducible show wpList _ _ _ (⟨some 15, _, _, _, _, _⟩ :: _) _ _); (refine aP _ rfl gU _ _ rfl _ _ _ rfl hob _ _ _ rfl hsrc ?_ ?_ ?_); (unfold maxLen; omega); omega; intro v' w1 ha; obtain ⟨a', c', rfl⟩ := ha.shape; have hc1 : w1.cell? ⟨b, 0, none⟩ = some (.slice a0 bs.length c0) := ha.2.1.cell hcell (fun h => hne h.symm); have hf1 : w1.frozen? ⟨b, 0, none⟩ = false := (World.frozen?_of_block (ha.2.1.block b hpl (fun h => hne h.symm))).trans hfz)
   obtain ⟨⟨fb', hcol, hgrow⟩, hfr⟩ := aF.appended hp hob hne hfp (Fr.refl _ w) ha
   go_end0
   rw [aCB, ← bQ] at hcol
   have hlen : (bs ++ cs.flatMap (aJ 1)).length = bs.length + cs.length := by rw [List.length_append, bH _ 1 (bF 1 (by omega))]; omega
   exact ⟨rfl, hfr, fb', Buf.col.2 (by rw [hlen]; exact hcol), hgrow⟩
def u8R (B p nb : Nat) (w : World) (fp : Nat → Prop) (σ : List Cell) : Prop :=
 ∃ fp0, aF w p 128 5 1 σ.length (σ.flatMap dP) fp0 ∧ w.cell? ⟨nb, 1, none⟩ = some (.func (.func 75) #[] #[]) ∧ (∀ k, fp k ↔ fp0 k ∨ k = nb) ∧ (∀ k, fp k → B ≤ k) ∧ (¬ fp0 nb) ∧ ∀ c ∈ σ, c.small
theorem aBw (p nb : Nat) (w : World) (name : String) (f : FuncId) (h : (name, f) = ("Append", 642) ∨ (name, f) = ("AppendArr", 643)) : (method (Tryz.prog.types.size + Made.depth) 566 (.agg #[.iface 249 (.pointer (some ⟨p, 0, none⟩)), .func (.func 416) #[] #[.pointer (some ⟨nb, 0, none⟩)], .func (.func 417) #[] #[.pointer (some ⟨nb, 0, none⟩)]]) name).run Tryz.prog w = .ok (f, .agg #[.iface 249 (.pointer (some ⟨p, 0, none⟩)), .func (.func 416) #[] #[.pointer (some ⟨nb, 0, none⟩)], .func (.func 417) #[] #[.pointer (some ⟨nb, 0, none⟩)]]) w := by
 rcases h with h | h <;> (simp only [Prod.mk.injEq] at h; obtain ⟨rfl, rfl⟩ := h; kernel_rfl)
theorem aGP (p nb : Nat) (w : World) (v : Value) (hv : w.cell? ⟨p, 0, none⟩ = some v) : (method (Tryz.prog.types.size + Made.depth) 566 (.agg #[.iface 249 (.pointer (some ⟨p, 0, none⟩)), .func (.func 416) #[] #[.pointer (some ⟨nb, 0, none⟩)], .func (.func 417) #[] #[.pointer (some ⟨nb, 0, none⟩)]]) "Rows").run Tryz.prog w = .ok (197, v) w := by
 obtain ⟨n, hn⟩ := fuel
 rw [hn]
 refine (bD (n := n + 1) Tryz.underlying566 rfl rfl (fun _ => by kernel_rfl) (by kernel_rfl) rfl).trans ?_
 exact aZ (n := n) false (by kernel_rfl) (bT Tryz.underlying249 (cZ Tryz.underlying128 hv))
theorem aJa (p nb : Nat) (w : World) (v : Value) (hv : w.cell? ⟨p, 0, none⟩ = some v) : (method (Tryz.prog.types.size + Made.depth) 566 (.agg #[.iface 249 (.pointer (some ⟨p, 0, none⟩)), .func (.func 416) #[] #[.pointer (some ⟨nb, 0, none⟩)], .func (.func 417) #[] #[.pointer (some ⟨nb, 0, none⟩)]]) "EncodeColumn").run Tryz.prog w = .ok (195, v) w := by
 obtain ⟨n, hn⟩ := fuel
 rw [hn]
 refine (bD (n := n + 1) Tryz.underlying566 rfl rfl (fun _ => by kernel_rfl) (by kernel_rfl) rfl).trans ?_
 exact aZ (n := n) false (by kernel_rfl) (bT Tryz.underlying249 (cZ Tryz.underlying128 hv))
theorem u8R.nb {B p nb : Nat} {w : World} {fp : Nat → Prop} {σ : List Cell} (h : u8R B p nb w fp σ) : nb < w.heap.size ∧ B ≤ nb := by
 obtain ⟨fp0, hc, hnb, hfp, hB, hne, hsm⟩ := h
 exact ⟨World.block_lt_of_cell? w _ hnb, hB nb ((hfp nb).2 (.inr rfl))⟩
theorem u8R.after {B p nb : Nat} {w w' : World} {fp fp0 : Nat → Prop} {σ τ : List Cell} (h : u8R B p nb w fp σ) (hfp : ∀ k, fp k ↔ fp0 k ∨ k = nb) (hne : ¬ fp0 nb)
 (hc : ∃ fp', aF w' p 128 5 1 τ.length (τ.flatMap dP) fp' ∧ Grow w fp0 fp') (hfr : Fr fp0 w w') (hsm : ∀ c ∈ τ, c.small) :
 Fr fp w w' ∧ ∃ fp', u8R B p nb w' fp' τ ∧ Grow w fp fp' := by
 obtain ⟨hlt, hBn⟩ := h.nb
 obtain ⟨_, _, hnb, _, hB, _, _⟩ := h
 obtain ⟨fp', hcol, hg⟩ := hc
 refine ⟨hfr.mono (fun k _ hk => (hfp k).2 (.inl hk)), fun k => fp' k ∨ k = nb, ⟨fp', hcol, hfr.aA hnb hne, fun k => Iff.rfl, ?_, ?_, hsm⟩, ?_⟩
 · rintro k (hk | rfl)
   · rcases hg k hk with hk | hk
     · exact hB k ((hfp k).2 (.inl hk))
     · omega
   · exact hBn
 · intro hk
   rcases hg nb hk with hk | hk
   · exact hne hk
   · omega
 · rintro k (hk | rfl)
   · exact (hg k hk).imp (fun hk => (hfp k).2 (.inl hk)) id
   · exact .inl ((hfp k).2 (.inr rfl))
theorem aKo (B p nb : Nat) : bI Tryz.prog B 566 (.agg #[.iface 249 (.pointer (some ⟨p, 0, none⟩)), .func (.func 416) #[] #[.pointer (some ⟨nb, 0, none⟩)], .func (.func 417) #[] #[.pointer (some ⟨nb, 0, none⟩)]]) (.num .u8) [] (u8R B p nb) (u8R B p nb) where
 lo := by
  intro w fp σ h k hk
  have hn := h.nb
  obtain ⟨fp0, hc, hnb, hfp, hB, hne, hsm⟩ := h
  refine ⟨hB k hk, ?_⟩
  rcases (hfp k).1 hk with hk | rfl
  · exact hc.lt k hk
  · exact hn.1
 lo' := by
  intro w fp σ h k hk
  have hn := h.nb
  obtain ⟨fp0, hc, hnb, hfp, hB, hne, hsm⟩ := h
  refine ⟨hB k hk, ?_⟩
  rcases (hfp k).1 hk with hk | rfl
  · exact hc.lt k hk
  · exact hn.1
 frame := by
  intro w w' fp σ h hk
  obtain ⟨fp0, hc, hnb, hfp, hB, hne, hsm⟩ := h
  exact ⟨fp0, hc.aT fun k h => hk k ((hfp k).2 (.inl h)), (World.cell?_of_block (hk nb ((hfp nb).2 (.inr rfl)))).trans hnb, hfp, hB, hne, hsm⟩
 frame' := by
  intro w w' fp σ h hk
  obtain ⟨fp0, hc, hnb, hfp, hB, hne, hsm⟩ := h
  exact ⟨fp0, hc.aT fun k h => hk k ((hfp k).2 (.inl h)), (World.cell?_of_block (hk nb ((hfp nb).2 (.inr rfl)))).trans hnb, hfp, hB, hne, hsm⟩
 append := by
  intro w fp σ c vs h hvs hw
  have h' := h
  obtain ⟨fp0, hc, hnb, hfp, hB, hne, hsm⟩ := h'
  have hcs := hvs.small
  obtain ⟨ia, il, ic, ka, kl, kc, rfl, h0, h1, h2, h3, h4⟩ := hvs.open
  have hlen := aN (σ ++ [c])
  have hw' : wts (σ ++ [c]) ≤ 2147483648 := hw
  rw [List.length_append, List.length_singleton] at hlen
  refine aI.of1 (aBw p nb w _ _ (.inl rfl)) Tryz.call642 ((yB w p nb _ _ fp0 hc (by omega) hnb c.r0 c.r1 c.r2 c.r3 h0 c.s c.null (.slice ia il ic) (.slice ka kl kc)).mono ?_)
  rintro e w' ⟨he, hcol, hfr⟩
  refine ⟨he, h.after hfp hne ?_ hfr (fun d hd => ?_)⟩
  · rw [List.flatMap_append, List.flatMap_singleton, List.length_append, List.length_singleton]
    exact hcol
  · rcases List.mem_append.1 hd with hd | hd
    · exact hsm d hd
    · rw [List.mem_singleton.1 hd]
      exact hcs
 appendArr := by
  intro w fp σ cs v xs h hs hcs hw
  have h' := h
  obtain ⟨fp0, hc, hnb, hfp, hB, hne, hsm⟩ := h'
  have hlen := aN (σ ++ cs)
  have hw' : wts (σ ++ cs) ≤ 2147483648 := hw
  have hn := h.nb
  rw [List.length_append] at hlen
  refine aI.of1 (aBw p nb w _ _ (.inr rfl)) Tryz.call643 ((rZ w B p nb (by omega) _ _ fp0 hc hnb cs v xs hs hcs (by omega)).mono ?_)
  rintro e w' ⟨he, hcol, hfr⟩
  refine ⟨he, h.after hfp hne ?_ hfr (fun d hd => ?_)⟩
  · rw [List.flatMap_append, List.length_append]
    exact hcol
  · rcases List.mem_append.1 hd with hd | hd
    · exact hsm d hd
    · exact aC.small hcs d hd
 rows := by
  intro w fp σ h
  obtain ⟨fp0, ⟨v, hp, hown, _⟩, hnb, hfp, hB, hne, hsm⟩ := h
  obtain ⟨a, c, rfl⟩ := ownsRow_shape hown
  exact aI.of0 (aGP p nb w _ (aF.cell hp).1) Tryz.call197 (aFp w a _ c)
 flat := by rintro w name (rfl | rfl | rfl) n m <;> exact eQ Tryz.underlying566 rfl rfl (fun _ => by kernel_rfl) (by kernel_rfl) rfl (by kernel_rfl) n m
 ahead := fun w => by kernel_rfl
 prepare := ⟨false, fun x w => run_typeAssert_lacksB Tryz.underlying102 (by kernel_rfl) (by kernel_rfl) _ x w, fun h => by simpa using h⟩
 state := ⟨false, fun x w => run_typeAssert_lacksB Tryz.underlying172 (by kernel_rfl) (by kernel_rfl) _ x w, by simp⟩
 encode := by
  intro w fp σ b fb bs h hw hb hd hl
  obtain ⟨fp0, ⟨v, hp, hown, hne', hfp0⟩, hnb, hfp, hB, hne, hsm⟩ := h
  obtain ⟨a, c, rfl⟩ := ownsRow_shape hown
  have hl' : (enc (.num .u8) σ).length = 1 * σ.length := bH _ 1 (bF 1 (by omega)) σ
  exact aI.of1 (aJa p nb w _ (aF.cell hp).1) Tryz.call195 (sD w b fb bs hb a c σ hown (fun k hk => hd k ((hfp k).2 (.inl ((hfp0 k).2 (.inr hk))))) (fun c hc => (hsm c hc).1) (by omega))
theorem aGf (w : World) : Calls Tryz.prog 50 #[.int .i64 7] w fun e w' => e = .returned (.iface 255 (.agg #[.iface 249 (.pointer (some ⟨w.heap.size, 0, none⟩)), .func (.func 75) #[] #[], .func (.func 76) #[] #[]])) ∧ w' = w.alloc (.cells #[.slice none 0 0] 128) := by
 go_enter Tryz.func50, Tryz.ntmps50
 go_wp2
 go_ret
 exact ⟨rfl, rfl⟩
theorem aDI (w : World) (p : Nat) : (method (Tryz.prog.types.size + Made.depth) 255 (.agg #[.iface 249 (.pointer (some ⟨p, 0, none⟩)), .func (.func 75) #[] #[], .func (.func 76) #[] #[]]) "given.example/pub-bradawl/impl.cells").run Tryz.prog w =
 .ok (415, .agg #[.iface 249 (.pointer (some ⟨p, 0, none⟩)), .func (.func 75) #[] #[], .func (.func 76) #[] #[]]) w := by
 obtain ⟨n, hn⟩ := fuel
 rw [hn]
 exact aZ (n := n + 1) false (by kernel_rfl) (dN Tryz.underlying255 rfl)
theorem aJR (w : World) (p B : Nat) (hB : B ≤ p) (hp : w.heap[p]? = some (.cells #[.slice none 0 0] 128 (0, 0))) :
 Calls Tryz.prog 415 #[.agg #[.iface 249 (.pointer (some ⟨p, 0, none⟩)), .func (.func 75) #[] #[], .func (.func 76) #[] #[]]] w fun e w' =>
  ∃ nb fp, e = .returned (.iface 566 (.agg #[.iface 249 (.pointer (some ⟨p, 0, none⟩)), .func (.func 416) #[] #[.pointer (some ⟨nb, 0, none⟩)], .func (.func 417) #[] #[.pointer (some ⟨nb, 0, none⟩)]])) ∧ u8R B p nb w' fp [] ∧ Fr (fun _ => False) w w' := by
 have hpl := aH hp
 go_enter Tryz.func415, Tryz.ntmps415
 go_wp2
 go_ret
 refine ⟨w.heap.size, fun k => k = p ∨ k = w.heap.size, rfl, ⟨fun k => k = p, ⟨.slice none 0 0, (Below.heap_alloc _ _ _ hpl).trans hp, World.ownsRow_nil _ _ _ _, by simp [Value.ownBlock], fun k => by simp [Value.ownBlock]⟩, by rw [aB rfl]; rfl, fun k => Iff.rfl, ?_, by omega, by simp⟩, (Fr.refl _ w).alloc _⟩
 rintro k (rfl | rfl) <;> omega
end Go.Proofs.YtcidlnjpabgioaaGreatDoor
