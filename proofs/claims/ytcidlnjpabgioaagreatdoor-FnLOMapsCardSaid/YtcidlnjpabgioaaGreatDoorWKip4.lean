import Derived.Test.YtcidlnjpabgioaaGreatDoorWGEnc
import Derived.Deep.RegionLaw
set_option maxHeartbeats 1000000
set_option maxRecDepth 100000
namespace Go.Proofs.YtcidlnjpabgioaaGreatDoor
open Go.RowKit
theorem aIs : ElT Tryz.prog 339 340 (.int .u32 0) 1 4 := ⟨Tryz.underlying339, info_parts (by kernel_rfl), rfl⟩
theorem aJU : ElT Tryz.prog 338 340 (.int .u32 0) 1 4 := ⟨Tryz.underlying338, info_parts (by kernel_rfl), rfl⟩
theorem aDs (w : World) (p : Nat) (n : Nat) (xs : List Value) (fp : Nat → Prop) (hc : aF w p 339 340 1 n xs fp) (hn : n < 2147483648) (x : Int) :
 Calls Tryz.prog 535 #[.pointer (some ⟨p, 0, none⟩), .int .u32 x] w fun e w' => e = .returned (.tuple #[]) ∧ (∃ fp', aF w' p 339 340 1 (n + 1) (xs ++ [.int .u32 x]) fp' ∧ Grow w fp fp') ∧ Fr fp w w' := by
 obtain ⟨v, hp, hown, hne, hfp⟩ := hc
 obtain ⟨hcell, hfz⟩ := aF.cell hp
 obtain ⟨a0, c0, rfl⟩ := ownsRow_shape hown
 have hpl := aH hp
 have hsrc : Src Tryz.prog 1 339 (.slice (some ⟨w.heap.size, 0, none⟩) 1 1) 1 [.int .u32 x] (w.alloc (.cells [.int .u32 x].toArray 340)) :=
  Src.ofSlice _ Tryz.underlying339 _ _ _ _ rfl (aW _ _ _) (by simp [Value.oneCell'])
 go_enter Tryz.func535, Tryz.ntmps535
 go_wp2_with ((with_reducible show wpList _ _ _ (⟨some 10, _, _, _, _, _⟩ :: _) _ _); (refine aP _ rfl aIs _ _ rfl _ _ _ rfl (hown.alloc _) _ _ _ rfl hsrc ?_ ?_ ?_); (unfold maxLen; omega); omega; intro v' w1 ha; obtain ⟨a', c', rfl⟩ := ha.shape; have hc1 : w1.cell? ⟨p, 0, none⟩ = some (.slice a0 n c0) := ha.2.1.cell (by simpa using (World.cell?_alloc_lt w _ _ hpl).trans hcell) (fun h => hne h.symm); have hf1 : w1.frozen? ⟨p, 0, none⟩ = false := (World.frozen?_of_block (ha.2.1.block p (by simp; omega) (fun h => hne h.symm))).trans (by rw [World.frozen?_alloc_old _ _ _ (by simp; omega)]; exact hfz))
 go_end0
 exact ⟨rfl, aF.appended hp hown hne hfp ((Fr.refl _ w).alloc _) ha⟩
theorem yE (w : World) (p : Nat) (n : Nat) (xs : List Value) (fp : Nat → Prop) (hc : aF w p 339 340 1 n xs fp) (m : Nat) (sv : Value) (news : List Value) (hsrc : Src Tryz.prog 1 338 sv m news w) (hn : n + m ≤ 2147483648) :
 Calls Tryz.prog 536 #[.pointer (some ⟨p, 0, none⟩), sv] w fun e w' => e = .returned (.tuple #[]) ∧ (∃ fp', aF w' p 339 340 1 (n + m) (xs ++ news) fp' ∧ Grow w fp fp') ∧ Fr fp w w' := by
 obtain ⟨v, hp, hown, hne, hfp⟩ := hc
 obtain ⟨hcell, hfz⟩ := aF.cell hp
 obtain ⟨a0, c0, rfl⟩ := ownsRow_shape hown
 go_enter Tryz.func536, Tryz.ntmps536
 go_wp2_with ((with_reducible show wpList _ _ _ (⟨some 9, _, _, _, _, _⟩ :: _) _ _); (refine aP _ rfl aIs _ _ rfl _ _ _ rfl hown _ _ _ rfl hsrc ?_ ?_ ?_); (unfold maxLen; omega); omega; intro v' w1 ha; obtain ⟨a', c', rfl⟩ := ha.shape; have hc1 : w1.cell? ⟨p, 0, none⟩ = some (.slice a0 n c0) := ha.2.1.cell hcell (fun h => hne h.symm); have hf1 : w1.frozen? ⟨p, 0, none⟩ = false := (World.frozen?_of_block (ha.2.1.block p (aH hp) (fun h => hne h.symm))).trans hfz)
 go_end0
 exact ⟨rfl, aF.appended hp hown hne hfp (Fr.refl _ w) ha⟩
theorem aKe (w : World) (r0 r1 r2 r3 : Nat) (_h0 : r0 < 18446744073709551616) : Calls Tryz.prog 106 #[.agg #[.int .u64 r0, .int .u64 r1, .int .u64 r2, .int .u64 r3]] w fun e w' => e = .returned (.int .u32 (IntKind.u32.wrap r0)) ∧ Fr (fun _ => False) w w' := by
 go_enter Tryz.func106, Tryz.ntmps106
 go_wp2
 go_ret
 exact ⟨rfl, (Fr.refl _ w).alloc _⟩
theorem aIn (w : World) (nb : Nat) (r0 r1 r2 r3 : Nat) (h0 : r0 < 18446744073709551616) (s : ByteArray) (null : Bool) (iv kv : Value) (hf : w.cell? ⟨nb, 1, none⟩ = some (.func (.func 106) #[] #[])) :
 Calls Tryz.prog 548 #[.agg #[.int .u64 r0, .int .u64 r1, .int .u64 r2, .int .u64 r3, .string s, .bool null, iv, kv], .pointer (some ⟨nb, 0, none⟩)] w fun e w' => e = .returned (.int .u32 (IntKind.u32.wrap r0)) ∧ Fr (fun _ => False) w w' := by
 have hf' : ∀ o, (w.alloc o).cell? ⟨nb, 1, none⟩ = some (.func (.func 106) #[] #[]) := fun o => (World.cell?_alloc_lt w o _ (World.block_lt_of_cell? w _ hf)).trans hf
 have hraw := aKe (w.alloc (.cells #[.int .u64 r0, .int .u64 r1, .int .u64 r2, .int .u64 r3, .string s, .bool null, iv, kv] 35)) r0 r1 r2 r3 h0
 go_enter Tryz.func548, Tryz.ntmps548
 go_wp2_with (go_at_call 106; refine hraw.mono ?_; rintro e w' ⟨rfl, hfr⟩)
 go_ret
 exact ⟨rfl, ((Fr.refl _ w).alloc _).trans hfr (fun _ _ h => h)⟩
theorem aBc (a : Addr) (w : World) : (method (Tryz.prog.types.size + Made.depth) 337 (.pointer (some a)) "Append").run Tryz.prog w = .ok (535, .pointer (some a)) w := by kernel_rfl
theorem uK (a : Addr) (w : World) : (method (Tryz.prog.types.size + Made.depth) 337 (.pointer (some a)) "AppendArr").run Tryz.prog w = .ok (536, .pointer (some a)) w := by kernel_rfl
theorem wU (w : World) (p nb : Nat) (n : Nat) (xs : List Value) (fp : Nat → Prop) (hc : aF w p 339 340 1 n xs fp) (hn : n < 2147483648) (hf : w.cell? ⟨nb, 1, none⟩ = some (.func (.func 106) #[] #[]))
 (r0 r1 r2 r3 : Nat) (h0 : r0 < 18446744073709551616) (s : ByteArray) (null : Bool) (iv kv : Value) :
 Calls Tryz.prog 678 #[.agg #[.iface 337 (.pointer (some ⟨p, 0, none⟩)), .func (.func 548) #[] #[.pointer (some ⟨nb, 0, none⟩)], .func (.func 549) #[] #[.pointer (some ⟨nb, 0, none⟩)]], .agg #[.int .u64 r0, .int .u64 r1, .int .u64 r2, .int .u64 r3, .string s, .bool null, iv, kv]] w fun e w' =>
  e = .returned (.tuple #[]) ∧ (∃ fp', aF w' p 339 340 1 (n + 1) (xs ++ [.int .u32 (IntKind.u32.wrap r0)]) fp' ∧ Grow w fp fp') ∧ Fr fp w w' := by
 go_enter Tryz.func678, Tryz.ntmps678
 go_wp2_with fail
 generalize hW : (w.alloc _).alloc _ = W
 have hfrW : Fr (fun _ => False) w W := by subst hW; exact ((Fr.refl _ w).alloc _).alloc _
 have d0 : W.cell? ⟨w.heap.size, 0, none⟩ = some (.iface 337 (.pointer (some ⟨p, 0, none⟩))) := by subst hW; rw [World.cell?_alloc_lt _ _ _ (by simp), aB rfl]; rfl
 have d1 : W.cell? ⟨w.heap.size, 1, none⟩ = some (.func (.func 548) #[] #[.pointer (some ⟨nb, 0, none⟩)]) := by subst hW; rw [World.cell?_alloc_lt _ _ _ (by simp), aB rfl]; rfl
 have e0 : W.cell? ⟨w.heap.size + 1, 0, none⟩ = some (.int .u64 r0) := by subst hW; rw [aB (by simp)]; rfl
 have e1 : W.cell? ⟨w.heap.size + 1, 1, none⟩ = some (.int .u64 r1) := by subst hW; rw [aB (by simp)]; rfl
 have e2 : W.cell? ⟨w.heap.size + 1, 2, none⟩ = some (.int .u64 r2) := by subst hW; rw [aB (by simp)]; rfl
 have e3 : W.cell? ⟨w.heap.size + 1, 3, none⟩ = some (.int .u64 r3) := by subst hW; rw [aB (by simp)]; rfl
 have e4 : W.cell? ⟨w.heap.size + 1, 4, none⟩ = some (.string s) := by subst hW; rw [aB (by simp)]; rfl
 have e5 : W.cell? ⟨w.heap.size + 1, 5, none⟩ = some (.bool null) := by subst hW; rw [aB (by simp)]; rfl
 have e6 : W.cell? ⟨w.heap.size + 1, 6, none⟩ = some iv := by subst hW; rw [aB (by simp)]; rfl
 have e7 : W.cell? ⟨w.heap.size + 1, 7, none⟩ = some kv := by subst hW; rw [aB (by simp)]; rfl
 have hcW : aF W p 339 340 1 n xs fp := hc.aT fun k hk => hfrW.block k (hc.lt k hk) (fun h => h)
 have hfW : W.cell? ⟨nb, 1, none⟩ = some (.func (.func 106) #[] #[]) := hfrW.aA hf (fun h => h)
 have hN : ¬ fp w.heap.size := fun h => by have := hc.lt _ h; omega
 have hN1 : ¬ fp (w.heap.size + 1) := fun h => by have := hc.lt _ h; omega
 clear hW
 go_region_held3 (fun w' => w'.cell? ⟨w.heap.size, 0, none⟩ = some (.iface 337 (.pointer (some ⟨p, 0, none⟩))) ∧ w'.cell? ⟨w.heap.size, 1, none⟩ = some (.func (.func 548) #[] #[.pointer (some ⟨nb, 0, none⟩)]) ∧
  w'.cell? ⟨w.heap.size + 1, 0, none⟩ = some (.int .u64 r0) ∧ w'.cell? ⟨w.heap.size + 1, 1, none⟩ = some (.int .u64 r1) ∧ w'.cell? ⟨w.heap.size + 1, 2, none⟩ = some (.int .u64 r2) ∧ w'.cell? ⟨w.heap.size + 1, 3, none⟩ = some (.int .u64 r3) ∧
  w'.cell? ⟨w.heap.size + 1, 4, none⟩ = some (.string s) ∧ w'.cell? ⟨w.heap.size + 1, 5, none⟩ = some (.bool null) ∧ w'.cell? ⟨w.heap.size + 1, 6, none⟩ = some iv ∧ w'.cell? ⟨w.heap.size + 1, 7, none⟩ = some kv)
  (first
   | exact ⟨d0, d1, e0, e1, e2, e3, e4, e5, e6, e7⟩
   | exact ⟨hf2.aA d0 hN, hf2.aA d1 hN, hf2.aA e0 hN1, hf2.aA e1 hN1, hf2.aA e2 hN1, hf2.aA e3 hN1, hf2.aA e4 hN1, hf2.aA e5 hN1, hf2.aA e6 hN1, hf2.aA e7 hN1⟩
   | exact ⟨hf1.aA d0 (fun h => h), hf1.aA d1 (fun h => h), hf1.aA e0 (fun h => h), hf1.aA e1 (fun h => h), hf1.aA e2 (fun h => h), hf1.aA e3 (fun h => h), hf1.aA e4 (fun h => h), hf1.aA e5 (fun h => h), hf1.aA e6 (fun h => h), hf1.aA e7 (fun h => h)⟩
   | assumption)
  (first
   | (refine aS _ rfl ?_; refine fK _ _ _ _ rfl _ _ rfl (dC.func1 Tryz.call548 (aIn _ nb r0 r1 r2 r3 h0 s null iv kv hfW)) rfl ?_; rintro e w1 ⟨rfl, hf1⟩; refine ⟨_, rfl, ?_⟩)
   | (refine aS _ rfl ?_; refine bU _ _ _ _ _ rfl _ _ rfl (aI.of1 (aBc _ _) Tryz.call535 (aDs _ p n xs fp (hcW.aT fun k hk => hf1.block k (hcW.lt k hk) (fun h => h)) hn (IntKind.u32.wrap r0))) rfl ?_; rintro e w2 ⟨rfl, hcol, hf2'⟩; have hf2 : Fr fp W w2 := (hf1.aG.mono (fun _ _ h => h.elim)).trans hf2' (fun _ _ h => h); refine ⟨_, rfl, ?_⟩))
 all_goals
  go_end0
  refine ⟨rfl, ?_, (hfrW.mono (fun _ _ h => h.elim)).trans hf2 (fun _ _ h => h)⟩
  obtain ⟨fp', h1, h2⟩ := hcol
  exact ⟨fp', h1, fun k hk => (h2 k hk).imp id (fun h => Nat.le_trans (Nat.le_trans hfrW.size hf1.size) h)⟩
def eP (c : Cell) : List Value := [.int .u32 (IntKind.u32.wrap c.r0)]
theorem aDy (w : World) (B nb : Nat) (hBw : B ≤ w.heap.size) (hf : w.cell? ⟨nb, 1, none⟩ = some (.func (.func 106) #[] #[])) (cs : List Cell) (v : Value) (xs : List Value) (hs : Sl B w 8 v cs.length xs) (hc : aC B w cs xs) (hn : cs.length ≤ 2147483648) :
 Calls Tryz.prog 681 #[v, .func (.func 548) #[] #[.pointer (some ⟨nb, 0, none⟩)]] w fun e w' => ∃ tv, e = .returned tv ∧ w'.ownsRow 0 340 1 tv cs.length (cs.flatMap eP) ∧ Fr (fun _ => False) w w' := by
 have hs' := hs
 obtain ⟨hxl, ao, cap, rfl, hnc, hcm, h0, ha⟩ := hs
 unfold maxLen at hcm
 clear ha h0 hxl
 go_enter Tryz.func681, Tryz.ntmps681
 go_wp2
 go_loopw [5, 10] (fun tv i wr => ∃ k : Nat, k ≤ cs.length ∧ i = .int .i64 k ∧ wr.ownsRow 0 340 1 tv k ((cs.take k).flatMap eP) ∧ (∀ q, tv.ownBlock = some q → w.heap.size ≤ q) ∧ Fr (fun _ => False) w wr) (fun _ i _ => cs.length - (intOf i).toNat)
 case atStart => exact ⟨0, Nat.zero_le _, rfl, World.ownsRow_nil _ _ _ _, by simp [Value.ownBlock], Fr.refl _ _⟩
 case round =>
  obtain ⟨k, hk, rfl, hown, hsince, hfr⟩ := hrel
  have hbr : Below B w wr := hfr.below hBw (fun _ _ h => h)
  obtain ⟨a0, c0, rfl⟩ := ownsRow_shape hown
  by_cases hlt : k < cs.length
  · obtain ⟨b, off, cap', hv, hbB, vs, hvs, hcell⟩ := (hs'.below hbr).row (aC.below hbr _ _ hc) hlt
    have hstep := Lib.hid (bV eP cs k hlt)
    generalize cs[k] = c at hvs hstep
    obtain ⟨ia, il, ic, ka, kl, kc, rfl, h0, h1, h2, h3, h4⟩ := hvs.open
    simp only [Value.slice.injEq] at hv
    obtain ⟨rfl, _, rfl⟩ := hv
    have d0 := hcell 0 _ rfl
    have d1 := hcell 1 _ rfl
    have d2 := hcell 2 _ rfl
    have d3 := hcell 3 _ rfl
    have d4 := hcell 4 _ rfl
    have d5 := hcell 5 _ rfl
    have d6 := hcell 6 _ rfl
    have d7 := hcell 7 _ rfl
    simp only [Nat.add_zero] at d0
    have hfa : Fr (fun _ => False) w (wr.alloc (.cells #[.int .u64 c.r0, .int .u64 c.r1, .int .u64 c.r2, .int .u64 c.r3, .string c.s, .bool c.null, .slice ia il ic, .slice ka kl kc] 35)) := hfr.alloc _
    have hin := aIn _ nb c.r0 c.r1 c.r2 c.r3 h0 c.s c.null (.slice ia il ic) (.slice ka kl kc) (hfa.aA hf (fun h => h))
    clear hcell hvs hs' hc
    go_wp2_with (first | ((with_reducible show wpList _ _ _ (⟨some 17, _, _, _, _, _⟩ :: _) _ _); refine dE _ rfl _ _ _ rfl _ _ rfl (dC.func1 Tryz.call548 hin) rfl ?_; rintro e w1 ⟨rfl, hf1⟩; refine ⟨_, rfl, ?_⟩; have hfw1 : Fr (fun _ => False) w w1 := hfa.trans hf1 (fun _ _ h => h); have hown1 := hf1.owns ((Fr.refl (fun _ => False) wr).alloc _ |>.owns hown (fun _ _ h => h)) (fun _ _ h => h)) | ((with_reducible show wpList _ _ _ (⟨some 19, _, _, _, _, _⟩ :: _) _ _); refine aP _ rfl aJU _ _ rfl _ _ _ rfl (hown1.alloc _) _ _ _ rfl (Src.ofSlice _ Tryz.underlying338 _ _ _ _ rfl (aW _ [.int .u32 (IntKind.u32.wrap c.r0)] _) (by simp [Value.oneCell'])) ?_ ?_ ?_; (unfold maxLen; omega); omega; intro v' w2 ha; obtain ⟨a', c', rfl⟩ := ha.shape))
    go_roundw
    case rel => exact ⟨k + 1, by omega, by go_num, by rw [hstep.out]; exact ha.1, (ha.since (hfw1.alloc _) hsince).1, (ha.since (hfw1.alloc _) hsince).2⟩
    case measure => simp [intOf]; omega
  · have hke : k = cs.length := by omega
    subst hke
    rw [List.take_length] at hown
    go_wp2
    go_ret
    exact ⟨_, rfl, hown, hfr⟩
theorem yD (cs : List Cell) : ∀ u ∈ cs.flatMap eP, u.oneCell' = true := by
 intro u hu
 obtain ⟨c, _, hc⟩ := List.mem_flatMap.1 hu
 simp only [eP, List.mem_cons, List.not_mem_nil, or_false] at hc
 subst hc; rfl
theorem oO (w : World) (B p nb : Nat) (hBw : B ≤ w.heap.size) (n : Nat) (xs : List Value) (fp : Nat → Prop) (hc : aF w p 339 340 1 n xs fp) (hf : w.cell? ⟨nb, 1, none⟩ = some (.func (.func 106) #[] #[]))
 (cs : List Cell) (v : Value) (ys : List Value) (hs : Sl B w 8 v cs.length ys) (hcs : aC B w cs ys) (hn : n + cs.length ≤ 2147483648) :
 Calls Tryz.prog 679 #[.agg #[.iface 337 (.pointer (some ⟨p, 0, none⟩)), .func (.func 548) #[] #[.pointer (some ⟨nb, 0, none⟩)], .func (.func 549) #[] #[.pointer (some ⟨nb, 0, none⟩)]], v] w fun e w' =>
  e = .returned (.tuple #[]) ∧ (∃ fp', aF w' p 339 340 1 (n + cs.length) (xs ++ cs.flatMap eP) fp' ∧ Grow w fp fp') ∧ Fr fp w w' := by
 go_enter Tryz.func679, Tryz.ntmps679
 go_wp2_with fail
 generalize hW : w.alloc _ = W
 have hfrW : Fr (fun _ => False) w W := by subst hW; exact (Fr.refl _ w).alloc _
 have d0 : W.cell? ⟨w.heap.size, 0, none⟩ = some (.iface 337 (.pointer (some ⟨p, 0, none⟩))) := by subst hW; rw [aB rfl]; rfl
 have d1 : W.cell? ⟨w.heap.size, 1, none⟩ = some (.func (.func 548) #[] #[.pointer (some ⟨nb, 0, none⟩)]) := by subst hW; rw [aB rfl]; rfl
 have hcW : aF W p 339 340 1 n xs fp := hc.aT fun k hk => hfrW.block k (hc.lt k hk) (fun h => h)
 have hfW : W.cell? ⟨nb, 1, none⟩ = some (.func (.func 106) #[] #[]) := hfrW.aA hf (fun h => h)
 have hN : ¬ fp w.heap.size := fun h => by have := hc.lt _ h; omega
 have hsW := hs.fr hBw hfrW
 have hcsW := aC.below (hfrW.below hBw (fun _ _ h => h)) _ _ hcs
 have hBW : B ≤ W.heap.size := Nat.le_trans hBw hfrW.size
 have hsD := hsW.fr hBW (Fr.refl (fun _ => False) W).drew
 have hcsD := aC.below ((Below.refl B W).drew) _ _ hcsW
 clear hW hs hcs
 go_region_held3 (fun w' => w'.cell? ⟨w.heap.size, 0, none⟩ = some (.iface 337 (.pointer (some ⟨p, 0, none⟩))) ∧ w'.cell? ⟨w.heap.size, 1, none⟩ = some (.func (.func 548) #[] #[.pointer (some ⟨nb, 0, none⟩)]))
  (first
   | exact ⟨d0, d1⟩
   | exact ⟨hf2.aA d0 hN, hf2.aA d1 hN⟩
   | exact ⟨hf1.aA d0 (fun h => h), hf1.aA d1 (fun h => h)⟩
   | assumption)
  (first
   | (go_at_call 681; refine (aDy W.drew B nb hBW hfW cs v ys hsD hcsD (by omega)).mono ?_; rintro e w1 ⟨tv, rfl, hown, hf1⟩)
   | (refine aS _ rfl ?_; refine bU _ _ _ _ _ rfl _ _ rfl (aI.of1 (uK _ _) Tryz.call536 (yE _ p n xs fp (hcW.aT fun k hk => hf1.block k (hcW.lt k hk) (fun h => h)) _ _ _ (Src.jH Tryz.underlying338 hown (yD cs)) hn)) rfl ?_; rintro e w2 ⟨rfl, hcol, hf2'⟩; have hf2 : Fr fp W w2 := (hf1.aG.mono (fun _ _ h => h.elim)).trans hf2' (fun _ _ h => h); refine ⟨_, rfl, ?_⟩))
 all_goals
  go_end0
  refine ⟨rfl, ?_, (hfrW.mono (fun _ _ h => h.elim)).trans hf2 (fun _ _ h => h)⟩
  obtain ⟨fp', h1, h2⟩ := hcol
  exact ⟨fp', h1, fun k hk => (h2 k hk).imp id (fun h => Nat.le_trans (Nat.le_trans hfrW.size hf1.size) h)⟩
theorem aHA (w : World) (a : Option Addr) (n c : Nat) : Calls Tryz.prog 541 #[.slice a n c] w fun e w' => e = .returned (.int .i64 n) ∧ Fr (fun _ => False) w w' := by
 go_enter Tryz.func541, Tryz.ntmps541
 go_wp2
 go_ret
 exact ⟨rfl, Fr.refl _ _⟩
theorem aBr (cs : List Cell) (k : Nat) (h : k < cs.length) : (cs.flatMap eP)[k]? = some (eP cs[k]).head! := by
 have : ∀ cs : List Cell, cs.flatMap eP = cs.map fun c => (eP c).head! := fun cs => by induction cs with | nil => rfl | cons c cs ih => rw [List.flatMap_cons, List.map_cons, ih]; rfl
 rw [this, List.getElem?_map, List.getElem?_eq_getElem h]
 rfl
theorem aEj (w : World) (b : Nat) (fb : Nat → Prop) (bs : List UInt8) (hb : Buf w b fb bs) (a : Option Addr) (c : Nat) (cs : List Cell) (hown : w.ownsRow 0 340 1 (.slice a cs.length c) cs.length (cs.flatMap eP))
 (hd : ∀ k, (Value.slice a cs.length c).ownBlock = some k → ¬ fb k) (hc : ∀ c ∈ cs, c.r0 < 18446744073709551616) (hl : bs.length + 4 * cs.length ≤ 1099511627776) :
 Calls Tryz.prog 538 #[.slice a cs.length c, .pointer (some ⟨b, 0, none⟩)] w fun e w' => e = .returned (.tuple #[]) ∧ Fr fb w w' ∧ ∃ fb', Buf w' b fb' (bs ++ cs.flatMap (aJ 4)) ∧ Grow w fb fb' := by
 by_cases h0 : cs.length = 0
 · have hcs : cs = [] := List.eq_nil_of_length_eq_zero (by omega)
   subst hcs
   go_enter Tryz.func538, Tryz.ntmps538
   go_wp2
   try simp only [Exit.inBlock, Exit.then]
   refine bodyPost_ret (results_none rfl _ _ _) rfl ?_
   exact ⟨rfl, Fr.refl _ _, fb, by simpa using hb, fun k hk => .inl hk⟩
 · have hb' := hb
   obtain ⟨v, hp, hob, hne, hfp⟩ := hb'
   obtain ⟨hcell, hfz⟩ := aF.cell hp
   obtain ⟨a0, c0, rfl⟩ := ownsRow_shape hob
   have hpl := aH hp
   have hcm : cs.length ≤ 9223372036854775807 := by omega
   go_enter Tryz.func538, Tryz.ntmps538
   go_wp2_with ((with_reducible show wpList _ _ _ (⟨some 25, _, _, _, _, _⟩ :: _) _ _); (refine cO _ rfl gU Tryz.underlying3 _ _ rfl _ _ _ rfl hob _ (4 * cs.length) rfl ?_ ?_ ?_ ?_); go_num; omega; omega; intro v' w1 ha; obtain ⟨a', c', rfl⟩ := ha.shape; have hc1 : w1.cell? ⟨b, 0, none⟩ = some (.slice a0 bs.length c0) := ha.2.1.cell hcell (fun h => hne h.symm); have hf1 : w1.frozen? ⟨b, 0, none⟩ = false := (World.frozen?_of_block (ha.2.1.block b hpl (fun h => hne h.symm))).trans hfz)
   obtain ⟨⟨fb', hcol, hgrow⟩, hfr⟩ := aF.appended hp hob hne hfp (Fr.refl _ w) ha
   generalize w1.setCell ⟨b, 0, none⟩ (Value.slice a' (bs.length + 4 * cs.length) c') = W at hcol hfr ⊢
   obtain ⟨g, cap, hot, hfb'⟩ := Hot.of hcol (by omega)
   have hownW := hfr.owns hown hd
   have hdis : ∀ k, (Value.slice a cs.length c).ownBlock = some k → k ≠ b ∧ k ≠ g := fun k hk => ⟨fun e => hd k hk ((hfp k).2 (.inl e)), fun e => by
    subst e
    rcases hgrow k ((hfb' k).2 (.inr rfl)) with h | h
    · exact hd k hk h
    · have := aK hown hk; omega⟩
   have hS : ∀ k, k < w.heap.size → (k = b ∨ k = g) → fb k := fun k hk hh => (hgrow k ((hfb' k).2 hh)).resolve_right (by omega)
   clear ha hcol hp hob hcell hfz hc1 hf1 hne hb
   go_loopw [5, 7, 30] (fun off _ i wr => ∃ k : Nat, k ≤ cs.length ∧ i = .int .i64 k ∧ off = .int .i64 (bs.length + 4 * k : Nat) ∧ Hot wr b g (bs.length + 4 * cs.length) cap (aQ (bs ++ (cs.take k).flatMap (aJ 4)) ++ List.replicate (4 * (cs.length - k)) (.int .u8 0)) ∧ Fr (fun k => k = b ∨ k = g) W wr) (fun _ _ i _ => cs.length - (intOf i).toNat)
   case atStart => exact ⟨0, Nat.zero_le _, rfl, by simp, by simpa using hot, Fr.refl _ _⟩
   case round =>
    obtain ⟨k, hk, rfl, rfl, hotk, hfrk⟩ := hrel
    by_cases hlt : k < cs.length
    · have hownr := hfrk.owns hownW (fun k hk h => by have := hdis k hk; omega)
      rcases hownr.2 with ⟨hv, _⟩ | ⟨ga, capa, cura, hv, _⟩
      · simp only [Value.slice.injEq] at hv; omega
      · simp only [Value.slice.injEq] at hv
        obtain ⟨rfl, _, rfl⟩ := hv
        have hx := hownr.cells (g := ga) rfl k _ (aBr cs k hlt)
        have hck := hc cs[k] (List.getElem_mem _)
        have hstep := bV (aJ 4) cs k hlt
        generalize cs[k] = cc at hx hck hstep
        simp only [eP, List.head!] at hx
        rw [Addr.add_lit, Nat.zero_add] at hx
        have hbc := hotk.cell
        have hgc := hotk.row
        obtain ⟨_, _, _, hNc, hcapm⟩ := hgc
        unfold maxLen at hcapm
        have hput := rW g (bs.length + 4 * k) 4 (cap - (bs.length + 4 * k)) (cc.r0 % 4294967296) (by omega) wr.drew (by omega) (hotk.drew.there (by omega)) hotk.drew.cold
        have hlen : (bs ++ (cs.take k).flatMap (aJ 4)).length = bs.length + 4 * k := by rw [List.length_append, bH _ 4 (bF 4 (by omega)), List.length_take]; congr 2; omega
        have hotn := (hotk.drew.alloc (.cells #[] 454)).put (A := aQ (bs ++ (cs.take k).flatMap (aJ 4))) (olds := List.replicate 4 (.int .u8 0)) (C := List.replicate (4 * (cs.length - (k + 1))) (.int .u8 0)) (by rw [List.append_assoc, List.replicate_append_replicate]; congr 2; omega) (aQ (Lib.leBytes 4 (cc.r0 % 4294967296))) (by simp [bG, Lib.leBytes_length]) (o := bs.length + 4 * k) (by rw [bG, hlen])
        have hw2 : Lib.leBytes 4 (cc.r0 % 4294967296) = aJ 4 cc := by rw [dI 4 (by omega)]; exact gX 4 cc.r0
        rw [hw2, ← bQ, List.append_assoc, ← hstep] at hotn
        rw [hw2] at hput
        have hfrn : Fr (fun k => k = b ∨ k = g) W ((wr.drew.alloc (.cells #[] 454)).setCells g (bs.length + 4 * k) (aQ (aJ 4 cc))) := Fr.setCells (.inl (.inr rfl)) _ _ _ (hfrk.drew.alloc _)
        have hbc2 := hotn.cell
        generalize hWn : (wr.drew.alloc (.cells #[] 454)).setCells g (bs.length + 4 * k) (aQ (aJ 4 cc)) = Wn at hput hotn hfrn hbc2
        clear hWn
        have ho : bs.length + 4 * k + 4 ≤ cap := by omega
        generalize hoff : bs.length + 4 * k = o at ho hput ⊢
        rw [Int.natCast_emod] at hput
        have s0 : (0 : Int) ≤ ↑o := by omega
        have s1 : IntKind.i64.wrap ((o : Int) + 4) = (o : Int) + 4 := by rw [IntKind.wrap_i64]; omega
        have s2 : (o : Int) ≤ (o : Int) + 4 := by omega
        have s3 : (o : Int) + 4 ≤ (cap : Int) := by omega
        have s4 : (0 : Int) ≤ (o : Int) + 4 := by omega
        have s5 : ¬ cap = o := by omega
        have s6 : ((o : Int) + 4).toNat - o = 4 := by omega
        have s7 : (IntKind.u32.wrap ↑cc.r0) = (cc.r0 : Int) % 4294967296 := by rw [IntKind.wrap_u32]
        go_wp2
        go_region_held3 (fun w' => w'.cell? ⟨b, 0, none⟩ = some (.slice (some ⟨g, 0, none⟩) (bs.length + 4 * cs.length) cap))
         (first
          | exact hbc
          | exact hbc2
          | assumption)
         (first
          | (go_at_call 233; refine hput.mono ?_; rintro e w1 ⟨rfl, rfl⟩))
        all_goals
         go_wp2
         go_roundw
         case rel => exact ⟨k + 1, by omega, by go_num, by subst hoff; go_num, hotn, hfrn⟩
         case measure => simp [intOf]; omega
    · have hke : k = cs.length := by omega
      subst hke
      go_wp2
      go_end0
      rw [List.take_length, Nat.sub_self, Nat.mul_zero, List.replicate_zero, List.append_nil] at hotk
      have hbuf := fun hfb => Hot.buf (bs := bs ++ cs.flatMap (aJ 4)) (cap := cap) (N := bs.length + 4 * cs.length) hotk (fb := fun k => k = b ∨ k = g) hfb
      exact ⟨rfl, hfr.trans hfrk hS, _, hbuf (fun k => Iff.rfl), fun k hk => hgrow k ((hfb' k).2 hk)⟩
def aCe (B p nb : Nat) (w : World) (fp : Nat → Prop) (σ : List Cell) : Prop :=
 ∃ fp0, aF w p 339 340 1 σ.length (σ.flatMap eP) fp0 ∧ w.cell? ⟨nb, 1, none⟩ = some (.func (.func 106) #[] #[]) ∧ (∀ k, fp k ↔ fp0 k ∨ k = nb) ∧ (∀ k, fp k → B ≤ k) ∧ (¬ fp0 nb) ∧ ∀ c ∈ σ, c.small
theorem aAg (p nb : Nat) (w : World) (name : String) (f : FuncId) (h : (name, f) = ("Append", 678) ∨ (name, f) = ("AppendArr", 679)) : (method (Tryz.prog.types.size + Made.depth) 627 (.agg #[.iface 337 (.pointer (some ⟨p, 0, none⟩)), .func (.func 548) #[] #[.pointer (some ⟨nb, 0, none⟩)], .func (.func 549) #[] #[.pointer (some ⟨nb, 0, none⟩)]]) name).run Tryz.prog w = .ok (f, .agg #[.iface 337 (.pointer (some ⟨p, 0, none⟩)), .func (.func 548) #[] #[.pointer (some ⟨nb, 0, none⟩)], .func (.func 549) #[] #[.pointer (some ⟨nb, 0, none⟩)]]) w := by
 rcases h with h | h <;> (simp only [Prod.mk.injEq] at h; obtain ⟨rfl, rfl⟩ := h; kernel_rfl)
theorem aEB (p nb : Nat) (w : World) (v : Value) (hv : w.cell? ⟨p, 0, none⟩ = some v) : (method (Tryz.prog.types.size + Made.depth) 627 (.agg #[.iface 337 (.pointer (some ⟨p, 0, none⟩)), .func (.func 548) #[] #[.pointer (some ⟨nb, 0, none⟩)], .func (.func 549) #[] #[.pointer (some ⟨nb, 0, none⟩)]]) "Rows").run Tryz.prog w = .ok (541, v) w := by
 obtain ⟨n, hn⟩ := fuel
 rw [hn]
 refine (bD (n := n + 1) Tryz.underlying627 rfl rfl (fun _ => by kernel_rfl) (by kernel_rfl) rfl).trans ?_
 exact aZ (n := n) false (by kernel_rfl) (bT Tryz.underlying337 (cZ Tryz.underlying339 hv))
theorem aGb (p nb : Nat) (w : World) (v : Value) (hv : w.cell? ⟨p, 0, none⟩ = some v) : (method (Tryz.prog.types.size + Made.depth) 627 (.agg #[.iface 337 (.pointer (some ⟨p, 0, none⟩)), .func (.func 548) #[] #[.pointer (some ⟨nb, 0, none⟩)], .func (.func 549) #[] #[.pointer (some ⟨nb, 0, none⟩)]]) "EncodeColumn").run Tryz.prog w = .ok (538, v) w := by
 obtain ⟨n, hn⟩ := fuel
 rw [hn]
 refine (bD (n := n + 1) Tryz.underlying627 rfl rfl (fun _ => by kernel_rfl) (by kernel_rfl) rfl).trans ?_
 exact aZ (n := n) false (by kernel_rfl) (bT Tryz.underlying337 (cZ Tryz.underlying339 hv))
theorem aCe.nb {B p nb : Nat} {w : World} {fp : Nat → Prop} {σ : List Cell} (h : aCe B p nb w fp σ) : nb < w.heap.size ∧ B ≤ nb := by
 obtain ⟨fp0, hc, hnb, hfp, hB, hne, hsm⟩ := h
 exact ⟨World.block_lt_of_cell? w _ hnb, hB nb ((hfp nb).2 (.inr rfl))⟩
theorem aCe.after {B p nb : Nat} {w w' : World} {fp fp0 : Nat → Prop} {σ τ : List Cell} (h : aCe B p nb w fp σ) (hfp : ∀ k, fp k ↔ fp0 k ∨ k = nb) (hne : ¬ fp0 nb)
 (hc : ∃ fp', aF w' p 339 340 1 τ.length (τ.flatMap eP) fp' ∧ Grow w fp0 fp') (hfr : Fr fp0 w w') (hsm : ∀ c ∈ τ, c.small) :
 Fr fp w w' ∧ ∃ fp', aCe B p nb w' fp' τ ∧ Grow w fp fp' := by
 obtain ⟨hlt, hBn⟩ := h.nb
 obtain ⟨_, _, hnb, _, hB, _, _⟩ := h
 obtain ⟨fp', hcol, hg⟩ := hc
 refine ⟨hfr.mono (fun k _ hk => (hfp k).2 (.inl hk)), fun k => fp' k ∨ k = nb, ⟨fp', hcol, hfr.aA hnb hne, fun k => Iff.rfl, ?_, ?_, hsm⟩, ?_⟩
 · rintro k (hk | rfl)
   · rcases hg k hk with hk | hk
     · exact hB k ((hfp k).2 (.inl hk))
     · omega
   · exact hBn
 · intro hk
   rcases hg nb hk with hk | hk
   · exact hne hk
   · omega
 · rintro k (hk | rfl)
   · exact (hg k hk).imp (fun hk => (hfp k).2 (.inl hk)) id
   · exact .inl ((hfp k).2 (.inr rfl))
theorem aHf (B p nb : Nat) : bI Tryz.prog B 627 (.agg #[.iface 337 (.pointer (some ⟨p, 0, none⟩)), .func (.func 548) #[] #[.pointer (some ⟨nb, 0, none⟩)], .func (.func 549) #[] #[.pointer (some ⟨nb, 0, none⟩)]]) (.num .ip4) [] (aCe B p nb) (aCe B p nb) where
 lo := by
  intro w fp σ h k hk
  have hn := h.nb
  obtain ⟨fp0, hc, hnb, hfp, hB, hne, hsm⟩ := h
  refine ⟨hB k hk, ?_⟩
  rcases (hfp k).1 hk with hk | rfl
  · exact hc.lt k hk
  · exact hn.1
 lo' := by
  intro w fp σ h k hk
  have hn := h.nb
  obtain ⟨fp0, hc, hnb, hfp, hB, hne, hsm⟩ := h
  refine ⟨hB k hk, ?_⟩
  rcases (hfp k).1 hk with hk | rfl
  · exact hc.lt k hk
  · exact hn.1
 frame := by
  intro w w' fp σ h hk
  obtain ⟨fp0, hc, hnb, hfp, hB, hne, hsm⟩ := h
  exact ⟨fp0, hc.aT fun k h => hk k ((hfp k).2 (.inl h)), (World.cell?_of_block (hk nb ((hfp nb).2 (.inr rfl)))).trans hnb, hfp, hB, hne, hsm⟩
 frame' := by
  intro w w' fp σ h hk
  obtain ⟨fp0, hc, hnb, hfp, hB, hne, hsm⟩ := h
  exact ⟨fp0, hc.aT fun k h => hk k ((hfp k).2 (.inl h)), (World.cell?_of_block (hk nb ((hfp nb).2 (.inr rfl)))).trans hnb, hfp, hB, hne, hsm⟩
 append := by
  intro w fp σ c vs h hvs hw
  have h' := h
  obtain ⟨fp0, hc, hnb, hfp, hB, hne, hsm⟩ := h'
  have hcs := hvs.small
  obtain ⟨ia, il, ic, ka, kl, kc, rfl, h0, h1, h2, h3, h4⟩ := hvs.open
  have hlen := aN (σ ++ [c])
  have hw' : wts (σ ++ [c]) ≤ 2147483648 := hw
  rw [List.length_append, List.length_singleton] at hlen
  refine aI.of1 (aAg p nb w _ _ (.inl rfl)) Tryz.call678 ((wU w p nb _ _ fp0 hc (by omega) hnb c.r0 c.r1 c.r2 c.r3 h0 c.s c.null (.slice ia il ic) (.slice ka kl kc)).mono ?_)
  rintro e w' ⟨he, hcol, hfr⟩
  refine ⟨he, h.after hfp hne ?_ hfr (fun d hd => ?_)⟩
  · rw [List.flatMap_append, List.flatMap_singleton, List.length_append, List.length_singleton]
    exact hcol
  · rcases List.mem_append.1 hd with hd | hd
    · exact hsm d hd
    · rw [List.mem_singleton.1 hd]
      exact hcs
 appendArr := by
  intro w fp σ cs v xs h hs hcs hw
  have h' := h
  obtain ⟨fp0, hc, hnb, hfp, hB, hne, hsm⟩ := h'
  have hlen := aN (σ ++ cs)
  have hw' : wts (σ ++ cs) ≤ 2147483648 := hw
  have hn := h.nb
  rw [List.length_append] at hlen
  refine aI.of1 (aAg p nb w _ _ (.inr rfl)) Tryz.call679 ((oO w B p nb (by omega) _ _ fp0 hc hnb cs v xs hs hcs (by omega)).mono ?_)
  rintro e w' ⟨he, hcol, hfr⟩
  refine ⟨he, h.after hfp hne ?_ hfr (fun d hd => ?_)⟩
  · rw [List.flatMap_append, List.length_append]
    exact hcol
  · rcases List.mem_append.1 hd with hd | hd
    · exact hsm d hd
    · exact aC.small hcs d hd
 rows := by
  intro w fp σ h
  obtain ⟨fp0, ⟨v, hp, hown, _⟩, hnb, hfp, hB, hne, hsm⟩ := h
  obtain ⟨a, c, rfl⟩ := ownsRow_shape hown
  exact aI.of0 (aEB p nb w _ (aF.cell hp).1) Tryz.call541 (aHA w a _ c)
 flat := by rintro w name (rfl | rfl | rfl) n m <;> exact eQ Tryz.underlying627 rfl rfl (fun _ => by kernel_rfl) (by kernel_rfl) rfl (by kernel_rfl) n m
 ahead := fun w => by kernel_rfl
 prepare := ⟨false, fun x w => run_typeAssert_lacksB Tryz.underlying102 (by kernel_rfl) (by kernel_rfl) _ x w, fun h => by simpa using h⟩
 state := ⟨false, fun x w => run_typeAssert_lacksB Tryz.underlying172 (by kernel_rfl) (by kernel_rfl) _ x w, by simp⟩
 encode := by
  intro w fp σ b fb bs h hw hb hd hl
  obtain ⟨fp0, ⟨v, hp, hown, hne', hfp0⟩, hnb, hfp, hB, hne, hsm⟩ := h
  obtain ⟨a, c, rfl⟩ := ownsRow_shape hown
  have hl' : (enc (.num .ip4) σ).length = 4 * σ.length := bH _ 4 (bF 4 (by omega)) σ
  exact aI.of1 (aGb p nb w _ (aF.cell hp).1) Tryz.call538 (aEj w b fb bs hb a c σ hown (fun k hk => hd k ((hfp k).2 (.inl ((hfp0 k).2 (.inr hk))))) (fun c hc => (hsm c hc).1) (by omega))
theorem aEW (w : World) : Calls Tryz.prog 50 #[.int .i64 17] w fun e w' => e = .returned (.iface 346 (.agg #[.iface 337 (.pointer (some ⟨w.heap.size, 0, none⟩)), .func (.func 106) #[] #[], .func (.func 107) #[] #[]])) ∧ w' = w.alloc (.cells #[.slice none 0 0] 339) := by
 have h : Calls Tryz.prog 83 #[.int .i64 17] w fun e w' => e = .returned (.iface 346 (.agg #[.iface 337 (.pointer (some ⟨w.heap.size, 0, none⟩)), .func (.func 106) #[] #[], .func (.func 107) #[] #[]])) ∧ w' = w.alloc (.cells #[.slice none 0 0] 339) := by
  go_enter Tryz.func83, Tryz.ntmps83
  go_wp2
  go_ret
  exact ⟨rfl, rfl⟩
 go_enter Tryz.func50, Tryz.ntmps50
 go_wp2_with (go_at_call 83; refine h.mono ?_; rintro e w1 ⟨rfl, rfl⟩)
 go_ret
 exact ⟨rfl, rfl⟩
theorem aCj (w : World) (p : Nat) : (method (Tryz.prog.types.size + Made.depth) 346 (.agg #[.iface 337 (.pointer (some ⟨p, 0, none⟩)), .func (.func 106) #[] #[], .func (.func 107) #[] #[]]) "given.example/pub-bradawl/impl.cells").run Tryz.prog w =
 .ok (547, .agg #[.iface 337 (.pointer (some ⟨p, 0, none⟩)), .func (.func 106) #[] #[], .func (.func 107) #[] #[]]) w := by
 obtain ⟨n, hn⟩ := fuel
 rw [hn]
 exact aZ (n := n + 1) false (by kernel_rfl) (dN Tryz.underlying346 rfl)
theorem aHb (w : World) (p B : Nat) (hB : B ≤ p) (hp : w.heap[p]? = some (.cells #[.slice none 0 0] 339 (0, 0))) :
 Calls Tryz.prog 547 #[.agg #[.iface 337 (.pointer (some ⟨p, 0, none⟩)), .func (.func 106) #[] #[], .func (.func 107) #[] #[]]] w fun e w' =>
  ∃ nb fp, e = .returned (.iface 627 (.agg #[.iface 337 (.pointer (some ⟨p, 0, none⟩)), .func (.func 548) #[] #[.pointer (some ⟨nb, 0, none⟩)], .func (.func 549) #[] #[.pointer (some ⟨nb, 0, none⟩)]])) ∧ aCe B p nb w' fp [] ∧ Fr (fun _ => False) w w' := by
 have hpl := aH hp
 go_enter Tryz.func547, Tryz.ntmps547
 go_wp2
 go_ret
 refine ⟨w.heap.size, fun k => k = p ∨ k = w.heap.size, rfl, ⟨fun k => k = p, ⟨.slice none 0 0, (Below.heap_alloc _ _ _ hpl).trans hp, World.ownsRow_nil _ _ _ _, by simp [Value.ownBlock], fun k => by simp [Value.ownBlock]⟩, by rw [aB rfl]; rfl, fun k => Iff.rfl, ?_, by omega, by simp⟩, (Fr.refl _ w).alloc _⟩
 rintro k (rfl | rfl) <;> omega
end Go.Proofs.YtcidlnjpabgioaaGreatDoor
