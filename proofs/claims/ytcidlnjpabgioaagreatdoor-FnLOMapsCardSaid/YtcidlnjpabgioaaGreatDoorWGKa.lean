import Derived.Test.YtcidlnjpabgioaaGreatDoorWGEnc
import Derived.Deep.RegionLaw
set_option maxHeartbeats 1000000
set_option maxRecDepth 100000
namespace Go.Proofs.YtcidlnjpabgioaaGreatDoor
open Go.RowKit
theorem aKq : ElT Tryz.prog 186 187 (.int .i8 0) 1 1 := ⟨Tryz.underlying186, info_parts (by kernel_rfl), rfl⟩
theorem aKK : ElT Tryz.prog 185 187 (.int .i8 0) 1 1 := ⟨Tryz.underlying185, info_parts (by kernel_rfl), rfl⟩
theorem aGh (w : World) (p : Nat) (n : Nat) (xs : List Value) (fp : Nat → Prop) (hc : aF w p 186 187 1 n xs fp) (hn : n < 2147483648) (x : Int) :
 Calls Tryz.prog 316 #[.pointer (some ⟨p, 0, none⟩), .int .i8 x] w fun e w' => e = .returned (.tuple #[]) ∧ (∃ fp', aF w' p 186 187 1 (n + 1) (xs ++ [.int .i8 x]) fp' ∧ Grow w fp fp') ∧ Fr fp w w' := by
 obtain ⟨v, hp, hown, hne, hfp⟩ := hc
 obtain ⟨hcell, hfz⟩ := aF.cell hp
 obtain ⟨a0, c0, rfl⟩ := ownsRow_shape hown
 have hpl := aH hp
 have hsrc : Src Tryz.prog 1 186 (.slice (some ⟨w.heap.size, 0, none⟩) 1 1) 1 [.int .i8 x] (w.alloc (.cells [.int .i8 x].toArray 187)) :=
  Src.ofSlice _ Tryz.underlying186 _ _ _ _ rfl (aW _ _ _) (by simp [Value.oneCell'])
 go_enter Tryz.func316, Tryz.ntmps316
 go_wp2_with ((with_reducible show wpList _ _ _ (⟨some 10, _, _, _, _, _⟩ :: _) _ _); (refine aP _ rfl aKq _ _ rfl _ _ _ rfl (hown.alloc _) _ _ _ rfl hsrc ?_ ?_ ?_); (unfold maxLen; omega); omega; intro v' w1 ha; obtain ⟨a', c', rfl⟩ := ha.shape; have hc1 : w1.cell? ⟨p, 0, none⟩ = some (.slice a0 n c0) := ha.2.1.cell (by simpa using (World.cell?_alloc_lt w _ _ hpl).trans hcell) (fun h => hne h.symm); have hf1 : w1.frozen? ⟨p, 0, none⟩ = false := (World.frozen?_of_block (ha.2.1.block p (by simp; omega) (fun h => hne h.symm))).trans (by rw [World.frozen?_alloc_old _ _ _ (by simp; omega)]; exact hfz))
 go_end0
 exact ⟨rfl, aF.appended hp hown hne hfp ((Fr.refl _ w).alloc _) ha⟩
theorem aAZ (w : World) (p : Nat) (n : Nat) (xs : List Value) (fp : Nat → Prop) (hc : aF w p 186 187 1 n xs fp) (m : Nat) (sv : Value) (news : List Value) (hsrc : Src Tryz.prog 1 185 sv m news w) (hn : n + m ≤ 2147483648) :
 Calls Tryz.prog 317 #[.pointer (some ⟨p, 0, none⟩), sv] w fun e w' => e = .returned (.tuple #[]) ∧ (∃ fp', aF w' p 186 187 1 (n + m) (xs ++ news) fp' ∧ Grow w fp fp') ∧ Fr fp w w' := by
 obtain ⟨v, hp, hown, hne, hfp⟩ := hc
 obtain ⟨hcell, hfz⟩ := aF.cell hp
 obtain ⟨a0, c0, rfl⟩ := ownsRow_shape hown
 go_enter Tryz.func317, Tryz.ntmps317
 go_wp2_with ((with_reducible show wpList _ _ _ (⟨some 9, _, _, _, _, _⟩ :: _) _ _); (refine aP _ rfl aKq _ _ rfl _ _ _ rfl hown _ _ _ rfl hsrc ?_ ?_ ?_); (unfold maxLen; omega); omega; intro v' w1 ha; obtain ⟨a', c', rfl⟩ := ha.shape; have hc1 : w1.cell? ⟨p, 0, none⟩ = some (.slice a0 n c0) := ha.2.1.cell hcell (fun h => hne h.symm); have hf1 : w1.frozen? ⟨p, 0, none⟩ = false := (World.frozen?_of_block (ha.2.1.block p (aH hp) (fun h => hne h.symm))).trans hfz)
 go_end0
 exact ⟨rfl, aF.appended hp hown hne hfp (Fr.refl _ w) ha⟩
theorem aKJ (w : World) (r0 r1 r2 r3 : Nat) (_h0 : r0 < 18446744073709551616) : Calls Tryz.prog 60 #[.agg #[.int .u64 r0, .int .u64 r1, .int .u64 r2, .int .u64 r3]] w fun e w' => e = .returned (.int .i8 (IntKind.i8.wrap r0)) ∧ Fr (fun _ => False) w w' := by
 go_enter Tryz.func60, Tryz.ntmps60
 go_wp2
 go_ret
 exact ⟨rfl, (Fr.refl _ w).alloc _⟩
theorem i8_in (w : World) (nb : Nat) (r0 r1 r2 r3 : Nat) (h0 : r0 < 18446744073709551616) (s : ByteArray) (null : Bool) (iv kv : Value) (hf : w.cell? ⟨nb, 1, none⟩ = some (.func (.func 60) #[] #[])) :
 Calls Tryz.prog 329 #[.agg #[.int .u64 r0, .int .u64 r1, .int .u64 r2, .int .u64 r3, .string s, .bool null, iv, kv], .pointer (some ⟨nb, 0, none⟩)] w fun e w' => e = .returned (.int .i8 (IntKind.i8.wrap r0)) ∧ Fr (fun _ => False) w w' := by
 have hf' : ∀ o, (w.alloc o).cell? ⟨nb, 1, none⟩ = some (.func (.func 60) #[] #[]) := fun o => (World.cell?_alloc_lt w o _ (World.block_lt_of_cell? w _ hf)).trans hf
 have hraw := aKJ (w.alloc (.cells #[.int .u64 r0, .int .u64 r1, .int .u64 r2, .int .u64 r3, .string s, .bool null, iv, kv] 35)) r0 r1 r2 r3 h0
 go_enter Tryz.func329, Tryz.ntmps329
 go_wp2_with (go_at_call 60; refine hraw.mono ?_; rintro e w' ⟨rfl, hfr⟩)
 go_ret
 exact ⟨rfl, ((Fr.refl _ w).alloc _).trans hfr (fun _ _ h => h)⟩
theorem aCv (a : Addr) (w : World) : (method (Tryz.prog.types.size + Made.depth) 184 (.pointer (some a)) "Append").run Tryz.prog w = .ok (316, .pointer (some a)) w := by kernel_rfl
theorem xH (a : Addr) (w : World) : (method (Tryz.prog.types.size + Made.depth) 184 (.pointer (some a)) "AppendArr").run Tryz.prog w = .ok (317, .pointer (some a)) w := by kernel_rfl
theorem yO (w : World) (p nb : Nat) (n : Nat) (xs : List Value) (fp : Nat → Prop) (hc : aF w p 186 187 1 n xs fp) (hn : n < 2147483648) (hf : w.cell? ⟨nb, 1, none⟩ = some (.func (.func 60) #[] #[]))
 (r0 r1 r2 r3 : Nat) (h0 : r0 < 18446744073709551616) (s : ByteArray) (null : Bool) (iv kv : Value) :
 Calls Tryz.prog 618 #[.agg #[.iface 184 (.pointer (some ⟨p, 0, none⟩)), .func (.func 329) #[] #[.pointer (some ⟨nb, 0, none⟩)], .func (.func 330) #[] #[.pointer (some ⟨nb, 0, none⟩)]], .agg #[.int .u64 r0, .int .u64 r1, .int .u64 r2, .int .u64 r3, .string s, .bool null, iv, kv]] w fun e w' =>
  e = .returned (.tuple #[]) ∧ (∃ fp', aF w' p 186 187 1 (n + 1) (xs ++ [.int .i8 (IntKind.i8.wrap r0)]) fp' ∧ Grow w fp fp') ∧ Fr fp w w' := by
 go_enter Tryz.func618, Tryz.ntmps618
 go_wp2_with fail
 generalize hW : (w.alloc _).alloc _ = W
 have hfrW : Fr (fun _ => False) w W := by subst hW; exact ((Fr.refl _ w).alloc _).alloc _
 have d0 : W.cell? ⟨w.heap.size, 0, none⟩ = some (.iface 184 (.pointer (some ⟨p, 0, none⟩))) := by subst hW; rw [World.cell?_alloc_lt _ _ _ (by simp), aB rfl]; rfl
 have d1 : W.cell? ⟨w.heap.size, 1, none⟩ = some (.func (.func 329) #[] #[.pointer (some ⟨nb, 0, none⟩)]) := by subst hW; rw [World.cell?_alloc_lt _ _ _ (by simp), aB rfl]; rfl
 have e0 : W.cell? ⟨w.heap.size + 1, 0, none⟩ = some (.int .u64 r0) := by subst hW; rw [aB (by simp)]; rfl
 have e1 : W.cell? ⟨w.heap.size + 1, 1, none⟩ = some (.int .u64 r1) := by subst hW; rw [aB (by simp)]; rfl
 have e2 : W.cell? ⟨w.heap.size + 1, 2, none⟩ = some (.int .u64 r2) := by subst hW; rw [aB (by simp)]; rfl
 have e3 : W.cell? ⟨w.heap.size + 1, 3, none⟩ = some (.int .u64 r3) := by subst hW; rw [aB (by simp)]; rfl
 have e4 : W.cell? ⟨w.heap.size + 1, 4, none⟩ = some (.string s) := by subst hW; rw [aB (by simp)]; rfl
 have e5 : W.cell? ⟨w.heap.size + 1, 5, none⟩ = some (.bool null) := by subst hW; rw [aB (by simp)]; rfl
 have e6 : W.cell? ⟨w.heap.size + 1, 6, none⟩ = some iv := by subst hW; rw [aB (by simp)]; rfl
 have e7 : W.cell? ⟨w.heap.size + 1, 7, none⟩ = some kv := by subst hW; rw [aB (by simp)]; rfl
 have hcW : aF W p 186 187 1 n xs fp := hc.aT fun k hk => hfrW.block k (hc.lt k hk) (fun h => h)
 have hfW : W.cell? ⟨nb, 1, none⟩ = some (.func (.func 60) #[] #[]) := hfrW.aA hf (fun h => h)
 have hN : ¬ fp w.heap.size := fun h => by have := hc.lt _ h; omega
 have hN1 : ¬ fp (w.heap.size + 1) := fun h => by have := hc.lt _ h; omega
 clear hW
 go_region_held3 (fun w' => w'.cell? ⟨w.heap.size, 0, none⟩ = some (.iface 184 (.pointer (some ⟨p, 0, none⟩))) ∧ w'.cell? ⟨w.heap.size, 1, none⟩ = some (.func (.func 329) #[] #[.pointer (some ⟨nb, 0, none⟩)]) ∧
  w'.cell? ⟨w.heap.size + 1, 0, none⟩ = some (.int .u64 r0) ∧ w'.cell? ⟨w.heap.size + 1, 1, none⟩ = some (.int .u64 r1) ∧ w'.cell? ⟨w.heap.size + 1, 2, none⟩ = some (.int .u64 r2) ∧ w'.cell? ⟨w.heap.size + 1, 3, none⟩ = some (.int .u64 r3) ∧
  w'.cell? ⟨w.heap.size + 1, 4, none⟩ = some (.string s) ∧ w'.cell? ⟨w.heap.size + 1, 5, none⟩ = some (.bool null) ∧ w'.cell? ⟨w.heap.size + 1, 6, none⟩ = some iv ∧ w'.cell? ⟨w.heap.size + 1, 7, none⟩ = some kv)
  (first
   | exact ⟨d0, d1, e0, e1, e2, e3, e4, e5, e6, e7⟩
   | exact ⟨hf2.aA d0 hN, hf2.aA d1 hN, hf2.aA e0 hN1, hf2.aA e1 hN1, hf2.aA e2 hN1, hf2.aA e3 hN1, hf2.aA e4 hN1, hf2.aA e5 hN1, hf2.aA e6 hN1, hf2.aA e7 hN1⟩
   | exact ⟨hf1.aA d0 (fun h => h), hf1.aA d1 (fun h => h), hf1.aA e0 (fun h => h), hf1.aA e1 (fun h => h), hf1.aA e2 (fun h => h), hf1.aA e3 (fun h => h), hf1.aA e4 (fun h => h), hf1.aA e5 (fun h => h), hf1.aA e6 (fun h => h), hf1.aA e7 (fun h => h)⟩
   | assumption)
  (first
   | (refine aS _ rfl ?_; refine fK _ _ _ _ rfl _ _ rfl (dC.func1 Tryz.call329 (i8_in _ nb r0 r1 r2 r3 h0 s null iv kv hfW)) rfl ?_; rintro e w1 ⟨rfl, hf1⟩; refine ⟨_, rfl, ?_⟩)
   | (refine aS _ rfl ?_; refine bU _ _ _ _ _ rfl _ _ rfl (aI.of1 (aCv _ _) Tryz.call316 (aGh _ p n xs fp (hcW.aT fun k hk => hf1.block k (hcW.lt k hk) (fun h => h)) hn (IntKind.i8.wrap r0))) rfl ?_; rintro e w2 ⟨rfl, hcol, hf2'⟩; have hf2 : Fr fp W w2 := (hf1.aG.mono (fun _ _ h => h.elim)).trans hf2' (fun _ _ h => h); refine ⟨_, rfl, ?_⟩))
 all_goals
  go_end0
  refine ⟨rfl, ?_, (hfrW.mono (fun _ _ h => h.elim)).trans hf2 (fun _ _ h => h)⟩
  obtain ⟨fp', h1, h2⟩ := hcol
  exact ⟨fp', h1, fun k hk => (h2 k hk).imp id (fun h => Nat.le_trans (Nat.le_trans hfrW.size hf1.size) h)⟩
def fJ (c : Cell) : List Value := [.int .i8 (IntKind.i8.wrap c.r0)]
theorem aGB (w : World) (B nb : Nat) (hBw : B ≤ w.heap.size) (hf : w.cell? ⟨nb, 1, none⟩ = some (.func (.func 60) #[] #[])) (cs : List Cell) (v : Value) (xs : List Value) (hs : Sl B w 8 v cs.length xs) (hc : aC B w cs xs) (hn : cs.length ≤ 2147483648) :
 Calls Tryz.prog 621 #[v, .func (.func 329) #[] #[.pointer (some ⟨nb, 0, none⟩)]] w fun e w' => ∃ tv, e = .returned tv ∧ w'.ownsRow 0 187 1 tv cs.length (cs.flatMap fJ) ∧ Fr (fun _ => False) w w' := by
 have hs' := hs
 obtain ⟨hxl, ao, cap, rfl, hnc, hcm, h0, ha⟩ := hs
 unfold maxLen at hcm
 clear ha h0 hxl
 go_enter Tryz.func621, Tryz.ntmps621
 go_wp2
 go_loopw [5, 10] (fun tv i wr => ∃ k : Nat, k ≤ cs.length ∧ i = .int .i64 k ∧ wr.ownsRow 0 187 1 tv k ((cs.take k).flatMap fJ) ∧ (∀ q, tv.ownBlock = some q → w.heap.size ≤ q) ∧ Fr (fun _ => False) w wr) (fun _ i _ => cs.length - (intOf i).toNat)
 case atStart => exact ⟨0, Nat.zero_le _, rfl, World.ownsRow_nil _ _ _ _, by simp [Value.ownBlock], Fr.refl _ _⟩
 case round =>
  obtain ⟨k, hk, rfl, hown, hsince, hfr⟩ := hrel
  have hbr : Below B w wr := hfr.below hBw (fun _ _ h => h)
  obtain ⟨a0, c0, rfl⟩ := ownsRow_shape hown
  by_cases hlt : k < cs.length
  · obtain ⟨b, off, cap', hv, hbB, vs, hvs, hcell⟩ := (hs'.below hbr).row (aC.below hbr _ _ hc) hlt
    have hstep := Lib.hid (bV fJ cs k hlt)
    generalize cs[k] = c at hvs hstep
    obtain ⟨ia, il, ic, ka, kl, kc, rfl, h0, h1, h2, h3, h4⟩ := hvs.open
    simp only [Value.slice.injEq] at hv
    obtain ⟨rfl, _, rfl⟩ := hv
    have d0 := hcell 0 _ rfl
    have d1 := hcell 1 _ rfl
    have d2 := hcell 2 _ rfl
    have d3 := hcell 3 _ rfl
    have d4 := hcell 4 _ rfl
    have d5 := hcell 5 _ rfl
    have d6 := hcell 6 _ rfl
    have d7 := hcell 7 _ rfl
    simp only [Nat.add_zero] at d0
    have hfa : Fr (fun _ => False) w (wr.alloc (.cells #[.int .u64 c.r0, .int .u64 c.r1, .int .u64 c.r2, .int .u64 c.r3, .string c.s, .bool c.null, .slice ia il ic, .slice ka kl kc] 35)) := hfr.alloc _
    have hin := i8_in _ nb c.r0 c.r1 c.r2 c.r3 h0 c.s c.null (.slice ia il ic) (.slice ka kl kc) (hfa.aA hf (fun h => h))
    clear hcell hvs hs' hc
    go_wp2_with (first | ((with_reducible show wpList _ _ _ (⟨some 17, _, _, _, _, _⟩ :: _) _ _); refine dE _ rfl _ _ _ rfl _ _ rfl (dC.func1 Tryz.call329 hin) rfl ?_; rintro e w1 ⟨rfl, hf1⟩; refine ⟨_, rfl, ?_⟩; have hfw1 : Fr (fun _ => False) w w1 := hfa.trans hf1 (fun _ _ h => h); have hown1 := hf1.owns ((Fr.refl (fun _ => False) wr).alloc _ |>.owns hown (fun _ _ h => h)) (fun _ _ h => h)) | ((with_reducible show wpList _ _ _ (⟨some 19, _, _, _, _, _⟩ :: _) _ _); refine aP _ rfl aKK _ _ rfl _ _ _ rfl (hown1.alloc _) _ _ _ rfl (Src.ofSlice _ Tryz.underlying185 _ _ _ _ rfl (aW _ [.int .i8 (IntKind.i8.wrap c.r0)] _) (by simp [Value.oneCell'])) ?_ ?_ ?_; (unfold maxLen; omega); omega; intro v' w2 ha; obtain ⟨a', c', rfl⟩ := ha.shape))
    go_roundw
    case rel => exact ⟨k + 1, by omega, by go_num, by rw [hstep.out]; exact ha.1, (ha.since (hfw1.alloc _) hsince).1, (ha.since (hfw1.alloc _) hsince).2⟩
    case measure => simp [intOf]; omega
  · have hke : k = cs.length := by omega
    subst hke
    rw [List.take_length] at hown
    go_wp2
    go_ret
    exact ⟨_, rfl, hown, hfr⟩
theorem aBk (cs : List Cell) : ∀ u ∈ cs.flatMap fJ, u.oneCell' = true := by
 intro u hu
 obtain ⟨c, _, hc⟩ := List.mem_flatMap.1 hu
 simp only [fJ, List.mem_cons, List.not_mem_nil, or_false] at hc
 subst hc; rfl
theorem qY (w : World) (B p nb : Nat) (hBw : B ≤ w.heap.size) (n : Nat) (xs : List Value) (fp : Nat → Prop) (hc : aF w p 186 187 1 n xs fp) (hf : w.cell? ⟨nb, 1, none⟩ = some (.func (.func 60) #[] #[]))
 (cs : List Cell) (v : Value) (ys : List Value) (hs : Sl B w 8 v cs.length ys) (hcs : aC B w cs ys) (hn : n + cs.length ≤ 2147483648) :
 Calls Tryz.prog 619 #[.agg #[.iface 184 (.pointer (some ⟨p, 0, none⟩)), .func (.func 329) #[] #[.pointer (some ⟨nb, 0, none⟩)], .func (.func 330) #[] #[.pointer (some ⟨nb, 0, none⟩)]], v] w fun e w' =>
  e = .returned (.tuple #[]) ∧ (∃ fp', aF w' p 186 187 1 (n + cs.length) (xs ++ cs.flatMap fJ) fp' ∧ Grow w fp fp') ∧ Fr fp w w' := by
 go_enter Tryz.func619, Tryz.ntmps619
 go_wp2_with fail
 generalize hW : w.alloc _ = W
 have hfrW : Fr (fun _ => False) w W := by subst hW; exact (Fr.refl _ w).alloc _
 have d0 : W.cell? ⟨w.heap.size, 0, none⟩ = some (.iface 184 (.pointer (some ⟨p, 0, none⟩))) := by subst hW; rw [aB rfl]; rfl
 have d1 : W.cell? ⟨w.heap.size, 1, none⟩ = some (.func (.func 329) #[] #[.pointer (some ⟨nb, 0, none⟩)]) := by subst hW; rw [aB rfl]; rfl
 have hcW : aF W p 186 187 1 n xs fp := hc.aT fun k hk => hfrW.block k (hc.lt k hk) (fun h => h)
 have hfW : W.cell? ⟨nb, 1, none⟩ = some (.func (.func 60) #[] #[]) := hfrW.aA hf (fun h => h)
 have hN : ¬ fp w.heap.size := fun h => by have := hc.lt _ h; omega
 have hsW := hs.fr hBw hfrW
 have hcsW := aC.below (hfrW.below hBw (fun _ _ h => h)) _ _ hcs
 have hBW : B ≤ W.heap.size := Nat.le_trans hBw hfrW.size
 have hsD := hsW.fr hBW (Fr.refl (fun _ => False) W).drew
 have hcsD := aC.below ((Below.refl B W).drew) _ _ hcsW
 clear hW hs hcs
 go_region_held3 (fun w' => w'.cell? ⟨w.heap.size, 0, none⟩ = some (.iface 184 (.pointer (some ⟨p, 0, none⟩))) ∧ w'.cell? ⟨w.heap.size, 1, none⟩ = some (.func (.func 329) #[] #[.pointer (some ⟨nb, 0, none⟩)]))
  (first
   | exact ⟨d0, d1⟩
   | exact ⟨hf2.aA d0 hN, hf2.aA d1 hN⟩
   | exact ⟨hf1.aA d0 (fun h => h), hf1.aA d1 (fun h => h)⟩
   | assumption)
  (first
   | (go_at_call 621; refine (aGB W.drew B nb hBW hfW cs v ys hsD hcsD (by omega)).mono ?_; rintro e w1 ⟨tv, rfl, hown, hf1⟩)
   | (refine aS _ rfl ?_; refine bU _ _ _ _ _ rfl _ _ rfl (aI.of1 (xH _ _) Tryz.call317 (aAZ _ p n xs fp (hcW.aT fun k hk => hf1.block k (hcW.lt k hk) (fun h => h)) _ _ _ (Src.jH Tryz.underlying185 hown (aBk cs)) hn)) rfl ?_; rintro e w2 ⟨rfl, hcol, hf2'⟩; have hf2 : Fr fp W w2 := (hf1.aG.mono (fun _ _ h => h.elim)).trans hf2' (fun _ _ h => h); refine ⟨_, rfl, ?_⟩))
 all_goals
  go_end0
  refine ⟨rfl, ?_, (hfrW.mono (fun _ _ h => h.elim)).trans hf2 (fun _ _ h => h)⟩
  obtain ⟨fp', h1, h2⟩ := hcol
  exact ⟨fp', h1, fun k hk => (h2 k hk).imp id (fun h => Nat.le_trans (Nat.le_trans hfrW.size hf1.size) h)⟩
theorem aJH (w : World) (a : Option Addr) (n c : Nat) : Calls Tryz.prog 322 #[.slice a n c] w fun e w' => e = .returned (.int .i64 n) ∧ Fr (fun _ => False) w w' := by
 go_enter Tryz.func322, Tryz.ntmps322
 go_wp2
 go_ret
 exact ⟨rfl, Fr.refl _ _⟩
theorem aCy (cs : List Cell) (k : Nat) (h : k < cs.length) : (cs.flatMap fJ)[k]? = some (fJ cs[k]).head! := by
 have : ∀ cs : List Cell, cs.flatMap fJ = cs.map fun c => (fJ c).head! := fun cs => by induction cs with | nil => rfl | cons c cs ih => rw [List.flatMap_cons, List.map_cons, ih]; rfl
 rw [this, List.getElem?_map, List.getElem?_eq_getElem h]
 rfl
theorem aFA (w : World) (b : Nat) (fb : Nat → Prop) (bs : List UInt8) (hb : Buf w b fb bs) (a : Option Addr) (c : Nat) (cs : List Cell) (hown : w.ownsRow 0 187 1 (.slice a cs.length c) cs.length (cs.flatMap fJ))
 (hd : ∀ k, (Value.slice a cs.length c).ownBlock = some k → ¬ fb k) (hc : ∀ c ∈ cs, c.r0 < 18446744073709551616) (hl : bs.length + 1 * cs.length ≤ 1099511627776) :
 Calls Tryz.prog 319 #[.slice a cs.length c, .pointer (some ⟨b, 0, none⟩)] w fun e w' => e = .returned (.tuple #[]) ∧ Fr fb w w' ∧ ∃ fb', Buf w' b fb' (bs ++ cs.flatMap (aJ 1)) ∧ Grow w fb fb' := by
 by_cases h0 : cs.length = 0
 · have hcs : cs = [] := List.eq_nil_of_length_eq_zero (by omega)
   subst hcs
   go_enter Tryz.func319, Tryz.ntmps319
   go_wp2
   try simp only [Exit.inBlock, Exit.then]
   refine bodyPost_ret (results_none rfl _ _ _) rfl ?_
   exact ⟨rfl, Fr.refl _ _, fb, by simpa using hb, fun k hk => .inl hk⟩
 · have hb' := hb
   obtain ⟨v, hp, hob, hne, hfp⟩ := hb'
   obtain ⟨hcell, hfz⟩ := aF.cell hp
   obtain ⟨a0, c0, rfl⟩ := ownsRow_shape hob
   have hpl := aH hp
   have hcm : cs.length ≤ 9223372036854775807 := by omega
   go_enter Tryz.func319, Tryz.ntmps319
   go_wp2_with ((with_reducible show wpList _ _ _ (⟨some 23, _, _, _, _, _⟩ :: _) _ _); (refine cO _ rfl gU Tryz.underlying3 _ _ rfl _ _ _ rfl hob _ (cs.length) rfl ?_ ?_ ?_ ?_); go_num; omega; omega; intro v' w1 ha; obtain ⟨a', c', rfl⟩ := ha.shape; have hc1 : w1.cell? ⟨b, 0, none⟩ = some (.slice a0 bs.length c0) := ha.2.1.cell hcell (fun h => hne h.symm); have hf1 : w1.frozen? ⟨b, 0, none⟩ = false := (World.frozen?_of_block (ha.2.1.block b hpl (fun h => hne h.symm))).trans hfz)
   obtain ⟨⟨fb', hcol, hgrow⟩, hfr⟩ := aF.appended hp hob hne hfp (Fr.refl _ w) ha
   generalize w1.setCell ⟨b, 0, none⟩ (Value.slice a' (bs.length + cs.length) c') = W at hcol hfr ⊢
   obtain ⟨g, cap, hot, hfb'⟩ := Hot.of hcol (by omega)
   have hownW := hfr.owns hown hd
   have hdis : ∀ k, (Value.slice a cs.length c).ownBlock = some k → k ≠ b ∧ k ≠ g := fun k hk => ⟨fun e => hd k hk ((hfp k).2 (.inl e)), fun e => by
    subst e
    rcases hgrow k ((hfb' k).2 (.inr rfl)) with h | h
    · exact hd k hk h
    · have := aK hown hk; omega⟩
   have hS : ∀ k, k < w.heap.size → (k = b ∨ k = g) → fb k := fun k hk hh => (hgrow k ((hfb' k).2 hh)).resolve_right (by omega)
   clear ha hcol hp hob hcell hfz hc1 hf1 hne hb
   go_loopw [6, 28] (fun _ i wr => ∃ k : Nat, k ≤ cs.length ∧ i = .int .i64 k ∧ Hot wr b g (bs.length + cs.length) cap (aQ (bs ++ (cs.take k).flatMap (aJ 1)) ++ List.replicate ((cs.length - k)) (.int .u8 0)) ∧ Fr (fun k => k = b ∨ k = g) W wr) (fun _ i _ => cs.length - (intOf i).toNat)
   case atStart => exact ⟨0, Nat.zero_le _, rfl, by simpa using hot, Fr.refl _ _⟩
   case round =>
    obtain ⟨k, hk, rfl, hotk, hfrk⟩ := hrel
    by_cases hlt : k < cs.length
    · have hownr := hfrk.owns hownW (fun k hk h => by have := hdis k hk; omega)
      rcases hownr.2 with ⟨hv, _⟩ | ⟨ga, capa, cura, hv, _⟩
      · simp only [Value.slice.injEq] at hv; omega
      · simp only [Value.slice.injEq] at hv
        obtain ⟨rfl, _, rfl⟩ := hv
        have hx := hownr.cells (g := ga) rfl k _ (aCy cs k hlt)
        have hck := hc cs[k] (List.getElem_mem _)
        have hstep := bV (aJ 1) cs k hlt
        generalize cs[k] = cc at hx hck hstep
        simp only [fJ, List.head!] at hx
        rw [Addr.add_lit, Nat.zero_add] at hx
        have hbc := hotk.cell
        have hgc := hotk.row
        obtain ⟨_, _, _, hNc, hcapm⟩ := hgc
        unfold maxLen at hcapm
        have hlen : (bs ++ (cs.take k).flatMap (aJ 1)).length = bs.length + k := by rw [List.length_append, bH _ 1 (bF 1 (by omega)), List.length_take]; omega
        have hotn := hotk.drew.put (A := aQ (bs ++ (cs.take k).flatMap (aJ 1))) (olds := List.replicate 1 (.int .u8 0)) (C := List.replicate ((cs.length - (k + 1))) (.int .u8 0)) (by rw [List.append_assoc, List.replicate_append_replicate]; congr 2; omega) (aQ (aJ 1 cc)) (by simp [bG, bF]) (o := k + bs.length) (by rw [bG, hlen]; omega)
        rw [← bQ, List.append_assoc, ← hstep] at hotn
        have hfrn : Fr (fun k => k = b ∨ k = g) W (wr.drew.setCells g (k + bs.length) (aQ (aJ 1 cc))) := Fr.setCells (.inl (.inr rfl)) _ _ _ hfrk.drew
        have hbc2 := hotn.cell
        have hv : aQ (aJ 1 cc) = [.int .u8 ((cc.r0 : Int) % 256)] := by
         rw [dI 1 (by omega)]
         simp only [aQ, Lib.leBytes, List.map, Lib.toUInt8_mod]
         rw [Int.natCast_emod]
         rfl
        rw [hv] at hotn hfrn hbc2
        simp only [World.setCells] at hotn hfrn hbc2
        have hga : ga ≠ g := (hdis ga rfl).2
        have hx2 := ((Fr.refl (fun k => k = g) wr.drew).setCell (p := ⟨g, k + bs.length, none⟩) (.inl rfl) (.int .u8 ((cc.r0 : Int) % 256))).aA hx hga
        obtain ⟨u0, hu0⟩ := hotk.drew.there (o := k + bs.length) (m := 1) (by omega) 0 (by omega)
        have hfz0 := hotk.drew.cold (k + bs.length)
        rw [Nat.add_zero] at hu0
        have ho : k + bs.length < bs.length + cs.length := by omega
        have s0 : (0 : Int) ≤ (k : Int) + ↑bs.length := by omega
        have s1 : IntKind.i64.wrap ((k : Int) + ↑bs.length) = (k : Int) + ↑bs.length := by rw [IntKind.wrap_i64]; omega
        have s2 : (k : Int) + ↑bs.length < (bs.length : Int) + ↑cs.length := by omega
        have s3 : ((k : Int) + ↑bs.length).toNat = k + bs.length := by omega
        have s4 : (k : Int) < (cs.length : Int) := by omega
        have s7 : IntKind.u8.wrap (IntKind.i8.wrap ↑cc.r0) = (cc.r0 : Int) % 256 := aIi _
        go_wp2
        go_region_held3 (fun w' => w'.cell? ⟨b, 0, none⟩ = some (.slice (some ⟨g, 0, none⟩) (bs.length + cs.length) cap) ∧ w'.cell? ⟨ga, k, none⟩ = some (.int .i8 (IntKind.i8.wrap cc.r0)))
         (first
          | exact ⟨hbc, hx⟩
          | exact ⟨hbc2, hx2⟩
          | assumption)
         (fail)
        all_goals
         go_wp2
         go_roundw
         case rel => exact ⟨k + 1, by omega, by go_num, hotn, hfrn⟩
         case measure => simp [intOf]; omega
    · have hke : k = cs.length := by omega
      subst hke
      go_wp2
      go_end0
      rw [List.take_length, Nat.sub_self, List.replicate_zero, List.append_nil] at hotk
      have hbuf := fun hfb => Hot.buf (bs := bs ++ cs.flatMap (aJ 1)) (cap := cap) (N := bs.length + cs.length) hotk (fb := fun k => k = b ∨ k = g) hfb
      exact ⟨rfl, hfr.trans hfrk hS, _, hbuf (fun k => Iff.rfl), fun k hk => hgrow k ((hfb' k).2 hk)⟩
def i8R (B p nb : Nat) (w : World) (fp : Nat → Prop) (σ : List Cell) : Prop :=
 ∃ fp0, aF w p 186 187 1 σ.length (σ.flatMap fJ) fp0 ∧ w.cell? ⟨nb, 1, none⟩ = some (.func (.func 60) #[] #[]) ∧ (∀ k, fp k ↔ fp0 k ∨ k = nb) ∧ (∀ k, fp k → B ≤ k) ∧ (¬ fp0 nb) ∧ ∀ c ∈ σ, c.small
theorem aCN (p nb : Nat) (w : World) (name : String) (f : FuncId) (h : (name, f) = ("Append", 618) ∨ (name, f) = ("AppendArr", 619)) : (method (Tryz.prog.types.size + Made.depth) 526 (.agg #[.iface 184 (.pointer (some ⟨p, 0, none⟩)), .func (.func 329) #[] #[.pointer (some ⟨nb, 0, none⟩)], .func (.func 330) #[] #[.pointer (some ⟨nb, 0, none⟩)]]) name).run Tryz.prog w = .ok (f, .agg #[.iface 184 (.pointer (some ⟨p, 0, none⟩)), .func (.func 329) #[] #[.pointer (some ⟨nb, 0, none⟩)], .func (.func 330) #[] #[.pointer (some ⟨nb, 0, none⟩)]]) w := by
 rcases h with h | h <;> (simp only [Prod.mk.injEq] at h; obtain ⟨rfl, rfl⟩ := h; kernel_rfl)
theorem aFN (p nb : Nat) (w : World) (v : Value) (hv : w.cell? ⟨p, 0, none⟩ = some v) : (method (Tryz.prog.types.size + Made.depth) 526 (.agg #[.iface 184 (.pointer (some ⟨p, 0, none⟩)), .func (.func 329) #[] #[.pointer (some ⟨nb, 0, none⟩)], .func (.func 330) #[] #[.pointer (some ⟨nb, 0, none⟩)]]) "Rows").run Tryz.prog w = .ok (322, v) w := by
 obtain ⟨n, hn⟩ := fuel
 rw [hn]
 refine (bD (n := n + 1) Tryz.underlying526 rfl rfl (fun _ => by kernel_rfl) (by kernel_rfl) rfl).trans ?_
 exact aZ (n := n) false (by kernel_rfl) (bT Tryz.underlying184 (cZ Tryz.underlying186 hv))
theorem aHE (p nb : Nat) (w : World) (v : Value) (hv : w.cell? ⟨p, 0, none⟩ = some v) : (method (Tryz.prog.types.size + Made.depth) 526 (.agg #[.iface 184 (.pointer (some ⟨p, 0, none⟩)), .func (.func 329) #[] #[.pointer (some ⟨nb, 0, none⟩)], .func (.func 330) #[] #[.pointer (some ⟨nb, 0, none⟩)]]) "EncodeColumn").run Tryz.prog w = .ok (319, v) w := by
 obtain ⟨n, hn⟩ := fuel
 rw [hn]
 refine (bD (n := n + 1) Tryz.underlying526 rfl rfl (fun _ => by kernel_rfl) (by kernel_rfl) rfl).trans ?_
 exact aZ (n := n) false (by kernel_rfl) (bT Tryz.underlying184 (cZ Tryz.underlying186 hv))
theorem i8R.nb {B p nb : Nat} {w : World} {fp : Nat → Prop} {σ : List Cell} (h : i8R B p nb w fp σ) : nb < w.heap.size ∧ B ≤ nb := by
 obtain ⟨fp0, hc, hnb, hfp, hB, hne, hsm⟩ := h
 exact ⟨World.block_lt_of_cell? w _ hnb, hB nb ((hfp nb).2 (.inr rfl))⟩
theorem i8R.after {B p nb : Nat} {w w' : World} {fp fp0 : Nat → Prop} {σ τ : List Cell} (h : i8R B p nb w fp σ) (hfp : ∀ k, fp k ↔ fp0 k ∨ k = nb) (hne : ¬ fp0 nb)
 (hc : ∃ fp', aF w' p 186 187 1 τ.length (τ.flatMap fJ) fp' ∧ Grow w fp0 fp') (hfr : Fr fp0 w w') (hsm : ∀ c ∈ τ, c.small) :
 Fr fp w w' ∧ ∃ fp', i8R B p nb w' fp' τ ∧ Grow w fp fp' := by
 obtain ⟨hlt, hBn⟩ := h.nb
 obtain ⟨_, _, hnb, _, hB, _, _⟩ := h
 obtain ⟨fp', hcol, hg⟩ := hc
 refine ⟨hfr.mono (fun k _ hk => (hfp k).2 (.inl hk)), fun k => fp' k ∨ k = nb, ⟨fp', hcol, hfr.aA hnb hne, fun k => Iff.rfl, ?_, ?_, hsm⟩, ?_⟩
 · rintro k (hk | rfl)
   · rcases hg k hk with hk | hk
     · exact hB k ((hfp k).2 (.inl hk))
     · omega
   · exact hBn
 · intro hk
   rcases hg nb hk with hk | hk
   · exact hne hk
   · omega
 · rintro k (hk | rfl)
   · exact (hg k hk).imp (fun hk => (hfp k).2 (.inl hk)) id
   · exact .inl ((hfp k).2 (.inr rfl))
theorem aKl (B p nb : Nat) : bI Tryz.prog B 526 (.agg #[.iface 184 (.pointer (some ⟨p, 0, none⟩)), .func (.func 329) #[] #[.pointer (some ⟨nb, 0, none⟩)], .func (.func 330) #[] #[.pointer (some ⟨nb, 0, none⟩)]]) (.num .i8) [] (i8R B p nb) (i8R B p nb) where
 lo := by
  intro w fp σ h k hk
  have hn := h.nb
  obtain ⟨fp0, hc, hnb, hfp, hB, hne, hsm⟩ := h
  refine ⟨hB k hk, ?_⟩
  rcases (hfp k).1 hk with hk | rfl
  · exact hc.lt k hk
  · exact hn.1
 lo' := by
  intro w fp σ h k hk
  have hn := h.nb
  obtain ⟨fp0, hc, hnb, hfp, hB, hne, hsm⟩ := h
  refine ⟨hB k hk, ?_⟩
  rcases (hfp k).1 hk with hk | rfl
  · exact hc.lt k hk
  · exact hn.1
 frame := by
  intro w w' fp σ h hk
  obtain ⟨fp0, hc, hnb, hfp, hB, hne, hsm⟩ := h
  exact ⟨fp0, hc.aT fun k h => hk k ((hfp k).2 (.inl h)), (World.cell?_of_block (hk nb ((hfp nb).2 (.inr rfl)))).trans hnb, hfp, hB, hne, hsm⟩
 frame' := by
  intro w w' fp σ h hk
  obtain ⟨fp0, hc, hnb, hfp, hB, hne, hsm⟩ := h
  exact ⟨fp0, hc.aT fun k h => hk k ((hfp k).2 (.inl h)), (World.cell?_of_block (hk nb ((hfp nb).2 (.inr rfl)))).trans hnb, hfp, hB, hne, hsm⟩
 append := by
  intro w fp σ c vs h hvs hw
  have h' := h
  obtain ⟨fp0, hc, hnb, hfp, hB, hne, hsm⟩ := h'
  have hcs := hvs.small
  obtain ⟨ia, il, ic, ka, kl, kc, rfl, h0, h1, h2, h3, h4⟩ := hvs.open
  have hlen := aN (σ ++ [c])
  have hw' : wts (σ ++ [c]) ≤ 2147483648 := hw
  rw [List.length_append, List.length_singleton] at hlen
  refine aI.of1 (aCN p nb w _ _ (.inl rfl)) Tryz.call618 ((yO w p nb _ _ fp0 hc (by omega) hnb c.r0 c.r1 c.r2 c.r3 h0 c.s c.null (.slice ia il ic) (.slice ka kl kc)).mono ?_)
  rintro e w' ⟨he, hcol, hfr⟩
  refine ⟨he, h.after hfp hne ?_ hfr (fun d hd => ?_)⟩
  · rw [List.flatMap_append, List.flatMap_singleton, List.length_append, List.length_singleton]
    exact hcol
  · rcases List.mem_append.1 hd with hd | hd
    · exact hsm d hd
    · rw [List.mem_singleton.1 hd]
      exact hcs
 appendArr := by
  intro w fp σ cs v xs h hs hcs hw
  have h' := h
  obtain ⟨fp0, hc, hnb, hfp, hB, hne, hsm⟩ := h'
  have hlen := aN (σ ++ cs)
  have hw' : wts (σ ++ cs) ≤ 2147483648 := hw
  have hn := h.nb
  rw [List.length_append] at hlen
  refine aI.of1 (aCN p nb w _ _ (.inr rfl)) Tryz.call619 ((qY w B p nb (by omega) _ _ fp0 hc hnb cs v xs hs hcs (by omega)).mono ?_)
  rintro e w' ⟨he, hcol, hfr⟩
  refine ⟨he, h.after hfp hne ?_ hfr (fun d hd => ?_)⟩
  · rw [List.flatMap_append, List.length_append]
    exact hcol
  · rcases List.mem_append.1 hd with hd | hd
    · exact hsm d hd
    · exact aC.small hcs d hd
 rows := by
  intro w fp σ h
  obtain ⟨fp0, ⟨v, hp, hown, _⟩, hnb, hfp, hB, hne, hsm⟩ := h
  obtain ⟨a, c, rfl⟩ := ownsRow_shape hown
  exact aI.of0 (aFN p nb w _ (aF.cell hp).1) Tryz.call322 (aJH w a _ c)
 flat := by rintro w name (rfl | rfl | rfl) n m <;> exact eQ Tryz.underlying526 rfl rfl (fun _ => by kernel_rfl) (by kernel_rfl) rfl (by kernel_rfl) n m
 ahead := fun w => by kernel_rfl
 prepare := ⟨false, fun x w => run_typeAssert_lacksB Tryz.underlying102 (by kernel_rfl) (by kernel_rfl) _ x w, fun h => by simpa using h⟩
 state := ⟨false, fun x w => run_typeAssert_lacksB Tryz.underlying172 (by kernel_rfl) (by kernel_rfl) _ x w, by simp⟩
 encode := by
  intro w fp σ b fb bs h hw hb hd hl
  obtain ⟨fp0, ⟨v, hp, hown, hne', hfp0⟩, hnb, hfp, hB, hne, hsm⟩ := h
  obtain ⟨a, c, rfl⟩ := ownsRow_shape hown
  have hl' : (enc (.num .i8) σ).length = 1 * σ.length := bH _ 1 (bF 1 (by omega)) σ
  exact aI.of1 (aHE p nb w _ (aF.cell hp).1) Tryz.call319 (aFA w b fb bs hb a c σ hown (fun k hk => hd k ((hfp k).2 (.inl ((hfp0 k).2 (.inr hk))))) (fun c hc => (hsm c hc).1) (by omega))
theorem aGo (w : World) : Calls Tryz.prog 50 #[.int .i64 1] w fun e w' => e = .returned (.iface 193 (.agg #[.iface 184 (.pointer (some ⟨w.heap.size, 0, none⟩)), .func (.func 60) #[] #[], .func (.func 61) #[] #[]])) ∧ w' = w.alloc (.cells #[.slice none 0 0] 186) := by
 go_enter Tryz.func50, Tryz.ntmps50
 go_wp2
 go_ret
 exact ⟨rfl, rfl⟩
theorem aEV (w : World) (p : Nat) : (method (Tryz.prog.types.size + Made.depth) 193 (.agg #[.iface 184 (.pointer (some ⟨p, 0, none⟩)), .func (.func 60) #[] #[], .func (.func 61) #[] #[]]) "given.example/pub-bradawl/impl.cells").run Tryz.prog w =
 .ok (328, .agg #[.iface 184 (.pointer (some ⟨p, 0, none⟩)), .func (.func 60) #[] #[], .func (.func 61) #[] #[]]) w := by
 obtain ⟨n, hn⟩ := fuel
 rw [hn]
 exact aZ (n := n + 1) false (by kernel_rfl) (dN Tryz.underlying193 rfl)
theorem aJC (w : World) (p B : Nat) (hB : B ≤ p) (hp : w.heap[p]? = some (.cells #[.slice none 0 0] 186 (0, 0))) :
 Calls Tryz.prog 328 #[.agg #[.iface 184 (.pointer (some ⟨p, 0, none⟩)), .func (.func 60) #[] #[], .func (.func 61) #[] #[]]] w fun e w' =>
  ∃ nb fp, e = .returned (.iface 526 (.agg #[.iface 184 (.pointer (some ⟨p, 0, none⟩)), .func (.func 329) #[] #[.pointer (some ⟨nb, 0, none⟩)], .func (.func 330) #[] #[.pointer (some ⟨nb, 0, none⟩)]])) ∧ i8R B p nb w' fp [] ∧ Fr (fun _ => False) w w' := by
 have hpl := aH hp
 go_enter Tryz.func328, Tryz.ntmps328
 go_wp2
 go_ret
 refine ⟨w.heap.size, fun k => k = p ∨ k = w.heap.size, rfl, ⟨fun k => k = p, ⟨.slice none 0 0, (Below.heap_alloc _ _ _ hpl).trans hp, World.ownsRow_nil _ _ _ _, by simp [Value.ownBlock], fun k => by simp [Value.ownBlock]⟩, by rw [aB rfl]; rfl, fun k => Iff.rfl, ?_, by omega, by simp⟩, (Fr.refl _ w).alloc _⟩
 rintro k (rfl | rfl) <;> omega
end Go.Proofs.YtcidlnjpabgioaaGreatDoor
namespace Go.Proofs.YtcidlnjpabgioaaGreatDoor
open Go.RowKit
theorem aIT : ElT Tryz.prog 196 197 (.int .i16 0) 1 2 := ⟨Tryz.underlying196, info_parts (by kernel_rfl), rfl⟩
theorem aKm : ElT Tryz.prog 195 197 (.int .i16 0) 1 2 := ⟨Tryz.underlying195, info_parts (by kernel_rfl), rfl⟩
theorem aEo (w : World) (p : Nat) (n : Nat) (xs : List Value) (fp : Nat → Prop) (hc : aF w p 196 197 1 n xs fp) (hn : n < 2147483648) (x : Int) :
 Calls Tryz.prog 331 #[.pointer (some ⟨p, 0, none⟩), .int .i16 x] w fun e w' => e = .returned (.tuple #[]) ∧ (∃ fp', aF w' p 196 197 1 (n + 1) (xs ++ [.int .i16 x]) fp' ∧ Grow w fp fp') ∧ Fr fp w w' := by
 obtain ⟨v, hp, hown, hne, hfp⟩ := hc
 obtain ⟨hcell, hfz⟩ := aF.cell hp
 obtain ⟨a0, c0, rfl⟩ := ownsRow_shape hown
 have hpl := aH hp
 have hsrc : Src Tryz.prog 1 196 (.slice (some ⟨w.heap.size, 0, none⟩) 1 1) 1 [.int .i16 x] (w.alloc (.cells [.int .i16 x].toArray 197)) :=
  Src.ofSlice _ Tryz.underlying196 _ _ _ _ rfl (aW _ _ _) (by simp [Value.oneCell'])
 go_enter Tryz.func331, Tryz.ntmps331
 go_wp2_with ((with_reducible show wpList _ _ _ (⟨some 10, _, _, _, _, _⟩ :: _) _ _); (refine aP _ rfl aIT _ _ rfl _ _ _ rfl (hown.alloc _) _ _ _ rfl hsrc ?_ ?_ ?_); (unfold maxLen; omega); omega; intro v' w1 ha; obtain ⟨a', c', rfl⟩ := ha.shape; have hc1 : w1.cell? ⟨p, 0, none⟩ = some (.slice a0 n c0) := ha.2.1.cell (by simpa using (World.cell?_alloc_lt w _ _ hpl).trans hcell) (fun h => hne h.symm); have hf1 : w1.frozen? ⟨p, 0, none⟩ = false := (World.frozen?_of_block (ha.2.1.block p (by simp; omega) (fun h => hne h.symm))).trans (by rw [World.frozen?_alloc_old _ _ _ (by simp; omega)]; exact hfz))
 go_end0
 exact ⟨rfl, aF.appended hp hown hne hfp ((Fr.refl _ w).alloc _) ha⟩
theorem zA (w : World) (p : Nat) (n : Nat) (xs : List Value) (fp : Nat → Prop) (hc : aF w p 196 197 1 n xs fp) (m : Nat) (sv : Value) (news : List Value) (hsrc : Src Tryz.prog 1 195 sv m news w) (hn : n + m ≤ 2147483648) :
 Calls Tryz.prog 332 #[.pointer (some ⟨p, 0, none⟩), sv] w fun e w' => e = .returned (.tuple #[]) ∧ (∃ fp', aF w' p 196 197 1 (n + m) (xs ++ news) fp' ∧ Grow w fp fp') ∧ Fr fp w w' := by
 obtain ⟨v, hp, hown, hne, hfp⟩ := hc
 obtain ⟨hcell, hfz⟩ := aF.cell hp
 obtain ⟨a0, c0, rfl⟩ := ownsRow_shape hown
 go_enter Tryz.func332, Tryz.ntmps332
 go_wp2_with ((with_reducible show wpList _ _ _ (⟨some 9, _, _, _, _, _⟩ :: _) _ _); (refine aP _ rfl aIT _ _ rfl _ _ _ rfl hown _ _ _ rfl hsrc ?_ ?_ ?_); (unfold maxLen; omega); omega; intro v' w1 ha; obtain ⟨a', c', rfl⟩ := ha.shape; have hc1 : w1.cell? ⟨p, 0, none⟩ = some (.slice a0 n c0) := ha.2.1.cell hcell (fun h => hne h.symm); have hf1 : w1.frozen? ⟨p, 0, none⟩ = false := (World.frozen?_of_block (ha.2.1.block p (aH hp) (fun h => hne h.symm))).trans hfz)
 go_end0
 exact ⟨rfl, aF.appended hp hown hne hfp (Fr.refl _ w) ha⟩
theorem aJZ (w : World) (r0 r1 r2 r3 : Nat) (_h0 : r0 < 18446744073709551616) : Calls Tryz.prog 62 #[.agg #[.int .u64 r0, .int .u64 r1, .int .u64 r2, .int .u64 r3]] w fun e w' => e = .returned (.int .i16 (IntKind.i16.wrap r0)) ∧ Fr (fun _ => False) w w' := by
 go_enter Tryz.func62, Tryz.ntmps62
 go_wp2
 go_ret
 exact ⟨rfl, (Fr.refl _ w).alloc _⟩
theorem i16_in (w : World) (nb : Nat) (r0 r1 r2 r3 : Nat) (h0 : r0 < 18446744073709551616) (s : ByteArray) (null : Bool) (iv kv : Value) (hf : w.cell? ⟨nb, 1, none⟩ = some (.func (.func 62) #[] #[])) :
 Calls Tryz.prog 344 #[.agg #[.int .u64 r0, .int .u64 r1, .int .u64 r2, .int .u64 r3, .string s, .bool null, iv, kv], .pointer (some ⟨nb, 0, none⟩)] w fun e w' => e = .returned (.int .i16 (IntKind.i16.wrap r0)) ∧ Fr (fun _ => False) w w' := by
 have hf' : ∀ o, (w.alloc o).cell? ⟨nb, 1, none⟩ = some (.func (.func 62) #[] #[]) := fun o => (World.cell?_alloc_lt w o _ (World.block_lt_of_cell? w _ hf)).trans hf
 have hraw := aJZ (w.alloc (.cells #[.int .u64 r0, .int .u64 r1, .int .u64 r2, .int .u64 r3, .string s, .bool null, iv, kv] 35)) r0 r1 r2 r3 h0
 go_enter Tryz.func344, Tryz.ntmps344
 go_wp2_with (go_at_call 62; refine hraw.mono ?_; rintro e w' ⟨rfl, hfr⟩)
 go_ret
 exact ⟨rfl, ((Fr.refl _ w).alloc _).trans hfr (fun _ _ h => h)⟩
theorem aBf (a : Addr) (w : World) : (method (Tryz.prog.types.size + Made.depth) 194 (.pointer (some a)) "Append").run Tryz.prog w = .ok (331, .pointer (some a)) w := by kernel_rfl
theorem uF (a : Addr) (w : World) : (method (Tryz.prog.types.size + Made.depth) 194 (.pointer (some a)) "AppendArr").run Tryz.prog w = .ok (332, .pointer (some a)) w := by kernel_rfl
theorem xG (w : World) (p nb : Nat) (n : Nat) (xs : List Value) (fp : Nat → Prop) (hc : aF w p 196 197 1 n xs fp) (hn : n < 2147483648) (hf : w.cell? ⟨nb, 1, none⟩ = some (.func (.func 62) #[] #[]))
 (r0 r1 r2 r3 : Nat) (h0 : r0 < 18446744073709551616) (s : ByteArray) (null : Bool) (iv kv : Value) :
 Calls Tryz.prog 622 #[.agg #[.iface 194 (.pointer (some ⟨p, 0, none⟩)), .func (.func 344) #[] #[.pointer (some ⟨nb, 0, none⟩)], .func (.func 345) #[] #[.pointer (some ⟨nb, 0, none⟩)]], .agg #[.int .u64 r0, .int .u64 r1, .int .u64 r2, .int .u64 r3, .string s, .bool null, iv, kv]] w fun e w' =>
  e = .returned (.tuple #[]) ∧ (∃ fp', aF w' p 196 197 1 (n + 1) (xs ++ [.int .i16 (IntKind.i16.wrap r0)]) fp' ∧ Grow w fp fp') ∧ Fr fp w w' := by
 go_enter Tryz.func622, Tryz.ntmps622
 go_wp2_with fail
 generalize hW : (w.alloc _).alloc _ = W
 have hfrW : Fr (fun _ => False) w W := by subst hW; exact ((Fr.refl _ w).alloc _).alloc _
 have d0 : W.cell? ⟨w.heap.size, 0, none⟩ = some (.iface 194 (.pointer (some ⟨p, 0, none⟩))) := by subst hW; rw [World.cell?_alloc_lt _ _ _ (by simp), aB rfl]; rfl
 have d1 : W.cell? ⟨w.heap.size, 1, none⟩ = some (.func (.func 344) #[] #[.pointer (some ⟨nb, 0, none⟩)]) := by subst hW; rw [World.cell?_alloc_lt _ _ _ (by simp), aB rfl]; rfl
 have e0 : W.cell? ⟨w.heap.size + 1, 0, none⟩ = some (.int .u64 r0) := by subst hW; rw [aB (by simp)]; rfl
 have e1 : W.cell? ⟨w.heap.size + 1, 1, none⟩ = some (.int .u64 r1) := by subst hW; rw [aB (by simp)]; rfl
 have e2 : W.cell? ⟨w.heap.size + 1, 2, none⟩ = some (.int .u64 r2) := by subst hW; rw [aB (by simp)]; rfl
 have e3 : W.cell? ⟨w.heap.size + 1, 3, none⟩ = some (.int .u64 r3) := by subst hW; rw [aB (by simp)]; rfl
 have e4 : W.cell? ⟨w.heap.size + 1, 4, none⟩ = some (.string s) := by subst hW; rw [aB (by simp)]; rfl
 have e5 : W.cell? ⟨w.heap.size + 1, 5, none⟩ = some (.bool null) := by subst hW; rw [aB (by simp)]; rfl
 have e6 : W.cell? ⟨w.heap.size + 1, 6, none⟩ = some iv := by subst hW; rw [aB (by simp)]; rfl
 have e7 : W.cell? ⟨w.heap.size + 1, 7, none⟩ = some kv := by subst hW; rw [aB (by simp)]; rfl
 have hcW : aF W p 196 197 1 n xs fp := hc.aT fun k hk => hfrW.block k (hc.lt k hk) (fun h => h)
 have hfW : W.cell? ⟨nb, 1, none⟩ = some (.func (.func 62) #[] #[]) := hfrW.aA hf (fun h => h)
 have hN : ¬ fp w.heap.size := fun h => by have := hc.lt _ h; omega
 have hN1 : ¬ fp (w.heap.size + 1) := fun h => by have := hc.lt _ h; omega
 clear hW
 go_region_held3 (fun w' => w'.cell? ⟨w.heap.size, 0, none⟩ = some (.iface 194 (.pointer (some ⟨p, 0, none⟩))) ∧ w'.cell? ⟨w.heap.size, 1, none⟩ = some (.func (.func 344) #[] #[.pointer (some ⟨nb, 0, none⟩)]) ∧
  w'.cell? ⟨w.heap.size + 1, 0, none⟩ = some (.int .u64 r0) ∧ w'.cell? ⟨w.heap.size + 1, 1, none⟩ = some (.int .u64 r1) ∧ w'.cell? ⟨w.heap.size + 1, 2, none⟩ = some (.int .u64 r2) ∧ w'.cell? ⟨w.heap.size + 1, 3, none⟩ = some (.int .u64 r3) ∧
  w'.cell? ⟨w.heap.size + 1, 4, none⟩ = some (.string s) ∧ w'.cell? ⟨w.heap.size + 1, 5, none⟩ = some (.bool null) ∧ w'.cell? ⟨w.heap.size + 1, 6, none⟩ = some iv ∧ w'.cell? ⟨w.heap.size + 1, 7, none⟩ = some kv)
  (first
   | exact ⟨d0, d1, e0, e1, e2, e3, e4, e5, e6, e7⟩
   | exact ⟨hf2.aA d0 hN, hf2.aA d1 hN, hf2.aA e0 hN1, hf2.aA e1 hN1, hf2.aA e2 hN1, hf2.aA e3 hN1, hf2.aA e4 hN1, hf2.aA e5 hN1, hf2.aA e6 hN1, hf2.aA e7 hN1⟩
   | exact ⟨hf1.aA d0 (fun h => h), hf1.aA d1 (fun h => h), hf1.aA e0 (fun h => h), hf1.aA e1 (fun h => h), hf1.aA e2 (fun h => h), hf1.aA e3 (fun h => h), hf1.aA e4 (fun h => h), hf1.aA e5 (fun h => h), hf1.aA e6 (fun h => h), hf1.aA e7 (fun h => h)⟩
   | assumption)
  (first
   | (refine aS _ rfl ?_; refine fK _ _ _ _ rfl _ _ rfl (dC.func1 Tryz.call344 (i16_in _ nb r0 r1 r2 r3 h0 s null iv kv hfW)) rfl ?_; rintro e w1 ⟨rfl, hf1⟩; refine ⟨_, rfl, ?_⟩)
   | (refine aS _ rfl ?_; refine bU _ _ _ _ _ rfl _ _ rfl (aI.of1 (aBf _ _) Tryz.call331 (aEo _ p n xs fp (hcW.aT fun k hk => hf1.block k (hcW.lt k hk) (fun h => h)) hn (IntKind.i16.wrap r0))) rfl ?_; rintro e w2 ⟨rfl, hcol, hf2'⟩; have hf2 : Fr fp W w2 := (hf1.aG.mono (fun _ _ h => h.elim)).trans hf2' (fun _ _ h => h); refine ⟨_, rfl, ?_⟩))
 all_goals
  go_end0
  refine ⟨rfl, ?_, (hfrW.mono (fun _ _ h => h.elim)).trans hf2 (fun _ _ h => h)⟩
  obtain ⟨fp', h1, h2⟩ := hcol
  exact ⟨fp', h1, fun k hk => (h2 k hk).imp id (fun h => Nat.le_trans (Nat.le_trans hfrW.size hf1.size) h)⟩
def eH (c : Cell) : List Value := [.int .i16 (IntKind.i16.wrap c.r0)]
theorem aDO (w : World) (B nb : Nat) (hBw : B ≤ w.heap.size) (hf : w.cell? ⟨nb, 1, none⟩ = some (.func (.func 62) #[] #[])) (cs : List Cell) (v : Value) (xs : List Value) (hs : Sl B w 8 v cs.length xs) (hc : aC B w cs xs) (hn : cs.length ≤ 2147483648) :
 Calls Tryz.prog 625 #[v, .func (.func 344) #[] #[.pointer (some ⟨nb, 0, none⟩)]] w fun e w' => ∃ tv, e = .returned tv ∧ w'.ownsRow 0 197 1 tv cs.length (cs.flatMap eH) ∧ Fr (fun _ => False) w w' := by
 have hs' := hs
 obtain ⟨hxl, ao, cap, rfl, hnc, hcm, h0, ha⟩ := hs
 unfold maxLen at hcm
 clear ha h0 hxl
 go_enter Tryz.func625, Tryz.ntmps625
 go_wp2
 go_loopw [5, 10] (fun tv i wr => ∃ k : Nat, k ≤ cs.length ∧ i = .int .i64 k ∧ wr.ownsRow 0 197 1 tv k ((cs.take k).flatMap eH) ∧ (∀ q, tv.ownBlock = some q → w.heap.size ≤ q) ∧ Fr (fun _ => False) w wr) (fun _ i _ => cs.length - (intOf i).toNat)
 case atStart => exact ⟨0, Nat.zero_le _, rfl, World.ownsRow_nil _ _ _ _, by simp [Value.ownBlock], Fr.refl _ _⟩
 case round =>
  obtain ⟨k, hk, rfl, hown, hsince, hfr⟩ := hrel
  have hbr : Below B w wr := hfr.below hBw (fun _ _ h => h)
  obtain ⟨a0, c0, rfl⟩ := ownsRow_shape hown
  by_cases hlt : k < cs.length
  · obtain ⟨b, off, cap', hv, hbB, vs, hvs, hcell⟩ := (hs'.below hbr).row (aC.below hbr _ _ hc) hlt
    have hstep := Lib.hid (bV eH cs k hlt)
    generalize cs[k] = c at hvs hstep
    obtain ⟨ia, il, ic, ka, kl, kc, rfl, h0, h1, h2, h3, h4⟩ := hvs.open
    simp only [Value.slice.injEq] at hv
    obtain ⟨rfl, _, rfl⟩ := hv
    have d0 := hcell 0 _ rfl
    have d1 := hcell 1 _ rfl
    have d2 := hcell 2 _ rfl
    have d3 := hcell 3 _ rfl
    have d4 := hcell 4 _ rfl
    have d5 := hcell 5 _ rfl
    have d6 := hcell 6 _ rfl
    have d7 := hcell 7 _ rfl
    simp only [Nat.add_zero] at d0
    have hfa : Fr (fun _ => False) w (wr.alloc (.cells #[.int .u64 c.r0, .int .u64 c.r1, .int .u64 c.r2, .int .u64 c.r3, .string c.s, .bool c.null, .slice ia il ic, .slice ka kl kc] 35)) := hfr.alloc _
    have hin := i16_in _ nb c.r0 c.r1 c.r2 c.r3 h0 c.s c.null (.slice ia il ic) (.slice ka kl kc) (hfa.aA hf (fun h => h))
    clear hcell hvs hs' hc
    go_wp2_with (first | ((with_reducible show wpList _ _ _ (⟨some 17, _, _, _, _, _⟩ :: _) _ _); refine dE _ rfl _ _ _ rfl _ _ rfl (dC.func1 Tryz.call344 hin) rfl ?_; rintro e w1 ⟨rfl, hf1⟩; refine ⟨_, rfl, ?_⟩; have hfw1 : Fr (fun _ => False) w w1 := hfa.trans hf1 (fun _ _ h => h); have hown1 := hf1.owns ((Fr.refl (fun _ => False) wr).alloc _ |>.owns hown (fun _ _ h => h)) (fun _ _ h => h)) | ((with_reducible show wpList _ _ _ (⟨some 19, _, _, _, _, _⟩ :: _) _ _); refine aP _ rfl aKm _ _ rfl _ _ _ rfl (hown1.alloc _) _ _ _ rfl (Src.ofSlice _ Tryz.underlying195 _ _ _ _ rfl (aW _ [.int .i16 (IntKind.i16.wrap c.r0)] _) (by simp [Value.oneCell'])) ?_ ?_ ?_; (unfold maxLen; omega); omega; intro v' w2 ha; obtain ⟨a', c', rfl⟩ := ha.shape))
    go_roundw
    case rel => exact ⟨k + 1, by omega, by go_num, by rw [hstep.out]; exact ha.1, (ha.since (hfw1.alloc _) hsince).1, (ha.since (hfw1.alloc _) hsince).2⟩
    case measure => simp [intOf]; omega
  · have hke : k = cs.length := by omega
    subst hke
    rw [List.take_length] at hown
    go_wp2
    go_ret
    exact ⟨_, rfl, hown, hfr⟩
theorem yU (cs : List Cell) : ∀ u ∈ cs.flatMap eH, u.oneCell' = true := by
 intro u hu
 obtain ⟨c, _, hc⟩ := List.mem_flatMap.1 hu
 simp only [eH, List.mem_cons, List.not_mem_nil, or_false] at hc
 subst hc; rfl
theorem qP (w : World) (B p nb : Nat) (hBw : B ≤ w.heap.size) (n : Nat) (xs : List Value) (fp : Nat → Prop) (hc : aF w p 196 197 1 n xs fp) (hf : w.cell? ⟨nb, 1, none⟩ = some (.func (.func 62) #[] #[]))
 (cs : List Cell) (v : Value) (ys : List Value) (hs : Sl B w 8 v cs.length ys) (hcs : aC B w cs ys) (hn : n + cs.length ≤ 2147483648) :
 Calls Tryz.prog 623 #[.agg #[.iface 194 (.pointer (some ⟨p, 0, none⟩)), .func (.func 344) #[] #[.pointer (some ⟨nb, 0, none⟩)], .func (.func 345) #[] #[.pointer (some ⟨nb, 0, none⟩)]], v] w fun e w' =>
  e = .returned (.tuple #[]) ∧ (∃ fp', aF w' p 196 197 1 (n + cs.length) (xs ++ cs.flatMap eH) fp' ∧ Grow w fp fp') ∧ Fr fp w w' := by
 go_enter Tryz.func623, Tryz.ntmps623
 go_wp2_with fail
 generalize hW : w.alloc _ = W
 have hfrW : Fr (fun _ => False) w W := by subst hW; exact (Fr.refl _ w).alloc _
 have d0 : W.cell? ⟨w.heap.size, 0, none⟩ = some (.iface 194 (.pointer (some ⟨p, 0, none⟩))) := by subst hW; rw [aB rfl]; rfl
 have d1 : W.cell? ⟨w.heap.size, 1, none⟩ = some (.func (.func 344) #[] #[.pointer (some ⟨nb, 0, none⟩)]) := by subst hW; rw [aB rfl]; rfl
 have hcW : aF W p 196 197 1 n xs fp := hc.aT fun k hk => hfrW.block k (hc.lt k hk) (fun h => h)
 have hfW : W.cell? ⟨nb, 1, none⟩ = some (.func (.func 62) #[] #[]) := hfrW.aA hf (fun h => h)
 have hN : ¬ fp w.heap.size := fun h => by have := hc.lt _ h; omega
 have hsW := hs.fr hBw hfrW
 have hcsW := aC.below (hfrW.below hBw (fun _ _ h => h)) _ _ hcs
 have hBW : B ≤ W.heap.size := Nat.le_trans hBw hfrW.size
 have hsD := hsW.fr hBW (Fr.refl (fun _ => False) W).drew
 have hcsD := aC.below ((Below.refl B W).drew) _ _ hcsW
 clear hW hs hcs
 go_region_held3 (fun w' => w'.cell? ⟨w.heap.size, 0, none⟩ = some (.iface 194 (.pointer (some ⟨p, 0, none⟩))) ∧ w'.cell? ⟨w.heap.size, 1, none⟩ = some (.func (.func 344) #[] #[.pointer (some ⟨nb, 0, none⟩)]))
  (first
   | exact ⟨d0, d1⟩
   | exact ⟨hf2.aA d0 hN, hf2.aA d1 hN⟩
   | exact ⟨hf1.aA d0 (fun h => h), hf1.aA d1 (fun h => h)⟩
   | assumption)
  (first
   | (go_at_call 625; refine (aDO W.drew B nb hBW hfW cs v ys hsD hcsD (by omega)).mono ?_; rintro e w1 ⟨tv, rfl, hown, hf1⟩)
   | (refine aS _ rfl ?_; refine bU _ _ _ _ _ rfl _ _ rfl (aI.of1 (uF _ _) Tryz.call332 (zA _ p n xs fp (hcW.aT fun k hk => hf1.block k (hcW.lt k hk) (fun h => h)) _ _ _ (Src.jH Tryz.underlying195 hown (yU cs)) hn)) rfl ?_; rintro e w2 ⟨rfl, hcol, hf2'⟩; have hf2 : Fr fp W w2 := (hf1.aG.mono (fun _ _ h => h.elim)).trans hf2' (fun _ _ h => h); refine ⟨_, rfl, ?_⟩))
 all_goals
  go_end0
  refine ⟨rfl, ?_, (hfrW.mono (fun _ _ h => h.elim)).trans hf2 (fun _ _ h => h)⟩
  obtain ⟨fp', h1, h2⟩ := hcol
  exact ⟨fp', h1, fun k hk => (h2 k hk).imp id (fun h => Nat.le_trans (Nat.le_trans hfrW.size hf1.size) h)⟩
theorem aId (w : World) (a : Option Addr) (n c : Nat) : Calls Tryz.prog 337 #[.slice a n c] w fun e w' => e = .returned (.int .i64 n) ∧ Fr (fun _ => False) w w' := by
 go_enter Tryz.func337, Tryz.ntmps337
 go_wp2
 go_ret
 exact ⟨rfl, Fr.refl _ _⟩
theorem aBh (cs : List Cell) (k : Nat) (h : k < cs.length) : (cs.flatMap eH)[k]? = some (eH cs[k]).head! := by
 have : ∀ cs : List Cell, cs.flatMap eH = cs.map fun c => (eH c).head! := fun cs => by induction cs with | nil => rfl | cons c cs ih => rw [List.flatMap_cons, List.map_cons, ih]; rfl
 rw [this, List.getElem?_map, List.getElem?_eq_getElem h]
 rfl
theorem aEZ (w : World) (b : Nat) (fb : Nat → Prop) (bs : List UInt8) (hb : Buf w b fb bs) (a : Option Addr) (c : Nat) (cs : List Cell) (hown : w.ownsRow 0 197 1 (.slice a cs.length c) cs.length (cs.flatMap eH))
 (hd : ∀ k, (Value.slice a cs.length c).ownBlock = some k → ¬ fb k) (hc : ∀ c ∈ cs, c.r0 < 18446744073709551616) (hl : bs.length + 2 * cs.length ≤ 1099511627776) :
 Calls Tryz.prog 334 #[.slice a cs.length c, .pointer (some ⟨b, 0, none⟩)] w fun e w' => e = .returned (.tuple #[]) ∧ Fr fb w w' ∧ ∃ fb', Buf w' b fb' (bs ++ cs.flatMap (aJ 2)) ∧ Grow w fb fb' := by
 by_cases h0 : cs.length = 0
 · have hcs : cs = [] := List.eq_nil_of_length_eq_zero (by omega)
   subst hcs
   go_enter Tryz.func334, Tryz.ntmps334
   go_wp2
   try simp only [Exit.inBlock, Exit.then]
   refine bodyPost_ret (results_none rfl _ _ _) rfl ?_
   exact ⟨rfl, Fr.refl _ _, fb, by simpa using hb, fun k hk => .inl hk⟩
 · have hb' := hb
   obtain ⟨v, hp, hob, hne, hfp⟩ := hb'
   obtain ⟨hcell, hfz⟩ := aF.cell hp
   obtain ⟨a0, c0, rfl⟩ := ownsRow_shape hob
   have hpl := aH hp
   have hcm : cs.length ≤ 9223372036854775807 := by omega
   go_enter Tryz.func334, Tryz.ntmps334
   go_wp2_with ((with_reducible show wpList _ _ _ (⟨some 25, _, _, _, _, _⟩ :: _) _ _); (refine cO _ rfl gU Tryz.underlying3 _ _ rfl _ _ _ rfl hob _ (2 * cs.length) rfl ?_ ?_ ?_ ?_); go_num; omega; omega; intro v' w1 ha; obtain ⟨a', c', rfl⟩ := ha.shape; have hc1 : w1.cell? ⟨b, 0, none⟩ = some (.slice a0 bs.length c0) := ha.2.1.cell hcell (fun h => hne h.symm); have hf1 : w1.frozen? ⟨b, 0, none⟩ = false := (World.frozen?_of_block (ha.2.1.block b hpl (fun h => hne h.symm))).trans hfz)
   obtain ⟨⟨fb', hcol, hgrow⟩, hfr⟩ := aF.appended hp hob hne hfp (Fr.refl _ w) ha
   generalize w1.setCell ⟨b, 0, none⟩ (Value.slice a' (bs.length + 2 * cs.length) c') = W at hcol hfr ⊢
   obtain ⟨g, cap, hot, hfb'⟩ := Hot.of hcol (by omega)
   have hownW := hfr.owns hown hd
   have hdis : ∀ k, (Value.slice a cs.length c).ownBlock = some k → k ≠ b ∧ k ≠ g := fun k hk => ⟨fun e => hd k hk ((hfp k).2 (.inl e)), fun e => by
    subst e
    rcases hgrow k ((hfb' k).2 (.inr rfl)) with h | h
    · exact hd k hk h
    · have := aK hown hk; omega⟩
   have hS : ∀ k, k < w.heap.size → (k = b ∨ k = g) → fb k := fun k hk hh => (hgrow k ((hfb' k).2 hh)).resolve_right (by omega)
   clear ha hcol hp hob hcell hfz hc1 hf1 hne hb
   go_loopw [5, 7, 30] (fun off _ i wr => ∃ k : Nat, k ≤ cs.length ∧ i = .int .i64 k ∧ off = .int .i64 (bs.length + 2 * k : Nat) ∧ Hot wr b g (bs.length + 2 * cs.length) cap (aQ (bs ++ (cs.take k).flatMap (aJ 2)) ++ List.replicate (2 * (cs.length - k)) (.int .u8 0)) ∧ Fr (fun k => k = b ∨ k = g) W wr) (fun _ _ i _ => cs.length - (intOf i).toNat)
   case atStart => exact ⟨0, Nat.zero_le _, rfl, by simp, by simpa using hot, Fr.refl _ _⟩
   case round =>
    obtain ⟨k, hk, rfl, rfl, hotk, hfrk⟩ := hrel
    by_cases hlt : k < cs.length
    · have hownr := hfrk.owns hownW (fun k hk h => by have := hdis k hk; omega)
      rcases hownr.2 with ⟨hv, _⟩ | ⟨ga, capa, cura, hv, _⟩
      · simp only [Value.slice.injEq] at hv; omega
      · simp only [Value.slice.injEq] at hv
        obtain ⟨rfl, _, rfl⟩ := hv
        have hx := hownr.cells (g := ga) rfl k _ (aBh cs k hlt)
        have hck := hc cs[k] (List.getElem_mem _)
        have hstep := bV (aJ 2) cs k hlt
        generalize cs[k] = cc at hx hck hstep
        simp only [eH, List.head!] at hx
        rw [Addr.add_lit, Nat.zero_add] at hx
        have hbc := hotk.cell
        have hgc := hotk.row
        obtain ⟨_, _, _, hNc, hcapm⟩ := hgc
        unfold maxLen at hcapm
        have hput := zX g (bs.length + 2 * k) 2 (cap - (bs.length + 2 * k)) (cc.r0 % 65536) (by omega) wr.drew (by omega) (hotk.drew.there (by omega)) hotk.drew.cold
        have hlen : (bs ++ (cs.take k).flatMap (aJ 2)).length = bs.length + 2 * k := by rw [List.length_append, bH _ 2 (bF 2 (by omega)), List.length_take]; congr 2; omega
        have hotn := (hotk.drew.alloc (.cells #[] 454)).put (A := aQ (bs ++ (cs.take k).flatMap (aJ 2))) (olds := List.replicate 2 (.int .u8 0)) (C := List.replicate (2 * (cs.length - (k + 1))) (.int .u8 0)) (by rw [List.append_assoc, List.replicate_append_replicate]; congr 2; omega) (aQ (Lib.leBytes 2 (cc.r0 % 65536))) (by simp [bG, Lib.leBytes_length]) (o := bs.length + 2 * k) (by rw [bG, hlen])
        have hw2 : Lib.leBytes 2 (cc.r0 % 65536) = aJ 2 cc := by rw [dI 2 (by omega)]; exact gX 2 cc.r0
        rw [hw2, ← bQ, List.append_assoc, ← hstep] at hotn
        rw [hw2] at hput
        have hfrn : Fr (fun k => k = b ∨ k = g) W ((wr.drew.alloc (.cells #[] 454)).setCells g (bs.length + 2 * k) (aQ (aJ 2 cc))) := Fr.setCells (.inl (.inr rfl)) _ _ _ (hfrk.drew.alloc _)
        have hbc2 := hotn.cell
        generalize hWn : (wr.drew.alloc (.cells #[] 454)).setCells g (bs.length + 2 * k) (aQ (aJ 2 cc)) = Wn at hput hotn hfrn hbc2
        clear hWn
        have ho : bs.length + 2 * k + 2 ≤ cap := by omega
        generalize hoff : bs.length + 2 * k = o at ho hput ⊢
        rw [Int.natCast_emod] at hput
        have s0 : (0 : Int) ≤ ↑o := by omega
        have s1 : IntKind.i64.wrap ((o : Int) + 2) = (o : Int) + 2 := by rw [IntKind.wrap_i64]; omega
        have s2 : (o : Int) ≤ (o : Int) + 2 := by omega
        have s3 : (o : Int) + 2 ≤ (cap : Int) := by omega
        have s4 : (0 : Int) ≤ (o : Int) + 2 := by omega
        have s5 : ¬ cap = o := by omega
        have s6 : ((o : Int) + 2).toNat - o = 2 := by omega
        have s7 : (IntKind.u16.wrap (IntKind.i16.wrap ↑cc.r0)) = (cc.r0 : Int) % 65536 := by rw [IntKind.wrap_u16, aHW]; omega
        go_wp2
        go_region_held3 (fun w' => w'.cell? ⟨b, 0, none⟩ = some (.slice (some ⟨g, 0, none⟩) (bs.length + 2 * cs.length) cap))
         (first
          | exact hbc
          | exact hbc2
          | assumption)
         (first
          | (go_at_call 232; refine hput.mono ?_; rintro e w1 ⟨rfl, rfl⟩))
        all_goals
         go_wp2
         go_roundw
         case rel => exact ⟨k + 1, by omega, by go_num, by subst hoff; go_num, hotn, hfrn⟩
         case measure => simp [intOf]; omega
    · have hke : k = cs.length := by omega
      subst hke
      go_wp2
      go_end0
      rw [List.take_length, Nat.sub_self, Nat.mul_zero, List.replicate_zero, List.append_nil] at hotk
      have hbuf := fun hfb => Hot.buf (bs := bs ++ cs.flatMap (aJ 2)) (cap := cap) (N := bs.length + 2 * cs.length) hotk (fb := fun k => k = b ∨ k = g) hfb
      exact ⟨rfl, hfr.trans hfrk hS, _, hbuf (fun k => Iff.rfl), fun k hk => hgrow k ((hfb' k).2 hk)⟩
def aCt (B p nb : Nat) (w : World) (fp : Nat → Prop) (σ : List Cell) : Prop :=
 ∃ fp0, aF w p 196 197 1 σ.length (σ.flatMap eH) fp0 ∧ w.cell? ⟨nb, 1, none⟩ = some (.func (.func 62) #[] #[]) ∧ (∀ k, fp k ↔ fp0 k ∨ k = nb) ∧ (∀ k, fp k → B ≤ k) ∧ (¬ fp0 nb) ∧ ∀ c ∈ σ, c.small
theorem aAa (p nb : Nat) (w : World) (name : String) (f : FuncId) (h : (name, f) = ("Append", 622) ∨ (name, f) = ("AppendArr", 623)) : (method (Tryz.prog.types.size + Made.depth) 533 (.agg #[.iface 194 (.pointer (some ⟨p, 0, none⟩)), .func (.func 344) #[] #[.pointer (some ⟨nb, 0, none⟩)], .func (.func 345) #[] #[.pointer (some ⟨nb, 0, none⟩)]]) name).run Tryz.prog w = .ok (f, .agg #[.iface 194 (.pointer (some ⟨p, 0, none⟩)), .func (.func 344) #[] #[.pointer (some ⟨nb, 0, none⟩)], .func (.func 345) #[] #[.pointer (some ⟨nb, 0, none⟩)]]) w := by
 rcases h with h | h <;> (simp only [Prod.mk.injEq] at h; obtain ⟨rfl, rfl⟩ := h; kernel_rfl)
theorem aEp (p nb : Nat) (w : World) (v : Value) (hv : w.cell? ⟨p, 0, none⟩ = some v) : (method (Tryz.prog.types.size + Made.depth) 533 (.agg #[.iface 194 (.pointer (some ⟨p, 0, none⟩)), .func (.func 344) #[] #[.pointer (some ⟨nb, 0, none⟩)], .func (.func 345) #[] #[.pointer (some ⟨nb, 0, none⟩)]]) "Rows").run Tryz.prog w = .ok (337, v) w := by
 obtain ⟨n, hn⟩ := fuel
 rw [hn]
 refine (bD (n := n + 1) Tryz.underlying533 rfl rfl (fun _ => by kernel_rfl) (by kernel_rfl) rfl).trans ?_
 exact aZ (n := n) false (by kernel_rfl) (bT Tryz.underlying194 (cZ Tryz.underlying196 hv))
theorem aGO (p nb : Nat) (w : World) (v : Value) (hv : w.cell? ⟨p, 0, none⟩ = some v) : (method (Tryz.prog.types.size + Made.depth) 533 (.agg #[.iface 194 (.pointer (some ⟨p, 0, none⟩)), .func (.func 344) #[] #[.pointer (some ⟨nb, 0, none⟩)], .func (.func 345) #[] #[.pointer (some ⟨nb, 0, none⟩)]]) "EncodeColumn").run Tryz.prog w = .ok (334, v) w := by
 obtain ⟨n, hn⟩ := fuel
 rw [hn]
 refine (bD (n := n + 1) Tryz.underlying533 rfl rfl (fun _ => by kernel_rfl) (by kernel_rfl) rfl).trans ?_
 exact aZ (n := n) false (by kernel_rfl) (bT Tryz.underlying194 (cZ Tryz.underlying196 hv))
theorem aCt.nb {B p nb : Nat} {w : World} {fp : Nat → Prop} {σ : List Cell} (h : aCt B p nb w fp σ) : nb < w.heap.size ∧ B ≤ nb := by
 obtain ⟨fp0, hc, hnb, hfp, hB, hne, hsm⟩ := h
 exact ⟨World.block_lt_of_cell? w _ hnb, hB nb ((hfp nb).2 (.inr rfl))⟩
theorem aCt.after {B p nb : Nat} {w w' : World} {fp fp0 : Nat → Prop} {σ τ : List Cell} (h : aCt B p nb w fp σ) (hfp : ∀ k, fp k ↔ fp0 k ∨ k = nb) (hne : ¬ fp0 nb)
 (hc : ∃ fp', aF w' p 196 197 1 τ.length (τ.flatMap eH) fp' ∧ Grow w fp0 fp') (hfr : Fr fp0 w w') (hsm : ∀ c ∈ τ, c.small) :
 Fr fp w w' ∧ ∃ fp', aCt B p nb w' fp' τ ∧ Grow w fp fp' := by
 obtain ⟨hlt, hBn⟩ := h.nb
 obtain ⟨_, _, hnb, _, hB, _, _⟩ := h
 obtain ⟨fp', hcol, hg⟩ := hc
 refine ⟨hfr.mono (fun k _ hk => (hfp k).2 (.inl hk)), fun k => fp' k ∨ k = nb, ⟨fp', hcol, hfr.aA hnb hne, fun k => Iff.rfl, ?_, ?_, hsm⟩, ?_⟩
 · rintro k (hk | rfl)
   · rcases hg k hk with hk | hk
     · exact hB k ((hfp k).2 (.inl hk))
     · omega
   · exact hBn
 · intro hk
   rcases hg nb hk with hk | hk
   · exact hne hk
   · omega
 · rintro k (hk | rfl)
   · exact (hg k hk).imp (fun hk => (hfp k).2 (.inl hk)) id
   · exact .inl ((hfp k).2 (.inr rfl))
theorem aJt (B p nb : Nat) : bI Tryz.prog B 533 (.agg #[.iface 194 (.pointer (some ⟨p, 0, none⟩)), .func (.func 344) #[] #[.pointer (some ⟨nb, 0, none⟩)], .func (.func 345) #[] #[.pointer (some ⟨nb, 0, none⟩)]]) (.num .i16) [] (aCt B p nb) (aCt B p nb) where
 lo := by
  intro w fp σ h k hk
  have hn := h.nb
  obtain ⟨fp0, hc, hnb, hfp, hB, hne, hsm⟩ := h
  refine ⟨hB k hk, ?_⟩
  rcases (hfp k).1 hk with hk | rfl
  · exact hc.lt k hk
  · exact hn.1
 lo' := by
  intro w fp σ h k hk
  have hn := h.nb
  obtain ⟨fp0, hc, hnb, hfp, hB, hne, hsm⟩ := h
  refine ⟨hB k hk, ?_⟩
  rcases (hfp k).1 hk with hk | rfl
  · exact hc.lt k hk
  · exact hn.1
 frame := by
  intro w w' fp σ h hk
  obtain ⟨fp0, hc, hnb, hfp, hB, hne, hsm⟩ := h
  exact ⟨fp0, hc.aT fun k h => hk k ((hfp k).2 (.inl h)), (World.cell?_of_block (hk nb ((hfp nb).2 (.inr rfl)))).trans hnb, hfp, hB, hne, hsm⟩
 frame' := by
  intro w w' fp σ h hk
  obtain ⟨fp0, hc, hnb, hfp, hB, hne, hsm⟩ := h
  exact ⟨fp0, hc.aT fun k h => hk k ((hfp k).2 (.inl h)), (World.cell?_of_block (hk nb ((hfp nb).2 (.inr rfl)))).trans hnb, hfp, hB, hne, hsm⟩
 append := by
  intro w fp σ c vs h hvs hw
  have h' := h
  obtain ⟨fp0, hc, hnb, hfp, hB, hne, hsm⟩ := h'
  have hcs := hvs.small
  obtain ⟨ia, il, ic, ka, kl, kc, rfl, h0, h1, h2, h3, h4⟩ := hvs.open
  have hlen := aN (σ ++ [c])
  have hw' : wts (σ ++ [c]) ≤ 2147483648 := hw
  rw [List.length_append, List.length_singleton] at hlen
  refine aI.of1 (aAa p nb w _ _ (.inl rfl)) Tryz.call622 ((xG w p nb _ _ fp0 hc (by omega) hnb c.r0 c.r1 c.r2 c.r3 h0 c.s c.null (.slice ia il ic) (.slice ka kl kc)).mono ?_)
  rintro e w' ⟨he, hcol, hfr⟩
  refine ⟨he, h.after hfp hne ?_ hfr (fun d hd => ?_)⟩
  · rw [List.flatMap_append, List.flatMap_singleton, List.length_append, List.length_singleton]
    exact hcol
  · rcases List.mem_append.1 hd with hd | hd
    · exact hsm d hd
    · rw [List.mem_singleton.1 hd]
      exact hcs
 appendArr := by
  intro w fp σ cs v xs h hs hcs hw
  have h' := h
  obtain ⟨fp0, hc, hnb, hfp, hB, hne, hsm⟩ := h'
  have hlen := aN (σ ++ cs)
  have hw' : wts (σ ++ cs) ≤ 2147483648 := hw
  have hn := h.nb
  rw [List.length_append] at hlen
  refine aI.of1 (aAa p nb w _ _ (.inr rfl)) Tryz.call623 ((qP w B p nb (by omega) _ _ fp0 hc hnb cs v xs hs hcs (by omega)).mono ?_)
  rintro e w' ⟨he, hcol, hfr⟩
  refine ⟨he, h.after hfp hne ?_ hfr (fun d hd => ?_)⟩
  · rw [List.flatMap_append, List.length_append]
    exact hcol
  · rcases List.mem_append.1 hd with hd | hd
    · exact hsm d hd
    · exact aC.small hcs d hd
 rows := by
  intro w fp σ h
  obtain ⟨fp0, ⟨v, hp, hown, _⟩, hnb, hfp, hB, hne, hsm⟩ := h
  obtain ⟨a, c, rfl⟩ := ownsRow_shape hown
  exact aI.of0 (aEp p nb w _ (aF.cell hp).1) Tryz.call337 (aId w a _ c)
 flat := by rintro w name (rfl | rfl | rfl) n m <;> exact eQ Tryz.underlying533 rfl rfl (fun _ => by kernel_rfl) (by kernel_rfl) rfl (by kernel_rfl) n m
 ahead := fun w => by kernel_rfl
 prepare := ⟨false, fun x w => run_typeAssert_lacksB Tryz.underlying102 (by kernel_rfl) (by kernel_rfl) _ x w, fun h => by simpa using h⟩
 state := ⟨false, fun x w => run_typeAssert_lacksB Tryz.underlying172 (by kernel_rfl) (by kernel_rfl) _ x w, by simp⟩
 encode := by
  intro w fp σ b fb bs h hw hb hd hl
  obtain ⟨fp0, ⟨v, hp, hown, hne', hfp0⟩, hnb, hfp, hB, hne, hsm⟩ := h
  obtain ⟨a, c, rfl⟩ := ownsRow_shape hown
  have hl' : (enc (.num .i16) σ).length = 2 * σ.length := bH _ 2 (bF 2 (by omega)) σ
  exact aI.of1 (aGO p nb w _ (aF.cell hp).1) Tryz.call334 (aEZ w b fb bs hb a c σ hown (fun k hk => hd k ((hfp k).2 (.inl ((hfp0 k).2 (.inr hk))))) (fun c hc => (hsm c hc).1) (by omega))
theorem aDS (w : World) : Calls Tryz.prog 50 #[.int .i64 2] w fun e w' => e = .returned (.iface 204 (.agg #[.iface 194 (.pointer (some ⟨w.heap.size, 0, none⟩)), .func (.func 62) #[] #[], .func (.func 63) #[] #[]])) ∧ w' = w.alloc (.cells #[.slice none 0 0] 196) := by
 go_enter Tryz.func50, Tryz.ntmps50
 go_wp2
 go_ret
 exact ⟨rfl, rfl⟩
theorem aCO (w : World) (p : Nat) : (method (Tryz.prog.types.size + Made.depth) 204 (.agg #[.iface 194 (.pointer (some ⟨p, 0, none⟩)), .func (.func 62) #[] #[], .func (.func 63) #[] #[]]) "given.example/pub-bradawl/impl.cells").run Tryz.prog w =
 .ok (343, .agg #[.iface 194 (.pointer (some ⟨p, 0, none⟩)), .func (.func 62) #[] #[], .func (.func 63) #[] #[]]) w := by
 obtain ⟨n, hn⟩ := fuel
 rw [hn]
 exact aZ (n := n + 1) false (by kernel_rfl) (dN Tryz.underlying204 rfl)
theorem aHG (w : World) (p B : Nat) (hB : B ≤ p) (hp : w.heap[p]? = some (.cells #[.slice none 0 0] 196 (0, 0))) :
 Calls Tryz.prog 343 #[.agg #[.iface 194 (.pointer (some ⟨p, 0, none⟩)), .func (.func 62) #[] #[], .func (.func 63) #[] #[]]] w fun e w' =>
  ∃ nb fp, e = .returned (.iface 533 (.agg #[.iface 194 (.pointer (some ⟨p, 0, none⟩)), .func (.func 344) #[] #[.pointer (some ⟨nb, 0, none⟩)], .func (.func 345) #[] #[.pointer (some ⟨nb, 0, none⟩)]])) ∧ aCt B p nb w' fp [] ∧ Fr (fun _ => False) w w' := by
 have hpl := aH hp
 go_enter Tryz.func343, Tryz.ntmps343
 go_wp2
 go_ret
 refine ⟨w.heap.size, fun k => k = p ∨ k = w.heap.size, rfl, ⟨fun k => k = p, ⟨.slice none 0 0, (Below.heap_alloc _ _ _ hpl).trans hp, World.ownsRow_nil _ _ _ _, by simp [Value.ownBlock], fun k => by simp [Value.ownBlock]⟩, by rw [aB rfl]; rfl, fun k => Iff.rfl, ?_, by omega, by simp⟩, (Fr.refl _ w).alloc _⟩
 rintro k (rfl | rfl) <;> omega
end Go.Proofs.YtcidlnjpabgioaaGreatDoor
