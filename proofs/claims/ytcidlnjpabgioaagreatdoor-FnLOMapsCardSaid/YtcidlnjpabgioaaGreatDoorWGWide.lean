import Derived.Test.YtcidlnjpabgioaaGreatDoorWGEnc
import Derived.Deep.RegionLaw
set_option maxHeartbeats 4000000
set_option maxRecDepth 100000
namespace Go.Proofs.YtcidlnjpabgioaaGreatDoor
open Go.RowKit
theorem Hot.aGg {w : World} {b g N cap : Nat} {A C olds : List Value} (hot : Hot w b g N cap (A ++ olds ++ C)) (hol : olds.length = 8) (v : Nat) (hv : v < 18446744073709551616) (n c : Nat) (hn : 8 ≤ n) :
 Calls Tryz.prog 175 #[.agg #[], .slice (some ⟨g, A.length, none⟩) n c, .int .u64 v] w fun e w' => e = .returned (.tuple #[]) ∧ Fr (fun k => k = g) w w' ∧ Hot w' b g N cap (A ++ aQ (Lib.leBytes 8 v) ++ C) := by
 have hN := hot.own.1
 simp only [List.length_append, Nat.mul_one] at hN
 refine (mJ g A.length n c v hv w hn (hot.there (by omega)) hot.cold).mono ?_
 rintro e w' ⟨rfl, rfl⟩
 refine ⟨rfl, Fr.setCells (S := fun k => k = g) (.inl rfl) _ _ _ ((Fr.refl _ w).alloc _), ?_⟩
 exact (hot.alloc _).put rfl _ (by simp [bG, Lib.leBytes_length, hol]) rfl
theorem aDv (w : World) (b g N cap : Nat) (A C o1 o2 : List Value) (hot : Hot w b g N cap (A ++ (o1 ++ o2) ++ C)) (h1 : o1.length = 8) (h2 : o2.length = 8) (lo hi : Nat) (hlo : lo < 18446744073709551616) (hhi : hi < 18446744073709551616)
 (o c : Nat) (ho : o = A.length) (hc : 16 ≤ c) :
 Calls Tryz.prog 385 #[.slice (some ⟨g, o, none⟩) 16 c, .agg #[.int .u64 lo, .int .u64 hi]] w fun e w' => e = .returned (.tuple #[]) ∧ Fr (fun k => k = g) w w' ∧ Hot w' b g N cap (A ++ aQ (Lib.leBytes 8 lo ++ Lib.leBytes 8 hi) ++ C) := by
 subst ho
 have hglt := hot.glt
 have hotA := hot.alloc (.cells #[.int .u64 lo, .int .u64 hi] 229)
 have hl8 : (A ++ o1).length = A.length + 8 := by simp [h1]
 have p1 := (show Hot _ b g N cap ((A ++ o1) ++ o2 ++ C) by simpa using hotA.drew).aGg h2 hi hhi 8 (c - 8) (by omega)
 rw [hl8] at p1
 have s1 : ¬ c = 8 := by omega
 have s2 : ¬ c = 0 := by omega
 have s3 : (16 : Int) ≤ (c : Int) := by omega
 have s4 : (8 : Int) ≤ (c : Int) := by omega
 have c0 : (w.alloc (.cells #[.int .u64 lo, .int .u64 hi] 229)).cell? ⟨w.heap.size, 0, none⟩ = some (.int .u64 lo) := by rw [aB rfl]; rfl
 have c1 : (w.alloc (.cells #[.int .u64 lo, .int .u64 hi] 229)).cell? ⟨w.heap.size, 1, none⟩ = some (.int .u64 hi) := by rw [aB rfl]; rfl
 have hA := (Fr.refl (fun k => k = g) w).alloc (.cells #[.int .u64 lo, .int .u64 hi] 229)
 go_enter Tryz.func385, Tryz.ntmps385
 go_wp2
 generalize hW : w.alloc (.cells #[.int .u64 lo, .int .u64 hi] 229) = W at p1 c0 c1 hA ⊢
 clear hW hotA hot
 go_region_held3 (fun w' => w'.cell? ⟨w.heap.size, 0, none⟩ = some (.int .u64 lo) ∧ w'.cell? ⟨w.heap.size, 1, none⟩ = some (.int .u64 hi))
  (first
   | exact ⟨c0, c1⟩
   | exact ⟨d0, d1⟩
   | assumption)
  (first
   | (go_at_call 175; refine p1.mono ?_; rintro e w1 ⟨rfl, hf1, hot1⟩; have d0 := hf1.drew.aG.aA c0 (by show ¬ w.heap.size = g; omega); have d1 := hf1.drew.aG.aA c1 (by show ¬ w.heap.size = g; omega)))
 all_goals
  have p2 := (show Hot _ b g N cap (A ++ o1 ++ (aQ (Lib.leBytes 8 hi) ++ C)) by simpa using hot1.drew).aGg h1 lo hlo 8 c (by omega)
  go_wp2
  go_region_held3 (fun w' => w'.cell? ⟨w.heap.size, 0, none⟩ = some (.int .u64 lo) ∧ w'.cell? ⟨w.heap.size, 1, none⟩ = some (.int .u64 hi))
   (first
    | exact ⟨d0, d1⟩
    | exact ⟨g0, g1⟩
    | assumption)
   (first
    | (go_at_call 175; refine p2.mono ?_; rintro e w2 ⟨rfl, hf2, hot2⟩; have g0 := hf2.drew.aG.aA d0 (by show ¬ w.heap.size = g; omega); have g1 := hf2.drew.aG.aA d1 (by show ¬ w.heap.size = g; omega)))
 all_goals
  go_end0
  refine ⟨rfl, (hA.trans (hf1.aG) (fun _ _ h => h)).trans (hf2.aG) (fun _ _ h => h), ?_⟩
  rw [bQ]
  simpa using hot2
theorem aEX (w : World) (b g N cap : Nat) (A C o0 o1 o2 o3 : List Value) (hot : Hot w b g N cap (A ++ (o0 ++ o1 ++ o2 ++ o3) ++ C)) (h0 : o0.length = 8) (h1 : o1.length = 8) (h2 : o2.length = 8) (h3 : o3.length = 8)
 (r0 r1 r2 r3 : Nat) (b0 : r0 < 18446744073709551616) (b1 : r1 < 18446744073709551616) (b2 : r2 < 18446744073709551616) (b3 : r3 < 18446744073709551616) (o c : Nat) (ho : o = A.length) (hc : 32 ≤ c) :
 Calls Tryz.prog 403 #[.slice (some ⟨g, o, none⟩) 32 c, .agg #[.int .u64 r0, .int .u64 r1, .int .u64 r2, .int .u64 r3]] w fun e w' => e = .returned (.tuple #[]) ∧ Fr (fun k => k = g) w w' ∧
  Hot w' b g N cap (A ++ aQ (Lib.leBytes 8 r0 ++ Lib.leBytes 8 r1 ++ Lib.leBytes 8 r2 ++ Lib.leBytes 8 r3) ++ C) := by
 subst ho
 have hglt := hot.glt
 have hotA := hot.alloc (.cells #[.int .u64 r0, .int .u64 r1, .int .u64 r2, .int .u64 r3] 298)
 have l1 : (A ++ o0).length = A.length + 8 := by simp [h0]
 have l2 : (A ++ o0 ++ o1).length = A.length + 16 := by simp [h0, h1]
 have l3 : (A ++ o0 ++ o1 ++ o2).length = A.length + 24 := by simp [h0, h1, h2]
 have p3 := (show Hot _ b g N cap ((A ++ o0 ++ o1 ++ o2) ++ o3 ++ C) by simpa using hotA.drew).aGg h3 r3 b3 8 (c - 24) (by omega)
 rw [l3] at p3
 have s24 : ¬ c = 24 := by omega
 have s16 : ¬ c = 16 := by omega
 have s8 : ¬ c = 8 := by omega
 have s0 : ¬ c = 0 := by omega
 have t32 : (32 : Int) ≤ (c : Int) := by omega
 have t24 : (24 : Int) ≤ (c : Int) := by omega
 have t16 : (16 : Int) ≤ (c : Int) := by omega
 have t8 : (8 : Int) ≤ (c : Int) := by omega
 have c0 : (w.alloc (.cells #[.int .u64 r0, .int .u64 r1, .int .u64 r2, .int .u64 r3] 298)).cell? ⟨w.heap.size, 0, none⟩ = some (.int .u64 r0) := by rw [aB rfl]; rfl
 have c1 : (w.alloc (.cells #[.int .u64 r0, .int .u64 r1, .int .u64 r2, .int .u64 r3] 298)).cell? ⟨w.heap.size, 1, none⟩ = some (.int .u64 r1) := by rw [aB rfl]; rfl
 have c2 : (w.alloc (.cells #[.int .u64 r0, .int .u64 r1, .int .u64 r2, .int .u64 r3] 298)).cell? ⟨w.heap.size, 2, none⟩ = some (.int .u64 r2) := by rw [aB rfl]; rfl
 have c3 : (w.alloc (.cells #[.int .u64 r0, .int .u64 r1, .int .u64 r2, .int .u64 r3] 298)).cell? ⟨w.heap.size, 3, none⟩ = some (.int .u64 r3) := by rw [aB rfl]; rfl
 have hA := (Fr.refl (fun k => k = g) w).alloc (.cells #[.int .u64 r0, .int .u64 r1, .int .u64 r2, .int .u64 r3] 298)
 go_enter Tryz.func403, Tryz.ntmps403
 go_wp2
 generalize hW : w.alloc (.cells #[.int .u64 r0, .int .u64 r1, .int .u64 r2, .int .u64 r3] 298) = W at p3 c0 c1 c2 c3 hA ⊢
 clear hW hotA hot
 go_region_held3 (fun w' => w'.cell? ⟨w.heap.size, 0, none⟩ = some (.int .u64 r0) ∧ w'.cell? ⟨w.heap.size, 1, none⟩ = some (.int .u64 r1) ∧ w'.cell? ⟨w.heap.size, 2, none⟩ = some (.int .u64 r2) ∧ w'.cell? ⟨w.heap.size, 3, none⟩ = some (.int .u64 r3))
  (first
   | exact ⟨c0, c1, c2, c3⟩
   | exact ⟨d0, d1, d2, d3⟩
   | assumption)
  (first
   | (go_at_call 175; refine p3.mono ?_; rintro e w3 ⟨rfl, hf3, hot3⟩; have d0 := hf3.drew.aG.aA c0 (by show ¬ w.heap.size = g; omega); have d1 := hf3.drew.aG.aA c1 (by show ¬ w.heap.size = g; omega); have d2 := hf3.drew.aG.aA c2 (by show ¬ w.heap.size = g; omega); have d3 := hf3.drew.aG.aA c3 (by show ¬ w.heap.size = g; omega)))
 all_goals
  have p2 := (show Hot _ b g N cap (A ++ o0 ++ o1 ++ o2 ++ (aQ (Lib.leBytes 8 r3) ++ C)) by simpa using hot3.drew).aGg h2 r2 b2 8 (c - 16) (by omega)
  rw [l2] at p2
  go_wp2
  go_region_held3 (fun w' => w'.cell? ⟨w.heap.size, 0, none⟩ = some (.int .u64 r0) ∧ w'.cell? ⟨w.heap.size, 1, none⟩ = some (.int .u64 r1) ∧ w'.cell? ⟨w.heap.size, 2, none⟩ = some (.int .u64 r2) ∧ w'.cell? ⟨w.heap.size, 3, none⟩ = some (.int .u64 r3))
   (first
    | exact ⟨d0, d1, d2, d3⟩
    | exact ⟨e0, e1, e2, e3⟩
    | assumption)
   (first
    | (go_at_call 175; refine p2.mono ?_; rintro e w2 ⟨rfl, hf2, hot2⟩; have e0 := hf2.drew.aG.aA d0 (by show ¬ w.heap.size = g; omega); have e1 := hf2.drew.aG.aA d1 (by show ¬ w.heap.size = g; omega); have e2 := hf2.drew.aG.aA d2 (by show ¬ w.heap.size = g; omega); have e3 := hf2.drew.aG.aA d3 (by show ¬ w.heap.size = g; omega)))
  have p1 := (show Hot _ b g N cap (A ++ o0 ++ o1 ++ (aQ (Lib.leBytes 8 r2) ++ aQ (Lib.leBytes 8 r3) ++ C)) by simpa using hot2.drew).aGg h1 r1 b1 8 (c - 8) (by omega)
  rw [l1] at p1
  go_wp2
  go_region_held3 (fun w' => w'.cell? ⟨w.heap.size, 0, none⟩ = some (.int .u64 r0) ∧ w'.cell? ⟨w.heap.size, 1, none⟩ = some (.int .u64 r1) ∧ w'.cell? ⟨w.heap.size, 2, none⟩ = some (.int .u64 r2) ∧ w'.cell? ⟨w.heap.size, 3, none⟩ = some (.int .u64 r3))
   (first
    | exact ⟨e0, e1, e2, e3⟩
    | exact ⟨f0, f1, f2, f3⟩
    | assumption)
   (first
    | (go_at_call 175; refine p1.mono ?_; rintro e w1 ⟨rfl, hf1, hot1⟩; have f0 := hf1.drew.aG.aA e0 (by show ¬ w.heap.size = g; omega); have f1 := hf1.drew.aG.aA e1 (by show ¬ w.heap.size = g; omega); have f2 := hf1.drew.aG.aA e2 (by show ¬ w.heap.size = g; omega); have f3 := hf1.drew.aG.aA e3 (by show ¬ w.heap.size = g; omega)))
  have p0 := (show Hot _ b g N cap (A ++ o0 ++ (aQ (Lib.leBytes 8 r1) ++ aQ (Lib.leBytes 8 r2) ++ aQ (Lib.leBytes 8 r3) ++ C)) by simpa using hot1.drew).aGg h0 r0 b0 8 (c - 0) (by omega)
  go_wp2
  go_region_held3 (fun w' => w'.cell? ⟨w.heap.size, 0, none⟩ = some (.int .u64 r0) ∧ w'.cell? ⟨w.heap.size, 1, none⟩ = some (.int .u64 r1) ∧ w'.cell? ⟨w.heap.size, 2, none⟩ = some (.int .u64 r2) ∧ w'.cell? ⟨w.heap.size, 3, none⟩ = some (.int .u64 r3))
   (first
    | exact ⟨f0, f1, f2, f3⟩
    | exact ⟨g0, g1, g2, g3⟩
    | assumption)
   (first
    | (go_at_call 175; refine p0.mono ?_; rintro e w0 ⟨rfl, hf0, hot0⟩; have g0 := hf0.drew.aG.aA f0 (by show ¬ w.heap.size = g; omega); have g1 := hf0.drew.aG.aA f1 (by show ¬ w.heap.size = g; omega); have g2 := hf0.drew.aG.aA f2 (by show ¬ w.heap.size = g; omega); have g3 := hf0.drew.aG.aA f3 (by show ¬ w.heap.size = g; omega)))
  go_end0
  refine ⟨rfl, (((hA.trans (hf3.aG) (fun _ _ h => h)).trans (hf2.aG) (fun _ _ h => h)).trans (hf1.aG) (fun _ _ h => h)).trans (hf0.aG) (fun _ _ h => h), ?_⟩
  simp only [bQ]
  simpa using hot0
end Go.Proofs.YtcidlnjpabgioaaGreatDoor
namespace Go.Proofs.YtcidlnjpabgioaaGreatDoor
open Go.RowKit
theorem aFd : ElT Tryz.prog 226 228 (.agg #[.int .u64 0, .int .u64 0]) 2 16 := ⟨Tryz.underlying226, info_parts (by kernel_rfl), rfl⟩
theorem aIq : ElT Tryz.prog 225 228 (.agg #[.int .u64 0, .int .u64 0]) 2 16 := ⟨Tryz.underlying225, info_parts (by kernel_rfl), rfl⟩
theorem aBS (w : World) (p : Nat) (n : Nat) (xs : List Value) (fp : Nat → Prop) (hc : aF w p 226 228 2 n xs fp) (hn : n < 2147483648) (x0 x1 : Int) :
 Calls Tryz.prog 376 #[.pointer (some ⟨p, 0, none⟩), .agg #[.int .u64 x0, .int .u64 x1]] w fun e w' => e = .returned (.tuple #[]) ∧ (∃ fp', aF w' p 226 228 2 (n + 1) (xs ++ [.int .u64 x0, .int .u64 x1]) fp' ∧ Grow w fp fp') ∧ Fr fp w w' := by
 obtain ⟨v, hp, hown, hne, hfp⟩ := hc
 obtain ⟨hcell, hfz⟩ := aF.cell hp
 obtain ⟨a0, c0, rfl⟩ := ownsRow_shape hown
 have hpl := aH hp
 go_enter Tryz.func376, Tryz.ntmps376
 go_wp2_with fail
 generalize hW : w.alloc _ = W
 have hfrW : Fr (fun _ => False) w W := by subst hW; exact (Fr.refl _ w).alloc _
 have d0 : W.cell? ⟨w.heap.size, 0, none⟩ = some (.int .u64 x0) := by subst hW; rw [aB rfl]; rfl
 have d1 : W.cell? ⟨w.heap.size, 1, none⟩ = some (.int .u64 x1) := by subst hW; rw [aB rfl]; rfl
 have hpW : W.heap[p]? = some (.cells #[.slice a0 n c0] 226 (0, 0)) := (hfrW.block p hpl (fun h => h)).trans hp
 have hownW := hfrW.owns hown (fun _ _ h => h)
 obtain ⟨hcellW, hfzW⟩ := aF.cell hpW
 have hplW := aH hpW
 clear hW
 have hpW2 : ∀ o, (W.alloc o).cell? ⟨p, 0, none⟩ = some (.slice a0 n c0) := fun o => (World.cell?_alloc_lt W o _ hplW).trans hcellW
 go_region_law (refine aS _ rfl ?_; refine dB _ aFd _ _ rfl _ _ _ rfl (hownW.alloc _) _ _ _ rfl (Src.ofSlice _ Tryz.underlying226 _ _ _ _ rfl (aW _ [.int .u64 x0, .int .u64 x1] _) (by simp [Value.oneCell'])) ?_ ?_ ?_; (unfold maxLen; omega); omega; intro v' w1 ha; obtain ⟨a', c', rfl⟩ := ha.shape; have hc1 : w1.cell? ⟨p, 0, none⟩ = some (.slice a0 n c0) := ha.2.1.cell ((((Fr.refl (fun _ => False) W).alloc _).drew).aA hcellW (fun h => h)) (fun h => hne h.symm); have hf1 : w1.frozen? ⟨p, 0, none⟩ = false := (World.frozen?_of_block (ha.2.1.block p (by simp; omega) (fun h => hne h.symm))).trans (by show (W.alloc _).frozen? _ = _; rw [World.frozen?_alloc_old _ _ _ (by simp; omega)]; exact hfzW))
 all_goals
  go_end0
  have hres := aF.appended hpW hownW hne hfp (((Fr.refl _ W).alloc _).drew) ha
  obtain ⟨⟨fp', h1, h2⟩, h3⟩ := hres
  exact ⟨rfl, ⟨fp', h1, fun k hk => (h2 k hk).imp id (fun h => Nat.le_trans hfrW.size h)⟩, (hfrW.mono (fun _ _ h => h.elim)).trans h3 (fun _ _ h => h)⟩
theorem wJ (w : World) (p : Nat) (n : Nat) (xs : List Value) (fp : Nat → Prop) (hc : aF w p 226 228 2 n xs fp) (m : Nat) (sv : Value) (news : List Value) (hsrc : Src Tryz.prog 2 225 sv m news w) (hn : n + m ≤ 2147483648) :
 Calls Tryz.prog 377 #[.pointer (some ⟨p, 0, none⟩), sv] w fun e w' => e = .returned (.tuple #[]) ∧ (∃ fp', aF w' p 226 228 2 (n + m) (xs ++ news) fp' ∧ Grow w fp fp') ∧ Fr fp w w' := by
 obtain ⟨v, hp, hown, hne, hfp⟩ := hc
 obtain ⟨hcell, hfz⟩ := aF.cell hp
 obtain ⟨a0, c0, rfl⟩ := ownsRow_shape hown
 go_enter Tryz.func377, Tryz.ntmps377
 go_wp2_with ((with_reducible show wpList _ _ _ (⟨some 9, _, _, _, _, _⟩ :: _) _ _); (refine aP _ rfl aFd _ _ rfl _ _ _ rfl hown _ _ _ rfl hsrc ?_ ?_ ?_); (unfold maxLen; omega); omega; intro v' w1 ha; obtain ⟨a', c', rfl⟩ := ha.shape; have hc1 : w1.cell? ⟨p, 0, none⟩ = some (.slice a0 n c0) := ha.2.1.cell hcell (fun h => hne h.symm); have hf1 : w1.frozen? ⟨p, 0, none⟩ = false := (World.frozen?_of_block (ha.2.1.block p (aH hp) (fun h => hne h.symm))).trans hfz)
 go_end0
 exact ⟨rfl, aF.appended hp hown hne hfp (Fr.refl _ w) ha⟩
theorem aHc (w : World) (r0 r1 r2 r3 : Nat) : Calls Tryz.prog 69 #[.agg #[.int .u64 r0, .int .u64 r1, .int .u64 r2, .int .u64 r3]] w fun e w' => e = .returned (.agg #[.int .u64 r0, .int .u64 r1]) ∧ Fr (fun _ => False) w w' := by
 go_enter Tryz.func69, Tryz.ntmps69
 go_wp2
 refine bodyPost_ret (by simp [results, Tryz.results69, go_sem]; try rfl) rfl ?_
 exact ⟨rfl, ((Fr.refl _ w).alloc _).alloc _⟩
theorem aIr (w : World) (r0 r1 r2 r3 : Nat) (_h0 : r0 < 18446744073709551616) : Calls Tryz.prog 68 #[.agg #[.int .u64 r0, .int .u64 r1, .int .u64 r2, .int .u64 r3]] w fun e w' => e = .returned (.agg #[.int .u64 r0, .int .u64 r1]) ∧ Fr (fun _ => False) w w' := by
 go_enter Tryz.func68, Tryz.ntmps68
 go_wp2_with (go_at_call 69; refine (aHc _ r0 r1 r2 r3).mono ?_; rintro e w1 ⟨rfl, hf1⟩; have hm : w1.heap[w.heap.size + 1]? = some (.cells #[.int .u64 0, .int .u64 0] 228 (0, 0)) := hf1.made (by simp); have q0 : w1.cell? ⟨w.heap.size + 1, 0, none⟩ = some (.int .u64 0) := (by (rw [cell_of_row _ _ _ _ _ _ hm]; rfl)); have q1 : w1.cell? ⟨w.heap.size + 1, 1, none⟩ = some (.int .u64 0) := (by (rw [cell_of_row _ _ _ _ _ _ hm]; rfl)); have z0 : w1.frozen? ⟨w.heap.size + 1, 0, none⟩ = false := frozen_of_row _ _ _ _ _ hm; have z1 : w1.frozen? ⟨w.heap.size + 1, 1, none⟩ = false := frozen_of_row _ _ _ _ _ hm)
 refine bodyPost_ret (by simp [results, Tryz.results68, go_sem, q0, q1]; try rfl) rfl ?_
 exact ⟨rfl, (((((Fr.refl (fun _ => False) w).alloc _).alloc _).trans hf1 (fun _ _ h => h)).setCell (.inr (by simp)) _).setCell (.inr (by simp)) _⟩
theorem aFo (w : World) (nb : Nat) (r0 r1 r2 r3 : Nat) (h0 : r0 < 18446744073709551616) (s : ByteArray) (null : Bool) (iv kv : Value) (hf : w.cell? ⟨nb, 1, none⟩ = some (.func (.func 68) #[] #[])) :
 Calls Tryz.prog 392 #[.agg #[.int .u64 r0, .int .u64 r1, .int .u64 r2, .int .u64 r3, .string s, .bool null, iv, kv], .pointer (some ⟨nb, 0, none⟩)] w fun e w' => e = .returned (.agg #[.int .u64 r0, .int .u64 r1]) ∧ Fr (fun _ => False) w w' := by
 have hf' : ∀ o, (w.alloc o).cell? ⟨nb, 1, none⟩ = some (.func (.func 68) #[] #[]) := fun o => (World.cell?_alloc_lt w o _ (World.block_lt_of_cell? w _ hf)).trans hf
 have hf2 : ∀ o o', ((w.alloc o).alloc o').cell? ⟨nb, 1, none⟩ = some (.func (.func 68) #[] #[]) := fun o o' => (World.cell?_alloc_lt (w.alloc o) o' _ (World.block_lt_of_cell? _ _ (hf' o))).trans (hf' o)
 go_enter Tryz.func392, Tryz.ntmps392
 go_wp2_with (go_at_call 68; refine (aIr _ r0 r1 r2 r3 h0).mono ?_; rintro e w1 ⟨rfl, hf1⟩; have hm : w1.heap[w.heap.size + 1]? = some (.cells #[.int .u64 0, .int .u64 0] 228 (0, 0)) := hf1.made (by simp); have q0 : w1.cell? ⟨w.heap.size + 1, 0, none⟩ = some (.int .u64 0) := (by (rw [cell_of_row _ _ _ _ _ _ hm]; rfl)); have q1 : w1.cell? ⟨w.heap.size + 1, 1, none⟩ = some (.int .u64 0) := (by (rw [cell_of_row _ _ _ _ _ _ hm]; rfl)); have z0 : w1.frozen? ⟨w.heap.size + 1, 0, none⟩ = false := frozen_of_row _ _ _ _ _ hm; have z1 : w1.frozen? ⟨w.heap.size + 1, 1, none⟩ = false := frozen_of_row _ _ _ _ _ hm)
 refine bodyPost_ret (by simp [results, Tryz.results392, go_sem, q0, q1]; try rfl) rfl ?_
 exact ⟨rfl, (((((Fr.refl (fun _ => False) w).alloc _).alloc _).trans hf1 (fun _ _ h => h)).setCell (.inr (by simp)) _).setCell (.inr (by simp)) _⟩
theorem zJ (a : Addr) (w : World) : (method (Tryz.prog.types.size + Made.depth) 224 (.pointer (some a)) "Append").run Tryz.prog w = .ok (376, .pointer (some a)) w := by kernel_rfl
theorem rQ (a : Addr) (w : World) : (method (Tryz.prog.types.size + Made.depth) 224 (.pointer (some a)) "AppendArr").run Tryz.prog w = .ok (377, .pointer (some a)) w := by kernel_rfl
theorem uD (w : World) (p nb : Nat) (n : Nat) (xs : List Value) (fp : Nat → Prop) (hc : aF w p 226 228 2 n xs fp) (hn : n < 2147483648) (hf : w.cell? ⟨nb, 1, none⟩ = some (.func (.func 68) #[] #[]))
 (r0 r1 r2 r3 : Nat) (h0 : r0 < 18446744073709551616) (s : ByteArray) (null : Bool) (iv kv : Value) :
 Calls Tryz.prog 634 #[.agg #[.iface 224 (.pointer (some ⟨p, 0, none⟩)), .func (.func 392) #[] #[.pointer (some ⟨nb, 0, none⟩)], .func (.func 393) #[] #[.pointer (some ⟨nb, 0, none⟩)]], .agg #[.int .u64 r0, .int .u64 r1, .int .u64 r2, .int .u64 r3, .string s, .bool null, iv, kv]] w fun e w' =>
  e = .returned (.tuple #[]) ∧ (∃ fp', aF w' p 226 228 2 (n + 1) (xs ++ [.int .u64 r0, .int .u64 r1]) fp' ∧ Grow w fp fp') ∧ Fr fp w w' := by
 go_enter Tryz.func634, Tryz.ntmps634
 go_wp2_with fail
 generalize hW : (w.alloc _).alloc _ = W
 have hfrW : Fr (fun _ => False) w W := by subst hW; exact ((Fr.refl _ w).alloc _).alloc _
 have d0 : W.cell? ⟨w.heap.size, 0, none⟩ = some (.iface 224 (.pointer (some ⟨p, 0, none⟩))) := by subst hW; rw [World.cell?_alloc_lt _ _ _ (by simp), aB rfl]; rfl
 have d1 : W.cell? ⟨w.heap.size, 1, none⟩ = some (.func (.func 392) #[] #[.pointer (some ⟨nb, 0, none⟩)]) := by subst hW; rw [World.cell?_alloc_lt _ _ _ (by simp), aB rfl]; rfl
 have e0 : W.cell? ⟨w.heap.size + 1, 0, none⟩ = some (.int .u64 r0) := by subst hW; rw [aB (by simp)]; rfl
 have e1 : W.cell? ⟨w.heap.size + 1, 1, none⟩ = some (.int .u64 r1) := by subst hW; rw [aB (by simp)]; rfl
 have e2 : W.cell? ⟨w.heap.size + 1, 2, none⟩ = some (.int .u64 r2) := by subst hW; rw [aB (by simp)]; rfl
 have e3 : W.cell? ⟨w.heap.size + 1, 3, none⟩ = some (.int .u64 r3) := by subst hW; rw [aB (by simp)]; rfl
 have e4 : W.cell? ⟨w.heap.size + 1, 4, none⟩ = some (.string s) := by subst hW; rw [aB (by simp)]; rfl
 have e5 : W.cell? ⟨w.heap.size + 1, 5, none⟩ = some (.bool null) := by subst hW; rw [aB (by simp)]; rfl
 have e6 : W.cell? ⟨w.heap.size + 1, 6, none⟩ = some iv := by subst hW; rw [aB (by simp)]; rfl
 have e7 : W.cell? ⟨w.heap.size + 1, 7, none⟩ = some kv := by subst hW; rw [aB (by simp)]; rfl
 have hcW : aF W p 226 228 2 n xs fp := hc.aT fun k hk => hfrW.block k (hc.lt k hk) (fun h => h)
 have hfW : W.cell? ⟨nb, 1, none⟩ = some (.func (.func 68) #[] #[]) := hfrW.aA hf (fun h => h)
 have hN : ¬ fp w.heap.size := fun h => by have := hc.lt _ h; omega
 have hN1 : ¬ fp (w.heap.size + 1) := fun h => by have := hc.lt _ h; omega
 clear hW
 go_region_held3 (fun w' => w'.cell? ⟨w.heap.size, 0, none⟩ = some (.iface 224 (.pointer (some ⟨p, 0, none⟩))) ∧ w'.cell? ⟨w.heap.size, 1, none⟩ = some (.func (.func 392) #[] #[.pointer (some ⟨nb, 0, none⟩)]) ∧
  w'.cell? ⟨w.heap.size + 1, 0, none⟩ = some (.int .u64 r0) ∧ w'.cell? ⟨w.heap.size + 1, 1, none⟩ = some (.int .u64 r1) ∧ w'.cell? ⟨w.heap.size + 1, 2, none⟩ = some (.int .u64 r2) ∧ w'.cell? ⟨w.heap.size + 1, 3, none⟩ = some (.int .u64 r3) ∧
  w'.cell? ⟨w.heap.size + 1, 4, none⟩ = some (.string s) ∧ w'.cell? ⟨w.heap.size + 1, 5, none⟩ = some (.bool null) ∧ w'.cell? ⟨w.heap.size + 1, 6, none⟩ = some iv ∧ w'.cell? ⟨w.heap.size + 1, 7, none⟩ = some kv)
  (first
   | exact ⟨d0, d1, e0, e1, e2, e3, e4, e5, e6, e7⟩
   | exact ⟨hf2.aA d0 hN, hf2.aA d1 hN, hf2.aA e0 hN1, hf2.aA e1 hN1, hf2.aA e2 hN1, hf2.aA e3 hN1, hf2.aA e4 hN1, hf2.aA e5 hN1, hf2.aA e6 hN1, hf2.aA e7 hN1⟩
   | exact ⟨hf1.aA d0 (fun h => h), hf1.aA d1 (fun h => h), hf1.aA e0 (fun h => h), hf1.aA e1 (fun h => h), hf1.aA e2 (fun h => h), hf1.aA e3 (fun h => h), hf1.aA e4 (fun h => h), hf1.aA e5 (fun h => h), hf1.aA e6 (fun h => h), hf1.aA e7 (fun h => h)⟩
   | assumption)
  (first
   | (refine aS _ rfl ?_; refine fK _ _ _ _ rfl _ _ rfl (dC.func1 Tryz.call392 (aFo _ nb r0 r1 r2 r3 h0 s null iv kv hfW)) rfl ?_; rintro e w1 ⟨rfl, hf1⟩; refine ⟨_, rfl, ?_⟩)
   | (refine aS _ rfl ?_; refine bU _ _ _ _ _ rfl _ _ rfl (aI.of1 (zJ _ _) Tryz.call376 (aBS _ p n xs fp (hcW.aT fun k hk => hf1.block k (hcW.lt k hk) (fun h => h)) hn r0 r1)) rfl ?_; rintro e w2 ⟨rfl, hcol, hf2'⟩; have hf2 : Fr fp W w2 := (hf1.aG.mono (fun _ _ h => h.elim)).trans hf2' (fun _ _ h => h); refine ⟨_, rfl, ?_⟩))
 all_goals
  go_end0
  refine ⟨rfl, ?_, (hfrW.mono (fun _ _ h => h.elim)).trans hf2 (fun _ _ h => h)⟩
  obtain ⟨fp', h1, h2⟩ := hcol
  exact ⟨fp', h1, fun k hk => (h2 k hk).imp id (fun h => Nat.le_trans (Nat.le_trans hfrW.size hf1.size) h)⟩
def fP (c : Cell) : List Value := [.int .u64 c.r0, .int .u64 c.r1]
theorem aCs (w : World) (B nb : Nat) (hBw : B ≤ w.heap.size) (hf : w.cell? ⟨nb, 1, none⟩ = some (.func (.func 68) #[] #[])) (cs : List Cell) (v : Value) (xs : List Value) (hs : Sl B w 8 v cs.length xs) (hc : aC B w cs xs) (hn : cs.length ≤ 2147483648) :
 Calls Tryz.prog 637 #[v, .func (.func 392) #[] #[.pointer (some ⟨nb, 0, none⟩)]] w fun e w' => ∃ tv, e = .returned tv ∧ w'.ownsRow 0 228 2 tv cs.length (cs.flatMap fP) ∧ Fr (fun _ => False) w w' := by
 have hs' := hs
 obtain ⟨hxl, ao, cap, rfl, hnc, hcm, h0, ha⟩ := hs
 unfold maxLen at hcm
 clear ha h0 hxl
 go_enter Tryz.func637, Tryz.ntmps637
 go_wp2
 go_loopw [5, 10] (fun tv i wr => ∃ k : Nat, k ≤ cs.length ∧ i = .int .i64 k ∧ wr.ownsRow 0 228 2 tv k ((cs.take k).flatMap fP) ∧ (∀ q, tv.ownBlock = some q → w.heap.size ≤ q) ∧ Fr (fun _ => False) w wr) (fun _ i _ => cs.length - (intOf i).toNat)
 case atStart => exact ⟨0, Nat.zero_le _, rfl, World.ownsRow_nil _ _ _ _, by simp [Value.ownBlock], Fr.refl _ _⟩
 case round =>
  obtain ⟨k, hk, rfl, hown, hsince, hfr⟩ := hrel
  have hbr : Below B w wr := hfr.below hBw (fun _ _ h => h)
  obtain ⟨a0, c0, rfl⟩ := ownsRow_shape hown
  by_cases hlt : k < cs.length
  · obtain ⟨b, off, cap', hv, hbB, vs, hvs, hcell⟩ := (hs'.below hbr).row (aC.below hbr _ _ hc) hlt
    have hstep := Lib.hid (bV fP cs k hlt)
    generalize cs[k] = c at hvs hstep
    obtain ⟨ia, il, ic, ka, kl, kc, rfl, h0, h1, h2, h3, h4⟩ := hvs.open
    simp only [Value.slice.injEq] at hv
    obtain ⟨rfl, _, rfl⟩ := hv
    have d0 := hcell 0 _ rfl
    have d1 := hcell 1 _ rfl
    have d2 := hcell 2 _ rfl
    have d3 := hcell 3 _ rfl
    have d4 := hcell 4 _ rfl
    have d5 := hcell 5 _ rfl
    have d6 := hcell 6 _ rfl
    have d7 := hcell 7 _ rfl
    simp only [Nat.add_zero] at d0
    have hfa : Fr (fun _ => False) w (wr.alloc (.cells #[.int .u64 c.r0, .int .u64 c.r1, .int .u64 c.r2, .int .u64 c.r3, .string c.s, .bool c.null, .slice ia il ic, .slice ka kl kc] 35)) := hfr.alloc _
    have hin := aFo _ nb c.r0 c.r1 c.r2 c.r3 h0 c.s c.null (.slice ia il ic) (.slice ka kl kc) (hfa.aA hf (fun h => h))
    clear hcell hvs hs' hc
    go_wp2_with (first | ((with_reducible show wpList _ _ _ (⟨some 17, _, _, _, _, _⟩ :: _) _ _); refine dE _ rfl _ _ _ rfl _ _ rfl (dC.func1 Tryz.call392 hin) rfl ?_; rintro e w1 ⟨rfl, hf1⟩; refine ⟨_, rfl, ?_⟩; have hfw1 : Fr (fun _ => False) w w1 := hfa.trans hf1 (fun _ _ h => h); have hown1 := hf1.owns ((Fr.refl (fun _ => False) wr).alloc _ |>.owns hown (fun _ _ h => h)) (fun _ _ h => h)) | ((with_reducible show wpList _ _ _ (⟨some 19, _, _, _, _, _⟩ :: _) _ _); refine aP _ rfl aIq _ _ rfl _ _ _ rfl (hown1.alloc _) _ _ _ rfl (Src.ofSlice _ Tryz.underlying225 _ _ _ _ rfl (aW _ [.int .u64 c.r0, .int .u64 c.r1] _) (by simp [Value.oneCell'])) ?_ ?_ ?_; (unfold maxLen; omega); omega; intro v' w2 ha; obtain ⟨a', c', rfl⟩ := ha.shape))
    go_roundw
    case rel => exact ⟨k + 1, by omega, by go_num, by rw [hstep.out]; exact ha.1, (ha.since (hfw1.alloc _) hsince).1, (ha.since (hfw1.alloc _) hsince).2⟩
    case measure => simp [intOf]; omega
  · have hke : k = cs.length := by omega
    subst hke
    rw [List.take_length] at hown
    go_wp2
    go_ret
    exact ⟨_, rfl, hown, hfr⟩
theorem vU (cs : List Cell) : ∀ u ∈ cs.flatMap fP, u.oneCell' = true := by
 intro u hu
 obtain ⟨c, _, hc⟩ := List.mem_flatMap.1 hu
 simp only [fP, List.mem_cons, List.not_mem_nil, or_false] at hc
 rcases hc with rfl | rfl <;> rfl
theorem nK (w : World) (B p nb : Nat) (hBw : B ≤ w.heap.size) (n : Nat) (xs : List Value) (fp : Nat → Prop) (hc : aF w p 226 228 2 n xs fp) (hf : w.cell? ⟨nb, 1, none⟩ = some (.func (.func 68) #[] #[]))
 (cs : List Cell) (v : Value) (ys : List Value) (hs : Sl B w 8 v cs.length ys) (hcs : aC B w cs ys) (hn : n + cs.length ≤ 2147483648) :
 Calls Tryz.prog 635 #[.agg #[.iface 224 (.pointer (some ⟨p, 0, none⟩)), .func (.func 392) #[] #[.pointer (some ⟨nb, 0, none⟩)], .func (.func 393) #[] #[.pointer (some ⟨nb, 0, none⟩)]], v] w fun e w' =>
  e = .returned (.tuple #[]) ∧ (∃ fp', aF w' p 226 228 2 (n + cs.length) (xs ++ cs.flatMap fP) fp' ∧ Grow w fp fp') ∧ Fr fp w w' := by
 go_enter Tryz.func635, Tryz.ntmps635
 go_wp2_with fail
 generalize hW : w.alloc _ = W
 have hfrW : Fr (fun _ => False) w W := by subst hW; exact (Fr.refl _ w).alloc _
 have d0 : W.cell? ⟨w.heap.size, 0, none⟩ = some (.iface 224 (.pointer (some ⟨p, 0, none⟩))) := by subst hW; rw [aB rfl]; rfl
 have d1 : W.cell? ⟨w.heap.size, 1, none⟩ = some (.func (.func 392) #[] #[.pointer (some ⟨nb, 0, none⟩)]) := by subst hW; rw [aB rfl]; rfl
 have hcW : aF W p 226 228 2 n xs fp := hc.aT fun k hk => hfrW.block k (hc.lt k hk) (fun h => h)
 have hfW : W.cell? ⟨nb, 1, none⟩ = some (.func (.func 68) #[] #[]) := hfrW.aA hf (fun h => h)
 have hN : ¬ fp w.heap.size := fun h => by have := hc.lt _ h; omega
 have hsW := hs.fr hBw hfrW
 have hcsW := aC.below (hfrW.below hBw (fun _ _ h => h)) _ _ hcs
 have hBW : B ≤ W.heap.size := Nat.le_trans hBw hfrW.size
 have hsD := hsW.fr hBW (Fr.refl (fun _ => False) W).drew
 have hcsD := aC.below ((Below.refl B W).drew) _ _ hcsW
 clear hW hs hcs
 go_region_held3 (fun w' => w'.cell? ⟨w.heap.size, 0, none⟩ = some (.iface 224 (.pointer (some ⟨p, 0, none⟩))) ∧ w'.cell? ⟨w.heap.size, 1, none⟩ = some (.func (.func 392) #[] #[.pointer (some ⟨nb, 0, none⟩)]))
  (first
   | exact ⟨d0, d1⟩
   | exact ⟨hf2.aA d0 hN, hf2.aA d1 hN⟩
   | exact ⟨hf1.aA d0 (fun h => h), hf1.aA d1 (fun h => h)⟩
   | assumption)
  (first
   | (go_at_call 637; refine (aCs W.drew B nb hBW hfW cs v ys hsD hcsD (by omega)).mono ?_; rintro e w1 ⟨tv, rfl, hown, hf1⟩)
   | (refine aS _ rfl ?_; refine bU _ _ _ _ _ rfl _ _ rfl (aI.of1 (rQ _ _) Tryz.call377 (wJ _ p n xs fp (hcW.aT fun k hk => hf1.block k (hcW.lt k hk) (fun h => h)) _ _ _ (Src.jH Tryz.underlying225 hown (vU cs)) hn)) rfl ?_; rintro e w2 ⟨rfl, hcol, hf2'⟩; have hf2 : Fr fp W w2 := (hf1.aG.mono (fun _ _ h => h.elim)).trans hf2' (fun _ _ h => h); refine ⟨_, rfl, ?_⟩))
 all_goals
  go_end0
  refine ⟨rfl, ?_, (hfrW.mono (fun _ _ h => h.elim)).trans hf2 (fun _ _ h => h)⟩
  obtain ⟨fp', h1, h2⟩ := hcol
  exact ⟨fp', h1, fun k hk => (h2 k hk).imp id (fun h => Nat.le_trans (Nat.le_trans hfrW.size hf1.size) h)⟩
theorem aFF (w : World) (a : Option Addr) (n c : Nat) : Calls Tryz.prog 382 #[.slice a n c] w fun e w' => e = .returned (.int .i64 n) ∧ Fr (fun _ => False) w w' := by
 go_enter Tryz.func382, Tryz.ntmps382
 go_wp2
 go_ret
 exact ⟨rfl, Fr.refl _ _⟩
theorem aBI (w : World) (b : Nat) (fb : Nat → Prop) (bs : List UInt8) (hb : Buf w b fb bs) (a : Option Addr) (c : Nat) (cs : List Cell) (hown : w.ownsRow 0 228 2 (.slice a cs.length c) cs.length (cs.flatMap fP))
 (hd : ∀ k, (Value.slice a cs.length c).ownBlock = some k → ¬ fb k) (hc : ∀ c ∈ cs, c.small) (hl : bs.length + 16 * cs.length ≤ 1099511627776) :
 Calls Tryz.prog 379 #[.slice a cs.length c, .pointer (some ⟨b, 0, none⟩)] w fun e w' => e = .returned (.tuple #[]) ∧ Fr fb w w' ∧ ∃ fb', Buf w' b fb' (bs ++ cs.flatMap (aJ 16)) ∧ Grow w fb fb' := by
 by_cases h0 : cs.length = 0
 · have hcs : cs = [] := List.eq_nil_of_length_eq_zero (by omega)
   subst hcs
   go_enter Tryz.func379, Tryz.ntmps379
   go_wp2
   try simp only [Exit.inBlock, Exit.then]
   refine bodyPost_ret (results_none rfl _ _ _) rfl ?_
   exact ⟨rfl, Fr.refl _ _, fb, by simpa using hb, fun k hk => .inl hk⟩
 · have hb' := hb
   obtain ⟨v, hp, hob, hne, hfp⟩ := hb'
   obtain ⟨hcell, hfz⟩ := aF.cell hp
   obtain ⟨a0, c0, rfl⟩ := ownsRow_shape hob
   have hpl := aH hp
   have hcm : cs.length ≤ 9223372036854775807 := by omega
   go_enter Tryz.func379, Tryz.ntmps379
   go_wp2_with ((with_reducible show wpList _ _ _ (⟨some 25, _, _, _, _, _⟩ :: _) _ _); (refine cO _ rfl gU Tryz.underlying3 _ _ rfl _ _ _ rfl hob _ (16 * cs.length) rfl ?_ ?_ ?_ ?_); go_num; omega; omega; intro v' w1 ha; obtain ⟨a', c', rfl⟩ := ha.shape; have hc1 : w1.cell? ⟨b, 0, none⟩ = some (.slice a0 bs.length c0) := ha.2.1.cell hcell (fun h => hne h.symm); have hf1 : w1.frozen? ⟨b, 0, none⟩ = false := (World.frozen?_of_block (ha.2.1.block b hpl (fun h => hne h.symm))).trans hfz)
   obtain ⟨⟨fb', hcol, hgrow⟩, hfr⟩ := aF.appended hp hob hne hfp (Fr.refl _ w) ha
   generalize w1.setCell ⟨b, 0, none⟩ (Value.slice a' (bs.length + 16 * cs.length) c') = W at hcol hfr ⊢
   obtain ⟨g, cap, hot, hfb'⟩ := Hot.of hcol (by omega)
   have hownW := hfr.owns hown hd
   have hdis : ∀ k, (Value.slice a cs.length c).ownBlock = some k → k ≠ b ∧ k ≠ g := fun k hk => ⟨fun e => hd k hk ((hfp k).2 (.inl e)), fun e => by
    subst e
    rcases hgrow k ((hfb' k).2 (.inr rfl)) with h | h
    · exact hd k hk h
    · have := aK hown hk; omega⟩
   have hS : ∀ k, k < w.heap.size → (k = b ∨ k = g) → fb k := fun k hk hh => (hgrow k ((hfb' k).2 hh)).resolve_right (by omega)
   clear ha hcol hp hob hcell hfz hc1 hf1 hne hb
   go_loopw [5, 7, 30] (fun off _ i wr => ∃ k : Nat, k ≤ cs.length ∧ i = .int .i64 k ∧ off = .int .i64 (bs.length + 16 * k : Nat) ∧ Hot wr b g (bs.length + 16 * cs.length) cap (aQ (bs ++ (cs.take k).flatMap (aJ 16)) ++ List.replicate (16 * (cs.length - k)) (.int .u8 0)) ∧ Fr (fun k => k = b ∨ k = g) W wr) (fun _ _ i _ => cs.length - (intOf i).toNat)
   case atStart => exact ⟨0, Nat.zero_le _, rfl, by simp, by simpa using hot, Fr.refl _ _⟩
   case round =>
    obtain ⟨k, hk, rfl, rfl, hotk, hfrk⟩ := hrel
    by_cases hlt : k < cs.length
    · have hownr := hfrk.owns hownW (fun k hk h => by have := hdis k hk; omega)
      rcases hownr.2 with ⟨hv, _⟩ | ⟨ga, capa, cura, hv, _⟩
      · simp only [Value.slice.injEq] at hv; omega
      · simp only [Value.slice.injEq] at hv
        obtain ⟨rfl, _, rfl⟩ := hv
        have hck := hc cs[k] (List.getElem_mem _)
        have hstep := bV (aJ 16) cs k hlt
        have hat := fun j hj => iY fP 2 (fun _ => rfl) cs k j hlt hj
        generalize cs[k] = cc at hck hstep hat
        obtain ⟨b0, b1, b2, b3, _⟩ := hck
        have hx0 := hownr.cells (g := ga) rfl (k * 2 + 0) _ (hat 0 (by omega))
        rw [Addr.add_lit, Nat.zero_add] at hx0
        have hx1 := hownr.cells (g := ga) rfl (k * 2 + 1) _ (hat 1 (by omega))
        rw [Addr.add_lit, Nat.zero_add] at hx1
        simp only [Nat.add_zero] at hx0
        have hbc := hotk.cell
        have hgc := hotk.row
        obtain ⟨_, _, _, hNc, hcapm⟩ := hgc
        unfold maxLen at hcapm
        have hlen : (bs ++ (cs.take k).flatMap (aJ 16)).length = bs.length + 16 * k := by rw [List.length_append, bH _ 16 (bF 16 (by omega)), List.length_take]; congr 2; omega
        have hnum : aJ 16 cc = Lib.leBytes 8 cc.r0 ++ Lib.leBytes 8 cc.r1 := tV cc
        have hzz : aQ (bs ++ (cs.take k).flatMap (aJ 16)) ++ List.replicate (16 * (cs.length - k)) (.int .u8 0) = aQ (bs ++ (cs.take k).flatMap (aJ 16)) ++ (List.replicate 8 (Value.int .u8 0) ++ List.replicate 8 (Value.int .u8 0)) ++ List.replicate (16 * (cs.length - (k + 1))) (.int .u8 0) := by
         simp only [List.append_assoc, List.replicate_append_replicate]
         congr 2
         omega
        rw [hzz] at hotk
        have hoff : bs.length + 16 * k = (aQ (bs ++ (cs.take k).flatMap (aJ 16))).length := by rw [bG, hlen]
        have hput := aDv ((wr.alloc (.cells #[.int .u64 cc.r0, .int .u64 cc.r1] 228)).drew) b g _ cap _ _ (List.replicate 8 (Value.int .u8 0)) (List.replicate 8 (Value.int .u8 0)) ((hotk.alloc _).drew) (by simp) (by simp) cc.r0 cc.r1 b0 b1 (bs.length + 16 * k) (cap - (bs.length + 16 * k)) hoff (by omega)
        rw [← hnum] at hput
        simp only [← bQ, List.append_assoc] at hput
        rw [← hstep] at hput
        have hfa : Fr (fun k => k = b ∨ k = g) W ((wr.alloc (.cells #[.int .u64 cc.r0, .int .u64 cc.r1] 228)).drew) := (hfrk.alloc _).drew
        have dc0 : (wr.alloc (.cells #[.int .u64 cc.r0, .int .u64 cc.r1] 228)).cell? ⟨wr.heap.size, 0, none⟩ = some (.int .u64 cc.r0) := by rw [aB rfl]; rfl
        have dc1 : (wr.alloc (.cells #[.int .u64 cc.r0, .int .u64 cc.r1] 228)).cell? ⟨wr.heap.size, 1, none⟩ = some (.int .u64 cc.r1) := by rw [aB rfl]; rfl
        have hbc1 : (wr.alloc (.cells #[.int .u64 cc.r0, .int .u64 cc.r1] 228)).cell? ⟨b, 0, none⟩ = some (.slice (some ⟨g, 0, none⟩) (bs.length + 16 * cs.length) cap) := ((Fr.refl (fun _ => False) wr).alloc _).aA hbc (fun h => h)
        have hgw := hotk.glt
        clear hat hotk
        have ho : bs.length + 16 * k + 16 ≤ cap := by omega
        generalize hoff2 : bs.length + 16 * k = o at ho hput ⊢
        have s0 : (0 : Int) ≤ ↑o := by omega
        have s1 : IntKind.i64.wrap ((o : Int) + 16) = (o : Int) + 16 := by rw [IntKind.wrap_i64]; omega
        have s2 : (o : Int) ≤ (o : Int) + 16 := by omega
        have s3 : (o : Int) + 16 ≤ (cap : Int) := by omega
        have s4 : (0 : Int) ≤ (o : Int) + 16 := by omega
        have s5 : ¬ cap = o := by omega
        have s6 : ((o : Int) + 16).toNat - o = 16 := by omega
        go_wp2
        generalize hWa : wr.alloc (.cells #[.int .u64 cc.r0, .int .u64 cc.r1] 228) = Wa at hput hfa hbc1 dc0 dc1 ⊢
        clear hWa
        go_region_held3 (fun w' => w'.cell? ⟨b, 0, none⟩ = some (.slice (some ⟨g, 0, none⟩) (bs.length + 16 * cs.length) cap) ∧ w'.cell? ⟨wr.heap.size, 0, none⟩ = some (.int .u64 cc.r0) ∧ w'.cell? ⟨wr.heap.size, 1, none⟩ = some (.int .u64 cc.r1))
         (first
          | exact ⟨hbc1, dc0, dc1⟩
          | exact ⟨hotn.cell, hf1.aA dc0 (by show ¬ wr.heap.size = g; omega), hf1.aA dc1 (by show ¬ wr.heap.size = g; omega)⟩
          | assumption)
         (first
          | (go_at_call 385; refine hput.mono ?_; rintro e w1 ⟨rfl, hf1, hotn⟩))
        all_goals
         go_wp2
         go_roundw
         case rel => exact ⟨k + 1, by omega, by go_num, by subst hoff2; go_num, hotn, hfa.trans hf1 (fun _ _ h => .inr h)⟩
         case measure => simp [intOf]; omega
    · have hke : k = cs.length := by omega
      subst hke
      go_wp2
      go_end0
      rw [List.take_length, Nat.sub_self, Nat.mul_zero, List.replicate_zero, List.append_nil] at hotk
      have hbuf := fun hfb => Hot.buf (bs := bs ++ cs.flatMap (aJ 16)) (cap := cap) (N := bs.length + 16 * cs.length) hotk (fb := fun k => k = b ∨ k = g) hfb
      exact ⟨rfl, hfr.trans hfrk hS, _, hbuf (fun k => Iff.rfl), fun k hk => hgrow k ((hfb' k).2 hk)⟩
def sQ (B p nb : Nat) (w : World) (fp : Nat → Prop) (σ : List Cell) : Prop :=
 ∃ fp0, aF w p 226 228 2 σ.length (σ.flatMap fP) fp0 ∧ w.cell? ⟨nb, 1, none⟩ = some (.func (.func 68) #[] #[]) ∧ (∀ k, fp k ↔ fp0 k ∨ k = nb) ∧ (∀ k, fp k → B ≤ k) ∧ (¬ fp0 nb) ∧ ∀ c ∈ σ, c.small
theorem wK (p nb : Nat) (w : World) (name : String) (f : FuncId) (h : (name, f) = ("Append", 634) ∨ (name, f) = ("AppendArr", 635)) : (method (Tryz.prog.types.size + Made.depth) 554 (.agg #[.iface 224 (.pointer (some ⟨p, 0, none⟩)), .func (.func 392) #[] #[.pointer (some ⟨nb, 0, none⟩)], .func (.func 393) #[] #[.pointer (some ⟨nb, 0, none⟩)]]) name).run Tryz.prog w = .ok (f, .agg #[.iface 224 (.pointer (some ⟨p, 0, none⟩)), .func (.func 392) #[] #[.pointer (some ⟨nb, 0, none⟩)], .func (.func 393) #[] #[.pointer (some ⟨nb, 0, none⟩)]]) w := by
 rcases h with h | h <;> (simp only [Prod.mk.injEq] at h; obtain ⟨rfl, rfl⟩ := h; kernel_rfl)
theorem aBT (p nb : Nat) (w : World) (v : Value) (hv : w.cell? ⟨p, 0, none⟩ = some v) : (method (Tryz.prog.types.size + Made.depth) 554 (.agg #[.iface 224 (.pointer (some ⟨p, 0, none⟩)), .func (.func 392) #[] #[.pointer (some ⟨nb, 0, none⟩)], .func (.func 393) #[] #[.pointer (some ⟨nb, 0, none⟩)]]) "Rows").run Tryz.prog w = .ok (382, v) w := by
 obtain ⟨n, hn⟩ := fuel
 rw [hn]
 refine (bD (n := n + 1) Tryz.underlying554 rfl rfl (fun _ => by kernel_rfl) (by kernel_rfl) rfl).trans ?_
 exact aZ (n := n) false (by kernel_rfl) (bT Tryz.underlying224 (cZ Tryz.underlying226 hv))
theorem aDt (p nb : Nat) (w : World) (v : Value) (hv : w.cell? ⟨p, 0, none⟩ = some v) : (method (Tryz.prog.types.size + Made.depth) 554 (.agg #[.iface 224 (.pointer (some ⟨p, 0, none⟩)), .func (.func 392) #[] #[.pointer (some ⟨nb, 0, none⟩)], .func (.func 393) #[] #[.pointer (some ⟨nb, 0, none⟩)]]) "EncodeColumn").run Tryz.prog w = .ok (379, v) w := by
 obtain ⟨n, hn⟩ := fuel
 rw [hn]
 refine (bD (n := n + 1) Tryz.underlying554 rfl rfl (fun _ => by kernel_rfl) (by kernel_rfl) rfl).trans ?_
 exact aZ (n := n) false (by kernel_rfl) (bT Tryz.underlying224 (cZ Tryz.underlying226 hv))
theorem sQ.nb {B p nb : Nat} {w : World} {fp : Nat → Prop} {σ : List Cell} (h : sQ B p nb w fp σ) : nb < w.heap.size ∧ B ≤ nb := by
 obtain ⟨fp0, hc, hnb, hfp, hB, hne, hsm⟩ := h
 exact ⟨World.block_lt_of_cell? w _ hnb, hB nb ((hfp nb).2 (.inr rfl))⟩
theorem sQ.after {B p nb : Nat} {w w' : World} {fp fp0 : Nat → Prop} {σ τ : List Cell} (h : sQ B p nb w fp σ) (hfp : ∀ k, fp k ↔ fp0 k ∨ k = nb) (hne : ¬ fp0 nb)
 (hc : ∃ fp', aF w' p 226 228 2 τ.length (τ.flatMap fP) fp' ∧ Grow w fp0 fp') (hfr : Fr fp0 w w') (hsm : ∀ c ∈ τ, c.small) :
 Fr fp w w' ∧ ∃ fp', sQ B p nb w' fp' τ ∧ Grow w fp fp' := by
 obtain ⟨hlt, hBn⟩ := h.nb
 obtain ⟨_, _, hnb, _, hB, _, _⟩ := h
 obtain ⟨fp', hcol, hg⟩ := hc
 refine ⟨hfr.mono (fun k _ hk => (hfp k).2 (.inl hk)), fun k => fp' k ∨ k = nb, ⟨fp', hcol, hfr.aA hnb hne, fun k => Iff.rfl, ?_, ?_, hsm⟩, ?_⟩
 · rintro k (hk | rfl)
   · rcases hg k hk with hk | hk
     · exact hB k ((hfp k).2 (.inl hk))
     · omega
   · exact hBn
 · intro hk
   rcases hg nb hk with hk | hk
   · exact hne hk
   · omega
 · rintro k (hk | rfl)
   · exact (hg k hk).imp (fun hk => (hfp k).2 (.inl hk)) id
   · exact .inl ((hfp k).2 (.inr rfl))
theorem aGa (B p nb : Nat) : bI Tryz.prog B 554 (.agg #[.iface 224 (.pointer (some ⟨p, 0, none⟩)), .func (.func 392) #[] #[.pointer (some ⟨nb, 0, none⟩)], .func (.func 393) #[] #[.pointer (some ⟨nb, 0, none⟩)]]) (.num .i128) [] (sQ B p nb) (sQ B p nb) where
 lo := by
  intro w fp σ h k hk
  have hn := h.nb
  obtain ⟨fp0, hc, hnb, hfp, hB, hne, hsm⟩ := h
  refine ⟨hB k hk, ?_⟩
  rcases (hfp k).1 hk with hk | rfl
  · exact hc.lt k hk
  · exact hn.1
 lo' := by
  intro w fp σ h k hk
  have hn := h.nb
  obtain ⟨fp0, hc, hnb, hfp, hB, hne, hsm⟩ := h
  refine ⟨hB k hk, ?_⟩
  rcases (hfp k).1 hk with hk | rfl
  · exact hc.lt k hk
  · exact hn.1
 frame := by
  intro w w' fp σ h hk
  obtain ⟨fp0, hc, hnb, hfp, hB, hne, hsm⟩ := h
  exact ⟨fp0, hc.aT fun k h => hk k ((hfp k).2 (.inl h)), (World.cell?_of_block (hk nb ((hfp nb).2 (.inr rfl)))).trans hnb, hfp, hB, hne, hsm⟩
 frame' := by
  intro w w' fp σ h hk
  obtain ⟨fp0, hc, hnb, hfp, hB, hne, hsm⟩ := h
  exact ⟨fp0, hc.aT fun k h => hk k ((hfp k).2 (.inl h)), (World.cell?_of_block (hk nb ((hfp nb).2 (.inr rfl)))).trans hnb, hfp, hB, hne, hsm⟩
 append := by
  intro w fp σ c vs h hvs hw
  have h' := h
  obtain ⟨fp0, hc, hnb, hfp, hB, hne, hsm⟩ := h'
  have hcs := hvs.small
  obtain ⟨ia, il, ic, ka, kl, kc, rfl, h0, h1, h2, h3, h4⟩ := hvs.open
  have hlen := aN (σ ++ [c])
  have hw' : wts (σ ++ [c]) ≤ 2147483648 := hw
  rw [List.length_append, List.length_singleton] at hlen
  refine aI.of1 (wK p nb w _ _ (.inl rfl)) Tryz.call634 ((uD w p nb _ _ fp0 hc (by omega) hnb c.r0 c.r1 c.r2 c.r3 h0 c.s c.null (.slice ia il ic) (.slice ka kl kc)).mono ?_)
  rintro e w' ⟨he, hcol, hfr⟩
  refine ⟨he, h.after hfp hne ?_ hfr (fun d hd => ?_)⟩
  · rw [List.flatMap_append, List.flatMap_singleton, List.length_append, List.length_singleton]
    exact hcol
  · rcases List.mem_append.1 hd with hd | hd
    · exact hsm d hd
    · rw [List.mem_singleton.1 hd]
      exact hcs
 appendArr := by
  intro w fp σ cs v xs h hs hcs hw
  have h' := h
  obtain ⟨fp0, hc, hnb, hfp, hB, hne, hsm⟩ := h'
  have hlen := aN (σ ++ cs)
  have hw' : wts (σ ++ cs) ≤ 2147483648 := hw
  have hn := h.nb
  rw [List.length_append] at hlen
  refine aI.of1 (wK p nb w _ _ (.inr rfl)) Tryz.call635 ((nK w B p nb (by omega) _ _ fp0 hc hnb cs v xs hs hcs (by omega)).mono ?_)
  rintro e w' ⟨he, hcol, hfr⟩
  refine ⟨he, h.after hfp hne ?_ hfr (fun d hd => ?_)⟩
  · rw [List.flatMap_append, List.length_append]
    exact hcol
  · rcases List.mem_append.1 hd with hd | hd
    · exact hsm d hd
    · exact aC.small hcs d hd
 rows := by
  intro w fp σ h
  obtain ⟨fp0, ⟨v, hp, hown, _⟩, hnb, hfp, hB, hne, hsm⟩ := h
  obtain ⟨a, c, rfl⟩ := ownsRow_shape hown
  exact aI.of0 (aBT p nb w _ (aF.cell hp).1) Tryz.call382 (aFF w a _ c)
 flat := by rintro w name (rfl | rfl | rfl) n m <;> exact eQ Tryz.underlying554 rfl rfl (fun _ => by kernel_rfl) (by kernel_rfl) rfl (by kernel_rfl) n m
 ahead := fun w => by kernel_rfl
 prepare := ⟨false, fun x w => run_typeAssert_lacksB Tryz.underlying102 (by kernel_rfl) (by kernel_rfl) _ x w, fun h => by simpa using h⟩
 state := ⟨false, fun x w => run_typeAssert_lacksB Tryz.underlying172 (by kernel_rfl) (by kernel_rfl) _ x w, by simp⟩
 encode := by
  intro w fp σ b fb bs h hw hb hd hl
  obtain ⟨fp0, ⟨v, hp, hown, hne', hfp0⟩, hnb, hfp, hB, hne, hsm⟩ := h
  obtain ⟨a, c, rfl⟩ := ownsRow_shape hown
  have hl' : (enc (.num .i128) σ).length = 16 * σ.length := bH _ 16 (bF 16 (by omega)) σ
  exact aI.of1 (aDt p nb w _ (aF.cell hp).1) Tryz.call379 (aBI w b fb bs hb a c σ hown (fun k hk => hd k ((hfp k).2 (.inl ((hfp0 k).2 (.inr hk))))) (fun c hc => hsm c hc) (by omega))
theorem aCf (w : World) : Calls Tryz.prog 50 #[.int .i64 5] w fun e w' => e = .returned (.iface 237 (.agg #[.iface 224 (.pointer (some ⟨w.heap.size, 0, none⟩)), .func (.func 68) #[] #[], .func (.func 70) #[] #[]])) ∧ w' = w.alloc (.cells #[.slice none 0 0] 226) := by
 go_enter Tryz.func50, Tryz.ntmps50
 go_wp2
 go_ret
 exact ⟨rfl, rfl⟩
theorem aAR (w : World) (p : Nat) : (method (Tryz.prog.types.size + Made.depth) 237 (.agg #[.iface 224 (.pointer (some ⟨p, 0, none⟩)), .func (.func 68) #[] #[], .func (.func 70) #[] #[]]) "given.example/pub-bradawl/impl.cells").run Tryz.prog w =
 .ok (391, .agg #[.iface 224 (.pointer (some ⟨p, 0, none⟩)), .func (.func 68) #[] #[], .func (.func 70) #[] #[]]) w := by
 obtain ⟨n, hn⟩ := fuel
 rw [hn]
 exact aZ (n := n + 1) false (by kernel_rfl) (dN Tryz.underlying237 rfl)
theorem aGd (w : World) (p B : Nat) (hB : B ≤ p) (hp : w.heap[p]? = some (.cells #[.slice none 0 0] 226 (0, 0))) :
 Calls Tryz.prog 391 #[.agg #[.iface 224 (.pointer (some ⟨p, 0, none⟩)), .func (.func 68) #[] #[], .func (.func 70) #[] #[]]] w fun e w' =>
  ∃ nb fp, e = .returned (.iface 554 (.agg #[.iface 224 (.pointer (some ⟨p, 0, none⟩)), .func (.func 392) #[] #[.pointer (some ⟨nb, 0, none⟩)], .func (.func 393) #[] #[.pointer (some ⟨nb, 0, none⟩)]])) ∧ sQ B p nb w' fp [] ∧ Fr (fun _ => False) w w' := by
 have hpl := aH hp
 go_enter Tryz.func391, Tryz.ntmps391
 go_wp2
 go_ret
 refine ⟨w.heap.size, fun k => k = p ∨ k = w.heap.size, rfl, ⟨fun k => k = p, ⟨.slice none 0 0, (Below.heap_alloc _ _ _ hpl).trans hp, World.ownsRow_nil _ _ _ _, by simp [Value.ownBlock], fun k => by simp [Value.ownBlock]⟩, by rw [aB rfl]; rfl, fun k => Iff.rfl, ?_, by omega, by simp⟩, (Fr.refl _ w).alloc _⟩
 rintro k (rfl | rfl) <;> omega
end Go.Proofs.YtcidlnjpabgioaaGreatDoor
namespace Go.Proofs.YtcidlnjpabgioaaGreatDoor
open Go.RowKit
theorem aFw : ElT Tryz.prog 297 298 (.agg #[.int .u64 0, .int .u64 0, .int .u64 0, .int .u64 0]) 4 32 := ⟨Tryz.underlying297, info_parts (by kernel_rfl), rfl⟩
theorem aHP : ElT Tryz.prog 296 298 (.agg #[.int .u64 0, .int .u64 0, .int .u64 0, .int .u64 0]) 4 32 := ⟨Tryz.underlying296, info_parts (by kernel_rfl), rfl⟩
theorem aCA (w : World) (p : Nat) (n : Nat) (xs : List Value) (fp : Nat → Prop) (hc : aF w p 297 298 4 n xs fp) (hn : n < 2147483648) (x0 x1 x2 x3 : Int) :
 Calls Tryz.prog 463 #[.pointer (some ⟨p, 0, none⟩), .agg #[.int .u64 x0, .int .u64 x1, .int .u64 x2, .int .u64 x3]] w fun e w' => e = .returned (.tuple #[]) ∧ (∃ fp', aF w' p 297 298 4 (n + 1) (xs ++ [.int .u64 x0, .int .u64 x1, .int .u64 x2, .int .u64 x3]) fp' ∧ Grow w fp fp') ∧ Fr fp w w' := by
 obtain ⟨v, hp, hown, hne, hfp⟩ := hc
 obtain ⟨hcell, hfz⟩ := aF.cell hp
 obtain ⟨a0, c0, rfl⟩ := ownsRow_shape hown
 have hpl := aH hp
 go_enter Tryz.func463, Tryz.ntmps463
 go_wp2_with fail
 generalize hW : w.alloc _ = W
 have hfrW : Fr (fun _ => False) w W := by subst hW; exact (Fr.refl _ w).alloc _
 have d0 : W.cell? ⟨w.heap.size, 0, none⟩ = some (.int .u64 x0) := by subst hW; rw [aB rfl]; rfl
 have d1 : W.cell? ⟨w.heap.size, 1, none⟩ = some (.int .u64 x1) := by subst hW; rw [aB rfl]; rfl
 have d2 : W.cell? ⟨w.heap.size, 2, none⟩ = some (.int .u64 x2) := by subst hW; rw [aB rfl]; rfl
 have d3 : W.cell? ⟨w.heap.size, 3, none⟩ = some (.int .u64 x3) := by subst hW; rw [aB rfl]; rfl
 have hpW : W.heap[p]? = some (.cells #[.slice a0 n c0] 297 (0, 0)) := (hfrW.block p hpl (fun h => h)).trans hp
 have hownW := hfrW.owns hown (fun _ _ h => h)
 obtain ⟨hcellW, hfzW⟩ := aF.cell hpW
 have hplW := aH hpW
 clear hW
 have hpW2 : ∀ o, (W.alloc o).cell? ⟨p, 0, none⟩ = some (.slice a0 n c0) := fun o => (World.cell?_alloc_lt W o _ hplW).trans hcellW
 go_region_law (refine aS _ rfl ?_; refine dB _ aFw _ _ rfl _ _ _ rfl (hownW.alloc _) _ _ _ rfl (Src.ofSlice _ Tryz.underlying297 _ _ _ _ rfl (aW _ [.int .u64 x0, .int .u64 x1, .int .u64 x2, .int .u64 x3] _) (by simp [Value.oneCell'])) ?_ ?_ ?_; (unfold maxLen; omega); omega; intro v' w1 ha; obtain ⟨a', c', rfl⟩ := ha.shape; have hc1 : w1.cell? ⟨p, 0, none⟩ = some (.slice a0 n c0) := ha.2.1.cell ((((Fr.refl (fun _ => False) W).alloc _).drew).aA hcellW (fun h => h)) (fun h => hne h.symm); have hf1 : w1.frozen? ⟨p, 0, none⟩ = false := (World.frozen?_of_block (ha.2.1.block p (by simp; omega) (fun h => hne h.symm))).trans (by show (W.alloc _).frozen? _ = _; rw [World.frozen?_alloc_old _ _ _ (by simp; omega)]; exact hfzW))
 all_goals
  go_end0
  have hres := aF.appended hpW hownW hne hfp (((Fr.refl _ W).alloc _).drew) ha
  obtain ⟨⟨fp', h1, h2⟩, h3⟩ := hres
  exact ⟨rfl, ⟨fp', h1, fun k hk => (h2 k hk).imp id (fun h => Nat.le_trans hfrW.size h)⟩, (hfrW.mono (fun _ _ h => h.elim)).trans h3 (fun _ _ h => h)⟩
theorem wX (w : World) (p : Nat) (n : Nat) (xs : List Value) (fp : Nat → Prop) (hc : aF w p 297 298 4 n xs fp) (m : Nat) (sv : Value) (news : List Value) (hsrc : Src Tryz.prog 4 296 sv m news w) (hn : n + m ≤ 2147483648) :
 Calls Tryz.prog 464 #[.pointer (some ⟨p, 0, none⟩), sv] w fun e w' => e = .returned (.tuple #[]) ∧ (∃ fp', aF w' p 297 298 4 (n + m) (xs ++ news) fp' ∧ Grow w fp fp') ∧ Fr fp w w' := by
 obtain ⟨v, hp, hown, hne, hfp⟩ := hc
 obtain ⟨hcell, hfz⟩ := aF.cell hp
 obtain ⟨a0, c0, rfl⟩ := ownsRow_shape hown
 go_enter Tryz.func464, Tryz.ntmps464
 go_wp2_with ((with_reducible show wpList _ _ _ (⟨some 9, _, _, _, _, _⟩ :: _) _ _); (refine aP _ rfl aFw _ _ rfl _ _ _ rfl hown _ _ _ rfl hsrc ?_ ?_ ?_); (unfold maxLen; omega); omega; intro v' w1 ha; obtain ⟨a', c', rfl⟩ := ha.shape; have hc1 : w1.cell? ⟨p, 0, none⟩ = some (.slice a0 n c0) := ha.2.1.cell hcell (fun h => hne h.symm); have hf1 : w1.frozen? ⟨p, 0, none⟩ = false := (World.frozen?_of_block (ha.2.1.block p (aH hp) (fun h => hne h.symm))).trans hfz)
 go_end0
 exact ⟨rfl, aF.appended hp hown hne hfp (Fr.refl _ w) ha⟩
theorem aHy (w : World) (r0 r1 r2 r3 : Nat) : Calls Tryz.prog 69 #[.agg #[.int .u64 r0, .int .u64 r1, .int .u64 r2, .int .u64 r3]] w fun e w' => e = .returned (.agg #[.int .u64 r0, .int .u64 r1]) ∧ Fr (fun _ => False) w w' := by
 go_enter Tryz.func69, Tryz.ntmps69
 go_wp2
 refine bodyPost_ret (by simp [results, Tryz.results69, go_sem]; try rfl) rfl ?_
 exact ⟨rfl, ((Fr.refl _ w).alloc _).alloc _⟩
theorem aGr (w : World) (r0 r1 r2 r3 : Nat) : Calls Tryz.prog 73 #[.agg #[.int .u64 r0, .int .u64 r1, .int .u64 r2, .int .u64 r3]] w fun e w' => e = .returned (.agg #[.int .u64 r2, .int .u64 r3]) ∧ Fr (fun _ => False) w w' := by
 go_enter Tryz.func73, Tryz.ntmps73
 go_wp2
 refine bodyPost_ret (by simp [results, Tryz.results73, go_sem]; try rfl) rfl ?_
 exact ⟨rfl, ((Fr.refl _ w).alloc _).alloc _⟩
theorem aHO (w : World) (r0 r1 r2 r3 : Nat) (_h0 : r0 < 18446744073709551616) : Calls Tryz.prog 96 #[.agg #[.int .u64 r0, .int .u64 r1, .int .u64 r2, .int .u64 r3]] w fun e w' => e = .returned (.agg #[.int .u64 r0, .int .u64 r1, .int .u64 r2, .int .u64 r3]) ∧ Fr (fun _ => False) w w' := by
 go_enter Tryz.func96, Tryz.ntmps96
 go_wp2_with fail
 generalize hW : (w.alloc _).alloc _ = W
 have hfW : Fr (fun _ => False) w W := by subst hW; exact ((Fr.refl _ w).alloc _).alloc _
 have c0 : W.cell? ⟨w.heap.size, 0, none⟩ = some (.int .u64 r0) := by subst hW; rw [World.cell?_alloc_lt _ _ _ (by simp), aB rfl]; rfl
 have c1 : W.cell? ⟨w.heap.size, 1, none⟩ = some (.int .u64 r1) := by subst hW; rw [World.cell?_alloc_lt _ _ _ (by simp), aB rfl]; rfl
 have c2 : W.cell? ⟨w.heap.size, 2, none⟩ = some (.int .u64 r2) := by subst hW; rw [World.cell?_alloc_lt _ _ _ (by simp), aB rfl]; rfl
 have c3 : W.cell? ⟨w.heap.size, 3, none⟩ = some (.int .u64 r3) := by subst hW; rw [World.cell?_alloc_lt _ _ _ (by simp), aB rfl]; rfl
 have hWr : W.heap[w.heap.size + 1]? = some (.cells #[.int .u64 0, .int .u64 0, .int .u64 0, .int .u64 0] 298 (0, 0)) := by subst hW; exact Fr.made (Fr.refl _ _) (by simp)
 clear hW
 go_region_with (first
  | (go_at_call 69; refine (aHy _ r0 r1 r2 r3).mono ?_; rintro e w1 ⟨rfl, hf1⟩; have g0 := hf1.aG.aA c0 (fun h => h); have g1 := hf1.aG.aA c1 (fun h => h); have g2 := hf1.aG.aA c2 (fun h => h); have g3 := hf1.aG.aA c3 (fun h => h))
  | (go_at_call 73; refine (aGr _ r0 r1 r2 r3).mono ?_; rintro e w2 ⟨rfl, hf2'⟩; have hf2 := hf1.trans hf2' (fun _ _ h => h); have hm : w2.heap[w.heap.size + 1]? = some (.cells #[.int .u64 0, .int .u64 0, .int .u64 0, .int .u64 0] 298 (0, 0)) := (hf2.block _ (aH hWr) (fun h => h)).trans hWr; have q0 : w2.cell? ⟨w.heap.size + 1, 0, none⟩ = some (.int .u64 0) := (by (rw [cell_of_row _ _ _ _ _ _ hm]; rfl)); have q1 : w2.cell? ⟨w.heap.size + 1, 1, none⟩ = some (.int .u64 0) := (by (rw [cell_of_row _ _ _ _ _ _ hm]; rfl)); have q2 : w2.cell? ⟨w.heap.size + 1, 2, none⟩ = some (.int .u64 0) := (by (rw [cell_of_row _ _ _ _ _ _ hm]; rfl)); have q3 : w2.cell? ⟨w.heap.size + 1, 3, none⟩ = some (.int .u64 0) := (by (rw [cell_of_row _ _ _ _ _ _ hm]; rfl)); have z0 : w2.frozen? ⟨w.heap.size + 1, 0, none⟩ = false := frozen_of_row _ _ _ _ _ hm; have z1 : w2.frozen? ⟨w.heap.size + 1, 1, none⟩ = false := frozen_of_row _ _ _ _ _ hm; have z2 : w2.frozen? ⟨w.heap.size + 1, 2, none⟩ = false := frozen_of_row _ _ _ _ _ hm; have z3 : w2.frozen? ⟨w.heap.size + 1, 3, none⟩ = false := frozen_of_row _ _ _ _ _ hm))
 all_goals
  go_wp2
  refine bodyPost_ret (by simp [results, Tryz.results96, go_sem, q0, q1, q2, q3]; try rfl) rfl ?_
  exact ⟨rfl, ((((hfW.trans (hf2.aG) (fun _ _ h => h)).setCell (.inr (by simp)) _).setCell (.inr (by simp)) _).setCell (.inr (by simp)) _).setCell (.inr (by simp)) _⟩
theorem aFu (w : World) (nb : Nat) (r0 r1 r2 r3 : Nat) (h0 : r0 < 18446744073709551616) (s : ByteArray) (null : Bool) (iv kv : Value) (hf : w.cell? ⟨nb, 1, none⟩ = some (.func (.func 96) #[] #[])) :
 Calls Tryz.prog 476 #[.agg #[.int .u64 r0, .int .u64 r1, .int .u64 r2, .int .u64 r3, .string s, .bool null, iv, kv], .pointer (some ⟨nb, 0, none⟩)] w fun e w' => e = .returned (.agg #[.int .u64 r0, .int .u64 r1, .int .u64 r2, .int .u64 r3]) ∧ Fr (fun _ => False) w w' := by
 have hf' : ∀ o, (w.alloc o).cell? ⟨nb, 1, none⟩ = some (.func (.func 96) #[] #[]) := fun o => (World.cell?_alloc_lt w o _ (World.block_lt_of_cell? w _ hf)).trans hf
 have hf2 : ∀ o o', ((w.alloc o).alloc o').cell? ⟨nb, 1, none⟩ = some (.func (.func 96) #[] #[]) := fun o o' => (World.cell?_alloc_lt (w.alloc o) o' _ (World.block_lt_of_cell? _ _ (hf' o))).trans (hf' o)
 go_enter Tryz.func476, Tryz.ntmps476
 go_wp2_with (go_at_call 96; refine (aHO _ r0 r1 r2 r3 h0).mono ?_; rintro e w1 ⟨rfl, hf1⟩; have hm : w1.heap[w.heap.size + 1]? = some (.cells #[.int .u64 0, .int .u64 0, .int .u64 0, .int .u64 0] 298 (0, 0)) := hf1.made (by simp); have q0 : w1.cell? ⟨w.heap.size + 1, 0, none⟩ = some (.int .u64 0) := (by (rw [cell_of_row _ _ _ _ _ _ hm]; rfl)); have q1 : w1.cell? ⟨w.heap.size + 1, 1, none⟩ = some (.int .u64 0) := (by (rw [cell_of_row _ _ _ _ _ _ hm]; rfl)); have q2 : w1.cell? ⟨w.heap.size + 1, 2, none⟩ = some (.int .u64 0) := (by (rw [cell_of_row _ _ _ _ _ _ hm]; rfl)); have q3 : w1.cell? ⟨w.heap.size + 1, 3, none⟩ = some (.int .u64 0) := (by (rw [cell_of_row _ _ _ _ _ _ hm]; rfl)); have z0 : w1.frozen? ⟨w.heap.size + 1, 0, none⟩ = false := frozen_of_row _ _ _ _ _ hm; have z1 : w1.frozen? ⟨w.heap.size + 1, 1, none⟩ = false := frozen_of_row _ _ _ _ _ hm; have z2 : w1.frozen? ⟨w.heap.size + 1, 2, none⟩ = false := frozen_of_row _ _ _ _ _ hm; have z3 : w1.frozen? ⟨w.heap.size + 1, 3, none⟩ = false := frozen_of_row _ _ _ _ _ hm)
 refine bodyPost_ret (by simp [results, Tryz.results476, go_sem, q0, q1, q2, q3]; try rfl) rfl ?_
 exact ⟨rfl, (((((((Fr.refl (fun _ => False) w).alloc _).alloc _).trans hf1 (fun _ _ h => h)).setCell (.inr (by simp)) _).setCell (.inr (by simp)) _).setCell (.inr (by simp)) _).setCell (.inr (by simp)) _⟩
theorem yX (a : Addr) (w : World) : (method (Tryz.prog.types.size + Made.depth) 295 (.pointer (some a)) "Append").run Tryz.prog w = .ok (463, .pointer (some a)) w := by kernel_rfl
theorem rX (a : Addr) (w : World) : (method (Tryz.prog.types.size + Made.depth) 295 (.pointer (some a)) "AppendArr").run Tryz.prog w = .ok (464, .pointer (some a)) w := by kernel_rfl
theorem tY (w : World) (p nb : Nat) (n : Nat) (xs : List Value) (fp : Nat → Prop) (hc : aF w p 297 298 4 n xs fp) (hn : n < 2147483648) (hf : w.cell? ⟨nb, 1, none⟩ = some (.func (.func 96) #[] #[]))
 (r0 r1 r2 r3 : Nat) (h0 : r0 < 18446744073709551616) (s : ByteArray) (null : Bool) (iv kv : Value) :
 Calls Tryz.prog 662 #[.agg #[.iface 295 (.pointer (some ⟨p, 0, none⟩)), .func (.func 476) #[] #[.pointer (some ⟨nb, 0, none⟩)], .func (.func 477) #[] #[.pointer (some ⟨nb, 0, none⟩)]], .agg #[.int .u64 r0, .int .u64 r1, .int .u64 r2, .int .u64 r3, .string s, .bool null, iv, kv]] w fun e w' =>
  e = .returned (.tuple #[]) ∧ (∃ fp', aF w' p 297 298 4 (n + 1) (xs ++ [.int .u64 r0, .int .u64 r1, .int .u64 r2, .int .u64 r3]) fp' ∧ Grow w fp fp') ∧ Fr fp w w' := by
 go_enter Tryz.func662, Tryz.ntmps662
 go_wp2_with fail
 generalize hW : (w.alloc _).alloc _ = W
 have hfrW : Fr (fun _ => False) w W := by subst hW; exact ((Fr.refl _ w).alloc _).alloc _
 have d0 : W.cell? ⟨w.heap.size, 0, none⟩ = some (.iface 295 (.pointer (some ⟨p, 0, none⟩))) := by subst hW; rw [World.cell?_alloc_lt _ _ _ (by simp), aB rfl]; rfl
 have d1 : W.cell? ⟨w.heap.size, 1, none⟩ = some (.func (.func 476) #[] #[.pointer (some ⟨nb, 0, none⟩)]) := by subst hW; rw [World.cell?_alloc_lt _ _ _ (by simp), aB rfl]; rfl
 have e0 : W.cell? ⟨w.heap.size + 1, 0, none⟩ = some (.int .u64 r0) := by subst hW; rw [aB (by simp)]; rfl
 have e1 : W.cell? ⟨w.heap.size + 1, 1, none⟩ = some (.int .u64 r1) := by subst hW; rw [aB (by simp)]; rfl
 have e2 : W.cell? ⟨w.heap.size + 1, 2, none⟩ = some (.int .u64 r2) := by subst hW; rw [aB (by simp)]; rfl
 have e3 : W.cell? ⟨w.heap.size + 1, 3, none⟩ = some (.int .u64 r3) := by subst hW; rw [aB (by simp)]; rfl
 have e4 : W.cell? ⟨w.heap.size + 1, 4, none⟩ = some (.string s) := by subst hW; rw [aB (by simp)]; rfl
 have e5 : W.cell? ⟨w.heap.size + 1, 5, none⟩ = some (.bool null) := by subst hW; rw [aB (by simp)]; rfl
 have e6 : W.cell? ⟨w.heap.size + 1, 6, none⟩ = some iv := by subst hW; rw [aB (by simp)]; rfl
 have e7 : W.cell? ⟨w.heap.size + 1, 7, none⟩ = some kv := by subst hW; rw [aB (by simp)]; rfl
 have hcW : aF W p 297 298 4 n xs fp := hc.aT fun k hk => hfrW.block k (hc.lt k hk) (fun h => h)
 have hfW : W.cell? ⟨nb, 1, none⟩ = some (.func (.func 96) #[] #[]) := hfrW.aA hf (fun h => h)
 have hN : ¬ fp w.heap.size := fun h => by have := hc.lt _ h; omega
 have hN1 : ¬ fp (w.heap.size + 1) := fun h => by have := hc.lt _ h; omega
 clear hW
 go_region_held3 (fun w' => w'.cell? ⟨w.heap.size, 0, none⟩ = some (.iface 295 (.pointer (some ⟨p, 0, none⟩))) ∧ w'.cell? ⟨w.heap.size, 1, none⟩ = some (.func (.func 476) #[] #[.pointer (some ⟨nb, 0, none⟩)]) ∧
  w'.cell? ⟨w.heap.size + 1, 0, none⟩ = some (.int .u64 r0) ∧ w'.cell? ⟨w.heap.size + 1, 1, none⟩ = some (.int .u64 r1) ∧ w'.cell? ⟨w.heap.size + 1, 2, none⟩ = some (.int .u64 r2) ∧ w'.cell? ⟨w.heap.size + 1, 3, none⟩ = some (.int .u64 r3) ∧
  w'.cell? ⟨w.heap.size + 1, 4, none⟩ = some (.string s) ∧ w'.cell? ⟨w.heap.size + 1, 5, none⟩ = some (.bool null) ∧ w'.cell? ⟨w.heap.size + 1, 6, none⟩ = some iv ∧ w'.cell? ⟨w.heap.size + 1, 7, none⟩ = some kv)
  (first
   | exact ⟨d0, d1, e0, e1, e2, e3, e4, e5, e6, e7⟩
   | exact ⟨hf2.aA d0 hN, hf2.aA d1 hN, hf2.aA e0 hN1, hf2.aA e1 hN1, hf2.aA e2 hN1, hf2.aA e3 hN1, hf2.aA e4 hN1, hf2.aA e5 hN1, hf2.aA e6 hN1, hf2.aA e7 hN1⟩
   | exact ⟨hf1.aA d0 (fun h => h), hf1.aA d1 (fun h => h), hf1.aA e0 (fun h => h), hf1.aA e1 (fun h => h), hf1.aA e2 (fun h => h), hf1.aA e3 (fun h => h), hf1.aA e4 (fun h => h), hf1.aA e5 (fun h => h), hf1.aA e6 (fun h => h), hf1.aA e7 (fun h => h)⟩
   | assumption)
  (first
   | (refine aS _ rfl ?_; refine fK _ _ _ _ rfl _ _ rfl (dC.func1 Tryz.call476 (aFu _ nb r0 r1 r2 r3 h0 s null iv kv hfW)) rfl ?_; rintro e w1 ⟨rfl, hf1⟩; refine ⟨_, rfl, ?_⟩)
   | (refine aS _ rfl ?_; refine bU _ _ _ _ _ rfl _ _ rfl (aI.of1 (yX _ _) Tryz.call463 (aCA _ p n xs fp (hcW.aT fun k hk => hf1.block k (hcW.lt k hk) (fun h => h)) hn r0 r1 r2 r3)) rfl ?_; rintro e w2 ⟨rfl, hcol, hf2'⟩; have hf2 : Fr fp W w2 := (hf1.aG.mono (fun _ _ h => h.elim)).trans hf2' (fun _ _ h => h); refine ⟨_, rfl, ?_⟩))
 all_goals
  go_end0
  refine ⟨rfl, ?_, (hfrW.mono (fun _ _ h => h.elim)).trans hf2 (fun _ _ h => h)⟩
  obtain ⟨fp', h1, h2⟩ := hcol
  exact ⟨fp', h1, fun k hk => (h2 k hk).imp id (fun h => Nat.le_trans (Nat.le_trans hfrW.size hf1.size) h)⟩
def fQ (c : Cell) : List Value := [.int .u64 c.r0, .int .u64 c.r1, .int .u64 c.r2, .int .u64 c.r3]
theorem aCq (w : World) (B nb : Nat) (hBw : B ≤ w.heap.size) (hf : w.cell? ⟨nb, 1, none⟩ = some (.func (.func 96) #[] #[])) (cs : List Cell) (v : Value) (xs : List Value) (hs : Sl B w 8 v cs.length xs) (hc : aC B w cs xs) (hn : cs.length ≤ 2147483648) :
 Calls Tryz.prog 665 #[v, .func (.func 476) #[] #[.pointer (some ⟨nb, 0, none⟩)]] w fun e w' => ∃ tv, e = .returned tv ∧ w'.ownsRow 0 298 4 tv cs.length (cs.flatMap fQ) ∧ Fr (fun _ => False) w w' := by
 have hs' := hs
 obtain ⟨hxl, ao, cap, rfl, hnc, hcm, h0, ha⟩ := hs
 unfold maxLen at hcm
 clear ha h0 hxl
 go_enter Tryz.func665, Tryz.ntmps665
 go_wp2
 go_loopw [5, 10] (fun tv i wr => ∃ k : Nat, k ≤ cs.length ∧ i = .int .i64 k ∧ wr.ownsRow 0 298 4 tv k ((cs.take k).flatMap fQ) ∧ (∀ q, tv.ownBlock = some q → w.heap.size ≤ q) ∧ Fr (fun _ => False) w wr) (fun _ i _ => cs.length - (intOf i).toNat)
 case atStart => exact ⟨0, Nat.zero_le _, rfl, World.ownsRow_nil _ _ _ _, by simp [Value.ownBlock], Fr.refl _ _⟩
 case round =>
  obtain ⟨k, hk, rfl, hown, hsince, hfr⟩ := hrel
  have hbr : Below B w wr := hfr.below hBw (fun _ _ h => h)
  obtain ⟨a0, c0, rfl⟩ := ownsRow_shape hown
  by_cases hlt : k < cs.length
  · obtain ⟨b, off, cap', hv, hbB, vs, hvs, hcell⟩ := (hs'.below hbr).row (aC.below hbr _ _ hc) hlt
    have hstep := Lib.hid (bV fQ cs k hlt)
    generalize cs[k] = c at hvs hstep
    obtain ⟨ia, il, ic, ka, kl, kc, rfl, h0, h1, h2, h3, h4⟩ := hvs.open
    simp only [Value.slice.injEq] at hv
    obtain ⟨rfl, _, rfl⟩ := hv
    have d0 := hcell 0 _ rfl
    have d1 := hcell 1 _ rfl
    have d2 := hcell 2 _ rfl
    have d3 := hcell 3 _ rfl
    have d4 := hcell 4 _ rfl
    have d5 := hcell 5 _ rfl
    have d6 := hcell 6 _ rfl
    have d7 := hcell 7 _ rfl
    simp only [Nat.add_zero] at d0
    have hfa : Fr (fun _ => False) w (wr.alloc (.cells #[.int .u64 c.r0, .int .u64 c.r1, .int .u64 c.r2, .int .u64 c.r3, .string c.s, .bool c.null, .slice ia il ic, .slice ka kl kc] 35)) := hfr.alloc _
    have hin := aFu _ nb c.r0 c.r1 c.r2 c.r3 h0 c.s c.null (.slice ia il ic) (.slice ka kl kc) (hfa.aA hf (fun h => h))
    clear hcell hvs hs' hc
    go_wp2_with (first | ((with_reducible show wpList _ _ _ (⟨some 17, _, _, _, _, _⟩ :: _) _ _); refine dE _ rfl _ _ _ rfl _ _ rfl (dC.func1 Tryz.call476 hin) rfl ?_; rintro e w1 ⟨rfl, hf1⟩; refine ⟨_, rfl, ?_⟩; have hfw1 : Fr (fun _ => False) w w1 := hfa.trans hf1 (fun _ _ h => h); have hown1 := hf1.owns ((Fr.refl (fun _ => False) wr).alloc _ |>.owns hown (fun _ _ h => h)) (fun _ _ h => h)) | ((with_reducible show wpList _ _ _ (⟨some 19, _, _, _, _, _⟩ :: _) _ _); refine aP _ rfl aHP _ _ rfl _ _ _ rfl (hown1.alloc _) _ _ _ rfl (Src.ofSlice _ Tryz.underlying296 _ _ _ _ rfl (aW _ [.int .u64 c.r0, .int .u64 c.r1, .int .u64 c.r2, .int .u64 c.r3] _) (by simp [Value.oneCell'])) ?_ ?_ ?_; (unfold maxLen; omega); omega; intro v' w2 ha; obtain ⟨a', c', rfl⟩ := ha.shape))
    go_roundw
    case rel => exact ⟨k + 1, by omega, by go_num, by rw [hstep.out]; exact ha.1, (ha.since (hfw1.alloc _) hsince).1, (ha.since (hfw1.alloc _) hsince).2⟩
    case measure => simp [intOf]; omega
  · have hke : k = cs.length := by omega
    subst hke
    rw [List.take_length] at hown
    go_wp2
    go_ret
    exact ⟨_, rfl, hown, hfr⟩
theorem wL (cs : List Cell) : ∀ u ∈ cs.flatMap fQ, u.oneCell' = true := by
 intro u hu
 obtain ⟨c, _, hc⟩ := List.mem_flatMap.1 hu
 simp only [fQ, List.mem_cons, List.not_mem_nil, or_false] at hc
 rcases hc with rfl | rfl | rfl | rfl <;> rfl
theorem nX (w : World) (B p nb : Nat) (hBw : B ≤ w.heap.size) (n : Nat) (xs : List Value) (fp : Nat → Prop) (hc : aF w p 297 298 4 n xs fp) (hf : w.cell? ⟨nb, 1, none⟩ = some (.func (.func 96) #[] #[]))
 (cs : List Cell) (v : Value) (ys : List Value) (hs : Sl B w 8 v cs.length ys) (hcs : aC B w cs ys) (hn : n + cs.length ≤ 2147483648) :
 Calls Tryz.prog 663 #[.agg #[.iface 295 (.pointer (some ⟨p, 0, none⟩)), .func (.func 476) #[] #[.pointer (some ⟨nb, 0, none⟩)], .func (.func 477) #[] #[.pointer (some ⟨nb, 0, none⟩)]], v] w fun e w' =>
  e = .returned (.tuple #[]) ∧ (∃ fp', aF w' p 297 298 4 (n + cs.length) (xs ++ cs.flatMap fQ) fp' ∧ Grow w fp fp') ∧ Fr fp w w' := by
 go_enter Tryz.func663, Tryz.ntmps663
 go_wp2_with fail
 generalize hW : w.alloc _ = W
 have hfrW : Fr (fun _ => False) w W := by subst hW; exact (Fr.refl _ w).alloc _
 have d0 : W.cell? ⟨w.heap.size, 0, none⟩ = some (.iface 295 (.pointer (some ⟨p, 0, none⟩))) := by subst hW; rw [aB rfl]; rfl
 have d1 : W.cell? ⟨w.heap.size, 1, none⟩ = some (.func (.func 476) #[] #[.pointer (some ⟨nb, 0, none⟩)]) := by subst hW; rw [aB rfl]; rfl
 have hcW : aF W p 297 298 4 n xs fp := hc.aT fun k hk => hfrW.block k (hc.lt k hk) (fun h => h)
 have hfW : W.cell? ⟨nb, 1, none⟩ = some (.func (.func 96) #[] #[]) := hfrW.aA hf (fun h => h)
 have hN : ¬ fp w.heap.size := fun h => by have := hc.lt _ h; omega
 have hsW := hs.fr hBw hfrW
 have hcsW := aC.below (hfrW.below hBw (fun _ _ h => h)) _ _ hcs
 have hBW : B ≤ W.heap.size := Nat.le_trans hBw hfrW.size
 have hsD := hsW.fr hBW (Fr.refl (fun _ => False) W).drew
 have hcsD := aC.below ((Below.refl B W).drew) _ _ hcsW
 clear hW hs hcs
 go_region_held3 (fun w' => w'.cell? ⟨w.heap.size, 0, none⟩ = some (.iface 295 (.pointer (some ⟨p, 0, none⟩))) ∧ w'.cell? ⟨w.heap.size, 1, none⟩ = some (.func (.func 476) #[] #[.pointer (some ⟨nb, 0, none⟩)]))
  (first
   | exact ⟨d0, d1⟩
   | exact ⟨hf2.aA d0 hN, hf2.aA d1 hN⟩
   | exact ⟨hf1.aA d0 (fun h => h), hf1.aA d1 (fun h => h)⟩
   | assumption)
  (first
   | (go_at_call 665; refine (aCq W.drew B nb hBW hfW cs v ys hsD hcsD (by omega)).mono ?_; rintro e w1 ⟨tv, rfl, hown, hf1⟩)
   | (refine aS _ rfl ?_; refine bU _ _ _ _ _ rfl _ _ rfl (aI.of1 (rX _ _) Tryz.call464 (wX _ p n xs fp (hcW.aT fun k hk => hf1.block k (hcW.lt k hk) (fun h => h)) _ _ _ (Src.jH Tryz.underlying296 hown (wL cs)) hn)) rfl ?_; rintro e w2 ⟨rfl, hcol, hf2'⟩; have hf2 : Fr fp W w2 := (hf1.aG.mono (fun _ _ h => h.elim)).trans hf2' (fun _ _ h => h); refine ⟨_, rfl, ?_⟩))
 all_goals
  go_end0
  refine ⟨rfl, ?_, (hfrW.mono (fun _ _ h => h.elim)).trans hf2 (fun _ _ h => h)⟩
  obtain ⟨fp', h1, h2⟩ := hcol
  exact ⟨fp', h1, fun k hk => (h2 k hk).imp id (fun h => Nat.le_trans (Nat.le_trans hfrW.size hf1.size) h)⟩
theorem aFZ (w : World) (a : Option Addr) (n c : Nat) : Calls Tryz.prog 469 #[.slice a n c] w fun e w' => e = .returned (.int .i64 n) ∧ Fr (fun _ => False) w w' := by
 go_enter Tryz.func469, Tryz.ntmps469
 go_wp2
 go_ret
 exact ⟨rfl, Fr.refl _ _⟩
theorem aBW (w : World) (b : Nat) (fb : Nat → Prop) (bs : List UInt8) (hb : Buf w b fb bs) (a : Option Addr) (c : Nat) (cs : List Cell) (hown : w.ownsRow 0 298 4 (.slice a cs.length c) cs.length (cs.flatMap fQ))
 (hd : ∀ k, (Value.slice a cs.length c).ownBlock = some k → ¬ fb k) (hc : ∀ c ∈ cs, c.small) (hl : bs.length + 32 * cs.length ≤ 1099511627776) :
 Calls Tryz.prog 466 #[.slice a cs.length c, .pointer (some ⟨b, 0, none⟩)] w fun e w' => e = .returned (.tuple #[]) ∧ Fr fb w w' ∧ ∃ fb', Buf w' b fb' (bs ++ cs.flatMap (aJ 32)) ∧ Grow w fb fb' := by
 by_cases h0 : cs.length = 0
 · have hcs : cs = [] := List.eq_nil_of_length_eq_zero (by omega)
   subst hcs
   go_enter Tryz.func466, Tryz.ntmps466
   go_wp2
   try simp only [Exit.inBlock, Exit.then]
   refine bodyPost_ret (results_none rfl _ _ _) rfl ?_
   exact ⟨rfl, Fr.refl _ _, fb, by simpa using hb, fun k hk => .inl hk⟩
 · have hb' := hb
   obtain ⟨v, hp, hob, hne, hfp⟩ := hb'
   obtain ⟨hcell, hfz⟩ := aF.cell hp
   obtain ⟨a0, c0, rfl⟩ := ownsRow_shape hob
   have hpl := aH hp
   have hcm : cs.length ≤ 9223372036854775807 := by omega
   go_enter Tryz.func466, Tryz.ntmps466
   go_wp2_with ((with_reducible show wpList _ _ _ (⟨some 25, _, _, _, _, _⟩ :: _) _ _); (refine cO _ rfl gU Tryz.underlying3 _ _ rfl _ _ _ rfl hob _ (32 * cs.length) rfl ?_ ?_ ?_ ?_); go_num; omega; omega; intro v' w1 ha; obtain ⟨a', c', rfl⟩ := ha.shape; have hc1 : w1.cell? ⟨b, 0, none⟩ = some (.slice a0 bs.length c0) := ha.2.1.cell hcell (fun h => hne h.symm); have hf1 : w1.frozen? ⟨b, 0, none⟩ = false := (World.frozen?_of_block (ha.2.1.block b hpl (fun h => hne h.symm))).trans hfz)
   obtain ⟨⟨fb', hcol, hgrow⟩, hfr⟩ := aF.appended hp hob hne hfp (Fr.refl _ w) ha
   generalize w1.setCell ⟨b, 0, none⟩ (Value.slice a' (bs.length + 32 * cs.length) c') = W at hcol hfr ⊢
   obtain ⟨g, cap, hot, hfb'⟩ := Hot.of hcol (by omega)
   have hownW := hfr.owns hown hd
   have hdis : ∀ k, (Value.slice a cs.length c).ownBlock = some k → k ≠ b ∧ k ≠ g := fun k hk => ⟨fun e => hd k hk ((hfp k).2 (.inl e)), fun e => by
    subst e
    rcases hgrow k ((hfb' k).2 (.inr rfl)) with h | h
    · exact hd k hk h
    · have := aK hown hk; omega⟩
   have hS : ∀ k, k < w.heap.size → (k = b ∨ k = g) → fb k := fun k hk hh => (hgrow k ((hfb' k).2 hh)).resolve_right (by omega)
   clear ha hcol hp hob hcell hfz hc1 hf1 hne hb
   go_loopw [5, 7, 30] (fun off _ i wr => ∃ k : Nat, k ≤ cs.length ∧ i = .int .i64 k ∧ off = .int .i64 (bs.length + 32 * k : Nat) ∧ Hot wr b g (bs.length + 32 * cs.length) cap (aQ (bs ++ (cs.take k).flatMap (aJ 32)) ++ List.replicate (32 * (cs.length - k)) (.int .u8 0)) ∧ Fr (fun k => k = b ∨ k = g) W wr) (fun _ _ i _ => cs.length - (intOf i).toNat)
   case atStart => exact ⟨0, Nat.zero_le _, rfl, by simp, by simpa using hot, Fr.refl _ _⟩
   case round =>
    obtain ⟨k, hk, rfl, rfl, hotk, hfrk⟩ := hrel
    by_cases hlt : k < cs.length
    · have hownr := hfrk.owns hownW (fun k hk h => by have := hdis k hk; omega)
      rcases hownr.2 with ⟨hv, _⟩ | ⟨ga, capa, cura, hv, _⟩
      · simp only [Value.slice.injEq] at hv; omega
      · simp only [Value.slice.injEq] at hv
        obtain ⟨rfl, _, rfl⟩ := hv
        have hck := hc cs[k] (List.getElem_mem _)
        have hstep := bV (aJ 32) cs k hlt
        have hat := fun j hj => iY fQ 4 (fun _ => rfl) cs k j hlt hj
        generalize cs[k] = cc at hck hstep hat
        obtain ⟨b0, b1, b2, b3, _⟩ := hck
        have hx0 := hownr.cells (g := ga) rfl (k * 4 + 0) _ (hat 0 (by omega))
        rw [Addr.add_lit, Nat.zero_add] at hx0
        have hx1 := hownr.cells (g := ga) rfl (k * 4 + 1) _ (hat 1 (by omega))
        rw [Addr.add_lit, Nat.zero_add] at hx1
        have hx2 := hownr.cells (g := ga) rfl (k * 4 + 2) _ (hat 2 (by omega))
        rw [Addr.add_lit, Nat.zero_add] at hx2
        have hx3 := hownr.cells (g := ga) rfl (k * 4 + 3) _ (hat 3 (by omega))
        rw [Addr.add_lit, Nat.zero_add] at hx3
        simp only [Nat.add_zero] at hx0
        have hbc := hotk.cell
        have hgc := hotk.row
        obtain ⟨_, _, _, hNc, hcapm⟩ := hgc
        unfold maxLen at hcapm
        have hlen : (bs ++ (cs.take k).flatMap (aJ 32)).length = bs.length + 32 * k := by rw [List.length_append, bH _ 32 (bF 32 (by omega)), List.length_take]; congr 2; omega
        have hnum : aJ 32 cc = Lib.leBytes 8 cc.r0 ++ Lib.leBytes 8 cc.r1 ++ Lib.leBytes 8 cc.r2 ++ Lib.leBytes 8 cc.r3 := aCH cc
        have hzz : aQ (bs ++ (cs.take k).flatMap (aJ 32)) ++ List.replicate (32 * (cs.length - k)) (.int .u8 0) = aQ (bs ++ (cs.take k).flatMap (aJ 32)) ++ (List.replicate 8 (Value.int .u8 0) ++ List.replicate 8 (Value.int .u8 0) ++ List.replicate 8 (Value.int .u8 0) ++ List.replicate 8 (Value.int .u8 0)) ++ List.replicate (32 * (cs.length - (k + 1))) (.int .u8 0) := by
         simp only [List.append_assoc, List.replicate_append_replicate]
         congr 2
         omega
        rw [hzz] at hotk
        have hoff : bs.length + 32 * k = (aQ (bs ++ (cs.take k).flatMap (aJ 32))).length := by rw [bG, hlen]
        have hput := aEX ((wr.alloc (.cells #[.int .u64 cc.r0, .int .u64 cc.r1, .int .u64 cc.r2, .int .u64 cc.r3] 298)).drew) b g _ cap _ _ (List.replicate 8 (Value.int .u8 0)) (List.replicate 8 (Value.int .u8 0)) (List.replicate 8 (Value.int .u8 0)) (List.replicate 8 (Value.int .u8 0)) ((hotk.alloc _).drew) (by simp) (by simp) (by simp) (by simp) cc.r0 cc.r1 cc.r2 cc.r3 b0 b1 b2 b3 (bs.length + 32 * k) (cap - (bs.length + 32 * k)) hoff (by omega)
        rw [← hnum] at hput
        simp only [← bQ, List.append_assoc] at hput
        rw [← hstep] at hput
        have hfa : Fr (fun k => k = b ∨ k = g) W ((wr.alloc (.cells #[.int .u64 cc.r0, .int .u64 cc.r1, .int .u64 cc.r2, .int .u64 cc.r3] 298)).drew) := (hfrk.alloc _).drew
        have dc0 : (wr.alloc (.cells #[.int .u64 cc.r0, .int .u64 cc.r1, .int .u64 cc.r2, .int .u64 cc.r3] 298)).cell? ⟨wr.heap.size, 0, none⟩ = some (.int .u64 cc.r0) := by rw [aB rfl]; rfl
        have dc1 : (wr.alloc (.cells #[.int .u64 cc.r0, .int .u64 cc.r1, .int .u64 cc.r2, .int .u64 cc.r3] 298)).cell? ⟨wr.heap.size, 1, none⟩ = some (.int .u64 cc.r1) := by rw [aB rfl]; rfl
        have dc2 : (wr.alloc (.cells #[.int .u64 cc.r0, .int .u64 cc.r1, .int .u64 cc.r2, .int .u64 cc.r3] 298)).cell? ⟨wr.heap.size, 2, none⟩ = some (.int .u64 cc.r2) := by rw [aB rfl]; rfl
        have dc3 : (wr.alloc (.cells #[.int .u64 cc.r0, .int .u64 cc.r1, .int .u64 cc.r2, .int .u64 cc.r3] 298)).cell? ⟨wr.heap.size, 3, none⟩ = some (.int .u64 cc.r3) := by rw [aB rfl]; rfl
        have hbc1 : (wr.alloc (.cells #[.int .u64 cc.r0, .int .u64 cc.r1, .int .u64 cc.r2, .int .u64 cc.r3] 298)).cell? ⟨b, 0, none⟩ = some (.slice (some ⟨g, 0, none⟩) (bs.length + 32 * cs.length) cap) := ((Fr.refl (fun _ => False) wr).alloc _).aA hbc (fun h => h)
        have hgw := hotk.glt
        clear hat hotk
        have ho : bs.length + 32 * k + 32 ≤ cap := by omega
        generalize hoff2 : bs.length + 32 * k = o at ho hput ⊢
        have s0 : (0 : Int) ≤ ↑o := by omega
        have s1 : IntKind.i64.wrap ((o : Int) + 32) = (o : Int) + 32 := by rw [IntKind.wrap_i64]; omega
        have s2 : (o : Int) ≤ (o : Int) + 32 := by omega
        have s3 : (o : Int) + 32 ≤ (cap : Int) := by omega
        have s4 : (0 : Int) ≤ (o : Int) + 32 := by omega
        have s5 : ¬ cap = o := by omega
        have s6 : ((o : Int) + 32).toNat - o = 32 := by omega
        go_wp2
        generalize hWa : wr.alloc (.cells #[.int .u64 cc.r0, .int .u64 cc.r1, .int .u64 cc.r2, .int .u64 cc.r3] 298) = Wa at hput hfa hbc1 dc0 dc1 dc2 dc3 ⊢
        clear hWa
        go_region_held3 (fun w' => w'.cell? ⟨b, 0, none⟩ = some (.slice (some ⟨g, 0, none⟩) (bs.length + 32 * cs.length) cap) ∧ w'.cell? ⟨wr.heap.size, 0, none⟩ = some (.int .u64 cc.r0) ∧ w'.cell? ⟨wr.heap.size, 1, none⟩ = some (.int .u64 cc.r1) ∧ w'.cell? ⟨wr.heap.size, 2, none⟩ = some (.int .u64 cc.r2) ∧ w'.cell? ⟨wr.heap.size, 3, none⟩ = some (.int .u64 cc.r3))
         (first
          | exact ⟨hbc1, dc0, dc1, dc2, dc3⟩
          | exact ⟨hotn.cell, hf1.aA dc0 (by show ¬ wr.heap.size = g; omega), hf1.aA dc1 (by show ¬ wr.heap.size = g; omega), hf1.aA dc2 (by show ¬ wr.heap.size = g; omega), hf1.aA dc3 (by show ¬ wr.heap.size = g; omega)⟩
          | assumption)
         (first
          | (go_at_call 403; refine hput.mono ?_; rintro e w1 ⟨rfl, hf1, hotn⟩))
        all_goals
         go_wp2
         go_roundw
         case rel => exact ⟨k + 1, by omega, by go_num, by subst hoff2; go_num, hotn, hfa.trans hf1 (fun _ _ h => .inr h)⟩
         case measure => simp [intOf]; omega
    · have hke : k = cs.length := by omega
      subst hke
      go_wp2
      go_end0
      rw [List.take_length, Nat.sub_self, Nat.mul_zero, List.replicate_zero, List.append_nil] at hotk
      have hbuf := fun hfb => Hot.buf (bs := bs ++ cs.flatMap (aJ 32)) (cap := cap) (N := bs.length + 32 * cs.length) hotk (fb := fun k => k = b ∨ k = g) hfb
      exact ⟨rfl, hfr.trans hfrk hS, _, hbuf (fun k => Iff.rfl), fun k hk => hgrow k ((hfb' k).2 hk)⟩
def tK (B p nb : Nat) (w : World) (fp : Nat → Prop) (σ : List Cell) : Prop :=
 ∃ fp0, aF w p 297 298 4 σ.length (σ.flatMap fQ) fp0 ∧ w.cell? ⟨nb, 1, none⟩ = some (.func (.func 96) #[] #[]) ∧ (∀ k, fp k ↔ fp0 k ∨ k = nb) ∧ (∀ k, fp k → B ≤ k) ∧ (¬ fp0 nb) ∧ ∀ c ∈ σ, c.small
theorem vI (p nb : Nat) (w : World) (name : String) (f : FuncId) (h : (name, f) = ("Append", 662) ∨ (name, f) = ("AppendArr", 663)) : (method (Tryz.prog.types.size + Made.depth) 597 (.agg #[.iface 295 (.pointer (some ⟨p, 0, none⟩)), .func (.func 476) #[] #[.pointer (some ⟨nb, 0, none⟩)], .func (.func 477) #[] #[.pointer (some ⟨nb, 0, none⟩)]]) name).run Tryz.prog w = .ok (f, .agg #[.iface 295 (.pointer (some ⟨p, 0, none⟩)), .func (.func 476) #[] #[.pointer (some ⟨nb, 0, none⟩)], .func (.func 477) #[] #[.pointer (some ⟨nb, 0, none⟩)]]) w := by
 rcases h with h | h <;> (simp only [Prod.mk.injEq] at h; obtain ⟨rfl, rfl⟩ := h; kernel_rfl)
theorem aCb (p nb : Nat) (w : World) (v : Value) (hv : w.cell? ⟨p, 0, none⟩ = some v) : (method (Tryz.prog.types.size + Made.depth) 597 (.agg #[.iface 295 (.pointer (some ⟨p, 0, none⟩)), .func (.func 476) #[] #[.pointer (some ⟨nb, 0, none⟩)], .func (.func 477) #[] #[.pointer (some ⟨nb, 0, none⟩)]]) "Rows").run Tryz.prog w = .ok (469, v) w := by
 obtain ⟨n, hn⟩ := fuel
 rw [hn]
 refine (bD (n := n + 1) Tryz.underlying597 rfl rfl (fun _ => by kernel_rfl) (by kernel_rfl) rfl).trans ?_
 exact aZ (n := n) false (by kernel_rfl) (bT Tryz.underlying295 (cZ Tryz.underlying297 hv))
theorem aDE (p nb : Nat) (w : World) (v : Value) (hv : w.cell? ⟨p, 0, none⟩ = some v) : (method (Tryz.prog.types.size + Made.depth) 597 (.agg #[.iface 295 (.pointer (some ⟨p, 0, none⟩)), .func (.func 476) #[] #[.pointer (some ⟨nb, 0, none⟩)], .func (.func 477) #[] #[.pointer (some ⟨nb, 0, none⟩)]]) "EncodeColumn").run Tryz.prog w = .ok (466, v) w := by
 obtain ⟨n, hn⟩ := fuel
 rw [hn]
 refine (bD (n := n + 1) Tryz.underlying597 rfl rfl (fun _ => by kernel_rfl) (by kernel_rfl) rfl).trans ?_
 exact aZ (n := n) false (by kernel_rfl) (bT Tryz.underlying295 (cZ Tryz.underlying297 hv))
theorem tK.nb {B p nb : Nat} {w : World} {fp : Nat → Prop} {σ : List Cell} (h : tK B p nb w fp σ) : nb < w.heap.size ∧ B ≤ nb := by
 obtain ⟨fp0, hc, hnb, hfp, hB, hne, hsm⟩ := h
 exact ⟨World.block_lt_of_cell? w _ hnb, hB nb ((hfp nb).2 (.inr rfl))⟩
theorem tK.after {B p nb : Nat} {w w' : World} {fp fp0 : Nat → Prop} {σ τ : List Cell} (h : tK B p nb w fp σ) (hfp : ∀ k, fp k ↔ fp0 k ∨ k = nb) (hne : ¬ fp0 nb)
 (hc : ∃ fp', aF w' p 297 298 4 τ.length (τ.flatMap fQ) fp' ∧ Grow w fp0 fp') (hfr : Fr fp0 w w') (hsm : ∀ c ∈ τ, c.small) :
 Fr fp w w' ∧ ∃ fp', tK B p nb w' fp' τ ∧ Grow w fp fp' := by
 obtain ⟨hlt, hBn⟩ := h.nb
 obtain ⟨_, _, hnb, _, hB, _, _⟩ := h
 obtain ⟨fp', hcol, hg⟩ := hc
 refine ⟨hfr.mono (fun k _ hk => (hfp k).2 (.inl hk)), fun k => fp' k ∨ k = nb, ⟨fp', hcol, hfr.aA hnb hne, fun k => Iff.rfl, ?_, ?_, hsm⟩, ?_⟩
 · rintro k (hk | rfl)
   · rcases hg k hk with hk | hk
     · exact hB k ((hfp k).2 (.inl hk))
     · omega
   · exact hBn
 · intro hk
   rcases hg nb hk with hk | hk
   · exact hne hk
   · omega
 · rintro k (hk | rfl)
   · exact (hg k hk).imp (fun hk => (hfp k).2 (.inl hk)) id
   · exact .inl ((hfp k).2 (.inr rfl))
theorem aGp (B p nb : Nat) : bI Tryz.prog B 597 (.agg #[.iface 295 (.pointer (some ⟨p, 0, none⟩)), .func (.func 476) #[] #[.pointer (some ⟨nb, 0, none⟩)], .func (.func 477) #[] #[.pointer (some ⟨nb, 0, none⟩)]]) (.num .u256) [] (tK B p nb) (tK B p nb) where
 lo := by
  intro w fp σ h k hk
  have hn := h.nb
  obtain ⟨fp0, hc, hnb, hfp, hB, hne, hsm⟩ := h
  refine ⟨hB k hk, ?_⟩
  rcases (hfp k).1 hk with hk | rfl
  · exact hc.lt k hk
  · exact hn.1
 lo' := by
  intro w fp σ h k hk
  have hn := h.nb
  obtain ⟨fp0, hc, hnb, hfp, hB, hne, hsm⟩ := h
  refine ⟨hB k hk, ?_⟩
  rcases (hfp k).1 hk with hk | rfl
  · exact hc.lt k hk
  · exact hn.1
 frame := by
  intro w w' fp σ h hk
  obtain ⟨fp0, hc, hnb, hfp, hB, hne, hsm⟩ := h
  exact ⟨fp0, hc.aT fun k h => hk k ((hfp k).2 (.inl h)), (World.cell?_of_block (hk nb ((hfp nb).2 (.inr rfl)))).trans hnb, hfp, hB, hne, hsm⟩
 frame' := by
  intro w w' fp σ h hk
  obtain ⟨fp0, hc, hnb, hfp, hB, hne, hsm⟩ := h
  exact ⟨fp0, hc.aT fun k h => hk k ((hfp k).2 (.inl h)), (World.cell?_of_block (hk nb ((hfp nb).2 (.inr rfl)))).trans hnb, hfp, hB, hne, hsm⟩
 append := by
  intro w fp σ c vs h hvs hw
  have h' := h
  obtain ⟨fp0, hc, hnb, hfp, hB, hne, hsm⟩ := h'
  have hcs := hvs.small
  obtain ⟨ia, il, ic, ka, kl, kc, rfl, h0, h1, h2, h3, h4⟩ := hvs.open
  have hlen := aN (σ ++ [c])
  have hw' : wts (σ ++ [c]) ≤ 2147483648 := hw
  rw [List.length_append, List.length_singleton] at hlen
  refine aI.of1 (vI p nb w _ _ (.inl rfl)) Tryz.call662 ((tY w p nb _ _ fp0 hc (by omega) hnb c.r0 c.r1 c.r2 c.r3 h0 c.s c.null (.slice ia il ic) (.slice ka kl kc)).mono ?_)
  rintro e w' ⟨he, hcol, hfr⟩
  refine ⟨he, h.after hfp hne ?_ hfr (fun d hd => ?_)⟩
  · rw [List.flatMap_append, List.flatMap_singleton, List.length_append, List.length_singleton]
    exact hcol
  · rcases List.mem_append.1 hd with hd | hd
    · exact hsm d hd
    · rw [List.mem_singleton.1 hd]
      exact hcs
 appendArr := by
  intro w fp σ cs v xs h hs hcs hw
  have h' := h
  obtain ⟨fp0, hc, hnb, hfp, hB, hne, hsm⟩ := h'
  have hlen := aN (σ ++ cs)
  have hw' : wts (σ ++ cs) ≤ 2147483648 := hw
  have hn := h.nb
  rw [List.length_append] at hlen
  refine aI.of1 (vI p nb w _ _ (.inr rfl)) Tryz.call663 ((nX w B p nb (by omega) _ _ fp0 hc hnb cs v xs hs hcs (by omega)).mono ?_)
  rintro e w' ⟨he, hcol, hfr⟩
  refine ⟨he, h.after hfp hne ?_ hfr (fun d hd => ?_)⟩
  · rw [List.flatMap_append, List.length_append]
    exact hcol
  · rcases List.mem_append.1 hd with hd | hd
    · exact hsm d hd
    · exact aC.small hcs d hd
 rows := by
  intro w fp σ h
  obtain ⟨fp0, ⟨v, hp, hown, _⟩, hnb, hfp, hB, hne, hsm⟩ := h
  obtain ⟨a, c, rfl⟩ := ownsRow_shape hown
  exact aI.of0 (aCb p nb w _ (aF.cell hp).1) Tryz.call469 (aFZ w a _ c)
 flat := by rintro w name (rfl | rfl | rfl) n m <;> exact eQ Tryz.underlying597 rfl rfl (fun _ => by kernel_rfl) (by kernel_rfl) rfl (by kernel_rfl) n m
 ahead := fun w => by kernel_rfl
 prepare := ⟨false, fun x w => run_typeAssert_lacksB Tryz.underlying102 (by kernel_rfl) (by kernel_rfl) _ x w, fun h => by simpa using h⟩
 state := ⟨false, fun x w => run_typeAssert_lacksB Tryz.underlying172 (by kernel_rfl) (by kernel_rfl) _ x w, by simp⟩
 encode := by
  intro w fp σ b fb bs h hw hb hd hl
  obtain ⟨fp0, ⟨v, hp, hown, hne', hfp0⟩, hnb, hfp, hB, hne, hsm⟩ := h
  obtain ⟨a, c, rfl⟩ := ownsRow_shape hown
  have hl' : (enc (.num .u256) σ).length = 32 * σ.length := bH _ 32 (bF 32 (by omega)) σ
  exact aI.of1 (aDE p nb w _ (aF.cell hp).1) Tryz.call466 (aBW w b fb bs hb a c σ hown (fun k hk => hd k ((hfp k).2 (.inl ((hfp0 k).2 (.inr hk))))) (fun c hc => hsm c hc) (by omega))
theorem aCk (w : World) : Calls Tryz.prog 50 #[.int .i64 12] w fun e w' => e = .returned (.iface 304 (.agg #[.iface 295 (.pointer (some ⟨w.heap.size, 0, none⟩)), .func (.func 96) #[] #[], .func (.func 97) #[] #[]])) ∧ w' = w.alloc (.cells #[.slice none 0 0] 297) := by
 have h : Calls Tryz.prog 83 #[.int .i64 12] w fun e w' => e = .returned (.iface 304 (.agg #[.iface 295 (.pointer (some ⟨w.heap.size, 0, none⟩)), .func (.func 96) #[] #[], .func (.func 97) #[] #[]])) ∧ w' = w.alloc (.cells #[.slice none 0 0] 297) := by
  go_enter Tryz.func83, Tryz.ntmps83
  go_wp2
  go_ret
  exact ⟨rfl, rfl⟩
 go_enter Tryz.func50, Tryz.ntmps50
 go_wp2_with (go_at_call 83; refine h.mono ?_; rintro e w1 ⟨rfl, rfl⟩)
 go_ret
 exact ⟨rfl, rfl⟩
theorem aAY (w : World) (p : Nat) : (method (Tryz.prog.types.size + Made.depth) 304 (.agg #[.iface 295 (.pointer (some ⟨p, 0, none⟩)), .func (.func 96) #[] #[], .func (.func 97) #[] #[]]) "given.example/pub-bradawl/impl.cells").run Tryz.prog w =
 .ok (475, .agg #[.iface 295 (.pointer (some ⟨p, 0, none⟩)), .func (.func 96) #[] #[], .func (.func 97) #[] #[]]) w := by
 obtain ⟨n, hn⟩ := fuel
 rw [hn]
 exact aZ (n := n + 1) false (by kernel_rfl) (dN Tryz.underlying304 rfl)
theorem aGn (w : World) (p B : Nat) (hB : B ≤ p) (hp : w.heap[p]? = some (.cells #[.slice none 0 0] 297 (0, 0))) :
 Calls Tryz.prog 475 #[.agg #[.iface 295 (.pointer (some ⟨p, 0, none⟩)), .func (.func 96) #[] #[], .func (.func 97) #[] #[]]] w fun e w' =>
  ∃ nb fp, e = .returned (.iface 597 (.agg #[.iface 295 (.pointer (some ⟨p, 0, none⟩)), .func (.func 476) #[] #[.pointer (some ⟨nb, 0, none⟩)], .func (.func 477) #[] #[.pointer (some ⟨nb, 0, none⟩)]])) ∧ tK B p nb w' fp [] ∧ Fr (fun _ => False) w w' := by
 have hpl := aH hp
 go_enter Tryz.func475, Tryz.ntmps475
 go_wp2
 go_ret
 refine ⟨w.heap.size, fun k => k = p ∨ k = w.heap.size, rfl, ⟨fun k => k = p, ⟨.slice none 0 0, (Below.heap_alloc _ _ _ hpl).trans hp, World.ownsRow_nil _ _ _ _, by simp [Value.ownBlock], fun k => by simp [Value.ownBlock]⟩, by rw [aB rfl]; rfl, fun k => Iff.rfl, ?_, by omega, by simp⟩, (Fr.refl _ w).alloc _⟩
 rintro k (rfl | rfl) <;> omega
end Go.Proofs.YtcidlnjpabgioaaGreatDoor
