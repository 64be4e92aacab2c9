/- What binPutUInt128 and binPutUInt256 write. -/
import Derived.Test.YtcidlnjpabgioaaGreatDoorEnc
namespace Go.Proofs.YtcidlnjpabgioaaGreatDoor
open Go.RowKit

/-- One put of eight bytes, as the worlds of a walk want it. -/
theorem Hot.put8 {w : World} {b g N cap : Nat} {A C olds : List Value} (hot : Hot w b g N cap (A ++ olds ++ C)) (hol : olds.length = 8) (v : Nat) (hv : v < 18446744073709551616) (n c : Nat) (hn : 8 ≤ n) :
    Calls Tryz.prog 175 #[.agg #[], .slice (some ⟨g, A.length, none⟩) n c, .int .u64 v] w fun e w' => e = .returned (.tuple #[]) ∧ Fr (fun k => k = g) w w' ∧ Hot w' b g N cap (A ++ bcells (Lib.leBytes 8 v) ++ C) := by
  have hN := hot.own.1
  simp only [List.length_append, Nat.mul_one] at hN
  refine (put64_any g A.length n c v hv w hn (hot.there (by omega)) hot.cold).mono ?_
  rintro e w' ⟨rfl, rfl⟩
  refine ⟨rfl, Fr.setCells (S := fun k => k = g) (.inl rfl) _ _ _ ((Fr.refl _ w).alloc _), ?_⟩
  exact (hot.alloc _).put rfl _ (by simp [bcells_length, Lib.leBytes_length, hol]) rfl

set_option maxRecDepth 100000 in
set_option maxHeartbeats 1000000 in
theorem put128_any (w : World) (b g N cap : Nat) (A C o1 o2 : List Value) (hot : Hot w b g N cap (A ++ (o1 ++ o2) ++ C)) (h1 : o1.length = 8) (h2 : o2.length = 8) (lo hi : Nat) (hlo : lo < 18446744073709551616) (hhi : hi < 18446744073709551616)
    (o c : Nat) (ho : o = A.length) (hc : 16 ≤ c) :
    Calls Tryz.prog 385 #[.slice (some ⟨g, o, none⟩) 16 c, .agg #[.int .u64 lo, .int .u64 hi]] w fun e w' => e = .returned (.tuple #[]) ∧ Fr (fun k => k = g) w w' ∧ Hot w' b g N cap (A ++ bcells (Lib.leBytes 8 lo ++ Lib.leBytes 8 hi) ++ C) := by
  subst ho
  have hglt := hot.glt
  have hotA := hot.alloc (.cells #[.int .u64 lo, .int .u64 hi] 229)
  have hl8 : (A ++ o1).length = A.length + 8 := by simp [h1]
  have p1 := (show Hot _ b g N cap ((A ++ o1) ++ o2 ++ C) by simpa using hotA.drew).put8 h2 hi hhi 8 (c - 8) (by omega)
  rw [hl8] at p1
  have s1 : ¬ c = 8 := by omega
  have s2 : ¬ c = 0 := by omega
  have s3 : (16 : Int) ≤ (c : Int) := by omega
  have s4 : (8 : Int) ≤ (c : Int) := by omega
  have c0 : (w.alloc (.cells #[.int .u64 lo, .int .u64 hi] 229)).cell? ⟨w.heap.size, 0, none⟩ = some (.int .u64 lo) := by rw [cell_new rfl]; rfl
  have c1 : (w.alloc (.cells #[.int .u64 lo, .int .u64 hi] 229)).cell? ⟨w.heap.size, 1, none⟩ = some (.int .u64 hi) := by rw [cell_new rfl]; rfl
  have hA := (Fr.refl (fun k => k = g) w).alloc (.cells #[.int .u64 lo, .int .u64 hi] 229)
  go_enter Tryz.func385, Tryz.ntmps385
  go_wp2
  generalize hW : w.alloc (.cells #[.int .u64 lo, .int .u64 hi] 229) = W at p1 c0 c1 hA ⊢
  clear hW hotA hot
  go_region_held3 (fun w' => w'.cell? ⟨w.heap.size, 0, none⟩ = some (.int .u64 lo) ∧ w'.cell? ⟨w.heap.size, 1, none⟩ = some (.int .u64 hi))
    (first
      | exact ⟨c0, c1⟩
      | exact ⟨d0, d1⟩
      | assumption)
    (first
      | (go_at_call 175; refine p1.mono ?_; rintro e w1 ⟨rfl, hf1, hot1⟩; have d0 := hf1.drew.of_drew.cell_some c0 (by show ¬ w.heap.size = g; omega); have d1 := hf1.drew.of_drew.cell_some c1 (by show ¬ w.heap.size = g; omega)))
  all_goals
    have p2 := (show Hot _ b g N cap (A ++ o1 ++ (bcells (Lib.leBytes 8 hi) ++ C)) by simpa using hot1.drew).put8 h1 lo hlo 8 c (by omega)
    go_wp2
    go_region_held3 (fun w' => w'.cell? ⟨w.heap.size, 0, none⟩ = some (.int .u64 lo) ∧ w'.cell? ⟨w.heap.size, 1, none⟩ = some (.int .u64 hi))
      (first
        | exact ⟨d0, d1⟩
        | exact ⟨g0, g1⟩
        | assumption)
      (first
        | (go_at_call 175; refine p2.mono ?_; rintro e w2 ⟨rfl, hf2, hot2⟩; have g0 := hf2.drew.of_drew.cell_some d0 (by show ¬ w.heap.size = g; omega); have g1 := hf2.drew.of_drew.cell_some d1 (by show ¬ w.heap.size = g; omega)))
  all_goals
    go_end0
    refine ⟨rfl, (hA.trans (hf1.of_drew) (fun _ _ h => h)).trans (hf2.of_drew) (fun _ _ h => h), ?_⟩
    rw [bcells_append]
    simpa using hot2
/-! ## 256 -/
set_option maxRecDepth 100000 in
set_option maxHeartbeats 2000000 in
theorem put256_any (w : World) (b g N cap : Nat) (A C o0 o1 o2 o3 : List Value) (hot : Hot w b g N cap (A ++ (o0 ++ o1 ++ o2 ++ o3) ++ C)) (h0 : o0.length = 8) (h1 : o1.length = 8) (h2 : o2.length = 8) (h3 : o3.length = 8)
    (r0 r1 r2 r3 : Nat) (b0 : r0 < 18446744073709551616) (b1 : r1 < 18446744073709551616) (b2 : r2 < 18446744073709551616) (b3 : r3 < 18446744073709551616) (o c : Nat) (ho : o = A.length) (hc : 32 ≤ c) :
    Calls Tryz.prog 403 #[.slice (some ⟨g, o, none⟩) 32 c, .agg #[.int .u64 r0, .int .u64 r1, .int .u64 r2, .int .u64 r3]] w fun e w' => e = .returned (.tuple #[]) ∧ Fr (fun k => k = g) w w' ∧
      Hot w' b g N cap (A ++ bcells (Lib.leBytes 8 r0 ++ Lib.leBytes 8 r1 ++ Lib.leBytes 8 r2 ++ Lib.leBytes 8 r3) ++ C) := by
  subst ho
  have hglt := hot.glt
  have hotA := hot.alloc (.cells #[.int .u64 r0, .int .u64 r1, .int .u64 r2, .int .u64 r3] 298)
  have l1 : (A ++ o0).length = A.length + 8 := by simp [h0]
  have l2 : (A ++ o0 ++ o1).length = A.length + 16 := by simp [h0, h1]
  have l3 : (A ++ o0 ++ o1 ++ o2).length = A.length + 24 := by simp [h0, h1, h2]
  have p3 := (show Hot _ b g N cap ((A ++ o0 ++ o1 ++ o2) ++ o3 ++ C) by simpa using hotA.drew).put8 h3 r3 b3 8 (c - 24) (by omega)
  rw [l3] at p3
  have s24 : ¬ c = 24 := by omega
  have s16 : ¬ c = 16 := by omega
  have s8 : ¬ c = 8 := by omega
  have s0 : ¬ c = 0 := by omega
  have t32 : (32 : Int) ≤ (c : Int) := by omega
  have t24 : (24 : Int) ≤ (c : Int) := by omega
  have t16 : (16 : Int) ≤ (c : Int) := by omega
  have t8 : (8 : Int) ≤ (c : Int) := by omega
  have c0 : (w.alloc (.cells #[.int .u64 r0, .int .u64 r1, .int .u64 r2, .int .u64 r3] 298)).cell? ⟨w.heap.size, 0, none⟩ = some (.int .u64 r0) := by rw [cell_new rfl]; rfl
  have c1 : (w.alloc (.cells #[.int .u64 r0, .int .u64 r1, .int .u64 r2, .int .u64 r3] 298)).cell? ⟨w.heap.size, 1, none⟩ = some (.int .u64 r1) := by rw [cell_new rfl]; rfl
  have c2 : (w.alloc (.cells #[.int .u64 r0, .int .u64 r1, .int .u64 r2, .int .u64 r3] 298)).cell? ⟨w.heap.size, 2, none⟩ = some (.int .u64 r2) := by rw [cell_new rfl]; rfl
  have c3 : (w.alloc (.cells #[.int .u64 r0, .int .u64 r1, .int .u64 r2, .int .u64 r3] 298)).cell? ⟨w.heap.size, 3, none⟩ = some (.int .u64 r3) := by rw [cell_new rfl]; rfl
  have hA := (Fr.refl (fun k => k = g) w).alloc (.cells #[.int .u64 r0, .int .u64 r1, .int .u64 r2, .int .u64 r3] 298)
  go_enter Tryz.func403, Tryz.ntmps403
  go_wp2
  generalize hW : w.alloc (.cells #[.int .u64 r0, .int .u64 r1, .int .u64 r2, .int .u64 r3] 298) = W at p3 c0 c1 c2 c3 hA ⊢
  clear hW hotA hot
  go_region_held3 (fun w' => w'.cell? ⟨w.heap.size, 0, none⟩ = some (.int .u64 r0) ∧ w'.cell? ⟨w.heap.size, 1, none⟩ = some (.int .u64 r1) ∧ w'.cell? ⟨w.heap.size, 2, none⟩ = some (.int .u64 r2) ∧ w'.cell? ⟨w.heap.size, 3, none⟩ = some (.int .u64 r3))
    (first
      | exact ⟨c0, c1, c2, c3⟩
      | exact ⟨d0, d1, d2, d3⟩
      | assumption)
    (first
      | (go_at_call 175; refine p3.mono ?_; rintro e w3 ⟨rfl, hf3, hot3⟩; have d0 := hf3.drew.of_drew.cell_some c0 (by show ¬ w.heap.size = g; omega); have d1 := hf3.drew.of_drew.cell_some c1 (by show ¬ w.heap.size = g; omega); have d2 := hf3.drew.of_drew.cell_some c2 (by show ¬ w.heap.size = g; omega); have d3 := hf3.drew.of_drew.cell_some c3 (by show ¬ w.heap.size = g; omega)))
  all_goals
    have p2 := (show Hot _ b g N cap (A ++ o0 ++ o1 ++ o2 ++ (bcells (Lib.leBytes 8 r3) ++ C)) by simpa using hot3.drew).put8 h2 r2 b2 8 (c - 16) (by omega)
    rw [l2] at p2
    go_wp2
    go_region_held3 (fun w' => w'.cell? ⟨w.heap.size, 0, none⟩ = some (.int .u64 r0) ∧ w'.cell? ⟨w.heap.size, 1, none⟩ = some (.int .u64 r1) ∧ w'.cell? ⟨w.heap.size, 2, none⟩ = some (.int .u64 r2) ∧ w'.cell? ⟨w.heap.size, 3, none⟩ = some (.int .u64 r3))
      (first
        | exact ⟨d0, d1, d2, d3⟩
        | exact ⟨e0, e1, e2, e3⟩
        | assumption)
      (first
        | (go_at_call 175; refine p2.mono ?_; rintro e w2 ⟨rfl, hf2, hot2⟩; have e0 := hf2.drew.of_drew.cell_some d0 (by show ¬ w.heap.size = g; omega); have e1 := hf2.drew.of_drew.cell_some d1 (by show ¬ w.heap.size = g; omega); have e2 := hf2.drew.of_drew.cell_some d2 (by show ¬ w.heap.size = g; omega); have e3 := hf2.drew.of_drew.cell_some d3 (by show ¬ w.heap.size = g; omega)))
    have p1 := (show Hot _ b g N cap (A ++ o0 ++ o1 ++ (bcells (Lib.leBytes 8 r2) ++ bcells (Lib.leBytes 8 r3) ++ C)) by simpa using hot2.drew).put8 h1 r1 b1 8 (c - 8) (by omega)
    rw [l1] at p1
    go_wp2
    go_region_held3 (fun w' => w'.cell? ⟨w.heap.size, 0, none⟩ = some (.int .u64 r0) ∧ w'.cell? ⟨w.heap.size, 1, none⟩ = some (.int .u64 r1) ∧ w'.cell? ⟨w.heap.size, 2, none⟩ = some (.int .u64 r2) ∧ w'.cell? ⟨w.heap.size, 3, none⟩ = some (.int .u64 r3))
      (first
        | exact ⟨e0, e1, e2, e3⟩
        | exact ⟨f0, f1, f2, f3⟩
        | assumption)
      (first
        | (go_at_call 175; refine p1.mono ?_; rintro e w1 ⟨rfl, hf1, hot1⟩; have f0 := hf1.drew.of_drew.cell_some e0 (by show ¬ w.heap.size = g; omega); have f1 := hf1.drew.of_drew.cell_some e1 (by show ¬ w.heap.size = g; omega); have f2 := hf1.drew.of_drew.cell_some e2 (by show ¬ w.heap.size = g; omega); have f3 := hf1.drew.of_drew.cell_some e3 (by show ¬ w.heap.size = g; omega)))
    have p0 := (show Hot _ b g N cap (A ++ o0 ++ (bcells (Lib.leBytes 8 r1) ++ bcells (Lib.leBytes 8 r2) ++ bcells (Lib.leBytes 8 r3) ++ C)) by simpa using hot1.drew).put8 h0 r0 b0 8 (c - 0) (by omega)
    go_wp2
    go_region_held3 (fun w' => w'.cell? ⟨w.heap.size, 0, none⟩ = some (.int .u64 r0) ∧ w'.cell? ⟨w.heap.size, 1, none⟩ = some (.int .u64 r1) ∧ w'.cell? ⟨w.heap.size, 2, none⟩ = some (.int .u64 r2) ∧ w'.cell? ⟨w.heap.size, 3, none⟩ = some (.int .u64 r3))
      (first
        | exact ⟨f0, f1, f2, f3⟩
        | exact ⟨g0, g1, g2, g3⟩
        | assumption)
      (first
        | (go_at_call 175; refine p0.mono ?_; rintro e w0 ⟨rfl, hf0, hot0⟩; have g0 := hf0.drew.of_drew.cell_some f0 (by show ¬ w.heap.size = g; omega); have g1 := hf0.drew.of_drew.cell_some f1 (by show ¬ w.heap.size = g; omega); have g2 := hf0.drew.of_drew.cell_some f2 (by show ¬ w.heap.size = g; omega); have g3 := hf0.drew.of_drew.cell_some f3 (by show ¬ w.heap.size = g; omega)))
    go_end0
    refine ⟨rfl, (((hA.trans (hf3.of_drew) (fun _ _ h => h)).trans (hf2.of_drew) (fun _ _ h => h)).trans (hf1.of_drew) (fun _ _ h => h)).trans (hf0.of_drew) (fun _ _ h => h), ?_⟩
    simp only [bcells_append]
    simpa using hot0
end Go.Proofs.YtcidlnjpabgioaaGreatDoor
