import Derived.Test.YtcidlnjpabgioaaGreatDoorWGByte
import Derived.Test.YtcidlnjpabgioaaGreatDoorWGLeafK
set_option maxHeartbeats 8000000
set_option maxRecDepth 100000
namespace Go.Proofs.YtcidlnjpabgioaaGreatDoor
open Go.RowKit
theorem aKx : ElT Tryz.prog 27 29 (.agg #[.string ⟨#[]⟩, .int .i64 0, .slice none 0 0]) 3 48 := ⟨Tryz.underlying27, info_parts (by kernel_rfl), rfl⟩
theorem aAp {S : Nat → Prop} {w : World} {size n g : Nat} {xs : List Value} {t : TypeId} (hl : xs.length = n * size) (hn : n ≤ 1000) (h : w.heap[g]? = some (.cells xs.toArray t (0, 0))) (hS : S g) : SlS S w size (.slice (some ⟨g, 0, none⟩) n n) n xs :=
 ⟨hl, some ⟨g, 0, none⟩, n, rfl, Nat.le_refl _, by unfold maxLen; omega, nofun, fun ad had => by
  cases had
  exact ⟨hS, rfl, fun j u hj => by rw [Addr.add_lit, Nat.zero_add, cell_of_row _ _ _ _ _ _ h]; simpa using hj⟩⟩
theorem aFq {S : Nat → Prop} {w : World} {T t : Ty} (hk : T.kids = [t]) {g : Nat} {vs : List Value} (h : w.heap[g]? = some (.cells vs.toArray 29 (0, 0))) (hS : S g) (ht : LTS S w t.lt vs) :
 LTS S w T.lt [.string (aV T.nm), .int .i64 T.sz, .slice (some ⟨g, 0, none⟩) 1 1] :=
 LTS.of (ixs := vs) (by rw [hk]; exact aAp (by rw [ht.length]) (by omega) h hS) (by simp [hk]) (by rw [hk]; exact fB.one ht)
theorem aFv {S : Nat → Prop} {w : World} {T t u : Ty} (hk : T.kids = [t, u]) {g : Nat} {vs us : List Value} (h : w.heap[g]? = some (.cells (vs ++ us).toArray 29 (0, 0))) (hS : S g) (ht : LTS S w t.lt vs) (hu : LTS S w u.lt us) :
 LTS S w T.lt [.string (aV T.nm), .int .i64 T.sz, .slice (some ⟨g, 0, none⟩) 2 2] :=
 LTS.of (ixs := vs ++ us) (by rw [hk]; exact aAp (by rw [List.length_append, ht.length, hu.length]) (by omega) h hS) (by simp [hk]) (by rw [hk]; exact fB.append (fB.one ht) (fB.one hu))
def New (w w' : World) : Nat → Prop := fun q => w.heap.size ≤ q ∧ q < w'.heap.size
def aBb (w w' : World) : Nat → Prop := fun q => w.heap.size < q ∧ q < w'.heap.size
theorem jX {B : Nat} {w w3 : World} {p : Nat} (hcode : bM B w3 p) (hpw : p < w.heap.size) (hfr : Fr (fun q => q = p) w w3) {T : Ty} {vs : List Value} (hT : LTS (aBb w w3) w3 T.lt vs) (a b c : Value) :
 LTS (New w (((w3.setCell ⟨w.heap.size, 0, none⟩ a).setCell ⟨w.heap.size, 1, none⟩ b).setCell ⟨w.heap.size, 2, none⟩ c)) (((w3.setCell ⟨w.heap.size, 0, none⟩ a).setCell ⟨w.heap.size, 1, none⟩ b).setCell ⟨w.heap.size, 2, none⟩ c) T.lt vs ∧
  bM B (((w3.setCell ⟨w.heap.size, 0, none⟩ a).setCell ⟨w.heap.size, 1, none⟩ b).setCell ⟨w.heap.size, 2, none⟩ c) p ∧ Fr (fun q => q = p) w (((w3.setCell ⟨w.heap.size, 0, none⟩ a).setCell ⟨w.heap.size, 1, none⟩ b).setCell ⟨w.heap.size, 2, none⟩ c) := by
 have h1 : Fr (fun q => q = w.heap.size) w3 (((w3.setCell ⟨w.heap.size, 0, none⟩ a).setCell ⟨w.heap.size, 1, none⟩ b).setCell ⟨w.heap.size, 2, none⟩ c) := (((Fr.refl (fun q => q = w.heap.size) w3).setCell (.inl rfl) _).setCell (.inl rfl) _).setCell (.inl rfl) _
 have hB := hcode.1
 refine ⟨LTS.to h1 (fun q hq => ⟨⟨Nat.le_of_lt hq.1, Nat.lt_of_lt_of_le hq.2 h1.size⟩, ?_⟩) _ _ hT, hcode.fr h1 (by show ¬ p = w.heap.size; omega) (fun q hq => by show ¬ q = w.heap.size; omega), hfr.trans h1 (fun q hq h => ?_)⟩
 · have := hq.1
   show ¬ q = w.heap.size
   omega
 · have : q = w.heap.size := h
   omega
theorem aBn {w w2 : World} {p : Nat} (hpw : p < w.heap.size) (hf : Fr (fun q => q = p) (w.alloc (.cells #[.string ⟨#[]⟩, .int .i64 0, .slice none 0 0] 29)) w2) : w2.heap[w.heap.size]? = some (.cells #[.string ⟨#[]⟩, .int .i64 0, .slice none 0 0] 29 (0, 0)) :=
 (hf.block _ (by simp) (by show ¬ w.heap.size = p; omega)).trans (heap_alloc_new w _)
theorem pG {w : World} {q : Nat} {a b c : Value} {t : TypeId} (h : w.heap[q]? = some (.cells #[a, b, c] t (0, 0))) : w.cell? ⟨q, 0, none⟩ = some a ∧ w.cell? ⟨q, 1, none⟩ = some b ∧ w.cell? ⟨q, 2, none⟩ = some c ∧ w.frozen? ⟨q, 0, none⟩ = false ∧ w.frozen? ⟨q, 1, none⟩ = false ∧ w.frozen? ⟨q, 2, none⟩ = false :=
 ⟨by rw [cell_of_row _ _ _ _ _ _ h]; rfl, by rw [cell_of_row _ _ _ _ _ _ h]; rfl, by rw [cell_of_row _ _ _ _ _ _ h]; rfl, frozen_of_row _ _ _ _ _ h, frozen_of_row _ _ _ _ _ h, frozen_of_row _ _ _ _ _ h⟩
theorem tX {w : World} {q : Nat} {a b c : Value} {t : TypeId} (h : w.heap[q]? = some (.cells #[a, b, c] t (0, 0))) : (∀ o, (w.alloc o).cell? ⟨q, 0, none⟩ = some a) ∧ (∀ o, (w.alloc o).cell? ⟨q, 1, none⟩ = some b) ∧ (∀ o, (w.alloc o).cell? ⟨q, 2, none⟩ = some c) ∧ (∀ o, (w.alloc o).frozen? ⟨q, 0, none⟩ = false) ∧ (∀ o, (w.alloc o).frozen? ⟨q, 1, none⟩ = false) ∧ ∀ o, (w.alloc o).frozen? ⟨q, 2, none⟩ = false := by
 have H := fun o => pG ((Below.heap_alloc w o _ (aH h)).trans h)
 exact ⟨fun o => (H o).1, fun o => (H o).2.1, fun o => (H o).2.2.1, fun o => (H o).2.2.2.1, fun o => (H o).2.2.2.2.1, fun o => (H o).2.2.2.2.2⟩
theorem lX {w w1 w2 : World} {p : Nat} {o : Obj} (hpw : p < w.heap.size) (h : w1.heap[w.heap.size]? = some o) (hf : Fr (fun q => q = p) w1 w2) : w2.heap[w.heap.size]? = some o :=
 (hf.block _ (aH h) (by show ¬ w.heap.size = p; omega)).trans h
theorem rY {w w1 w2 : World} {p : Nat} {o o' : Obj} (hpw : p < w.heap.size) (h : w1.heap[w.heap.size]? = some o) (hf : Fr (fun q => q = p) (w1.alloc o') w2) : w2.heap[w.heap.size]? = some o :=
 (hf.block _ (by have := aH h; simp; omega) (by show ¬ w.heap.size = p; omega)).trans ((Below.heap_alloc _ _ _ (aH h)).trans h)
theorem aFg (B : Nat) (w : World) (p : Nat) (h : bM B w p) (hpw : p < w.heap.size) : Calls Tryz.prog 14 #[.pointer (some ⟨p, 0, none⟩)] w fun e w' => ∃ (T : Ty) (vs : List Value), (T.dS ∨ T = .low) ∧ e = .returned (.agg vs.toArray) ∧ LTS (New w w') w' T.lt vs ∧ bM B w' p ∧ Fr (fun q => q = p) w w' := by
 go_enter Tryz.func14, Tryz.ntmps14
 go_wp2_with (first
  | (go_at_call 15; refine (vO B _ p (h.fr ((Fr.refl (fun _ => False) w).alloc _) (fun h => h) (fun _ _ h => h)) (by simp; omega)).mono ?_; rintro e w1 ⟨T, hT, rfl, hco1, hf1⟩; have hs1 := hf1.size; have hr1 := aBn hpw hf1; have hc1 : bM B (w1.alloc (.cells #[.string (aV T.nm), .int .i64 T.sz, .slice none 0 0] 29)) p := hco1.fr ((Fr.refl (fun _ => False) w1).alloc _) (fun h => h) (fun _ _ h => h); unfold Ty.cells3)
  | (go_at_call 20; refine (fH B _ p hc1).mono ?_; rintro e w2 ⟨b, hb, rfl, hco2, hf2⟩; have hs2 := hf2.size; obtain ⟨r0, r1, r2, z0, z1, z2⟩ := pG (rY hpw hr1 hf2); obtain ⟨ra0, ra1, ra2, za0, za1, za2⟩ := tX (rY hpw hr1 hf2); obtain ⟨x0, x1, x2, -, -, -⟩ := pG ((hf2.block w1.heap.size (by simp) (by show ¬ w1.heap.size = p; simp at hs1; omega)).trans (heap_alloc_new w1 _))))
 · refine bodyPost_ret (by simp [results, Tryz.results14, go_sem, ra0, ra1, ra2]; try rfl) rfl ?_
   have hcA : bM B (w2.alloc (.cells (Ty.str.cells3).toArray 29)) p := hco2.fr ((Fr.refl (fun _ => False) w2).alloc _) (fun h => h) (fun _ _ h => h)
   have hfA : Fr (fun q => q = p) w (w2.alloc (.cells (Ty.str.cells3).toArray 29)) := ((((Fr.refl (fun q => q = p) w).alloc _).trans hf1 (fun _ _ h => h)).alloc _ |>.trans hf2 (fun _ _ h => h)).alloc _
   have hT := aFq (S := aBb w (w2.alloc (.cells (Ty.str.cells3).toArray 29))) (T := .low) (t := .str) rfl (heap_alloc_new w2 (.cells (Ty.str.cells3).toArray 29)) ⟨by simp at hs1 hs2; omega, by simp⟩ (iO (T := .str) trivial _ _)
   obtain ⟨g1, g2, g3⟩ := jX hcA hpw hfA hT (.string (aV Ty.low.nm)) (.int .i64 0) (.slice (some ⟨w2.heap.size, 0, none⟩) 1 1)
   exact ⟨.low, _, .inr rfl, rfl, g1, g2, g3⟩
 · refine bodyPost_ret (by simp [results, Tryz.results14, go_sem, r0, r1, r2]; try rfl) rfl ?_
   have hfA : Fr (fun q => q = p) w w2 := (((Fr.refl (fun q => q = p) w).alloc _).trans hf1 (fun _ _ h => h)).alloc _ |>.trans hf2 (fun _ _ h => h)
   obtain ⟨g1, g2, g3⟩ := jX hco2 hpw hfA (iO hT _ _) (.string (aV T.nm)) (.int .i64 T.sz) (.slice none 0 0)
   exact ⟨T, _, .inl hT, rfl, g1, g2, g3⟩
theorem LTS.three {S : Nat → Prop} {w : World} {T : Ty} {vs : List Value} (h : LTS S w T.lt vs) : ∃ oa oc, vs = [.string (aV T.nm), .int .i64 T.sz, .slice oa T.kids.length oc] := by
 obtain ⟨ov, ixs, rfl, h1, _⟩ := h.ty
 obtain ⟨_, oa, oc, rfl, _⟩ := h1
 exact ⟨oa, oc, rfl⟩
def aFb (d : Nat) : Prop := ∀ (B : Nat) (w : World) (p : Nat), bM B w p → p < w.heap.size →
 Calls Tryz.prog 8 #[.pointer (some ⟨p, 0, none⟩), .int .i64 d] w fun e w' => ∃ (T : Ty) (vs : List Value), Ok d T ∧ e = .returned (.agg vs.toArray) ∧ LTS (New w w') w' T.lt vs ∧ bM B w' p ∧ Fr (fun q => q = p) w w'
theorem oU {B : Nat} {w w3 : World} {p : Nat} (hcode : bM B w3 p) (hpw : p < w.heap.size) (hw : w.heap.size < w3.heap.size) (hfr : Fr (fun q => q = p) w w3) {T t : Ty} (hk : T.kids = [t]) {vs : List Value} (ht : LTS (aBb w w3) w3 t.lt vs) (a b c : Value) :
 let w4 := w3.alloc (.cells vs.toArray 29)
 let w5 := ((w4.setCell ⟨w.heap.size, 0, none⟩ a).setCell ⟨w.heap.size, 1, none⟩ b).setCell ⟨w.heap.size, 2, none⟩ c
 LTS (New w w5) w5 T.lt [.string (aV T.nm), .int .i64 T.sz, .slice (some ⟨w3.heap.size, 0, none⟩) 1 1] ∧ bM B w5 p ∧ Fr (fun q => q = p) w w5 :=
 jX (hcode.fr ((Fr.refl (fun _ => False) w3).alloc _) (fun h => h) (fun _ _ h => h)) hpw (hfr.alloc _)
  (aFq hk (heap_alloc_new w3 _) ⟨hw, by simp⟩ (LTS.to ((Fr.refl (fun _ => False) w3).alloc _) (fun q hq => ⟨⟨hq.1, by have := hq.2; simp; omega⟩, fun h => h⟩) _ _ ht)) a b c
theorem aKk {B : Nat} {w w3 : World} {p : Nat} (hcode : bM B w3 p) (hpw : p < w.heap.size) (hw : w.heap.size < w3.heap.size) (hfr : Fr (fun q => q = p) w w3) {T t u : Ty} (hk : T.kids = [t, u]) {vs us : List Value} (ht : LTS (aBb w w3) w3 t.lt vs) (hu : LTS (aBb w w3) w3 u.lt us) (a b c : Value) :
 let w4 := w3.alloc (.cells (vs ++ us).toArray 29)
 let w5 := ((w4.setCell ⟨w.heap.size, 0, none⟩ a).setCell ⟨w.heap.size, 1, none⟩ b).setCell ⟨w.heap.size, 2, none⟩ c
 LTS (New w w5) w5 T.lt [.string (aV T.nm), .int .i64 T.sz, .slice (some ⟨w3.heap.size, 0, none⟩) 2 2] ∧ bM B w5 p ∧ Fr (fun q => q = p) w w5 :=
 jX (hcode.fr ((Fr.refl (fun _ => False) w3).alloc _) (fun h => h) (fun _ _ h => h)) hpw (hfr.alloc _)
  (aFv hk (heap_alloc_new w3 _) ⟨hw, by simp⟩ (LTS.to ((Fr.refl (fun _ => False) w3).alloc _) (fun q hq => ⟨⟨hq.1, by have := hq.2; simp; omega⟩, fun h => h⟩) _ _ ht) (LTS.to ((Fr.refl (fun _ => False) w3).alloc _) (fun q hq => ⟨⟨hq.1, by have := hq.2; simp; omega⟩, fun h => h⟩) _ _ hu)) a b c
theorem zO {w w1 w2 : World} {T : Ty} {vs : List Value} (hw : w.heap.size < w1.heap.size) (h : LTS (New w1 w2) w2 T.lt vs) : LTS (aBb w w2) w2 T.lt vs := h.mono fun q hq => ⟨by have := hq.1; omega, hq.2⟩
theorem aHM {w w1 w2 w3 : World} {p : Nat} {T : Ty} {vs : List Value} (hpw : p < w.heap.size) (hw : w.heap.size < w1.heap.size) (h : LTS (New w1 w2) w2 T.lt vs) (hf : Fr (fun q => q = p) w2 w3) : LTS (aBb w w3) w3 T.lt vs :=
 LTS.to hf (fun q hq => ⟨⟨by have := hq.1; omega, Nat.lt_of_lt_of_le hq.2 hf.size⟩, by have := hq.1; show ¬ q = p; omega⟩) _ _ h
theorem aJb : aFb 0 := by
 intro B w p h hpw
 have h0 : bM B (w.alloc (.cells #[.string ⟨#[]⟩, .int .i64 0, .slice none 0 0] 29)) p := h.fr ((Fr.refl (fun _ => False) w).alloc _) (fun h => h) (fun _ _ h => h)
 go_enter Tryz.func8, Tryz.ntmps8
 go_wp2_with (first
  | (go_at_call 20; refine (fH B _ p h0).mono ?_; rintro e w1 ⟨b, hb, rfl, hco1, hf1⟩; have hs1 := hf1.size; have hr1 := aBn hpw hf1; obtain ⟨r0, r1, r2, z0, z1, z2⟩ := pG hr1; obtain ⟨ra0, ra1, ra2, za0, za1, za2⟩ := tX hr1; have n5 : ((b : Int) % 5 == 5) = false := (by simp; omega); have n6 : ((b : Int) % 5 == 6) = false := (by simp; omega); have n7 : ((b : Int) % 5 == 7) = false := (by simp; omega); have n8 : ((b : Int) % 5 == 8) = false := (by simp; omega))
  | (go_at_call 15; refine (vO B _ p hco1 (by simp at hs1; omega)).mono ?_; rintro e w2 ⟨T, hT, rfl, hco2, hf2⟩; have hs2 := hf2.size; clear r0 r1 r2 z0 z1 z2 ra0 ra1 ra2 za0 za1 za2; have hr2 := lX hpw hr1 hf2; obtain ⟨r0, r1, r2, z0, z1, z2⟩ := pG hr2; obtain ⟨ra0, ra1, ra2, za0, za1, za2⟩ := tX hr2; unfold Ty.cells3))
 · refine bodyPost_ret (by simp [results, Tryz.results8, go_sem, ra0, ra1, ra2]; try rfl) rfl ?_
   have hfA : Fr (fun q => q = p) w w2 := (((Fr.refl (fun q => q = p) w).alloc _).trans hf1 (fun _ _ h => h)).trans hf2 (fun _ _ h => h)
   obtain ⟨g1, g2, g3⟩ := oU hco2 hpw (by simp at hs1; omega) hfA (T := .nul T) (t := T) rfl (iO hT _ _) (.string (aV (Ty.nul T).nm)) (.int .i64 (Ty.nul T).sz) (.slice (some ⟨w2.heap.size, 0, none⟩) 1 1)
   exact ⟨.nul T, _, .inr (.inl ⟨T, rfl, hT⟩), rfl, g1, g2, g3⟩
 · refine bodyPost_ret (by simp [results, Tryz.results8, go_sem, ra0, ra1, ra2]; try rfl) rfl ?_
   have hfA : Fr (fun q => q = p) w w1 := ((Fr.refl (fun q => q = p) w).alloc _).trans hf1 (fun _ _ h => h)
   obtain ⟨g1, g2, g3⟩ := oU hco1 hpw (by simp at hs1; omega) hfA (T := .low) (t := .str) rfl (iO (T := .str) trivial _ _) (.string (aV Ty.low.nm)) (.int .i64 Ty.low.sz) (.slice (some ⟨w1.heap.size, 0, none⟩) 1 1)
   exact ⟨.low, _, .inr (.inr rfl), rfl, g1, g2, g3⟩
 · refine bodyPost_ret (by simp [results, Tryz.results8, go_sem, r0, r1, r2]; try rfl) rfl ?_
   have hfA : Fr (fun q => q = p) w w2 := (((Fr.refl (fun q => q = p) w).alloc _).trans hf1 (fun _ _ h => h)).trans hf2 (fun _ _ h => h)
   obtain ⟨g1, g2, g3⟩ := jX hco2 hpw hfA (iO hT _ _) (.string (aV T.nm)) (.int .i64 T.sz) (.slice none 0 0)
   exact ⟨T, _, .inl hT, rfl, g1, g2, g3⟩
theorem aHF {B p X : Nat} {w2 wr w3 w4 : World} {nmv szv ov ov' : Value} {ts : List Ty} {xs vs : List Value} {S : Nat → Prop} {T : Ty} {o : Obj} (hpX : p < X) (hX2 : X < w2.heap.size) (hBp : B ≤ p)
 (hrow : wr.heap[X]? = some (.cells #[nmv, szv, ov] 29 (0, 0))) (hown : wr.ownsRow 0 29 3 ov ts.length xs) (hl : fB S wr (ts.map Ty.lt) xs) (hS : ∀ q, S q → w2.heap.size ≤ q ∧ q < wr.heap.size ∧ ov.ownBlock ≠ some q) (hov : ∀ q, ov.ownBlock = some q → w2.heap.size ≤ q)
 (hf : Fr (fun q => q = p ∨ q = X) w2 wr) (hc3 : bM B w3 p) (hf3 : Fr (fun q => q = p) wr w3) (hlT : LTS (New wr w3) w3 T.lt vs) (ha : dA (w3.alloc o) w4 29 3 ov ov' (ts.length + 1) (xs ++ vs)) :
 (w4.setCell ⟨X, 2, none⟩ ov').heap[X]? = some (.cells #[nmv, szv, ov'] 29 (0, 0)) ∧ (w4.setCell ⟨X, 2, none⟩ ov').ownsRow 0 29 3 ov' (ts.length + 1) (xs ++ vs) ∧ (∃ S' : Nat → Prop, fB S' (w4.setCell ⟨X, 2, none⟩ ov') ((ts ++ [T]).map Ty.lt) (xs ++ vs) ∧ ∀ q, S' q → w2.heap.size ≤ q ∧ q < (w4.setCell ⟨X, 2, none⟩ ov').heap.size ∧ ov'.ownBlock ≠ some q) ∧
  (∀ q, ov'.ownBlock = some q → w2.heap.size ≤ q) ∧ bM B (w4.setCell ⟨X, 2, none⟩ ov') p ∧ Fr (fun q => q = p ∨ q = X) w2 (w4.setCell ⟨X, 2, none⟩ ov') := by
 have hs := hf.size
 have hs3 := hf3.size
 have hp3 := (hf3.block X (aH hrow) (by show ¬ X = p; omega)).trans hrow
 have own3 := hf3.owns hown (fun q hq => by have := hov q hq; show ¬ q = p; omega)
 have hne : ov.ownBlock ≠ some X := fun h => by have := hov X h; omega
 obtain ⟨q1, q2, q3, q4, q5⟩ := dQ (i := 2) hp3 own3 hne ((Fr.refl _ w3).alloc o) ha
 have hs5 := q5.size
 have hlt := fun q (h : ov.ownBlock = some q) => aK hown h
 have hov' : ∀ q, ov'.ownBlock = some q → ov.ownBlock = some q ∨ q = w3.heap.size + 1 := fun q hq => by
  rcases q4 with e | e
  · exact .inl (e ▸ hq)
  · rw [e] at hq
    simp only [Option.some.injEq] at hq
    simp at hq
    exact .inr hq.symm
 have hf35 : Fr (fun q => q = p ∨ q = X ∨ ov.ownBlock = some q) wr (w4.setCell ⟨X, 2, none⟩ ov') := (hf3.mono (S' := fun q => q = p ∨ q = X ∨ ov.ownBlock = some q) (fun _ _ h => .inl h)).trans q5 (fun _ _ h => .inr h)
 refine ⟨q1, q2, ⟨fun q => S q ∨ New wr w3 q, ?_, ?_⟩, fun q hq => ?_, hc3.fr q5 (fun h => ?_) (fun q hq h => ?_), hf.trans hf35 (fun q hq h => ?_)⟩
 · rw [List.map_append]
   refine fB.append (fB.to hf35 (fun q hq => ⟨.inl hq, ?_⟩) _ _ hl) (fB.one (LTS.to q5 (fun q hq => ⟨.inr hq, ?_⟩) _ _ hlT))
   · obtain ⟨h1, h2, h3⟩ := hS q hq
     rintro (h | h | h)
     · omega
     · omega
     · exact h3 h
   · have h1 := hq.1
     rintro (h | h)
     · omega
     · have := hlt q h; omega
 · rintro q (hq | hq)
   · obtain ⟨h1, h2, h3⟩ := hS q hq
     refine ⟨h1, by omega, fun h => ?_⟩
     rcases hov' q h with h | h
     · exact h3 h
     · omega
   · have h1 := hq.1
     have h2 := hq.2
     refine ⟨by omega, by omega, fun h => ?_⟩
     rcases hov' q h with h | h
     · have := hlt q h; omega
     · omega
 · rcases hov' q hq with h | h
   · exact hov q h
   · omega
 · rcases h with h | h
   · omega
   · have := hov p h; omega
 · rcases h with h | h
   · omega
   · have := hov q h; omega
 · rcases h with h | h | h
   · exact .inl h
   · exact .inr h
   · have := hov q h; omega
theorem aIL (d : Nat) (hd : d ≤ 4) (ih : aFb d) : aFb (d + 1) := by
 intro B w p h hpw
 have h0 : bM B (w.alloc (.cells #[.string ⟨#[]⟩, .int .i64 0, .slice none 0 0] 29)) p := h.fr ((Fr.refl (fun _ => False) w).alloc _) (fun h => h) (fun _ _ h => h)
 have hd0 : (((d + 1 : Nat) : Int) == 0) = false := by simp; omega
 have hd1 : IntKind.i64.wrap (((d + 1 : Nat) : Int) - 1) = (d : Int) := by rw [IntKind.wrap_i64]; omega
 generalize hD : ((d + 1 : Nat) : Int) = D at hd0 hd1
 clear hD
 go_enter Tryz.func8, Tryz.ntmps8
 go_wp2_with (first
  | (go_at_call 20; refine (fH B _ p h0).mono ?_; rintro e w1 ⟨b, hb, rfl, hco1, hf1⟩; have hs1 := hf1.size; have hr1 := aBn hpw hf1; obtain ⟨r0, r1, r2, z0, z1, z2⟩ := pG hr1; obtain ⟨ra0, ra1, ra2, za0, za1, za2⟩ := tX hr1; have hct : bM B (w1.alloc (.cells #[.string ⟨#[84, 117, 112, 108, 101]⟩, .int .i64 0, .slice none 0 0] 29)) p := hco1.fr ((Fr.refl (fun _ => False) w1).alloc _) (fun h => h) (fun _ _ h => h))
  | (go_at_call 20; refine (fH B _ p hct).mono ?_; rintro e w2 ⟨b2, hb2, rfl, hco2, hf2⟩; have hs2 := hf2.size; clear r0 r1 r2 z0 z1 z2 ra0 ra1 ra2 za0 za1 za2)
  | (go_at_call 15; refine (vO B _ p hco1 (by simp at hs1; omega)).mono ?_; rintro e w2 ⟨T, hT, rfl, hco2, hf2⟩; have hs2 := hf2.size; clear r0 r1 r2 z0 z1 z2 ra0 ra1 ra2 za0 za1 za2; have hr2 := lX hpw hr1 hf2; obtain ⟨r0, r1, r2, z0, z1, z2⟩ := pG hr2; obtain ⟨ra0, ra1, ra2, za0, za1, za2⟩ := tX hr2; unfold Ty.cells3)
  | (go_at_call 14; refine (aFg B _ p hco1 (by simp at hs1; omega)).mono ?_; rintro e w2 ⟨K, ks, hK, rfl, hlK, hco2, hf2⟩; have hs2 := hf2.size; clear r0 r1 r2 z0 z1 z2 ra0 ra1 ra2 za0 za1 za2; have hr2 := lX hpw hr1 hf2; obtain ⟨oka, okc, rfl⟩ := hlK.three)
  | (go_at_call 8; refine (ih B _ p hco1 (by simp at hs1; omega)).mono ?_; rintro e w2 ⟨T, vs, hT, rfl, hlT, hco2, hf2⟩; have hs2 := hf2.size; clear r0 r1 r2 z0 z1 z2 ra0 ra1 ra2 za0 za1 za2; have hr2 := lX hpw hr1 hf2; obtain ⟨r0, r1, r2, z0, z1, z2⟩ := pG hr2; obtain ⟨ra0, ra1, ra2, za0, za1, za2⟩ := tX hr2; obtain ⟨ota, otc, rfl⟩ := hlT.three)
  | (go_at_call 8; refine (ih B _ p hco2 (by simp at hs1; omega)).mono ?_; rintro e w3 ⟨T, vs, hT, rfl, hlT, hco3, hf3⟩; have hs3 := hf3.size; have hr3 := lX hpw hr2 hf3; obtain ⟨r0, r1, r2, z0, z1, z2⟩ := pG hr3; obtain ⟨ra0, ra1, ra2, za0, za1, za2⟩ := tX hr3; obtain ⟨ota, otc, rfl⟩ := hlT.three))
 · refine bodyPost_ret (by simp [results, Tryz.results8, go_sem, ra0, ra1, ra2]; try rfl) rfl ?_
   have hfA : Fr (fun q => q = p) w w2 := (((Fr.refl (fun q => q = p) w).alloc _).trans hf1 (fun _ _ h => h)).trans hf2 (fun _ _ h => h)
   obtain ⟨g1, g2, g3⟩ := oU hco2 hpw (by simp at hs1; omega) hfA (T := .nul T) (t := T) rfl (iO hT _ _) (.string (aV (Ty.nul T).nm)) (.int .i64 (Ty.nul T).sz) (.slice (some ⟨w2.heap.size, 0, none⟩) 1 1)
   exact ⟨.nul T, _, .inl (.inr (.inl ⟨T, rfl, hT⟩)), rfl, g1, g2, g3⟩
 · refine bodyPost_ret (by simp [results, Tryz.results8, go_sem, ra0, ra1, ra2]; try rfl) rfl ?_
   have hfA : Fr (fun q => q = p) w w1 := ((Fr.refl (fun q => q = p) w).alloc _).trans hf1 (fun _ _ h => h)
   obtain ⟨g1, g2, g3⟩ := oU hco1 hpw (by simp at hs1; omega) hfA (T := .low) (t := .str) rfl (iO (T := .str) trivial _ _) (.string (aV Ty.low.nm)) (.int .i64 Ty.low.sz) (.slice (some ⟨w1.heap.size, 0, none⟩) 1 1)
   exact ⟨.low, _, .inl (.inr (.inr rfl)), rfl, g1, g2, g3⟩
 iterate 2
  · refine bodyPost_ret (by simp [results, Tryz.results8, go_sem, ra0, ra1, ra2]; try rfl) rfl ?_
    have hfA : Fr (fun q => q = p) w w2 := (((Fr.refl (fun q => q = p) w).alloc _).trans hf1 (fun _ _ h => h)).trans hf2 (fun _ _ h => h)
    obtain ⟨g1, g2, g3⟩ := oU hco2 hpw (by simp at hs1; omega) hfA (T := .arr T) (t := T) rfl (zO (by simp at hs1; omega) hlT) (.string (aV (Ty.arr T).nm)) (.int .i64 (Ty.arr T).sz) (.slice (some ⟨w2.heap.size, 0, none⟩) 1 1)
    exact ⟨.arr T, _, .inr (.inl ⟨T, rfl, hT⟩), rfl, g1, g2, g3⟩
 · refine bodyPost_ret (by simp [results, Tryz.results8, go_sem, ra0, ra1, ra2]; try rfl) rfl ?_
   have hfA : Fr (fun q => q = p) w w3 := ((((Fr.refl (fun q => q = p) w).alloc _).trans hf1 (fun _ _ h => h)).trans hf2 (fun _ _ h => h)).trans hf3 (fun _ _ h => h)
   obtain ⟨g1, g2, g3⟩ := aKk hco3 hpw (by simp at hs1; omega) hfA (T := .map K T) (t := K) (u := T) rfl (aHM hpw (by simp at hs1; omega) hlK hf3) (zO (by simp at hs1; omega) hlT) (.string (aV (Ty.map K T).nm)) (.int .i64 (Ty.map K T).sz) (.slice (some ⟨w3.heap.size, 0, none⟩) 2 2)
   exact ⟨.map K T, _, .inr (.inr (.inl ⟨K, T, rfl, hK, hT⟩)), rfl, g1, g2, g3⟩
 · have hr2 := (hf2.block _ (by simp) (by show ¬ w1.heap.size = p; simp at hs1; omega)).trans (heap_alloc_new w1 (.cells #[.string ⟨#[84, 117, 112, 108, 101]⟩, .int .i64 0, .slice none 0 0] 29))
   have hrR2 : w2.heap[w.heap.size]? = some (.cells #[.string ⟨#[]⟩, .int .i64 0, .slice none 0 0] 29 (0, 0)) := rY hpw hr1 hf2
   have hBp := h.1
   go_loopw [7] (fun i wr => ∃ (k : Nat) (ts : List Ty) (ov : Value) (xs : List Value) (S : Nat → Prop), i = .int .i64 k ∧ ts.length + k ≤ 3 ∧ 0 < ts.length + k ∧ wr.heap[w1.heap.size]? = some (.cells #[.string ⟨#[84, 117, 112, 108, 101]⟩, .int .i64 0, ov] 29 (0, 0)) ∧ wr.ownsRow 0 29 3 ov ts.length xs ∧ fB S wr (ts.map Ty.lt) xs ∧ (∀ q, S q → w2.heap.size ≤ q ∧ q < wr.heap.size ∧ ov.ownBlock ≠ some q) ∧ (∀ q, ov.ownBlock = some q → w2.heap.size ≤ q) ∧ (∀ t ∈ ts, Ok d t) ∧ bM B wr p ∧ Fr (fun q => q = p ∨ q = w1.heap.size) w2 wr) (fun i _ => (intOf i).toNat)
   case atStart => exact ⟨1 + b2 % 3, [], .slice none 0 0, [], fun _ => False, by go_num, by simp; omega, by omega, hr2, World.ownsRow_nil _ _ _ _, fB.nil, fun _ h => h.elim, by simp [Value.ownBlock], by simp, hco2, Fr.refl _ _⟩
   case round =>
    obtain ⟨k, ts, ov, xs, S, rfl, hk3, hk0, hrow, hown, hl, hS, hov, hok, hcode, hfr⟩ := hrel
    obtain ⟨oa, oc, rfl⟩ := ownsRow_shape hown
    have hpX : p < w1.heap.size := by simp at hs1; omega
    have hXw : w1.heap.size < w2.heap.size := by simp at hs2; omega
    have hfs := hfr.size
    obtain ⟨x0, x1, x2, y0, y1, y2⟩ := pG hrow
    by_cases hkz : 0 < k
    · have hki : (0 : Int) < k := by omega
      have hcd : bM B wr.drew p := hcode.fr ((Fr.refl (fun _ => False) wr).drew) (fun h => h) (fun _ _ h => h)
      have hne : (Value.slice oa ts.length oc).ownBlock ≠ some w1.heap.size := fun h => by have := hov _ h; omega
      have hlX := aH hrow
      have hrowH := Lib.hid hrow
      have hownH := Lib.hid hown
      clear hrow
      have hiw : IntKind.i64.wrap ((k : Int) - 1) = (k : Int) - 1 := by rw [IntKind.wrap_i64]; omega
      have hpr : p < wr.heap.size := by omega
      go_wp2_with fail
      go_region_law (first
       | (go_simp; go_at_call 8; refine (ih B _ p hcd hpr).mono ?_; rintro e w3 ⟨T, vs, hT, rfl, hlT, hco3, hf3⟩; have hs3 := hf3.size; have hf3' := hf3.aG; have o3 := hf3'.owns hownH.out (fun q hq => by have := hov q hq; show ¬ q = p; omega); have p3 := (hf3'.block _ hlX (by show ¬ w1.heap.size = p; omega)).trans hrowH.out; obtain ⟨-, -, x32, -, -, -⟩ := pG p3; obtain ⟨-, -, xa2, -, -, -⟩ := tX p3; obtain ⟨ota, otc, rfl⟩ := hlT.three)
       | (refine aS _ rfl ?_; refine dB _ aKx _ _ rfl _ _ _ rfl (o3.alloc _) _ _ _ rfl (Src.ofSlice _ Tryz.underlying27 _ _ _ _ rfl (aW _ [.string (aV T.nm), .int .i64 T.sz, .slice ota T.kids.length otc] _) (by simp [Value.oneCell'])) ?_ ?_ ?_; (unfold maxLen; omega); omega; intro v' w4 ha; obtain ⟨a', c', rfl⟩ := ha.shape; obtain ⟨hcs4, hfs4⟩ := dU p3 hne ((Fr.refl _ w3).alloc _) ha; have s2 := hcs4 2; have g2 := hfs4 2; simp only [List.getElem?_toArray, List.getElem?_cons_succ, List.getElem?_cons_zero] at s2))
      all_goals
       obtain ⟨a1, a2, ⟨S', a3, a4⟩, a5, a6, a7⟩ := aHF (T := T) hpX hXw hBp hrowH.out hownH.out hl hS hov hfr hco3 hf3' hlT ha
       go_wp2
       go_roundw
       case rel => exact ⟨k - 1, ts ++ [T], .slice a' (ts.length + 1) c', _, S', by rw [Int.natCast_sub hkz]; rfl, by simp; omega, by simp; omega, a1, by rw [List.length_append]; exact a2, a3, a4, a5, fun t ht => (List.mem_append.1 ht).elim (hok t) (fun h => by rw [List.mem_singleton.1 h]; exact hT), a6, a7⟩
       case measure => simp [intOf]; omega
    · have hkz' : k = 0 := by omega
      subst hkz'
      have hr3 := (hfr.block w.heap.size (aH hrR2) (by show ¬ (w.heap.size = p ∨ w.heap.size = w1.heap.size); simp at hs1; omega)).trans hrR2
      obtain ⟨r0, r1, r2, z0, z1, z2⟩ := pG hr3
      go_wp2
      refine bodyPost_ret (by simp [results, Tryz.results8, go_sem, r0, r1, r2]; try rfl) rfl ?_
      have hne0 : ts ≠ [] := by intro h; simp [h] at hk0
      have hfA : Fr (fun q => q = p) w wr := by
       refine ((((((Fr.refl (fun q => q = p) w).alloc _).trans hf1 (fun _ _ h => h)).alloc _).trans hf2 (fun _ _ h => h))).trans hfr (fun q hq h => ?_)
       rcases h with h | h
       · exact h
       · simp at hs1; omega
      have hown' : SlS (aBb w wr) wr 3 (.slice oa ts.length oc) ts.length xs := mM hown fun q hq => ⟨by have := hov q hq; simp at hs1; omega, aK hown hq⟩
      have hT : LTS (aBb w wr) wr (Ty.tup ts).lt [.string (aV (Ty.tup ts).nm), .int .i64 (Ty.tup ts).sz, .slice oa ts.length oc] := LTS.of hown' (fun h => absurd h hne0) (fB.to (Fr.refl (fun _ => False) wr) (fun q hq => ⟨⟨by have := (hS q hq).1; simp at hs1; omega, (hS q hq).2.1⟩, fun h => h⟩) _ _ hl)
      obtain ⟨g1, g2, g3⟩ := jX hcode hpw hfA hT (.string (aV (Ty.tup ts).nm)) (.int .i64 (Ty.tup ts).sz) (.slice oa ts.length oc)
      exact ⟨.tup ts, _, .inr (.inr (.inr ⟨ts, rfl, hne0, by omega, hok⟩)), rfl, g1, g2, g3⟩
 · refine bodyPost_ret (by simp [results, Tryz.results8, go_sem, r0, r1, r2]; try rfl) rfl ?_
   have hfA : Fr (fun q => q = p) w w2 := (((Fr.refl (fun q => q = p) w).alloc _).trans hf1 (fun _ _ h => h)).trans hf2 (fun _ _ h => h)
   obtain ⟨g1, g2, g3⟩ := jX hco2 hpw hfA (iO hT _ _) (.string (aV T.nm)) (.int .i64 T.sz) (.slice none 0 0)
   exact ⟨T, _, .inl (.inl hT), rfl, g1, g2, g3⟩
theorem aFt : ∀ d, d ≤ 4 → aFb d
 | 0, _ => aJb
 | d + 1, h => aIL d (by omega) (aFt d (by omega))
end Go.Proofs.YtcidlnjpabgioaaGreatDoor
