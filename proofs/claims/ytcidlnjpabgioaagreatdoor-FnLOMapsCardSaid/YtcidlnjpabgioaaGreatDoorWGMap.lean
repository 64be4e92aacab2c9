import Derived.Test.YtcidlnjpabgioaaGreatDoorWGFix
import Derived.Test.YtcidlnjpabgioaaGreatDoorWGNul
import Derived.Test.YtcidlnjpabgioaaGreatDoorWGArr
import Derived.Test.YtcidlnjpabgioaaGreatDoorWGTree
set_option maxHeartbeats 8000000
set_option maxRecDepth 100000
namespace Go.Proofs.YtcidlnjpabgioaaGreatDoor
open Go.RowKit
def dK (c : Cell) : List Value := [.int .u64 c.r0, .int .u64 c.r1, .int .u64 c.r2, .int .u64 c.r3, .string c.s]
theorem aBD (c : Cell) : c.keyed.wt ≤ c.wt := by
 rw [Cell.jW c]
 unfold Cell.keyed Cell.wt
 simp only [wts]
 omega
theorem aCg {c : Cell} (h : c.small) : c.keyed.small := h
theorem aHV (B : Nat) (w : World) {c : Cell} (h : c.small) : bP B w c.keyed [.int .u64 c.r0, .int .u64 c.r1, .int .u64 c.r2, .int .u64 c.r3, .string c.s, .bool false, .slice none 0 0, .slice none 0 0] := by
 obtain ⟨h0, h1, h2, h3, h4⟩ := h
 unfold Cell.keyed bP
 refine ⟨.slice none 0 0, .slice none 0 0, [], [], rfl, h0, h1, h2, h3, h4, ⟨rfl, none, 0, rfl, Nat.le_refl _, by unfold maxLen; omega, fun _ => rfl, fun _ h => by cases h⟩, ?_, ⟨rfl, none, 0, rfl, Nat.le_refl _, by unfold maxLen; omega, fun _ => rfl, fun _ h => by cases h⟩, ?_⟩ <;> (unfold aC; rfl)
structure jI (P : Program) (B : Nat) (t : TypeId) (u : Value) (T : Ty) (st : List UInt8) (R Rp : World → (Nat → Prop) → List Cell → Prop) : Prop where
 lo : ∀ {w fp σ}, R w fp σ → ∀ k, fp k → B ≤ k ∧ k < w.heap.size
 lo' : ∀ {w fp σ}, Rp w fp σ → ∀ k, fp k → B ≤ k ∧ k < w.heap.size
 frame : ∀ {w w' fp σ}, R w fp σ → (∀ k, fp k → w'.heap[k]? = w.heap[k]?) → R w' fp σ
 frame' : ∀ {w w' fp σ}, Rp w fp σ → (∀ k, fp k → w'.heap[k]? = w.heap[k]?) → Rp w' fp σ
 append : ∀ {w fp σ} {c : Cell}, R w fp σ → c.small → Wt T (σ ++ [c.keyed]) ≤ 2147483648 → aI P (.iface t u) "Append" #[.agg #[.int .u64 c.r0, .int .u64 c.r1, .int .u64 c.r2, .int .u64 c.r3, .string c.s]] w fun e w' =>
  e = .returned (.tuple #[]) ∧ Fr fp w w' ∧ ∃ fp', R w' fp' (σ ++ [c.keyed]) ∧ Grow w fp fp'
 rows : ∀ {w fp σ}, R w fp σ → aI P (.iface t u) "Rows" #[] w fun e w' => e = .returned (.int .i64 σ.length) ∧ Fr (fun _ => False) w w'
 prepare : (∀ x w, (Instr.typeAssert (.iface t u) x 102 true).run P w = .ok (.tuple #[.iface t u, .bool true]) w) ∧
  ∀ {w fp σ}, R w fp σ → aI P (.iface t u) "Prepare" #[] w fun e w' => e = .returned .nilIface ∧ Fr fp w w' ∧ ∃ fp', Rp w' fp' σ ∧ Grow w fp fp'
 state : (∀ x w, (Instr.typeAssert (.iface t u) x 172 true).run P w = .ok (.tuple #[.iface t u, .bool true]) w) ∧
  ∀ {w fp σ b fb bs}, Rp w fp σ → Buf w b fb bs → (∀ k, fp k → ¬ fb k) → bs.length + st.length ≤ 2147483648 → aI P (.iface t u) "EncodeState" #[.pointer (some ⟨b, 0, none⟩)] w fun e w' =>
   e = .returned (.tuple #[]) ∧ Fr fb w w' ∧ ∃ fb', Buf w' b fb' (bs ++ st) ∧ Grow w fb fb'
 encode : ∀ {w fp σ b fb bs}, Rp w fp σ → Wt T σ ≤ 2147483648 → Buf w b fb bs → (∀ k, fp k → ¬ fb k) → bs.length + (enc T σ).length ≤ 1099511627776 → aI P (.iface t u) "EncodeColumn" #[.pointer (some ⟨b, 0, none⟩)] w fun e w' =>
  e = .returned (.tuple #[]) ∧ Fr fb w w' ∧ ∃ fb', Buf w' b fb' (bs ++ enc T σ) ∧ Grow w fb fb'
theorem aDX (w : World) (r0 r1 r2 r3 : Int) (s : ByteArray) :
 Calls Tryz.prog 239 #[.agg #[.int .u64 r0, .int .u64 r1, .int .u64 r2, .int .u64 r3, .string s]] w fun e w' =>
  e = .returned (.agg #[.int .u64 r0, .int .u64 r1, .int .u64 r2, .int .u64 r3, .string s, .bool false, .slice none 0 0, .slice none 0 0]) ∧ Fr (fun _ => False) w w' := by
 go_enter Tryz.func239, Tryz.ntmps239
 go_wp2
 refine bodyPost_ret (by simp [results, Tryz.results239, go_sem]; try rfl) rfl ?_
 exact ⟨rfl, ((Fr.refl _ w).alloc _).alloc _⟩
theorem rM (w : World) (r0 r1 r2 r3 : Int) (s : ByteArray) (null : Bool) (iv kv : Value) :
 Calls Tryz.prog 241 #[.agg #[.int .u64 r0, .int .u64 r1, .int .u64 r2, .int .u64 r3, .string s, .bool null, iv, kv]] w fun e w' =>
  e = .returned (.agg #[.int .u64 r0, .int .u64 r1, .int .u64 r2, .int .u64 r3, .string s]) ∧ Fr (fun _ => False) w w' := by
 go_enter Tryz.func241, Tryz.ntmps241
 go_wp2
 refine bodyPost_ret (by simp [results, Tryz.results241, go_sem]; try rfl) rfl ?_
 exact ⟨rfl, ((Fr.refl _ w).alloc _).alloc _⟩
theorem aKs : ∃ n, Tryz.prog.types.size + Made.depth = n + 3 := ⟨Tryz.prog.types.size + Made.depth - 3, by kernel_rfl⟩
theorem nS (t : TypeId) (u : Value) (w : World) (name : String) (f : FuncId) (h : (name, f) = ("Append", 234) ∨ (name, f) = ("Prepare", 237) ∨ (name, f) = ("EncodeState", 236)) :
 (method (Tryz.prog.types.size + Made.depth) 86 (.agg #[.iface t u]) name).run Tryz.prog w = .ok (f, .agg #[.iface t u]) w := by
 rcases h with h | h | h <;> (simp only [Prod.mk.injEq] at h; obtain ⟨rfl, rfl⟩ := h; kernel_rfl)
theorem aFG {t : TypeId} {u : Value} (hf : aHH Tryz.prog t u) (w : World) (name : String) (args : Array Value) (hn : name = "Rows" ∨ name = "EncodeColumn" ∨ name = "WriteColumn") :
 (callMethod (.iface 86 (.agg #[.iface t u])) name args).run Tryz.prog w = (callMethod (.iface t u) name args).run Tryz.prog w := by
 obtain ⟨n, hfu⟩ := aKs
 have h : (method (Tryz.prog.types.size + Made.depth) 86 (.agg #[.iface t u]) name).run Tryz.prog w = (method (Tryz.prog.types.size + Made.depth) t u name).run Tryz.prog w := by
  rw [hfu]
  refine Eq.trans ?_ (hf w name hn n (n + 1))
  rcases hn with rfl | rfl | rfl <;> exact bD (n := n + 2) Tryz.underlying86 rfl rfl (fun _ => by kernel_rfl) (by kernel_rfl) rfl
 simp only [callMethod, Sem.run_bind, run_program, Result.andThen_ok, h]
theorem pV {t : TypeId} {u : Value} (hf : aHH Tryz.prog t u) {w : World} {name : String} {args : Array Value} {Q : Ending → World → Prop} (hn : name = "Rows" ∨ name = "EncodeColumn" ∨ name = "WriteColumn") (h : aI Tryz.prog (.iface t u) name args w Q) :
 aI Tryz.prog (.iface 86 (.agg #[.iface t u])) name args w Q := by
 obtain ⟨f, args', h1, h2⟩ := h
 exact ⟨f, args', (aFG hf w name args hn).trans h1, h2⟩
section
variable {B : Nat} {t : TypeId} {u : Value} {T : Ty} {st : List UInt8} {R Rp : World → (Nat → Prop) → List Cell → Prop}
theorem aBB (cs : bI Tryz.prog B t u T st R Rp) (w : World) (fp : Nat → Prop) (σ : List Cell) (hR : R w fp σ) (c : Cell) (hc : c.small) (hw : Wt T (σ ++ [c.keyed]) ≤ 2147483648) :
 Calls Tryz.prog 234 #[.agg #[.iface t u], .agg #[.int .u64 c.r0, .int .u64 c.r1, .int .u64 c.r2, .int .u64 c.r3, .string c.s]] w fun e w' => e = .returned (.tuple #[]) ∧ Fr fp w w' ∧ ∃ fp', R w' fp' (σ ++ [c.keyed]) ∧ Grow w fp fp' := by
 have hlo := fun q hq => cs.lo hR q hq
 go_enter Tryz.func234, Tryz.ntmps234
 go_wp2_with fail
 generalize hW : (w.alloc _).alloc _ = W
 have hfrW : Fr (fun _ => False) w W := by subst hW; exact ((Fr.refl _ w).alloc _).alloc _
 have d0 : W.cell? ⟨w.heap.size, 0, none⟩ = some (.iface t u) := by subst hW; rw [World.cell?_alloc_lt _ _ _ (by simp), aB rfl]; rfl
 have e0 : W.cell? ⟨w.heap.size + 1, 0, none⟩ = some (.int .u64 c.r0) := by subst hW; rw [aB (by simp)]; rfl
 have e1 : W.cell? ⟨w.heap.size + 1, 1, none⟩ = some (.int .u64 c.r1) := by subst hW; rw [aB (by simp)]; rfl
 have e2 : W.cell? ⟨w.heap.size + 1, 2, none⟩ = some (.int .u64 c.r2) := by subst hW; rw [aB (by simp)]; rfl
 have e3 : W.cell? ⟨w.heap.size + 1, 3, none⟩ = some (.int .u64 c.r3) := by subst hW; rw [aB (by simp)]; rfl
 have e4 : W.cell? ⟨w.heap.size + 1, 4, none⟩ = some (.string c.s) := by subst hW; rw [aB (by simp)]; rfl
 have hN : ¬ fp w.heap.size := fun h => by have := hlo _ h; omega
 have hN1 : ¬ fp (w.heap.size + 1) := fun h => by have := hlo _ h; omega
 clear hW
 go_region_held3 (fun w' => w'.cell? ⟨w.heap.size, 0, none⟩ = some (.iface t u) ∧ w'.cell? ⟨w.heap.size + 1, 0, none⟩ = some (.int .u64 c.r0) ∧ w'.cell? ⟨w.heap.size + 1, 1, none⟩ = some (.int .u64 c.r1) ∧ w'.cell? ⟨w.heap.size + 1, 2, none⟩ = some (.int .u64 c.r2) ∧ w'.cell? ⟨w.heap.size + 1, 3, none⟩ = some (.int .u64 c.r3) ∧ w'.cell? ⟨w.heap.size + 1, 4, none⟩ = some (.string c.s))
  (first
   | exact ⟨d0, e0, e1, e2, e3, e4⟩
   | exact ⟨hf2.aA (hf1.aG.aA d0 (fun h => h)) hN, hf2.aA (hf1.aG.aA e0 (fun h => h)) hN1, hf2.aA (hf1.aG.aA e1 (fun h => h)) hN1, hf2.aA (hf1.aG.aA e2 (fun h => h)) hN1, hf2.aA (hf1.aG.aA e3 (fun h => h)) hN1, hf2.aA (hf1.aG.aA e4 (fun h => h)) hN1⟩
   | exact ⟨hf1.aG.aA d0 (fun h => h), hf1.aG.aA e0 (fun h => h), hf1.aG.aA e1 (fun h => h), hf1.aG.aA e2 (fun h => h), hf1.aG.aA e3 (fun h => h), hf1.aG.aA e4 (fun h => h)⟩
   | assumption)
  (first
   | (go_at_call 239; refine (aDX _ c.r0 c.r1 c.r2 c.r3 c.s).mono ?_; rintro e w1 ⟨rfl, hf1⟩)
   | (refine aS _ rfl ?_; refine bU _ _ _ _ _ rfl _ _ rfl (cs.append (cs.frame hR fun k hk => (hfrW.trans hf1.aG (fun _ _ h => h)).block k (hlo k hk).2 (fun h => h)) (aHV B _ hc) hw) rfl ?_; rintro e w2 ⟨rfl, hf2, hfin⟩; refine ⟨_, rfl, ?_⟩))
 all_goals
  go_end0
  obtain ⟨fp', h1, h2⟩ := hfin
  have hs1 := (hfrW.trans hf1.aG (fun _ _ h => h)).size
  exact ⟨rfl, ((hfrW.trans hf1.aG (fun _ _ h => h)).mono (fun _ _ h => h.elim)).trans hf2 (fun _ _ h => h), fp', h1, fun k hk => (h2 k hk).imp id (fun h => by omega)⟩
theorem aAO (sp : bI Tryz.prog B t u T st R Rp) (w : World) (fp : Nat → Prop) (σ : List Cell) (hR : R w fp σ) :
 Calls Tryz.prog 237 #[.agg #[.iface t u]] w fun e w' => e = .returned .nilIface ∧ Fr fp w w' ∧ ∃ fp', Rp w' fp' σ ∧ Grow w fp fp' := by
 have hlo := fun q hq => sp.lo hR q hq
 have hA : R (w.alloc (.cells #[.iface t u] 86)) fp σ := sp.frame hR fun k hk => Below.heap_alloc _ _ _ (hlo k hk).2
 obtain ⟨q, hta, hpr⟩ := sp.prepare
 have hta' := hta 59
 have hpr := hpr hA
 cases q with
 | false =>
  simp only [Bool.false_eq_true, if_false] at hpr hta'
  go_enter Tryz.func237, Tryz.ntmps237
  go_wp2
  go_ret
  exact ⟨rfl, (Fr.refl _ w).alloc _, fp, hpr, fun k hk => .inl hk⟩
 | true =>
  simp only [if_true] at hpr hta'
  go_enter Tryz.func237, Tryz.ntmps237
  go_wp2_with ((with_reducible show wpList _ _ _ (⟨some 13, _, _, _, _, _⟩ :: _) _ _); refine aY _ rfl _ _ _ _ rfl _ _ rfl hpr rfl ?_; rintro e w' ⟨rfl, hf1, hR1⟩; refine ⟨_, rfl, ?_⟩)
  go_ret
  obtain ⟨fp', h1, h2⟩ := hR1
  exact ⟨rfl, ((Fr.refl fp w).alloc _).trans hf1 (fun _ _ h => h), fp', h1, fun k hk => (h2 k hk).imp id (fun h => by simp at h; omega)⟩
theorem aDj (sp : bI Tryz.prog B t u T st R Rp) (w : World) (fp : Nat → Prop) (τ : List Cell) (hR : Rp w fp τ) (b : Nat) (fb : Nat → Prop) (bs : List UInt8) (hb : Buf w b fb bs) (hd : ∀ k, fp k → ¬ fb k) (hl : bs.length + st.length ≤ 2147483648) :
 Calls Tryz.prog 236 #[.agg #[.iface t u], .pointer (some ⟨b, 0, none⟩)] w fun e w' => e = .returned (.tuple #[]) ∧ Fr fb w w' ∧ ∃ fb', Buf w' b fb' (bs ++ st) ∧ Grow w fb fb' := by
 obtain ⟨q, hta, hst⟩ := sp.state
 have hta' := hta 59
 have hlo := fun q hq => sp.lo' hR q hq
 have hRA : Rp (w.alloc (.cells #[.iface t u] 86)) fp τ := sp.frame' hR fun k hk => Below.heap_alloc _ _ _ (hlo k hk).2
 have hbA : Buf (w.alloc (.cells #[.iface t u] 86)) b fb bs := aF.aT hb fun k hk => Below.heap_alloc _ _ _ (aF.lt hb k hk)
 cases q with
 | false =>
  simp only [Bool.false_eq_true, if_false] at hst hta'
  subst hst
  go_enter Tryz.func236, Tryz.ntmps236
  go_wp2
  go_end0
  exact ⟨rfl, (Fr.refl _ w).alloc _, fb, by simpa using hbA, fun k hk => .inl hk⟩
 | true =>
  simp only [if_true] at hst hta'
  have hi := hst hRA hbA hd hl
  go_enter Tryz.func236, Tryz.ntmps236
  go_wp2_with ((with_reducible show wpList _ _ _ (⟨some 15, _, _, _, _, _⟩ :: _) _ _); refine aY _ rfl _ _ _ _ rfl _ _ rfl hi rfl ?_; rintro e w' ⟨rfl, hf1, hb1⟩; refine ⟨_, rfl, ?_⟩)
  go_end0
  obtain ⟨fb', h1, h2⟩ := hb1
  exact ⟨rfl, ((Fr.refl fb w).alloc _).trans hf1 (fun _ _ h => h), fb', h1, fun k hk => (h2 k hk).imp id (fun h => by simp at h; omega)⟩
theorem aAs (sp : bI Tryz.prog B t u T st R Rp) : jI Tryz.prog B 86 (.agg #[.iface t u]) T st R Rp where
 lo := sp.lo
 lo' := sp.lo'
 frame := sp.frame
 frame' := sp.frame'
 append := fun {w fp σ c} hR hc hw => aI.of1 (nS t u w _ _ (.inl rfl)) Tryz.call234 (aBB sp w fp σ hR c hc hw)
 rows := fun hR => pV sp.flat (.inl rfl) (sp.rows hR)
 prepare := ⟨fun x w => run_typeAssert_hasB Tryz.underlying102 (by kernel_rfl) _ x w, fun {w fp σ} hR => aI.of0 (nS t u w _ _ (.inr (.inl rfl))) Tryz.call237 (aAO sp w fp σ hR)⟩
 state := ⟨fun x w => run_typeAssert_hasB Tryz.underlying172 (by kernel_rfl) _ x w, fun {w fp σ b fb bs} hR hb hd hl => aI.of1 (nS t u w _ _ (.inr (.inr rfl))) Tryz.call236 (aDj sp w fp σ hR b fb bs hb hd hl)⟩
 encode := fun hR hw hb hd hl => pV sp.flat (.inr (.inl rfl)) (sp.encode hR hw hb hd hl)
end
end Go.Proofs.YtcidlnjpabgioaaGreatDoor
namespace Go.Proofs.YtcidlnjpabgioaaGreatDoor
open Go.RowKit
theorem aGu (w : World) (p : Nat) (cur : Array Value) (tc : TypeId) (n : Nat) (xs : List Value) (v : Value) (h0 : cur[0]? = some v) (hp : w.heap[p]? = some (.cells cur tc (0, 0))) (hown : w.ownsRow 0 24 1 v n xs) (hne : v.ownBlock ≠ some p) (hn : n < 2147483648) (x : Int) :
 Calls Tryz.prog 257 #[.pointer (some ⟨p, 0, none⟩), .int .u64 x] w fun e w' => e = .returned (.tuple #[]) ∧ ∃ v', w'.heap[p]? = some (.cells (cur.setIfInBounds 0 v') tc (0, 0)) ∧ w'.ownsRow 0 24 1 v' (n + 1) (xs ++ [.int .u64 x]) ∧ v'.ownBlock ≠ some p ∧
  (∀ k, v'.ownBlock = some k → v.ownBlock = some k ∨ w.heap.size ≤ k) ∧ Fr (fun k => k = p ∨ v.ownBlock = some k) w w' := by
 obtain ⟨a0, c0, rfl⟩ := ownsRow_shape hown
 have hpl := aH hp
 have hcell : w.cell? ⟨p, 0, none⟩ = some (.slice a0 n c0) := by rw [cell_of_row _ _ _ _ _ _ hp, h0]
 have hsrc : Src Tryz.prog 1 125 (.slice (some ⟨w.heap.size, 0, none⟩) 1 1) 1 [.int .u64 x] (w.alloc (.cells [.int .u64 x].toArray 24)) :=
  Src.ofSlice _ Tryz.underlying125 _ _ _ _ rfl (aW _ _ _) (by simp [Value.oneCell'])
 go_enter Tryz.func257, Tryz.ntmps257
 go_wp2_with ((with_reducible show wpList _ _ _ (⟨some 10, _, _, _, _, _⟩ :: _) _ _); (refine aP _ rfl vC _ _ rfl _ _ _ rfl (hown.alloc _) _ _ _ rfl hsrc ?_ ?_ ?_); (unfold maxLen; omega); omega; intro v' w1 ha; obtain ⟨a', c', rfl⟩ := ha.shape; obtain ⟨hcs, hfs⟩ := dU hp hne ((Fr.refl _ w).alloc _) ha; have d2 : w1.cell? ⟨p, 0, none⟩ = some (.slice a0 n c0) := (hcs 0).trans h0; have f2 := hfs 0; have hA := dQ (i := 0) hp hown hne ((Fr.refl _ w).alloc _) ha)
 obtain ⟨hp2, hown2, hne2, hblk2, hfr2⟩ := hA
 go_end0
 refine ⟨rfl, _, hp2, hown2, hne2, fun k hk => ?_, hfr2⟩
 rcases hblk2 with e | e
 · exact .inl (by rw [← e, hk])
 · rw [e] at hk
   simp only [Option.some.injEq] at hk
   simp at hk
   exact .inr (by omega)
def wI (c : Cell) : Nat := c.pairs.length
def mapKeys (c : Cell) : List Cell := c.pairs.map fun p => p.1.keyed
def iJ (c : Cell) : List Cell := c.pairs.map (·.2)
theorem qH : ∀ (ks is : List Cell), wts ((ks.zip is).map fun p => p.1.keyed) ≤ wts ks
 | [], _ => by simp [wts]
 | _ :: _, [] => by simp [wts]
 | k :: ks, i :: is => by
  have h1 := qH ks is
  have h2 := aBD k
  rw [List.zip_cons_cons, List.map_cons, wts, wts]
  show k.keyed.wt + _ ≤ _
  omega
theorem oP : ∀ (ks is : List Cell), wts ((ks.zip is).map (·.2)) ≤ wts is
 | [], _ => by simp [wts]
 | _ :: _, [] => by simp [wts]
 | k :: ks, i :: is => by
  have h1 := oP ks is
  rw [List.zip_cons_cons, List.map_cons, wts, wts]
  show i.wt + _ ≤ _
  omega
theorem kK : ∀ (cs : List Cell), wts (cs.flatMap mapKeys) + cs.length ≤ wts cs
 | [] => Nat.le_refl _
 | c :: cs => by
  have h1 := kK cs
  have h2 : wts (mapKeys c) ≤ wts c.keys := qH c.keys c.items
  rw [List.flatMap_cons, dV, wts, Cell.jW, List.length_cons]
  omega
theorem kH : ∀ (cs : List Cell), wts (cs.flatMap iJ) + cs.length ≤ wts cs
 | [] => Nat.le_refl _
 | c :: cs => by
  have h1 := kH cs
  have h2 : wts (iJ c) ≤ wts c.items := oP c.keys c.items
  rw [List.flatMap_cons, dV, wts, Cell.jW, List.length_cons]
  omega
theorem nR : ∀ (cs : List Cell), total wI cs = (cs.flatMap mapKeys).length
 | [] => rfl
 | c :: cs => by
  rw [total, nR cs, List.flatMap_cons, List.length_append]
  congr 1
  exact (List.length_map _).symm
theorem uV (k v : Ty) (cs : List Cell) : enc (.map k v) cs = if cs = [] then [] else (ends wI 0 cs).flatMap (aJ 8) ++ enc k (cs.flatMap mapKeys) ++ enc v (cs.flatMap iJ) := by
 rw [enc, iM]
 rfl
def lW (B : Nat) (w : World) : List (Cell × Cell) → List Value → Prop
 | [], xs => xs = []
 | p :: ps, xs => ∃ vs rest, xs = (dK p.1 ++ vs) ++ rest ∧ p.1.small ∧ bP B w p.2 vs ∧ lW B w ps rest
theorem lW.below {B : Nat} {w w' : World} (hb : Below B w w') : ∀ (ps : List (Cell × Cell)) (xs : List Value), lW B w ps xs → lW B w' ps xs
 | [], _, h => h
 | _ :: _, _, ⟨vs, rest, h0, h1, h2, h3⟩ => ⟨vs, rest, h0, h1, bP.below hb _ _ h2, lW.below hb _ _ h3⟩
theorem lW.snoc {B : Nat} {w : World} {p : Cell × Cell} {vs : List Value} (hs : p.1.small) (h : bP B w p.2 vs) : ∀ {ps : List (Cell × Cell)} {xs : List Value}, lW B w ps xs → lW B w (ps ++ [p]) (xs ++ (dK p.1 ++ vs))
 | [], _, rfl => ⟨vs, [], by simp, hs, h, rfl⟩
 | _ :: _, _, ⟨us, rest, h0, h1, h2, h3⟩ => ⟨us, _, by rw [h0, List.append_assoc], h1, h2, lW.snoc hs h h3⟩
theorem lW.at {B : Nat} {w : World} : ∀ {ps : List (Cell × Cell)} {xs : List Value}, lW B w ps xs → ∀ k (hk : k < ps.length), ps[k].1.small ∧ ∃ vs, bP B w ps[k].2 vs ∧ ∀ j u, (dK ps[k].1 ++ vs)[j]? = some u → xs[k * 13 + j]? = some u
 | [], _, _, k, hk => by simp at hk
 | p :: ps, _, ⟨vs, rest, h0, h1, h2, _⟩, 0, _ => ⟨h1, vs, h2, fun j u hj => by
  replace hj : (dK p.1 ++ vs)[j]? = some u := hj
  rw [h0, Nat.zero_mul, Nat.zero_add, List.getElem?_append_left (List.getElem?_eq_some_iff.1 hj).1]
  exact hj⟩
 | p :: ps, _, ⟨vs, rest, h0, h1, h2, h3⟩, k + 1, hk => by
  obtain ⟨hs, vs', g1, g2⟩ := lW.at h3 k (by simpa using hk)
  refine ⟨hs, vs', g1, fun j u hj => ?_⟩
  have hl : (dK p.1 ++ vs).length = 13 := by rw [List.length_append, h2.length]; rfl
  rw [h0, List.getElem?_append_right (by rw [hl]; omega), hl, show (k + 1) * 13 + j - 13 = k * 13 + j by omega]
  exact g2 j u hj
def iF (B : Nat) (tk : TypeId) (uk : Value) (Rk : World → (Nat → Prop) → List Cell → Prop) (t : TypeId) (u : Value) (R : World → (Nat → Prop) → List Cell → Prop) (p n : Nat) (xs : List Value) (κ υ : List Cell) (w : World) (fp : Nat → Prop) : Prop :=
 ∃ v fk fv, w.heap[p]? = some (.cells #[v, .iface tk uk, .iface t u] 144 (0, 0)) ∧ w.ownsRow 0 24 1 v n xs ∧ Rk w fk κ ∧ R w fv υ ∧ v.ownBlock ≠ some p ∧ ¬ fk p ∧ ¬ fv p ∧ (∀ k, v.ownBlock = some k → ¬ fk k ∧ ¬ fv k) ∧ (∀ k, fk k → ¬ fv k) ∧
  (∀ k, fp k ↔ k = p ∨ v.ownBlock = some k ∨ fk k ∨ fv k) ∧ ∀ k, fp k → B ≤ k
namespace iF
variable {B : Nat} {tk : TypeId} {uk : Value} {Rk : World → (Nat → Prop) → List Cell → Prop} {t : TypeId} {u : Value} {R : World → (Nat → Prop) → List Cell → Prop} {p n : Nat} {xs : List Value} {κ υ : List Cell} {w : World} {fp : Nat → Prop}
theorem lt (hk : ∀ {w fp σ}, Rk w fp σ → ∀ k, fp k → B ≤ k ∧ k < w.heap.size) (hv : ∀ {w fp σ}, R w fp σ → ∀ k, fp k → B ≤ k ∧ k < w.heap.size) (h : iF B tk uk Rk t u R p n xs κ υ w fp) : ∀ k, fp k → B ≤ k ∧ k < w.heap.size := by
 obtain ⟨v, fk, fv, hp, hown, hRk, hR, n1, n2, n3, n4, n5, hfp, hB⟩ := h
 intro k hk'
 refine ⟨hB k hk', ?_⟩
 rcases (hfp k).1 hk' with rfl | h | h | h
 · exact aH hp
 · exact aK hown h
 · exact (hk hRk k h).2
 · exact (hv hR k h).2
theorem base (hk : ∀ {w fp σ}, Rk w fp σ → ∀ k, fp k → B ≤ k ∧ k < w.heap.size) (hv : ∀ {w fp σ}, R w fp σ → ∀ k, fp k → B ≤ k ∧ k < w.heap.size) (h : iF B tk uk Rk t u R p n xs κ υ w fp) : B ≤ w.heap.size := by
 have hl := h.lt hk hv
 obtain ⟨v, fk, fv, hp, hown, hRk, hR, n1, n2, n3, n4, n5, hfp, hB⟩ := h
 have := hl p ((hfp p).2 (.inl rfl))
 omega
theorem aT {w' : World} (hk : ∀ {w w' fp σ}, Rk w fp σ → (∀ k, fp k → w'.heap[k]? = w.heap[k]?) → Rk w' fp σ) (hv : ∀ {w w' fp σ}, R w fp σ → (∀ k, fp k → w'.heap[k]? = w.heap[k]?) → R w' fp σ) (h : iF B tk uk Rk t u R p n xs κ υ w fp) (hw : ∀ k, fp k → w'.heap[k]? = w.heap[k]?) : iF B tk uk Rk t u R p n xs κ υ w' fp := by
 obtain ⟨v, fk, fv, hp, hown, hRk, hR, n1, n2, n3, n4, n5, hfp, hB⟩ := h
 refine ⟨v, fk, fv, (hw p ((hfp p).2 (.inl rfl))).trans hp, ⟨hown.1, ?_⟩, hk hRk (fun k h => hw k ((hfp k).2 (.inr (.inr (.inl h))))), hv hR (fun k h => hw k ((hfp k).2 (.inr (.inr (.inr h))))), n1, n2, n3, n4, n5, hfp, hB⟩
 rcases hown.2 with h0 | ⟨g, cap, cur, rfl, hb, hgg, rest⟩
 · exact .inl h0
 · exact .inr ⟨g, cap, cur, rfl, hb, (hw g ((hfp g).2 (.inr (.inl rfl)))).trans hgg, rest⟩
theorem aIF (hv : ∀ {w w' fp σ}, R w fp σ → (∀ k, fp k → w'.heap[k]? = w.heap[k]?) → R w' fp σ) (hl : ∀ k, fp k → k < w.heap.size) (h : iF B tk uk Rk t u R p n xs κ υ w fp) : ∃ fk, Rk w fk κ ∧ (∀ q, fk q → fp q) ∧ (¬ fk p) ∧
 ∀ {w' : World} {Rk' : World → (Nat → Prop) → List Cell → Prop} {f' : Nat → Prop} {κ' : List Cell}, Fr fk w w' → Rk' w' f' κ' → Grow w fk f' → ∃ fp', iF B tk uk Rk' t u R p n xs κ' υ w' fp' ∧ Grow w fp fp' ∧ Fr fp w w' := by
 obtain ⟨v, fk, fv, hp, hown, hRk, hR, n1, n2, n3, n4, n5, hfp, hB⟩ := h
 refine ⟨fk, hRk, fun q hq => (hfp q).2 (.inr (.inr (.inl hq))), n2, fun {w' Rk' f' κ'} hf hq hg => ?_⟩
 have hpl := aH hp
 have hvl : ∀ k, v.ownBlock = some k → k < w.heap.size := fun k hk => aK hown hk
 have hfl : ∀ k, fv k → k < w.heap.size := fun k hk => hl k ((hfp k).2 (.inr (.inr (.inr hk))))
 have hBp : B ≤ p := hB p ((hfp p).2 (.inl rfl))
 refine ⟨fun k => k = p ∨ v.ownBlock = some k ∨ f' k ∨ fv k, ⟨v, f', fv, (hf.block p hpl n2).trans hp, hf.owns hown (fun k hk => (n4 k hk).1), hq, hv hR (fun k hk => hf.block k (hfl k hk) (fun h => n5 k h hk)), n1, fun h => ?_, n3, fun k hk => ⟨fun h => ?_, (n4 k hk).2⟩, fun k hk h => ?_, fun k => Iff.rfl, ?_⟩, ?_, hf.mono (fun k _ h => (hfp k).2 (.inr (.inr (.inl h))))⟩
 · rcases hg p h with h | h
   · exact n2 h
   · omega
 · rcases hg k h with h | h
   · exact (n4 k hk).1 h
   · have := hvl k hk; omega
 · rcases hg k hk with h' | h'
   · exact n5 k h' h
   · have := hfl k h; omega
 · rintro k (rfl | hk | hk | hk)
   · exact hBp
   · exact hB k ((hfp k).2 (.inr (.inl hk)))
   · rcases hg k hk with h | h
     · exact hB k ((hfp k).2 (.inr (.inr (.inl h))))
     · omega
   · exact hB k ((hfp k).2 (.inr (.inr (.inr hk))))
 · rintro k (rfl | hk | hk | hk)
   · exact .inl ((hfp k).2 (.inl rfl))
   · exact .inl ((hfp k).2 (.inr (.inl hk)))
   · exact (hg k hk).imp (fun h => (hfp k).2 (.inr (.inr (.inl h)))) id
   · exact .inl ((hfp k).2 (.inr (.inr (.inr hk))))
theorem aKr (hk : ∀ {w w' fp σ}, Rk w fp σ → (∀ k, fp k → w'.heap[k]? = w.heap[k]?) → Rk w' fp σ) (hl : ∀ k, fp k → k < w.heap.size) (h : iF B tk uk Rk t u R p n xs κ υ w fp) : ∃ fv, R w fv υ ∧ (∀ q, fv q → fp q) ∧ (¬ fv p) ∧
 ∀ {w' : World} {R' : World → (Nat → Prop) → List Cell → Prop} {f' : Nat → Prop} {υ' : List Cell}, Fr fv w w' → R' w' f' υ' → Grow w fv f' → ∃ fp', iF B tk uk Rk t u R' p n xs κ υ' w' fp' ∧ Grow w fp fp' ∧ Fr fp w w' := by
 obtain ⟨v, fk, fv, hp, hown, hRk, hR, n1, n2, n3, n4, n5, hfp, hB⟩ := h
 refine ⟨fv, hR, fun q hq => (hfp q).2 (.inr (.inr (.inr hq))), n3, fun {w' R' f' υ'} hf hq hg => ?_⟩
 have hpl := aH hp
 have hvl : ∀ k, v.ownBlock = some k → k < w.heap.size := fun k hk => aK hown hk
 have hfl : ∀ k, fk k → k < w.heap.size := fun k hk => hl k ((hfp k).2 (.inr (.inr (.inl hk))))
 have hBp : B ≤ p := hB p ((hfp p).2 (.inl rfl))
 refine ⟨fun k => k = p ∨ v.ownBlock = some k ∨ fk k ∨ f' k, ⟨v, fk, f', (hf.block p hpl n3).trans hp, hf.owns hown (fun k hk => (n4 k hk).2), hk hRk (fun k hk => hf.block k (hfl k hk) (fun h => n5 k hk h)), hq, n1, n2, fun h => ?_, fun k hk => ⟨(n4 k hk).1, fun h => ?_⟩, fun k hk h => ?_, fun k => Iff.rfl, ?_⟩, ?_, hf.mono (fun k _ h => (hfp k).2 (.inr (.inr (.inr h))))⟩
 · rcases hg p h with h | h
   · exact n3 h
   · omega
 · rcases hg k h with h | h
   · exact (n4 k hk).2 h
   · have := hvl k hk; omega
 · rcases hg k h with h' | h'
   · exact n5 k hk h'
   · have := hfl k hk; omega
 · rintro k (rfl | hk | hk | hk)
   · exact hBp
   · exact hB k ((hfp k).2 (.inr (.inl hk)))
   · exact hB k ((hfp k).2 (.inr (.inr (.inl hk))))
   · rcases hg k hk with h | h
     · exact hB k ((hfp k).2 (.inr (.inr (.inr h))))
     · omega
 · rintro k (rfl | hk | hk | hk)
   · exact .inl ((hfp k).2 (.inl rfl))
   · exact .inl ((hfp k).2 (.inr (.inl hk)))
   · exact .inl ((hfp k).2 (.inr (.inr (.inl hk))))
   · exact (hg k hk).imp (fun h => (hfp k).2 (.inr (.inr (.inr h)))) id
theorem aKQ (hk : ∀ {w w' fp σ}, Rk w fp σ → (∀ k, fp k → w'.heap[k]? = w.heap[k]?) → Rk w' fp σ) (hv : ∀ {w w' fp σ}, R w fp σ → (∀ k, fp k → w'.heap[k]? = w.heap[k]?) → R w' fp σ) (hl : ∀ k, fp k → k < w.heap.size) (h : iF B tk uk Rk t u R p n xs κ υ w fp) :
 ∃ v, w.heap[p]? = some (.cells #[v, .iface tk uk, .iface t u] 144 (0, 0)) ∧ w.ownsRow 0 24 1 v n xs ∧ v.ownBlock ≠ some p ∧
 ∀ {w' : World} {v' : Value} {m : Nat} {ys : List Value}, w'.heap[p]? = some (.cells #[v', .iface tk uk, .iface t u] 144 (0, 0)) → w'.ownsRow 0 24 1 v' m ys → v'.ownBlock ≠ some p → (∀ k, v'.ownBlock = some k → v.ownBlock = some k ∨ w.heap.size ≤ k) → Fr (fun k => k = p ∨ v.ownBlock = some k) w w' →
  ∃ fp', iF B tk uk Rk t u R p m ys κ υ w' fp' ∧ Grow w fp fp' ∧ Fr fp w w' := by
 obtain ⟨v, fk, fv, hp, hown, hRk, hR, n1, n2, n3, n4, n5, hfp, hB⟩ := h
 refine ⟨v, hp, hown, n1, fun {w' v' m ys} hp' hown' hne' hv' hf => ?_⟩
 have hpl := aH hp
 have hBp : B ≤ p := hB p ((hfp p).2 (.inl rfl))
 have hkl : ∀ k, fk k → k < w.heap.size := fun k hk => hl k ((hfp k).2 (.inr (.inr (.inl hk))))
 have hvl : ∀ k, fv k → k < w.heap.size := fun k hk => hl k ((hfp k).2 (.inr (.inr (.inr hk))))
 refine ⟨fun k => k = p ∨ v'.ownBlock = some k ∨ fk k ∨ fv k, ⟨v', fk, fv, hp', hown', hk hRk (fun k h => hf.block k (hkl k h) (fun e => e.elim (fun e => n2 (e ▸ h)) (fun e => (n4 k e).1 h))), hv hR (fun k h => hf.block k (hvl k h) (fun e => e.elim (fun e => n3 (e ▸ h)) (fun e => (n4 k e).2 h))), hne', n2, n3, fun k hk => ?_, n5, fun k => Iff.rfl, ?_⟩, ?_, hf.mono (fun k _ h => (hfp k).2 (h.imp id .inl))⟩
 · rcases hv' k hk with h | h
   · exact n4 k h
   · exact ⟨fun h' => by have := hkl k h'; omega, fun h' => by have := hvl k h'; omega⟩
 · rintro k (rfl | hk | hk | hk)
   · exact hBp
   · rcases hv' k hk with h | h
     · exact hB k ((hfp k).2 (.inr (.inl h)))
     · omega
   · exact hB k ((hfp k).2 (.inr (.inr (.inl hk))))
   · exact hB k ((hfp k).2 (.inr (.inr (.inr hk))))
 · rintro k (rfl | hk | hk | hk)
   · exact .inl ((hfp k).2 (.inl rfl))
   · exact (hv' k hk).imp (fun h => (hfp k).2 (.inr (.inl h))) id
   · exact .inl ((hfp k).2 (.inr (.inr (.inl hk))))
   · exact .inl ((hfp k).2 (.inr (.inr (.inr hk))))
theorem cells (h : iF B tk uk Rk t u R p n xs κ υ w fp) : w.cell? ⟨p, 1, none⟩ = some (.iface tk uk) ∧ w.cell? ⟨p, 2, none⟩ = some (.iface t u) ∧ fp p := by
 obtain ⟨v, fk, fv, hp, hown, hRk, hR, n1, n2, n3, n4, n5, hfp, hB⟩ := h
 exact ⟨by rw [cell_of_row _ _ _ _ _ _ hp]; rfl, by rw [cell_of_row _ _ _ _ _ _ hp]; rfl, (hfp p).2 (.inl rfl)⟩
end iF
end Go.Proofs.YtcidlnjpabgioaaGreatDoor
namespace Go.Proofs.YtcidlnjpabgioaaGreatDoor
open Go.RowKit
def MapAt (B : Nat) (tk : TypeId) (uk : Value) (Rk : World → (Nat → Prop) → List Cell → Prop) (t : TypeId) (u : Value) (R : World → (Nat → Prop) → List Cell → Prop) (p : Nat) (w : World) (fp : Nat → Prop) (σ : List Cell) : Prop :=
 iF B tk uk Rk t u R p σ.length ((ends wI 0 σ).flatMap dH) (σ.flatMap mapKeys) (σ.flatMap iJ) w fp
theorem aKR : ElT Tryz.prog 496 498 (.agg #[.int .u64 0, .int .u64 0, .int .u64 0, .int .u64 0, .string ⟨#[]⟩, .int .u64 0, .int .u64 0, .int .u64 0, .int .u64 0, .string ⟨#[]⟩, .bool false, .slice none 0 0, .slice none 0 0]) 13 152 := ⟨Tryz.underlying496, info_parts (by kernel_rfl), rfl⟩
section
variable {B : Nat} {tk : TypeId} {uk : Value} {Tk : Ty} {stk : List UInt8} {Rk Rkp : World → (Nat → Prop) → List Cell → Prop} {t : TypeId} {u : Value} {T : Ty} {st : List UInt8} {R Rp : World → (Nat → Prop) → List Cell → Prop}
theorem aAM (ks : jI Tryz.prog B tk uk Tk stk Rk Rkp) (sp : bI Tryz.prog B t u T st R Rp) (w : World) (p : Nat) (fp : Nat → Prop) (σ : List Cell) (h : MapAt B tk uk Rk t u R p w fp σ) (c : Cell) (lv : Value) (vals : List Value) (hown : w.ownsRow 0 498 13 lv c.pairs.length vals) (hkv : lW B w c.pairs vals)
 (hd : ∀ k, lv.ownBlock = some k → ¬ fp k) (hw : wts (σ ++ [c]) ≤ 2147483648) :
 Calls Tryz.prog 261 #[.pointer (some ⟨p, 0, none⟩), lv] w fun e w' => e = .returned (.tuple #[]) ∧ Fr fp w w' ∧ ∃ fp', MapAt B tk uk Rk t u R p w' fp' (σ ++ [c]) ∧ Grow w fp fp' := by
 have hlo := h.lt (Rk := Rk) (R := R) ks.lo sp.lo
 have hBw := h.base (Rk := Rk) (R := R) ks.lo sp.lo
 obtain ⟨al, cl, rfl⟩ := ownsRow_shape hown
 have hwk := kK (σ ++ [c])
 have hwv := kH (σ ++ [c])
 have htl := nR (σ ++ [c])
 have hlk := aN ((σ ++ [c]).flatMap mapKeys)
 rw [List.flatMap_append, List.flatMap_singleton] at hwk hwv htl hlk
 rw [List.length_append, List.length_singleton] at hwk hwv
 unfold MapAt at h
 obtain ⟨PS, hPS⟩ : ∃ PS, c.pairs = PS := ⟨_, rfl⟩
 have hmk : mapKeys c = PS.map fun p => p.1.keyed := by rw [← hPS]; rfl
 have hmv : iJ c = PS.map (·.2) := by rw [← hPS]; rfl
 rw [hmk] at hwk htl hlk
 rw [hmv] at hwv
 rw [hPS] at hown hkv hd ⊢
 have hcm : PS.length ≤ 9223372036854775807 := by
  rw [List.length_append, List.length_map] at hlk
  omega
 have hwkl : ∀ k, wts (σ.flatMap mapKeys ++ (PS.take k).map fun p => p.1.keyed) ≤ 2147483648 := fun k => by
  have := iT (σ.flatMap mapKeys ++ PS.map fun p => p.1.keyed) ((σ.flatMap mapKeys).length + k)
  rw [List.take_length_add_append, ← List.map_take] at this
  omega
 have hwvl : ∀ k, wts (σ.flatMap iJ ++ (PS.take k).map (·.2)) ≤ 2147483648 := fun k => by
  have := iT (σ.flatMap iJ ++ PS.map (·.2)) ((σ.flatMap iJ).length + k)
  rw [List.take_length_add_append, ← List.map_take] at this
  omega
 generalize hκ : σ.flatMap mapKeys = κ at h hwkl
 generalize hυ : σ.flatMap iJ = υ at h hwvl
 generalize hxs : (ends wI 0 σ).flatMap dH = xs at h
 have hPSH := Lib.hid hPS
 have hmkH := Lib.hid hmk
 have hmvH := Lib.hid hmv
 have htlH := Lib.hid htl
 have hκH := Lib.hid hκ
 have hυH := Lib.hid hυ
 have hxsH := Lib.hid hxs
 clear hPS hmk hmv htl hκ hυ hxs
 go_enter Tryz.func261, Tryz.ntmps261
 go_wp2
 go_loopw [8] (fun i wr => ∃ (k : Nat) (fpk : Nat → Prop), k ≤ PS.length ∧ i = .int .i64 k ∧ iF B tk uk Rk t u R p σ.length xs (κ ++ (PS.take k).map fun p => p.1.keyed) (υ ++ (PS.take k).map (·.2)) wr fpk ∧ Grow w fp fpk ∧ Fr fp w wr) (fun i _ => PS.length - (intOf i).toNat)
 case atStart => exact ⟨0, fp, Nat.zero_le _, rfl, by simpa using h, fun k hk => .inl hk, Fr.refl _ _⟩
 case round =>
  obtain ⟨k, fpk, hk, rfl, hat, hg, hfr⟩ := hrel
  have hsz := hfr.size
  by_cases hlt : k < PS.length
  · have hownr := hfr.owns hown hd
    rcases hownr.2 with ⟨hv, -⟩ | ⟨ga, capa, cura, hv, -⟩
    · simp only [Value.slice.injEq] at hv; omega
    · simp only [Value.slice.injEq] at hv
      obtain ⟨rfl, -, rfl⟩ := hv
      obtain ⟨hsm, vs, hvs, hvx⟩ := hkv.at k hlt
      have hbr : Below B w wr := hfr.below hBw (fun q hq h => by have := (hlo q h).1; omega)
      have hvr := bP.below hbr _ _ hvs
      have hstep := List.take_succ_eq_append_getElem hlt
      have hks : (PS.take (k + 1)).map (fun p => p.1.keyed) = (PS.take k).map (fun p => p.1.keyed) ++ [PS[k].1.keyed] := by rw [hstep, List.map_append]; rfl
      have hvs2 : (PS.take (k + 1)).map (·.2) = (PS.take k).map (·.2) ++ [PS[k].2] := by rw [hstep, List.map_append]; rfl
      have hwk1 := hwkl (k + 1)
      have hwv1 := hwvl (k + 1)
      rw [hks, ← List.append_assoc] at hwk1
      rw [hvs2, ← List.append_assoc] at hwv1
      have hksH := Lib.hid hks
      have hvsH := Lib.hid hvs2
      generalize PS[k].1 = kc at hsm hvx hksH hwk1
      generalize PS[k].2 = vc at hvs hvr hvx hvsH hwv1
      obtain ⟨ia, il, ic, ka, kl, kc', rfl, -⟩ := hvs.open
      have hx : ∀ j u, (dK kc ++ [.int .u64 vc.r0, .int .u64 vc.r1, .int .u64 vc.r2, .int .u64 vc.r3, .string vc.s, .bool vc.null, .slice ia il ic, .slice ka kl kc'])[j]? = some u → wr.cell? ⟨ga, k * 13 + j, none⟩ = some u := by
       intro j u hj
       have := hownr.cells (g := ga) rfl _ _ (hvx j u hj)
       rw [Addr.add_lit, Nat.zero_add] at this
       exact this
      have x0 := hx 0 _ rfl
      have x1 := hx 1 _ rfl
      have x2 := hx 2 _ rfl
      have x3 := hx 3 _ rfl
      have x4 := hx 4 _ rfl
      have x5 := hx 5 _ rfl
      have x6 := hx 6 _ rfl
      have x7 := hx 7 _ rfl
      have x8 := hx 8 _ rfl
      have x9 := hx 9 _ rfl
      have x10 := hx 10 _ rfl
      have x11 := hx 11 _ rfl
      have x12 := hx 12 _ rfl
      simp only [Nat.add_zero] at x0
      have hBr : B ≤ wr.heap.size := Nat.le_trans hBw hsz
      have hlok := hat.lt (Rk := Rk) (R := R) ks.lo sp.lo
      clear hx hvx hownr hkv hks hvs2 hstep hvs hwkl hwvl
      go_wp2_with fail
      generalize hW : wr.alloc _ = W
      have hWs : W.heap.size = wr.heap.size + 1 := by subst hW; simp
      have hfW : Fr (fun _ => False) wr W := by subst hW; exact (Fr.refl _ wr).alloc _
      have b : ∀ j, W.cell? ⟨wr.heap.size, j, none⟩ = #[Value.int .u64 kc.r0, .int .u64 kc.r1, .int .u64 kc.r2, .int .u64 kc.r3, .string kc.s, .int .u64 vc.r0, .int .u64 vc.r1, .int .u64 vc.r2, .int .u64 vc.r3, .string vc.s, .bool vc.null, .slice ia il ic, .slice ka kl kc'][j]? := fun j => by subst hW; rw [aB rfl]
      have hatW := hat.aT (Rk := Rk) (R := R) (w' := W) ks.frame sp.frame (fun q hq => hfW.block q (hlok q hq).2 (fun h => h))
      have hvW := bP.below (hfW.below hBr (fun _ _ h => h)) _ _ hvr
      clear hW x0 x1 x2 x3 x4 x5 x6 x7 x8 x9 x10 x11 x12 hat hvr
      have hloW := hatW.lt (Rk := Rk) (R := R) ks.lo sp.lo
      obtain ⟨p1, p2, hfpp⟩ := hatW.cells
      obtain ⟨fk, hRk, hfk, hkp, hturnK⟩ := hatW.aIF (R := R) sp.frame (fun q hq => (hloW q hq).2)
      have b0 := b 0
      have b1 := b 1
      have b2 := b 2
      have b3 := b 3
      have b4 := b 4
      simp only [List.getElem?_toArray, List.getElem?_cons_zero, List.getElem?_cons_succ] at b0 b1 b2 b3 b4
      have hi := ks.append (ks.frame (w' := W.drew) hRk (fun _ _ => rfl)) hsm hwk1
      have hbH := Lib.hid b
      clear b hatW
      go_region_law (first
       | (refine aS _ rfl ?_; refine bU _ _ _ _ _ rfl _ _ rfl hi rfl ?_; rintro e w2 ⟨rfl, hf2, f2, hR2, hg2⟩; refine ⟨_, rfl, ?_⟩))
      all_goals
       have hf2' := hf2.aG
       have hs2 := hf2'.size
       obtain ⟨fp2, hat2, hgr2, hfr2⟩ := hturnK hf2' hR2 hg2
       have hlo2 := hat2.lt (Rk := Rk) (R := R) ks.lo sp.lo
       obtain ⟨-, p2', -⟩ := hat2.cells
       have hb2 : ∀ j x, #[Value.int .u64 kc.r0, .int .u64 kc.r1, .int .u64 kc.r2, .int .u64 kc.r3, .string kc.s, .int .u64 vc.r0, .int .u64 vc.r1, .int .u64 vc.r2, .int .u64 vc.r3, .string vc.s, .bool vc.null, .slice ia il ic, .slice ka kl kc'][j]? = some x → w2.cell? ⟨wr.heap.size, j, none⟩ = some x := fun j x hj => hf2'.aA ((hbH.out j).trans hj) (fun h => absurd (hlok _ (hfk _ h)).2 (by show ¬ (wr.heap.size < wr.heap.size); omega))
       have y5 := hb2 5 _ rfl
       have y6 := hb2 6 _ rfl
       have y7 := hb2 7 _ rfl
       have y8 := hb2 8 _ rfl
       have y9 := hb2 9 _ rfl
       have y10 := hb2 10 _ rfl
       have y11 := hb2 11 _ rfl
       have y12 := hb2 12 _ rfl
       have hv2 := bP.below (hf2'.below (B := B) (by omega) (fun q hq h => by have := (hlok q (hfk q h)).1; omega)) _ _ hvW
       obtain ⟨fv, hRv, hfv, hvp, hturnV⟩ := hat2.aKr (Rk := Rk) ks.frame (fun q hq => (hlo2 q hq).2)
       have hi2 := sp.append (sp.frame (w' := w2.drew) hRv (fun _ _ => rfl)) (bP.below ((Below.refl B w2).drew) _ _ hv2) hwv1
       clear hb2 hat2 hi
       go_wp2
       go_region_law (first
        | (refine aS _ rfl ?_; refine bU _ _ _ _ _ rfl _ _ rfl hi2 rfl ?_; rintro e w3 ⟨rfl, hf3, f3, hR3, hg3⟩; refine ⟨_, rfl, ?_⟩))
       all_goals
        have hf3' := hf3.aG
        have hs3 := hf3'.size
        obtain ⟨fp3, hat3, hgr3, hfr3⟩ := hturnV hf3' hR3 hg3
        go_wp2
        go_roundw
        case rel =>
         have hfall : Fr fpk W w3 := hfr2.trans hfr3 (fun q hq h => (hgr2 q h).resolve_right (by omega))
         refine ⟨k + 1, fp3, by omega, by go_num, ?_, fun q hq => ?_, ((hfr.trans hfW (fun _ _ h => h.elim)).trans hfall (fun q hq h => (hg q h).resolve_right (by omega)))⟩
         · rw [hksH.out, hvsH.out, ← List.append_assoc, ← List.append_assoc]
           exact hat3
         · rcases hgr3 q hq with h | h
           · rcases hgr2 q h with h | h
             · exact hg q h
             · exact .inr (by omega)
           · exact .inr (by omega)
        case measure => simp [intOf]; omega
  · have hke : k = PS.length := by omega
    subst hke
    rw [List.take_length] at hat
    have hlok := hat.lt (Rk := Rk) (R := R) ks.lo sp.lo
    obtain ⟨p1, -, -⟩ := hat.cells
    obtain ⟨fk, hRk, -, -, -⟩ := hat.aIF (R := R) sp.frame (fun q hq => (hlok q hq).2)
    obtain ⟨v, hpv, hownv, hnev, hturnN⟩ := hat.aKQ (Rk := Rk) (R := R) ks.frame sp.frame (fun q hq => (hlok q hq).2)
    have hrows := ks.rows (ks.frame (w' := wr.drew) hRk (fun _ _ => rfl))
    obtain ⟨N, hN⟩ : ∃ N, (κ ++ PS.map fun p => p.1.keyed).length = N := ⟨_, rfl⟩
    rw [hN] at hrows
    have hN2 : N ≤ 2147483648 := by
     have h1 := hwk
     rw [hκH.out] at h1 hlk
     rw [hN] at hlk
     omega
    have hwr : IntKind.u64.wrap (N : Int) = N := by rw [IntKind.wrap_u64]; omega
    have hNH := Lib.hid hN
    have hsl : σ.length < 2147483648 := by omega
    clear hN hkv hown hwkl hwvl hRk
    go_wp2
    go_region_law (first
     | (refine aS _ rfl ?_; refine bU _ _ _ _ _ rfl _ _ rfl hrows rfl ?_; rintro e w2 ⟨rfl, hf2⟩; refine ⟨_, rfl, ?_⟩; have hcall := aGu w2 p #[v, .iface tk uk, .iface t u] _ σ.length xs v rfl ((hf2.aG.block p (aH hpv) (fun h => h)).trans hpv) (hf2.aG.owns hownv (fun _ _ h => h)) hnev hsl N)
     | (go_simp; go_at_call 257; refine hcall.mono ?_; rintro e w3 ⟨rfl, v', hp3, hown3, hne3, hblk3, hf3⟩))
    all_goals
     have hf23 : Fr (fun k => k = p ∨ v.ownBlock = some k) wr w3 := (hf2.aG.mono (fun _ _ h => h.elim)).trans hf3 (fun _ _ h => h)
     obtain ⟨fp', hfin, hgr, hfrf⟩ := hturnN hp3 hown3 hne3 (fun k hk => (hblk3 k hk).imp id (fun h => Nat.le_trans hf2.aG.size h)) hf23
     go_end0
     refine ⟨rfl, hfr.trans hfrf (fun q hq h => (hg q h).resolve_right (by omega)), fp', ?_, fun q hq => ?_⟩
     · unfold MapAt
       have e : 0 + total wI σ + wI c = N := by
        have h1 := htlH.out
        rw [jO, hκH.out, hNH.out] at h1
        simp only [total] at h1
        omega
       rw [List.length_append, List.length_singleton, kJ, List.flatMap_append, List.flatMap_append, List.flatMap_append, List.flatMap_singleton, List.flatMap_singleton, List.flatMap_singleton, hκH.out, hυH.out, hxsH.out, hmkH.out, hmvH.out, e]
       exact hfin
     · rcases hgr q hq with h | h
       · exact hg q h
       · exact .inr (by omega)
theorem aDJ (c : Cell) (k : Nat) (hk : k < c.keys.length) : (∃ hi : k < c.items.length, c.pairs.take (k + 1) = c.pairs.take k ++ [(c.keys[k], c.items[k])]) ∨ (¬ k < c.items.length ∧ c.pairs.take (k + 1) = c.pairs.take k) := by
 by_cases hi : k < c.items.length
 · left
   refine ⟨hi, ?_⟩
   have hl : k < c.pairs.length := by unfold Cell.pairs; rw [List.length_zip]; omega
   rw [List.take_succ_eq_append_getElem hl]
   congr 2
   exact List.getElem_zip
 · right
   refine ⟨hi, ?_⟩
   have hl : c.pairs.length ≤ k := by unfold Cell.pairs; rw [List.length_zip]; omega
   rw [List.take_of_length_le hl, List.take_of_length_le (by omega)]
theorem mW (ks : jI Tryz.prog B tk uk Tk stk Rk Rkp) (sp : bI Tryz.prog B t u T st R Rp) (w : World) (p : Nat) (fp : Nat → Prop) (σ : List Cell) (h : MapAt B tk uk Rk t u R p w fp σ) (c : Cell) (vs : List Value) (hvs : bP B w c vs) (hw : wts (σ ++ [c]) ≤ 2147483648) :
 Calls Tryz.prog 258 #[.agg #[.pointer (some ⟨p, 0, none⟩)], .agg vs.toArray] w fun e w' => e = .returned (.tuple #[]) ∧ Fr fp w w' ∧ ∃ fp', MapAt B tk uk Rk t u R p w' fp' (σ ++ [c]) ∧ Grow w fp fp' := by
 have hlo : ∀ q, fp q → B ≤ q ∧ q < w.heap.size := iF.lt (Rk := Rk) (R := R) ks.lo sp.lo h
 have hBw : B ≤ w.heap.size := iF.base (Rk := Rk) (R := R) ks.lo sp.lo h
 obtain ⟨ia, ic, ka, kc, ixs, kxs, rfl, hit, hci, hkt, hck⟩ := hvs.full
 have hsm := hvs.small
 obtain ⟨il, hil⟩ : ∃ il, c.items.length = il := ⟨_, rfl⟩
 obtain ⟨kl, hkl⟩ : ∃ kl, c.keys.length = kl := ⟨_, rfl⟩
 have hkb : kl ≤ 2147483648 := by
  have h1 := aN c.keys
  have h2 := Cell.jW c
  rw [dV] at hw
  simp only [wts] at hw
  omega
 rw [hil, hkl]
 rw [hil] at hit
 rw [hkl] at hkt
 have hilH := Lib.hid hil
 have hklH := Lib.hid hkl
 clear hil hkl
 go_enter Tryz.func258, Tryz.ntmps258
 go_wp2
 generalize hW : (w.alloc _).alloc _ = W
 have hfrW : Fr (fun _ => False) w W := by subst hW; exact ((Fr.refl _ w).alloc _).alloc _
 have hsW : W.heap.size = w.heap.size + 2 := by subst hW; simp
 have e0 : W.cell? ⟨w.heap.size, 0, none⟩ = some (.pointer (some ⟨p, 0, none⟩)) := by subst hW; rw [World.cell?_alloc_lt _ _ _ (by simp), aB rfl]; rfl
 have e6 : W.cell? ⟨w.heap.size + 1, 6, none⟩ = some (.slice ia il ic) := by subst hW; rw [aB (by simp)]; rfl
 clear hW
 have hbW : Below B w W := hfrW.below hBw (fun _ _ h => h)
 go_loopw [4, 10] (fun l i wr => ∃ (k : Nat) (vals : List Value), k ≤ kl ∧ i = .int .i64 k ∧ wr.ownsRow 0 498 13 l (c.pairs.take k).length vals ∧ lW B wr (c.pairs.take k) vals ∧ (∀ q, l.ownBlock = some q → W.heap.size ≤ q) ∧ Fr (fun _ => False) W wr) (fun _ i _ => kl - (intOf i).toNat)
 case atStart => exact ⟨0, [], Nat.zero_le _, rfl, World.ownsRow_nil _ _ _ _, rfl, by simp [Value.ownBlock], Fr.refl _ _⟩
 case round =>
  obtain ⟨k, vals, hk, rfl, hown, hkv, hsince, hfr⟩ := hrel
  obtain ⟨a0, c0, rfl⟩ := ownsRow_shape hown
  have hsz := hfr.size
  have hbr : Below B w wr := hbW.trans (hfr.below (by omega) (fun _ _ h => h))
  have hBr : B ≤ wr.heap.size := by omega
  have x6 := hfr.aA e6 (fun h => h)
  by_cases hlt : k < kl
  · have hltk : k < c.keys.length := by rw [hklH.out]; exact hlt
    obtain ⟨b, off, cap', hv, hbB, us, hus, hcell⟩ := ((hklH.out ▸ hkt : Sl B w 8 (.slice ka kl kc) c.keys.length kxs).below hbr).row (aC.below hbr _ _ hck) hltk
    have hstep := aDJ c k hltk
    generalize c.keys[k] = d at hus hstep
    have hsd := hus.small
    obtain ⟨ja, jl, jc, la, ll, lc, rfl, -⟩ := hus.open
    simp only [Value.slice.injEq] at hv
    obtain ⟨rfl, -, rfl⟩ := hv
    have d0 := hcell 0 _ rfl
    have d1 := hcell 1 _ rfl
    have d2 := hcell 2 _ rfl
    have d3 := hcell 3 _ rfl
    have d4 := hcell 4 _ rfl
    have d5 := hcell 5 _ rfl
    have d6 := hcell 6 _ rfl
    have d7 := hcell 7 _ rfl
    simp only [Nat.add_zero] at d0
    have hlen : (c.pairs.take k).length ≤ k := by rw [List.length_take]; omega
    generalize hm : (c.pairs.take k).length = m at hown hlen hsince
    have hmH := Lib.hid hm
    clear hm
    have x6a : ∀ o, (wr.alloc o).cell? ⟨w.heap.size + 1, 6, none⟩ = some (.slice ia il ic) := fun o => (((Fr.refl (fun _ => False) wr).alloc o).aA x6 (fun h => h))
    clear hcell hus
    rcases hstep with ⟨hi, hstep⟩ | ⟨hi, hstep⟩
    · have hltI : k < il := by rw [← hilH.out]; exact hi
      obtain ⟨b2, off2, cap2, hv2, hbB2, us2, hus2, hcell2⟩ := ((hilH.out ▸ hit : Sl B w 8 (.slice ia il ic) c.items.length ixs).below hbr).row (aC.below hbr _ _ hci) hi
      generalize c.items[k] = d' at hus2 hstep
      have hstepH := Lib.hid hstep
      obtain ⟨ma, ml, mc, na, nl, nc, rfl, -⟩ := hus2.open
      simp only [Value.slice.injEq] at hv2
      obtain ⟨rfl, -, rfl⟩ := hv2
      have hy : ∀ w1, Fr (fun _ => False) wr w1 → ∀ j u, [Value.int .u64 d'.r0, .int .u64 d'.r1, .int .u64 d'.r2, .int .u64 d'.r3, .string d'.s, .bool d'.null, .slice ma ml mc, .slice na nl nc][j]? = some u → w1.cell? ⟨b2, off2 + k * 8 + j, none⟩ = some u := fun w1 hf j u hj => hf.aA (hcell2 j u hj) (fun h => h)
      clear hcell2 hit hkt hci hck hvs hstep hi
      go_wp2
      generalize hW5 : wr.alloc _ = W5
      have hf5 : Fr (fun _ => False) wr W5 := by subst hW5; exact (Fr.refl _ wr).alloc _
      have hb5 : ∀ j, W5.cell? ⟨wr.heap.size, j, none⟩ = #[Value.int .u64 d.r0, .int .u64 d.r1, .int .u64 d.r2, .int .u64 d.r3, .string d.s, .bool d.null, .slice ja jl jc, .slice la ll lc][j]? := fun j => by subst hW5; rw [aB rfl]
      have hown5 := hf5.owns hown (fun _ _ h => h)
      clear hW5
      have q6 := hf5.aA x6 (fun h => h)
      have b0 := hb5 0
      have b1 := hb5 1
      have b2' := hb5 2
      have b3 := hb5 3
      have b4 := hb5 4
      have b5 := hb5 5
      have b6 := hb5 6
      have b7 := hb5 7
      simp only [List.getElem?_toArray, List.getElem?_cons_zero, List.getElem?_cons_succ] at b0 b1 b2' b3 b4 b5 b6 b7
      have y0 := hy W5 hf5 0 _ rfl
      have y1 := hy W5 hf5 1 _ rfl
      have y2 := hy W5 hf5 2 _ rfl
      have y3 := hy W5 hf5 3 _ rfl
      have y4 := hy W5 hf5 4 _ rfl
      have y5 := hy W5 hf5 5 _ rfl
      have y6 := hy W5 hf5 6 _ rfl
      have y7 := hy W5 hf5 7 _ rfl
      simp only [Nat.add_zero] at y0
      clear hb5 x6 x6a d0 d1 d2 d3 d4 d5 d6 d7
      go_region_law (first
       | (go_simp; go_at_call 241; refine (rM _ d.r0 d.r1 d.r2 d.r3 d.s d.null (.slice ja jl jc) (.slice la ll lc)).mono ?_; rintro e w1 ⟨rfl, hf1⟩; have hf1' : Fr (fun _ => False) wr w1 := hf5.trans hf1.aG (fun _ _ h => h); have r6 := hf1.aG.aA q6 (fun h => h); have z0 := hy w1 hf1' 0 _ rfl; have z1 := hy w1 hf1' 1 _ rfl; have z2 := hy w1 hf1' 2 _ rfl; have z3 := hy w1 hf1' 3 _ rfl; have z4 := hy w1 hf1' 4 _ rfl; have z5 := hy w1 hf1' 5 _ rfl; have z6 := hy w1 hf1' 6 _ rfl; have z7 := hy w1 hf1' 7 _ rfl; (simp only [Nat.add_zero] at z0); have hown1 := hf1.aG.owns hown5 (fun _ _ h => h))
       | (refine aS _ rfl ?_; refine dB _ aKR _ _ rfl _ _ _ rfl (hown1.alloc _) _ _ _ rfl (Src.ofSlice _ Tryz.underlying496 _ _ _ _ rfl (aW _ [.int .u64 d.r0, .int .u64 d.r1, .int .u64 d.r2, .int .u64 d.r3, .string d.s, .int .u64 d'.r0, .int .u64 d'.r1, .int .u64 d'.r2, .int .u64 d'.r3, .string d'.s, .bool d'.null, .slice ma ml mc, .slice na nl nc] _) (by simp [Value.oneCell'])) ?_ ?_ ?_; (unfold maxLen; omega); omega; intro v' w2 ha; obtain ⟨a', c', rfl⟩ := ha.shape))
      all_goals
       have ha' : dA (w1.alloc _) w2 498 13 (.slice a0 m c0) _ _ _ := ha
       have hfW1 : Fr (fun _ => False) W w1 := hfr.trans hf1' (fun _ _ h => h)
       have hsn := ha'.since (hfW1.alloc _) hsince
       go_wp2
       go_roundw
       case rel =>
        refine ⟨k + 1, vals ++ (dK d ++ [.int .u64 d'.r0, .int .u64 d'.r1, .int .u64 d'.r2, .int .u64 d'.r3, .string d'.s, .bool d'.null, .slice ma ml mc, .slice na nl nc]), by omega, by go_num, ?_, ?_, hsn.1, hsn.2⟩
        · rw [hstepH.out, List.length_append, hmH.out]
          exact ha'.1
        · rw [hstepH.out]
          have hb2 : Below B wr w2 := ((hf1'.alloc _).mono (S' := fun q => W.heap.size ≤ q) (fun _ _ h => h.elim)).grown ha'.2.1 (fun q hq => .inl (hsince q hq)) |>.below hBr (fun q hq h => by omega)
          exact lW.snoc hsd (bP.below hb2 _ _ hus2) (lW.below hb2 _ _ hkv)
       case measure => simp [intOf]; omega
    · have hltI : ¬ k < il := by rw [← hilH.out]; exact hi
      have hstepH := Lib.hid hstep
      clear hstep hi hit hkt hci hck hvs
      go_wp2
      go_roundw
      case rel =>
       refine ⟨k + 1, vals, by omega, by go_num, ?_, ?_, hsince, hfr.alloc _⟩
       · rw [hstepH.out, hmH.out]
         exact hown.alloc _
       · rw [hstepH.out]
         exact lW.below ((Below.refl B wr).alloc hBr _) _ _ hkv
      case measure => simp [intOf]; omega
  · have hke : k = kl := by omega
    subst hke
    have hall : c.pairs.take k = c.pairs := List.take_of_length_le (by have := hklH.out; unfold Cell.pairs; rw [List.length_zip]; omega)
    rw [hall] at hown hkv hsince
    have x0 := hfr.aA e0 (fun h => h)
    have hfr0 : Fr (fun _ => False) w wr := hfrW.trans hfr (fun _ _ h => h)
    have hat : MapAt B tk uk Rk t u R p wr fp σ := iF.aT (Rk := Rk) (R := R) ks.frame sp.frame h (fun q hq => hfr0.block q (hlo q hq).2 (fun h => h))
    have hcall := aAM ks sp wr p fp σ hat c _ vals hown hkv (fun q hq h => by have := hsince q hq; have := (hlo q h).2; omega) hw
    clear hat hown hkv hit hkt hci hck hvs h
    rw [hall]
    generalize c.pairs.length = m at hcall
    go_wp2_with (go_at_call 261; refine hcall.mono ?_; rintro e w2 ⟨rfl, hf2, hfin⟩)
    go_end0
    obtain ⟨fp', h1, h2⟩ := hfin
    exact ⟨rfl, (hfr0.mono (fun _ _ h => h.elim)).trans hf2 (fun _ _ h => h), fp', h1, fun q hq => (h2 q hq).imp id (fun h => by omega)⟩
theorem sH (ks : jI Tryz.prog B tk uk Tk stk Rk Rkp) (sp : bI Tryz.prog B t u T st R Rp) (w : World) (p : Nat) (fp : Nat → Prop) (σ : List Cell) (h : MapAt B tk uk Rk t u R p w fp σ) (cs : List Cell) (v : Value) (ys : List Value) (hs : Sl B w 8 v cs.length ys) (hcs : aC B w cs ys) (hw : wts (σ ++ cs) ≤ 2147483648) :
 Calls Tryz.prog 259 #[.agg #[.pointer (some ⟨p, 0, none⟩)], v] w fun e w' => e = .returned (.tuple #[]) ∧ Fr fp w w' ∧ ∃ fp', MapAt B tk uk Rk t u R p w' fp' (σ ++ cs) ∧ Grow w fp fp' := by
 have hlo : ∀ q, fp q → B ≤ q ∧ q < w.heap.size := iF.lt (Rk := Rk) (R := R) ks.lo sp.lo h
 have hBw : B ≤ w.heap.size := iF.base (Rk := Rk) (R := R) ks.lo sp.lo h
 have hs' := hs
 obtain ⟨hxl, ao, cap, rfl, hnc, hcm, h0, ha⟩ := hs
 unfold maxLen at hcm
 clear ha h0 hxl
 go_enter Tryz.func259, Tryz.ntmps259
 go_wp2
 generalize hW : w.alloc _ = W
 have hfrW : Fr (fun _ => False) w W := by subst hW; exact (Fr.refl _ w).alloc _
 have hsW : W.heap.size = w.heap.size + 1 := by subst hW; simp
 have q0 : W.cell? ⟨w.heap.size, 0, none⟩ = some (.pointer (some ⟨p, 0, none⟩)) := by subst hW; rw [aB (by simp)]; rfl
 clear hW
 have hW0 : MapAt B tk uk Rk t u R p W fp σ := iF.aT (Rk := Rk) (R := R) ks.frame sp.frame h (fun q hq => hfrW.block q (hlo q hq).2 (fun h => h))
 go_loopw [8] (fun i wr => ∃ (k : Nat) (fpk : Nat → Prop), k ≤ cs.length ∧ i = .int .i64 k ∧ MapAt B tk uk Rk t u R p wr fpk (σ ++ cs.take k) ∧ Grow W fp fpk ∧ Fr fp W wr) (fun i _ => cs.length - (intOf i).toNat)
 case atStart => exact ⟨0, fp, Nat.zero_le _, rfl, by simpa using hW0, fun k hk => .inl hk, Fr.refl _ _⟩
 case round =>
  obtain ⟨k, fpk, hk, rfl, hat, hg, hfr⟩ := hrel
  have hfr0 : Fr fp w wr := (hfrW.mono (fun _ _ h => h.elim)).trans hfr (fun _ _ h => h)
  have hbr : Below B w wr := hfr0.below hBw (fun q hq h => by have := (hlo q h).1; omega)
  have hBr : B ≤ wr.heap.size := by have := hfr.size; omega
  by_cases hlt : k < cs.length
  · obtain ⟨b, off, cap', hv, hbB, vs, hvs, hcell⟩ := (hs'.below hbr).row (aC.below hbr _ _ hcs) hlt
    have hstep := Lib.hid (List.take_succ_eq_append_getElem hlt)
    have hwk : wts (σ ++ cs.take k ++ [cs[k]]) ≤ 2147483648 := by
     have := iT (σ ++ cs) (σ.length + (k + 1))
     rw [List.take_length_add_append, List.take_succ_eq_append_getElem hlt, ← List.append_assoc] at this
     omega
    generalize cs[k] = c at hvs hstep hwk
    have hvs' := hvs
    obtain ⟨ia, il, ic, ka, kl, kc, rfl, -⟩ := hvs.open
    simp only [Value.slice.injEq] at hv
    obtain ⟨rfl, -, rfl⟩ := hv
    have d0 := hcell 0 _ rfl
    have d1 := hcell 1 _ rfl
    have d2 := hcell 2 _ rfl
    have d3 := hcell 3 _ rfl
    have d4 := hcell 4 _ rfl
    have d5 := hcell 5 _ rfl
    have d6 := hcell 6 _ rfl
    have d7 := hcell 7 _ rfl
    simp only [Nat.add_zero] at d0
    have x0 := hfr.aA q0 (fun h => absurd (hlo _ h).2 (by show ¬ (w.heap.size < w.heap.size); omega))
    have x0a : ∀ o, (wr.alloc o).cell? ⟨w.heap.size, 0, none⟩ = some (.pointer (some ⟨p, 0, none⟩)) := fun o => (((Fr.refl (fun _ => False) wr).alloc o).aA x0 (fun h => h))
    have hlok : ∀ q, fpk q → B ≤ q ∧ q < wr.heap.size := iF.lt (Rk := Rk) (R := R) ks.lo sp.lo hat
    have happ := mW ks sp (wr.alloc (.cells #[.int .u64 c.r0, .int .u64 c.r1, .int .u64 c.r2, .int .u64 c.r3, .string c.s, .bool c.null, .slice ia il ic, .slice ka kl kc] 35)) p fpk (σ ++ cs.take k)
     (iF.aT (Rk := Rk) (R := R) ks.frame sp.frame hat (fun q hq => Below.heap_alloc _ _ _ (hlok q hq).2)) c _ (bP.below ((Below.refl B wr).alloc hBr _) _ _ hvs) hwk
    clear hcell hvs hcs hs' hW0
    go_wp2_with (go_at_call 258; refine happ.mono ?_; rintro e w1 ⟨rfl, hf1, fp', hat', hg'⟩)
    go_roundw
    case rel =>
     refine ⟨k + 1, fp', by omega, by go_num, ?_, ?_, ?_⟩
     · rw [hstep.out, ← List.append_assoc]; exact hat'
     · intro q hq
       have := hfr.size
       rcases hg' q hq with h | h
       · exact hg q h
       · simp at h; exact .inr (by omega)
     · exact (hfr.alloc _).trans hf1 (fun q hq h => (hg q h).resolve_right (by omega))
    case measure => simp [intOf]; omega
  · have hke : k = cs.length := by omega
    subst hke
    rw [List.take_length] at hat
    go_wp2
    go_end0
    exact ⟨rfl, hfr0, fpk, hat, fun q hq => (hg q hq).imp id (fun h => by omega)⟩
end
end Go.Proofs.YtcidlnjpabgioaaGreatDoor
namespace Go.Proofs.YtcidlnjpabgioaaGreatDoor
open Go.RowKit
section
variable {B : Nat} {tk : TypeId} {uk : Value} {Tk : Ty} {stk : List UInt8} {Rk Rkp : World → (Nat → Prop) → List Cell → Prop} {t : TypeId} {u : Value} {T : Ty} {st : List UInt8} {R Rp : World → (Nat → Prop) → List Cell → Prop}
theorem aDr {P : Program} {w : World} {t : TypeId} {i : TypeInfo} {fs : Array Field} {a : Addr} {u v x : Value} (hu : P.underlying t = some (.struct fs)) (hi : P.info? t = some i) (hs : i.size = 3) (h0 : w.cell? a = some u) (h1 : w.cell? (a.add 1) = some v) (h2 : w.cell? (a.add 2) = some x) : (loadVar t a).run P w = .ok (.agg #[u, v, x]) w := by
 have hg : (isAgg t).run P w = .ok true w := by simp [isAgg, run_underlying hu]
 have h0' : w.cell? (a.add 0) = some u := by cases a with | mk b o s => cases s <;> simpa [Addr.add] using h0
 unfold loadVar
 simp [Sem.run_bind, hg, sizeOf, typeInfo, hi, hs, loadCells, loadCellsFrom, h0', h1, h2]
theorem aHx {w : World} {a : Addr} {u v x : Value} (h0 : w.cell? a = some u) (h1 : w.cell? (a.add 1) = some v) (h2 : w.cell? (a.add 2) = some x) : (loadVar 144 a).run Tryz.prog w = .ok (.agg #[u, v, x]) w := by
 have h : (Tryz.prog.info? 144).map (·.size) = some 3 := by kernel_rfl
 obtain ⟨i, hi, hs⟩ := Option.map_eq_some_iff.1 h
 exact aDr Tryz.underlying144 hi hs h0 h1 h2
theorem aCC (ks : jI Tryz.prog B tk uk Tk stk Rk Rkp) (sp : bI Tryz.prog B t u T st R Rp) (w : World) (p n : Nat) (xs : List Value) (κ υ : List Cell) (fp : Nat → Prop) (x0 : Value) (h : iF B tk uk Rk t u R p n xs κ υ w fp) :
 Calls Tryz.prog 251 #[.agg #[x0, .iface tk uk, .iface t u]] w fun e w' => e = .returned .nilIface ∧ Fr fp w w' ∧ ∃ fp', iF B tk uk Rkp t u Rp p n xs κ υ w' fp' ∧ Grow w fp fp' := by
 have hlo := h.lt (Rk := Rk) (R := R) ks.lo sp.lo
 generalize hW : w.alloc (.cells #[x0, .iface tk uk, .iface t u] 144) = W
 have hfW : Fr (fun _ => False) w W := by subst hW; exact (Fr.refl _ w).alloc _
 have hsW : W.heap.size = w.heap.size + 1 := by subst hW; simp
 have q1 : W.cell? ⟨w.heap.size, 1, none⟩ = some (.iface tk uk) := by subst hW; rw [aB rfl]; rfl
 have q2 : W.cell? ⟨w.heap.size, 2, none⟩ = some (.iface t u) := by subst hW; rw [aB rfl]; rfl
 have hatW := h.aT (Rk := Rk) (R := R) (w' := W) ks.frame sp.frame (fun q hq => hfW.block q (hlo q hq).2 (fun h => h))
 have hloW := hatW.lt (Rk := Rk) (R := R) ks.lo sp.lo
 obtain ⟨fk, hRk, hfk, hkp, hturnK⟩ := hatW.aIF (R := R) sp.frame (fun q hq => (hloW q hq).2)
 obtain ⟨htaK, hprK⟩ := ks.prepare
 have htaK' := htaK 132
 have hprK := hprK hRk
 obtain ⟨q, hta, hpr⟩ := sp.prepare
 have hta' := hta 59
 have hN : ¬ fk w.heap.size := fun h => by have := (hlo _ (hfk _ h)).2; omega
 have body : ∀ w2 f2, Fr fk W w2 → Rkp w2 f2 κ → Grow W fk f2 → (∃ fv fp2, R w2 fv υ ∧ iF B tk uk Rkp t u R p n xs κ υ w2 fp2 ∧ Grow W fp fp2 ∧ Fr fp W w2 ∧
  ∀ w3 f3, Fr fv w2 w3 → Rp w3 f3 υ → Grow w2 fv f3 → Fr fp w w3 ∧ ∃ fp', iF B tk uk Rkp t u Rp p n xs κ υ w3 fp' ∧ Grow w fp fp') := by
  intro w2 f2 hf2 hR2 hg2
  obtain ⟨fp2, hat2, hgr2, hfr2⟩ := hturnK hf2 hR2 hg2
  have hlo2 := hat2.lt (Rk := Rkp) (R := R) ks.lo' sp.lo
  obtain ⟨fv, hRv, hfv, hvp, hturnV⟩ := hat2.aKr (Rk := Rkp) ks.frame' (fun q hq => (hlo2 q hq).2)
  have hs2 := hfr2.size
  refine ⟨fv, fp2, hRv, hat2, hgr2, hfr2, fun w3 f3 hf3 hR3 hg3 => ?_⟩
  obtain ⟨fp3, hat3, hgr3, hfr3⟩ := hturnV hf3 hR3 hg3
  refine ⟨((hfW.mono (fun _ _ h => h.elim)).trans hfr2 (fun _ _ h => h)).trans hfr3 (fun q hq h => (hgr2 q h).resolve_right (by omega)), fp3, hat3, fun q hq => ?_⟩
  rcases hgr3 q hq with h | h
  · rcases hgr2 q h with h | h
    · exact .inl h
    · exact .inr (by omega)
  · exact .inr (by omega)
 clear hturnK hatW h
 cases q with
 | false =>
  simp only [Bool.false_eq_true, if_false] at hpr hta'
  clear hta htaK
  go_enter Tryz.func251, Tryz.ntmps251
  go_wp2_with ((with_reducible show wpList _ _ _ (⟨some 17, _, _, _, _, _⟩ :: _) _ _); refine aY _ rfl _ _ _ _ rfl _ _ rfl hprK rfl ?_; rintro e w2 ⟨rfl, hf2, f2, hR2, hg2⟩; refine ⟨_, rfl, ?_⟩; have q2' := hf2.aA q2 hN)
  obtain ⟨fv, fp2, hRv, hat2, hgr2, hfr2, hend⟩ := body _ f2 hf2 hR2 hg2
  have hfin := hend w2 fv (Fr.refl _ _) (hpr hRv) (fun _ hk => .inl hk)
  go_ret
  exact ⟨rfl, hfin⟩
 | true =>
  simp only [if_true] at hpr hta'
  clear hta htaK
  go_enter Tryz.func251, Tryz.ntmps251
  go_wp2_with (first
   | ((with_reducible show wpList _ _ _ (⟨some 17, _, _, _, _, _⟩ :: _) _ _); refine aY _ rfl _ _ _ _ rfl _ _ rfl hprK rfl ?_; rintro e w2 ⟨rfl, hf2, f2, hR2, hg2⟩; refine ⟨_, rfl, ?_⟩; have q2' := hf2.aA q2 hN; have hbod := body _ f2 hf2 hR2 hg2; obtain ⟨fv, fp2, hRv, hat2, hgr2, hfr2, hend⟩ := hbod; have hi := hpr hRv)
   | ((with_reducible show wpList _ _ _ (⟨some 30, _, _, _, _, _⟩ :: _) _ _); refine aY _ rfl _ _ _ _ rfl _ _ rfl hi rfl ?_; rintro e w3 ⟨rfl, hf3, f3, hR3, hg3⟩; refine ⟨_, rfl, ?_⟩; have hfin := hend w3 f3 hf3 hR3 hg3))
  go_ret
  exact ⟨rfl, hfin⟩
theorem aGA (ks : jI Tryz.prog B tk uk Tk stk Rk Rkp) (sp : bI Tryz.prog B t u T st R Rp) (w : World) (p n : Nat) (xs : List Value) (κ υ : List Cell) (fp : Nat → Prop) (x0 : Value) (h : iF B tk uk Rkp t u Rp p n xs κ υ w fp) (b : Nat) (fb : Nat → Prop) (bs : List UInt8) (hb : Buf w b fb bs) (hd : ∀ k, fp k → ¬ fb k) (hl : bs.length + (stk ++ st).length ≤ 2147483648) :
 Calls Tryz.prog 250 #[.agg #[x0, .iface tk uk, .iface t u], .pointer (some ⟨b, 0, none⟩)] w fun e w' => e = .returned (.tuple #[]) ∧ Fr fb w w' ∧ ∃ fb', Buf w' b fb' (bs ++ (stk ++ st)) ∧ Grow w fb fb' := by
 have hlo := h.lt (Rk := Rkp) (R := Rp) ks.lo' sp.lo'
 rw [List.length_append] at hl
 generalize hW : w.alloc (.cells #[x0, .iface tk uk, .iface t u] 144) = W
 have hfW : Fr (fun _ => False) w W := by subst hW; exact (Fr.refl _ w).alloc _
 have hsW : W.heap.size = w.heap.size + 1 := by subst hW; simp
 have q1 : W.cell? ⟨w.heap.size, 1, none⟩ = some (.iface tk uk) := by subst hW; rw [aB rfl]; rfl
 have q2 : W.cell? ⟨w.heap.size, 2, none⟩ = some (.iface t u) := by subst hW; rw [aB rfl]; rfl
 have hblt := aF.lt hb
 have hbW : Buf W b fb bs := aF.aT hb fun q hq => hfW.block q (hblt q hq) (fun h => h)
 obtain ⟨v, fk, fv, hp, hown, hRk, hR, n1, n2, n3, n4, n5, hfp, hB⟩ := h
 have hkd : ∀ q, fk q → ¬ fb q ∧ q < w.heap.size := fun q hq => ⟨hd q ((hfp q).2 (.inr (.inr (.inl hq)))), (hlo q ((hfp q).2 (.inr (.inr (.inl hq))))).2⟩
 have hvd : ∀ q, fv q → ¬ fb q ∧ q < w.heap.size := fun q hq => ⟨hd q ((hfp q).2 (.inr (.inr (.inr hq)))), (hlo q ((hfp q).2 (.inr (.inr (.inr hq))))).2⟩
 have hRkW := ks.frame' (w' := W) hRk fun q hq => hfW.block q (hkd q hq).2 (fun h => h)
 have hRvW := sp.frame' (w' := W) hR fun q hq => hfW.block q (hvd q hq).2 (fun h => h)
 obtain ⟨htaK, hstK⟩ := ks.state
 have htaK' := htaK 132
 have hiK := hstK hRkW hbW (fun q hq => (hkd q hq).1) (by omega)
 obtain ⟨q, hta, hst⟩ := sp.state
 have hta' := hta 59
 have hN : ¬ fb w.heap.size := fun h => by have := hblt _ h; omega
 have hgrow : ∀ {fb2 : Nat → Prop}, Grow W fb fb2 → Grow w fb fb2 := fun hg q hq => (hg q hq).imp id (fun h => by omega)
 clear hfp hB n4 n5 hown hp htaK
 cases q with
 | false =>
  simp only [Bool.false_eq_true, if_false] at hst hta'
  subst hst
  clear hta
  go_enter Tryz.func250, Tryz.ntmps250
  go_wp2_with ((with_reducible show wpList _ _ _ (⟨some 17, _, _, _, _, _⟩ :: _) _ _); refine aY _ rfl _ _ _ _ rfl _ _ rfl hiK rfl ?_; rintro e w2 ⟨rfl, hf2, fb2, hb2, hg2⟩; refine ⟨_, rfl, ?_⟩; have q2' := hf2.aA q2 hN)
  go_end0
  exact ⟨rfl, (hfW.mono (fun _ _ h => h.elim)).trans hf2 (fun _ _ h => h), fb2, by simpa using hb2, hgrow hg2⟩
 | true =>
  simp only [if_true] at hst hta'
  clear hta
  go_enter Tryz.func250, Tryz.ntmps250
  go_wp2_with (first
   | ((with_reducible show wpList _ _ _ (⟨some 17, _, _, _, _, _⟩ :: _) _ _); refine aY _ rfl _ _ _ _ rfl _ _ rfl hiK rfl ?_; rintro e w2 ⟨rfl, hf2, fb2, hb2, hg2⟩; refine ⟨_, rfl, ?_⟩; have q2' := hf2.aA q2 hN; have hs2 := hf2.size; have hi := hst (sp.frame' (w' := w2) hRvW fun q hq => hf2.block q (by have := (hvd q hq).2; omega) (hvd q hq).1) hb2 (fun q hq h => (hg2 q h).elim (hvd q hq).1 (fun h => by have := (hvd q hq).2; omega)) (by rw [List.length_append]; omega))
   | ((with_reducible show wpList _ _ _ (⟨some 27, _, _, _, _, _⟩ :: _) _ _); refine aY _ rfl _ _ _ _ rfl _ _ rfl hi rfl ?_; rintro e w3 ⟨rfl, hf3, fb3, hb3, hg3⟩; refine ⟨_, rfl, ?_⟩))
  go_end0
  refine ⟨rfl, ((hfW.mono (fun _ _ h => h.elim)).trans hf2 (fun _ _ h => h)).trans hf3 (fun q hq h => (hg2 q h).resolve_right (by omega)), fb3, ?_, fun q hq => ?_⟩
  · rw [← List.append_assoc]
    exact hb3
  · rcases hg3 q hq with h | h
    · exact hgrow hg2 q h
    · exact .inr (by omega)
theorem aBV (w : World) (a : Option Addr) (n c : Nat) (x y : Value) (hx : ∃ t u, x = .iface t u) (hy : ∃ t u, y = .iface t u) : Calls Tryz.prog 254 #[.agg #[.slice a n c, x, y]] w fun e w' => e = .returned (.int .i64 n) ∧ Fr (fun _ => False) w w' := by
 obtain ⟨t, u, rfl⟩ := hx
 obtain ⟨t', u', rfl⟩ := hy
 go_enter Tryz.func254, Tryz.ntmps254
 go_wp2_with (go_at_call 173; refine (wF _ a n c).mono ?_; rintro e w1 ⟨rfl, hf1⟩)
 go_ret
 exact ⟨rfl, ((Fr.refl _ w).alloc _).trans hf1 (fun _ _ h => h)⟩
theorem aDa (ks : jI Tryz.prog B tk uk Tk stk Rk Rkp) (sp : bI Tryz.prog B t u T st R Rp) (w : World) (p : Nat) (fp : Nat → Prop) (σ : List Cell) (h : MapAt B tk uk Rkp t u Rp p w fp σ) (hw : wts σ ≤ 2147483648) (b : Nat) (fb : Nat → Prop) (bs : List UInt8) (hb : Buf w b fb bs) (hd : ∀ k, fp k → ¬ fb k) (hl : bs.length + (enc (.map Tk T) σ).length ≤ 1099511627776)
 (v : Value) (hv : w.cell? ⟨p, 0, none⟩ = some v) :
 Calls Tryz.prog 249 #[.agg #[v, .iface tk uk, .iface t u], .pointer (some ⟨b, 0, none⟩)] w fun e w' => e = .returned (.tuple #[]) ∧ Fr fb w w' ∧ ∃ fb', Buf w' b fb' (bs ++ enc (.map Tk T) σ) ∧ Grow w fb fb' := by
 have hlo : ∀ q, fp q → B ≤ q ∧ q < w.heap.size := iF.lt (Rk := Rkp) (R := Rp) ks.lo' sp.lo' h
 obtain ⟨v0, fk, fv, hp, hown, hRk, hR, n1, n2, n3, n4, n5, hfp, hB⟩ := h
 obtain rfl : v0 = v := by rw [cell_of_row _ _ _ _ _ _ hp] at hv; exact Option.some.inj hv
 obtain ⟨a1, c1, rfl⟩ := ownsRow_shape hown
 have hkd : ∀ q, fk q → ¬ fb q ∧ q < w.heap.size := fun q hq => ⟨hd q ((hfp q).2 (.inr (.inr (.inl hq)))), (hlo q ((hfp q).2 (.inr (.inr (.inl hq))))).2⟩
 have hvd : ∀ q, fv q → ¬ fb q ∧ q < w.heap.size := fun q hq => ⟨hd q ((hfp q).2 (.inr (.inr (.inr hq)))), (hlo q ((hfp q).2 (.inr (.inr (.inr hq))))).2⟩
 have hod : ∀ q, (Value.slice a1 σ.length c1).ownBlock = some q → ¬ fb q := fun q hq => hd q ((hfp q).2 (.inr (.inl hq)))
 have hblt := aF.lt hb
 generalize hW : w.alloc (.cells #[.slice a1 σ.length c1, .iface tk uk, .iface t u] 144) = W
 have hfW : Fr (fun _ => False) w W := by subst hW; exact (Fr.refl _ w).alloc _
 have hsW : W.heap.size = w.heap.size + 1 := by subst hW; simp
 have q0 : W.cell? ⟨w.heap.size, 0, none⟩ = some (.slice a1 σ.length c1) := by subst hW; rw [aB rfl]; rfl
 have q1 : W.cell? ⟨w.heap.size, 1, none⟩ = some (.iface tk uk) := by subst hW; rw [aB rfl]; rfl
 have q2 : W.cell? ⟨w.heap.size, 2, none⟩ = some (.iface t u) := by subst hW; rw [aB rfl]; rfl
 have hbW : Buf W b fb bs := aF.aT hb fun q hq => hfW.block q (hblt q hq) (fun h => h)
 have hrow := aBV W a1 σ.length c1 (.iface tk uk) (.iface t u) ⟨_, _, rfl⟩ ⟨_, _, rfl⟩
 have hN : ¬ fb w.heap.size := fun h => by have := hblt _ h; omega
 by_cases hσ : σ = []
 · subst hσ
   clear hfp hB n4 n5 hown hp hv hRk hR
   rw [uV, if_pos rfl]
   simp only [List.length_nil, Int.natCast_zero] at hrow hW q0 ⊢
   go_enter Tryz.func249, Tryz.ntmps249
   go_wp2_with (go_at_call 254; refine hrow.mono ?_; rintro e w1 ⟨rfl, hf1⟩)
   try simp only [Exit.inBlock, Exit.then]
   refine bodyPost_ret (results_none rfl _ _ _) rfl ?_
   have hf01 : Fr (fun _ => False) w w1 := hfW.trans hf1 (fun _ _ h => h)
   exact ⟨rfl, hf01.mono (fun _ _ h => h.elim), fb, by rw [List.append_nil]; exact Buf.col.2 (aF.aT hb fun q hq => hf01.block q (hblt q hq) (fun h => h)), fun q hq => .inl hq⟩
 · rw [uV, if_neg hσ, List.length_append, List.length_append, eF] at hl
   rw [uV, if_neg hσ]
   have hσl : σ.length ≠ 0 := fun h => hσ (List.eq_nil_of_length_eq_zero h)
   have hσz : ¬ (σ.length : Int) = 0 := by omega
   have hwl := aN σ
   have hwk := kK σ
   have hwv := kH σ
   have htl := nR σ
   have hkl := aN (σ.flatMap mapKeys)
   have hel := kG wI 0 σ
   have hol := eF wI 0 σ
   have henc : ∀ w1, Fr (fun _ => False) W w1 → _ := fun w1 hf1 => nT w1 b fb bs (aF.aT hbW fun q hq => hf1.block q (by have := hblt q hq; omega) (fun h => h)) a1 c1 (ends wI 0 σ) (by rw [hel]; exact (hfW.trans hf1 (fun _ _ h => h)).owns hown (fun _ _ h => h)) (by rw [hel]; exact hod) (fun c hc => by have := aBs wI 0 σ c hc; omega) (by rw [hel]; omega)
   rw [hel] at henc
   have hRkW := fun w1 (hf1 : Fr fb w w1) => ks.frame' (w' := w1) hRk fun q hq => hf1.block q (hkd q hq).2 (hkd q hq).1
   have hRvW := fun w1 (hf1 : Fr fb w w1) => sp.frame' (w' := w1) hR fun q hq => hf1.block q (hvd q hq).2 (hvd q hq).1
   generalize (ends wI 0 σ).flatMap (aJ 8) = OB at henc hol ⊢
   generalize σ.flatMap mapKeys = κ at hRkW hwk hl ⊢
   generalize σ.flatMap iJ = υ at hRvW hwv hl ⊢
   have hencH := Lib.hid @henc
   clear hfp hB n4 n5 hown hp hv hRk hR htl hkl hel henc
   go_enter Tryz.func249, Tryz.ntmps249
   go_wp2_with (first
    | (go_at_call 254; refine hrow.mono ?_; rintro e w1 ⟨rfl, hf1⟩; have r0 := hf1.aA q0 (fun h => h); have r1 := hf1.aA q1 (fun h => h); have r2 := hf1.aA q2 (fun h => h); have hs1 := hf1.size)
    | (go_at_call 170; refine (hencH.out w1 hf1).mono ?_; rintro e w2 ⟨rfl, hf2, fb2, hb2, hg2⟩; have s1 := hf2.aA r1 hN; have s2 := hf2.aA r2 hN; have hs2 := hf2.size; have hf02 : Fr fb w w2 := ((hfW.trans hf1 (fun _ _ h => h)).mono (fun _ _ h => h.elim)).trans hf2 (fun _ _ h => h); have hN2 : ¬ fb2 w.heap.size := fun h => (hg2 _ h).elim hN (fun h => by omega); have hiK := ks.encode (hRkW w2 hf02) (show wts _ ≤ _ by omega) hb2 (fun q hq h => (hg2 q h).elim (hkd q hq).1 (fun h => by have := (hkd q hq).2; omega)) (by rw [List.length_append]; omega))
    | ((with_reducible show wpList _ _ _ (⟨some 14, _, _, _, _, _⟩ :: _) _ _); refine aY _ rfl _ _ _ _ rfl _ _ rfl hiK rfl ?_; rintro e w3 ⟨rfl, hf3, fb3, hb3, hg3⟩; refine ⟨_, rfl, ?_⟩; have t2 := hf3.aA s2 hN2; have hs3 := hf3.size; have hf03 : Fr fb w w3 := hf02.trans hf3 (fun q hq h => (hg2 q h).resolve_right (by omega)); have hiV := sp.encode (hRvW w3 hf03) (show wts _ ≤ _ by omega) hb3 (fun q hq h => (hg3 q h).elim (fun h => (hg2 q h).elim (hvd q hq).1 (fun h => by have := (hvd q hq).2; omega)) (fun h => by have := (hvd q hq).2; omega)) (by rw [List.length_append, List.length_append]; omega))
    | ((with_reducible show wpList _ _ _ (⟨some 18, _, _, _, _, _⟩ :: _) _ _); refine aY _ rfl _ _ _ _ rfl _ _ rfl hiV rfl ?_; rintro e w4 ⟨rfl, hf4, fb4, hb4, hg4⟩; refine ⟨_, rfl, ?_⟩))
   go_end0
   refine ⟨rfl, hf03.trans hf4 (fun q hq h => (hg3 q h).elim (fun h => (hg2 q h).resolve_right (by omega)) (fun h => by omega)), fb4, by simpa [List.append_assoc] using hb4, fun q hq => ?_⟩
   rcases hg4 q hq with h | h
   · rcases hg3 q h with h | h
     · rcases hg2 q h with h | h
       · exact .inl h
       · exact .inr (by omega)
     · exact .inr (by omega)
   · exact .inr (by omega)
end
theorem oK (p : Nat) (w : World) (name : String) (f : FuncId) (h : (name, f) = ("Append", 258) ∨ (name, f) = ("AppendArr", 259)) :
 (method (Tryz.prog.types.size + Made.depth) 92 (.agg #[.pointer (some ⟨p, 0, none⟩)]) name).run Tryz.prog w = .ok (f, .agg #[.pointer (some ⟨p, 0, none⟩)]) w := by
 rcases h with h | h <;> (simp only [Prod.mk.injEq] at h; obtain ⟨rfl, rfl⟩ := h; kernel_rfl)
theorem jJ (p : Nat) (w : World) (u v x : Value) (h0 : w.cell? ⟨p, 0, none⟩ = some u) (h1 : w.cell? ⟨p, 1, none⟩ = some v) (h2 : w.cell? ⟨p, 2, none⟩ = some x) (name : String) (f : FuncId)
 (h : (name, f) = ("Rows", 254) ∨ (name, f) = ("EncodeColumn", 249) ∨ (name, f) = ("Prepare", 251) ∨ (name, f) = ("EncodeState", 250)) :
 (method (Tryz.prog.types.size + Made.depth) 92 (.agg #[.pointer (some ⟨p, 0, none⟩)]) name).run Tryz.prog w = .ok (f, .agg #[u, v, x]) w := by
 obtain ⟨n, hn⟩ := fuel
 rw [hn]
 have hr := jF (P := Tryz.prog) Tryz.underlying89 (aHx h0 (by simpa [Addr.add] using h1) (by simpa [Addr.add] using h2))
 rcases h with h | h | h | h <;> (simp only [Prod.mk.injEq] at h; obtain ⟨rfl, rfl⟩ := h; exact iC (n := n + 1) false Tryz.underlying92 rfl rfl (fun _ => by kernel_rfl) (by kernel_rfl) rfl hr)
theorem aBF {B : Nat} {tk : TypeId} {uk : Value} {Tk : Ty} {stk : List UInt8} {Rk Rkp : World → (Nat → Prop) → List Cell → Prop} {t : TypeId} {u : Value} {T : Ty} {st : List UInt8} {R Rp : World → (Nat → Prop) → List Cell → Prop} (ks : jI Tryz.prog B tk uk Tk stk Rk Rkp) (sp : bI Tryz.prog B t u T st R Rp) (p : Nat) :
 bI Tryz.prog B 92 (.agg #[.pointer (some ⟨p, 0, none⟩)]) (.map Tk T) (stk ++ st) (MapAt B tk uk Rk t u R p) (MapAt B tk uk Rkp t u Rp p) where
 lo := fun h => iF.lt (Rk := Rk) (R := R) ks.lo sp.lo h
 lo' := fun h => iF.lt (Rk := Rkp) (R := Rp) ks.lo' sp.lo' h
 frame := fun h hk => iF.aT (Rk := Rk) (R := R) ks.frame sp.frame h hk
 frame' := fun h hk => iF.aT (Rk := Rkp) (R := Rp) ks.frame' sp.frame' h hk
 append := fun {w fp σ c vs} h hvs hw => aI.of1 (oK p w _ _ (.inl rfl)) Tryz.call258 (mW ks sp w p fp σ h c vs hvs hw)
 appendArr := fun {w fp σ cs v xs} h hs hcs hw => aI.of1 (oK p w _ _ (.inr rfl)) Tryz.call259 (sH ks sp w p fp σ h cs v xs hs hcs hw)
 rows := by
  intro w fp σ h
  obtain ⟨v, fk, fv, hp, hown, _⟩ := h
  obtain ⟨a, c, rfl⟩ := ownsRow_shape hown
  exact aI.of0 (jJ p w _ _ _ (by rw [cell_of_row _ _ _ _ _ _ hp]; rfl) (by rw [cell_of_row _ _ _ _ _ _ hp]; rfl) (by rw [cell_of_row _ _ _ _ _ _ hp]; rfl) _ _ (.inl rfl)) Tryz.call254 (aBV w a _ c _ _ ⟨_, _, rfl⟩ ⟨_, _, rfl⟩)
 flat := by rintro w name (rfl | rfl | rfl) n m <;> exact jQ (by kernel_rfl) (n + 1) (m + 1)
 ahead := fun w => by kernel_rfl
 prepare := ⟨true, fun x w => run_typeAssert_hasB Tryz.underlying102 (by kernel_rfl) _ x w, fun {w fp σ} h => by
  simp only [if_true]
  have h' := h
  obtain ⟨v, fk, fv, hp, _⟩ := h'
  exact aI.of0 (jJ p w _ _ _ (by rw [cell_of_row _ _ _ _ _ _ hp]; rfl) (by rw [cell_of_row _ _ _ _ _ _ hp]; rfl) (by rw [cell_of_row _ _ _ _ _ _ hp]; rfl) _ _ (.inr (.inr (.inl rfl)))) Tryz.call251 (aCC ks sp w p _ _ _ _ fp v h)⟩
 state := ⟨true, fun x w => run_typeAssert_hasB Tryz.underlying172 (by kernel_rfl) _ x w, by
  simp only [if_true]
  intro w fp σ b fb bs h hb hd hl
  have h' := h
  obtain ⟨v, fk, fv, hp, _⟩ := h'
  exact aI.of1 (jJ p w _ _ _ (by rw [cell_of_row _ _ _ _ _ _ hp]; rfl) (by rw [cell_of_row _ _ _ _ _ _ hp]; rfl) (by rw [cell_of_row _ _ _ _ _ _ hp]; rfl) _ _ (.inr (.inr (.inr rfl)))) Tryz.call250 (aGA ks sp w p _ _ _ _ fp v h b fb bs hb hd hl)⟩
 encode := by
  intro w fp σ b fb bs h hw hb hd hl
  have h' := h
  obtain ⟨v, fk, fv, hp, _⟩ := h'
  exact aI.of1 (jJ p w _ _ _ (by rw [cell_of_row _ _ _ _ _ _ hp]; rfl) (by rw [cell_of_row _ _ _ _ _ _ hp]; rfl) (by rw [cell_of_row _ _ _ _ _ _ hp]; rfl) _ _ (.inr (.inl rfl))) Tryz.call249 (aDa ks sp w p fp σ h hw b fb bs hb hd hl v (by rw [cell_of_row _ _ _ _ _ _ hp]; rfl))
end Go.Proofs.YtcidlnjpabgioaaGreatDoor
namespace Go.Proofs.YtcidlnjpabgioaaGreatDoor
open Go.RowKit
theorem aEg (tk : TypeId) (uk : Value) (t : TypeId) (u : Value) (w : World) : Calls Tryz.prog 35 #[.iface tk uk, .iface t u] w fun e w' => e = .returned (.pointer (some ⟨w.heap.size, 0, none⟩)) ∧ w' = w.alloc (.cells #[.slice none 0 0, .iface tk uk, .iface t u] 144) := by
 go_enter Tryz.func35, Tryz.ntmps35
 go_wp2
 go_ret
 exact ⟨rfl, rfl⟩
theorem aII (a b : Ty) (hka : fV a) (hkb : fV b) (hsa : iW (text a)) (hsb : iW (text b)) (hn : (text a).length + (text b).length ≤ 900000) : fV (.map a b) := by
 intro w htab
 obtain ⟨ts, hts⟩ : ∃ ts, Hid (ts = [a, b]) := ⟨_, Lib.hid rfl⟩
 obtain ⟨LS, hLS⟩ : ∃ LS, Hid (LS = ts.map text) := ⟨_, Lib.hid rfl⟩
 have hLn : Hid (LS.length = ts.length) := Lib.hid (by rw [hLS.out, List.length_map])
 have hLb : LS.length ≤ 1000 := by rw [hLn.out, hts.out]; simp
 have hkids : ∀ x ∈ ts, fV x := fun x hx => by
  rw [hts.out] at hx
  simp only [List.mem_cons, List.not_mem_nil, or_false] at hx
  rcases hx with rfl | rfl
  · exact hka
  · exact hkb
 have hpa : Calls Tryz.prog 31 #[.string (aV (text (.map a b)))] w (lJ [77, 97, 112] LS w) := by
  rw [text]
  refine iP w htab [77, 97, 112] (text a ++ [44, 32] ++ text b) LS (by unfold fM; decide) (by simp; omega) (fun c hc => ?_) (by rw [hLS.out, hts.out]; exact aGQ hsa hsb)
  simp only [List.mem_append, List.mem_cons, List.not_mem_nil, or_false] at hc
  rcases hc with (hc | (rfl | rfl)) | hc
  · exact hsa.ascii c hc
  · decide
  · decide
  · exact hsb.ascii c hc
 generalize aV (text (.map a b)) = txt at hpa
 go_enter Tryz.func23, Tryz.ntmps23
 go_wp2_with (go_at_call 31; refine hpa.mono ?_; rintro e w1 ⟨nm, v, rfl, hl, ⟨hown, hsince⟩, hb⟩; obtain ⟨av, cv, rfl⟩ := ownsRow_shape hown)
 go_loopw [5, 21] (fun l i wr => ∃ (k : Nat) (ks : List Kid), k ≤ LS.length ∧ i = .int .i64 k ∧ wr.ownsRow 0 59 1 l k (ks.map Kid.v) ∧ (∀ q, l.ownBlock = some q → w1.heap.size ≤ q) ∧ Apart l ks ∧ Kids w1.heap.size wr ks ∧ ks.map Kid.T = ts.take k ∧ Below w1.heap.size w1 wr) (fun _ i _ => LS.length - (intOf i).toNat)
 case atStart => exact ⟨0, [], Nat.zero_le _, rfl, World.ownsRow_nil _ _ _ _, by simp [Value.ownBlock], by simp [Apart], Kids.nil _ _, rfl, Below.refl _ _⟩
 case round =>
  obtain ⟨k, ks, hk, rfl, hownl, hsl, hal, hks, hkt, hbr⟩ := hrel
  obtain ⟨la, lc, rfl⟩ := ownsRow_shape hownl
  have hw1 := hbr.size
  by_cases hlt : k < LS.length
  · have hkl : k < ts.length := by rw [← hLn.out]; exact hlt
    have hstep := Lib.hid (List.take_succ_eq_append_getElem hkl)
    have hmem : ts[k] ∈ ts := List.getElem_mem _
    have hLk : LS[k]? = some (text ts[k]) := by rw [hLS.out, List.getElem?_map, List.getElem?_eq_getElem hkl]; rfl
    generalize ts[k] = tk at hstep hmem hLk
    have hownr := (Below.fr hbr).owns hown (fun _ _ h => h)
    rcases hownr.2 with ⟨hv, h0⟩ | ⟨ga, capa, cura, hv, _, _, hnc, hcm, _⟩
    · omega
    · simp only [Value.slice.injEq] at hv
      obtain ⟨rfl, _, rfl⟩ := hv
      have hcell := hownr.cells (g := ga) rfl k (.string (aV (text tk))) (by rw [List.getElem?_map, hLk]; rfl)
      rw [Addr.add_lit, Nat.zero_add] at hcell
      have hcall := hkids tk hmem wr ((htab.below hb).below hbr)
      have hll := fun q (h : (Value.slice la k lc).ownBlock = some q) => aK hownl h
      have hkt2 := Lib.hid hkt
      unfold maxLen at hcm
      clear hmem hLk hownr hkt hsince hown
      go_wp2_with (first
       | (go_at_call 23; refine hcall.mono ?_; rintro e w2 ⟨t, u, R, Rp, fp, rfl, cs, hR, hb2⟩; have hown2 := (Below.fr hb2).owns hownl (fun _ _ h => h))
       | ((with_reducible show wpList _ _ _ (⟨some 32, _, _, _, _, _⟩ :: _) _ _); refine aP _ rfl qN _ _ rfl _ _ _ rfl (hown2.alloc _) _ _ _ rfl (Src.ofSlice _ Tryz.underlying72 _ _ _ _ rfl (aW _ [.iface t u] _) (by simp [Value.oneCell'])) ?_ ?_ ?_; (unfold maxLen; omega); omega; intro v' w3 ha; obtain ⟨a', c', rfl⟩ := ha.shape))
      go_roundw
      case rel =>
       have hmore := Kids.more hks hw1 hb2 (k := ⟨t, u, tk, R, Rp, fp⟩) cs hR hll hal ha
       refine ⟨k + 1, ks ++ [⟨t, u, tk, R, Rp, fp⟩], by omega, by go_num, ?_, ?_, hmore.2, hmore.1, ?_, ?_⟩
       · rw [List.map_append]
         exact ha.1
       · intro q hq
         rcases ha.2.2 with e | e
         · exact hsl q (e.symm.trans hq)
         · rw [e] at hq
           simp only [Option.some.injEq] at hq
           have := hb2.size
           simp at hq
           omega
       · rw [List.map_append, hkt2.out, hstep.out]
         rfl
       · exact hbr.trans ((((Below.fr hb2).alloc _).mono (S' := fun q => w1.heap.size ≤ q) (fun _ _ h => h.elim)).grown ha.2.1 (fun q hq => .inl (hsl q hq)) |>.below hw1 (fun q hq h => by omega))
      case measure => simp [intOf]; omega
  · have hkl : k = ts.length := by rw [← hLn.out]; omega
    subst hkl
    rw [List.take_length] at hkt
    have hlen : ks.length = ts.length := by rw [← List.length_map (f := Kid.T), hkt]
    clear hkids hsince hown
    have hne : ts.length = 2 := by rw [hts.out]; rfl
    rcases hownl.2 with ⟨hv, h0⟩ | ⟨ga, capa, cura, hv, _, _, hnc, hcm, _⟩
    · omega
    · simp only [Value.slice.injEq] at hv
      obtain ⟨rfl, _, rfl⟩ := hv
      obtain ⟨k1, k2, rfl⟩ : ∃ k1 k2, ks = [k1, k2] := by
       have h2 := hlen.trans hne
       match ks, h2 with
       | [x, y], _ => exact ⟨x, y, rfl⟩
      have c0 := hownl.cells (g := ga) rfl 0 (.iface k1.t k1.u) rfl
      have c1 := hownl.cells (g := ga) rfl 1 (.iface k2.t k2.u) rfl
      simp only [Addr.add_lit, Nat.zero_add, Nat.add_zero] at c0 c1
      have hTs : k1.T = a ∧ k2.T = b := by rw [hts.out] at hkt; simpa using hkt
      obtain ⟨hcs1, hR1⟩ := hks.1 k1 (by simp)
      obtain ⟨hcs2, hR2⟩ := hks.1 k2 (by simp)
      have hap : ∀ q, k1.fp q → ¬ k2.fp q := (List.pairwise_cons.1 hks.2).1 k2 (by simp)
      have hlo1 := fun q hq => hcs1.lo hR1 q hq
      have hlo2 := fun q hq => hcs2.lo hR2 q hq
      obtain ⟨t1, u1, T1, R1, Rp1, f1⟩ := k1
      obtain ⟨t2, u2, T2, R2, Rp2, f2⟩ := k2
      simp only at hTs hcs1 hcs2 hR1 hR2 hlo1 hlo2 hap c0 c1
      obtain ⟨rfl, rfl⟩ := hTs
      have hne2 := Lib.hid hne
      rw [hne] at hnc
      unfold maxLen at hcm
      have hone : (ts.length : Int) = 2 := by rw [hne]; rfl
      clear hkt hlen hownl hks hal hsl
      go_wp2_with fail
      go_region_law (go_simp; go_at_call 35; refine (aEg 86 (.agg #[.iface t1 u1]) t2 u2 _).mono ?_; rintro e w2 ⟨rfl, rfl⟩)
      all_goals
       go_wp2
       go_ret
       have hs1 := hb.size
       have hsp := aBF (aAs (hcs1.low hs1)) (hcs2.low hs1) wr.heap.size
       refine ⟨_, _, MapAt w.heap.size 86 (.agg #[.iface t1 u1]) R1 t2 u2 R2 wr.heap.size, MapAt w.heap.size 86 (.agg #[.iface t1 u1]) Rp1 t2 u2 Rp2 wr.heap.size, fun q => q = wr.heap.size ∨ f1 q ∨ f2 q, rfl, by rw [st]; exact hsp, ?_, ?_⟩
       · have hblk : ∀ q, q < wr.heap.size → (wr.drew.alloc (.cells #[.slice none 0 0, .iface 86 (.agg #[.iface t1 u1]), .iface t2 u2] 144)).heap[q]? = wr.heap[q]? := fun q hq => Below.heap_alloc wr.drew _ _ hq
         unfold MapAt iF
         refine ⟨.slice none 0 0, f1, f2, heap_alloc_new wr.drew _, World.ownsRow_nil _ _ _ _, hcs1.frame hR1 fun q hq => hblk q (hlo1 q hq).2, hcs2.frame hR2 fun q hq => hblk q (hlo2 q hq).2, by simp [Value.ownBlock], fun h => by have := (hlo1 _ h).2; omega, fun h => by have := (hlo2 _ h).2; omega, by simp [Value.ownBlock], hap, fun q => by simp [Value.ownBlock], ?_⟩
         rintro q (rfl | hq | hq)
         · omega
         · have := (hlo1 q hq).1; omega
         · have := (hlo2 q hq).1; omega
       · exact ((hb.trans (hbr.mono hs1)).drew).alloc (by show w.heap.size ≤ wr.heap.size; omega) _
end Go.Proofs.YtcidlnjpabgioaaGreatDoor
