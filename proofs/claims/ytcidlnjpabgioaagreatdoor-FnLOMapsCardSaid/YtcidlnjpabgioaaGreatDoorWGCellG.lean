import Derived.Test.YtcidlnjpabgioaaGreatDoorWGByte
import Derived.Test.YtcidlnjpabgioaaGreatDoorWTyp
import Derived.Test.YtcidlnjpabgioaaGreatDoorWGCell
set_option maxHeartbeats 8000000
set_option maxRecDepth 100000
namespace Go.Proofs.YtcidlnjpabgioaaGreatDoor
open Go.RowKit
theorem iD : ElT Tryz.prog 31 35 (.agg #[.int .u64 0, .int .u64 0, .int .u64 0, .int .u64 0, .string ⟨#[]⟩, .bool false, .slice none 0 0, .slice none 0 0]) 8 104 := ⟨Tryz.underlying31, info_parts (by kernel_rfl), rfl⟩
structure aIC (d : Nat) (T : Ty) (c : Cell) (xs : List Value) : Prop where
 wt : c.wt ≤ 20 * 5 ^ d
 tup : ∀ ts, T = .tup ts → c.items.length = ts.length
 map : ∀ k v, T = .map k v → c.keys.length = c.items.length
 arr : ∀ t, T = .arr t → c.items = [] → xs[6]? = some (.slice none 0 0)
def lS (d : Nat) (T : Ty) : Prop := ∀ (B : Nat) (w : World) (p : Nat) (vs : List Value) (S : Nat → Prop), bM B w p → p < w.heap.size → LTS S w T.lt vs → (∀ q, S q → q ≠ p ∧ q < w.heap.size) →
 Calls Tryz.prog 9 #[.pointer (some ⟨p, 0, none⟩), .agg vs.toArray] w fun e w' => ∃ (c : Cell) (xs : List Value), e = .returned (.agg xs.toArray) ∧ bK (New w w') w' c xs ∧ aIC d T c xs ∧ bM B w' p ∧ Fr (fun q => q = p) w w'
theorem nH {S : Nat → Prop} {w : World} {T t : Ty} {vs : List Value} {i : Nat} (h : LTS S w T.lt vs) (hi : T.kids[i]? = some t) : ∃ (q o c : Nat) (oa : Option Addr) (oc : Nat), vs = [.string (aV T.nm), .int .i64 T.sz, .slice (some ⟨q, o, none⟩) T.kids.length c] ∧ T.kids.length ≤ c ∧ c ≤ maxLen ∧ S q ∧
 LTS S w t.lt [.string (aV t.nm), .int .i64 t.sz, .slice oa t.kids.length oc] ∧ w.cell? ⟨q, o + i * 3, none⟩ = some (.string (aV t.nm)) ∧ w.cell? ⟨q, o + i * 3 + 1, none⟩ = some (.int .i64 t.sz) ∧ w.cell? ⟨q, o + i * 3 + 2, none⟩ = some (.slice oa t.kids.length oc) := by
 obtain ⟨ov, ixs, rfl, h1, _, h3⟩ := h.ty
 obtain ⟨hl, a, c, rfl, hnc, hcm, h0, ha⟩ := h1
 have hil : i < T.kids.length := by
  rcases Nat.lt_or_ge i T.kids.length with h | h
  · exact h
  · rw [List.getElem?_eq_none h] at hi; cases hi
 cases a with
 | none => have := h0 rfl; omega
 | some ad =>
  obtain ⟨q, o, sp⟩ := ad
  obtain ⟨hS, hsp, hcells⟩ := ha _ rfl
  simp only at hS hsp
  subst hsp
  have ht := h3.at i t.lt (by rw [List.getElem?_map, hi]; rfl)
  obtain ⟨oa, oc, hv⟩ := ht.three
  rw [hv] at ht
  have hg : ∀ j, j < 3 → ixs[i * 3 + j]? = [Value.string (aV t.nm), .int .i64 t.sz, .slice oa t.kids.length oc][j]? := fun j hj => by
   rw [← hv, List.getElem?_take, if_pos hj, List.getElem?_drop]
  refine ⟨q, o, c, oa, oc, rfl, hnc, hcm, hS, ht, ?_, ?_, ?_⟩
  · have := hcells (i * 3 + 0) _ (hg 0 (by omega))
    rw [Addr.add_lit] at this
    exact this
  · have := hcells (i * 3 + 1) _ (hg 1 (by omega))
    rw [Addr.add_lit, ← Nat.add_assoc] at this
    exact this
  · have := hcells (i * 3 + 2) _ (hg 2 (by omega))
    rw [Addr.add_lit, ← Nat.add_assoc] at this
    exact this
structure dJ (lo : Nat) (w : World) (iv kv : Value) (is ks : List Cell) (ixs kxs : List Value) (S : Nat → Prop) : Prop where
 oi : w.ownsRow 0 35 8 iv is.length ixs
 ok : w.ownsRow 0 35 8 kv ks.length kxs
 ci : aO S w is ixs
 ck : aO S w ks kxs
 hS : ∀ q, S q → lo ≤ q ∧ q < w.heap.size ∧ iv.ownBlock ≠ some q ∧ kv.ownBlock ≠ some q
 li : ∀ q, iv.ownBlock = some q → lo ≤ q
 lk : ∀ q, kv.ownBlock = some q → lo ≤ q
 ne : ∀ q, iv.ownBlock = some q → kv.ownBlock ≠ some q
theorem dJ.nil (lo : Nat) (w : World) : dJ lo w (.slice none 0 0) (.slice none 0 0) [] [] [] [] (fun _ => False) :=
 ⟨World.ownsRow_nil _ _ _ _, World.ownsRow_nil _ _ _ _, aO.nil, aO.nil, fun _ h => h.elim, by simp [Value.ownBlock], by simp [Value.ownBlock], by simp [Value.ownBlock]⟩
theorem dJ.fr {lo : Nat} {w w' : World} {iv kv : Value} {is ks : List Cell} {ixs kxs : List Value} {S F : Nat → Prop} (h : dJ lo w iv kv is ks ixs kxs S) (hf : Fr F w w') (hF : ∀ q, lo ≤ q → ¬ F q) : dJ lo w' iv kv is ks ixs kxs S :=
 ⟨hf.owns h.oi fun q hq => hF q (h.li q hq), hf.owns h.ok fun q hq => hF q (h.lk q hq), aO.to hf (fun q hq => ⟨hq, hF q (h.hS q hq).1⟩) _ _ h.ci, aO.to hf (fun q hq => ⟨hq, hF q (h.hS q hq).1⟩) _ _ h.ck,
  fun q hq => let ⟨a, b, c⟩ := h.hS q hq; ⟨a, Nat.lt_of_lt_of_le b hf.size, c⟩, h.li, h.lk, h.ne⟩
theorem dJ.push {lo : Nat} {w w1 : World} {iv iv' kv : Value} {is ks : List Cell} {ixs kxs xs : List Value} {S S' : Nat → Prop} {c : Cell} (hlo : lo ≤ w.heap.size) (h : dJ lo w iv kv is ks ixs kxs S) (hc : bK S' w c xs)
 (hS' : ∀ q, S' q → lo ≤ q ∧ q < w.heap.size ∧ iv.ownBlock ≠ some q ∧ kv.ownBlock ≠ some q) (ha : dA w w1 35 8 iv iv' (is.length + 1) (ixs ++ xs)) :
 dJ lo w1 iv' kv (is ++ [c]) ks (ixs ++ xs) kxs (fun q => S q ∨ S' q) ∧ Fr (fun q => lo ≤ q) w w1 := by
 have hg := Fr.iU ha.2.1
 have hs := hg.size
 have hiv : ∀ q, iv'.ownBlock = some q → iv.ownBlock = some q ∨ q = w.heap.size := fun q hq => by
  rcases ha.2.2 with e | e
  · exact .inl (e ▸ hq)
  · rw [e] at hq
    simp only [Option.some.injEq] at hq
    exact .inr hq.symm
 have hne : ∀ q, S q ∨ S' q → lo ≤ q ∧ q < w.heap.size ∧ iv.ownBlock ≠ some q ∧ kv.ownBlock ≠ some q := fun q hq => hq.elim (h.hS q) (hS' q)
 refine ⟨⟨by rw [List.length_append]; exact ha.1, hg.owns h.ok fun q hq => fun e => h.ne q e hq, aO.append (aO.to hg (fun q hq => ⟨.inl hq, (h.hS q hq).2.2.1⟩) _ _ h.ci) (aO.one (bK.to hg (fun q hq => ⟨.inr hq, (hS' q hq).2.2.1⟩) _ _ hc)), aO.to hg (fun q hq => ⟨.inl hq, (h.hS q hq).2.2.1⟩) _ _ h.ck, fun q hq => ?_, fun q hq => ?_, h.lk, fun q hq e => ?_⟩, hg.mono fun q _ e => h.li q e⟩
 · obtain ⟨h1, h2, h3, h4⟩ := hne q hq
   refine ⟨h1, by omega, fun e => ?_, h4⟩
   rcases hiv q e with e | e
   · exact h3 e
   · omega
 · rcases hiv q hq with e | e
   · exact h.li q e
   · omega
 · rcases hiv q hq with e' | e'
   · exact h.ne q e' e
   · have := aK h.ok e; omega
theorem rH {B : Nat} {w w3 : World} {p : Nat} (hcode : bM B w3 p) (hpw : p < w.heap.size) (hfr : Fr (fun q => q = p) w w3) {c : Cell} {xs : List Value} (hc : bK (fun q => w.heap.size + 1 < q ∧ q < w3.heap.size) w3 c xs) (x0 x1 x2 x3 x4 x5 x6 x7 : Value) :
 let w5 := (((((((w3.setCell ⟨w.heap.size + 1, 0, none⟩ x0).setCell ⟨w.heap.size + 1, 1, none⟩ x1).setCell ⟨w.heap.size + 1, 2, none⟩ x2).setCell ⟨w.heap.size + 1, 3, none⟩ x3).setCell ⟨w.heap.size + 1, 4, none⟩ x4).setCell ⟨w.heap.size + 1, 5, none⟩ x5).setCell ⟨w.heap.size + 1, 6, none⟩ x6).setCell ⟨w.heap.size + 1, 7, none⟩ x7
 bK (New w w5) w5 c xs ∧ bM B w5 p ∧ Fr (fun q => q = p) w w5 := by
 have h1 := aAu (w := w) (wr := w3) (fun q => q = w.heap.size + 1) rfl x0 x1 x2 x3 x4 x5 x6 x7
 have hB := hcode.1
 refine ⟨bK.to h1 (fun q hq => ⟨⟨by have := hq.1; omega, Nat.lt_of_lt_of_le hq.2 h1.size⟩, ?_⟩) _ _ hc, hcode.fr h1 (by show ¬ p = w.heap.size + 1; omega) (fun q hq => by show ¬ q = w.heap.size + 1; omega), hfr.trans h1 (fun q hq h => ?_)⟩
 · have := hq.1
   show ¬ q = w.heap.size + 1
   omega
 · have : q = w.heap.size + 1 := h
   omega
end Go.Proofs.YtcidlnjpabgioaaGreatDoor
namespace Go.Proofs.YtcidlnjpabgioaaGreatDoor
open Go.RowKit
theorem nG (T : Ty) (hT : T.dS) : jY T := by
 cases T with
 | num k => exact aIa k
 | str => exact aJp
 | fix n => exact aHL n (by have : n = 5 ∨ n = 16 := hT; omega)
 | _ => exact hT.elim
structure jM (c : Cell) : Prop where
 items : c.items = []
 keys : c.keys = []
 w0 : c.r0 < 18446744073709551616
 w1 : c.r1 < 18446744073709551616
 w2 : c.r2 < 18446744073709551616
 w3 : c.r3 < 18446744073709551616
 s : c.s.size ≤ 16
theorem aJy (n : Nat) : 256 ^ min 8 n ≤ 18446744073709551616 := Nat.le_trans (Nat.pow_le_pow_right (by decide) (Nat.min_le_left 8 n)) (by decide)
theorem wS {T : Ty} (hT : T.dS) {c : Cell} (h : Flat T c) : jM c := by
 cases T with
 | num k =>
  obtain ⟨h1, _, h3, h4, h5, h6, h7, h8⟩ := h
  have p := fun n => aJy n
  exact ⟨h3, h4, Nat.lt_of_lt_of_le h5 (p _), Nat.lt_of_lt_of_le h6 (p _), Nat.lt_of_lt_of_le h7 (p _), Nat.lt_of_lt_of_le h8 (p _), by rw [h1]; decide⟩
 | str =>
  obtain ⟨h1, _, h3, h4, h5, h6, h7, h8⟩ := h
  exact ⟨h3, h4, by omega, by omega, by omega, by omega, by omega⟩
 | fix n =>
  obtain ⟨h1, _, h3, h4, h5, h6, h7, h8⟩ := h
  have : n = 5 ∨ n = 16 := hT
  exact ⟨h3, h4, by omega, by omega, by omega, by omega, by omega⟩
 | _ => exact hT.elim
theorem xX : jM qE := ⟨rfl, rfl, by decide, by decide, by decide, by decide, by decide⟩
theorem jM.in {S : Nat → Prop} {w : World} {c : Cell} (h : jM c) : bK S w c c.gZ := by
 obtain ⟨h1, h2, h3, h4, h5, h6, h7⟩ := h
 obtain ⟨a, b, d, e, s, nl, is, ks⟩ := c
 obtain rfl : is = [] := h1
 obtain rfl : ks = [] := h2
 unfold bK
 exact ⟨_, _, [], [], rfl, h3, h4, h5, h6, Nat.le_trans h7 (by decide), aAH S w 8, aO.nil, aAH S w 8, aO.nil⟩
theorem jM.wt {c : Cell} (h : jM c) : c.wt ≤ 17 := by
 rw [Cell.jW, h.items, h.keys]
 simp only [wts]
 have := h.s
 omega
theorem jM.ok {c : Cell} (h : jM c) {d : Nat} {T : Ty} (h1 : ∀ ts, T ≠ .tup ts) (h2 : ∀ k v, T ≠ .map k v) (h3 : ∀ t, T ≠ .arr t) (xs : List Value) : aIC d T c xs :=
 ⟨by have := h.wt; have : 1 ≤ 5 ^ d := Nat.one_le_pow _ _ (by decide); omega, fun ts e => absurd e (h1 ts), fun k v e => absurd e (h2 k v), fun t e => absurd e (h3 t)⟩
def jT (T : Ty) : Prop := ∀ (B : Nat) (w : World) (p : Nat) (vs : List Value) (S : Nat → Prop), bM B w p → p < w.heap.size → LTS S w T.lt vs → (∀ q, S q → q ≠ p ∧ q < w.heap.size) →
 Calls Tryz.prog 9 #[.pointer (some ⟨p, 0, none⟩), .agg vs.toArray] w fun e w' => ∃ c : Cell, e = .returned (.agg c.gZ.toArray) ∧ jM c ∧ bM B w' p ∧ Fr (fun q => q = p) w w'
theorem jT.ok {T : Ty} (h : jT T) (d : Nat) (h1 : ∀ ts, T ≠ .tup ts) (h2 : ∀ k v, T ≠ .map k v) (h5 : ∀ t, T ≠ .arr t) : lS d T := fun B w p vs S hc hp hl hS =>
 (h B w p vs S hc hp hl hS).mono fun _ _ ⟨c, e1, hf, h3, h4⟩ => ⟨c, _, e1, hf.in, hf.ok h1 h2 h5 _, h3, h4⟩
theorem aET (T : Ty) (hT : T.dS) : jT T := fun B w p vs S hc hp hl hS => by
 rw [lF hT hl]
 exact (nG T hT B w p hc hp).mono fun _ _ ⟨c, hf, e1, h3, h4⟩ => ⟨c, e1, wS hT hf, h3, h4⟩
theorem aFD (T : Ty) (hT : T.dS) : jT (.nul T) := fun B w p vs S hc hp hl hS => by
 obtain ⟨q, o, c, oa, oc, rfl, hnc, hcm, hq, ht, k0, k1, k2⟩ := nH hl (i := 0) (t := T) rfl
 have h3 := lF hT ht
 simp only [List.cons.injEq, Ty.cells3, and_true, true_and] at h3
 rw [h3] at k2
 unfold maxLen at hcm
 simp only [Nat.zero_mul, Nat.add_zero] at k0 k1 k2
 refine (aJz T (nG T hT) B w p hc hp q o c (hS q hq).1 ⟨hnc, by omega⟩ fun j u hj => ?_).mono fun _ _ ⟨x, hx, e1, h4, h5⟩ => ⟨x, e1, hx.elim (fun e => e ▸ xX) (wS hT), h4, h5⟩
 match j, hj with
 | 0, hj => cases hj; exact k0
 | 1, hj => cases hj; exact k1
 | 2, hj => cases hj; exact k2
theorem aHp : jT .low := by
 intro B w p vs S h hpw hl hS
 obtain ⟨q, o, c, oa, oc, rfl, hnc, hcm, hSq, ht, k0, k1, k2⟩ := nH hl (i := 0) (t := .str) rfl
 have h3 := lF (T := .str) trivial ht
 simp only [List.cons.injEq, Ty.cells3, and_true, true_and] at h3
 rw [h3] at k2
 unfold maxLen at hcm
 simp only [Nat.zero_mul, Nat.add_zero] at k0 k1 k2
 have hq := (hS q hSq).1
 have hc1 : 1 ≤ c := hnc
 have hnm : (aV Ty.low.nm).toList = [76, 111, 119, 67, 97, 114, 100, 105, 110, 97, 108, 105, 116, 121] := bY _
 have hBp := h.1
 have hT := nG .str trivial
 show Calls _ _ #[_, .agg #[.string (aV Ty.low.nm), .int .i64 0, .slice (some ⟨q, o, none⟩) 1 c]] _ _
 generalize aV Ty.low.nm = nm at hnm
 clear hl ht h3
 go_enter Tryz.func9, Tryz.ntmps9
 go_upto_region 2 with fail
 have hW := lU.of w #[.string nm, .int .i64 0, .slice (some ⟨q, o, none⟩) 1 c]
 unfold bZ at hW
 generalize ((w.alloc _).alloc _).alloc _ = W at hW ⊢
 have hcW : bM B W p := h.fr hW.fr (fun h => h) (fun _ _ h => h)
 have hpW : p < W.heap.size := by rw [hW.size]; omega
 have hbox0 : W.cell? ⟨w.heap.size, 0, none⟩ = some (.string nm) := by rw [cell_of_row _ _ _ _ _ _ hW.box]; rfl
 have hbox : W.cell? ⟨w.heap.size, 2, none⟩ = some (.slice (some ⟨q, o, none⟩) 1 c) := by rw [cell_of_row _ _ _ _ _ _ hW.box]; rfl
 have hTl : Calls Tryz.prog 9 #[.pointer (some ⟨p, 0, none⟩), .agg #[.string (aV Ty.str.nm), .int .i64 Ty.str.sz, .slice none 0 0]] W fun e w' => ∃ c, Flat .str c ∧ e = .returned (.agg c.gZ.toArray) ∧ bM B w' p ∧ Fr (fun q => q = p) W w' := hT B W p hcW hpW
 have kW0 := hW.fr.aA k0 (fun h => h)
 have kW1 := hW.fr.aA k1 (fun h => h)
 have kW2 := hW.fr.aA k2 (fun h => h)
 have hres : ∀ w', Fr (fun k => k = p) W w' → pJ w w' := fun w' hf => pJ.of ((hf.block _ (by rw [hW.size]; omega) (by show ¬ w.heap.size + 1 = p; omega)).trans hW.res)
 have hres' := Lib.hid hres
 clear hres k0 k1 k2 hT
 generalize aV Ty.str.nm = snm at kW0 hTl
 generalize ((Ty.str.sz : Nat) : Int) = ssz at kW1 hTl
 go_wp2_with (go_at_call 9; refine hTl.mono ?_; rintro e w2 ⟨x, hx, rfl, hco2, hf2⟩; obtain ⟨g0, g1, g2, g3, g4, g5, g6, g7, z0, z1, z2, z3, z4, z5, z6, z7⟩ := hres'.out w2 hf2; unfold Cell.gZ)
 refine bodyPost_ret (by simp [results, Tryz.results9, go_sem, g0, g1, g2, g3, g4, g5, g6, g7]; try rfl) rfl ?_
 have hwf : Fr (fun k => k = p) w w2 := (hW.fr.mono (S' := fun k => k = p) (fun _ _ h => h.elim)).trans hf2 (fun _ _ h => h)
 exact ⟨x, rfl, wS (T := .str) trivial hx, hco2.fr (aAu (w := w) (wr := w2) (fun k => k = w.heap.size + 1) rfl _ _ _ _ _ _ _ _) (by show ¬ p = w.heap.size + 1; omega) (fun k hk => by show ¬ k = w.heap.size + 1; omega), xK hwf _ _ _ _ _ _ _ _⟩
theorem rJ {T : Ty} (h : T.dS ∨ (∃ t, T = .nul t ∧ t.dS) ∨ T = .low) : jT T := by
 rcases h with h | ⟨t, rfl, h⟩ | rfl
 · exact aET T h
 · exact aFD t h
 · exact aHp
theorem jA {T : Ty} (h : T.dS ∨ (∃ t, T = .nul t ∧ t.dS) ∨ T = .low) : (∀ ts, T ≠ .tup ts) ∧ (∀ k v, T ≠ .map k v) ∧ ∀ t, T ≠ .arr t := by
 rcases h with h | ⟨t, rfl, h⟩ | rfl
 · refine ⟨fun ts e => ?_, fun k v e => ?_, fun t e => ?_⟩ <;> (subst e; exact h.elim)
 · exact ⟨fun _ e => (by cases e), fun _ _ e => (by cases e), fun _ e => (by cases e)⟩
 · exact ⟨fun _ e => (by cases e), fun _ _ e => (by cases e), fun _ e => (by cases e)⟩
end Go.Proofs.YtcidlnjpabgioaaGreatDoor
namespace Go.Proofs.YtcidlnjpabgioaaGreatDoor
open Go.RowKit
def fC (iv kv : Value) : Array Value := #[.int .u64 0, .int .u64 0, .int .u64 0, .int .u64 0, .string ⟨#[]⟩, .bool false, iv, kv]
structure Making (w : World) (q : Nat) (iv kv : Value) : Prop where
 g0 : w.cell? ⟨q, 0, none⟩ = some (.int .u64 0)
 g1 : w.cell? ⟨q, 1, none⟩ = some (.int .u64 0)
 g2 : w.cell? ⟨q, 2, none⟩ = some (.int .u64 0)
 g3 : w.cell? ⟨q, 3, none⟩ = some (.int .u64 0)
 g4 : w.cell? ⟨q, 4, none⟩ = some (.string ⟨#[]⟩)
 g5 : w.cell? ⟨q, 5, none⟩ = some (.bool false)
 g6 : w.cell? ⟨q, 6, none⟩ = some iv
 g7 : w.cell? ⟨q, 7, none⟩ = some kv
 z6 : w.frozen? ⟨q, 6, none⟩ = false
 z7 : w.frozen? ⟨q, 7, none⟩ = false
theorem Making.of {w : World} {q : Nat} {iv kv : Value} (h : w.heap[q]? = some (.cells (fC iv kv) 35 (0, 0))) : Making w q iv kv where
 g0 := by rw [cell_of_row _ _ _ _ _ _ h]; rfl
 g1 := by rw [cell_of_row _ _ _ _ _ _ h]; rfl
 g2 := by rw [cell_of_row _ _ _ _ _ _ h]; rfl
 g3 := by rw [cell_of_row _ _ _ _ _ _ h]; rfl
 g4 := by rw [cell_of_row _ _ _ _ _ _ h]; rfl
 g5 := by rw [cell_of_row _ _ _ _ _ _ h]; rfl
 g6 := by rw [cell_of_row _ _ _ _ _ _ h]; rfl
 g7 := by rw [cell_of_row _ _ _ _ _ _ h]; rfl
 z6 := frozen_of_row _ _ _ _ _ h
 z7 := frozen_of_row _ _ _ _ _ h
theorem zV {w : World} {q : Nat} {iv kv : Value} (h : w.heap[q]? = some (.cells (fC iv kv) 35 (0, 0))) (v : Value) : (w.setCell ⟨q, 6, none⟩ v).heap[q]? = some (.cells (fC v kv) 35 (0, 0)) := by
 simp [World.setCell, Array.getElem?_modify, h, fC]
theorem aFV {w : World} {q : Nat} {iv kv : Value} (h : w.heap[q]? = some (.cells (fC iv kv) 35 (0, 0))) (v : Value) : (w.setCell ⟨q, 7, none⟩ v).heap[q]? = some (.cells (fC iv v) 35 (0, 0)) := by
 simp [World.setCell, Array.getElem?_modify, h, fC]
theorem bK.eight {S : Nat → Prop} {w : World} {c : Cell} {vs : List Value} (h : bK S w c vs) : ∃ (ia : Option Addr) (ic : Nat) (ka : Option Addr) (kc : Nat), vs = [.int .u64 c.r0, .int .u64 c.r1, .int .u64 c.r2, .int .u64 c.r3, .string c.s, .bool c.null, .slice ia c.items.length ic, .slice ka c.keys.length kc] := by
 obtain ⟨ia, ic, ka, kc, _, _, h, _⟩ := h.full
 exact ⟨ia, ic, ka, kc, h⟩
theorem zM {B p X : Nat} {w1 wr w3 w4 : World} {iv iv' kv : Value} {is ks : List Cell} {ixs kxs xs : List Value} {S : Nat → Prop} {c : Cell} {o : Obj} (hpX : p < X) (hX : X < w1.heap.size) (hBp : B ≤ p)
 (hrow : wr.heap[X]? = some (.cells (fC iv kv) 35 (0, 0))) (h : dJ w1.heap.size wr iv kv is ks ixs kxs S) (hf : Fr (fun q => q = p ∨ q = X) w1 wr) (hc3 : bM B w3 p) (hf3 : Fr (fun q => q = p) wr w3) (hc : bK (New wr w3) w3 c xs)
 (ha : dA (w3.alloc o) w4 35 8 iv iv' (is.length + 1) (ixs ++ xs)) :
 (w4.setCell ⟨X, 6, none⟩ iv').heap[X]? = some (.cells (fC iv' kv) 35 (0, 0)) ∧ (∃ S', dJ w1.heap.size (w4.setCell ⟨X, 6, none⟩ iv') iv' kv (is ++ [c]) ks (ixs ++ xs) kxs S') ∧ bM B (w4.setCell ⟨X, 6, none⟩ iv') p ∧ Fr (fun q => q = p ∨ q = X) w1 (w4.setCell ⟨X, 6, none⟩ iv') := by
 have hs := hf.size
 have hs3 := hf3.size
 have h3 : dJ w1.heap.size w3 iv kv is ks ixs kxs S := h.fr hf3 (fun q hq => by show ¬ q = p; omega)
 have hfa := (Fr.refl (fun _ => False) w3).alloc o
 have h3a := h3.fr hfa (fun _ _ h => h)
 have hca : bK (New wr w3) (w3.alloc o) c xs := bK.to hfa (fun q hq => ⟨hq, fun h => h⟩) _ _ hc
 obtain ⟨h4, hf4⟩ := h3a.push (by simp; omega) hca (fun q hq => ⟨by have := hq.1; omega, by have := hq.2; simp; omega, fun e => by have := aK h.oi e; have := hq.1; omega, fun e => by have := aK h.ok e; have := hq.1; omega⟩) ha
 have hrow4 : w4.heap[X]? = some (.cells (fC iv kv) 35 (0, 0)) := (hf4.block X (by simp; omega) (by show ¬ w1.heap.size ≤ X; omega)).trans ((hfa.block X (by omega) (fun h => h)).trans ((hf3.block X (aH hrow) (by show ¬ X = p; omega)).trans hrow))
 have hf5 : Fr (fun q => q = X) w4 (w4.setCell ⟨X, 6, none⟩ iv') := (Fr.refl (fun q => q = X) w4).setCell (.inl rfl) _
 refine ⟨zV hrow4 _, ⟨_, h4.fr hf5 (fun q hq => by show ¬ q = X; omega)⟩, (hc3.fr hfa (fun h => h) (fun _ _ h => h)).fr ((hf4.mono (S' := fun q => w1.heap.size ≤ q ∨ q = X) (fun _ _ h => .inl h)).trans hf5 (fun _ _ h => .inr h)) (fun e => ?_) (fun q hq e => ?_), ?_⟩
 · rcases e with e | e
   · omega
   · omega
 · rcases e with e | e
   · omega
   · omega
 · have hall : Fr (fun q => q = p ∨ q = X ∨ w1.heap.size ≤ q) w1 (w4.setCell ⟨X, 6, none⟩ iv') := ((((hf.mono (S' := fun q => q = p ∨ q = X ∨ w1.heap.size ≤ q) (fun q _ h => h.elim .inl (fun h => .inr (.inl h)))).trans hf3 (fun q _ h => .inl h)).trans hfa (fun _ _ h => h.elim)).trans hf4 (fun q _ h => .inr (.inr h))).trans hf5 (fun q _ h => .inr (.inl h))
   exact hall.mono fun q hq h => by
    rcases h with h | h | h
    · exact .inl h
    · exact .inr h
    · omega
theorem aAD {wr : World} {lo : Nat} {iv kv : Value} {is ks : List Cell} {ixs kxs : List Value} {S S' : Nat → Prop} (h : dJ lo wr iv kv is ks ixs kxs S) (hS' : ∀ q, lo ≤ q → q < wr.heap.size → S' q) : bK S' wr (.mk 0 0 0 0 ⟨#[]⟩ false is ks) [.int .u64 0, .int .u64 0, .int .u64 0, .int .u64 0, .string ⟨#[]⟩, .bool false, iv, kv] := by
 unfold bK
 exact ⟨iv, kv, ixs, kxs, rfl, by decide, by decide, by decide, by decide, by decide, mM h.oi fun q hq => hS' q (h.li q hq) (aK h.oi hq), h.ci.mono fun q hq => hS' q (h.hS q hq).1 (h.hS q hq).2.1, mM h.ok fun q hq => hS' q (h.lk q hq) (aK h.ok hq), h.ck.mono fun q hq => hS' q (h.hS q hq).1 (h.hS q hq).2.1⟩
theorem aHK (d : Nat) (T : Ty) (hT : lS d T) : lS (d + 1) (.arr T) := by
 intro B w p vs S h hpw hl hS
 obtain ⟨q, o, c, oa, oc, rfl, hnc, hcm, hSq, ht, k0, k1, k2⟩ := nH hl (i := 0) (t := T) rfl
 unfold maxLen at hcm
 simp only [Nat.zero_mul, Nat.add_zero] at k0 k1 k2
 have hq := hS q hSq
 have hc1 : 1 ≤ c := hnc
 have hnm : (aV (Ty.arr T).nm).toList = [65, 114, 114, 97, 121] := bY _
 have hBp := h.1
 show Calls _ _ #[_, .agg #[.string (aV (Ty.arr T).nm), .int .i64 0, .slice (some ⟨q, o, none⟩) 1 c]] _ _
 generalize aV (Ty.arr T).nm = nm at hnm
 clear hl
 go_enter Tryz.func9, Tryz.ntmps9
 go_upto_region 2 with fail
 have hW := lU.of w #[.string nm, .int .i64 0, .slice (some ⟨q, o, none⟩) 1 c]
 unfold bZ at hW
 generalize ((w.alloc _).alloc _).alloc _ = W at hW ⊢
 have hcW : bM B W p := h.fr hW.fr (fun h => h) (fun _ _ h => h)
 have hpW : p < W.heap.size := by rw [hW.size]; omega
 have hbox0 : W.cell? ⟨w.heap.size, 0, none⟩ = some (.string nm) := by rw [cell_of_row _ _ _ _ _ _ hW.box]; rfl
 go_wp2_with (go_at_call 20; refine (fH B _ p hcW).mono ?_; rintro e w1 ⟨b, hb, rfl, hco1, hf1⟩)
 have hs1 := hf1.size
 have hWs := hW.size
 have hrow1 : w1.heap[w.heap.size + 1 + 1]? = some (.cells (fC (.slice none 0 0) (.slice none 0 0)) 35 (0, 0)) := (hf1.block _ (by rw [hWs]; omega) (by show ¬ w.heap.size + 1 + 1 = p; omega)).trans hW.row
 have hW1 : Fr (fun k => k = p) w w1 := (hW.fr.mono (S' := fun k => k = p) (fun _ _ h => h.elim)).trans hf1 (fun _ _ h => h)
 have hbox1 := (hf1.block _ (by rw [hWs]; omega) (by show ¬ w.heap.size = p; omega)).trans hW.box
 have hres1 := (hf1.block _ (by rw [hWs]; omega) (by show ¬ w.heap.size + 1 = p; omega)).trans hW.res
 go_loopw [6] (fun i wr => ∃ (k : Nat) (is : List Cell) (ixs : List Value) (iv : Value) (S' : Nat → Prop), i = .int .i64 k ∧ (is = [] → iv = .slice none 0 0) ∧ is.length + k ≤ 3 ∧ wr.heap[w.heap.size + 1 + 1]? = some (.cells (fC iv (.slice none 0 0)) 35 (0, 0)) ∧ dJ w1.heap.size wr iv (.slice none 0 0) is [] ixs [] S' ∧ wts is ≤ is.length * (20 * 5 ^ d) ∧ bM B wr p ∧ Fr (fun k => k = p ∨ k = w.heap.size + 1 + 1) w1 wr) (fun i _ => (intOf i).toNat)
 case atStart => exact ⟨b % 4, [], [], .slice none 0 0, _, by go_num, fun _ => rfl, by simp; omega, hrow1, dJ.nil _ _, by simp [wts], hco1, Fr.refl _ _⟩
 case round =>
  obtain ⟨k, is, ixs, iv, S', rfl, hnil, hk3, hrow, hgr, hwt, hcode, hfr⟩ := hrel
  have hnilH := Lib.hid hnil
  clear hnil
  have hfs := hfr.size
  have hX : w.heap.size + 1 + 1 < w1.heap.size := by omega
  have hboxr := (hfr.block _ (by omega) (by show ¬ (w.heap.size = p ∨ w.heap.size = w.heap.size + 1 + 1); omega)).trans hbox1
  have hmk := Making.of hrow
  by_cases hkz : 0 < k
  · have hki : (0 : Int) < k := by omega
    have hiw : IntKind.i64.wrap ((k : Int) - 1) = (k : Int) - 1 := by rw [IntKind.wrap_i64]; omega
    obtain ⟨va, vc, rfl⟩ := ownsRow_shape hgr.oi
    have hfw : Fr (fun k => k = p ∨ k = w.heap.size + 1 + 1) w wr := (hW1.mono (S' := fun k => k = p ∨ k = w.heap.size + 1 + 1) (fun _ _ h => .inl h)).trans hfr (fun _ _ h => h)
    have hqn : ¬ (q = p ∨ q = w.heap.size + 1 + 1) := by omega
    have m0 := hfw.aA k0 hqn
    have m1 := hfw.aA k1 hqn
    have m2 := hfw.aA k2 hqn
    have hlt : LTS S wr.drew T.lt [.string (aV T.nm), .int .i64 T.sz, .slice oa T.kids.length oc] := LTS.to hfw.drew (fun x hx => ⟨hx, by have := hS x hx; show ¬ (x = p ∨ x = w.heap.size + 1 + 1); omega⟩) _ _ ht
    have hcd : bM B wr.drew p := hcode.fr ((Fr.refl (fun _ => False) wr).drew) (fun h => h) (fun _ _ h => h)
    have hcall := hT B wr.drew p _ S hcd (by show p < wr.heap.size; omega) hlt (fun x hx => ⟨(hS x hx).1, by have := (hS x hx).2; show x < wr.heap.size; omega⟩)
    have hbx2 : wr.cell? ⟨w.heap.size, 2, none⟩ = some (.slice (some ⟨q, o, none⟩) 1 c) := by rw [cell_of_row _ _ _ _ _ _ hboxr]; rfl
    have g6 := hmk.g6
    have hrowH := Lib.hid hrow
    have hgrH := Lib.hid hgr
    have hwtH := Lib.hid hwt
    generalize aV T.nm = tnm at m0 hcall
    generalize ((T.sz : Nat) : Int) = tsz at m1 hcall
    generalize T.kids.length = tkl at m2 hcall
    clear hlt ht k0 k1 k2 hrow hgr hmk hboxr hT hbox0 hbox1 hrow1 hwt
    go_wp2_with fail
    go_region_law (first
     | (go_simp; go_at_call 9; refine hcall.mono ?_; rintro e w3 ⟨c', xs', rfl, hc3, hok3, hco3, hf3⟩; have hf3' := hf3.aG; have hs3 := hf3'.size; have hrow3 := (hf3'.block _ (by omega) (by show ¬ w.heap.size + 1 + 1 = p; omega)).trans hrowH.out; obtain ⟨-, -, -, -, -, -, y6, -, -, -⟩ := Making.of hrow3; have ya6 := fun o' => (Making.of ((Below.heap_alloc w3 o' _ (aH hrow3)).trans hrow3)).g6; obtain ⟨ja, jc, la, lc, rfl⟩ := hc3.eight)
     | (refine aS _ rfl ?_; refine dB _ iD _ _ rfl _ _ _ rfl ((hgrH.out.fr hf3' (fun q hq => by show ¬ q = p; omega)).oi.alloc _) _ _ _ rfl (Src.ofSlice _ Tryz.underlying31 _ _ _ _ rfl (aW _ [.int .u64 c'.r0, .int .u64 c'.r1, .int .u64 c'.r2, .int .u64 c'.r3, .string c'.s, .bool c'.null, .slice ja c'.items.length jc, .slice la c'.keys.length lc] _) (by simp [Value.oneCell'])) ?_ ?_ ?_; (unfold maxLen; omega); omega; intro v' w4 ha; obtain ⟨a', b', rfl⟩ := ha.shape; have hrow4 := (ha.2.1.block _ (by have := aH hrow3; simp; omega) (fun e => by have := hgrH.out.li _ e.symm; omega)).trans ((Below.heap_alloc w3 _ _ (aH hrow3)).trans hrow3); obtain ⟨-, -, -, -, -, -, s6, -, z6, -⟩ := Making.of hrow4))
    all_goals
     obtain ⟨a1, ⟨S'', a2⟩, a3, a4⟩ := zM (by omega) hX hBp hrowH.out hgrH.out hfr hco3 hf3' hc3 ha
     go_wp2
     go_roundw
     case rel => exact ⟨k - 1, is ++ [c'], _, .slice a' (is.length + 1) b', S'', by rw [Int.natCast_sub hkz]; rfl, fun e => absurd e (by simp), by simp; omega, a1, a2, by rw [dV, List.length_append, List.length_singleton, Nat.add_mul, Nat.one_mul]; have := hok3.wt; have := hwtH.out; simp only [wts]; omega, a3, a4⟩
     case measure => simp [intOf]; omega
  · have hkz' : k = 0 := by omega
    subst hkz'
    obtain ⟨va, vc, rfl⟩ := ownsRow_shape hgr.oi
    have hresr := (hfr.block _ (by omega) (by show ¬ (w.heap.size + 1 = p ∨ w.heap.size + 1 = w.heap.size + 1 + 1); omega)).trans hres1
    obtain ⟨g0, g1, g2, g3, g4, g5, g6, g7, -, -⟩ := hmk
    obtain ⟨r0, r1, r2, r3, r4, r5, r6, r7, z0, z1, z2, z3, z4, z5, z6, z7⟩ := pJ.of (w := w) hresr
    go_wp2
    refine bodyPost_ret (by simp [results, Tryz.results9, go_sem, r0, r1, r2, r3, r4, r5, r6, r7]; try rfl) rfl ?_
    have hfA : Fr (fun k => k = p) w wr := hW1.trans hfr (fun x hx h => h.elim id (fun h => by omega))
    obtain ⟨e1, e2, e3⟩ := rH hcode hpw hfA (aAD hgr (S' := fun q => w.heap.size + 1 < q ∧ q < wr.heap.size) (fun q h1 h2 => ⟨by omega, h2⟩)) (.int .u64 0) (.int .u64 0) (.int .u64 0) (.int .u64 0) (.string ⟨#[]⟩) (.bool false) (.slice va is.length vc) (.slice none 0 0)
    refine ⟨_, _, rfl, e1, ⟨?_, fun ts e => (by cases e), fun k v e => (by cases e), fun t _ e => congrArg some (hnilH.out e)⟩, e2, e3⟩
    have h5 : 1 ≤ 5 ^ d := Nat.one_le_pow _ _ (by decide)
    have hm : is.length * (20 * 5 ^ d) ≤ 3 * (20 * 5 ^ d) := Nat.mul_le_mul_right _ (by omega)
    have h0 : (⟨#[]⟩ : ByteArray).size = 0 := rfl
    rw [Cell.wt, h0, Nat.pow_succ]
    simp only [wts]
    omega
end Go.Proofs.YtcidlnjpabgioaaGreatDoor
namespace Go.Proofs.YtcidlnjpabgioaaGreatDoor
open Go.RowKit
theorem bK.one' {S : Nat → Prop} {w : World} {c : Cell} {vs : List Value} (h : bK S w c vs) : ∀ u ∈ vs, u.oneCell' = true := by
 obtain ⟨ia, ic, ka, kc, _, _, rfl, _⟩ := h.full
 simp [Value.oneCell']
theorem aO.ones {S : Nat → Prop} {w : World} : ∀ {cs : List Cell} {xs : List Value}, aO S w cs xs → ∀ u ∈ xs, u.oneCell' = true
 | [], xs => by
  unfold aO
  rintro rfl u h
  simp at h
 | c :: cs, xs => by
  intro h u hu
  unfold aO at h
  obtain ⟨vs, rest, rfl, h1, h2⟩ := h
  rcases List.mem_append.1 hu with hu | hu
  · exact h1.one' u hu
  · exact aO.ones h2 u hu
theorem Src.zT {P : Program} {S : Nat → Prop} {w : World} {size : Nat} {tx e : TypeId} {v : Value} {n : Nat} {xs : List Value} (hk : P.underlying tx = some (.slice e)) (h : SlS S w size v n xs) (h1 : ∀ u ∈ xs, u.oneCell' = true) : Src P size tx v n xs w := by
 obtain ⟨hl, a, c, rfl, hnc, hcm, h0, ha⟩ := h
 cases a with
 | none =>
  obtain rfl := h0 rfl
  obtain rfl : xs = [] := List.eq_nil_of_length_eq_zero (by omega)
  exact Src.ofNil _ hk c
 | some ad => exact Src.ofSlice _ hk ad n c xs hl (ha ad rfl).2.2 h1
theorem dJ.many {lo : Nat} {w w1 : World} {iv iv' kv : Value} {is ks ds : List Cell} {ixs kxs xs : List Value} {S S' : Nat → Prop} (hlo : lo ≤ w.heap.size) (h : dJ lo w iv kv is ks ixs kxs S) (hc : aO S' w ds xs)
 (hS' : ∀ q, S' q → lo ≤ q ∧ q < w.heap.size ∧ iv.ownBlock ≠ some q ∧ kv.ownBlock ≠ some q) (ha : dA w w1 35 8 iv iv' (is.length + ds.length) (ixs ++ xs)) :
 dJ lo w1 iv' kv (is ++ ds) ks (ixs ++ xs) kxs (fun q => S q ∨ S' q) ∧ Fr (fun q => iv.ownBlock = some q) w w1 := by
 have hg := Fr.iU ha.2.1
 have hs := hg.size
 have hiv : ∀ q, iv'.ownBlock = some q → iv.ownBlock = some q ∨ q = w.heap.size := fun q hq => by
  rcases ha.2.2 with e | e
  · exact .inl (e ▸ hq)
  · rw [e] at hq
    simp only [Option.some.injEq] at hq
    exact .inr hq.symm
 have hne : ∀ q, S q ∨ S' q → lo ≤ q ∧ q < w.heap.size ∧ iv.ownBlock ≠ some q ∧ kv.ownBlock ≠ some q := fun q hq => hq.elim (h.hS q) (hS' q)
 refine ⟨⟨by rw [List.length_append]; exact ha.1, hg.owns h.ok fun q hq => fun e => h.ne q e hq, aO.append (aO.to hg (fun q hq => ⟨.inl hq, (h.hS q hq).2.2.1⟩) _ _ h.ci) (aO.to hg (fun q hq => ⟨.inr hq, (hS' q hq).2.2.1⟩) _ _ hc), aO.to hg (fun q hq => ⟨.inl hq, (h.hS q hq).2.2.1⟩) _ _ h.ck, fun q hq => ?_, fun q hq => ?_, h.lk, fun q hq e => ?_⟩, hg⟩
 · obtain ⟨h1, h2, h3, h4⟩ := hne q hq
   refine ⟨h1, by omega, fun e => ?_, h4⟩
   rcases hiv q e with e | e
   · exact h3 e
   · omega
 · rcases hiv q hq with e | e
   · exact h.li q e
   · omega
 · rcases hiv q hq with e' | e'
   · exact h.ne q e' e
   · have := aK h.ok e; omega
structure AtR (lo B p X : Nat) (xc : List Value) (w1 : World) (x : Cell) (ds : List Cell) (sv : Value) (dxs : List Value) (Z : World) (rv vv : Value) (σ τ : List Cell) (rxs ixs : List Value) (S : Nat → Prop) : Prop where
 gr : dJ lo Z rv vv σ τ rxs ixs S
 xb : Z.heap[X]? = some (.cells xc.toArray 35 (0, 0))
 xi : bK S Z x xc
 sl : SlS S Z 8 sv ds.length dxs
 sc : aO S Z ds dxs
 Xl : lo ≤ X
 Xr : rv.ownBlock ≠ some X
 Xv : vv.ownBlock ≠ some X
 co : bM B Z p
 pl : p < lo
 Bp : B ≤ p
 lw : lo = w1.heap.size
 frm : Fr (fun q => q = p ∨ lo ≤ q) w1 Z
namespace AtR
variable {lo B p X : Nat} {xc : List Value} {w1 : World} {x : Cell} {ds : List Cell} {sv : Value} {dxs : List Value} {Z Z' : World} {rv vv rv' vv' : Value} {σ τ : List Cell} {rxs ixs : List Value} {S : Nat → Prop}
theorem quiet (h : AtR lo B p X xc w1 x ds sv dxs Z rv vv σ τ rxs ixs S) (hf : Fr (fun _ => False) Z Z') : AtR lo B p X xc w1 x ds sv dxs Z' rv vv σ τ rxs ixs S :=
 { h with
   gr := h.gr.fr hf fun _ _ h => h
   xb := (hf.block _ (aH h.xb) (fun h => h)).trans h.xb
   xi := bK.to hf (fun _ hq => ⟨hq, fun h => h⟩) _ _ h.xi
   sl := h.sl.to hf fun _ hq => ⟨hq, fun h => h⟩
   sc := aO.to hf (fun _ hq => ⟨hq, fun h => h⟩) _ _ h.sc
   co := h.co.fr hf (fun h => h) (fun _ _ h => h)
   frm := h.frm.trans hf fun _ _ h => h.elim }
theorem alloc (h : AtR lo B p X xc w1 x ds sv dxs Z rv vv σ τ rxs ixs S) (o : Obj) : AtR lo B p X xc w1 x ds sv dxs (Z.alloc o) rv vv σ τ rxs ixs S := h.quiet ((Fr.refl _ Z).alloc o)
theorem drew (h : AtR lo B p X xc w1 x ds sv dxs Z rv vv σ τ rxs ixs S) : AtR lo B p X xc w1 x ds sv dxs Z.drew rv vv σ τ rxs ixs S := h.quiet ((Fr.refl _ Z).drew)
theorem own {n : Nat} {xs : List Value} {v v' : Value} (ha : dA Z Z' 35 8 v v' n xs) : ∀ q, v'.ownBlock = some q → v.ownBlock = some q ∨ q = Z.heap.size := fun q hq => by
 rcases ha.2.2 with e | e
 · exact .inl (e ▸ hq)
 · rw [e] at hq
   simp only [Option.some.injEq] at hq
   exact .inr hq.symm
theorem done (h : AtR lo B p X xc w1 x ds sv dxs Z rv vv σ τ rxs ixs S) : Fr (fun q => q = p) w1 Z := h.frm.mono fun q hq e => by
 have := h.lw
 rcases e with e | e
 · exact e
 · omega
end AtR
end Go.Proofs.YtcidlnjpabgioaaGreatDoor
namespace Go.Proofs.YtcidlnjpabgioaaGreatDoor
open Go.RowKit
theorem jP {w : World} {q : Nat} {a b c d e f g g' k : Value} (h : w.heap[q]? = some (.cells #[a, b, c, d, e, f, g, k] 35 (0, 0))) : (w.setCell ⟨q, 6, none⟩ g').heap[q]? = some (.cells #[a, b, c, d, e, f, g', k] 35 (0, 0)) := by
 simp [World.setCell, Array.getElem?_modify, h]
theorem AtR.first {B p : Nat} {w1 wr w2 wx w3 w4 : World} {rv vv v' : Value} {σ τ : List Cell} {rxs ixs xs : List Value} {S : Nat → Prop} {x c : Cell} {ka : Option Addr} {kc : Nat} {o : Obj} (hpl : p < w1.heap.size) (hBp : B ≤ p) (hw : Fr (fun q => q = p) w1 wr) (h2 : Fr (fun q => q = p) wr w2)
 (hg : dJ w1.heap.size wr rv vv σ τ rxs ixs S) (hx : bK (New wr w2) w2 x [.int .u64 x.r0, .int .u64 x.r1, .int .u64 x.r2, .int .u64 x.r3, .string x.s, .bool x.null, .slice none 0 0, .slice ka x.keys.length kc])
 (hfx : Fr (fun _ => False) w2 wx) (hsx : wx.heap.size = w2.heap.size + 1) (hrx : wx.heap[w2.heap.size]? = some (.cells #[.int .u64 x.r0, .int .u64 x.r1, .int .u64 x.r2, .int .u64 x.r3, .string x.s, .bool x.null, .slice none 0 0, .slice ka x.keys.length kc] 35 (0, 0)))
 (h3 : Fr (fun q => q = p) wx w3) (hco : bM B w3 p) (hc : bK (New wx w3) w3 c xs) (ha : dA (w3.alloc o) w4 35 8 (.slice none 0 0) v' 1 xs) :
 AtR w1.heap.size B p w2.heap.size [.int .u64 x.r0, .int .u64 x.r1, .int .u64 x.r2, .int .u64 x.r3, .string x.s, .bool x.null, v', .slice ka x.keys.length kc] w1 (.mk x.r0 x.r1 x.r2 x.r3 x.s x.null [c] x.keys) [c] v' xs
  (w4.setCell ⟨w2.heap.size, 6, none⟩ v') rv vv σ τ rxs ixs (fun q => S q ∨ New wr (w4.setCell ⟨w2.heap.size, 6, none⟩ v') q) := by
 have s1 := hw.size
 have s2 := h2.size
 have s3 := h3.size
 have hfa : Fr (fun _ => False) w3 (w3.alloc o) := (Fr.refl _ w3).alloc o
 have hf4 : Fr (fun q => (Value.slice none 0 0).ownBlock = some q) (w3.alloc o) w4 := Fr.iU ha.2.1
 have hf4' : Fr (fun _ => False) (w3.alloc o) w4 := hf4.mono fun q _ e => by simp [Value.ownBlock] at e
 have s4 := hf4.size
 have hsa : (w3.alloc o).heap.size = w3.heap.size + 1 := by simp
 have hf5 : Fr (fun q => q = w2.heap.size) w4 (w4.setCell ⟨w2.heap.size, 6, none⟩ v') := (Fr.refl (fun q => q = w2.heap.size) w4).setCell (.inl rfl) _
 have hown : ∀ q, v'.ownBlock = some q → q = (w3.alloc o).heap.size := fun q hq => by
  rcases ha.2.2 with e | e
  · rw [e] at hq; simp [Value.ownBlock] at hq
  · rw [e] at hq
    simp only [Option.some.injEq] at hq
    exact hq.symm
 have hf34 : Fr (fun _ => False) w3 w4 := hfa.trans hf4' (fun _ _ h => h)
 have hf35 : Fr (fun q => q = w2.heap.size) w3 (w4.setCell ⟨w2.heap.size, 6, none⟩ v') := (hf34.mono (S' := fun q => q = w2.heap.size) (fun _ _ h => h.elim)).trans hf5 (fun _ _ h => h)
 have hfx5 : Fr (fun q => q = p ∨ q = w2.heap.size) wx (w4.setCell ⟨w2.heap.size, 6, none⟩ v') := (h3.mono (S' := fun q => q = p ∨ q = w2.heap.size) (fun _ _ h => .inl h)).trans hf35 (fun _ _ h => .inr h)
 have hf25 : Fr (fun q => q = p) w2 (w4.setCell ⟨w2.heap.size, 6, none⟩ v') := ((hfx.mono (S' := fun q => q = p ∨ q = w2.heap.size) (fun _ _ h => h.elim)).trans hfx5 (fun _ _ h => h)).mono fun q hq h => by omega
 have hfr5 : Fr (fun q => q = p) wr (w4.setCell ⟨w2.heap.size, 6, none⟩ v') := h2.trans hf25 (fun _ _ h => h)
 have s5 := hf5.size
 have hgz := hg.fr hfr5 (fun q hq => by show ¬ q = p; omega)
 generalize hZ : w4.setCell ⟨w2.heap.size, 6, none⟩ v' = Z at *
 have hxk : bK (fun q => S q ∨ New wr Z q) Z (.mk x.r0 x.r1 x.r2 x.r3 x.s x.null [c] x.keys) [.int .u64 x.r0, .int .u64 x.r1, .int .u64 x.r2, .int .u64 x.r3, .string x.s, .bool x.null, v', .slice ka x.keys.length kc] ∧ SlS (fun q => S q ∨ New wr Z q) Z 8 v' 1 xs ∧ aO (fun q => S q ∨ New wr Z q) Z [c] xs := by
  have hci : aO (fun q => S q ∨ New wr Z q) Z [c] xs := aO.one (bK.to hf35 (fun q hq => ⟨.inr ⟨by have := hq.1; omega, by have := hq.2; omega⟩, by have := hq.1; show ¬ q = w2.heap.size; omega⟩) _ _ hc)
  have hsl : SlS (fun q => S q ∨ New wr Z q) Z 8 v' 1 xs := mM (hf5.owns ha.1 fun q hq => by have := hown q hq; show ¬ q = w2.heap.size; omega) fun q hq => .inr ⟨by have := hown q hq; omega, by have := aK ha.1 hq; omega⟩
  refine ⟨?_, hsl, hci⟩
  have hx5 := bK.to (S' := fun q => S q ∨ New wr Z q) hf25 (fun q hq => ⟨.inr ⟨hq.1, by have := hq.2; omega⟩, by have := hq.1; show ¬ q = p; omega⟩) _ _ hx
  obtain ⟨a, b, d, e, s, nl, is, ks⟩ := x
  unfold bK at hx5 ⊢
  obtain ⟨iv, kv, jxs, kxs, he, b0, b1, b2, b3, b4, -, -, hk, hck⟩ := hx5
  simp only [List.cons.injEq, and_true] at he
  obtain ⟨-, -, -, -, -, -, -, rfl⟩ := he
  exact ⟨_, _, xs, kxs, rfl, b0, b1, b2, b3, b4, hsl, hci, hk, hck⟩
 exact
  { gr := { hgz with
     ci := hgz.ci.mono fun _ => .inl
     ck := hgz.ck.mono fun _ => .inl
     hS := fun q hq => hq.elim (hgz.hS q) fun hq => ⟨by have := hq.1; omega, by have := hq.2; omega, fun e => by have := aK hg.oi e; have := hq.1; omega, fun e => by have := aK hg.ok e; have := hq.1; omega⟩ }
    xb := by
     subst hZ
     exact jP ((hf34.block _ (by omega) (fun h => h)).trans ((h3.block _ (by omega) (by show ¬ w2.heap.size = p; omega)).trans hrx))
    xi := hxk.1
    sl := hxk.2.1
    sc := hxk.2.2
    Xl := by omega
    Xr := fun e => by have := aK hg.oi e; omega
    Xv := fun e => by have := aK hg.ok e; omega
    co := hco.fr hf35 (by show ¬ p = w2.heap.size; omega) (fun q hq => by show ¬ q = w2.heap.size; omega)
    pl := hpl, Bp := hBp, lw := rfl
    frm := (hw.trans hfr5 (fun _ _ h => h)).mono fun _ _ h => .inl h }
end Go.Proofs.YtcidlnjpabgioaaGreatDoor
