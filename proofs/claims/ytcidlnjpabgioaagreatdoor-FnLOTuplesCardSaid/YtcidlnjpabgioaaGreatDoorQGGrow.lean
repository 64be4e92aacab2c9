import Derived.Test.YtcidlnjpabgioaaGreatDoorQGLeafK
import Derived.Test.YtcidlnjpabgioaaGreatDoorQGArr
import Derived.Test.YtcidlnjpabgioaaGreatDoorQGByte
import Derived.Test.YtcidlnjpabgioaaGreatDoorQGCellG
namespace Go.Proofs.YtcidlnjpabgioaaGreatDoor
open Go.RowKit
def partOf (i : Nat) (σ : List Cell) : List Cell := σ.map fun c => c.items.getD i Cell.zero
theorem encs_append : ∀ (ts us : List Ty) (i : Nat) (σ : List Cell), encs (ts ++ us) i σ = encs ts i σ ++ encs us (i + ts.length) σ
 | [], us, i, σ => by rw [List.nil_append, encs, List.nil_append, List.length_nil, Nat.add_zero]
 | t :: ts, us, i, σ => by
  rw [List.cons_append, encs, encs, encs_append ts us (i + 1) σ, List.append_assoc, List.length_cons, show i + 1 + ts.length = i + (ts.length + 1) by omega]
theorem encs_next (ts : List Ty) (t : Ty) (σ : List Cell) : encs (ts ++ [t]) 0 σ = encs ts 0 σ ++ enc t (partOf ts.length σ) := by
 rw [encs_append, encs, encs, List.append_nil, Nat.zero_add]
 rfl
theorem sts_append : ∀ (a b : List Ty), sts (a ++ b) = sts a ++ sts b
 | [], b => by rw [List.nil_append, sts, List.nil_append]
 | x :: a, b => by rw [List.cons_append, sts, sts, sts_append a b, List.append_assoc]
theorem sts_take_le (ts : List Ty) (j : Nat) : (sts (ts.take j)).length ≤ (sts ts).length := by
 have := sts_append (ts.take j) (ts.drop j)
 rw [List.take_append_drop] at this
 rw [this, List.length_append]
 omega
theorem encs_take_le (ts : List Ty) (j : Nat) (σ : List Cell) : (encs (ts.take j) 0 σ).length ≤ (encs ts 0 σ).length := by
 have := encs_append (ts.take j) (ts.drop j) 0 σ
 rw [List.take_append_drop] at this
 rw [this, List.length_append]
 omega
theorem wts_part (i : Nat) : ∀ (σ : List Cell), wts (partOf i σ) ≤ wts σ + σ.length
 | [] => Nat.zero_le _
 | c :: cs => by
  have h1 := wts_part i cs
  have h2 : (c.items.getD i Cell.zero).wt ≤ wts c.items + 1 := by
   rw [List.getD_eq_getElem?_getD]
   rcases Nat.lt_or_ge i c.items.length with h | h
   · rw [List.getElem?_eq_getElem h]
     have := wts_take c.items (i + 1)
     rw [List.take_add_one, wts_append, List.getElem?_eq_getElem h] at this
     simp only [Option.toList_some, wts, Option.getD_some] at this ⊢
     omega
   · rw [List.getElem?_eq_none h]
     simp only [Option.getD_none]
     show Cell.wt (Cell.mk 0 0 0 0 ⟨#[]⟩ false [] []) ≤ _
     rw [Cell.wt]
     have h0 : (⟨#[]⟩ : ByteArray).size = 0 := rfl
     rw [h0]
     simp only [wts]
     omega
  have h3 := Cell.wt_eq c
  have e : partOf i (c :: cs) = c.items.getD i Cell.zero :: partOf i cs := rfl
  rw [e, wts, wts, List.length_cons]
  omega
end Go.Proofs.YtcidlnjpabgioaaGreatDoor
namespace Go.Proofs.YtcidlnjpabgioaaGreatDoor
open Go.RowKit
structure Grow3 (lo : Nat) (w : World) (av bv cv : Value) (ls bs cs : List Cell) (axs bxs cxs : List Value) (S : Nat → Prop) : Prop where
 oa : w.ownsRow 0 35 8 av ls.length axs
 ob : w.ownsRow 0 35 8 bv bs.length bxs
 oc : w.ownsRow 0 35 8 cv cs.length cxs
 ca : CellsS S w ls axs
 cb : CellsS S w bs bxs
 cc : CellsS S w cs cxs
 hS : ∀ q, S q → lo ≤ q ∧ q < w.heap.size ∧ av.ownBlock ≠ some q ∧ bv.ownBlock ≠ some q ∧ cv.ownBlock ≠ some q
 la : ∀ q, av.ownBlock = some q → lo ≤ q
 lb : ∀ q, bv.ownBlock = some q → lo ≤ q
 lc : ∀ q, cv.ownBlock = some q → lo ≤ q
 nab : ∀ q, av.ownBlock = some q → bv.ownBlock ≠ some q
 nac : ∀ q, av.ownBlock = some q → cv.ownBlock ≠ some q
 nbc : ∀ q, bv.ownBlock = some q → cv.ownBlock ≠ some q
namespace Grow3
variable {lo : Nat} {w w' w1 : World} {av av' bv cv : Value} {ls bs cs ds : List Cell} {axs bxs cxs xs : List Value} {S S' F : Nat → Prop}
theorem nil (lo : Nat) (w : World) : Grow3 lo w (.slice none 0 0) (.slice none 0 0) (.slice none 0 0) [] [] [] [] [] [] (fun _ => False) :=
 ⟨World.ownsRow_nil _ _ _ _, World.ownsRow_nil _ _ _ _, World.ownsRow_nil _ _ _ _, CellsS.nil, CellsS.nil, CellsS.nil, fun _ h => h.elim, by simp [Value.ownBlock], by simp [Value.ownBlock], by simp [Value.ownBlock], by simp [Value.ownBlock], by simp [Value.ownBlock], by simp [Value.ownBlock]⟩
theorem fr (h : Grow3 lo w av bv cv ls bs cs axs bxs cxs S) (hf : Fr F w w') (hF : ∀ q, lo ≤ q → ¬ F q) : Grow3 lo w' av bv cv ls bs cs axs bxs cxs S :=
 ⟨hf.owns h.oa fun q hq => hF q (h.la q hq), hf.owns h.ob fun q hq => hF q (h.lb q hq), hf.owns h.oc fun q hq => hF q (h.lc q hq), CellsS.to hf (fun q hq => ⟨hq, hF q (h.hS q hq).1⟩) _ _ h.ca, CellsS.to hf (fun q hq => ⟨hq, hF q (h.hS q hq).1⟩) _ _ h.cb, CellsS.to hf (fun q hq => ⟨hq, hF q (h.hS q hq).1⟩) _ _ h.cc,
  fun q hq => let ⟨a, b, c⟩ := h.hS q hq; ⟨a, Nat.lt_of_lt_of_le b hf.size, c⟩, h.la, h.lb, h.lc, h.nab, h.nac, h.nbc⟩
theorem wider (h : Grow3 lo w av bv cv ls bs cs axs bxs cxs S) (hS' : ∀ q, S' q → lo ≤ q ∧ q < w.heap.size ∧ av.ownBlock ≠ some q ∧ bv.ownBlock ≠ some q ∧ cv.ownBlock ≠ some q) : Grow3 lo w av bv cv ls bs cs axs bxs cxs (fun q => S q ∨ S' q) :=
 ⟨h.oa, h.ob, h.oc, h.ca.mono fun _ => .inl, h.cb.mono fun _ => .inl, h.cc.mono fun _ => .inl, fun q hq => hq.elim (h.hS q) (hS' q), h.la, h.lb, h.lc, h.nab, h.nac, h.nbc⟩
theorem many (hlo : lo ≤ w.heap.size) (h : Grow3 lo w av bv cv ls bs cs axs bxs cxs S) (hc : CellsS S w ds xs) (ha : Appended w w1 35 8 av av' (ls.length + ds.length) (axs ++ xs)) :
 Grow3 lo w1 av' bv cv (ls ++ ds) bs cs (axs ++ xs) bxs cxs S ∧ Fr (fun q => av.ownBlock = some q) w w1 := by
 have hg := Fr.of_grown ha.2.1
 have hs := hg.size
 have hiv : ∀ q, av'.ownBlock = some q → av.ownBlock = some q ∨ q = w.heap.size := fun q hq => by
  rcases ha.2.2 with e | e
  · exact .inl (e ▸ hq)
  · rw [e] at hq
    simp only [Option.some.injEq] at hq
    exact .inr hq.symm
 have hto : ∀ q, S q → S q ∧ ¬ av.ownBlock = some q := fun q hq => ⟨hq, (h.hS q hq).2.2.1⟩
 refine ⟨⟨by rw [List.length_append]; exact ha.1, hg.owns h.ob fun q hq => fun e => h.nab q e hq, hg.owns h.oc fun q hq => fun e => h.nac q e hq, CellsS.append (CellsS.to hg hto _ _ h.ca) (CellsS.to hg hto _ _ hc), CellsS.to hg hto _ _ h.cb, CellsS.to hg hto _ _ h.cc, fun q hq => ?_, fun q hq => ?_, h.lb, h.lc, fun q hq e => ?_, fun q hq e => ?_, h.nbc⟩, hg⟩
 · obtain ⟨h1, h2, h3, h4, h5⟩ := h.hS q hq
   refine ⟨h1, by omega, fun e => ?_, h4, h5⟩
   rcases hiv q e with e | e
   · exact h3 e
   · omega
 · rcases hiv q hq with e | e
   · exact h.la q e
   · omega
 · rcases hiv q hq with e' | e'
   · exact h.nab q e' e
   · have := ownsRow_lt h.ob e; omega
 · rcases hiv q hq with e' | e'
   · exact h.nac q e' e
   · have := ownsRow_lt h.oc e; omega
end Grow3
structure AtM (lo B p X : Nat) (xc : List Value) (w1 : World) (x : Cell) (ks : List Cell) (kv : Value) (kxs : List Value) (is : List Cell) (iv : Value) (ixs : List Value) (Z : World) (av bv cv : Value) (σ κ τ : List Cell) (axs bxs cxs : List Value) (S : Nat → Prop) : Prop where
 gr : Grow3 lo Z av bv cv σ κ τ axs bxs cxs S
 xb : Z.heap[X]? = some (.cells xc.toArray 35 (0, 0))
 xi : CellS S Z x xc
 sk : SlS S Z 8 kv ks.length kxs
 ck : CellsS S Z ks kxs
 si : SlS S Z 8 iv is.length ixs
 ci : CellsS S Z is ixs
 Xl : lo ≤ X
 Xa : av.ownBlock ≠ some X
 Xb : bv.ownBlock ≠ some X
 Xc : cv.ownBlock ≠ some X
 co : CodeAt B Z p
 pl : p < lo
 Bp : B ≤ p
 lw : lo = w1.heap.size
 frm : Fr (fun q => q = p ∨ lo ≤ q) w1 Z
namespace AtM
variable {lo B p X : Nat} {xc : List Value} {w1 : World} {x : Cell} {ks is : List Cell} {kv iv : Value} {kxs ixs : List Value} {Z Z' : World} {av bv cv av' bv' cv' : Value} {σ κ τ : List Cell} {axs bxs cxs : List Value} {S : Nat → Prop}
theorem quiet (h : AtM lo B p X xc w1 x ks kv kxs is iv ixs Z av bv cv σ κ τ axs bxs cxs S) (hf : Fr (fun _ => False) Z Z') : AtM lo B p X xc w1 x ks kv kxs is iv ixs Z' av bv cv σ κ τ axs bxs cxs S :=
 { h with
   gr := h.gr.fr hf fun _ _ h => h
   xb := (hf.block _ (heap_lt h.xb) (fun h => h)).trans h.xb
   xi := CellS.to hf (fun _ hq => ⟨hq, fun h => h⟩) _ _ h.xi
   sk := h.sk.to hf fun _ hq => ⟨hq, fun h => h⟩
   ck := CellsS.to hf (fun _ hq => ⟨hq, fun h => h⟩) _ _ h.ck
   si := h.si.to hf fun _ hq => ⟨hq, fun h => h⟩
   ci := CellsS.to hf (fun _ hq => ⟨hq, fun h => h⟩) _ _ h.ci
   co := h.co.fr hf (fun h => h) (fun _ _ h => h)
   frm := h.frm.trans hf fun _ _ h => h.elim }
theorem alloc (h : AtM lo B p X xc w1 x ks kv kxs is iv ixs Z av bv cv σ κ τ axs bxs cxs S) (o : Obj) : AtM lo B p X xc w1 x ks kv kxs is iv ixs (Z.alloc o) av bv cv σ κ τ axs bxs cxs S := h.quiet ((Fr.refl _ Z).alloc o)
theorem drew (h : AtM lo B p X xc w1 x ks kv kxs is iv ixs Z av bv cv σ κ τ axs bxs cxs S) : AtM lo B p X xc w1 x ks kv kxs is iv ixs Z.drew av bv cv σ κ τ axs bxs cxs S := h.quiet ((Fr.refl _ Z).drew)
theorem rest (h : AtM lo B p X xc w1 x ks kv kxs is iv ixs Z av bv cv σ κ τ axs bxs cxs S) {v : Value} (hv : ∀ q, v.ownBlock = some q → lo ≤ q) (hvS : ∀ q, S q → v.ownBlock ≠ some q) (hX : v.ownBlock ≠ some X) (h2 : Fr (fun q => v.ownBlock = some q) Z Z') :
 Z'.heap[X]? = some (.cells xc.toArray 35 (0, 0)) ∧ CellS S Z' x xc ∧ SlS S Z' 8 kv ks.length kxs ∧ CellsS S Z' ks kxs ∧ SlS S Z' 8 iv is.length ixs ∧ CellsS S Z' is ixs ∧ CodeAt B Z' p ∧ Fr (fun q => q = p ∨ lo ≤ q) w1 Z' := by
 have hto : ∀ q, S q → S q ∧ ¬ v.ownBlock = some q := fun q hq => ⟨hq, hvS q hq⟩
 have hpl := h.pl
 have hBp := h.Bp
 exact ⟨(h2.block _ (heap_lt h.xb) hX).trans h.xb, CellS.to h2 hto _ _ h.xi, h.sk.to h2 hto, CellsS.to h2 hto _ _ h.ck, h.si.to h2 hto, CellsS.to h2 hto _ _ h.ci, h.co.fr h2 (fun e => by have := hv _ e; omega) (fun q hq e => by have := hv _ e; omega),
  h.frm.trans h2 fun q _ e => .inr (hv q e)⟩
theorem done (h : AtM lo B p X xc w1 x ks kv kxs is iv ixs Z av bv cv σ κ τ axs bxs cxs S) : Fr (fun q => q = p) w1 Z := h.frm.mono fun q hq e => by
 have := h.lw
 rcases e with e | e
 · exact e
 · omega
end AtM
theorem AtM.first {B p : Nat} {w1 wr w2 wx Z : World} {av bv cv kv iv kv0 iv0 : Value} {σ κ τ : List Cell} {axs bxs cxs kxs ixs : List Value} {S : Nat → Prop} {x k i : Cell} (hpl : p < w1.heap.size) (hBp : B ≤ p) (hw : Fr (fun q => q = p) w1 wr) (h2 : Fr (fun q => q = p) wr w2)
 (hg : Grow3 w1.heap.size wr av bv cv σ κ τ axs bxs cxs S) (hx : CellS (New wr w2) w2 x [.int .u64 x.r0, .int .u64 x.r1, .int .u64 x.r2, .int .u64 x.r3, .string x.s, .bool x.null, iv0, kv0])
 (hfx : Fr (fun _ => False) w2 wx) (hsx : wx.heap.size = w2.heap.size + 1) (hZ : Fr (fun q => q = p ∨ q = w2.heap.size) wx Z) (hco : CodeAt B Z p)
 (hxb : Z.heap[w2.heap.size]? = some (.cells #[.int .u64 x.r0, .int .u64 x.r1, .int .u64 x.r2, .int .u64 x.r3, .string x.s, .bool x.null, iv, kv] 35 (0, 0)))
 (hk : SlS (New wx Z) Z 8 kv 1 kxs) (hck : CellsS (New wx Z) Z [k] kxs) (hi : SlS (New wx Z) Z 8 iv 1 ixs) (hci : CellsS (New wx Z) Z [i] ixs) :
 AtM w1.heap.size B p w2.heap.size [.int .u64 x.r0, .int .u64 x.r1, .int .u64 x.r2, .int .u64 x.r3, .string x.s, .bool x.null, iv, kv] w1 (.mk x.r0 x.r1 x.r2 x.r3 x.s x.null [i] [k]) [k] kv kxs [i] iv ixs
  Z av bv cv σ κ τ axs bxs cxs (fun q => S q ∨ New wr Z q) := by
 have s1 := hw.size
 have s2 := h2.size
 have s3 := hZ.size
 have hf25 : Fr (fun q => q = p) w2 Z := ((hfx.mono (S' := fun q => q = p ∨ q = w2.heap.size) (fun _ _ h => h.elim)).trans hZ (fun _ _ h => h)).mono fun q hq h => by omega
 have hfr5 : Fr (fun q => q = p) wr Z := h2.trans hf25 (fun _ _ h => h)
 have hgz := hg.fr hfr5 (fun q hq => by show ¬ q = p; omega)
 have hto : ∀ q, New wx Z q → (S q ∨ New wr Z q) ∧ ¬ False := fun q hq => ⟨.inr ⟨by have := hq.1; omega, hq.2⟩, id⟩
 have hrf := Fr.refl (fun _ => False) Z
 have hk' := hk.to hrf hto
 have hi' := hi.to hrf hto
 have hck' := CellsS.to hrf hto _ _ hck
 have hci' := CellsS.to hrf hto _ _ hci
 exact
  { gr := hgz.wider fun q hq => ⟨by have := hq.1; omega, by have := hq.2; omega, fun e => by have := ownsRow_lt hg.oa e; have := hq.1; omega, fun e => by have := ownsRow_lt hg.ob e; have := hq.1; omega, fun e => by have := ownsRow_lt hg.oc e; have := hq.1; omega⟩
    xb := hxb
    xi := by
     obtain ⟨a, b, d, e, s, nl, is, ks⟩ := x
     unfold CellS at hx ⊢
     obtain ⟨_, _, _, _, _, b0, b1, b2, b3, b4, -⟩ := hx
     exact ⟨_, _, ixs, kxs, rfl, b0, b1, b2, b3, b4, hi', hci', hk', hck'⟩
    sk := hk', ck := hck', si := hi', ci := hci'
    Xl := by omega
    Xa := fun e => by have := ownsRow_lt hg.oa e; omega
    Xb := fun e => by have := ownsRow_lt hg.ob e; omega
    Xc := fun e => by have := ownsRow_lt hg.oc e; omega
    co := hco, pl := hpl, Bp := hBp, lw := rfl
    frm := (hw.trans hfr5 (fun _ _ h => h)).mono fun _ _ h => .inl h }
theorem cells_three {w : World} {q : Nat} {a b c : Value} {t : TypeId} (h : w.heap[q]? = some (.cells #[a, b, c] t (0, 0))) : w.cell? ⟨q, 0, none⟩ = some a ∧ w.cell? ⟨q, 1, none⟩ = some b ∧ w.cell? ⟨q, 2, none⟩ = some c := by
 obtain ⟨h0, h1, h2, -⟩ := res3 h
 exact ⟨h0, h1, h2⟩
end Go.Proofs.YtcidlnjpabgioaaGreatDoor
