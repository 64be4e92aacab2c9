import Derived.Test.YtcidlnjpabgioaaGreatDoorWGCellG
import Derived.Test.YtcidlnjpabgioaaGreatDoorWGLeafK
import Derived.Test.YtcidlnjpabgioaaGreatDoorWGArr
import Derived.Test.YtcidlnjpabgioaaGreatDoorWGByte
namespace Go.Proofs.YtcidlnjpabgioaaGreatDoor
open Go.RowKit
structure iV (lo : Nat) (w : World) (av bv cv : Value) (ls bs cs : List Cell) (axs bxs cxs : List Value) (S : Nat → Prop) : Prop where
 oa : w.ownsRow 0 35 8 av ls.length axs
 ob : w.ownsRow 0 35 8 bv bs.length bxs
 oc : w.ownsRow 0 35 8 cv cs.length cxs
 ca : aO S w ls axs
 cb : aO S w bs bxs
 cc : aO S w cs cxs
 hS : ∀ q, S q → lo ≤ q ∧ q < w.heap.size ∧ av.ownBlock ≠ some q ∧ bv.ownBlock ≠ some q ∧ cv.ownBlock ≠ some q
 la : ∀ q, av.ownBlock = some q → lo ≤ q
 lb : ∀ q, bv.ownBlock = some q → lo ≤ q
 lc : ∀ q, cv.ownBlock = some q → lo ≤ q
 nab : ∀ q, av.ownBlock = some q → bv.ownBlock ≠ some q
 nac : ∀ q, av.ownBlock = some q → cv.ownBlock ≠ some q
 nbc : ∀ q, bv.ownBlock = some q → cv.ownBlock ≠ some q
namespace iV
variable {lo : Nat} {w w' w1 : World} {av av' bv cv : Value} {ls bs cs ds : List Cell} {axs bxs cxs xs : List Value} {S S' F : Nat → Prop}
theorem nil (lo : Nat) (w : World) : iV lo w (.slice none 0 0) (.slice none 0 0) (.slice none 0 0) [] [] [] [] [] [] (fun _ => False) :=
 ⟨World.ownsRow_nil _ _ _ _, World.ownsRow_nil _ _ _ _, World.ownsRow_nil _ _ _ _, aO.nil, aO.nil, aO.nil, fun _ h => h.elim, by simp [Value.ownBlock], by simp [Value.ownBlock], by simp [Value.ownBlock], by simp [Value.ownBlock], by simp [Value.ownBlock], by simp [Value.ownBlock]⟩
theorem rot (h : iV lo w av bv cv ls bs cs axs bxs cxs S) : iV lo w bv cv av bs cs ls bxs cxs axs S :=
 ⟨h.ob, h.oc, h.oa, h.cb, h.cc, h.ca, fun q hq => let ⟨a, b, c, d, e⟩ := h.hS q hq; ⟨a, b, d, e, c⟩, h.lb, h.lc, h.la, h.nbc, fun q h1 h2 => h.nab q h2 h1, fun q h1 h2 => h.nac q h2 h1⟩
theorem fr (h : iV lo w av bv cv ls bs cs axs bxs cxs S) (hf : Fr F w w') (hF : ∀ q, lo ≤ q → ¬ F q) : iV lo w' av bv cv ls bs cs axs bxs cxs S :=
 ⟨hf.owns h.oa fun q hq => hF q (h.la q hq), hf.owns h.ob fun q hq => hF q (h.lb q hq), hf.owns h.oc fun q hq => hF q (h.lc q hq), aO.to hf (fun q hq => ⟨hq, hF q (h.hS q hq).1⟩) _ _ h.ca, aO.to hf (fun q hq => ⟨hq, hF q (h.hS q hq).1⟩) _ _ h.cb, aO.to hf (fun q hq => ⟨hq, hF q (h.hS q hq).1⟩) _ _ h.cc,
  fun q hq => let ⟨a, b, c⟩ := h.hS q hq; ⟨a, Nat.lt_of_lt_of_le b hf.size, c⟩, h.la, h.lb, h.lc, h.nab, h.nac, h.nbc⟩
theorem wider (h : iV lo w av bv cv ls bs cs axs bxs cxs S) (hS' : ∀ q, S' q → lo ≤ q ∧ q < w.heap.size ∧ av.ownBlock ≠ some q ∧ bv.ownBlock ≠ some q ∧ cv.ownBlock ≠ some q) : iV lo w av bv cv ls bs cs axs bxs cxs (fun q => S q ∨ S' q) :=
 ⟨h.oa, h.ob, h.oc, h.ca.mono fun _ => .inl, h.cb.mono fun _ => .inl, h.cc.mono fun _ => .inl, fun q hq => hq.elim (h.hS q) (hS' q), h.la, h.lb, h.lc, h.nab, h.nac, h.nbc⟩
theorem many (hlo : lo ≤ w.heap.size) (h : iV lo w av bv cv ls bs cs axs bxs cxs S) (hc : aO S w ds xs) (ha : dA w w1 35 8 av av' (ls.length + ds.length) (axs ++ xs)) :
 iV lo w1 av' bv cv (ls ++ ds) bs cs (axs ++ xs) bxs cxs S ∧ Fr (fun q => av.ownBlock = some q) w w1 := by
 have hg := Fr.iU ha.2.1
 have hs := hg.size
 have hiv : ∀ q, av'.ownBlock = some q → av.ownBlock = some q ∨ q = w.heap.size := fun q hq => by
  rcases ha.2.2 with e | e
  · exact .inl (e ▸ hq)
  · rw [e] at hq
    simp only [Option.some.injEq] at hq
    exact .inr hq.symm
 have hto : ∀ q, S q → S q ∧ ¬ av.ownBlock = some q := fun q hq => ⟨hq, (h.hS q hq).2.2.1⟩
 refine ⟨⟨by rw [List.length_append]; exact ha.1, hg.owns h.ob fun q hq => fun e => h.nab q e hq, hg.owns h.oc fun q hq => fun e => h.nac q e hq, aO.append (aO.to hg hto _ _ h.ca) (aO.to hg hto _ _ hc), aO.to hg hto _ _ h.cb, aO.to hg hto _ _ h.cc, fun q hq => ?_, fun q hq => ?_, h.lb, h.lc, fun q hq e => ?_, fun q hq e => ?_, h.nbc⟩, hg⟩
 · obtain ⟨h1, h2, h3, h4, h5⟩ := h.hS q hq
   refine ⟨h1, by omega, fun e => ?_, h4, h5⟩
   rcases hiv q e with e | e
   · exact h3 e
   · omega
 · rcases hiv q hq with e | e
   · exact h.la q e
   · omega
 · rcases hiv q hq with e' | e'
   · exact h.nab q e' e
   · have := aK h.ob e; omega
 · rcases hiv q hq with e' | e'
   · exact h.nac q e' e
   · have := aK h.oc e; omega
end iV
structure AtM (lo B p X : Nat) (xc : List Value) (w1 : World) (x : Cell) (ks : List Cell) (kv : Value) (kxs : List Value) (is : List Cell) (iv : Value) (ixs : List Value) (Z : World) (av bv cv : Value) (σ κ τ : List Cell) (axs bxs cxs : List Value) (S : Nat → Prop) : Prop where
 gr : iV lo Z av bv cv σ κ τ axs bxs cxs S
 xb : Z.heap[X]? = some (.cells xc.toArray 35 (0, 0))
 xi : bK S Z x xc
 sk : SlS S Z 8 kv ks.length kxs
 ck : aO S Z ks kxs
 si : SlS S Z 8 iv is.length ixs
 ci : aO S Z is ixs
 Xl : lo ≤ X
 Xa : av.ownBlock ≠ some X
 Xb : bv.ownBlock ≠ some X
 Xc : cv.ownBlock ≠ some X
 co : bM B Z p
 pl : p < lo
 Bp : B ≤ p
 lw : lo = w1.heap.size
 frm : Fr (fun q => q = p ∨ lo ≤ q) w1 Z
namespace AtM
variable {lo B p X : Nat} {xc : List Value} {w1 : World} {x : Cell} {ks is : List Cell} {kv iv : Value} {kxs ixs : List Value} {Z Z' : World} {av bv cv av' bv' cv' : Value} {σ κ τ : List Cell} {axs bxs cxs : List Value} {S : Nat → Prop}
theorem quiet (h : AtM lo B p X xc w1 x ks kv kxs is iv ixs Z av bv cv σ κ τ axs bxs cxs S) (hf : Fr (fun _ => False) Z Z') : AtM lo B p X xc w1 x ks kv kxs is iv ixs Z' av bv cv σ κ τ axs bxs cxs S :=
 { h with
   gr := h.gr.fr hf fun _ _ h => h
   xb := (hf.block _ (aH h.xb) (fun h => h)).trans h.xb
   xi := bK.to hf (fun _ hq => ⟨hq, fun h => h⟩) _ _ h.xi
   sk := h.sk.to hf fun _ hq => ⟨hq, fun h => h⟩
   ck := aO.to hf (fun _ hq => ⟨hq, fun h => h⟩) _ _ h.ck
   si := h.si.to hf fun _ hq => ⟨hq, fun h => h⟩
   ci := aO.to hf (fun _ hq => ⟨hq, fun h => h⟩) _ _ h.ci
   co := h.co.fr hf (fun h => h) (fun _ _ h => h)
   frm := h.frm.trans hf fun _ _ h => h.elim }
theorem alloc (h : AtM lo B p X xc w1 x ks kv kxs is iv ixs Z av bv cv σ κ τ axs bxs cxs S) (o : Obj) : AtM lo B p X xc w1 x ks kv kxs is iv ixs (Z.alloc o) av bv cv σ κ τ axs bxs cxs S := h.quiet ((Fr.refl _ Z).alloc o)
theorem drew (h : AtM lo B p X xc w1 x ks kv kxs is iv ixs Z av bv cv σ κ τ axs bxs cxs S) : AtM lo B p X xc w1 x ks kv kxs is iv ixs Z.drew av bv cv σ κ τ axs bxs cxs S := h.quiet ((Fr.refl _ Z).drew)
theorem rest (h : AtM lo B p X xc w1 x ks kv kxs is iv ixs Z av bv cv σ κ τ axs bxs cxs S) {v : Value} (hv : ∀ q, v.ownBlock = some q → lo ≤ q) (hvS : ∀ q, S q → v.ownBlock ≠ some q) (hX : v.ownBlock ≠ some X) (h2 : Fr (fun q => v.ownBlock = some q) Z Z') :
 Z'.heap[X]? = some (.cells xc.toArray 35 (0, 0)) ∧ bK S Z' x xc ∧ SlS S Z' 8 kv ks.length kxs ∧ aO S Z' ks kxs ∧ SlS S Z' 8 iv is.length ixs ∧ aO S Z' is ixs ∧ bM B Z' p ∧ Fr (fun q => q = p ∨ lo ≤ q) w1 Z' := by
 have hto : ∀ q, S q → S q ∧ ¬ v.ownBlock = some q := fun q hq => ⟨hq, hvS q hq⟩
 have hpl := h.pl
 have hBp := h.Bp
 exact ⟨(h2.block _ (aH h.xb) hX).trans h.xb, bK.to h2 hto _ _ h.xi, h.sk.to h2 hto, aO.to h2 hto _ _ h.ck, h.si.to h2 hto, aO.to h2 hto _ _ h.ci, h.co.fr h2 (fun e => by have := hv _ e; omega) (fun q hq e => by have := hv _ e; omega),
  h.frm.trans h2 fun q _ e => .inr (hv q e)⟩
theorem aIP (h : AtM lo B p X xc w1 x ks kv kxs is iv ixs Z av bv cv σ κ τ axs bxs cxs S) (ha : dA Z Z' 35 8 av av' (σ.length + 1) (axs ++ xc)) : AtM lo B p X xc w1 x ks kv kxs is iv ixs Z' av' bv cv (σ ++ [x]) κ τ (axs ++ xc) bxs cxs S := by
 have hz : lo ≤ Z.heap.size := by have := h.frm.size; have := h.lw; omega
 obtain ⟨h1, h2⟩ := iV.many (ds := [x]) hz h.gr (aO.one h.xi) ha
 have hXZ := aH h.xb
 obtain ⟨e1, e2, e3, e4, e5, e6, e7, e8⟩ := h.rest h.gr.la (fun q hq => (h.gr.hS q hq).2.2.1) h.Xa h2
 exact { h with
         gr := h1, xb := e1, xi := e2, sk := e3, ck := e4, si := e5, ci := e6, co := e7, frm := e8
         Xa := fun e => by
          rcases AtR.own ha _ e with e | e
          · exact h.Xa e
          · omega }
theorem pushB (h : AtM lo B p X xc w1 x ks kv kxs is iv ixs Z av bv cv σ κ τ axs bxs cxs S) (ha : dA Z Z' 35 8 bv bv' (κ.length + ks.length) (bxs ++ kxs)) : AtM lo B p X xc w1 x ks kv kxs is iv ixs Z' av bv' cv σ (κ ++ ks) τ axs (bxs ++ kxs) cxs S := by
 have hz : lo ≤ Z.heap.size := by have := h.frm.size; have := h.lw; omega
 obtain ⟨h1, h2⟩ := iV.many hz h.gr.rot h.ck ha
 have hXZ := aH h.xb
 obtain ⟨e1, e2, e3, e4, e5, e6, e7, e8⟩ := h.rest h.gr.lb (fun q hq => (h.gr.hS q hq).2.2.2.1) h.Xb h2
 exact { h with
         gr := h1.rot.rot, xb := e1, xi := e2, sk := e3, ck := e4, si := e5, ci := e6, co := e7, frm := e8
         Xb := fun e => by
          rcases AtR.own ha _ e with e | e
          · exact h.Xb e
          · omega }
theorem aIz (h : AtM lo B p X xc w1 x ks kv kxs is iv ixs Z av bv cv σ κ τ axs bxs cxs S) (ha : dA Z Z' 35 8 cv cv' (τ.length + is.length) (cxs ++ ixs)) : AtM lo B p X xc w1 x ks kv kxs is iv ixs Z' av bv cv' σ κ (τ ++ is) axs bxs (cxs ++ ixs) S := by
 have hz : lo ≤ Z.heap.size := by have := h.frm.size; have := h.lw; omega
 obtain ⟨h1, h2⟩ := iV.many hz h.gr.rot.rot h.ci ha
 have hXZ := aH h.xb
 obtain ⟨e1, e2, e3, e4, e5, e6, e7, e8⟩ := h.rest h.gr.lc (fun q hq => (h.gr.hS q hq).2.2.2.2) h.Xc h2
 exact { h with
         gr := h1.rot, xb := e1, xi := e2, sk := e3, ck := e4, si := e5, ci := e6, co := e7, frm := e8
         Xc := fun e => by
          rcases AtR.own ha _ e with e | e
          · exact h.Xc e
          · omega }
theorem done (h : AtM lo B p X xc w1 x ks kv kxs is iv ixs Z av bv cv σ κ τ axs bxs cxs S) : Fr (fun q => q = p) w1 Z := h.frm.mono fun q hq e => by
 have := h.lw
 rcases e with e | e
 · exact e
 · omega
end AtM
theorem kY {w : World} {q : Nat} {a b c d e f g k k' : Value} (h : w.heap[q]? = some (.cells #[a, b, c, d, e, f, g, k] 35 (0, 0))) : (w.setCell ⟨q, 7, none⟩ k').heap[q]? = some (.cells #[a, b, c, d, e, f, g, k'] 35 (0, 0)) := by
 simp [World.setCell, Array.getElem?_modify, h]
theorem bC {w0 W W' : World} {F : Nat → Prop} (hs : Fr F W W') (h : ∀ q, w0.heap.size ≤ q → ¬ F q) : ∀ q, New w0 W q → New w0 W' q ∧ ¬ F q := fun q hq => ⟨⟨hq.1, Nat.lt_of_lt_of_le hq.2 hs.size⟩, h q hq.1⟩
theorem kE {w0 W : World} {xs : List Value} (hl : xs.length = 8) (h : w0.heap.size ≤ W.heap.size) : SlS (New w0 (W.alloc (.cells xs.toArray 35))) (W.alloc (.cells xs.toArray 35)) 8 (.slice (some ⟨W.heap.size, 0, none⟩) 1 1) 1 xs := by
 refine ⟨by omega, some ⟨W.heap.size, 0, none⟩, 1, rfl, Nat.le_refl _, by decide, nofun, fun ad had => ?_⟩
 cases had
 exact ⟨⟨h, by simp⟩, rfl, aW W xs _⟩
theorem AtM.first {B p : Nat} {w1 wr w2 wx Z : World} {av bv cv kv iv kv0 iv0 : Value} {σ κ τ : List Cell} {axs bxs cxs kxs ixs : List Value} {S : Nat → Prop} {x k i : Cell} (hpl : p < w1.heap.size) (hBp : B ≤ p) (hw : Fr (fun q => q = p) w1 wr) (h2 : Fr (fun q => q = p) wr w2)
 (hg : iV w1.heap.size wr av bv cv σ κ τ axs bxs cxs S) (hx : bK (New wr w2) w2 x [.int .u64 x.r0, .int .u64 x.r1, .int .u64 x.r2, .int .u64 x.r3, .string x.s, .bool x.null, iv0, kv0])
 (hfx : Fr (fun _ => False) w2 wx) (hsx : wx.heap.size = w2.heap.size + 1) (hZ : Fr (fun q => q = p ∨ q = w2.heap.size) wx Z) (hco : bM B Z p)
 (hxb : Z.heap[w2.heap.size]? = some (.cells #[.int .u64 x.r0, .int .u64 x.r1, .int .u64 x.r2, .int .u64 x.r3, .string x.s, .bool x.null, iv, kv] 35 (0, 0)))
 (hk : SlS (New wx Z) Z 8 kv 1 kxs) (hck : aO (New wx Z) Z [k] kxs) (hi : SlS (New wx Z) Z 8 iv 1 ixs) (hci : aO (New wx Z) Z [i] ixs) :
 AtM w1.heap.size B p w2.heap.size [.int .u64 x.r0, .int .u64 x.r1, .int .u64 x.r2, .int .u64 x.r3, .string x.s, .bool x.null, iv, kv] w1 (.mk x.r0 x.r1 x.r2 x.r3 x.s x.null [i] [k]) [k] kv kxs [i] iv ixs
  Z av bv cv σ κ τ axs bxs cxs (fun q => S q ∨ New wr Z q) := by
 have s1 := hw.size
 have s2 := h2.size
 have s3 := hZ.size
 have hf25 : Fr (fun q => q = p) w2 Z := ((hfx.mono (S' := fun q => q = p ∨ q = w2.heap.size) (fun _ _ h => h.elim)).trans hZ (fun _ _ h => h)).mono fun q hq h => by omega
 have hfr5 : Fr (fun q => q = p) wr Z := h2.trans hf25 (fun _ _ h => h)
 have hgz := hg.fr hfr5 (fun q hq => by show ¬ q = p; omega)
 have hto : ∀ q, New wx Z q → (S q ∨ New wr Z q) ∧ ¬ False := fun q hq => ⟨.inr ⟨by have := hq.1; omega, hq.2⟩, id⟩
 have hrf := Fr.refl (fun _ => False) Z
 have hk' := hk.to hrf hto
 have hi' := hi.to hrf hto
 have hck' := aO.to hrf hto _ _ hck
 have hci' := aO.to hrf hto _ _ hci
 exact
  { gr := hgz.wider fun q hq => ⟨by have := hq.1; omega, by have := hq.2; omega, fun e => by have := aK hg.oa e; have := hq.1; omega, fun e => by have := aK hg.ob e; have := hq.1; omega, fun e => by have := aK hg.oc e; have := hq.1; omega⟩
    xb := hxb
    xi := by
     obtain ⟨a, b, d, e, s, nl, is, ks⟩ := x
     unfold bK at hx ⊢
     obtain ⟨_, _, _, _, _, b0, b1, b2, b3, b4, -⟩ := hx
     exact ⟨_, _, ixs, kxs, rfl, b0, b1, b2, b3, b4, hi', hci', hk', hck'⟩
    sk := hk', ck := hck', si := hi', ci := hci'
    Xl := by omega
    Xa := fun e => by have := aK hg.oa e; omega
    Xb := fun e => by have := aK hg.ob e; omega
    Xc := fun e => by have := aK hg.oc e; omega
    co := hco, pl := hpl, Bp := hBp, lw := rfl
    frm := (hw.trans hfr5 (fun _ _ h => h)).mono fun _ _ h => .inl h }
theorem iR {w : World} {q : Nat} {a b c : Value} {t : TypeId} (h : w.heap[q]? = some (.cells #[a, b, c] t (0, 0))) : w.cell? ⟨q, 0, none⟩ = some a ∧ w.cell? ⟨q, 1, none⟩ = some b ∧ w.cell? ⟨q, 2, none⟩ = some c := by
 obtain ⟨h0, h1, h2, -⟩ := pG h
 exact ⟨h0, h1, h2⟩
theorem qM : ∀ (cs : List Cell), wts (cs.flatMap Cell.keys) + cs.length ≤ wts cs
 | [] => by simp [wts]
 | c :: cs => by
  have h1 := qM cs
  have h2 := Cell.jW c
  rw [List.flatMap_cons, dV, wts, List.length_cons]
  omega
end Go.Proofs.YtcidlnjpabgioaaGreatDoor
namespace Go.Proofs.YtcidlnjpabgioaaGreatDoor
open Go.RowKit
theorem aBR (c : Cell) : c.keyed.keyed = c.keyed := rfl
theorem oL : ∀ (l acc : List Cell), aU acc (l.map Cell.keyed) = aU acc l
 | [], _ => rfl
 | c :: cs, acc => by
  rw [List.map_cons, aU, aU, aBR]
  exact oL cs _
theorem aAK (l : List Cell) : nN (l.map Cell.keyed) = nN l := by
 cases l with
 | nil => rfl
 | cons c cs =>
  unfold nN
  rw [oL, List.length_map, List.flatMap_map, if_neg (by simp), if_neg (by simp)]
  rfl
theorem aGY {k : Ty} (hk : k.dS ∨ k = .low) (l : List Cell) : enc k (l.map Cell.keyed) = enc k l := by
 rcases hk with hk | rfl
 · cases k with
   | num n => rw [enc, enc, List.flatMap_map]; rfl
   | str => rw [enc, enc, List.flatMap_map]; rfl
   | fix n => rw [enc, enc, List.flatMap_map]; rfl
   | _ => exact hk.elim
 · rw [enc, enc, aAK]
theorem zip_fst {α β : Type} : ∀ (a : List α) (b : List β), a.length = b.length → (a.zip b).map (·.1) = a
 | [], [], _ => rfl
 | a :: ls, b :: bs, h => by rw [List.zip_cons_cons, List.map_cons, zip_fst ls bs (by simpa using h)]
theorem aFm {α β : Type} : ∀ (a : List α) (b : List β), a.length = b.length → (a.zip b).map (·.2) = b
 | [], [], _ => rfl
 | a :: ls, b :: bs, h => by rw [List.zip_cons_cons, List.map_cons, aFm ls bs (by simpa using h)]
theorem xJ : ∀ (σ : List Cell), (∀ c ∈ σ, c.keys.length = c.items.length) → (σ.flatMap fun c => c.pairs.map fun p => p.1.keyed) = (σ.flatMap Cell.keys).map Cell.keyed
 | [], _ => rfl
 | c :: cs, h => by
  rw [List.flatMap_cons, List.flatMap_cons, List.map_append, xJ cs (fun x hx => h x (by simp [hx]))]
  congr 1
  have := zip_fst c.keys c.items (h c (by simp))
  rw [← this, List.map_map]
  rfl
theorem tJ : ∀ (σ : List Cell), (∀ c ∈ σ, c.keys.length = c.items.length) → (σ.flatMap fun c => c.pairs.map (·.2)) = σ.flatMap Cell.items
 | [], _ => rfl
 | c :: cs, h => by
  rw [List.flatMap_cons, List.flatMap_cons, tJ cs (fun x hx => h x (by simp [hx]))]
  congr 1
  exact aFm c.keys c.items (h c (by simp))
theorem pU {f g : Cell → Nat} : ∀ (n : Nat) (σ : List Cell), (∀ c ∈ σ, f c = g c) → offsets f n σ = offsets g n σ
 | _, [], _ => rfl
 | n, c :: cs, h => by
  rw [offsets, offsets, h c (by simp), pU _ cs (fun x hx => h x (by simp [hx]))]
theorem aJE {k v : Ty} (hk : k.dS ∨ k = .low) {σ : List Cell} (hσ : σ ≠ []) (h : ∀ c ∈ σ, c.keys.length = c.items.length) :
 aV (enc (.map k v) σ) = aV (offsets gW 0 σ) ++ aV (enc k (σ.flatMap Cell.keys)) ++ aV (enc v (σ.flatMap Cell.items)) := by
 rw [enc, if_neg hσ, xJ σ h, tJ σ h, aGY hk, ← dY, ← dY, pU (f := fun c => c.pairs.length) (g := gW) 0 σ fun c hc => by
  show (c.keys.zip c.items).length = c.items.length
  rw [List.length_zip, h c hc, Nat.min_self]]
end Go.Proofs.YtcidlnjpabgioaaGreatDoor
