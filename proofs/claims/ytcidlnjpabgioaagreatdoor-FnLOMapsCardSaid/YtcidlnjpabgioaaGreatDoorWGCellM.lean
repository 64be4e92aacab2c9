import Derived.Test.YtcidlnjpabgioaaGreatDoorWGBase
import Derived.Lib.Hide
import Derived.Test.YtcidlnjpabgioaaGreatDoorWGCellG
import Derived.Test.YtcidlnjpabgioaaGreatDoorWGArr
set_option maxHeartbeats 8000000
set_option maxRecDepth 100000
namespace Go.Proofs.YtcidlnjpabgioaaGreatDoor
open Go.RowKit
section
variable {P : Program} {ops : Array Oper} {Q : Exit → Act → World → Prop} {md : Region.Mode} {T S : World → Prop} {z : Nat}
def Goes (P : Program) (md : Region.Mode) (ops : Array Oper) (Q : Exit → Act → World → Prop) (T S : World → Prop) (z : Nat) : Nat → Array Bool → Act → World → Prop
 | 0, got, a, w => Region.ready md ops got = [] ∧ Q .normal a w
 | n + 1, got, a, w => (Region.ready md ops got = [] → Q .normal a w) ∧
  ∀ j ∈ Region.ready md ops got, wpOp P ops Q j (fun b v => (T v ∧ ((got.setIfInBounds j true).getD z true = false → S v)) ∧ Goes P md ops Q T S z n (got.setIfInBounds j true) b v) a w
theorem Goes.any : ∀ {n : Nat} {got : Array Bool} {a : Act} {w : World}, Goes P md ops Q T S z n got a w → wpAny P md ops Q n got a w
 | 0, _, _, _, h => h
 | _ + 1, _, _, _, h => ⟨h.1, fun j hj => wpOp_mono (fun _ _ h' => h'.2.any) (h.2 j hj)⟩
theorem Goes.region {id : Nat} {a : Act} {w : World} (hm : P.follows .mixedOrders = true) (h : Goes P .any ops Q T S z ops.size (Array.replicate ops.size false) a w.drew) : (Code.region id ops true).wp P Q a w :=
 wp_region_any hm h.any
theorem aFs {i j : Nat} {o : Oper} {got : Array Bool} (hj : j ∈ Region.ready md ops got) (ho : ops[j]? = some o) (hi : got.getD i true = false) : ∀ e ∈ o.after, Region.binds md e = true → e.on ≠ i := fun e he hb heq => by
 obtain ⟨_, o', ho', hall⟩ := mem_ready.1 hj
 cases ho.symm.trans ho'
 have h1 := hall e he hb
 rw [heq] at h1
 rcases Nat.lt_or_ge i got.size with h | h
 · simp [h] at hi h1
   rw [hi] at h1
   cases h1
 · simp [Array.getElem?_eq_none h] at h1
theorem Goes.firstT {i : Nat} {o : Oper} {u : Value} (hi : ops[i]? = some o) (hsel : ∀ (j : Nat) (o : Oper) cs b, ops[j]? = some o → o.op ≠ .select cs b) (hQ : ∀ c a w, Q (.panic c) (a.put o.dst u) w → Q (.panic c) a w) (hiz : i ≠ z) :
 ∀ {n : Nat} {got : Array Bool} {a : Act} {w : World}, (∀ j oj, ops[j]? = some oj → j ≠ i → got.getD j true = false → (∀ e ∈ oj.after, Region.binds md e = true → e.on ≠ i) → o.apart ops oj = true) → i ∈ Region.ready md ops got → YieldsIf P ops T o u a → T w → (got.getD z true = false → S w) →
  Goes P md ops Q T S z n (got.setIfInBounds i true) (a.put o.dst u) w → Goes P md ops Q T S z (n + 1) got a w := by
 intro n
 induction n with
 | zero =>
  intro got a w hfree hr hy hT hS H
  refine ⟨fun h => (by rw [h] at hr; cases hr), fun j hj => ?_⟩
  rcases Decidable.em (j = i) with rfl | hne
  · exact hy.wpOp hi hT ⟨⟨hT, fun h => hS (by rw [getD_set_ne true hiz] at h; exact h)⟩, H⟩
  · have hj' := ready_mono hj hne
    rw [H.1] at hj'
    cases hj'
 | succ n ih =>
  intro got a w hfree hr hy hT hS H
  refine ⟨fun h => (by rw [h] at hr; cases hr), fun j hj => ?_⟩
  rcases Decidable.em (j = i) with rfl | hne
  · exact hy.wpOp hi hT ⟨⟨hT, fun h => hS (by rw [getD_set_ne true hiz] at h; exact h)⟩, H⟩
  · obtain ⟨hun, oj, hoj, _⟩ := mem_ready.1 hj
    have hno := aFs hj hoj (mem_ready.1 hr).1
    have step := wpOp_putIf hoj (hfree j oj hoj hne hun hno) (fun cs b => hsel i o cs b hi) (fun cs b => hsel j oj cs b hoj) hQ hy (H.2 j (ready_mono hj hne))
    refine wpOp_mono (fun b v h3 => ?_) step
    have hSv : (got.setIfInBounds j true).getD z true = false → S v := fun h => h3.2.1.2 (by rw [Array.setIfInBounds_comm _ _ (Ne.symm hne), getD_set_ne true hiz]; exact h)
    refine ⟨⟨h3.2.1.1, hSv⟩, ih (fun k ok hk hki hkun hkno => hfree k ok hk hki ?_ hkno) (ready_mono hr (Ne.symm hne)) h3.1 h3.2.1.1 hSv ?_⟩
    · rcases Decidable.em (j = k) with rfl | hjk
      · exact hun
      · rw [getD_set_ne true hjk] at hkun
        exact hkun
    · rw [Array.setIfInBounds_comm _ _ hne]
      exact h3.2.2
theorem Goes.aKz {i : Nat} {o oz : Oper} {u : Value} (hi : ops[i]? = some o) (hsel : ∀ (j : Nat) (o : Oper) cs b, ops[j]? = some o → o.op ≠ .select cs b) (hQ : ∀ c a w, Q (.panic c) (a.put o.dst u) w → Q (.panic c) a w) (hiz : i ≠ z) (hz : ops[z]? = some oz) (hwait : ∃ e ∈ oz.after, Region.binds md e = true ∧ e.on = i) :
 ∀ {n : Nat} {got : Array Bool} {a : Act} {w : World}, (∀ j oj, ops[j]? = some oj → j ≠ i → got.getD j true = false → (∀ e ∈ oj.after, Region.binds md e = true → e.on ≠ i) → o.apart ops oj = true) → i ∈ Region.ready md ops got → got.getD z true = false → YieldsIf P ops (fun v => T v ∧ S v) o u a → T w → S w →
  Goes P md ops Q T S z n (got.setIfInBounds i true) (a.put o.dst u) w → Goes P md ops Q T S z (n + 1) got a w := by
 intro n
 induction n with
 | zero =>
  intro got a w hfree hr hgz hy hT hS H
  refine ⟨fun h => (by rw [h] at hr; cases hr), fun j hj => ?_⟩
  rcases Decidable.em (j = i) with rfl | hne
  · exact hy.wpOp hi ⟨hT, hS⟩ ⟨⟨hT, fun _ => hS⟩, H⟩
  · have hj' := ready_mono hj hne
    rw [H.1] at hj'
    cases hj'
 | succ n ih =>
  intro got a w hfree hr hgz hy hT hS H
  refine ⟨fun h => (by rw [h] at hr; cases hr), fun j hj => ?_⟩
  rcases Decidable.em (j = i) with rfl | hne
  · exact hy.wpOp hi ⟨hT, hS⟩ ⟨⟨hT, fun _ => hS⟩, H⟩
  · obtain ⟨hun, oj, hoj, _⟩ := mem_ready.1 hj
    have hno := aFs hj hoj (mem_ready.1 hr).1
    have hjz : j ≠ z := fun e => by
     subst e
     obtain ⟨e, he, hb, hon⟩ := hwait
     cases hoj.symm.trans hz
     exact hno e he hb hon
    have hgz' : (got.setIfInBounds j true).getD z true = false := by rw [getD_set_ne true hjz]; exact hgz
    have step := wpOp_putIf hoj (hfree j oj hoj hne hun hno) (fun cs b => hsel i o cs b hi) (fun cs b => hsel j oj cs b hoj) hQ hy (H.2 j (ready_mono hj hne))
    refine wpOp_mono (fun b v h3 => ?_) step
    have hSv : S v := h3.2.1.2 (by rw [getD_set_ne true hjz, getD_set_ne true hiz]; exact hgz)
    refine ⟨⟨h3.2.1.1, fun _ => hSv⟩, ih (fun k ok hk hki hkun hkno => hfree k ok hk hki ?_ hkno) (ready_mono hr (Ne.symm hne)) hgz' h3.1 h3.2.1.1 hSv ?_⟩
    · rcases Decidable.em (j = k) with rfl | hjk
      · exact hun
      · rw [getD_set_ne true hjk] at hkun
        exact hkun
    · rw [Array.setIfInBounds_comm _ _ hne]
      exact h3.2.2
theorem Goes.dM {i : Nat} {o : Oper} {u : Value} {n : Nat} {got : Array Bool} {a : Act} {w : World} (hi : ops[i]? = some o) (hiz : (i == z) = false)
 (hs : Region.noSelect ops = true) (hf : Region.free md ops got i = true) (hr : (Region.ready md ops got).contains i = true)
 (hQ : ∀ c a w, Q (.panic c) (a.put o.dst u) w → Q (.panic c) a w) (hw : Region.wanted o (yielded ops a.tmps) = true) (hT : T w) (hS : got.getD z true = false → S w) (hy : ∀ w, T w → (execOp a.eval o).run P w = .ok (.value u) w)
 (h : Goes P md ops Q T S z n (got.setIfInBounds i true) (a.put o.dst u) w) : Goes P md ops Q T S z (n + 1) got a w :=
 Goes.firstT hi (Region.noSelect_spec hs) hQ (by simpa using hiz) (Region.free_spec hi hf) (by simpa using hr) (.inl ⟨hw, hy⟩) hT hS h
theorem Goes.aKt {i : Nat} {o oz : Oper} {u : Value} {n : Nat} {got : Array Bool} {a : Act} {w : World} (hi : ops[i]? = some o) (hiz : (i == z) = false) (hz : ops[z]? = some oz) (hwait : (oz.after.any fun e => Region.binds md e && e.on == i) = true)
 (hs : Region.noSelect ops = true) (hf : Region.free md ops got i = true) (hr : (Region.ready md ops got).contains i = true) (hgz : got.getD z true = false)
 (hQ : ∀ c a w, Q (.panic c) (a.put o.dst u) w → Q (.panic c) a w) (hw : Region.wanted o (yielded ops a.tmps) = true) (hT : T w) (hS : S w) (hy : ∀ w, T w ∧ S w → (execOp a.eval o).run P w = .ok (.value u) w)
 (h : Goes P md ops Q T S z n (got.setIfInBounds i true) (a.put o.dst u) w) : Goes P md ops Q T S z (n + 1) got a w := by
 refine Goes.aKz hi (Region.noSelect_spec hs) hQ (by simpa using hiz) hz ?_ (Region.free_spec hi hf) (by simpa using hr) hgz (.inl ⟨hw, hy⟩) hT hS h
 obtain ⟨e, he, hb⟩ := Array.any_eq_true'.1 hwait
 simp only [Bool.and_eq_true, beq_iff_eq] at hb
 exact ⟨e, he, hb.1, hb.2⟩
theorem Goes.one {i : Nat} {n : Nat} {got : Array Bool} {a : Act} {w : World} {o : Oper} (hr : Region.ready md ops got = [i]) (ho : ops[i]? = some o)
 (h : ∀ K : Act → World → Prop, Hid (∀ b v, T v → ((got.setIfInBounds i true).getD z true = false → S v) → Goes P md ops Q T S z n (got.setIfInBounds i true) b v → K b v) → if Region.wanted o (yielded ops a.tmps) = true then Oper.wp P o a w K Q else K (a.put o.dst undef) w) : Goes P md ops Q T S z (n + 1) got a w :=
 ⟨fun e => (by rw [hr] at e; cases e), fun j hj => by
  rw [hr, List.mem_singleton] at hj
  subst hj
  exact wpOp_step ho fun K hK => h K (Lib.hid fun b v h0 h1 h2 => hK b v ⟨⟨h0, h1⟩, h2⟩)⟩
theorem Goes.two {i j : Nat} {n : Nat} {got : Array Bool} {a : Act} {w : World} {o o' : Oper} (hr : Region.ready md ops got = [i, j]) (ho : ops[i]? = some o) (ho' : ops[j]? = some o')
 (h : ∀ K : Act → World → Prop, Hid (∀ b v, T v → ((got.setIfInBounds i true).getD z true = false → S v) → Goes P md ops Q T S z n (got.setIfInBounds i true) b v → K b v) → if Region.wanted o (yielded ops a.tmps) = true then Oper.wp P o a w K Q else K (a.put o.dst undef) w)
 (h' : ∀ K : Act → World → Prop, Hid (∀ b v, T v → ((got.setIfInBounds j true).getD z true = false → S v) → Goes P md ops Q T S z n (got.setIfInBounds j true) b v → K b v) → if Region.wanted o' (yielded ops a.tmps) = true then Oper.wp P o' a w K Q else K (a.put o'.dst undef) w) : Goes P md ops Q T S z (n + 1) got a w :=
 ⟨fun e => (by rw [hr] at e; cases e), fun k hk => by
  rw [hr, List.mem_cons, List.mem_singleton] at hk
  rcases hk with rfl | rfl
  · exact wpOp_step ho fun K hK => h K (Lib.hid fun b v h0 h1 h2 => hK b v ⟨⟨h0, h1⟩, h2⟩)
  · exact wpOp_step ho' fun K hK => h' K (Lib.hid fun b v h0 h1 h2 => hK b v ⟨⟨h0, h1⟩, h2⟩)⟩
theorem Goes.done {n : Nat} {got : Array Bool} {a : Act} {w : World} (hr : Region.ready md ops got = []) (h : Q .normal a w) : Goes P md ops Q T S z n got a w := by
 cases n with
 | zero => exact ⟨hr, h⟩
 | succ n => exact ⟨fun _ => h, by rw [hr]; simp⟩
end
end Go.Proofs.YtcidlnjpabgioaaGreatDoor
namespace Go.Proofs.YtcidlnjpabgioaaGreatDoor
open Go.RowKit
theorem dJ.alloc {lo : Nat} {w : World} {iv kv : Value} {is ks : List Cell} {ixs kxs : List Value} {S : Nat → Prop} (h : dJ lo w iv kv is ks ixs kxs S) (o : Obj) : dJ lo (w.alloc o) iv kv is ks ixs kxs S := h.fr ((Fr.refl (fun _ => False) w).alloc o) (fun _ _ h => h)
theorem bM.alloc {B : Nat} {w : World} {p : Nat} (h : bM B w p) (o : Obj) : bM B (w.alloc o) p := h.fr ((Fr.refl (fun _ => False) w).alloc o) (fun h => h) (fun _ _ h => h)
theorem tH {w : World} {q : Nat} {x : Obj} (h : w.heap[q]? = some x) (o : Obj) : (w.alloc o).heap[q]? = some x := (Below.heap_alloc w o _ (aH h)).trans h
structure At (B p X lo bx kq : Nat) (w1 : World) (iv0 kv0 : Value) (bxc kc : Array Value) (Z : World) (iv kv : Value) (is ks pd : List Cell) (ixs kxs pxs : List Value) (S : Nat → Prop) : Prop where
 oi : Z.ownsRow 0 35 8 iv is.length ixs
 ok : Z.ownsRow 0 35 8 kv ks.length kxs
 ci : aO S Z is ixs
 ck : aO S Z ks kxs
 cp : aO S Z pd pxs
 hS : ∀ q, S q ∨ q = kq → lo ≤ q ∧ q < Z.heap.size ∧ iv.ownBlock ≠ some q ∧ kv.ownBlock ≠ some q
 li : ∀ q, iv.ownBlock = some q → lo ≤ q
 lk : ∀ q, kv.ownBlock = some q → lo ≤ q
 ne : ∀ q, iv.ownBlock = some q → kv.ownBlock ≠ some q
 co : bM B Z p
 row : Z.heap[X]? = some (.cells (fC iv0 kv0) 35 (0, 0))
 kb : Z.heap[kq]? = some (.cells kc 35 (0, 0))
 box : Z.heap[bx]? = some (.cells bxc 29 (0, 0))
 frm : Fr (fun q => q = p ∨ q = X ∨ lo ≤ q) w1 Z
 pX : p < X
 pb : p < bx
 Xl : X < lo
 bl : bx < lo
 Bp : B ≤ p
 lw : lo = w1.heap.size
namespace At
variable {B p X lo bx kq : Nat} {w1 Z Z' : World} {iv0 kv0 iv kv iv' kv' : Value} {bxc kc : Array Value} {is ks pd : List Cell} {ixs kxs pxs xs : List Value} {S : Nat → Prop}
theorem fr {F : Nat → Prop} (h : At B p X lo bx kq w1 iv0 kv0 bxc kc Z iv kv is ks pd ixs kxs pxs S) (hf : Fr F Z Z') (hF : ∀ q, F q → q = p) (hc : bM B Z' p) : At B p X lo bx kq w1 iv0 kv0 bxc kc Z' iv kv is ks pd ixs kxs pxs S := by
 have hpX := h.pX
 have hpb := h.pb
 have hXl := h.Xl
 have hn : ∀ q, lo ≤ q → ¬ F q := fun q hq hF' => by have := hF q hF'; omega
 have hs := hf.size
 have hto : ∀ q, S q → S q ∧ ¬ F q := fun q hq => ⟨hq, hn q (h.hS q (.inl hq)).1⟩
 exact { oi := hf.owns h.oi fun q hq => hn q (h.li q hq)
         ok := hf.owns h.ok fun q hq => hn q (h.lk q hq)
         ci := aO.to hf hto _ _ h.ci
         ck := aO.to hf hto _ _ h.ck
         cp := aO.to hf hto _ _ h.cp
         hS := fun q hq => let ⟨a, b, c⟩ := h.hS q hq; ⟨a, Nat.lt_of_lt_of_le b hs, c⟩
         li := h.li, lk := h.lk, ne := h.ne, co := hc
         row := (hf.block _ (aH h.row) (fun e => by have := hF _ e; omega)).trans h.row
         kb := (hf.block _ (aH h.kb) (hn _ (h.hS kq (.inr rfl)).1)).trans h.kb
         box := (hf.block _ (aH h.box) (fun e => by have := hF _ e; omega)).trans h.box
         frm := h.frm.trans hf fun q _ e => .inl (hF q e)
         pX := h.pX, pb := h.pb, Xl := h.Xl, bl := h.bl, Bp := h.Bp, lw := h.lw }
theorem alloc (h : At B p X lo bx kq w1 iv0 kv0 bxc kc Z iv kv is ks pd ixs kxs pxs S) (o : Obj) : At B p X lo bx kq w1 iv0 kv0 bxc kc (Z.alloc o) iv kv is ks pd ixs kxs pxs S :=
 h.fr ((Fr.refl (fun _ => False) Z).alloc o) (fun _ h => h.elim) (h.co.alloc o)
theorem drew (h : At B p X lo bx kq w1 iv0 kv0 bxc kc Z iv kv is ks pd ixs kxs pxs S) : At B p X lo bx kq w1 iv0 kv0 bxc kc Z.drew iv kv is ks pd ixs kxs pxs S :=
 h.fr ((Fr.refl (fun _ => False) Z).drew) (fun _ h => h.elim) (h.co.fr ((Fr.refl (fun _ => False) Z).drew) (fun h => h) (fun _ _ h => h))
theorem call {c : Cell} (h : At B p X lo bx kq w1 iv0 kv0 bxc kc Z iv kv is ks [] ixs kxs [] S) (hf : Fr (fun q => q = p) Z Z') (hc : bM B Z' p) (hx : bK (New Z Z') Z' c xs) : At B p X lo bx kq w1 iv0 kv0 bxc kc Z' iv kv is ks [c] ixs kxs xs (fun q => S q ∨ New Z Z' q) := by
 have h1 := h.fr hf (fun _ e => e) hc
 have hz : lo ≤ Z.heap.size := by have := h.frm.size; have := h.lw; omega
 exact { h1 with
         ci := h1.ci.mono fun _ => .inl
         ck := h1.ck.mono fun _ => .inl
         cp := aO.one (hx.mono fun _ => .inr)
         hS := fun q hq => by
          rcases hq with (hq | hq) | hq
          · exact h1.hS q (.inl hq)
          · have := hq.1
            exact ⟨by omega, hq.2, fun e => by have := aK h.oi e; omega, fun e => by have := aK h.ok e; omega⟩
          · exact h1.hS q (.inr hq) }
theorem aKL {c : Cell} (h : At B p X lo bx kq w1 iv0 kv0 bxc kc Z iv kv is ks [c] ixs kxs pxs S) (ha : dA Z Z' 35 8 iv iv' (is.length + 1) (ixs ++ pxs)) : At B p X lo bx kq w1 iv0 kv0 bxc kc Z' iv' kv (is ++ [c]) ks [] (ixs ++ pxs) kxs [] S := by
 have hg := Fr.iU ha.2.1
 have hs := hg.size
 have hz : lo ≤ Z.heap.size := by have := h.frm.size; have := h.lw; omega
 have hXl := h.Xl
 have hbl := h.bl
 have hpX := h.pX
 have hBp := h.Bp
 have hiv : ∀ q, iv'.ownBlock = some q → iv.ownBlock = some q ∨ q = Z.heap.size := fun q hq => by
  rcases ha.2.2 with e | e
  · exact .inl (e ▸ hq)
  · rw [e] at hq
    simp only [Option.some.injEq] at hq
    exact .inr hq.symm
 have hto : ∀ q, S q → S q ∧ ¬ iv.ownBlock = some q := fun q hq => ⟨hq, (h.hS q (.inl hq)).2.2.1⟩
 exact { h with
         oi := by rw [List.length_append]; exact ha.1
         ok := hg.owns h.ok fun q hq => fun e => h.ne q e hq
         ci := aO.append (aO.to hg hto _ _ h.ci) (aO.to hg hto _ _ h.cp)
         ck := aO.to hg hto _ _ h.ck
         cp := aO.nil
         hS := fun q hq => by
          obtain ⟨h1, h2, h3, h4⟩ := h.hS q hq
          refine ⟨h1, by omega, fun e => ?_, h4⟩
          rcases hiv q e with e | e
          · exact h3 e
          · omega
         li := fun q hq => by
          rcases hiv q hq with e | e
          · exact h.li q e
          · omega
         ne := fun q hq e => by
          rcases hiv q hq with e' | e'
          · exact h.ne q e' e
          · have := aK h.ok e; omega
         co := h.co.fr hg (fun e => by have := h.li _ e; omega) (fun q hq e => by have := h.li _ e; omega)
         row := (hg.block _ (aH h.row) (fun e => by have := h.li _ e; omega)).trans h.row
         kb := (hg.block _ (aH h.kb) (h.hS kq (.inr rfl)).2.2.1).trans h.kb
         box := (hg.block _ (aH h.box) (fun e => by have := h.li _ e; omega)).trans h.box
         frm := h.frm.trans hg fun q _ e => .inr (.inr (h.li q e)) }
theorem aKP {c : Cell} (h : At B p X lo bx kq w1 iv0 kv0 bxc kc Z iv kv is ks pd ixs kxs pxs S) (hx : bK (fun _ => False) Z c xs) (ha : dA Z Z' 35 8 kv kv' (ks.length + 1) (kxs ++ xs)) : At B p X lo bx kq w1 iv0 kv0 bxc kc Z' iv kv' is (ks ++ [c]) pd ixs (kxs ++ xs) pxs S := by
 have hg := Fr.iU ha.2.1
 have hs := hg.size
 have hz : lo ≤ Z.heap.size := by have := h.frm.size; have := h.lw; omega
 have hXl := h.Xl
 have hbl := h.bl
 have hpX := h.pX
 have hBp := h.Bp
 have hiv : ∀ q, kv'.ownBlock = some q → kv.ownBlock = some q ∨ q = Z.heap.size := fun q hq => by
  rcases ha.2.2 with e | e
  · exact .inl (e ▸ hq)
  · rw [e] at hq
    simp only [Option.some.injEq] at hq
    exact .inr hq.symm
 have hto : ∀ q, S q → S q ∧ ¬ kv.ownBlock = some q := fun q hq => ⟨hq, (h.hS q (.inl hq)).2.2.2⟩
 exact { h with
         ok := by rw [List.length_append]; exact ha.1
         oi := hg.owns h.oi fun q hq => fun e => h.ne q hq e
         ci := aO.to hg hto _ _ h.ci
         ck := aO.append (aO.to hg hto _ _ h.ck) (aO.one (bK.to hg (fun _ h => h.elim) _ _ hx))
         cp := aO.to hg hto _ _ h.cp
         hS := fun q hq => by
          obtain ⟨h1, h2, h3, h4⟩ := h.hS q hq
          refine ⟨h1, by omega, h3, fun e => ?_⟩
          rcases hiv q e with e | e
          · exact h4 e
          · omega
         lk := fun q hq => by
          rcases hiv q hq with e | e
          · exact h.lk q e
          · omega
         ne := fun q hq e => by
          rcases hiv q e with e' | e'
          · exact h.ne q hq e'
          · have := aK h.oi hq; omega
         co := h.co.fr hg (fun e => by have := h.lk _ e; omega) (fun q hq e => by have := h.lk _ e; omega)
         row := (hg.block _ (aH h.row) (fun e => by have := h.lk _ e; omega)).trans h.row
         kb := (hg.block _ (aH h.kb) (h.hS kq (.inr rfl)).2.2.2).trans h.kb
         box := (hg.block _ (aH h.box) (fun e => by have := h.lk _ e; omega)).trans h.box
         frm := h.frm.trans hg fun q _ e => .inr (.inr (h.lk q e)) }
theorem store (h : At B p X lo bx kq w1 iv0 kv0 bxc kc Z iv kv is ks pd ixs kxs pxs S) : ((Z.setCell ⟨X, 7, none⟩ kv).setCell ⟨X, 6, none⟩ iv).heap[X]? = some (.cells (fC iv kv) 35 (0, 0)) ∧ (∃ S', dJ lo ((Z.setCell ⟨X, 7, none⟩ kv).setCell ⟨X, 6, none⟩ iv) iv kv is ks ixs kxs S') ∧
 bM B ((Z.setCell ⟨X, 7, none⟩ kv).setCell ⟨X, 6, none⟩ iv) p ∧ Fr (fun q => q = p ∨ q = X) w1 ((Z.setCell ⟨X, 7, none⟩ kv).setCell ⟨X, 6, none⟩ iv) := by
 have hXl := h.Xl
 have hpX := h.pX
 have hBp := h.Bp
 have hlw := h.lw
 have hf : Fr (fun q => q = X) Z ((Z.setCell ⟨X, 7, none⟩ kv).setCell ⟨X, 6, none⟩ iv) := ((Fr.refl (fun q => q = X) Z).setCell (.inl rfl) _).setCell (.inl rfl) _
 have hg : dJ lo Z iv kv is ks ixs kxs S := ⟨h.oi, h.ok, h.ci, h.ck, fun q hq => h.hS q (.inl hq), h.li, h.lk, h.ne⟩
 refine ⟨zV (aFV h.row _) _, ⟨_, hg.fr hf (fun q hq => by show ¬ q = X; omega)⟩, h.co.fr hf (by show ¬ p = X; omega) (fun q hq => by show ¬ q = X; omega), ?_⟩
 have := h.frm.trans hf (fun q _ e => .inr (.inl e))
 exact this.mono fun q hq e => by
  rcases e with e | e | e
  · exact .inl e
  · exact .inr e
  · omega
end At
theorem aJw (d : Nat) (K T : Ty) (hK : jT K) (hT : lS d T) : lS (d + 1) (.map K T) := by
 intro B w p vs S h hpw hl hS
 obtain ⟨q, o, c, oa, oc, rfl, hnc, hcm, hSq, ht, k0, k1, k2⟩ := nH hl (i := 0) (t := K) rfl
 obtain ⟨q', o', c', ua, uc, hv, -, -, -, hu, l0, l1, l2⟩ := nH hl (i := 1) (t := T) rfl
 simp only [List.cons.injEq, Value.slice.injEq, Option.some.injEq, Addr.mk.injEq, true_and, and_true] at hv
 obtain ⟨⟨rfl, rfl⟩, rfl⟩ := hv
 unfold maxLen at hcm
 simp only [Nat.zero_mul, Nat.add_zero, Nat.one_mul] at k0 k1 k2 l0 l1 l2
 have hq := hS q hSq
 have hc1 : 2 ≤ c := hnc
 have hnm : (aV (Ty.map K T).nm).toList = [77, 97, 112] := bY _
 have hBp := h.1
 show Calls _ _ #[_, .agg #[.string (aV (Ty.map K T).nm), .int .i64 0, .slice (some ⟨q, o, none⟩) 2 c]] _ _
 generalize aV (Ty.map K T).nm = nm at hnm
 clear hl
 go_enter Tryz.func9, Tryz.ntmps9
 go_upto_region 2 with fail
 have hW := lU.of w #[.string nm, .int .i64 0, .slice (some ⟨q, o, none⟩) 2 c]
 unfold bZ at hW
 generalize ((w.alloc _).alloc _).alloc _ = W at hW ⊢
 have hcW : bM B W p := h.fr hW.fr (fun h => h) (fun _ _ h => h)
 have hpW : p < W.heap.size := by rw [hW.size]; omega
 have hbox0 : W.cell? ⟨w.heap.size, 0, none⟩ = some (.string nm) := by rw [cell_of_row _ _ _ _ _ _ hW.box]; rfl
 go_wp2_with (go_at_call 20; refine (fH B _ p hcW).mono ?_; rintro e w1 ⟨b, hb, rfl, hco1, hf1⟩)
 have hs1 := hf1.size
 have hWs := hW.size
 have hrow1 : w1.heap[w.heap.size + 1 + 1]? = some (.cells (fC (.slice none 0 0) (.slice none 0 0)) 35 (0, 0)) := (hf1.block _ (by rw [hWs]; omega) (by show ¬ w.heap.size + 1 + 1 = p; omega)).trans hW.row
 have hW1 : Fr (fun k => k = p) w w1 := (hW.fr.mono (S' := fun k => k = p) (fun _ _ h => h.elim)).trans hf1 (fun _ _ h => h)
 have hbox1 := (hf1.block _ (by rw [hWs]; omega) (by show ¬ w.heap.size = p; omega)).trans hW.box
 have hres1 := (hf1.block _ (by rw [hWs]; omega) (by show ¬ w.heap.size + 1 = p; omega)).trans hW.res
 go_loopw [9] (fun i wr => ∃ (k : Nat) (is ks : List Cell) (ixs kxs : List Value) (iv kv : Value) (S' : Nat → Prop), i = .int .i64 k ∧ is.length + k ≤ 2 ∧ ks.length = is.length ∧ wr.heap[w.heap.size + 1 + 1]? = some (.cells (fC iv kv) 35 (0, 0)) ∧ dJ w1.heap.size wr iv kv is ks ixs kxs S' ∧ wts is ≤ is.length * (20 * 5 ^ d) ∧ wts ks ≤ is.length * 17 ∧ bM B wr p ∧ Fr (fun k => k = p ∨ k = w.heap.size + 1 + 1) w1 wr) (fun i _ => (intOf i).toNat)
 case atStart => exact ⟨b % 3, [], [], [], [], .slice none 0 0, .slice none 0 0, _, by go_num, by simp; omega, rfl, hrow1, dJ.nil _ _, by simp [wts], by simp [wts], hco1, Fr.refl _ _⟩
 case round =>
  obtain ⟨k, is, ks, ixs, kxs, iv, kv, S', rfl, hk3, hkl, hrow, hgr, hwt, hwk, hcode, hfr⟩ := hrel
  have hfs := hfr.size
  have hX : w.heap.size + 1 + 1 < w1.heap.size := by omega
  have hboxr := (hfr.block _ (by omega) (by show ¬ (w.heap.size = p ∨ w.heap.size = w.heap.size + 1 + 1); omega)).trans hbox1
  obtain ⟨va, vc, rfl⟩ := ownsRow_shape hgr.oi
  obtain ⟨wa, wc, rfl⟩ := ownsRow_shape hgr.ok
  have hmk := Making.of hrow
  by_cases hkz : 0 < k
  · have hki : (0 : Int) < k := by omega
    have hiw : IntKind.i64.wrap ((k : Int) - 1) = (k : Int) - 1 := by rw [IntKind.wrap_i64]; omega
    have hfw : Fr (fun k => k = p ∨ k = w.heap.size + 1 + 1) w wr := (hW1.mono (S' := fun k => k = p ∨ k = w.heap.size + 1 + 1) (fun _ _ h => .inl h)).trans hfr (fun _ _ h => h)
    have hqn : ¬ (q = p ∨ q = w.heap.size + 1 + 1) := by omega
    have m0 := hfw.aA k0 hqn
    have m1 := hfw.aA k1 hqn
    have m2 := hfw.aA k2 hqn
    have hlk : LTS S wr K.lt [.string (aV K.nm), .int .i64 K.sz, .slice oa K.kids.length oc] := LTS.to hfw (fun x hx => ⟨hx, by have := hS x hx; show ¬ (x = p ∨ x = w.heap.size + 1 + 1); omega⟩) _ _ ht
    have hcallK := hK B wr p _ S hcode (by omega) hlk (fun x hx => ⟨(hS x hx).1, by have := (hS x hx).2; omega⟩)
    have hbx2 : wr.cell? ⟨w.heap.size, 2, none⟩ = some (.slice (some ⟨q, o, none⟩) 2 c) := by rw [cell_of_row _ _ _ _ _ _ hboxr]; rfl
    have hrowH := Lib.hid hrow
    have hgrH := Lib.hid hgr
    have hwtH := Lib.hid hwt
    have hwkH := Lib.hid hwk
    have hklH := Lib.hid hkl
    have hboxH := Lib.hid hboxr
    generalize aV K.nm = tnm at m0 hcallK
    generalize ((K.sz : Nat) : Int) = tsz at m1 hcallK
    generalize K.kids.length = tkl at m2 hcallK
    clear hlk ht k0 k1 k2 hrow hgr hmk hboxr hK hbox0 hbox1 hrow1 hwt hwk hkl
    go_wp2_with (go_at_call 9; refine hcallK.mono ?_; rintro e w2 ⟨ck, rfl, hck, hco2, hf2⟩; have hs2 := hf2.size; have hrow2 := (hf2.block _ (aH hrowH.out) (by show ¬ w.heap.size + 1 + 1 = p; omega)).trans hrowH.out; have ya7 := fun o' => (Making.of (tH hrow2 o')).g7; have ya6 := fun o' => (Making.of (tH hrow2 o')).g6; unfold Cell.gZ)
    generalize hWK : w2.alloc _ = WK
    have hfK2 : Fr (fun _ => False) w2 WK := by rw [← hWK]; exact (Fr.refl _ _).alloc _
    have kbK : WK.heap[w2.heap.size]? = some (.cells (ck.gZ).toArray 35 (0, 0)) := by rw [← hWK]; exact heap_alloc_new w2 _
    have hsK : WK.heap.size = w2.heap.size + 1 := by rw [← hWK]; simp
    clear hWK ya6 ya7
    have hfK : Fr (fun k => k = p) wr WK := hf2.trans hfK2 (fun _ _ h => h.elim)
    have hgrK := hgrH.out.fr hfK (fun q hq => by show ¬ q = p; omega)
    have hcoK := hco2.fr hfK2 (fun h => h) (fun _ _ h => h)
    have hth := aGX ks ck WK.heap.size WK _ _ ck.gZ ((mM hgrK.ok (S := fun q => q < WK.heap.size) (fun q hq => aK hgrK.ok hq)).sl (fun _ h => h)) (aO.inn (fun q hq => (hgrK.hS q hq).2.1) _ _ hgrK.ck) (bK.inn (S := fun _ => False) (fun _ h => h.elim) _ _ hck.in) (Nat.le_refl _)
    refine hth.mono ?_
    clear hth hcallK
    rintro e w3 ⟨bt, rfl, hf3⟩
    have hs3 := hf3.size
    have hfr3 : Fr (fun k => k = p) wr w3 := hfK.trans hf3 (fun _ _ h => h.elim)
    have hgr3 := hgrK.fr hf3 (fun _ _ h => h)
    have hco3 := hcoK.fr hf3 (fun h => h) (fun _ _ h => h)
    have hrow3 := (hfr3.block _ (aH hrowH.out) (by show ¬ w.heap.size + 1 + 1 = p; omega)).trans hrowH.out
    have kb3 := (hf3.block _ (by omega) (fun h => h)).trans kbK
    have hbox3 := (hfr3.block _ (aH hboxH.out) (by show ¬ w.heap.size = p; omega)).trans hboxH.out
    have hf13 : Fr (fun k => k = p ∨ k = w.heap.size + 1 + 1) w1 w3 := hfr.trans hfr3 (fun _ _ h => .inl h)
    cases bt with
    | true =>
     go_wp2
     go_roundw
     case rel => exact ⟨k - 1, is, ks, ixs, kxs, .slice va is.length vc, .slice wa ks.length wc, _, by rw [Int.natCast_sub hkz]; rfl, by omega, hklH.out, hrow3, hgr3, hwtH.out, hwkH.out, hco3, hf13⟩
     case measure => simp [intOf]; omega
    | false =>
     have hkq : w1.heap.size ≤ w2.heap.size := by omega
     have hA3 : At B p (w.heap.size + 1 + 1) w1.heap.size w.heap.size w2.heap.size w1 (.slice va is.length vc) (.slice wa ks.length wc) #[.string nm, .int .i64 0, .slice (some ⟨q, o, none⟩) 2 c] (ck.gZ).toArray w3 (.slice va is.length vc) (.slice wa ks.length wc) is ks [] ixs kxs [] S' :=
      { oi := hgr3.oi, ok := hgr3.ok, ci := hgr3.ci, ck := hgr3.ck, cp := aO.nil
        hS := fun x hx => by
         rcases hx with hx | rfl
         · exact hgr3.hS x hx
         · exact ⟨hkq, by omega, fun e => by have := aK hgrH.out.oi e; omega, fun e => by have := aK hgrH.out.ok e; omega⟩
        li := hgr3.li, lk := hgr3.lk, ne := hgr3.ne, co := hco3, row := hrow3, kb := kb3, box := hbox3
        frm := hf13.mono fun x _ e => e.elim .inl (fun e => .inr (.inl e))
        pX := by omega, pb := by omega, Xl := by omega, bl := by omega, Bp := hBp, lw := rfl }
     have hfty : ∀ Z, Fr (fun x => x = p ∨ x = w.heap.size + 1 + 1 ∨ w1.heap.size ≤ x) w1 Z → Fr (fun x => x = p ∨ x = w.heap.size + 1 + 1) w Z := fun Z hZ => (hW1.mono (S' := fun x => x = p ∨ x = w.heap.size + 1 + 1) (fun _ _ e => .inl e)).trans (hZ.mono (S' := fun x => x = p ∨ x = w.heap.size + 1 + 1 ∨ w1.heap.size ≤ x) (fun _ _ e => e)) (fun x hx e => by
      rcases e with e | e | e
      · exact .inl e
      · exact .inr e
      · have := hW1.size; omega)
     have hcallT : ∀ (Z : World) (iv kv : Value) (is' ks' : List Cell) (ixs' kxs' : List Value) (S2 : Nat → Prop), At B p (w.heap.size + 1 + 1) w1.heap.size w.heap.size w2.heap.size w1 (.slice va is.length vc) (.slice wa ks.length wc) #[.string nm, .int .i64 0, .slice (some ⟨q, o, none⟩) 2 c] (ck.gZ).toArray Z iv kv is' ks' [] ixs' kxs' [] S2 →
      Calls Tryz.prog 9 #[.pointer (some ⟨p, 0, none⟩), .agg #[.string (aV T.nm), .int .i64 T.sz, .slice ua T.kids.length uc]] Z fun e Z' => ∃ (c' : Cell) (xs : List Value) (S3 : Nat → Prop), e = .returned (.agg xs.toArray) ∧ bK (New Z Z') Z' c' xs ∧ aIC d T c' xs ∧ At B p (w.heap.size + 1 + 1) w1.heap.size w.heap.size w2.heap.size w1 (.slice va is.length vc) (.slice wa ks.length wc) #[.string nm, .int .i64 0, .slice (some ⟨q, o, none⟩) 2 c] (ck.gZ).toArray Z' iv kv is' ks' [c'] ixs' kxs' xs S3 := fun Z iv kv is' ks' ixs' kxs' S2 hZ => by
      refine (hT B Z p _ S hZ.co (by have := hZ.frm.size; omega) (LTS.to (hfty Z hZ.frm) (fun x hx => ⟨hx, by have := hS x hx; show ¬ (x = p ∨ x = w.heap.size + 1 + 1); omega⟩) _ _ hu) (fun x hx => ⟨(hS x hx).1, by have := (hS x hx).2; have := hZ.frm.size; omega⟩)).mono ?_
      rintro e Z' ⟨c', xs, h1, h2, h3, h4, h5⟩
      exact ⟨c', xs, _, h1, h2, h3, hZ.call h5 h4 h2⟩
     have hfw3 := hfty w3 hA3.frm
     have n0 : ∀ Z, Fr (fun x => x = p ∨ x = w.heap.size + 1 + 1 ∨ w1.heap.size ≤ x) w1 Z → Z.cell? ⟨q, o + 3, none⟩ = some (.string (aV T.nm)) := fun Z hZ => (hfty Z hZ).aA l0 hqn
     have n1 : ∀ Z, Fr (fun x => x = p ∨ x = w.heap.size + 1 + 1 ∨ w1.heap.size ≤ x) w1 Z → Z.cell? ⟨q, o + 4, none⟩ = some (.int .i64 T.sz) := fun Z hZ => (hfty Z hZ).aA l1 hqn
     have n2 : ∀ Z, Fr (fun x => x = p ∨ x = w.heap.size + 1 + 1 ∨ w1.heap.size ≤ x) w1 Z → Z.cell? ⟨q, o + 5, none⟩ = some (.slice ua T.kids.length uc) := fun Z hZ => (hfty Z hZ).aA l2 hqn
     have hksb : ks.length ≤ 2 := by rw [hklH.out]; omega
     have hheld : ∀ (w' : World) (iv kv : Value) (is' ks' pd' : List Cell) (ixs' kxs' pxs' : List Value) (S2 : Nat → Prop), At B p (w.heap.size + 1 + 1) w1.heap.size w.heap.size w2.heap.size w1 (.slice va is.length vc) (.slice wa ks.length wc) #[.string nm, .int .i64 0, .slice (some ⟨q, o, none⟩) 2 c] (ck.gZ).toArray w' iv kv is' ks' pd' ixs' kxs' pxs' S2 → (w'.cell? ⟨w.heap.size + 1 + 1, 6, none⟩ = some (.slice va is.length vc) ∧ w'.cell? ⟨w.heap.size + 1 + 1, 7, none⟩ = some (.slice wa ks.length wc) ∧ w'.cell? ⟨w2.heap.size, 0, none⟩ = some (.int .u64 ck.r0) ∧ w'.cell? ⟨w2.heap.size, 1, none⟩ = some (.int .u64 ck.r1) ∧ w'.cell? ⟨w2.heap.size, 2, none⟩ = some (.int .u64 ck.r2) ∧ w'.cell? ⟨w2.heap.size, 3, none⟩ = some (.int .u64 ck.r3) ∧ w'.cell? ⟨w2.heap.size, 4, none⟩ = some (.string ck.s) ∧ w'.cell? ⟨w2.heap.size, 5, none⟩ = some (.bool ck.null) ∧ w'.cell? ⟨w2.heap.size, 6, none⟩ = some (.slice none 0 0) ∧ w'.cell? ⟨w2.heap.size, 7, none⟩ = some (.slice none 0 0) ∧ w'.cell? ⟨w.heap.size, 2, none⟩ = some (.slice (some ⟨q, o, none⟩) 2 c) ∧ w'.cell? ⟨q, o + 3, none⟩ = some (.string (aV T.nm)) ∧ w'.cell? ⟨q, o + 4, none⟩ = some (.int .i64 T.sz) ∧ w'.cell? ⟨q, o + 5, none⟩ = some (.slice ua T.kids.length uc)) := fun w' iv kv is' ks' pd' ixs' kxs' pxs' S2 hZ => by
      obtain ⟨e0, e1, e2, e3, e4, e5, e6, e7⟩ := aX.eight (aX.of_block hZ.kb)
      exact ⟨(Making.of hZ.row).g6, (Making.of hZ.row).g7, e0, e1, e2, e3, e4, e5, e6, e7, by rw [cell_of_row _ _ _ _ _ _ hZ.box]; rfl, n0 _ hZ.frm, n1 _ hZ.frm, n2 _ hZ.frm⟩
     have hheld' := Lib.hid hheld
     have hst3 := hheld w3 _ _ _ _ _ _ _ _ _ hA3
     obtain ⟨v0, v1, v2, v3, v4, v5, v6, v7, v8, v9, v10, v11, v12, v13⟩ := hst3
     have hA3H := Lib.hid hA3
     clear m0 m1 m2 hbx2 hu l0 l1 l2 n0 n1 n2 hA3 hrow3 hbox3 kb3 hgr3 hheld
     go_wp2_with fail
     have hkeep0 : ∀ Z Z' : World, Fr (fun x => x = w.heap.size + 1 + 1) Z Z' → (Z.cell? ⟨w2.heap.size, 0, none⟩ = some (.int .u64 ck.r0) ∧ Z.cell? ⟨w2.heap.size, 1, none⟩ = some (.int .u64 ck.r1) ∧ Z.cell? ⟨w2.heap.size, 2, none⟩ = some (.int .u64 ck.r2) ∧ Z.cell? ⟨w2.heap.size, 3, none⟩ = some (.int .u64 ck.r3) ∧ Z.cell? ⟨w2.heap.size, 4, none⟩ = some (.string ck.s) ∧ Z.cell? ⟨w2.heap.size, 5, none⟩ = some (.bool ck.null) ∧ Z.cell? ⟨w2.heap.size, 6, none⟩ = some (.slice none 0 0) ∧ Z.cell? ⟨w2.heap.size, 7, none⟩ = some (.slice none 0 0) ∧ Z.cell? ⟨w.heap.size, 2, none⟩ = some (.slice (some ⟨q, o, none⟩) 2 c) ∧ Z.cell? ⟨q, o + 3, none⟩ = some (.string (aV T.nm)) ∧ Z.cell? ⟨q, o + 4, none⟩ = some (.int .i64 T.sz) ∧ Z.cell? ⟨q, o + 5, none⟩ = some (.slice ua T.kids.length uc)) → (Z'.cell? ⟨w2.heap.size, 0, none⟩ = some (.int .u64 ck.r0) ∧ Z'.cell? ⟨w2.heap.size, 1, none⟩ = some (.int .u64 ck.r1) ∧ Z'.cell? ⟨w2.heap.size, 2, none⟩ = some (.int .u64 ck.r2) ∧ Z'.cell? ⟨w2.heap.size, 3, none⟩ = some (.int .u64 ck.r3) ∧ Z'.cell? ⟨w2.heap.size, 4, none⟩ = some (.string ck.s) ∧ Z'.cell? ⟨w2.heap.size, 5, none⟩ = some (.bool ck.null) ∧ Z'.cell? ⟨w2.heap.size, 6, none⟩ = some (.slice none 0 0) ∧ Z'.cell? ⟨w2.heap.size, 7, none⟩ = some (.slice none 0 0) ∧ Z'.cell? ⟨w.heap.size, 2, none⟩ = some (.slice (some ⟨q, o, none⟩) 2 c) ∧ Z'.cell? ⟨q, o + 3, none⟩ = some (.string (aV T.nm)) ∧ Z'.cell? ⟨q, o + 4, none⟩ = some (.int .i64 T.sz) ∧ Z'.cell? ⟨q, o + 5, none⟩ = some (.slice ua T.kids.length uc)) := fun Z Z' hf hz => by
      have nk : ¬ w2.heap.size = w.heap.size + 1 + 1 := by omega
      have nb : ¬ w.heap.size = w.heap.size + 1 + 1 := by omega
      have nq : ¬ q = w.heap.size + 1 + 1 := by omega
      obtain ⟨e0, e1, e2, e3, e4, e5, e6, e7, e8, e9, e10, e11⟩ := hz
      exact ⟨hf.aA e0 nk, hf.aA e1 nk, hf.aA e2 nk, hf.aA e3 nk, hf.aA e4 nk, hf.aA e5 nk, hf.aA e6 nk, hf.aA e7 nk, hf.aA e8 nb, hf.aA e9 nq, hf.aA e10 nq, hf.aA e11 nq⟩
     have hkeep0' := Lib.hid hkeep0
     clear hkeep0
     have hst3 := hheld'.out w3.drew _ _ _ _ _ _ _ _ _ hA3H.out.drew
     have hst0 : w3.drew.cell? ⟨w2.heap.size, 0, none⟩ = some (.int .u64 ck.r0) ∧ w3.drew.cell? ⟨w2.heap.size, 1, none⟩ = some (.int .u64 ck.r1) ∧ w3.drew.cell? ⟨w2.heap.size, 2, none⟩ = some (.int .u64 ck.r2) ∧ w3.drew.cell? ⟨w2.heap.size, 3, none⟩ = some (.int .u64 ck.r3) ∧ w3.drew.cell? ⟨w2.heap.size, 4, none⟩ = some (.string ck.s) ∧ w3.drew.cell? ⟨w2.heap.size, 5, none⟩ = some (.bool ck.null) ∧ w3.drew.cell? ⟨w2.heap.size, 6, none⟩ = some (.slice none 0 0) ∧ w3.drew.cell? ⟨w2.heap.size, 7, none⟩ = some (.slice none 0 0) ∧ w3.drew.cell? ⟨w.heap.size, 2, none⟩ = some (.slice (some ⟨q, o, none⟩) 2 c) ∧ w3.drew.cell? ⟨q, o + 3, none⟩ = some (.string (aV T.nm)) ∧ w3.drew.cell? ⟨q, o + 4, none⟩ = some (.int .i64 T.sz) ∧ w3.drew.cell? ⟨q, o + 5, none⟩ = some (.slice ua T.kids.length uc) := hst3.2.2
     have hst1 : w3.drew.cell? ⟨w.heap.size + 1 + 1, 6, none⟩ = some (.slice va is.length vc) ∧ w3.drew.cell? ⟨w.heap.size + 1 + 1, 7, none⟩ = some (.slice wa ks.length wc) := ⟨hst3.1, hst3.2.1⟩
     refine Goes.region (T := fun w' => w'.cell? ⟨w2.heap.size, 0, none⟩ = some (.int .u64 ck.r0) ∧ w'.cell? ⟨w2.heap.size, 1, none⟩ = some (.int .u64 ck.r1) ∧ w'.cell? ⟨w2.heap.size, 2, none⟩ = some (.int .u64 ck.r2) ∧ w'.cell? ⟨w2.heap.size, 3, none⟩ = some (.int .u64 ck.r3) ∧ w'.cell? ⟨w2.heap.size, 4, none⟩ = some (.string ck.s) ∧ w'.cell? ⟨w2.heap.size, 5, none⟩ = some (.bool ck.null) ∧ w'.cell? ⟨w2.heap.size, 6, none⟩ = some (.slice none 0 0) ∧ w'.cell? ⟨w2.heap.size, 7, none⟩ = some (.slice none 0 0) ∧ w'.cell? ⟨w.heap.size, 2, none⟩ = some (.slice (some ⟨q, o, none⟩) 2 c) ∧ w'.cell? ⟨q, o + 3, none⟩ = some (.string (aV T.nm)) ∧ w'.cell? ⟨q, o + 4, none⟩ = some (.int .i64 T.sz) ∧ w'.cell? ⟨q, o + 5, none⟩ = some (.slice ua T.kids.length uc)) (S := fun w' => w'.cell? ⟨w.heap.size + 1 + 1, 6, none⟩ = some (.slice va is.length vc) ∧ w'.cell? ⟨w.heap.size + 1 + 1, 7, none⟩ = some (.slice wa ks.length wc)) (z := 16) (by kernel_rfl) ?_
     refine Goes.dM (i := 0) (u := ?hu0) rfl (by kernel_rfl) (by kernel_rfl) (by kernel_rfl) (by kernel_rfl) (fun _ _ _ h => h) (by rfl) hst0 (fun _ => hst1) ?hy0 ?hr0
     case hy0 =>
      intro wq hSw
      obtain ⟨e0, e1, e2, e3, e4, e5, e6, e7, e8, e9, e10, e11⟩ := hSw
      go_simp
      rfl
     simp only [List.getElem_toArray, List.getElem_cons_zero, Act.put, List.setIfInBounds_toArray, List.set_cons_zero, List.set_cons_succ]
     refine Goes.aKt (i := 1) (u := ?hu1) rfl (by kernel_rfl) rfl (by kernel_rfl) (by kernel_rfl) (by kernel_rfl) (by kernel_rfl) (by kernel_rfl) (fun _ _ _ h => h) (by rfl) hst0 hst1 ?hy1 ?hr1
     case hy1 =>
      intro wq hSw
      obtain ⟨-, e0, e1⟩ := hSw
      go_simp
      rfl
     simp only [List.getElem_toArray, List.getElem_cons_zero, List.getElem_cons_succ, Act.put, List.setIfInBounds_toArray, List.set_cons_zero, List.set_cons_succ]
     refine Goes.dM (i := 2) (u := ?hu2) rfl (by kernel_rfl) (by kernel_rfl) (by kernel_rfl) (by kernel_rfl) (fun _ _ _ h => h) (by rfl) hst0 (fun _ => hst1) ?hy2 ?hr2
     case hy2 =>
      intro wq hSw
      obtain ⟨e0, e1, e2, e3, e4, e5, e6, e7, e8, e9, e10, e11⟩ := hSw
      go_simp
      rfl
     simp only [List.getElem_toArray, List.getElem_cons_zero, List.getElem_cons_succ, Act.put, List.setIfInBounds_toArray, List.set_cons_zero, List.set_cons_succ]
     refine Goes.dM (i := 5) (u := ?hu5) rfl (by kernel_rfl) (by kernel_rfl) (by kernel_rfl) (by kernel_rfl) (fun _ _ _ h => h) (by rfl) hst0 (fun _ => hst1) ?hy5 ?hr5
     case hy5 =>
      intro wq hSw
      obtain ⟨e0, e1, e2, e3, e4, e5, e6, e7, e8, e9, e10, e11⟩ := hSw
      go_simp
      rfl
     simp only [List.getElem_toArray, List.getElem_cons_zero, List.getElem_cons_succ, Act.put, List.setIfInBounds_toArray, List.set_cons_zero, List.set_cons_succ]
     refine Goes.aKt (i := 6) (u := ?hu6) rfl (by kernel_rfl) rfl (by kernel_rfl) (by kernel_rfl) (by kernel_rfl) (by kernel_rfl) (by kernel_rfl) (fun _ _ _ h => h) (by rfl) hst0 hst1 ?hy6 ?hr6
     case hy6 =>
      intro wq hSw
      obtain ⟨-, e0, e1⟩ := hSw
      go_simp
      rfl
     simp only [List.getElem_toArray, List.getElem_cons_zero, List.getElem_cons_succ, Act.put, List.setIfInBounds_toArray, List.set_cons_zero, List.set_cons_succ]
     refine Goes.dM (i := 7) (u := ?hu7) rfl (by kernel_rfl) (by kernel_rfl) (by kernel_rfl) (by kernel_rfl) (fun _ _ _ h => h) (by rfl) hst0 (fun _ => hst1) ?hy7 ?hr7
     case hy7 =>
      intro wq hSw
      obtain ⟨e0, e1, e2, e3, e4, e5, e6, e7, e8, e9, e10, e11⟩ := hSw
      go_simp
      rfl
     simp only [List.getElem_toArray, List.getElem_cons_zero, List.getElem_cons_succ, Act.put, List.setIfInBounds_toArray, List.set_cons_zero, List.set_cons_succ]
     refine Goes.dM (i := 8) (u := ?hu8) rfl (by kernel_rfl) (by kernel_rfl) (by kernel_rfl) (by kernel_rfl) (fun _ _ _ h => h) (by rfl) hst0 (fun _ => hst1) ?hy8 ?hr8
     case hy8 =>
      intro wq hSw
      obtain ⟨e0, e1, e2, e3, e4, e5, e6, e7, e8, e9, e10, e11⟩ := hSw
      go_simp
      rfl
     simp only [List.getElem_toArray, List.getElem_cons_zero, List.getElem_cons_succ, Act.put, List.setIfInBounds_toArray, List.set_cons_zero, List.set_cons_succ]
     refine Goes.dM (i := 9) (u := ?hu9) rfl (by kernel_rfl) (by kernel_rfl) (by kernel_rfl) (by kernel_rfl) (fun _ _ _ h => h) (by rfl) hst0 (fun _ => hst1) ?hy9 ?hr9
     case hy9 =>
      intro wq hSw
      obtain ⟨e0, e1, e2, e3, e4, e5, e6, e7, e8, e9, e10, e11⟩ := hSw
      go_simp
      rfl
     simp only [List.getElem_toArray, List.getElem_cons_zero, List.getElem_cons_succ, Act.put, List.setIfInBounds_toArray, List.set_cons_zero, List.set_cons_succ]
     refine Goes.dM (i := 10) (u := ?hu10) rfl (by kernel_rfl) (by kernel_rfl) (by kernel_rfl) (by kernel_rfl) (fun _ _ _ h => h) (by rfl) hst0 (fun _ => hst1) ?hy10 ?hr10
     case hy10 =>
      intro wq hSw
      obtain ⟨e0, e1, e2, e3, e4, e5, e6, e7, e8, e9, e10, e11⟩ := hSw
      go_simp
      rfl
     simp only [List.getElem_toArray, List.getElem_cons_zero, List.getElem_cons_succ, Act.put, List.setIfInBounds_toArray, List.set_cons_zero, List.set_cons_succ]
     refine Goes.dM (i := 11) (u := ?hu11) rfl (by kernel_rfl) (by kernel_rfl) (by kernel_rfl) (by kernel_rfl) (fun _ _ _ h => h) (by rfl) hst0 (fun _ => hst1) ?hy11 ?hr11
     case hy11 =>
      intro wq hSw
      obtain ⟨e0, e1, e2, e3, e4, e5, e6, e7, e8, e9, e10, e11⟩ := hSw
      go_simp
      rfl
     simp only [List.getElem_toArray, List.getElem_cons_zero, List.getElem_cons_succ, Act.put, List.setIfInBounds_toArray, List.set_cons_zero, List.set_cons_succ]
     refine Goes.one (i := 3) (by kernel_rfl) rfl (fun K' hK => ?_)
     try simp only [List.getElem_toArray, List.getElem_cons_zero, List.getElem_cons_succ, Act.put, List.setIfInBounds_toArray, List.set_cons_zero, List.set_cons_succ]
     go_simp
     refine hK.out _ _ (hheld'.out _ _ _ _ _ _ _ _ _ _ (hA3H.out.drew.alloc _)).2.2 (fun _ => ⟨(hheld'.out _ _ _ _ _ _ _ _ _ _ (hA3H.out.drew.alloc _)).1, (hheld'.out _ _ _ _ _ _ _ _ _ _ (hA3H.out.drew.alloc _)).2.1⟩) ?_
     clear hK K'
     try simp only [List.getElem_toArray, List.getElem_cons_zero, List.getElem_cons_succ, Act.put, List.setIfInBounds_toArray, List.set_cons_zero, List.set_cons_succ]
     refine Goes.one (i := 4) (by kernel_rfl) rfl (fun K' hK => ?_)
     rw [if_pos (by rfl)]
     simp only [List.getElem_toArray, List.getElem_cons_zero, List.getElem_cons_succ]
     refine dB _ iD _ _ rfl (.slice wa ks.length wc) ks.length kxs rfl (hA3H.out.drew.alloc _).ok _ _ _ rfl (Src.ofSlice _ Tryz.underlying31 _ _ _ _ rfl (aW _ [.int .u64 ck.r0, .int .u64 ck.r1, .int .u64 ck.r2, .int .u64 ck.r3, .string ck.s, .bool ck.null, .slice none 0 0, .slice none 0 0] _) (by simp [Value.oneCell'])) (by unfold maxLen; omega) (by omega) ?_
     intro v4 w4 ha4
     obtain ⟨a4, b4, rfl⟩ := ha4.shape
     have hA4 := (hA3H.out.drew.alloc _).aKP hck.in ha4
     refine hK.out _ _ (hheld'.out _ _ _ _ _ _ _ _ _ _ (hA4)).2.2 (fun _ => ⟨(hheld'.out _ _ _ _ _ _ _ _ _ _ (hA4)).1, (hheld'.out _ _ _ _ _ _ _ _ _ _ (hA4)).2.1⟩) ?_
     clear hK K'
     try simp only [Act.put, List.setIfInBounds_toArray, List.set_cons_zero, List.set_cons_succ]
     have hst4 := hheld'.out _ _ _ _ _ _ _ _ _ _ hA4
     refine Goes.dM (i := 15) (u := ?hu15) rfl (by kernel_rfl) (by kernel_rfl) (by kernel_rfl) (by kernel_rfl) (fun _ _ _ h => h) (by rfl) hst4.2.2 (fun _ => ⟨hst4.1, hst4.2.1⟩) ?hy15 ?hr15
     case hy15 =>
      intro wq hSw
      obtain ⟨e0, e1, e2, e3, e4, e5, e6, e7, e8, e9, e10, e11⟩ := hSw
      go_simp
      rfl
     simp only [List.getElem_toArray, List.getElem_cons_zero, List.getElem_cons_succ, Act.put, List.setIfInBounds_toArray, List.set_cons_zero, List.set_cons_succ]
     refine Goes.one (i := 12) (by kernel_rfl) rfl (fun K' hK => ?_)
     try simp only [List.getElem_toArray, List.getElem_cons_zero, List.getElem_cons_succ, Act.put, List.setIfInBounds_toArray, List.set_cons_zero, List.set_cons_succ]
     go_simp
     go_at_call 9
     refine (hcallT _ _ _ _ _ _ _ _ hA4).mono ?_
     rintro e w5 ⟨c', xs', S5, rfl, hc5, hok5, hA5⟩
     obtain ⟨ja, jc, la, lc, rfl⟩ := hc5.eight
     dsimp only
     refine hK.out _ _ (hheld'.out _ _ _ _ _ _ _ _ _ _ (hA5)).2.2 (fun _ => ⟨(hheld'.out _ _ _ _ _ _ _ _ _ _ (hA5)).1, (hheld'.out _ _ _ _ _ _ _ _ _ _ (hA5)).2.1⟩) ?_
     clear hK K'
     try simp only [List.getElem_toArray, List.getElem_cons_zero, List.getElem_cons_succ, Act.put, List.setIfInBounds_toArray, List.set_cons_zero, List.set_cons_succ]
     refine Goes.one (i := 13) (by kernel_rfl) rfl (fun K' hK => ?_)
     try simp only [List.getElem_toArray, List.getElem_cons_zero, List.getElem_cons_succ, Act.put, List.setIfInBounds_toArray, List.set_cons_zero, List.set_cons_succ]
     go_simp
     refine hK.out _ _ (hheld'.out _ _ _ _ _ _ _ _ _ _ (hA5.alloc _)).2.2 (fun _ => ⟨(hheld'.out _ _ _ _ _ _ _ _ _ _ (hA5.alloc _)).1, (hheld'.out _ _ _ _ _ _ _ _ _ _ (hA5.alloc _)).2.1⟩) ?_
     clear hK K'
     try simp only [List.getElem_toArray, List.getElem_cons_zero, List.getElem_cons_succ, Act.put, List.setIfInBounds_toArray, List.set_cons_zero, List.set_cons_succ]
     refine Goes.one (i := 14) (by kernel_rfl) rfl (fun K' hK => ?_)
     rw [if_pos (by rfl)]
     simp only [List.getElem_toArray, List.getElem_cons_zero, List.getElem_cons_succ]
     refine dB _ iD _ _ rfl (.slice va is.length vc) is.length ixs rfl (hA5.alloc _).oi _ _ _ rfl (Src.ofSlice _ Tryz.underlying31 _ _ _ _ rfl (aW _ [.int .u64 c'.r0, .int .u64 c'.r1, .int .u64 c'.r2, .int .u64 c'.r3, .string c'.s, .bool c'.null, .slice ja c'.items.length jc, .slice la c'.keys.length lc] _) (by simp [Value.oneCell'])) (by unfold maxLen; omega) (by omega) ?_
     intro v6 w6 ha6
     obtain ⟨a6, b6, rfl⟩ := ha6.shape
     have hA6 := (hA5.alloc _).aKL ha6
     have hr6 := Making.of hA6.row
     have g66 := hr6.g6
     have g67 := hr6.g7
     have f66 := hr6.z6
     have f67 := hr6.z7
     refine hK.out _ _ (hheld'.out _ _ _ _ _ _ _ _ _ _ (hA6)).2.2 (fun _ => ⟨(hheld'.out _ _ _ _ _ _ _ _ _ _ (hA6)).1, (hheld'.out _ _ _ _ _ _ _ _ _ _ (hA6)).2.1⟩) ?_
     clear hK K'
     try simp only [Act.put, List.setIfInBounds_toArray, List.set_cons_zero, List.set_cons_succ]
     refine Goes.one (i := 16) (by kernel_rfl) rfl (fun K' hK => ?_)
     try simp only [List.getElem_toArray, List.getElem_cons_zero, List.getElem_cons_succ, Act.put]
     go_simp
     have hT6 := (hheld'.out _ _ _ _ _ _ _ _ _ _ hA6).2.2
     have hfS : Fr (fun x => x = w.heap.size + 1 + 1) w6 (w6.setCell ⟨w.heap.size + 1 + 1, 7, none⟩ (.slice a4 (ks.length + 1) b4)) := (Fr.refl (fun x => x = w.heap.size + 1 + 1) w6).setCell (.inl rfl) _
     have hfS2 : Fr (fun x => x = w.heap.size + 1 + 1) w6 ((w6.setCell ⟨w.heap.size + 1 + 1, 7, none⟩ (.slice a4 (ks.length + 1) b4)).setCell ⟨w.heap.size + 1 + 1, 6, none⟩ (.slice a6 (is.length + 1) b6)) := hfS.setCell (.inl rfl) _
     refine hK.out _ _ (hkeep0'.out _ _ hfS hT6) (fun h => absurd (h.symm.trans (by kernel_rfl)) Bool.false_ne_true) ?_
     clear hK K'
     try simp only [List.getElem_toArray, List.getElem_cons_zero, List.getElem_cons_succ, Act.put, List.setIfInBounds_toArray, List.set_cons_zero, List.set_cons_succ]
     refine Goes.one (i := 17) (by kernel_rfl) rfl (fun K' hK => ?_)
     try simp only [List.getElem_toArray, List.getElem_cons_zero, List.getElem_cons_succ, Act.put, List.setIfInBounds_toArray, List.set_cons_zero, List.set_cons_succ]
     go_simp
     refine hK.out _ _ (hkeep0'.out _ _ hfS hT6) (fun h => absurd (h.symm.trans (by kernel_rfl)) Bool.false_ne_true) ?_
     clear hK K'
     try simp only [List.getElem_toArray, List.getElem_cons_zero, List.getElem_cons_succ, Act.put, List.setIfInBounds_toArray, List.set_cons_zero, List.set_cons_succ]
     refine Goes.one (i := 18) (by kernel_rfl) rfl (fun K' hK => ?_)
     try simp only [List.getElem_toArray, List.getElem_cons_zero, List.getElem_cons_succ, Act.put]
     go_simp
     refine hK.out _ _ (hkeep0'.out _ _ hfS2 hT6) (fun h => absurd (h.symm.trans (by kernel_rfl)) Bool.false_ne_true) ?_
     clear hK K'
     try simp only [List.getElem_toArray, List.getElem_cons_zero, List.getElem_cons_succ, Act.put, List.setIfInBounds_toArray, List.set_cons_zero, List.set_cons_succ]
     refine Goes.done (by kernel_rfl) ?_
     obtain ⟨q1, ⟨S9, q2⟩, q3, q4⟩ := hA6.store
     clear hT6 hfS hfS2
     go_wp2
     go_roundw
     case rel => exact ⟨k - 1, is ++ [c'], ks ++ [ck], _, _, .slice a6 (is.length + 1) b6, .slice a4 (ks.length + 1) b4, S9, by rw [Int.natCast_sub hkz]; rfl, by simp; omega, by rw [List.length_append, List.length_append, hklH.out]; rfl, q1, q2, by rw [dV, List.length_append, List.length_singleton, Nat.add_mul, Nat.one_mul]; have := hok5.wt; have := hwtH.out; simp only [wts]; omega, by rw [dV, List.length_append, List.length_singleton, Nat.add_mul, Nat.one_mul]; have := hck.wt; have := hwkH.out; simp only [wts]; omega, q3, q4⟩
     case measure => simp [intOf]; omega
  · have hkz' : k = 0 := by omega
    subst hkz'
    have hresr := (hfr.block _ (by omega) (by show ¬ (w.heap.size + 1 = p ∨ w.heap.size + 1 = w.heap.size + 1 + 1); omega)).trans hres1
    obtain ⟨g0, g1, g2, g3, g4, g5, g6, g7, -, -⟩ := hmk
    obtain ⟨r0, r1, r2, r3, r4, r5, r6, r7, z0, z1, z2, z3, z4, z5, z6, z7⟩ := pJ.of (w := w) hresr
    have hklH := Lib.hid hkl
    clear hkl hK hT
    go_wp2
    refine bodyPost_ret (by simp [results, Tryz.results9, go_sem, r0, r1, r2, r3, r4, r5, r6, r7]; try rfl) rfl ?_
    have hfA : Fr (fun k => k = p) w wr := hW1.trans hfr (fun x hx h => h.elim id (fun h => by omega))
    obtain ⟨e1, e2, e3⟩ := rH hcode hpw hfA (aAD hgr (S' := fun q => w.heap.size + 1 < q ∧ q < wr.heap.size) (fun q h1 h2 => ⟨by omega, h2⟩)) (.int .u64 0) (.int .u64 0) (.int .u64 0) (.int .u64 0) (.string ⟨#[]⟩) (.bool false) (.slice va is.length vc) (.slice wa ks.length wc)
    refine ⟨_, _, rfl, e1, ⟨?_, fun ts e => (by cases e), fun k v e => hklH.out, fun t e => (by cases e)⟩, e2, e3⟩
    have h5 : 1 ≤ 5 ^ d := Nat.one_le_pow _ _ (by decide)
    have hm : is.length * (20 * 5 ^ d) ≤ 2 * (20 * 5 ^ d) := Nat.mul_le_mul_right _ (by omega)
    have h0 : (⟨#[]⟩ : ByteArray).size = 0 := rfl
    rw [Cell.wt, h0, Nat.pow_succ]
    omega
end Go.Proofs.YtcidlnjpabgioaaGreatDoor
