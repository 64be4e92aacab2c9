import Derived.Test.YtcidlnjpabgioaaGreatDoorSpec
namespace Go.Proofs.YtcidlnjpabgioaaGreatDoor
open Go.RowKit

set_option maxHeartbeats 400000 in
theorem state1_any {B : Nat} {t : TypeId} {u : Value} {T : Ty} {st : List UInt8} {R Rp : World → (Nat → Prop) → List Cell → Prop} (cs : ColSpec Tryz.prog B t u T st R Rp)
    (w : World) (fp : Nat → Prop) (σ : List Cell) (hR : Rp w fp σ) (b q : Nat) (fb : Nat → Prop) (bs : List UInt8) (hb : Buf w b fb bs) (hd : ∀ k, fp k → ¬ fb k) (hl : bs.length ≤ 2147483648)
    (hq : w.cell? ⟨q, 0, none⟩ = some (.iface t u)) :
    Calls Tryz.prog 51 #[.pointer (some ⟨b, 0, none⟩), .pointer (some ⟨q, 0, none⟩)] w fun e w' => e = .returned (.tuple #[]) ∧ Fr fb w w' ∧ ∃ fb', Buf w' b fb' (bs ++ st) ∧ Grow w fb fb' := by
  obtain ⟨p, hta, hst⟩ := cs.state
  have hta' := hta 59
  cases p with
  | false =>
    simp only [Bool.false_eq_true, if_false] at hst hta'
    subst hst
    go_enter Tryz.func51, Tryz.ntmps51
    go_wp2
    go_end0
    exact ⟨rfl, Fr.refl _ _, fb, by simpa using hb, fun k hk => .inl hk⟩
  | true =>
    simp only [if_true] at hst hta'
    have hi := hst hR hb hd hl
    go_enter Tryz.func51, Tryz.ntmps51
    go_wp2_with ((with_reducible show wpList _ _ _ (⟨some 13, _, _, _, _, _⟩ :: _) _ _); refine wpList_invoke _ rfl _ _ _ _ rfl _ _ rfl hi rfl ?_; rintro e w' ⟨rfl, h1, h2⟩; refine ⟨_, rfl, ?_⟩)
    go_end0
    exact ⟨rfl, h1, h2⟩

theorem CallsV.func {P : Program} {k : FuncId} {captured args : Array Value} {w : World} {R : Ending → World → Prop} (hk : ∀ (args : Array Value) (w : World), (callFunc k args).run P w = .ok (.enter k args) w)
    (h : Calls P k (args ++ captured) w R) : CallsV P (.func (.func k) #[] captured) args w R :=
  ⟨{ target := .fn (.func k) captured, args := #[] ++ args }, k, args ++ captured, rfl, by simp only [invoke, Array.empty_append, hk], h⟩

theorem Fr.heap {S : Nat → Prop} {w w' : World} (h : Fr S w w') {k : Nat} (hk : k < w.heap.size) (hn : ¬ S k) : w'.heap[k]? = w.heap[k]? := h.block k hk hn

theorem Buf.fresh (w : World) : Buf (w.alloc (.cells #[.slice none 0 0] 114)) w.heap.size (fun k => k = w.heap.size) [] :=
  ⟨.slice none 0 0, heap_alloc_new w _, World.ownsRow_nil _ _ _ _, by simp [Value.ownBlock], fun k => by simp [Value.ownBlock]⟩

set_option maxHeartbeats 400000 in
theorem state_any {B : Nat} {t : TypeId} {u : Value} {T : Ty} {st : List UInt8} {R Rp : World → (Nat → Prop) → List Cell → Prop} (cs : ColSpec Tryz.prog B t u T st R Rp)
    (w : World) (fp : Nat → Prop) (σ : List Cell) (hR : Rp w fp σ) :
    Calls Tryz.prog 37 #[.iface t u] w fun e w' => ∃ v, e = .returned v ∧ w'.ownsRow 0 5 1 v st.length (bcells st) ∧ Below w.heap.size w w' := by
  have hlo := cs.lo' hR
  have hfp : ∀ k, fp k → (w.alloc (.cells #[.iface t u] 59)).heap[k]? = w.heap[k]? := fun k hk => Below.heap_alloc _ _ _ (hlo k hk).2
  have hR1 := cs.frame' hR hfp
  have hlo1 := cs.lo' hR1
  have hR2 := cs.frame' (w' := (w.alloc (.cells #[.iface t u] 59)).alloc (.cells #[.slice none 0 0] 114)) hR1 (fun k hk => Below.heap_alloc _ _ _ (hlo1 k hk).2)
  have hb := Buf.fresh (w.alloc (.cells #[.iface t u] 59))
  have hq : ((w.alloc (.cells #[.iface t u] 59)).alloc (.cells #[.slice none 0 0] 114)).cell? ⟨w.heap.size, 0, none⟩ = some (.iface t u) := by
    rw [World.cell?_alloc_lt _ _ _ (by simp)]
    simp
  have h51 := state1_any cs _ fp σ hR2 _ w.heap.size _ [] hb (fun k hk => by have := (hlo1 k hk).2; omega) (by simp) hq
  have he := encoded_any (.func (.func 51) #[] #[.pointer (some ⟨w.heap.size, 0, none⟩)]) (w.alloc (.cells #[.iface t u] 59)) st
    (CallsV.func Tryz.call51 (h51.mono fun e w' ⟨h1, h2, fb', h3, _⟩ => ⟨h1, h2, fb', by simpa using h3⟩))
  clear h51 hq hb hR2 hlo1 hR1 hfp
  go_enter Tryz.func37, Tryz.ntmps37
  go_wp2_with (go_at_call 38; refine he.mono ?_; rintro e w' ⟨v, rfl, h1, h2⟩)
  go_ret
  refine ⟨_, rfl, h1, ?_⟩
  exact ((Below.refl _ w).alloc (Nat.le_refl _) _).trans (h2.mono (by simp))

section
variable {P : Program} {w : World} {ops : Array Oper} {rest : List Oper} {o : Oper} {a : Act} {Q : Exit → Act → World → Prop}
theorem wpList_wanted (hw : Region.wanted o (yielded ops a.tmps) = true) (h : ∀ K : Act → World → Prop, (∀ a w, wpList P ops Q rest a w → K a w) → o.wp P a w K Q) : wpList P ops Q (o :: rest) a w :=
  wpList_step fun K hK => by rw [if_pos hw]; exact h K hK
theorem wpList_invoke_g (hg : Region.wanted o (yielded ops a.tmps) = true) (r : Operand) (name : String) (xs : Array Operand) (ts : Array TypeId) (hop : o.op = .call { callee := .invoke r name, args := xs, argTypes := ts })
    (v : Value) (args : Array Value) (hv : a.eval r = v) {R : Ending → World → Prop} (hc : Invokes P v name args w R) (ha : xs.toList.map a.eval = args.toList)
    (h : ∀ e w', R e w' → ∃ val, e = .returned val ∧ wpList P ops Q rest (a.put o.dst val) w') : wpList P ops Q (o :: rest) a w :=
  wpList_wanted hg fun _ hK => wp_invoke w r name xs ts hop v args hv hc ha fun e w' hr => let ⟨val, he, hk⟩ := h e w' hr; ⟨val, he, hK _ _ hk⟩
end

theorem ColSpec.framed {P : Program} {B : Nat} {t : TypeId} {u : Value} {T : Ty} {st : List UInt8} {R Rp : World → (Nat → Prop) → List Cell → Prop} (cs : ColSpec P B t u T st R Rp)
    {w w' : World} {fp : Nat → Prop} {σ : List Cell} (h : Rp w fp σ) (hb : Below w.heap.size w w') : Rp w' fp σ := cs.frame' h fun k hk => hb.block k (cs.lo' h k hk).2

/-- Prepared: the column's own blocks may have turned. -/
def Prepared (Rp : World → (Nat → Prop) → List Cell → Prop) (w w' : World) (fp : Nat → Prop) (σ : List Cell) : Prop := Fr fp w w' ∧ ∃ fp', Rp w' fp' σ ∧ Grow w fp fp'

set_option maxHeartbeats 400000 in
theorem ready_any {B : Nat} {t : TypeId} {u : Value} {T : Ty} {st : List UInt8} {R Rp : World → (Nat → Prop) → List Cell → Prop} (cs : ColSpec Tryz.prog B t u T st R Rp)
    (w : World) (fp : Nat → Prop) (σ : List Cell) (hR : R w fp σ) :
    Calls Tryz.prog 27 #[.iface t u] w fun e w' => e = .returned (.bool true) ∧ Prepared Rp w w' fp σ := by
  obtain ⟨p, hta, hp⟩ := cs.prepare
  have hta' := hta 59
  have hp := hp hR
  cases p with
  | false =>
    simp only [Bool.false_eq_true, if_false] at hp hta'
    go_enter Tryz.func27, Tryz.ntmps27
    go_wp2
    go_ret
    exact ⟨rfl, Fr.refl _ _, fp, hp, fun k hk => .inl hk⟩
  | true =>
    simp only [if_true] at hp hta'
    go_enter Tryz.func27, Tryz.ntmps27
    go_wp2_with ((with_reducible show wpList _ _ _ (⟨some 14, _, _, _, _, _⟩ :: _) _ _); refine wpList_invoke_g rfl _ _ _ _ rfl _ _ rfl hp rfl ?_; rintro e w' ⟨rfl, h1, h2⟩; refine ⟨_, rfl, ?_⟩)
    go_ret
    exact ⟨rfl, ‹_›, ‹_›⟩

/-- A slice of bytes that nobody else holds. -/
def Bytes (w : World) (v : Value) (bs : List UInt8) : Prop := w.ownsRow 0 5 1 v bs.length (bcells bs)

theorem Bytes.below {w w' : World} {v : Value} {bs : List UInt8} (h : Bytes w v bs) (hb : Below w.heap.size w w') : Bytes w' v bs := by
  have hf : Fr (fun _ => False) w w' := ⟨hb.os, hb.tape, hb.output, hb.size, fun k hk _ => hb.block k hk⟩
  exact hf.owns h (fun _ _ h => h)

theorem encodeColumn_any {B : Nat} {t : TypeId} {u : Value} {T : Ty} {st : List UInt8} {R Rp : World → (Nat → Prop) → List Cell → Prop} (cs : ColSpec Tryz.prog B t u T st R Rp)
    (w : World) (fp : Nat → Prop) (σ : List Cell) (hR : Rp w fp σ) (hw : Wt T σ ≤ 2147483648) (hl : (enc T σ).length ≤ 1099511627776) :
    Calls Tryz.prog 38 #[.func (.method "EncodeColumn") #[.iface t u] #[]] w fun e w' => ∃ v, e = .returned v ∧ Bytes w' v (enc T σ) ∧ Below w.heap.size w w' := by
  have hlo := cs.lo' hR
  have hR1 := cs.frame' (w' := w.alloc (.cells #[.slice none 0 0] 114)) hR (fun k hk => Below.heap_alloc _ _ _ (hlo k hk).2)
  have hi := cs.encode hR1 hw (Buf.fresh w) (fun k hk => by have := (hlo k hk).2; omega) (by simpa using hl)
  exact encoded_any _ w _ (CallsV.method (hi.mono fun e w' ⟨h1, h2, fb', h3, _⟩ => ⟨h1, h2, fb', by simpa using h3⟩))

set_option maxHeartbeats 400000 in
theorem out_any {B : Nat} {t : TypeId} {u : Value} {T : Ty} {st : List UInt8} {R Rp : World → (Nat → Prop) → List Cell → Prop} (cs : ColSpec Tryz.prog B t u T st R Rp)
    (w : World) (fp : Nat → Prop) (σ : List Cell) (hR : R w fp σ) (hBw : B ≤ w.heap.size) (hw : Wt T σ ≤ 2147483648) (hl : (enc T σ).length ≤ 1099511627776) :
    Calls Tryz.prog 24 #[.iface t u] w fun e w' => ∃ v1 v2, e = .returned (.tuple #[v1, v2, .bool true]) ∧ Bytes w' v1 st ∧ Bytes w' v2 (enc T σ) ∧ Below B w w' := by
  have hB := cs.lo hR
  have h27 := ready_any cs w fp σ hR
  go_enter Tryz.func24, Tryz.ntmps24
  go_wp2_with (go_at_call 27; refine h27.mono ?_; rintro e w1 ⟨rfl, hfr, fp1, hR1, hg1⟩)
  go_region_held3 (fun w' => Rp w' fp1 σ) (first | exact cs.frame' hR1 (fun _ _ => rfl) | exact cs.framed (by assumption) hb3 | exact cs.framed (by assumption) hb2 | assumption) (first
    | (go_at_call 37; refine (state_any cs _ fp1 σ (by assumption)).mono ?_; rintro e w2 ⟨v1, rfl, hv1, hb2⟩)
    | (go_at_call 38; refine (encodeColumn_any cs _ fp1 σ (by assumption) hw hl).mono ?_; rintro e w3 ⟨v2, rfl, hv2, hb3⟩))
  all_goals
    go_wp2
    go_ret3
    have hs1 := hfr.size
    have hs2 := hb2.size
    simp only [World.size_drew] at hb2 hs2
    refine ⟨v1, v2, rfl, Bytes.below hv1 hb3, hv2, ?_⟩
    have hb1 : Below B w w1 := hfr.below (by omega) (fun k hk hfk => by have := (hB k hfk).1; omega)
    exact hb1.trans ((Below.drew (Below.refl B w1)).trans ((hb2.mono (by omega)).trans (hb3.mono (by omega))))
end Go.Proofs.YtcidlnjpabgioaaGreatDoor
