/- Two rows of the call's own that grow side by side. -/
import Derived.Test.YtcidlnjpabgioaaGreatDoorLeaf
namespace Go.Proofs.YtcidlnjpabgioaaGreatDoor
open Go.RowKit

/-- Two rows of the call's own, in blocks from lo on, apart from each other. -/
structure Two (lo : Nat) (w : World) (e : TypeId) (size : Nat) (rv vv : Value) (n : Nat) (xs ys : List Value) : Prop where
  a : w.ownsRow 0 e size rv n xs
  b : w.ownsRow 0 e size vv n ys
  la : ∀ k, rv.ownBlock = some k → lo ≤ k
  lb : ∀ k, vv.ownBlock = some k → lo ≤ k
  ne : ∀ k, rv.ownBlock = some k → vv.ownBlock ≠ some k
theorem Two.swap {lo : Nat} {w : World} {e : TypeId} {size : Nat} {rv vv : Value} {n : Nat} {xs ys : List Value} (h : Two lo w e size rv vv n xs ys) : Two lo w e size vv rv n ys xs :=
  ⟨h.b, h.a, h.lb, h.la, fun k h1 h2 => h.ne k h2 h1⟩

theorem Two.fr {lo : Nat} {w w' : World} {e : TypeId} {size : Nat} {rv vv : Value} {n : Nat} {xs ys : List Value} {S : Nat → Prop} (h : Two lo w e size rv vv n xs ys) (hf : Fr S w w') (hS : ∀ k, lo ≤ k → ¬ S k) : Two lo w' e size rv vv n xs ys :=
  ⟨hf.owns h.a (fun k hk => hS k (h.la k hk)), hf.owns h.b (fun k hk => hS k (h.lb k hk)), h.la, h.lb, h.ne⟩

section
variable {lo : Nat} {w0 u1 u2 u3 u4 : World} {e : TypeId} {size : Nat} {rv vv rv' vv' : Value} {n m : Nat} {xs ys xs' ys' : List Value}
theorem Two.first (h0 : Two lo w0 e size rv vv n xs ys) (f1 : Fr (fun _ => False) w0 u1) : u1.ownsRow 0 e size rv n xs := f1.owns h0.a (fun _ _ h => h)
/-- The second row, behind the append to the first one. -/
theorem Two.mid (h0 : Two lo w0 e size rv vv n xs ys) (f1 : Fr (fun _ => False) w0 u1) (ha : Appended u1 u2 e size rv rv' m xs') (f2 : Fr (fun _ => False) u2 u3) : u3.ownsRow 0 e size vv n ys :=
  f2.owns ((Fr.of_grown ha.2.1).owns (f1.owns h0.b (fun _ _ h => h)) (fun k hk h => h0.ne k h hk)) (fun _ _ h => h)
/-- Both, behind both appends. -/
theorem Two.done (hlo : lo ≤ w0.heap.size) (h0 : Two lo w0 e size rv vv n xs ys) (f1 : Fr (fun _ => False) w0 u1) (ha : Appended u1 u2 e size rv rv' m xs') (f2 : Fr (fun _ => False) u2 u3) (hb : Appended u3 u4 e size vv vv' m ys') :
    Two lo u4 e size rv' vv' m xs' ys' ∧ Fr (fun k => rv.ownBlock = some k ∨ vv.ownBlock = some k) w0 u4 := by
  have s1 := f1.size
  have s2 := ha.2.1.size
  have s3 := f2.size
  have hra : ∀ k, rv'.ownBlock = some k → rv.ownBlock = some k ∨ k = u1.heap.size := fun k hk => by
    rcases ha.2.2 with h | h
    · exact .inl (by rw [← h]; exact hk)
    · rw [h] at hk; simp only [Option.some.injEq] at hk; exact .inr hk.symm
  have hvb : ∀ k, vv'.ownBlock = some k → vv.ownBlock = some k ∨ k = u3.heap.size := fun k hk => by
    rcases hb.2.2 with h | h
    · exact .inl (by rw [← h]; exact hk)
    · rw [h] at hk; simp only [Option.some.injEq] at hk; exact .inr hk.symm
  have hrl : ∀ k, rv.ownBlock = some k → k < w0.heap.size := fun k hk => ownsRow_lt h0.a hk
  have hvl : ∀ k, vv.ownBlock = some k → k < w0.heap.size := fun k hk => ownsRow_lt h0.b hk
  have hr'l : ∀ k, rv'.ownBlock = some k → k < u2.heap.size := fun k hk => ownsRow_lt ha.1 hk
  refine ⟨⟨(Fr.of_grown hb.2.1).owns (f2.owns ha.1 (fun _ _ h => h)) (fun k hk h => ?_), hb.1, fun k hk => ?_, fun k hk => ?_, fun k hk h => ?_⟩, ?_⟩
  · rcases hra k hk with h1 | h1
    · exact h0.ne k h1 h
    · have := hvl k h; omega
  · rcases hra k hk with h1 | h1
    · exact h0.la k h1
    · omega
  · rcases hvb k hk with h1 | h1
    · exact h0.lb k h1
    · omega
  · rcases hra k hk with h1 | h1 <;> rcases hvb k h with h2 | h2
    · exact h0.ne k h1 h2
    · have := hrl k h1; omega
    · have := hvl k h2; omega
    · have := hr'l k hk; omega
  · exact (((f1.mono (fun _ _ h => h.elim)).grown ha.2.1 (fun k hk => .inl (.inl hk))).trans (f2.mono (fun _ _ h => h.elim)) (fun _ _ h => h)).grown hb.2.1 (fun k hk => .inl (.inr hk))

/-- The cells xs lie at block k. -/
def CellsAt (w : World) (k : Nat) (xs : List Value) : Prop := ∀ j u, xs[j]? = some u → w.cell? ((⟨k, 0, none⟩ : Addr).add j) = some u
theorem CellsAt.fr {w w' : World} {k : Nat} {xs : List Value} {S : Nat → Prop} (h : CellsAt w k xs) (hf : Fr S w w') (hk : ¬ S k) : CellsAt w' k xs := fun j u hj => hf.cell_some (h j u hj) (by rw [Addr.add_lit]; exact hk)
theorem CellsAt.new {w : World} {k : Nat} (xs : List Value) (t : TypeId) (hk : k = w.heap.size) : CellsAt (w.alloc (.cells xs.toArray t)) k xs := by
  subst hk
  exact cells_new w xs t
theorem CellsAt.drew {w : World} {k : Nat} {xs : List Value} (h : CellsAt w k xs) : CellsAt w.drew k xs := h
/-- .. that lie apart from the row that grows. -/
theorem CellsAt.past {k : Nat} {zs : List Value} (hc : CellsAt w0 k zs) (hr : rv.ownBlock ≠ some k) (f1 : Fr (fun _ => False) w0 u1) (ha : Appended u1 u2 e size rv rv' m xs') : CellsAt u2 k zs :=
  (hc.fr f1 (fun h => h)).fr (Fr.of_grown ha.2.1) (fun h => hr h)
theorem CellsAt.eight {w : World} {k : Nat} {a b c d e f g h : Value} (hc : CellsAt w k [a, b, c, d, e, f, g, h]) : w.cell? ⟨k, 0, none⟩ = some a ∧ w.cell? ⟨k, 1, none⟩ = some b ∧ w.cell? ⟨k, 2, none⟩ = some c ∧ w.cell? ⟨k, 3, none⟩ = some d ∧ w.cell? ⟨k, 4, none⟩ = some e ∧ w.cell? ⟨k, 5, none⟩ = some f ∧ w.cell? ⟨k, 6, none⟩ = some g ∧ w.cell? ⟨k, 7, none⟩ = some h := by
  have H := fun j u hj => (congrArg w.cell? (Addr.add_lit k 0 j)).symm.trans (hc j u hj)
  simp only [Nat.zero_add] at H
  exact ⟨H 0 _ rfl, H 1 _ rfl, H 2 _ rfl, H 3 _ rfl, H 4 _ rfl, H 5 _ rfl, H 6 _ rfl, H 7 _ rfl⟩
theorem CellsAt.of_block {w : World} {k : Nat} {xs : List Value} {t : TypeId} {p : Nat × Nat} (h : w.heap[k]? = some (.cells xs.toArray t p)) : CellsAt w k xs := fun j u hj => by
  rw [Addr.add_lit, cell_of_row _ _ _ _ _ _ h]
  simpa using hj
/-- .. behind the first append. -/
theorem CellsAt.mid {k : Nat} {zs : List Value} (hc : CellsAt u1 k zs) (hk : w0.heap.size ≤ k) (h0 : Two lo w0 e size rv vv n xs ys) (ha : Appended u1 u2 e size rv rv' m xs') (f2 : Fr (fun _ => False) u2 u3) : CellsAt u3 k zs :=
  (hc.fr (Fr.of_grown ha.2.1) (fun h => by have := ownsRow_lt h0.a h; omega)).fr f2 (fun h => h)
end
end Go.Proofs.YtcidlnjpabgioaaGreatDoor
