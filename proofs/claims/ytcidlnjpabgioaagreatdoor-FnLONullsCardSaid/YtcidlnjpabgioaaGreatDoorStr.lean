/- The column of strings: its bytes and where each begins and ends. -/
import Derived.Test.YtcidlnjpabgioaaGreatDoorEnc
namespace Go.Proofs.YtcidlnjpabgioaaGreatDoor
open Go.RowKit

/-- '*p.f = append(*p.f, ..)', f the field number i of a struct in block p: w0 is w with new blocks, w1 what the append leaves. -/
theorem field_appended {w w0 w1 : World} {p i : Nat} {tc e : TypeId} {size n m : Nat} {xs ys : List Value} {cur : Array Value} {v v' : Value}
    (hp : w.heap[p]? = some (.cells cur tc (0, 0))) (_hown : w.ownsRow 0 e size v n xs) (hne : v.ownBlock ≠ some p) (h0 : Fr (fun _ => False) w w0) (ha : Appended w0 w1 e size v v' m ys) :
    (w1.setCell ⟨p, i, none⟩ v').heap[p]? = some (.cells (cur.setIfInBounds i v') tc (0, 0)) ∧ (w1.setCell ⟨p, i, none⟩ v').ownsRow 0 e size v' m ys ∧ v'.ownBlock ≠ some p ∧ (v'.ownBlock = v.ownBlock ∨ v'.ownBlock = some w0.heap.size) ∧
      Fr (fun k => k = p ∨ v.ownBlock = some k) w (w1.setCell ⟨p, i, none⟩ v') := by
  obtain ⟨h1, hg, h2⟩ := ha
  have hpl := heap_lt hp
  have hs0 := h0.size
  have hp0 : w0.heap[p]? = some (.cells cur tc (0, 0)) := (h0.block p hpl (fun h => h)).trans hp
  have hp1 : w1.heap[p]? = some (.cells cur tc (0, 0)) := (hg.block p (by omega) (fun h => hne h.symm)).trans hp0
  have hne' : v'.ownBlock ≠ some p := by
    rcases h2 with h2 | h2 <;> rw [h2]
    · exact hne
    · simp; omega
  refine ⟨?_, ?_, hne', h2, ?_⟩
  · simp [World.setCell, Array.getElem?_modify, hp1]
  · exact ((Fr.refl (fun k => k = p) w1).setCell (.inl rfl) v').owns h1 (fun k hk e => hne' (by rw [hk, e]))
  · exact ((h0.mono (fun k _ h => h.elim)).grown hg (fun k hk => .inl (.inr hk))).setCell (.inl (.inl rfl)) v'

/-- The struct's cells as the append leaves them. -/
theorem field_cells {w w0 w1 : World} {p : Nat} {tc e : TypeId} {size m : Nat} {ys : List Value} {cur : Array Value} {v v' : Value}
    (hp : w.heap[p]? = some (.cells cur tc (0, 0))) (hne : v.ownBlock ≠ some p) (h0 : Fr (fun _ => False) w w0) (ha : Appended w0 w1 e size v v' m ys) :
    (∀ j, w1.cell? ⟨p, j, none⟩ = cur[j]?) ∧ ∀ j, w1.frozen? ⟨p, j, none⟩ = false := by
  obtain ⟨h1, hg, h2⟩ := ha
  have hpl := heap_lt hp
  have hs0 := h0.size
  have hp1 : w1.heap[p]? = some (.cells cur tc (0, 0)) := (hg.block p (by omega) (fun h => hne h.symm)).trans ((h0.block p hpl (fun h => h)).trans hp)
  exact ⟨fun j => by rw [cell_of_row _ _ _ _ _ _ hp1], fun j => frozen_of_row _ _ _ _ _ hp1⟩

/-- The strings, one behind the other. -/
def cat (cs : List Cell) : List UInt8 := cs.flatMap fun c => c.s.data.toList
/-- Where each begins and ends. -/
def spans : Nat → List Cell → List Value
  | _, [] => []
  | n, c :: cs => .int .i64 n :: .int .i64 (n + c.s.size : Nat) :: spans (n + c.s.size) cs
theorem cat_append (a b : List Cell) : cat (a ++ b) = cat a ++ cat b := by simp [cat]
theorem cat_cons (c : Cell) (cs : List Cell) : cat (c :: cs) = c.s.data.toList ++ cat cs := rfl
theorem spans_append : ∀ (a : List Cell) (n : Nat) (c : Cell), spans n (a ++ [c]) = spans n a ++ [.int .i64 (n + (cat a).length : Nat), .int .i64 (n + (cat a).length + c.s.size : Nat)]
  | [], n, c => by simp [spans, cat]
  | d :: a, n, c => by
    have hs : d.s.data.toList.length = d.s.size := Array.length_toList
    rw [List.cons_append, spans, spans, spans_append a, cat_cons, List.length_append, hs]
    simp [Nat.add_assoc]
theorem cat_le_wts : ∀ (a : List Cell), (cat a).length + a.length ≤ wts a
  | [] => by simp [cat]
  | c :: a => by
    have := cat_le_wts a
    have hs : c.s.data.toList.length = c.s.size := Array.length_toList
    rw [cat_cons, List.length_append, hs, wts, Cell.wt_eq, List.length_cons]
    omega
theorem spans_length : ∀ (a : List Cell) (n : Nat), (spans n a).length = a.length * 2
  | [], _ => rfl
  | c :: a, n => by rw [spans, List.length_cons, List.length_cons, spans_length a, List.length_cons]; omega

/-- Block p holds the column of the strings of σ; fp are its blocks. -/
def StrAt (w : World) (p : Nat) (σ : List Cell) (fp : Nat → Prop) : Prop :=
  ∃ v1 v2, w.heap[p]? = some (.cells #[v1, v2] 148 (0, 0)) ∧ w.ownsRow 0 5 1 v1 (cat σ).length (bcells (cat σ)) ∧ w.ownsRow 0 511 2 v2 σ.length (spans 0 σ) ∧
    v1.ownBlock ≠ some p ∧ v2.ownBlock ≠ some p ∧ (∀ k, v1.ownBlock = some k → v2.ownBlock ≠ some k) ∧ ∀ k, fp k ↔ k = p ∨ v1.ownBlock = some k ∨ v2.ownBlock = some k

theorem byteCells_bcells (s : ByteArray) : byteCells s = bcells s.data.toList := rfl

theorem posEl : ElT Tryz.prog 146 511 (.agg #[.int .i64 0, .int .i64 0]) 2 16 := ⟨Tryz.underlying146, info_parts (by kernel_rfl), rfl⟩

theorem StrAt.framed {w w' : World} {p : Nat} {σ : List Cell} {fp : Nat → Prop} (h : StrAt w p σ fp) (hk : ∀ k, fp k → w'.heap[k]? = w.heap[k]?) : StrAt w' p σ fp := by
  obtain ⟨v1, v2, hp, h1, h2, n1, n2, n3, hfp⟩ := h
  have ow : ∀ {e : TypeId} {size : Nat} {v : Value} {n : Nat} {xs : List Value}, w.ownsRow 0 e size v n xs → (∀ k, v.ownBlock = some k → fp k) → w'.ownsRow 0 e size v n xs := by
    intro e size v n xs ho hv
    refine ⟨ho.1, ?_⟩
    rcases ho.2 with h0 | ⟨g, cap, cur, rfl, hb, hgg, rest⟩
    · exact .inl h0
    · exact .inr ⟨g, cap, cur, rfl, hb, (hk g (hv g rfl)).trans hgg, rest⟩
  exact ⟨v1, v2, (hk p ((hfp p).2 (.inl rfl))).trans hp, ow h1 (fun k h => (hfp k).2 (.inr (.inl h))), ow h2 (fun k h => (hfp k).2 (.inr (.inr h))), n1, n2, n3, hfp⟩
theorem StrAt.lt {w : World} {p : Nat} {σ : List Cell} {fp : Nat → Prop} (h : StrAt w p σ fp) : ∀ k, fp k → k < w.heap.size := by
  obtain ⟨v1, v2, hp, h1, h2, n1, n2, n3, hfp⟩ := h
  intro k hk
  rcases (hfp k).1 hk with rfl | hk | hk
  · exact heap_lt hp
  · exact ownsRow_lt h1 hk
  · exact ownsRow_lt h2 hk

set_option maxHeartbeats 1000000 in
theorem str_append (w : World) (p : Nat) (σ : List Cell) (fp : Nat → Prop) (h : StrAt w p σ fp) (c : Cell) (hc : c.s.size ≤ 65536) (hn : (cat σ).length ≤ 2147483648) (hm : σ.length < 2147483648) :
    Calls Tryz.prog 287 #[.pointer (some ⟨p, 0, none⟩), .string c.s] w fun e w' => e = .returned (.tuple #[]) ∧ (∃ fp', StrAt w' p (σ ++ [c]) fp' ∧ Grow w fp fp') ∧ Fr fp w w' := by
  obtain ⟨v1, v2, hp, h1, h2, n1, n2, n3, hfp⟩ := h
  obtain ⟨a1, k1, rfl⟩ := ownsRow_shape h1
  obtain ⟨a2, k2, rfl⟩ := ownsRow_shape h2
  have hpl := heap_lt hp
  have c0 : w.cell? ⟨p, 0, none⟩ = some (.slice a1 (cat σ).length k1) := by rw [cell_of_row _ _ _ _ _ _ hp]; rfl
  go_enter Tryz.func287, Tryz.ntmps287
  go_wp2_with (first
    | ((with_reducible show wpList _ _ _ (⟨some 17, _, _, _, _, _⟩ :: _) _ _); refine wpList_append _ rfl bufEl _ _ rfl _ _ _ rfl h1 _ _ _ rfl (Src.ofString _ Tryz.underlying9 c.s) ?_ ?_ ?_; (unfold maxLen; omega); omega; intro v' w1 ha; obtain ⟨a1', k1', rfl⟩ := ha.shape; obtain ⟨hcs, hfs⟩ := field_cells hp n1 (Fr.refl _ w) ha; have d0 : w1.cell? ⟨p, 0, none⟩ = some (.slice a1 (cat σ).length k1) := hcs 0; have d1 : w1.cell? ⟨p, 1, none⟩ = some (.slice a2 σ.length k2) := hcs 1; have f0 := hfs 0; have f1 := hfs 1; obtain ⟨hp', hown', hne', hblk', hfr'⟩ := field_appended (i := 0) hp h1 n1 (Fr.refl _ w) ha; have h2W := hfr'.owns h2 (fun k hk h => h.elim (fun e => n2 (by rw [hk, e])) (fun e => n3 k e hk)))
    | ((with_reducible show wpList _ _ _ (⟨some 34, _, _, _, _, _⟩ :: _) _ _); refine wpList_append _ rfl posEl _ _ rfl _ _ _ rfl (h2W.alloc _) _ _ _ rfl (Src.ofSlice _ Tryz.underlying146 _ _ _ _ rfl (cells_at_new (by simp [World.setCell]) [.int .i64 (cat σ).length, .int .i64 ((cat σ).length + c.s.size)] _) (by simp [Value.oneCell'])) ?_ ?_ ?_; (unfold maxLen; omega); omega; intro v2' w2 ha2; obtain ⟨a2', k2', rfl⟩ := ha2.shape; obtain ⟨hcs2, hfs2⟩ := field_cells hp' n2 ((Fr.refl _ _).alloc _) ha2; have d2 := hcs2 1; have f2 := hfs2 1; have hB := field_appended (i := 1) hp' h2W n2 ((Fr.refl _ _).alloc _) ha2))
  obtain ⟨hp2, hown2, hne2, hblk2, hfr2⟩ := hB
  have hs1 := hfr'.size
  have hs2 : (w1.setCell ⟨p, 0, none⟩ (Value.slice a1' ((cat σ).length + c.s.size) k1')).heap.size = w1.heap.size := by simp [World.setCell]
  have hst := byteCells_bcells c.s
  have hl : (cat (σ ++ [c])).length = (cat σ).length + c.s.size := by rw [cat_append, List.length_append]; congr 1; simp [cat]
  (try simp only [Exit.inBlock, Exit.then]); refine bodyPost_end (results_none rfl _ _ _) rfl ?_
  have hv1 : ∀ k, (Value.slice a1' ((cat σ).length + c.s.size) k1').ownBlock = some k → (Value.slice a2 σ.length k2).ownBlock ≠ some k := by
    intro k hk h
    rcases hblk' with e | e
    · exact n3 k (by rw [← e, hk]) h
    · rw [e] at hk
      simp only [Option.some.injEq] at hk
      have := ownsRow_lt h2 h
      omega
  refine ⟨rfl, ⟨fun k => k = p ∨ (Value.slice a1' ((cat σ).length + c.s.size) k1').ownBlock = some k ∨ (Value.slice a2' (σ.length + 1) k2').ownBlock = some k, ⟨_, _, hp2, ?_, ?_, hne', hne2, ?_, fun k => Iff.rfl⟩, ?_⟩, ?_⟩
  · rw [hl, cat_append, bcells_append]
    have := hfr2.owns hown' (fun k hk h => h.elim (fun e => hne' (by rw [hk, e])) (fun e => hv1 k hk e))
    rw [hst] at this
    have e : cat [c] = c.s.data.toList := by simp [cat]
    rw [e]
    exact this
  · rw [spans_append, List.length_append, Nat.zero_add]
    exact hown2
  · intro k hk h
    rcases hblk2 with e | e
    · exact hv1 k hk (by rw [← h, e])
    · rw [e] at h
      simp only [Option.some.injEq] at h
      have := ownsRow_lt hown' hk
      simp at h
      omega
  · rintro k (rfl | hk | hk)
    · exact .inl ((hfp k).2 (.inl rfl))
    · rcases hblk' with e | e
      · exact .inl ((hfp k).2 (.inr (.inl (by rw [← e, hk]))))
      · rw [e] at hk
        simp only [Option.some.injEq] at hk
        exact .inr (by omega)
    · rcases hblk2 with e | e
      · exact .inl ((hfp k).2 (.inr (.inr (by rw [← e, hk]))))
      · rw [e] at hk
        simp only [Option.some.injEq] at hk
        simp at hk
        exact .inr (by omega)
  · exact (hfr'.mono (fun k _ h => (hfp k).2 (h.elim .inl (fun h => .inr (.inl h))))).trans hfr2 (fun k _ h => (hfp k).2 (h.elim .inl (fun h => .inr (.inr h))))
end Go.Proofs.YtcidlnjpabgioaaGreatDoor
