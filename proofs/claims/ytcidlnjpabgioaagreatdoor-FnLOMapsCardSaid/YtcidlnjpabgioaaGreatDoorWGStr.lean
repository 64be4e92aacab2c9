import Derived.Test.YtcidlnjpabgioaaGreatDoorWGEnc
import Derived.Test.YtcidlnjpabgioaaGreatDoorWShelf
import Derived.Deep.RegionLaw
set_option maxHeartbeats 2000000
set_option maxRecDepth 100000
namespace Go.Proofs.YtcidlnjpabgioaaGreatDoor
open Go.RowKit
theorem dQ {w w0 w1 : World} {p i : Nat} {tc e : TypeId} {size n m : Nat} {xs ys : List Value} {cur : Array Value} {v v' : Value}
 (hp : w.heap[p]? = some (.cells cur tc (0, 0))) (_hown : w.ownsRow 0 e size v n xs) (hne : v.ownBlock ≠ some p) (h0 : Fr (fun _ => False) w w0) (ha : dA w0 w1 e size v v' m ys) :
 (w1.setCell ⟨p, i, none⟩ v').heap[p]? = some (.cells (cur.setIfInBounds i v') tc (0, 0)) ∧ (w1.setCell ⟨p, i, none⟩ v').ownsRow 0 e size v' m ys ∧ v'.ownBlock ≠ some p ∧ (v'.ownBlock = v.ownBlock ∨ v'.ownBlock = some w0.heap.size) ∧
  Fr (fun k => k = p ∨ v.ownBlock = some k) w (w1.setCell ⟨p, i, none⟩ v') := by
 obtain ⟨h1, hg, h2⟩ := ha
 have hpl := aH hp
 have hs0 := h0.size
 have hp0 : w0.heap[p]? = some (.cells cur tc (0, 0)) := (h0.block p hpl (fun h => h)).trans hp
 have hp1 : w1.heap[p]? = some (.cells cur tc (0, 0)) := (hg.block p (by omega) (fun h => hne h.symm)).trans hp0
 have hne' : v'.ownBlock ≠ some p := by
  rcases h2 with h2 | h2 <;> rw [h2]
  · exact hne
  · simp; omega
 refine ⟨?_, ?_, hne', h2, ?_⟩
 · simp [World.setCell, Array.getElem?_modify, hp1]
 · exact ((Fr.refl (fun k => k = p) w1).setCell (.inl rfl) v').owns h1 (fun k hk e => hne' (by rw [hk, e]))
 · exact ((h0.mono (fun k _ h => h.elim)).grown hg (fun k hk => .inl (.inr hk))).setCell (.inl (.inl rfl)) v'
theorem dU {w w0 w1 : World} {p : Nat} {tc e : TypeId} {size m : Nat} {ys : List Value} {cur : Array Value} {v v' : Value}
 (hp : w.heap[p]? = some (.cells cur tc (0, 0))) (hne : v.ownBlock ≠ some p) (h0 : Fr (fun _ => False) w w0) (ha : dA w0 w1 e size v v' m ys) :
 (∀ j, w1.cell? ⟨p, j, none⟩ = cur[j]?) ∧ ∀ j, w1.frozen? ⟨p, j, none⟩ = false := by
 obtain ⟨h1, hg, h2⟩ := ha
 have hpl := aH hp
 have hs0 := h0.size
 have hp1 : w1.heap[p]? = some (.cells cur tc (0, 0)) := (hg.block p (by omega) (fun h => hne h.symm)).trans ((h0.block p hpl (fun h => h)).trans hp)
 exact ⟨fun j => by rw [cell_of_row _ _ _ _ _ _ hp1], fun j => frozen_of_row _ _ _ _ _ hp1⟩
def cat (cs : List Cell) : List UInt8 := cs.flatMap fun c => c.s.data.toList
def spans : Nat → List Cell → List Value
 | _, [] => []
 | n, c :: cs => .int .i64 n :: .int .i64 (n + c.s.size : Nat) :: spans (n + c.s.size) cs
theorem iL (a b : List Cell) : cat (a ++ b) = cat a ++ cat b := by simp [cat]
theorem qU (c : Cell) (cs : List Cell) : cat (c :: cs) = c.s.data.toList ++ cat cs := rfl
theorem nZ : ∀ (a : List Cell) (n : Nat) (c : Cell), spans n (a ++ [c]) = spans n a ++ [.int .i64 (n + (cat a).length : Nat), .int .i64 (n + (cat a).length + c.s.size : Nat)]
 | [], n, c => by simp [spans, cat]
 | d :: a, n, c => by
  have hs : d.s.data.toList.length = d.s.size := Array.length_toList
  rw [List.cons_append, spans, spans, nZ a, qU, List.length_append, hs]
  simp [Nat.add_assoc]
theorem lG : ∀ (a : List Cell), (cat a).length + a.length ≤ wts a
 | [] => by simp [cat]
 | c :: a => by
  have := lG a
  have hs : c.s.data.toList.length = c.s.size := Array.length_toList
  rw [qU, List.length_append, hs, wts, Cell.jW, List.length_cons]
  omega
def iH (w : World) (p : Nat) (σ : List Cell) (fp : Nat → Prop) : Prop :=
 ∃ v1 v2, w.heap[p]? = some (.cells #[v1, v2] 148 (0, 0)) ∧ w.ownsRow 0 5 1 v1 (cat σ).length (aQ (cat σ)) ∧ w.ownsRow 0 511 2 v2 σ.length (spans 0 σ) ∧
  v1.ownBlock ≠ some p ∧ v2.ownBlock ≠ some p ∧ (∀ k, v1.ownBlock = some k → v2.ownBlock ≠ some k) ∧ ∀ k, fp k ↔ k = p ∨ v1.ownBlock = some k ∨ v2.ownBlock = some k
theorem rD (s : ByteArray) : byteCells s = aQ s.data.toList := rfl
theorem aKN : ElT Tryz.prog 146 511 (.agg #[.int .i64 0, .int .i64 0]) 2 16 := ⟨Tryz.underlying146, info_parts (by kernel_rfl), rfl⟩
theorem iH.aT {w w' : World} {p : Nat} {σ : List Cell} {fp : Nat → Prop} (h : iH w p σ fp) (hk : ∀ k, fp k → w'.heap[k]? = w.heap[k]?) : iH w' p σ fp := by
 obtain ⟨v1, v2, hp, h1, h2, n1, n2, n3, hfp⟩ := h
 have ow : ∀ {e : TypeId} {size : Nat} {v : Value} {n : Nat} {xs : List Value}, w.ownsRow 0 e size v n xs → (∀ k, v.ownBlock = some k → fp k) → w'.ownsRow 0 e size v n xs := by
  intro e size v n xs ho hv
  refine ⟨ho.1, ?_⟩
  rcases ho.2 with h0 | ⟨g, cap, cur, rfl, hb, hgg, rest⟩
  · exact .inl h0
  · exact .inr ⟨g, cap, cur, rfl, hb, (hk g (hv g rfl)).trans hgg, rest⟩
 exact ⟨v1, v2, (hk p ((hfp p).2 (.inl rfl))).trans hp, ow h1 (fun k h => (hfp k).2 (.inr (.inl h))), ow h2 (fun k h => (hfp k).2 (.inr (.inr h))), n1, n2, n3, hfp⟩
theorem iH.lt {w : World} {p : Nat} {σ : List Cell} {fp : Nat → Prop} (h : iH w p σ fp) : ∀ k, fp k → k < w.heap.size := by
 obtain ⟨v1, v2, hp, h1, h2, n1, n2, n3, hfp⟩ := h
 intro k hk
 rcases (hfp k).1 hk with rfl | hk | hk
 · exact aH hp
 · exact aK h1 hk
 · exact aK h2 hk
theorem wW (w : World) (p : Nat) (σ : List Cell) (fp : Nat → Prop) (h : iH w p σ fp) (c : Cell) (hc : c.s.size ≤ 65536) (hn : (cat σ).length ≤ 2147483648) (hm : σ.length < 2147483648) :
 Calls Tryz.prog 287 #[.pointer (some ⟨p, 0, none⟩), .string c.s] w fun e w' => e = .returned (.tuple #[]) ∧ (∃ fp', iH w' p (σ ++ [c]) fp' ∧ Grow w fp fp') ∧ Fr fp w w' := by
 obtain ⟨v1, v2, hp, h1, h2, n1, n2, n3, hfp⟩ := h
 obtain ⟨a1, k1, rfl⟩ := ownsRow_shape h1
 obtain ⟨a2, k2, rfl⟩ := ownsRow_shape h2
 have hpl := aH hp
 have c0 : w.cell? ⟨p, 0, none⟩ = some (.slice a1 (cat σ).length k1) := by rw [cell_of_row _ _ _ _ _ _ hp]; rfl
 go_enter Tryz.func287, Tryz.ntmps287
 go_wp2_with (first
  | ((with_reducible show wpList _ _ _ (⟨some 17, _, _, _, _, _⟩ :: _) _ _); refine aP _ rfl gU _ _ rfl _ _ _ rfl h1 _ _ _ rfl (Src.ofString _ Tryz.underlying9 c.s) ?_ ?_ ?_; (unfold maxLen; omega); omega; intro v' w1 ha; obtain ⟨a1', k1', rfl⟩ := ha.shape; obtain ⟨hcs, hfs⟩ := dU hp n1 (Fr.refl _ w) ha; have d0 : w1.cell? ⟨p, 0, none⟩ = some (.slice a1 (cat σ).length k1) := hcs 0; have d1 : w1.cell? ⟨p, 1, none⟩ = some (.slice a2 σ.length k2) := hcs 1; have f0 := hfs 0; have f1 := hfs 1; obtain ⟨hp', hown', hne', hblk', hfr'⟩ := dQ (i := 0) hp h1 n1 (Fr.refl _ w) ha; have h2W := hfr'.owns h2 (fun k hk h => h.elim (fun e => n2 (by rw [hk, e])) (fun e => n3 k e hk)))
  | ((with_reducible show wpList _ _ _ (⟨some 34, _, _, _, _, _⟩ :: _) _ _); refine aP _ rfl aKN _ _ rfl _ _ _ rfl (h2W.alloc _) _ _ _ rfl (Src.ofSlice _ Tryz.underlying146 _ _ _ _ rfl (aAW (by simp [World.setCell]) [.int .i64 (cat σ).length, .int .i64 ((cat σ).length + c.s.size)] _) (by simp [Value.oneCell'])) ?_ ?_ ?_; (unfold maxLen; omega); omega; intro v2' w2 ha2; obtain ⟨a2', k2', rfl⟩ := ha2.shape; obtain ⟨hcs2, hfs2⟩ := dU hp' n2 ((Fr.refl _ _).alloc _) ha2; have d2 := hcs2 1; have f2 := hfs2 1; have hB := dQ (i := 1) hp' h2W n2 ((Fr.refl _ _).alloc _) ha2))
 obtain ⟨hp2, hown2, hne2, hblk2, hfr2⟩ := hB
 have hs1 := hfr'.size
 have hs2 : (w1.setCell ⟨p, 0, none⟩ (Value.slice a1' ((cat σ).length + c.s.size) k1')).heap.size = w1.heap.size := by simp [World.setCell]
 have hst := rD c.s
 have hl : (cat (σ ++ [c])).length = (cat σ).length + c.s.size := by rw [iL, List.length_append]; congr 1; simp [cat]
 (try simp only [Exit.inBlock, Exit.then]); refine bodyPost_end (results_none rfl _ _ _) rfl ?_
 have hv1 : ∀ k, (Value.slice a1' ((cat σ).length + c.s.size) k1').ownBlock = some k → (Value.slice a2 σ.length k2).ownBlock ≠ some k := by
  intro k hk h
  rcases hblk' with e | e
  · exact n3 k (by rw [← e, hk]) h
  · rw [e] at hk
    simp only [Option.some.injEq] at hk
    have := aK h2 h
    omega
 refine ⟨rfl, ⟨fun k => k = p ∨ (Value.slice a1' ((cat σ).length + c.s.size) k1').ownBlock = some k ∨ (Value.slice a2' (σ.length + 1) k2').ownBlock = some k, ⟨_, _, hp2, ?_, ?_, hne', hne2, ?_, fun k => Iff.rfl⟩, ?_⟩, ?_⟩
 · rw [hl, iL, bQ]
   have := hfr2.owns hown' (fun k hk h => h.elim (fun e => hne' (by rw [hk, e])) (fun e => hv1 k hk e))
   rw [hst] at this
   have e : cat [c] = c.s.data.toList := by simp [cat]
   rw [e]
   exact this
 · rw [nZ, List.length_append, Nat.zero_add]
   exact hown2
 · intro k hk h
   rcases hblk2 with e | e
   · exact hv1 k hk (by rw [← h, e])
   · rw [e] at h
     simp only [Option.some.injEq] at h
     have := aK hown' hk
     simp at h
     omega
 · rintro k (rfl | hk | hk)
   · exact .inl ((hfp k).2 (.inl rfl))
   · rcases hblk' with e | e
     · exact .inl ((hfp k).2 (.inr (.inl (by rw [← e, hk]))))
     · rw [e] at hk
       simp only [Option.some.injEq] at hk
       exact .inr (by omega)
   · rcases hblk2 with e | e
     · exact .inl ((hfp k).2 (.inr (.inr (by rw [← e, hk]))))
     · rw [e] at hk
       simp only [Option.some.injEq] at hk
       simp at hk
       exact .inr (by omega)
 · exact (hfr'.mono (fun k _ h => (hfp k).2 (h.elim .inl (fun h => .inr (.inl h))))).trans hfr2 (fun k _ h => (hfp k).2 (h.elim .inl (fun h => .inr (.inr h))))
end Go.Proofs.YtcidlnjpabgioaaGreatDoor
namespace Go.Proofs.YtcidlnjpabgioaaGreatDoor
open Go.RowKit
theorem aJN : ElT Tryz.prog 69 9 (.string ⟨#[]⟩) 1 16 := ⟨Tryz.underlying69, info_parts (by kernel_rfl), rfl⟩
theorem aAF (a : Addr) (w : World) : (method (Tryz.prog.types.size + Made.depth) 145 (.pointer (some a)) "Append").run Tryz.prog w = .ok (287, .pointer (some a)) w := by kernel_rfl
theorem uS (a : Addr) (w : World) : (method (Tryz.prog.types.size + Made.depth) 145 (.pointer (some a)) "AppendArr").run Tryz.prog w = .ok (288, .pointer (some a)) w := by kernel_rfl
theorem aHT (w : World) (r0 r1 r2 r3 : Nat) (s : ByteArray) (null : Bool) (iv kv : Value) :
 Calls Tryz.prog 44 #[.agg #[.int .u64 r0, .int .u64 r1, .int .u64 r2, .int .u64 r3, .string s, .bool null, iv, kv]] w fun e w' => e = .returned (.string s) ∧ Fr (fun _ => False) w w' := by
 go_enter Tryz.func44, Tryz.ntmps44
 go_wp2
 go_ret
 exact ⟨rfl, (Fr.refl _ w).alloc _⟩
theorem iH.shape {w : World} {p : Nat} {σ : List Cell} {fp : Nat → Prop} (h : iH w p σ fp) : fp p := by
 obtain ⟨v1, v2, hp, h1, h2, n1, n2, n3, hfp⟩ := h
 exact (hfp p).2 (.inl rfl)
theorem xZ (w : World) (p : Nat) (σ : List Cell) (fp : Nat → Prop) (h : iH w p σ fp) (cs : List Cell) (tv : Value) (hown : w.ownsRow 0 9 1 tv cs.length (cs.map fun c => .string c.s)) (hd : ∀ k, tv.ownBlock = some k → ¬ fp k)
 (hcs : ∀ c ∈ cs, c.s.size ≤ 65536) (hn : (cat σ).length + (cat cs).length ≤ 2147483648) (hm : σ.length + cs.length ≤ 2147483648) :
 Calls Tryz.prog 288 #[.pointer (some ⟨p, 0, none⟩), tv] w fun e w' => e = .returned (.tuple #[]) ∧ (∃ fp', iH w' p (σ ++ cs) fp' ∧ Grow w fp fp') ∧ Fr fp w w' := by
 obtain ⟨a, c, rfl⟩ := ownsRow_shape hown
 have hcm : cs.length ≤ 9223372036854775807 := by omega
 go_enter Tryz.func288, Tryz.ntmps288
 go_wp2
 go_loopw [5, 8] (fun _ i wr => ∃ (k : Nat) (fpk : Nat → Prop), k ≤ cs.length ∧ i = .int .i64 k ∧ iH wr p (σ ++ cs.take k) fpk ∧ Grow w fp fpk ∧ Fr fp w wr) (fun _ i _ => cs.length - (intOf i).toNat)
 case atStart => exact ⟨0, fp, Nat.zero_le _, rfl, by simpa using h, fun k hk => .inl hk, Fr.refl _ _⟩
 case round =>
  obtain ⟨k, fpk, hk, rfl, hat, hg, hfr⟩ := hrel
  by_cases hlt : k < cs.length
  · have hownr := hfr.owns hown hd
    rcases hownr.2 with ⟨hv, _⟩ | ⟨ga, capa, cura, hv, _⟩
    · simp only [Value.slice.injEq] at hv; omega
    · simp only [Value.slice.injEq] at hv
      obtain ⟨rfl, _, rfl⟩ := hv
      have hx := hownr.cells (g := ga) rfl k (.string cs[k].s) (by simp [hlt])
      have hck := hcs cs[k] (List.getElem_mem _)
      have hstep := List.take_succ_eq_append_getElem hlt
      have hle : (cat (σ ++ cs.take k)).length ≤ 2147483648 := by
       have e : (cat cs).length = (cat (cs.take k)).length + (cat (cs.drop k)).length := by rw [← List.length_append, ← iL, List.take_append_drop]
       rw [iL, List.length_append]
       omega
      generalize cs[k] = cc at hx hck hstep
      rw [Addr.add_lit, Nat.zero_add] at hx
      have happ := wW wr p _ fpk hat cc hck hle (by simp; omega)
      go_wp2_with (go_at_call 287; refine happ.mono ?_; rintro e w1 ⟨rfl, ⟨fp', hat', hg'⟩, hfr'⟩)
      go_roundw
      case rel =>
       refine ⟨k + 1, fp', by omega, by go_num, ?_, ?_, ?_⟩
       · rw [hstep, ← List.append_assoc]; exact hat'
       · exact fun q hq => (hg' q hq).elim (hg q) (fun h => .inr (Nat.le_trans hfr.size h))
       · exact hfr.trans hfr' (fun q hq h => (hg q h).resolve_right (by omega))
      case measure => simp [intOf]; omega
  · have hke : k = cs.length := by omega
    subst hke
    rw [List.take_length] at hat
    go_wp2
    go_end0
    exact ⟨rfl, ⟨fpk, hat, hg⟩, hfr⟩
theorem vH (w : World) (p : Nat) (σ : List Cell) (fp : Nat → Prop) (hc : iH w p σ fp) (c : Cell) (hcs : c.s.size ≤ 65536) (hn : (cat σ).length ≤ 2147483648) (hm : σ.length < 2147483648)
 (r0 r1 r2 r3 : Nat) (null : Bool) (iv kv : Value) :
 Calls Tryz.prog 299 #[.agg #[.iface 145 (.pointer (some ⟨p, 0, none⟩)), .func (.func 44) #[] #[], .func (.func 45) #[] #[]], .agg #[.int .u64 r0, .int .u64 r1, .int .u64 r2, .int .u64 r3, .string c.s, .bool null, iv, kv]] w fun e w' =>
  e = .returned (.tuple #[]) ∧ (∃ fp', iH w' p (σ ++ [c]) fp' ∧ Grow w fp fp') ∧ Fr fp w w' := by
 go_enter Tryz.func299, Tryz.ntmps299
 go_wp2_with fail
 generalize hW : (w.alloc _).alloc _ = W
 have hfrW : Fr (fun _ => False) w W := by subst hW; exact ((Fr.refl _ w).alloc _).alloc _
 have d0 : W.cell? ⟨w.heap.size, 0, none⟩ = some (.iface 145 (.pointer (some ⟨p, 0, none⟩))) := by subst hW; rw [World.cell?_alloc_lt _ _ _ (by simp), aB rfl]; rfl
 have d1 : W.cell? ⟨w.heap.size, 1, none⟩ = some (.func (.func 44) #[] #[]) := by subst hW; rw [World.cell?_alloc_lt _ _ _ (by simp), aB rfl]; rfl
 have e0 : W.cell? ⟨w.heap.size + 1, 0, none⟩ = some (.int .u64 r0) := by subst hW; rw [aB (by simp)]; rfl
 have e1 : W.cell? ⟨w.heap.size + 1, 1, none⟩ = some (.int .u64 r1) := by subst hW; rw [aB (by simp)]; rfl
 have e2 : W.cell? ⟨w.heap.size + 1, 2, none⟩ = some (.int .u64 r2) := by subst hW; rw [aB (by simp)]; rfl
 have e3 : W.cell? ⟨w.heap.size + 1, 3, none⟩ = some (.int .u64 r3) := by subst hW; rw [aB (by simp)]; rfl
 have e4 : W.cell? ⟨w.heap.size + 1, 4, none⟩ = some (.string c.s) := by subst hW; rw [aB (by simp)]; rfl
 have e5 : W.cell? ⟨w.heap.size + 1, 5, none⟩ = some (.bool null) := by subst hW; rw [aB (by simp)]; rfl
 have e6 : W.cell? ⟨w.heap.size + 1, 6, none⟩ = some iv := by subst hW; rw [aB (by simp)]; rfl
 have e7 : W.cell? ⟨w.heap.size + 1, 7, none⟩ = some kv := by subst hW; rw [aB (by simp)]; rfl
 have hcW : iH W p σ fp := hc.aT fun k hk => hfrW.block k (hc.lt k hk) (fun h => h)
 have hN : ¬ fp w.heap.size := fun h => by have := hc.lt _ h; omega
 have hN1 : ¬ fp (w.heap.size + 1) := fun h => by have := hc.lt _ h; omega
 clear hW
 go_region_held3 (fun w' => w'.cell? ⟨w.heap.size, 0, none⟩ = some (.iface 145 (.pointer (some ⟨p, 0, none⟩))) ∧ w'.cell? ⟨w.heap.size, 1, none⟩ = some (.func (.func 44) #[] #[]) ∧
  w'.cell? ⟨w.heap.size + 1, 0, none⟩ = some (.int .u64 r0) ∧ w'.cell? ⟨w.heap.size + 1, 1, none⟩ = some (.int .u64 r1) ∧ w'.cell? ⟨w.heap.size + 1, 2, none⟩ = some (.int .u64 r2) ∧ w'.cell? ⟨w.heap.size + 1, 3, none⟩ = some (.int .u64 r3) ∧
  w'.cell? ⟨w.heap.size + 1, 4, none⟩ = some (.string c.s) ∧ w'.cell? ⟨w.heap.size + 1, 5, none⟩ = some (.bool null) ∧ w'.cell? ⟨w.heap.size + 1, 6, none⟩ = some iv ∧ w'.cell? ⟨w.heap.size + 1, 7, none⟩ = some kv)
  (first
   | exact ⟨d0, d1, e0, e1, e2, e3, e4, e5, e6, e7⟩
   | exact ⟨hf2.aA d0 hN, hf2.aA d1 hN, hf2.aA e0 hN1, hf2.aA e1 hN1, hf2.aA e2 hN1, hf2.aA e3 hN1, hf2.aA e4 hN1, hf2.aA e5 hN1, hf2.aA e6 hN1, hf2.aA e7 hN1⟩
   | exact ⟨hf1.aA d0 (fun h => h), hf1.aA d1 (fun h => h), hf1.aA e0 (fun h => h), hf1.aA e1 (fun h => h), hf1.aA e2 (fun h => h), hf1.aA e3 (fun h => h), hf1.aA e4 (fun h => h), hf1.aA e5 (fun h => h), hf1.aA e6 (fun h => h), hf1.aA e7 (fun h => h)⟩
   | assumption)
  (first
   | (go_at_call 44; refine (aHT _ r0 r1 r2 r3 c.s null iv kv).mono ?_; rintro e w1 ⟨rfl, hf1⟩)
   | (refine aS _ rfl ?_; refine bU _ _ _ _ _ rfl _ _ rfl (aI.of1 (aAF _ _) Tryz.call287 (wW _ p σ fp (hcW.aT fun k hk => hf1.block k (hcW.lt k hk) (fun h => h)) c hcs hn hm)) rfl ?_; rintro e w2 ⟨rfl, hcol, hf2'⟩; have hf2 : Fr fp W w2 := (hf1.aG.mono (fun _ _ h => h.elim)).trans hf2' (fun _ _ h => h); refine ⟨_, rfl, ?_⟩))
 all_goals
  go_end0
  refine ⟨rfl, ?_, (hfrW.mono (fun _ _ h => h.elim)).trans hf2 (fun _ _ h => h)⟩
  obtain ⟨fp', h1, h2⟩ := hcol
  exact ⟨fp', h1, fun k hk => (h2 k hk).imp id (fun h => Nat.le_trans (Nat.le_trans hfrW.size hf1.size) h)⟩
def mP (c : Cell) : List Value := [.string c.s]
theorem yI (cs : List Cell) : cs.flatMap mP = cs.map fun c => .string c.s := by induction cs with | nil => rfl | cons c cs ih => rw [List.flatMap_cons, List.map_cons, ih]; rfl
theorem aEI (w : World) (B : Nat) (hBw : B ≤ w.heap.size) (cs : List Cell) (v : Value) (xs : List Value) (hs : Sl B w 8 v cs.length xs) (hc : aC B w cs xs) (hn : cs.length ≤ 2147483648) :
 Calls Tryz.prog 302 #[v, .func (.func 44) #[] #[]] w fun e w' => ∃ tv, e = .returned tv ∧ w'.ownsRow 0 9 1 tv cs.length (cs.flatMap mP) ∧ (∀ q, tv.ownBlock = some q → w.heap.size ≤ q) ∧ Fr (fun _ => False) w w' := by
 have hs' := hs
 obtain ⟨hxl, ao, cap, rfl, hnc, hcm, h0, ha⟩ := hs
 unfold maxLen at hcm
 clear ha h0 hxl
 go_enter Tryz.func302, Tryz.ntmps302
 go_wp2
 go_loopw [5, 10] (fun tv i wr => ∃ k : Nat, k ≤ cs.length ∧ i = .int .i64 k ∧ wr.ownsRow 0 9 1 tv k ((cs.take k).flatMap mP) ∧ (∀ q, tv.ownBlock = some q → w.heap.size ≤ q) ∧ Fr (fun _ => False) w wr) (fun _ i _ => cs.length - (intOf i).toNat)
 case atStart => exact ⟨0, Nat.zero_le _, rfl, World.ownsRow_nil _ _ _ _, by simp [Value.ownBlock], Fr.refl _ _⟩
 case round =>
  obtain ⟨k, hk, rfl, hown, hsince, hfr⟩ := hrel
  have hbr : Below B w wr := hfr.below hBw (fun _ _ h => h)
  obtain ⟨a0, c0, rfl⟩ := ownsRow_shape hown
  by_cases hlt : k < cs.length
  · obtain ⟨b, off, cap', hv, hbB, vs, hvs, hcell⟩ := (hs'.below hbr).row (aC.below hbr _ _ hc) hlt
    have hstep := Lib.hid (bV mP cs k hlt)
    generalize cs[k] = c at hvs hstep
    obtain ⟨ia, il, ic, ka, kl, kc, rfl, h0, h1, h2, h3, h4⟩ := hvs.open
    simp only [Value.slice.injEq] at hv
    obtain ⟨rfl, _, rfl⟩ := hv
    have d0 := hcell 0 _ rfl
    have d1 := hcell 1 _ rfl
    have d2 := hcell 2 _ rfl
    have d3 := hcell 3 _ rfl
    have d4 := hcell 4 _ rfl
    have d5 := hcell 5 _ rfl
    have d6 := hcell 6 _ rfl
    have d7 := hcell 7 _ rfl
    simp only [Nat.add_zero] at d0
    have hfa : Fr (fun _ => False) w (wr.alloc (.cells #[.int .u64 c.r0, .int .u64 c.r1, .int .u64 c.r2, .int .u64 c.r3, .string c.s, .bool c.null, .slice ia il ic, .slice ka kl kc] 35)) := hfr.alloc _
    have hin := aHT (wr.alloc (.cells #[.int .u64 c.r0, .int .u64 c.r1, .int .u64 c.r2, .int .u64 c.r3, .string c.s, .bool c.null, .slice ia il ic, .slice ka kl kc] 35)) c.r0 c.r1 c.r2 c.r3 c.s c.null (.slice ia il ic) (.slice ka kl kc)
    clear hcell hvs hs' hc
    go_wp2_with (first | (go_at_call 44; refine hin.mono ?_; rintro e w1 ⟨rfl, hf1⟩; have hfw1 : Fr (fun _ => False) w w1 := hfa.trans hf1 (fun _ _ h => h); have hown1 := hf1.owns ((Fr.refl (fun _ => False) wr).alloc _ |>.owns hown (fun _ _ h => h)) (fun _ _ h => h)) | ((with_reducible show wpList _ _ _ (⟨some 19, _, _, _, _, _⟩ :: _) _ _); refine aP _ rfl aJN _ _ rfl _ _ _ rfl (hown1.alloc _) _ _ _ rfl (Src.ofSlice _ Tryz.underlying69 _ _ _ _ rfl (aW _ [.string c.s] _) (by simp [Value.oneCell'])) ?_ ?_ ?_; (unfold maxLen; omega); omega; intro v' w2 ha; obtain ⟨a', c', rfl⟩ := ha.shape))
    go_roundw
    case rel => exact ⟨k + 1, by omega, by go_num, by rw [hstep.out]; exact ha.1, (ha.since (hfw1.alloc _) hsince).1, (ha.since (hfw1.alloc _) hsince).2⟩
    case measure => simp [intOf]; omega
  · have hke : k = cs.length := by omega
    subst hke
    rw [List.take_length] at hown
    go_wp2
    go_ret
    exact ⟨_, rfl, hown, hsince, hfr⟩
theorem pF (w : World) (B p : Nat) (hBw : B ≤ w.heap.size) (σ : List Cell) (fp : Nat → Prop) (hc : iH w p σ fp)
 (cs : List Cell) (v : Value) (ys : List Value) (hs : Sl B w 8 v cs.length ys) (hcs : aC B w cs ys) (hn : (cat σ).length + (cat cs).length ≤ 2147483648) (hm : σ.length + cs.length ≤ 2147483648) :
 Calls Tryz.prog 300 #[.agg #[.iface 145 (.pointer (some ⟨p, 0, none⟩)), .func (.func 44) #[] #[], .func (.func 45) #[] #[]], v] w fun e w' =>
  e = .returned (.tuple #[]) ∧ (∃ fp', iH w' p (σ ++ cs) fp' ∧ Grow w fp fp') ∧ Fr fp w w' := by
 go_enter Tryz.func300, Tryz.ntmps300
 go_wp2_with fail
 generalize hW : w.alloc _ = W
 have hfrW : Fr (fun _ => False) w W := by subst hW; exact (Fr.refl _ w).alloc _
 have d0 : W.cell? ⟨w.heap.size, 0, none⟩ = some (.iface 145 (.pointer (some ⟨p, 0, none⟩))) := by subst hW; rw [aB rfl]; rfl
 have d1 : W.cell? ⟨w.heap.size, 1, none⟩ = some (.func (.func 44) #[] #[]) := by subst hW; rw [aB rfl]; rfl
 have hcW : iH W p σ fp := hc.aT fun k hk => hfrW.block k (hc.lt k hk) (fun h => h)
 have hN : ¬ fp w.heap.size := fun h => by have := hc.lt _ h; omega
 have hsW := hs.fr hBw hfrW
 have hcsW := aC.below (hfrW.below hBw (fun _ _ h => h)) _ _ hcs
 have hBW : B ≤ W.heap.size := Nat.le_trans hBw hfrW.size
 have hsD := hsW.fr hBW (Fr.refl (fun _ => False) W).drew
 have hcsD := aC.below ((Below.refl B W).drew) _ _ hcsW
 have hsm := aC.small hcs
 clear hW hs hcs
 go_region_held3 (fun w' => w'.cell? ⟨w.heap.size, 0, none⟩ = some (.iface 145 (.pointer (some ⟨p, 0, none⟩))) ∧ w'.cell? ⟨w.heap.size, 1, none⟩ = some (.func (.func 44) #[] #[]))
  (first
   | exact ⟨d0, d1⟩
   | exact ⟨hf2.aA d0 hN, hf2.aA d1 hN⟩
   | exact ⟨hf1.aA d0 (fun h => h), hf1.aA d1 (fun h => h)⟩
   | assumption)
  (first
   | (go_at_call 302; refine (aEI W.drew B hBW cs v ys hsD hcsD (by omega)).mono ?_; rintro e w1 ⟨tv, rfl, hown, hsince, hf1⟩)
   | (refine aS _ rfl ?_; refine bU _ _ _ _ _ rfl _ _ rfl (aI.of1 (uS _ _) Tryz.call288 (xZ _ p σ fp (hcW.aT fun k hk => hf1.block k (hcW.lt k hk) (fun h => h)) cs tv (by rw [← yI]; exact hown) (fun k hk h => Nat.lt_irrefl _ (Nat.lt_of_lt_of_le (hcW.lt k h) (hsince k hk))) (fun c hc => (hsm c hc).2.2.2.2) hn hm)) rfl ?_; rintro e w2 ⟨rfl, hcol, hf2'⟩; have hf2 : Fr fp W w2 := (hf1.aG.mono (fun _ _ h => h.elim)).trans hf2' (fun _ _ h => h); refine ⟨_, rfl, ?_⟩))
 all_goals
  go_end0
  refine ⟨rfl, ?_, (hfrW.mono (fun _ _ h => h.elim)).trans hf2 (fun _ _ h => h)⟩
  obtain ⟨fp', h1, h2⟩ := hcol
  exact ⟨fp', h1, fun k hk => (h2 k hk).imp id (fun h => Nat.le_trans (Nat.le_trans hfrW.size hf1.size) h)⟩
end Go.Proofs.YtcidlnjpabgioaaGreatDoor
namespace Go.Proofs.YtcidlnjpabgioaaGreatDoor
open Go.RowKit
def gB (c : Cell) : List UInt8 := Lib.uvarint c.s.size ++ c.s.data.toList
theorem qB (cs : List Cell) : enc .str cs = cs.flatMap gB := by rw [enc]; rfl
theorem aBy : ∀ (cs : List Cell) (n k : Nat) (h : k < cs.length), (spans n cs)[k * 2]? = some (.int .i64 (n + (cat (cs.take k)).length : Nat)) ∧ (spans n cs)[k * 2 + 1]? = some (.int .i64 (n + (cat (cs.take k)).length + cs[k].s.size : Nat))
 | [], n, k, h => by simp at h
 | c :: cs, n, 0, h => by
  rw [spans]
  exact ⟨by simp [cat], by simp [cat]⟩
 | c :: cs, n, k + 1, h => by
  have hs : c.s.data.toList.length = c.s.size := Array.length_toList
  obtain ⟨h1, h2⟩ := aBy cs (n + c.s.size) k (by simpa using h)
  have e1 : (k + 1) * 2 = k * 2 + 1 + 1 := by omega
  rw [e1, spans, List.take_succ_cons, qU, List.length_append, hs]
  simp only [List.getElem?_cons_succ, List.getElem_cons_succ]
  rw [h1, h2]
  exact ⟨by congr 3; omega, by congr 3; omega⟩
theorem zS (cs : List Cell) (k : Nat) (h : k < cs.length) : cat cs = cat (cs.take k) ++ (cs[k].s.data.toList ++ cat (cs.drop (k + 1))) := by
 rw [← qU, ← iL, List.getElem_cons_drop h, List.take_append_drop]
theorem uC {α β : Type} (f : α → List β) (l : List α) (k : Nat) : ((l.take k).flatMap f).length ≤ (l.flatMap f).length := by
 have := congrArg List.length (List.flatMap_append (f := f) (xs := l.take k) (ys := l.drop k))
 rw [List.take_append_drop, List.length_append] at this
 omega
theorem aJY {w : World} {tx e' : TypeId} {g o k n : Nat} {l : List UInt8} (hk : Tryz.prog.underlying tx = some (.slice e')) (hl : (aQ l).length = n) (hs : ∀ j u, (aQ l)[j]? = some u → w.cell? ((⟨g, o, none⟩ : Addr).add j) = some u) (hn : k = o → n = 0) (c : Nat) :
 Src Tryz.prog 1 tx (.slice (if k = o then some ⟨g, 0, none⟩ else some ⟨g, o, none⟩) n c) n (aQ l) w := by
 have h1 : ∀ u ∈ aQ l, u.oneCell' = true := by
  intro u hu
  obtain ⟨c, _, rfl⟩ := List.mem_map.1 hu
  rfl
 by_cases h : k = o
 · have hn0 := hn h
   subst hn0
   have hb : aQ l = [] := List.eq_nil_of_length_eq_zero hl
   rw [hb, if_pos h]
   exact Src.ofSlice _ hk _ _ _ [] (by simp) (by simp) (by simp)
 · rw [if_neg h]
   exact Src.ofSlice _ hk _ _ _ _ (by rw [hl]; omega) hs h1
theorem aEy (l : List UInt8) : ∀ u ∈ aQ l, u.oneCell' = true := by
 intro u hu
 obtain ⟨c, _, rfl⟩ := List.mem_map.1 hu
 rfl
theorem aEi (w : World) (b : Nat) (fb : Nat → Prop) (bs : List UInt8) (hb : Buf w b fb bs) (v1 v2 : Value) (cs : List Cell) (h1 : w.ownsRow 0 5 1 v1 (cat cs).length (aQ (cat cs))) (h2 : w.ownsRow 0 511 2 v2 cs.length (spans 0 cs))
 (hd1 : ∀ k, v1.ownBlock = some k → ¬ fb k) (hd2 : ∀ k, v2.ownBlock = some k → ¬ fb k) (hsm : ∀ c ∈ cs, c.s.size ≤ 65536) (hm : (cat cs).length ≤ 2147483648) (hn : cs.length ≤ 2147483648) (hl : bs.length + (cs.flatMap gB).length ≤ 1099511627776) :
 Calls Tryz.prog 290 #[.agg #[v1, v2], .pointer (some ⟨b, 0, none⟩)] w fun e w' => e = .returned (.tuple #[]) ∧ Fr fb w w' ∧ ∃ fb', Buf w' b fb' (bs ++ cs.flatMap gB) ∧ Grow w fb fb' := by
 obtain ⟨a1, k1, rfl⟩ := ownsRow_shape h1
 obtain ⟨a2, k2, rfl⟩ := ownsRow_shape h2
 go_enter Tryz.func290, Tryz.ntmps290
 go_wp2
 generalize hW : (w.alloc _).alloc _ = W
 have hfW : Fr (fun _ => False) w W := by subst hW; exact ((Fr.refl _ w).alloc _).alloc _
 have hbox : W.heap[w.heap.size]? = some (.cells #[.slice a1 (cat cs).length k1, .slice a2 cs.length k2] 148 (0, 0)) := by subst hW; exact (Below.heap_alloc _ _ _ (by simp)).trans (heap_alloc_new w _)
 have hbuf : ∃ (cur : Array Value) (t : TypeId), W.heap[w.heap.size + 1]? = some (.cells cur t (0, 0)) ∧ cur.size = 10 := by subst hW; exact ⟨_, _, Fr.made (Fr.refl _ _) (by simp), rfl⟩
 have hWs : W.heap.size = w.heap.size + 2 := by subst hW; simp
 have hbW : Buf W b fb bs := aF.aT hb fun k hk => hfW.block k (aF.lt hb k hk) (fun h => h)
 have hflt : ∀ k, fb k → k < w.heap.size := aF.lt hb
 have h1W := hfW.owns h1 (fun _ _ h => h)
 have h2W := hfW.owns h2 (fun _ _ h => h)
 have hlt1 : ∀ k, (Value.slice a1 (cat cs).length k1).ownBlock = some k → k < w.heap.size := fun k hk => aK h1 hk
 have hlt2 : ∀ k, (Value.slice a2 cs.length k2).ownBlock = some k → k < w.heap.size := fun k hk => aK h2 hk
 clear hW hb h1 h2
 go_loopw [6, 7, 8, 12] (fun _ _ _ i wr => ∃ (k : Nat) (fbk : Nat → Prop), k ≤ cs.length ∧ i = .int .i64 k ∧ Buf wr b fbk (bs ++ (cs.take k).flatMap gB) ∧ Grow W fb fbk ∧ Fr (fun q => fb q ∨ q = w.heap.size + 1) W wr ∧
  ∃ (cur : Array Value) (t : TypeId), wr.heap[w.heap.size + 1]? = some (.cells cur t (0, 0)) ∧ cur.size = 10) (fun _ _ _ i _ => cs.length - (intOf i).toNat)
 case atStart => exact ⟨0, fb, Nat.zero_le _, rfl, by simpa using hbW, fun k hk => .inl hk, Fr.refl _ _, hbuf⟩
 case round =>
  obtain ⟨k, fbk, hk, rfl, hbk, hgk, hfrk, cur, tb, hbufk, hcur⟩ := hrel
  by_cases hlt : k < cs.length
  · have h1r := hfrk.owns h1W (fun q hq h => h.elim (hd1 q hq) (fun e => by have := hlt1 q hq; omega))
    have h2r := hfrk.owns h2W (fun q hq h => h.elim (hd2 q hq) (fun e => by have := hlt2 q hq; omega))
    rcases h2r.2 with ⟨hv, _⟩ | ⟨ga, capa, cura, hv, _⟩
    · simp only [Value.slice.injEq] at hv; omega
    · simp only [Value.slice.injEq] at hv
      obtain ⟨rfl, _, rfl⟩ := hv
      obtain ⟨hs0, hs1⟩ := aBy cs 0 k hlt
      have hx0 := h2r.cells (g := ga) rfl _ _ hs0
      have hx1 := h2r.cells (g := ga) rfl _ _ hs1
      rw [Addr.add_lit, Nat.zero_add, Nat.zero_add] at hx0 hx1
      have hck := hsm cs[k] (List.getElem_mem _)
      have hstep := bV gB cs k hlt
      have hst : (cat (cs.take k)).length + cs[k].s.size ≤ (cat cs).length := by
       have hs : cs[k].s.data.toList.length = cs[k].s.size := Array.length_toList
       rw [zS cs k hlt, List.length_append, List.length_append, hs]
       omega
      have hdat : ∀ j u, (aQ cs[k].s.data.toList)[j]? = some u → (aQ (cat cs))[(cat (cs.take k)).length + j]? = some u := by
       intro j u hj
       rw [zS cs k hlt, bQ, List.getElem?_append_right (by rw [bG]; omega), bG, Nat.add_sub_cancel_left, bQ, List.getElem?_append_left (List.getElem?_eq_some_iff.1 hj).1]
       exact hj
      generalize cs[k] = cc at hx0 hx1 hck hstep hst hdat
      generalize (cat (cs.take k)).length = o at hx0 hx1 hst hdat
      have hu10 : (Lib.uvarint cc.s.size).length ≤ 10 := Lib.uvarint_length64 (by omega)
      have hU : Lib.uvarint cc.s.size = Lib.uvarint cc.s.size := rfl
      have hbA : (wr.alloc (.cells #[.int .i64 o, .int .i64 (o + cc.s.size)] 511)).heap[w.heap.size + 1]? = some (.cells cur tb (0, 0)) := (Below.heap_alloc _ _ _ (aH hbufk)).trans hbufk
      have hput := Tryz.binary_PutUvarint (w.heap.size + 1) 0 10 10 cc.s.size (by omega) (wr.alloc (.cells #[.int .i64 o, .int .i64 (o + cc.s.size)] 511)) hu10 (fun j hj => ⟨by rw [cell_of_row _ _ _ _ _ _ hbA]; simp; omega, frozen_of_row _ _ _ _ _ hbA⟩)
      have hA : Fr (fun _ => False) wr (wr.alloc (.cells #[.int .i64 o, .int .i64 (o + cc.s.size)] 511)) := (Fr.refl _ wr).alloc _
      have hf1 : Fr (fun q => q = w.heap.size + 1) wr ((wr.alloc (.cells #[.int .i64 o, .int .i64 (o + cc.s.size)] 511)).setCells (w.heap.size + 1) 0 (Lib.byteCells (Lib.uvarint cc.s.size))) := Fr.setCells (S := fun q => q = w.heap.size + 1) (.inl rfl) _ _ _ (hA.mono (fun _ _ h => h.elim))
      have hr1 := jC (w.heap.size + 1) tb (Lib.byteCells (Lib.uvarint cc.s.size)) 0 _ cur hbA (by rw [Lib.byteCells_length]; omega)
      have p0 : ((wr.alloc (.cells #[.int .i64 o, .int .i64 (o + cc.s.size)] 511)).setCells (w.heap.size + 1) 0 (Lib.byteCells (Lib.uvarint cc.s.size))).cell? ⟨wr.heap.size, 0, none⟩ = some (.int .i64 o) := by
       rw [World.cell?_setCells_out _ _ _ _ _ (fun h => by have := hfrk.size; simp at h; omega), aB rfl]; rfl
      have p1 : ((wr.alloc (.cells #[.int .i64 o, .int .i64 (o + cc.s.size)] 511)).setCells (w.heap.size + 1) 0 (Lib.byteCells (Lib.uvarint cc.s.size))).cell? ⟨wr.heap.size, 1, none⟩ = some (.int .i64 (o + cc.s.size)) := by
       rw [World.cell?_setCells_out _ _ _ _ _ (fun h => by have := hfrk.size; simp at h; omega), aB rfl]; rfl
      have hsz1 : ((wr.alloc (.cells #[.int .i64 o, .int .i64 (o + cc.s.size)] 511)).setCells (w.heap.size + 1) 0 (Lib.byteCells (Lib.uvarint cc.s.size))).heap.size = wr.heap.size + 1 := by rw [setCells_size]; simp
      generalize hW1 : (wr.alloc (.cells #[.int .i64 o, .int .i64 (o + cc.s.size)] 511)).setCells (w.heap.size + 1) 0 (Lib.byteCells (Lib.uvarint cc.s.size)) = W1 at hput hf1 hr1 p0 p1 hsz1
      clear hW1 hbA hA hU
      have hsrcU : ∀ j u, (aQ (Lib.uvarint cc.s.size))[j]? = some u → W1.cell? ((⟨w.heap.size + 1, 0, none⟩ : Addr).add j) = some u := by
       intro j u hj
       rw [Addr.add_lit, Nat.zero_add, cell_of_row _ _ _ _ _ _ hr1, List.getElem?_toArray, List.take_zero, List.nil_append, show Lib.byteCells (Lib.uvarint cc.s.size) = aQ (Lib.uvarint cc.s.size) from rfl, List.getElem?_append_left (List.getElem?_eq_some_iff.1 hj).1]
       exact hj
      have hbk1 : Buf W1 b fbk (bs ++ (cs.take k).flatMap gB) := aF.aT hbk fun q hq => hf1.block q (aF.lt hbk q hq) (fun e => by
       have := hgk q hq
       rcases this with h | h
       · have := hflt q h; omega
       · omega)
      go_wp2_with (go_at_call 296; rw [show ((o : Int) + (cc.s.size : Int) - (o : Int)) = (cc.s.size : Int) by omega]; refine hput.mono ?_; rintro e w1 ⟨rfl, rfl⟩)
      have hulen : (aQ (Lib.uvarint cc.s.size)).length = (Lib.uvarint cc.s.size).length := bG _
      generalize hU : Lib.uvarint cc.s.size = U at hu10 hsrcU hulen
      have hlenk : (bs ++ (cs.take k).flatMap gB).length + U.length + cc.s.size ≤ 1099511627776 := by
       have h3 := uC gB cs (k + 1)
       rw [hstep] at h3
       have hs : cc.s.data.toList.length = cc.s.size := Array.length_toList
       simp only [List.length_append, gB, hU, hs] at h3 ⊢
       omega
      generalize hL : bs ++ (cs.take k).flatMap gB = L at hbk1 hlenk
      obtain ⟨vb, hp, hob, hne, hfp⟩ := hbk1
      obtain ⟨hcell, hfz⟩ := aF.cell hp
      obtain ⟨a0, c0, rfl⟩ := ownsRow_shape hob
      have hpl := aH hp
      have s1 : (0 : Int) ≤ (U.length : Int) := by omega
      have s2 : (U.length : Int) ≤ 10 := by omega
      go_region_law (refine aS _ rfl ?_; refine dB _ gU _ _ rfl _ _ _ rfl hob _ _ _ rfl (Src.ofSlice _ Tryz.underlying22 _ _ _ _ (by rw [hulen]; omega) hsrcU (aEy _)) ?_ ?_ ?_; (unfold maxLen; omega); omega; intro v' w2 ha; obtain ⟨a', c', rfl⟩ := ha.shape; have hc2 : w2.cell? ⟨b, 0, none⟩ = some (.slice a0 L.length c0) := ha.2.1.cell hcell (fun h => hne h.symm); have hf2 : w2.frozen? ⟨b, 0, none⟩ = false := (World.frozen?_of_block (ha.2.1.block b hpl (fun h => hne h.symm))).trans hfz)
      all_goals
       obtain ⟨⟨fb2, hcol2, hg2⟩, hfr2⟩ := aF.appended hp hob hne hfp ((Fr.refl _ w1).drew) ha
       generalize w2.setCell ⟨b, 0, none⟩ (Value.slice a' (L.length + U.length) c') = W3 at hcol2 hfr2 ⊢
       clear ha hc2 hf2
       have hnq : ∀ q, q < W.heap.size → w.heap.size ≤ q → ¬ fbk q := fun q h1 h2 h => by
        rcases hgk q h with h | h
        · have := hflt q h; omega
        · omega
       have q0 := hfr2.aA p0 (fun h => by have := aF.lt hbk _ h; simp at this)
       have q1 := hfr2.aA p1 (fun h => by have := aF.lt hbk _ h; simp at this)
       have hbox1 : w1.heap[w.heap.size]? = some (.cells #[.slice a1 (cat cs).length k1, .slice (some ⟨ga, 0, none⟩) cs.length k2] 148 (0, 0)) :=
        (hf1.block _ (by have := hfrk.size; omega) (by show ¬ w.heap.size = w.heap.size + 1; omega)).trans ((hfrk.block _ (by omega) (fun h => h.elim (fun h => by have := hflt _ h; omega) (fun h => by omega))).trans hbox)
       have hbox3 := (hfr2.block _ (aH hbox1) (hnq _ (by omega) (Nat.le_refl _))).trans hbox1
       have q2 : W3.cell? ⟨w.heap.size, 0, none⟩ = some (.slice a1 (cat cs).length k1) := by rw [cell_of_row _ _ _ _ _ _ hbox3]; rfl
       have h1w1 := hf1.owns h1r (fun q hq h => by have := hlt1 q hq; omega)
       have h1W3 := hfr2.owns h1w1 (fun q hq h => by
        rcases hgk q h with h | h
        · exact hd1 q hq h
        · have := hlt1 q hq; omega)
       have hround : ∀ (W5 : World) (fb5 : Nat → Prop), aF W5 b 114 5 1 (L.length + U.length + cc.s.size) (aQ L ++ aQ U ++ aQ cc.s.data.toList) fb5 → Grow W3 fb2 fb5 → Fr fb2 W3 W5 →
        ∃ (k' : Nat) (fbk' : Nat → Prop), k' ≤ cs.length ∧ Value.int .i64 ((k : Int) + 1) = .int .i64 k' ∧ Buf W5 b fbk' (bs ++ (cs.take k').flatMap gB) ∧ Grow W fb fbk' ∧ Fr (fun q => fb q ∨ q = w.heap.size + 1) W W5 ∧
         ∃ (cur : Array Value) (t : TypeId), W5.heap[w.heap.size + 1]? = some (.cells cur t (0, 0)) ∧ cur.size = 10 := by
        intro W5 fb5 hc5 hg5 hf5
        have z1 := hfrk.size
        have z2 := hf1.size
        have z3 := hfr2.size
        have hs : cc.s.data.toList.length = cc.s.size := Array.length_toList
        have hlast : bs ++ (cs.take (k + 1)).flatMap gB = L ++ U ++ cc.s.data.toList := by rw [hstep, ← List.append_assoc, hL, gB, hU, List.append_assoc]
        have hk2 : ∀ q, q < w1.heap.size → fb2 q → fbk q := fun q hq h => (hg2 q h).resolve_right (by omega)
        have hkW : ∀ q, q < W.heap.size → fbk q → fb q := fun q hq h => (hgk q h).resolve_right (by omega)
        refine ⟨k + 1, fb5, by omega, by go_num, ?_, ?_, ?_, ?_⟩
        · rw [hlast]
          refine Buf.col.2 ?_
          rw [List.length_append, List.length_append, hs, bQ, bQ]
          exact hc5
        · intro q hq
          rcases hg5 q hq with h | h
          · rcases hg2 q h with h | h
            · exact hgk q h
            · exact .inr (by omega)
          · exact .inr (by omega)
        · refine ((hfrk.trans hf1 (fun _ _ h => .inr h)).trans hfr2 (fun q hq h => .inl (hkW q hq h))).trans hf5 (fun q hq h => .inl (hkW q hq (hk2 q (by omega) h)))
        · refine ⟨_, tb, (hf5.block _ (by omega) (fun h => ?_)).trans ((hfr2.block _ (by omega) (hnq _ (by omega) (by omega))).trans hr1), ?_⟩
          · exact hnq _ (by omega) (by omega) (hk2 _ (by omega) h)
          · simp [Lib.byteCells_length, hU, hcur]
            omega
       obtain ⟨v3, hp3, hob3, hne3, hfp3⟩ := hcol2
       obtain ⟨hcell3, hfz3⟩ := aF.cell hp3
       obtain ⟨a3, c3, rfl⟩ := ownsRow_shape hob3
       have hpl3 := aH hp3
       have r0 : (0 : Int) ≤ (o : Int) := by omega
       have r1 : (o : Int) ≤ (o : Int) + (cc.s.size : Int) := by omega
       have r2 : (0 : Int) ≤ (o : Int) + (cc.s.size : Int) := by omega
       have r3 : ((o : Int) + (cc.s.size : Int)).toNat - o = cc.s.size := by omega
       have hcl : (aQ cc.s.data.toList).length = cc.s.size := by rw [bG]; exact Array.length_toList
       go_wp2
       rcases h1W3.2 with ⟨hv1, hz⟩ | ⟨g1, cap1, cur1, hv1, _, _, hnc1, hcm1, _⟩
       · simp only [Value.slice.injEq] at hv1
         obtain ⟨rfl, hcz, rfl⟩ := hv1
         have hz0 : cc.s.size = 0 := by omega
         have ho0 : o = 0 := by omega
         have hdz : cc.s.data.toList = [] := List.eq_nil_of_length_eq_zero (by rw [Array.length_toList]; exact hz0)
         clear hcz hz
         go_region_law (refine aS _ rfl ?_; refine dB _ gU _ _ rfl _ _ _ rfl hob3 _ _ _ rfl (Src.ofNil _ Tryz.underlying22 0) ?_ ?_ ?_; (unfold maxLen; omega); omega; intro v4 w4 ha4; obtain ⟨a4, c4, rfl⟩ := ha4.shape; have hc4 : w4.cell? ⟨b, 0, none⟩ = some (.slice a3 (L.length + U.length) c3) := ha4.2.1.cell hcell3 (fun h => hne3 h.symm); have hf4 : w4.frozen? ⟨b, 0, none⟩ = false := (World.frozen?_of_block (ha4.2.1.block b hpl3 (fun h => hne3 h.symm))).trans hfz3)
         all_goals
          obtain ⟨⟨fb5, hcol5, hg5⟩, hfr5⟩ := aF.appended hp3 hob3 hne3 hfp3 ((Fr.refl _ W3).drew) ha4
          go_wp2
          go_roundw
          case rel => exact hround _ _ (by rw [hdz, hz0]; simpa [aQ] using hcol5) hg5 hfr5
          case measure => simp [intOf]; omega
       · simp only [Value.slice.injEq] at hv1
         obtain ⟨rfl, _, rfl⟩ := hv1
         unfold maxLen at hcm1
         have r4 : (o : Int) + (cc.s.size : Int) ≤ (k1 : Int) := by omega
         have hsrc3 : ∀ j u, (aQ cc.s.data.toList)[j]? = some u → W3.cell? ((⟨g1, o, none⟩ : Addr).add j) = some u := by
          intro j u hj
          have := h1W3.cells (g := g1) rfl _ _ (hdat j u hj)
          rw [Addr.add_lit, Nat.zero_add] at this
          rw [Addr.add_lit]
          exact this
         have hko : k1 = o → cc.s.size = 0 := by intro h; subst h; omega
         have hS3 : Src Tryz.prog 1 22 (.slice (if k1 = o then some ⟨g1, 0, none⟩ else some ⟨g1, o, none⟩) cc.s.size (k1 - o)) cc.s.size (aQ cc.s.data.toList) W3.drew := aJY (w := W3.drew) Tryz.underlying22 hcl (fun j u hj => hsrc3 j u hj) hko _
         go_region_law (refine aS _ rfl ?_; refine dB _ gU _ _ rfl _ _ _ rfl hob3 _ _ _ rfl hS3 ?_ ?_ ?_; (unfold maxLen; omega); omega; intro v4 w4 ha4; obtain ⟨a4, c4, rfl⟩ := ha4.shape; have hc4 : w4.cell? ⟨b, 0, none⟩ = some (.slice a3 (L.length + U.length) c3) := ha4.2.1.cell hcell3 (fun h => hne3 h.symm); have hf4 : w4.frozen? ⟨b, 0, none⟩ = false := (World.frozen?_of_block (ha4.2.1.block b hpl3 (fun h => hne3 h.symm))).trans hfz3)
         all_goals
          obtain ⟨⟨fb5, hcol5, hg5⟩, hfr5⟩ := aF.appended hp3 hob3 hne3 hfp3 ((Fr.refl _ W3).drew) ha4
          go_wp2
          go_roundw
          case rel => exact hround _ _ hcol5 hg5 hfr5
          case measure => simp [intOf]; omega
  · have hke : k = cs.length := by omega
    subst hke
    rw [List.take_length] at hbk
    go_wp2
    go_end0
    have hf := (hfW.mono (S' := fb) (fun _ _ h => h.elim)).trans (hfrk.mono (S' := fun q => fb q ∨ q = w.heap.size + 1) (fun _ _ h => h)) (fun q hq h => h.elim (fun h => h) (fun h => by omega))
    exact ⟨rfl, hf, fbk, hbk, fun q hq => (hgk q hq).imp id (fun h => by omega)⟩
end Go.Proofs.YtcidlnjpabgioaaGreatDoor
