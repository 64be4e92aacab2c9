import Derived.Test.YtcidlnjpabgioaaGreatDoorWGBase
import Derived.Lib.Hide
import Derived.Lib.EndianBits
import Derived.Test.YtcidlnjpabgioaaGreatDoorWGText
import Derived.Deep.RegionHeld3
import Derived.Deep.RegionLaw
import Derived.Laws.IdiomStrings
import Derived.Laws.BytesArg
import Derived.Deep.RegionWith
import Derived.Test.YtcidlnjpabgioaaGreatDoorWGEnc
set_option maxHeartbeats 4000000
set_option maxRecDepth 100000
namespace Go.Proofs.YtcidlnjpabgioaaGreatDoor
open Go.RowKit
def bM (B : Nat) (w : World) (p : Nat) : Prop :=
 B ≤ p ∧ ∃ a n c s, w.heap[p]? = some (.cells #[.slice a n c, .int .u64 s] 26 (0, 0)) ∧ 0 ≤ s ∧ s < 18446744073709551616 ∧ n ≤ c ∧ c ≤ maxLen ∧ (a = none → n = 0) ∧
  ∀ ad, a = some ad → ad.block < B ∧ ad.spot = none ∧ ∀ j, j < n → ∃ b : UInt8, w.cell? (ad.add j) = some (.int .u8 b.toNat)
theorem bM.fr {B : Nat} {w w' : World} {p : Nat} {S : Nat → Prop} (h : bM B w p) (hf : Fr S w w') (hp : ¬ S p) (hS : ∀ k, k < B → ¬ S k) : bM B w' p := by
 obtain ⟨hB, a, n, c, s, h1, h2, h3, h4, h5, h6, h7⟩ := h
 refine ⟨hB, a, n, c, s, (hf.block p (Array.getElem?_eq_some_iff.1 h1).1 hp).trans h1, h2, h3, h4, h5, h6, fun ad had => ?_⟩
 obtain ⟨h8, h9, h10⟩ := h7 ad had
 refine ⟨h8, h9, fun j hj => ?_⟩
 obtain ⟨b, hb⟩ := h10 j hj
 exact ⟨b, hf.aA hb (by unfold Addr.add; split <;> exact hS _ h8)⟩
theorem kL {w : World} {p : Nat} {u v : Value} {tc : TypeId} (h : w.heap[p]? = some (.cells #[u, v] tc (0, 0))) (x : Value) : (w.setCell ⟨p, 1, none⟩ x).heap[p]? = some (.cells #[u, x] tc (0, 0)) := by
 simp [World.setCell, Array.getElem?_modify, h]
theorem lV {w : World} {p : Nat} {u v : Value} {tc : TypeId} (h : w.heap[p]? = some (.cells #[u, v] tc (0, 0))) (x : Value) : (w.setCell ⟨p, 0, none⟩ x).heap[p]? = some (.cells #[x, v] tc (0, 0)) := by
 simp [World.setCell, Array.getElem?_modify, h]
theorem aHm (x : Int) (h0 : 0 ≤ x) (h1 : x < 18446744073709551616) : ∃ b : Nat, b < 256 ∧ wrap64 (bits BinOp.and IntKind.u64 x 255) = (b : Int) := by
 have h : bits .and .u64 x 255 = x % 256 := bits_mask .u64 64 (by decide) wraps_u64 8 (by decide) x h0 h1
 refine ⟨(x % 256).toNat, by omega, ?_⟩
 rw [h]
 unfold wrap64
 omega
theorem aAn (b : UInt8) : wrap64 (b.toNat : Int) = b.toNat := by
 have := b.toNat_lt
 unfold wrap64
 omega
theorem mG (x : Int) : 0 ≤ IntKind.u64.wrap x ∧ IntKind.u64.wrap x < 18446744073709551616 := by rw [IntKind.wrap_u64]; omega
theorem fH (B : Nat) (w : World) (p : Nat) (h : bM B w p) :
 Calls Tryz.prog 20 #[.pointer (some ⟨p, 0, none⟩)] w fun e w' => ∃ b : Nat, b < 256 ∧ e = .returned (.int .i64 b) ∧ bM B w' p ∧ Fr (fun q => q = p) w w' := by
 obtain ⟨hB, a, n, c, s, h1, h2, h3, h4, h5, h6, h7⟩ := h
 have hc0 : w.cell? ⟨p, 0, none⟩ = some (.slice a n c) := by rw [cell_of_row _ _ _ _ _ _ h1]; rfl
 have hc1 : w.cell? ⟨p, 1, none⟩ = some (.int .u64 s) := by rw [cell_of_row _ _ _ _ _ _ h1]; rfl
 have hf0 : w.frozen? ⟨p, 0, none⟩ = false := frozen_of_row _ _ _ _ _ h1
 have hf1 : w.frozen? ⟨p, 1, none⟩ = false := frozen_of_row _ _ _ _ _ h1
 unfold maxLen at h5
 by_cases h0 : n = 0
 · subst h0
   go_enter Tryz.func20, Tryz.ntmps20
   go_wp2
   go_ret
   obtain ⟨b, hb1, hb2⟩ := aHm (IntKind.u64.wrap (IntKind.u64.wrap (s * 6364136223846793005) + 1442695040888963407) / 1099511627776) (by rw [IntKind.wrap_u64]; omega) (by rw [IntKind.wrap_u64]; omega)
   refine ⟨b, hb1, congrArg (fun z => Ending.returned (.int .i64 z)) hb2, ⟨hB, a, 0, c, _, kL h1 _, ?_, ?_, h4, by unfold maxLen; exact h5, fun _ => rfl, fun ad had => ?_⟩, (Fr.refl (fun q => q = p) w).setCell (.inl rfl) _⟩
   · rw [IntKind.wrap_u64]; omega
   · rw [IntKind.wrap_u64]; omega
   · exact ⟨(h7 ad had).1, (h7 ad had).2.1, by omega⟩
 · cases a with
   | none => exact absurd (h6 rfl) h0
   | some ad =>
    obtain ⟨h8, h9, h10⟩ := h7 ad rfl
    obtain ⟨bb, off, sp⟩ := ad
    simp only at h8 h9
    subst h9
    obtain ⟨b, hb⟩ := h10 0 (by omega)
    simp only [Addr.add_lit, Nat.add_zero] at hb
    have hbp : ¬ bb = p := by omega
    have hn1 : 1 ≤ n := by omega
    go_enter Tryz.func20, Tryz.ntmps20
    by_cases hcn : c = 1
    · subst hcn
      go_wp2
      go_ret
      have h2' := kL (lV h1 (.slice (some ⟨bb, off, none⟩) 0 0))
      refine ⟨b.toNat, b.toNat_lt, congrArg (fun z => Ending.returned (.int .i64 z)) (aAn b), ⟨hB, _, 0, 0, _, h2' _, (mG _).1, (mG _).2, Nat.le_refl _, Nat.zero_le _, fun _ => rfl, fun ad had => ?_⟩, ((Fr.refl (fun q => q = p) w).setCell (.inl rfl) _).setCell (.inl rfl) _⟩
      cases had
      exact ⟨h8, rfl, by omega⟩
    · go_wp2
      go_ret
      have h2' := kL (lV h1 (.slice (some ⟨bb, off + 1, none⟩) (n - 1) (c - 1)))
      refine ⟨b.toNat, b.toNat_lt, congrArg (fun z => Ending.returned (.int .i64 z)) (aAn b), ⟨hB, _, n - 1, c - 1, _, h2' _, (mG _).1, (mG _).2, by omega, by unfold maxLen; omega, (fun h => by cases h), fun ad had => ?_⟩, ((Fr.refl (fun q => q = p) w).setCell (.inl rfl) _).setCell (.inl rfl) _⟩
      cases had
      refine ⟨h8, rfl, fun j hj => ?_⟩
      obtain ⟨b', hb'⟩ := h10 (j + 1) (by omega)
      refine ⟨b', ?_⟩
      rw [Addr.add_lit] at hb' ⊢
      rw [Nat.add_assoc, Nat.add_comm 1 j]
      exact (((Fr.refl (fun q => q = p) w).setCell (.inl rfl) _).setCell (.inl rfl) _).aA hb' hbp
end Go.Proofs.YtcidlnjpabgioaaGreatDoor
namespace Go.Proofs.YtcidlnjpabgioaaGreatDoor
open Go.RowKit
inductive LT where
 | mk (name : List UInt8) (size : Nat) (of : List LT)
mutual
def iI (B : Nat) (w : World) : LT → List Value → Prop
 | .mk nm sz of, vs => ∃ ov ixs, vs = [.string (aV nm), .int .i64 sz, ov] ∧ Sl B w 3 ov of.length ixs ∧ dR B w of ixs
def dR (B : Nat) (w : World) : List LT → List Value → Prop
 | [], xs => xs = []
 | t :: ts, xs => ∃ vs rest, xs = vs ++ rest ∧ iI B w t vs ∧ dR B w ts rest
end
mutual
theorem iI.below {B : Nat} {w w' : World} (hb : Below B w w') : ∀ (t : LT) (vs : List Value), iI B w t vs → iI B w' t vs
 | .mk nm sz of, vs => by
  unfold iI
  rintro ⟨ov, ixs, h0, h1, h2⟩
  exact ⟨ov, ixs, h0, h1.below hb, dR.below hb _ _ h2⟩
theorem dR.below {B : Nat} {w w' : World} (hb : Below B w w') : ∀ (ts : List LT) (xs : List Value), dR B w ts xs → dR B w' ts xs
 | [], xs => by unfold dR; exact id
 | t :: ts, xs => by
  unfold dR
  rintro ⟨vs, rest, h0, h1, h2⟩
  exact ⟨vs, rest, h0, iI.below hb _ _ h1, dR.below hb _ _ h2⟩
end
mutual
theorem iI.mono {B B' : Nat} {w : World} (hB : B ≤ B') : ∀ (t : LT) (vs : List Value), iI B w t vs → iI B' w t vs
 | .mk nm sz of, vs => by
  unfold iI
  rintro ⟨ov, ixs, h0, h1, h2⟩
  exact ⟨ov, ixs, h0, h1.mono hB, dR.mono hB _ _ h2⟩
theorem dR.mono {B B' : Nat} {w : World} (hB : B ≤ B') : ∀ (ts : List LT) (xs : List Value), dR B w ts xs → dR B' w ts xs
 | [], xs => by unfold dR; exact id
 | t :: ts, xs => by
  unfold dR
  rintro ⟨vs, rest, h0, h1, h2⟩
  exact ⟨vs, rest, h0, iI.mono hB _ _ h1, dR.mono hB _ _ h2⟩
end
theorem iI.length {B : Nat} {w : World} : ∀ {t : LT} {vs : List Value}, iI B w t vs → vs.length = 3
 | .mk nm sz of, vs => by
  unfold iI
  rintro ⟨ov, ixs, rfl, _⟩
  rfl
theorem dR.at {B : Nat} {w : World} : ∀ {ts : List LT} {xs : List Value}, dR B w ts xs → ∀ i t, ts[i]? = some t → iI B w t ((xs.drop (i * 3)).take 3)
 | [], xs => by intro _ i t h; simp at h
 | s :: ts, xs => by
  intro h i t ht
  unfold dR at h
  obtain ⟨vs, rest, rfl, h1, h2⟩ := h
  have hl := h1.length
  cases i with
  | zero =>
   simp only [List.getElem?_cons_zero, Option.some.injEq] at ht
   subst ht
   simpa [List.take_append, hl] using h1
  | succ i =>
   have := dR.at h2 i t (by simpa using ht)
   have e : (vs ++ rest).drop ((i + 1) * 3) = rest.drop (i * 3) := by
    rw [show (i + 1) * 3 = vs.length + i * 3 by omega, ← List.drop_drop]
    simp
   rw [e]
   exact this
theorem dR.length {B : Nat} {w : World} : ∀ {ts : List LT} {xs : List Value}, dR B w ts xs → xs.length = ts.length * 3
 | [], xs => by unfold dR; rintro rfl; rfl
 | t :: ts, xs => by
  unfold dR
  rintro ⟨vs, rest, rfl, h1, h2⟩
  rw [List.length_append, h1.length, dR.length h2, List.length_cons]
  omega
theorem dR.snoc {B : Nat} {w : World} : ∀ {ts : List LT} {xs : List Value} {t : LT} {vs : List Value}, dR B w ts xs → iI B w t vs → dR B w (ts ++ [t]) (xs ++ vs)
 | [], xs, t, vs => by
  unfold dR
  rintro rfl h
  exact ⟨vs, [], by simp, h, by unfold dR; rfl⟩
 | s :: ts, xs, t, vs => by
  intro h h'
  unfold dR at h
  obtain ⟨us, rest, rfl, h1, h2⟩ := h
  rw [List.cons_append]
  unfold dR
  exact ⟨us, rest ++ vs, by rw [List.append_assoc], h1, dR.snoc h2 h'⟩
def Ty.nm : Ty → List UInt8
 | .num k => k.name
 | .str => [83, 116, 114, 105, 110, 103]
 | .fix _ => [70, 105, 120, 101, 100, 83, 116, 114, 105, 110, 103]
 | .nul _ => [78, 117, 108, 108, 97, 98, 108, 101]
 | .low => [76, 111, 119, 67, 97, 114, 100, 105, 110, 97, 108, 105, 116, 121]
 | .arr _ => [65, 114, 114, 97, 121]
 | .map _ _ => [77, 97, 112]
 | .tup _ => [84, 117, 112, 108, 101]
def Ty.sz : Ty → Nat
 | .num k => k.size
 | .fix n => n
 | _ => 0
mutual
def Ty.lt : Ty → LT
 | .num k => .mk k.name k.size []
 | .str => .mk [83, 116, 114, 105, 110, 103] 0 []
 | .fix n => .mk [70, 105, 120, 101, 100, 83, 116, 114, 105, 110, 103] n []
 | .nul t => .mk [78, 117, 108, 108, 97, 98, 108, 101] 0 [t.lt]
 | .low => .mk [76, 111, 119, 67, 97, 114, 100, 105, 110, 97, 108, 105, 116, 121] 0 [.mk [83, 116, 114, 105, 110, 103] 0 []]
 | .arr t => .mk [65, 114, 114, 97, 121] 0 [t.lt]
 | .map k v => .mk [77, 97, 112] 0 [k.lt, v.lt]
 | .tup ts => .mk [84, 117, 112, 108, 101] 0 (lts ts)
def lts : List Ty → List LT
 | [] => []
 | t :: ts => t.lt :: lts ts
end
theorem aFh : ∀ ts : List Ty, lts ts = ts.map Ty.lt
 | [] => rfl
 | t :: ts => by rw [lts, aFh ts]; rfl
def Ty.dS : Ty → Prop
 | .num _ | .str => True
 | .fix n => n = 5 ∨ n = 16
 | _ => False
def Ty.cells3 (T : Ty) : List Value := [.string (aV T.nm), .int .i64 T.sz, .slice none 0 0]
theorem Ty.dS.lt {T : Ty} (h : T.dS) (B : Nat) (w : World) : iI B w T.lt T.cells3 := by
 have hs : Sl B w 3 (.slice none 0 0) 0 [] := ⟨rfl, none, 0, rfl, Nat.le_refl _, Nat.zero_le _, fun _ => rfl, fun ad had => by cases had⟩
 cases T <;> first
  | exact h.elim
  | (rw [Ty.lt]; unfold iI; exact ⟨_, [], rfl, hs, by unfold dR; rfl⟩)
def leaves : List Ty := [.num .u8, .num .i16, .num .u32, .num .i64, .num .u64, .num .i128, .num .u256, .num .ip4, .num .ip6, .num .i8, .num .u16, .num .i32, .str, .str, .fix 5, .fix 16]
theorem aAJ {i : Nat} {T : Ty} (h : leaves[i]? = some T) : T.dS := by
 have : T ∈ leaves := List.mem_of_getElem? h
 simp only [leaves, List.mem_cons, List.not_mem_nil, or_false] at this
 rcases this with rfl | rfl | rfl | rfl | rfl | rfl | rfl | rfl | rfl | rfl | rfl | rfl | rfl | rfl | rfl | rfl <;> first | trivial | exact .inl rfl | exact .inr rfl
theorem aDA (w : World) : Calls Tryz.prog 26 #[] w fun e w' => e = .returned (.slice (some ⟨w.heap.size, 0, none⟩) 16 16) ∧ w' = w.alloc (.cells (leaves.flatMap Ty.cells3).toArray 29) := by
 go_enter Tryz.func26, Tryz.ntmps26
 go_wp2
 go_ret
 exact ⟨rfl, rfl⟩
theorem aGV (k : Nat) (hk : k < 16) : ∃ T : Ty, T.dS ∧ ∀ j, j < 3 → (leaves.flatMap Ty.cells3)[k * 3 + j]? = T.cells3[j]? := by
 have h16 : leaves.length = 16 := rfl
 exact ⟨leaves[k]'(by omega), aAJ (i := k) (List.getElem?_eq_getElem _), fun j hj => iY Ty.cells3 3 (fun _ => rfl) leaves k j (by omega) hj⟩
end Go.Proofs.YtcidlnjpabgioaaGreatDoor
namespace Go.Proofs.YtcidlnjpabgioaaGreatDoor
open Go.RowKit
theorem fZ {w : World} {o : Obj} {n : Nat} (h : n = w.heap.size) : (w.alloc o).heap[n]? = some o := by
 subst h
 exact heap_alloc_new w o
theorem aCY {w w2 : World} {p b : Nat} (hpw : p < w.heap.size)
 (hf : Fr (fun q => q = p) ((w.alloc (.cells #[.string ⟨#[]⟩, .int .i64 0, .slice none 0 0] 29)).alloc (.cells (leaves.flatMap Ty.cells3).toArray 29)) w2) :
 ∃ T : Ty, T.dS ∧ w2.cell? ⟨w.heap.size + 1, b % 16 * 3, none⟩ = some (.string (aV T.nm)) ∧ w2.cell? ⟨w.heap.size + 1, b % 16 * 3 + 1, none⟩ = some (.int .i64 T.sz) ∧ w2.cell? ⟨w.heap.size + 1, b % 16 * 3 + 2, none⟩ = some (.slice none 0 0) ∧
  w2.heap[w.heap.size]? = some (.cells #[.string ⟨#[]⟩, .int .i64 0, .slice none 0 0] 29 (0, 0)) := by
 obtain ⟨T, hT, hat⟩ := aGV (b % 16) (by omega)
 have hrow : w2.heap[w.heap.size + 1]? = some (.cells (leaves.flatMap Ty.cells3).toArray 29 (0, 0)) := (hf.block _ (by simp) (by show ¬ w.heap.size + 1 = p; omega)).trans (fZ (by simp))
 have hres : w2.heap[w.heap.size]? = some (.cells #[.string ⟨#[]⟩, .int .i64 0, .slice none 0 0] 29 (0, 0)) := (hf.block _ (by simp; omega) (by show ¬ w.heap.size = p; omega)).trans ((Below.heap_alloc _ _ _ (by simp)).trans (heap_alloc_new w _))
 refine ⟨T, hT, ?_, ?_, ?_, hres⟩ <;> rw [cell_of_row _ _ _ _ _ _ hrow, List.getElem?_toArray]
 · exact hat 0 (by omega)
 · exact hat 1 (by omega)
 · exact hat 2 (by omega)
theorem vO (B : Nat) (w : World) (p : Nat) (h : bM B w p) (hpw : p < w.heap.size) : Calls Tryz.prog 15 #[.pointer (some ⟨p, 0, none⟩)] w fun e w' => ∃ T : Ty, T.dS ∧ e = .returned (.agg T.cells3.toArray) ∧ bM B w' p ∧ Fr (fun q => q = p) w w' := by
 go_enter Tryz.func15, Tryz.ntmps15
 go_wp2_with (first
  | (go_at_call 26; refine (aDA _).mono ?_; rintro e w1 ⟨rfl, rfl⟩)
  | (go_at_call 20; refine (fH B _ p (h.fr (((Fr.refl (fun _ => False) w).alloc _).alloc _) (fun h => h) (fun _ _ h => h))).mono ?_; rintro e w2 ⟨b, hb, rfl, hcode, hf⟩; go_loud (obtain ⟨T, hT, q0, q1, q2, hres⟩ := aCY (b := b) hpw hf; have r0 : w2.cell? ⟨w.heap.size, 0, none⟩ = some (.string ⟨#[]⟩) := (by rw [cell_of_row _ _ _ _ _ _ hres]; rfl); have r1 : w2.cell? ⟨w.heap.size, 1, none⟩ = some (.int .i64 0) := (by rw [cell_of_row _ _ _ _ _ _ hres]; rfl); have r2 : w2.cell? ⟨w.heap.size, 2, none⟩ = some (.slice none 0 0) := (by rw [cell_of_row _ _ _ _ _ _ hres]; rfl); have z0 := frozen_of_row w2 w.heap.size 0 _ _ hres; have z1 := frozen_of_row w2 w.heap.size 1 _ _ hres; have z2 := frozen_of_row w2 w.heap.size 2 _ _ hres; clear hres)))
 refine bodyPost_ret (by simp [results, Tryz.results15, go_sem, r0, r1, r2]; try rfl) rfl ?_
 have hfr : Fr (fun q => q = p) w w2 := (((Fr.refl (fun q => q = p) w).alloc _).alloc _).trans hf (fun _ _ h => h)
 refine ⟨T, hT, rfl, hcode.fr (((((Fr.refl (fun q => q = w.heap.size) w2).setCell (.inl rfl) _).setCell (.inl rfl) _).setCell (.inl rfl) _)) (by show ¬ p = w.heap.size; omega) (fun k hk => ?_), ((hfr.setCell (.inr (Nat.le_refl _)) _).setCell (.inr (Nat.le_refl _)) _).setCell (.inr (Nat.le_refl _)) _⟩
 have := h.1
 show ¬ k = w.heap.size
 omega
end Go.Proofs.YtcidlnjpabgioaaGreatDoor
namespace Go.Proofs.YtcidlnjpabgioaaGreatDoor
open Go.RowKit
section
variable {P : Program} (w : World) {ops : Array Oper} {rest : List Oper} {o : Oper} {a : Act} {Q : Exit → Act → World → Prop} {K : Act → World → Prop} {E : Prop}
end
theorem jR {w : World} {v : Value} {bs : List UInt8} (h : Bytes w v bs) : (convert 22 9 v).run Tryz.prog w = .ok (.string (aV bs)) w := by
 rcases h.2 with ⟨rfl, h0⟩ | ⟨g, cap, cur, rfl, _⟩
 · have : bs = [] := List.eq_nil_of_length_eq_zero h0
   subst this
   exact run_convert_bytes_nil (P := Tryz.prog) w 22 5 Tryz.underlying22 Tryz.underlying5 0 0 9 Tryz.underlying9
 · have hc := World.ownsRow.cells h (g := g) rfl
   exact run_convert_bytes_back w _ _ 5 ⟨g, 0, none⟩ cap bs Tryz.underlying22 Tryz.underlying5 Tryz.underlying9 (fun j hj => hc j _ (by simp [aQ, hj]))
theorem oW (w : World) (x : Int) (b : UInt8) (hx : x = b.toNat) : (convert 22 9 (.slice (some ⟨w.heap.size, 0, none⟩) 1 1)).run Tryz.prog (w.alloc (.cells #[.int .u8 x] 5)) = .ok (.string (aV [b])) (w.alloc (.cells #[.int .u8 x] 5)) := by
 subst hx
 refine run_convert_bytes_back _ _ _ 5 ⟨w.heap.size, 0, none⟩ 1 [b] Tryz.underlying22 Tryz.underlying5 Tryz.underlying9 (fun j hj => ?_)
 have : j = 0 := by simp at hj; omega
 subst this
 rw [Addr.add_lit, aB rfl]
 rfl
theorem aAf (n : Nat) (hn : n < 10) : ((48 + n).toUInt8).toNat = 48 + n := by
 simp [Nat.toUInt8, UInt8.toNat_ofNat']
 omega
theorem aCu {w w2 : World} {x : Int} (hf : Fr (fun _ => False) (w.alloc (.cells #[.int .u8 x] 5)) w2) (b : UInt8) (hx : x = b.toNat) : (convert 22 9 (.slice (some ⟨w.heap.size, 0, none⟩) 1 1)).run Tryz.prog w2 = .ok (.string (aV [b])) w2 := by
 subst hx
 refine run_convert_bytes_back _ _ _ 5 ⟨w.heap.size, 0, none⟩ 1 [b] Tryz.underlying22 Tryz.underlying5 Tryz.underlying9 (fun j hj => ?_)
 have : j = 0 := by simp at hj; omega
 subst this
 rw [Addr.add_lit]
 exact hf.aA (by rw [aB rfl]; rfl) (fun h => h)
theorem oD (n : Nat) (hn : n < 10) (w : World) : Calls Tryz.prog 25 #[.int .i64 n] w fun e w' => e = .returned (.string (aV (digits n))) ∧ Fr (fun _ => False) w w' := by
 have h1 : (n : Int) < 10 := by omega
 rw [digits, dif_pos hn]
 have hb0 := aAf n hn
 generalize (48 + n).toUInt8 = b at hb0
 have hc := oW w (48 + n) b (by rw [hb0]; rfl)
 have hb := Lib.hid hb0
 clear hb0
 go_enter Tryz.func25, Tryz.ntmps25
 go_wp2
 go_ret
 exact ⟨rfl, (Fr.refl _ w).alloc _⟩
theorem dO (l : List UInt8) : (aV l).size = l.length := by
 show l.toArray.size = _
 simp
theorem dY (l m : List UInt8) : aV l ++ aV m = aV (l ++ m) := by
 show (⟨l.toArray⟩ : ByteArray) ++ ⟨m.toArray⟩ = _
 rw [ByteArray.mk_append_mk]
 rfl
theorem aBA (n : Nat) (h : n < 10) : (digits n).length = 1 := by rw [digits, dif_pos h]; rfl
theorem aFa (n : Nat) (hn : n < 100) (w : World) : Calls Tryz.prog 25 #[.int .i64 n] w fun e w' => e = .returned (.string (aV (digits n))) ∧ Fr (fun _ => False) w w' := by
 by_cases h : n < 10
 · exact oD n h w
 · have h1 : ¬ (n : Int) < 10 := by omega
   have h2 : 0 ≤ (n : Int) % 10 := by omega
   have h3 : (n : Int) % 10 < 10 := by omega
   rw [digits, dif_neg h]
   have hb0 := aAf (n % 10) (by omega)
   generalize (48 + n % 10).toUInt8 = b at hb0
   have hb : Hid ((48 : Int) + (n : Int) % 10 = b.toNat) := Lib.hid (by rw [hb0]; omega)
   have hd0 : ∀ W, Calls Tryz.prog 25 #[.int .i64 ((n : Int) / 10)] W fun e w' => e = .returned (.string (aV (digits (n / 10)))) ∧ Fr (fun _ => False) W w' := fun W => oD (n / 10) (by omega) W
   clear hb0
   have hsz1 : (aV (digits (n / 10))).size = 1 := by rw [dO, aBA _ (by omega)]
   rw [← dY]
   generalize aV (digits (n / 10)) = s1 at hd0 hsz1
   have hc1 : ∀ W : World, (convert 22 9 (.slice (some ⟨W.heap.size, 0, none⟩) 1 1)).run Tryz.prog (W.alloc (.cells #[.int .u8 (48 + (n : Int) % 10)] 5)) = .ok (.string (aV [b])) (W.alloc (.cells #[.int .u8 (48 + (n : Int) % 10)] 5)) := fun W => oW W _ b hb.out
   have hc2 : ∀ W w2 : World, Fr (fun _ => False) (W.alloc (.cells #[.int .u8 (48 + (n : Int) % 10)] 5)) w2 → (convert 22 9 (.slice (some ⟨W.heap.size, 0, none⟩) 1 1)).run Tryz.prog w2 = .ok (.string (aV [b])) w2 := fun W w2 hf => aCu hf b hb.out
   have hsz2 : (aV [b]).size = 1 := dO [b]
   generalize aV [b] = s2 at hc1 hc2 hsz2
   have hsum : ¬ (9223372036854775807 < s1.size + s2.size) := by omega
   clear hsz1 hsz2
   have hA := hc2 w _ ((Fr.refl (fun _ => False) (w.alloc (.cells #[.int .u8 (48 + (n : Int) % 10)] 5))).drew)
   have hc1' := Lib.hid hc1
   have hc2' := Lib.hid hc2
   have q1 : IntKind.i64.wrap ((n : Int) / 10) = (n : Int) / 10 := by rw [IntKind.wrap_i64]; omega
   have q2 : (n : Int).tmod 10 = (n : Int) % 10 := Int.tmod_eq_emod_of_nonneg (by omega)
   have q3 : IntKind.i64.wrap (48 + (n : Int) % 10) = 48 + (n : Int) % 10 := by rw [IntKind.wrap_i64]; omega
   have q4 : IntKind.u8.wrap (48 + (n : Int) % 10) = 48 + (n : Int) % 10 := by rw [IntKind.wrap_u8']; omega
   clear hc1 hc2 hb
   go_enter Tryz.func25, Tryz.ntmps25
   go_wp2
   go_region_with (first
    | (go_at_call 25; refine (hd0 _).mono ?_; rintro e w2 ⟨rfl, hf⟩; have hB := hc1'.out w2; (try have hD := hc2'.out _ _ hf.aG)))
   all_goals
    go_wp2
    go_ret
    refine ⟨rfl, ?_⟩
    first
     | exact ((Fr.refl _ w).drew.trans hf (fun _ _ h => h)).alloc _
     | exact (((Fr.refl _ w).alloc _).drew.trans hf (fun _ _ h => h))
end Go.Proofs.YtcidlnjpabgioaaGreatDoor
namespace Go.Proofs.YtcidlnjpabgioaaGreatDoor
open Go.RowKit
def Ty.kids : Ty → List Ty
 | .nul t | .arr t => [t]
 | .low => [.str]
 | .map k v => [k, v]
 | .tup ts => ts
 | _ => []
theorem Ty.aJB (T : Ty) : T.lt = .mk T.nm T.sz (T.kids.map Ty.lt) := by
 cases T <;> simp [Ty.lt, Ty.nm, Ty.sz, Ty.kids, aFh]
def pre (nm : List UInt8) : List (List UInt8) → List UInt8
 | [] => nm
 | l :: r => nm ++ [40] ++ l ++ r.flatMap fun x => [44, 32] ++ x
theorem xR (nm x : List UInt8) : ∀ ls : List (List UInt8), pre nm (ls ++ [x]) = (if ls = [] then nm ++ [40] else pre nm ls ++ [44, 32]) ++ x
 | [] => by simp [pre]
 | l :: r => by simp [pre]
theorem texts_eq : ∀ (ts : List Ty), ts ≠ [] → ∀ nm : List UInt8, nm ++ [40] ++ texts ts = pre nm (ts.map text)
 | [], h, _ => absurd rfl h
 | [t], _, nm => by simp [texts, pre]
 | t :: t' :: ts, _, nm => by
  have h := texts_eq (t' :: ts) (by simp) (nm ++ [40] ++ text t ++ [44])
  rw [texts]
  simp only [List.map_cons, pre, List.flatMap_cons] at h ⊢
  simp only [List.append_assoc] at h ⊢
  have e : ∀ a b : List UInt8, nm ++ ([40] ++ (text t ++ ([44] ++ ([40] ++ a)))) = nm ++ ([40] ++ (text t ++ ([44] ++ ([40] ++ b)))) → a = b := fun a b h => by simpa using h
  have := e _ _ (by simpa using h)
  simp [this]
theorem text_eq (T : Ty) (hf : T.fine) (h : ∀ n, T ≠ .fix n) : text T = pre T.nm (T.kids.map text) ++ (if T.kids = [] then [] else [41]) := by
 cases T with
 | fix n => exact absurd rfl (h n)
 | num k => simp [text, Ty.nm, Ty.kids, pre]
 | str => simp [text, Ty.nm, Ty.kids, pre]
 | nul t => simp [text, Ty.nm, Ty.kids, pre]
 | low => simp [text, Ty.nm, Ty.kids, pre]
 | arr t => simp [text, Ty.nm, Ty.kids, pre]
 | map k v => simp [text, Ty.nm, Ty.kids, pre]
 | tup ts =>
  rw [Ty.fine] at hf
  rw [text, texts_eq ts hf.1]
  simp [Ty.nm, Ty.kids, hf.1]
theorem Sl.row3 {B : Nat} {w : World} {v : Value} {ts : List LT} {xs : List Value} (h : Sl B w 3 v ts.length xs) (hc : dR B w ts xs) {k : Nat} (hk : k < ts.length) :
 ∃ b off cap, v = .slice (some ⟨b, off, none⟩) ts.length cap ∧ b < B ∧ ∃ vs, iI B w ts[k] vs ∧ ∀ j u, vs[j]? = some u → w.cell? ⟨b, off + k * 3 + j, none⟩ = some u := by
 obtain ⟨hxl, ao, cap, rfl, hnc, hcm, h0, ha⟩ := h
 cases ao with
 | none => have := h0 rfl; omega
 | some ad =>
  obtain ⟨hb, hsp, hcell⟩ := ha ad rfl
  obtain ⟨b, off, sp⟩ := ad
  simp only at hsp hb
  subst hsp
  refine ⟨b, off, cap, rfl, hb, _, hc.at k ts[k] (by simp [hk]), fun j u hj => ?_⟩
  rw [List.getElem?_take, List.getElem?_drop] at hj
  split at hj
  · have := hcell _ _ hj
    rw [Addr.add_lit] at this
    rw [Nat.add_assoc]
    exact this
  · cases hj
theorem iI.open {B : Nat} {w : World} {T : Ty} {vs : List Value} (h : iI B w T.lt vs) : ∃ (a : Option Addr) (c : Nat) (ixs : List Value), vs = [.string (aV T.nm), .int .i64 T.sz, .slice a T.kids.length c] ∧ Sl B w 3 (.slice a T.kids.length c) (T.kids.map Ty.lt).length ixs ∧ dR B w (T.kids.map Ty.lt) ixs := by
 rw [Ty.aJB] at h
 unfold iI at h
 obtain ⟨ov, ixs, rfl, h1, h2⟩ := h
 have h1' := h1
 obtain ⟨_, a, c, rfl, _⟩ := h1'
 rw [List.length_map] at h1
 exact ⟨a, c, ixs, by rw [List.length_map], by rw [List.length_map]; exact h1, h2⟩
def nC (T : Ty) : Prop := ∀ (B : Nat) (w : World) (vs : List Value), iI B w T.lt vs → B ≤ w.heap.size → (text T).length ≤ 900000 →
 Calls Tryz.prog 11 #[.agg vs.toArray] w fun e w' => e = .returned (.string (aV (text T))) ∧ Fr (fun _ => False) w w'
theorem aHr (n : Nat) (hn : n < 100) : nC (.fix n) := by
 intro B w vs h hB hl
 obtain ⟨a, c, ixs, rfl, -, -⟩ := h.open
 have e : text (.fix n) = [70, 105, 120, 101, 100, 83, 116, 114, 105, 110, 103, 40] ++ digits n ++ [41] := by rw [text]; simp
 have hd := fun W => aFa n hn W
 rw [e] at hl ⊢
 have hs1 : (aV (digits n)).size ≤ 900000 := by rw [dO]; simp at hl; omega
 have ha1 : (⟨#[70, 105, 120, 101, 100, 83, 116, 114, 105, 110, 103, 40]⟩ : ByteArray) ++ aV (digits n) ++ ⟨#[41]⟩ = aV ([70, 105, 120, 101, 100, 83, 116, 114, 105, 110, 103, 40] ++ digits n ++ [41]) := by
  rw [show (⟨#[70, 105, 120, 101, 100, 83, 116, 114, 105, 110, 103, 40]⟩ : ByteArray) = aV [70, 105, 120, 101, 100, 83, 116, 114, 105, 110, 103, 40] from rfl, show (⟨#[41]⟩ : ByteArray) = aV [41] from rfl, dY, dY]
 rw [← ha1]
 clear ha1 e hl
 have hnm : (aV (Ty.fix n).nm).toList = [70, 105, 120, 101, 100, 83, 116, 114, 105, 110, 103] := bY _
 generalize aV (digits n) = s at hd hs1
 generalize aV (Ty.fix n).nm = nm at hnm
 have hsz : (Ty.fix n).sz = n := rfl
 rw [hsz]
 go_enter Tryz.func11, Tryz.ntmps11
 go_wp2_with (go_at_call 25; refine (hd _).mono ?_; rintro e w2 ⟨rfl, hf⟩)
 go_ret
 exact ⟨rfl, ((Fr.refl _ w).alloc _).trans hf (fun _ _ h => h)⟩
theorem aCT (nm : List UInt8) (ls : List (List UInt8)) (k : Nat) : (pre nm (ls.take k)).length ≤ (pre nm ls).length := by
 cases ls with
 | nil => simp
 | cons l r =>
  cases k with
  | zero => simp [pre]
  | succ k =>
   have h : ((r.take k).flatMap fun x => [44, 32] ++ x).length ≤ (r.flatMap fun x => [44, 32] ++ x).length := by
    conv => rhs; rw [← List.take_append_drop k r, List.flatMap_append, List.length_append]
    omega
   simp [pre] at h ⊢
   omega
theorem iZ (T : Ty) (hf : T.fine) (hfx : ∀ n, T ≠ .fix n) (hkids : ∀ t ∈ T.kids, nC t) : nC T := by
 intro B w vs h hB hl
 obtain ⟨a, c, ixs, rfl, hs, hts⟩ := h.open
 rw [text_eq T hf hfx] at hl ⊢
 have hnf : ¬ (aV T.nm).toList = [70, 105, 120, 101, 100, 83, 116, 114, 105, 110, 103] := by
  rw [bY]
  cases T <;> first | exact absurd rfl (hfx _) | (simp [Ty.nm, Num.name]; done) | (rename_i k; cases k <;> simp [Ty.nm, Num.name])
 have hs0 := hs
 obtain ⟨-, _, _, hv, hnc, hcm, -, -⟩ := hs0
 simp only [Value.slice.injEq] at hv
 obtain ⟨rfl, -, rfl⟩ := hv
 rw [List.length_map] at hnc
 unfold maxLen at hcm
 obtain ⟨LS, hLS⟩ : ∃ LS, Hid (LS = T.kids.map text) := ⟨_, Lib.hid rfl⟩
 rw [← hLS.out] at hl ⊢
 have hLn : Hid (LS.length = T.kids.length) := Lib.hid (by rw [hLS.out, List.length_map])
 have hpl := aCT T.nm LS
 have hk0 : (if T.kids = [] then ([] : List UInt8) else [41]) = if LS = [] then [] else [41] := by rw [hLS.out]; simp
 rw [hk0] at hl ⊢
 rw [List.length_append] at hl
 obtain ⟨KL, hKL⟩ : ∃ KL, Hid (KL = T.kids) := ⟨_, Lib.hid rfl⟩
 rw [← hKL.out] at hs hts hkids hnc ⊢
 rw [← hKL.out] at hLS hLn
 obtain ⟨P, hP⟩ : ∃ P : Nat → ByteArray, Hid (∀ k, P k = aV (pre T.nm (LS.take k))) := ⟨_, Lib.hid fun k => rfl⟩
 have hPs : ∀ k, (P k).size ≤ 900000 := fun k => by rw [hP.out, dO]; have := hpl k; omega
 have hP0 : aV T.nm = P 0 := by rw [hP.out]; simp [pre]
 have hstep : Hid (∀ k t, LS[k]? = some t → (k = 0 → P k ++ (⟨#[40]⟩ : ByteArray) ++ aV t = P (k + 1)) ∧ (k ≠ 0 → P k ++ (⟨#[44, 32]⟩ : ByteArray) ++ aV t = P (k + 1))) := Lib.hid fun k t ht => by
  have hlt : k < LS.length := (List.getElem?_eq_some_iff.1 ht).1
  have htk : LS.take (k + 1) = LS.take k ++ [t] := by rw [List.take_add_one, ht]; rfl
  refine ⟨fun h0 => ?_, fun h0 => ?_⟩
  · subst h0
    rw [hP.out, hP.out, show (⟨#[40]⟩ : ByteArray) = aV [40] from rfl, dY, dY, htk, xR]
    simp [pre]
  · rw [hP.out, hP.out, show (⟨#[44, 32]⟩ : ByteArray) = aV [44, 32] from rfl, dY, dY, htk, xR, if_neg (by
     intro h
     have := congrArg List.length h
     simp only [List.length_take, List.length_nil] at this
     omega)]
 have hend : Hid (aV (pre T.nm LS ++ if LS = [] then [] else [41]) = if LS.length = 0 then P 0 else P LS.length ++ (⟨#[41]⟩ : ByteArray)) := Lib.hid (by
  rw [hP.out, hP.out, show (⟨#[41]⟩ : ByteArray) = aV [41] from rfl, dY, List.take_length]
  cases LS with
  | nil => simp [pre]
  | cons => simp)
 have hsz : ∀ k t, LS[k]? = some t → (aV t).size ≤ 900000 := fun k t ht => by
  have h1 : (pre T.nm (LS.take (k + 1))).length ≤ 900000 := by have := hpl (k + 1); omega
  have htk : LS.take (k + 1) = LS.take k ++ [t] := by rw [List.take_add_one, ht]; rfl
  rw [htk, xR, List.length_append] at h1
  rw [dO]
  omega
 obtain ⟨FIN, hFIN⟩ : ∃ FIN, Hid (FIN = aV (pre T.nm LS ++ if LS = [] then [] else [41])) := ⟨_, Lib.hid rfl⟩
 rw [hend.out] at hFIN
 rw [hend.out, ← hFIN.out]
 rw [hP0] at hnf ⊢
 have hnf2 : ((P 0).toList == [70, 105, 120, 101, 100, 83, 116, 114, 105, 110, 103]) = false := by simpa using hnf
 clear hl hpl hP0 hnf hP hend hk0 h hKL
 go_enter Tryz.func11, Tryz.ntmps11
 go_wp2
 generalize hW : w.alloc _ = W
 have hfW : Fr (fun _ => False) w W := by subst hW; exact (Fr.refl _ w).alloc _
 have d2 : W.cell? ⟨w.heap.size, 2, none⟩ = some (.slice a KL.length c) := by subst hW; rw [aB rfl]; rfl
 have hsW := hs.below (hfW.below hB (fun _ _ h => h))
 have htsW := dR.below (hfW.below hB (fun _ _ h => h)) _ _ hts
 have hBW : B ≤ W.heap.size := Nat.le_trans hB hfW.size
 clear hW hs hts
 go_loopw [3, 19] (fun s i wr => ∃ k : Nat, k ≤ KL.length ∧ i = .int .i64 k ∧ s = .string (P k) ∧ Fr (fun _ => False) W wr) (fun _ i _ => KL.length - (intOf i).toNat)
 case atStart => exact ⟨0, Nat.zero_le _, rfl, rfl, Fr.refl _ _⟩
 case round =>
  obtain ⟨k, hk, rfl, rfl, hfr⟩ := hrel
  have hbr : Below B W wr := hfr.below hBW (fun _ _ h => h)
  by_cases hlt : k < KL.length
  · obtain ⟨b, off, cap', hv, hbB, vs, hvs, hcell⟩ := (hsW.below hbr).row3 (dR.below hbr _ _ htsW) (k := k) (by simpa using hlt)
    simp only [Value.slice.injEq] at hv
    obtain ⟨rfl, -, rfl⟩ := hv
    rw [List.getElem_map] at hvs
    have hmem : KL[k] ∈ KL := List.getElem_mem _
    have hLk : LS[k]? = some (text KL[k]) := by rw [hLS.out, List.getElem?_map, List.getElem?_eq_getElem hlt]; rfl
    generalize KL[k] = tk at hvs hmem hLk
    have hst := Lib.hid (hstep.out k _ hLk)
    have hszk := hsz k _ hLk
    have hszl : (text tk).length ≤ 900000 := by rw [← dO]; exact hszk
    have hPk := hPs k
    obtain ⟨a', c', ixs', rfl, -, -⟩ := hvs.open
    have c0 := hcell 0 _ rfl
    have c1 := hcell 1 _ rfl
    have c2 := hcell 2 _ rfl
    simp only [Nat.add_zero] at c0
    have hcall := fun W' (hb : Below B wr W') => hkids tk hmem B W' _ (iI.below hb _ _ hvs) (Nat.le_trans hBW (Nat.le_trans hfr.size hb.size)) hszl
    generalize aV (text tk) = st at hst hszk hcall
    clear hcell hvs hLk hmem hsz hPs
    by_cases h0 : k = 0
    · have hst1 := Lib.hid (hst.out.1 h0)
      have hb0 : ((k : Int) == 0) = true := by simp [h0]
      clear hst h0
      go_wp2_with (go_at_call 11; refine (hcall _ (((Below.refl B wr)).alloc (Nat.le_trans hBW hfr.size) _)).mono ?_; rintro e w2 ⟨rfl, hf⟩)
      go_roundw
      case rel => exact ⟨k + 1, by omega, by go_num, by rw [hst1.out], (hfr.alloc _).trans hf (fun _ _ h => h)⟩
      case measure => simp [intOf]; omega
    · have hst1 := Lib.hid (hst.out.2 h0)
      have hb0 : ((k : Int) == 0) = false := by simpa using h0
      clear hst h0
      go_wp2_with (go_at_call 11; refine (hcall _ (((Below.refl B wr)).alloc (Nat.le_trans hBW hfr.size) _)).mono ?_; rintro e w2 ⟨rfl, hf⟩)
      go_roundw
      case rel => exact ⟨k + 1, by omega, by go_num, by rw [hst1.out], (hfr.alloc _).trans hf (fun _ _ h => h)⟩
      case measure => simp [intOf]; omega
  · have hke : k = KL.length := by omega
    subst hke
    have d2' := hfr.aA d2 (fun h => h)
    have hPk := hPs KL.length
    have hLn' := hLn.out
    clear hsW htsW hstep hPs hsz d2 hkids hbr
    by_cases h0 : 0 < KL.length
    · have hi : FIN = P KL.length ++ (⟨#[41]⟩ : ByteArray) := by rw [hFIN.out, if_neg (by omega), hLn']
      have hi' := Lib.hid hi
      have h0' : (0 : Int) < KL.length := by omega
      clear hi hLn'
      go_wp2
      go_ret
      exact ⟨by rw [hi'.out]; rfl, hfW.trans hfr (fun _ _ h => h)⟩
    · have hn0 : KL.length = 0 := by omega
      have hi : FIN = P KL.length := by rw [hFIN.out, if_pos (by omega), hn0]
      have hi' := Lib.hid hi
      have h0' : ¬ (0 : Int) < KL.length := by omega
      clear hi hLn' hn0
      go_wp2
      go_ret
      exact ⟨by rw [hi'.out]; rfl, hfW.trans hfr (fun _ _ h => h)⟩
theorem nI (T : Ty) (h : T.dS) : nC T := by
 cases T with
 | fix n => exact aHr n (by have : n = 5 ∨ n = 16 := h; omega)
 | num k => exact iZ _ trivial (by simp) (by simp [Ty.kids])
 | str => exact iZ _ trivial (by simp) (by simp [Ty.kids])
 | _ => exact h.elim
end Go.Proofs.YtcidlnjpabgioaaGreatDoor
namespace Go.Proofs.YtcidlnjpabgioaaGreatDoor
open Go.RowKit
def Cell.gZ (c : Cell) : List Value := [.int .u64 c.r0, .int .u64 c.r1, .int .u64 c.r2, .int .u64 c.r3, .string c.s, .bool c.null, .slice none 0 0, .slice none 0 0]
def Flat : Ty → Cell → Prop
 | .num k, c => c.s = ⟨#[]⟩ ∧ c.null = false ∧ c.items = [] ∧ c.keys = [] ∧ c.r0 < 256 ^ min 8 k.size ∧ c.r1 < 256 ^ min 8 (k.size - 8) ∧ c.r2 < 256 ^ min 8 (k.size - 16) ∧ c.r3 < 256 ^ min 8 (k.size - 24)
 | .str, c => c.s.size ≤ 4 ∧ c.null = false ∧ c.items = [] ∧ c.keys = [] ∧ c.r0 = 0 ∧ c.r1 = 0 ∧ c.r2 = 0 ∧ c.r3 = 0
 | .fix n, c => c.s.size = n ∧ c.null = false ∧ c.items = [] ∧ c.keys = [] ∧ c.r0 = 0 ∧ c.r1 = 0 ∧ c.r2 = 0 ∧ c.r3 = 0
 | _, _ => False
def jY (T : Ty) : Prop := ∀ (B : Nat) (w : World) (p : Nat), bM B w p → p < w.heap.size →
 Calls Tryz.prog 9 #[.pointer (some ⟨p, 0, none⟩), .agg T.cells3.toArray] w fun e w' => ∃ c, Flat T c ∧ e = .returned (.agg c.gZ.toArray) ∧ bM B w' p ∧ Fr (fun q => q = p) w w'
def bZ (r0 r1 r2 r3 : Int) (s : ByteArray) : Array Value := #[.int .u64 r0, .int .u64 r1, .int .u64 r2, .int .u64 r3, .string s, .bool false, .slice none 0 0, .slice none 0 0]
theorem letter (b : Nat) : ∃ c : UInt8, (97 : Int) + (b : Int) % 6 = c.toNat := ⟨(97 + b % 6).toUInt8, by simp [Nat.toUInt8, UInt8.toNat_ofNat']; omega⟩
theorem aFy {wr w2 : World} {p X b : Nat} {s : ByteArray} (hp : X ≠ p) (hrow : wr.heap[X]? = some (.cells (bZ 0 0 0 0 s) 35 (0, 0))) (hf : Fr (fun q => q = p) wr w2) (_hb : b < 256) (hs : s.size ≤ 4) :
 ∃ (c : ByteArray), c.size = 1 ∧ ¬ (9223372036854775807 < s.size + c.size) ∧ (b : Int).tmod 6 = (b : Int) % 6 ∧ IntKind.i64.wrap (97 + (b : Int) % 6) = 97 + (b : Int) % 6 ∧ IntKind.u8.wrap (97 + (b : Int) % 6) = 97 + (b : Int) % 6 ∧
  (convert 22 9 (.slice (some ⟨w2.heap.size, 0, none⟩) 1 1)).run Tryz.prog (w2.alloc (.cells #[.int .u8 (97 + (b : Int) % 6)] 5)) = .ok (.string c) (w2.alloc (.cells #[.int .u8 (97 + (b : Int) % 6)] 5)) ∧
  w2.heap[X]? = some (.cells (bZ 0 0 0 0 s) 35 (0, 0)) ∧ w2.cell? ⟨X, 4, none⟩ = some (.string s) ∧ (∀ o, (w2.alloc o).cell? ⟨X, 4, none⟩ = some (.string s)) ∧ ∀ o, (w2.alloc o).frozen? ⟨X, 4, none⟩ = false := by
 obtain ⟨c, hc⟩ := letter b
 have hrow2 := (hf.block X (aH hrow) hp).trans hrow
 refine ⟨aV [c], dO [c], by rw [dO]; simp; omega, Int.tmod_eq_emod_of_nonneg (by omega), by rw [IntKind.wrap_i64]; omega, by rw [IntKind.wrap_u8']; omega, oW w2 _ c hc, hrow2, by rw [cell_of_row _ _ _ _ _ _ hrow2]; rfl, fun o => ?_, fun o => ?_⟩
 · rw [World.cell?_alloc_lt _ _ _ (aH hrow2), cell_of_row _ _ _ _ _ _ hrow2]; rfl
 · rw [World.frozen?_alloc_old _ _ _ (Nat.ne_of_lt (aH hrow2))]; exact frozen_of_row _ _ _ _ _ hrow2
theorem rV {w : World} {X : Nat} {r0 r1 r2 r3 : Int} {s : ByteArray} (h : w.heap[X]? = some (.cells (bZ r0 r1 r2 r3 s) 35 (0, 0))) (x : ByteArray) : (w.setCell ⟨X, 4, none⟩ (.string x)).heap[X]? = some (.cells (bZ r0 r1 r2 r3 x) 35 (0, 0)) := by
 simp [World.setCell, Array.getElem?_modify, h, bZ]
structure lU (w W : World) (a : Array Value) : Prop where
 box : W.heap[w.heap.size]? = some (.cells a 29 (0, 0))
 fr : Fr (fun _ => False) w W
 size : W.heap.size = w.heap.size + 3
 res : W.heap[w.heap.size + 1]? = some (.cells (bZ 0 0 0 0 ⟨#[]⟩) 35 (0, 0))
 row : W.heap[w.heap.size + 1 + 1]? = some (.cells (bZ 0 0 0 0 ⟨#[]⟩) 35 (0, 0))
theorem lU.of (w : World) (a : Array Value) : lU w (((w.alloc (.cells a 29)).alloc (.cells (bZ 0 0 0 0 ⟨#[]⟩) 35)).alloc (.cells (bZ 0 0 0 0 ⟨#[]⟩) 35)) a where
 box := by rw [Below.heap_alloc _ _ _ (by simp; omega), Below.heap_alloc _ _ _ (by simp)]; exact heap_alloc_new w _
 fr := (((Fr.refl _ w).alloc _).alloc _).alloc _
 size := by simp
 res := by rw [Below.heap_alloc _ _ _ (by simp)]; exact fZ (by simp)
 row := fZ (by simp)
theorem aBe {w W wr : World} {a : Array Value} (hW : lU w W a) {p : Nat} (hpw : p < w.heap.size) (hfr : Fr (fun q => q = p ∨ q = w.heap.size + 1 + 1) W wr) : wr.heap[w.heap.size + 1]? = some (.cells (bZ 0 0 0 0 ⟨#[]⟩) 35 (0, 0)) :=
 (hfr.block _ (by rw [hW.size]; omega) (by show ¬ (w.heap.size + 1 = p ∨ w.heap.size + 1 = w.heap.size + 1 + 1); omega)).trans hW.res
end Go.Proofs.YtcidlnjpabgioaaGreatDoor
namespace Go.Proofs.YtcidlnjpabgioaaGreatDoor
open Go.RowKit
def qE : Cell := .mk 0 0 0 0 ⟨#[]⟩ true [] []
theorem aAu {w wr : World} (S : Nat → Prop) (hS : S (w.heap.size + 1)) (a b c d e f g h : Value) : Fr S wr ((((((((wr.setCell ⟨w.heap.size + 1, 0, none⟩ a).setCell ⟨w.heap.size + 1, 1, none⟩ b).setCell ⟨w.heap.size + 1, 2, none⟩ c).setCell ⟨w.heap.size + 1, 3, none⟩ d).setCell ⟨w.heap.size + 1, 4, none⟩ e).setCell ⟨w.heap.size + 1, 5, none⟩ f).setCell ⟨w.heap.size + 1, 6, none⟩ g).setCell ⟨w.heap.size + 1, 7, none⟩ h) :=
 ((((((((Fr.refl S wr).setCell (.inl hS) _).setCell (.inl hS) _).setCell (.inl hS) _).setCell (.inl hS) _).setCell (.inl hS) _).setCell (.inl hS) _).setCell (.inl hS) _).setCell (.inl hS) _
theorem xK {w wr : World} {S : Nat → Prop} (hf : Fr S w wr) (a b c d e f g h : Value) : Fr S w ((((((((wr.setCell ⟨w.heap.size + 1, 0, none⟩ a).setCell ⟨w.heap.size + 1, 1, none⟩ b).setCell ⟨w.heap.size + 1, 2, none⟩ c).setCell ⟨w.heap.size + 1, 3, none⟩ d).setCell ⟨w.heap.size + 1, 4, none⟩ e).setCell ⟨w.heap.size + 1, 5, none⟩ f).setCell ⟨w.heap.size + 1, 6, none⟩ g).setCell ⟨w.heap.size + 1, 7, none⟩ h) :=
 ((((((((hf).setCell (.inr (by show w.heap.size ≤ w.heap.size + 1; omega)) _).setCell (.inr (by show w.heap.size ≤ w.heap.size + 1; omega)) _).setCell (.inr (by show w.heap.size ≤ w.heap.size + 1; omega)) _).setCell (.inr (by show w.heap.size ≤ w.heap.size + 1; omega)) _).setCell (.inr (by show w.heap.size ≤ w.heap.size + 1; omega)) _).setCell (.inr (by show w.heap.size ≤ w.heap.size + 1; omega)) _).setCell (.inr (by show w.heap.size ≤ w.heap.size + 1; omega)) _).setCell (.inr (by show w.heap.size ≤ w.heap.size + 1; omega)) _
structure pJ (w wr : World) : Prop where
 g0 : wr.cell? ⟨w.heap.size + 1, 0, none⟩ = some (.int .u64 0)
 g1 : wr.cell? ⟨w.heap.size + 1, 1, none⟩ = some (.int .u64 0)
 g2 : wr.cell? ⟨w.heap.size + 1, 2, none⟩ = some (.int .u64 0)
 g3 : wr.cell? ⟨w.heap.size + 1, 3, none⟩ = some (.int .u64 0)
 g4 : wr.cell? ⟨w.heap.size + 1, 4, none⟩ = some (.string ⟨#[]⟩)
 g5 : wr.cell? ⟨w.heap.size + 1, 5, none⟩ = some (.bool false)
 g6 : wr.cell? ⟨w.heap.size + 1, 6, none⟩ = some (.slice none 0 0)
 g7 : wr.cell? ⟨w.heap.size + 1, 7, none⟩ = some (.slice none 0 0)
 z0 : wr.frozen? ⟨w.heap.size + 1, 0, none⟩ = false
 z1 : wr.frozen? ⟨w.heap.size + 1, 1, none⟩ = false
 z2 : wr.frozen? ⟨w.heap.size + 1, 2, none⟩ = false
 z3 : wr.frozen? ⟨w.heap.size + 1, 3, none⟩ = false
 z4 : wr.frozen? ⟨w.heap.size + 1, 4, none⟩ = false
 z5 : wr.frozen? ⟨w.heap.size + 1, 5, none⟩ = false
 z6 : wr.frozen? ⟨w.heap.size + 1, 6, none⟩ = false
 z7 : wr.frozen? ⟨w.heap.size + 1, 7, none⟩ = false
theorem pJ.of {w wr : World} (hres : wr.heap[w.heap.size + 1]? = some (.cells (bZ 0 0 0 0 ⟨#[]⟩) 35 (0, 0))) : pJ w wr where
 g0 := by rw [cell_of_row _ _ _ _ _ _ hres]; rfl
 g1 := by rw [cell_of_row _ _ _ _ _ _ hres]; rfl
 g2 := by rw [cell_of_row _ _ _ _ _ _ hres]; rfl
 g3 := by rw [cell_of_row _ _ _ _ _ _ hres]; rfl
 g4 := by rw [cell_of_row _ _ _ _ _ _ hres]; rfl
 g5 := by rw [cell_of_row _ _ _ _ _ _ hres]; rfl
 g6 := by rw [cell_of_row _ _ _ _ _ _ hres]; rfl
 g7 := by rw [cell_of_row _ _ _ _ _ _ hres]; rfl
 z0 := frozen_of_row _ _ _ _ _ hres
 z1 := frozen_of_row _ _ _ _ _ hres
 z2 := frozen_of_row _ _ _ _ _ hres
 z3 := frozen_of_row _ _ _ _ _ hres
 z4 := frozen_of_row _ _ _ _ _ hres
 z5 := frozen_of_row _ _ _ _ _ hres
 z6 := frozen_of_row _ _ _ _ _ hres
 z7 := frozen_of_row _ _ _ _ _ hres
theorem aJz (T : Ty) (hT : jY T) (B : Nat) (w : World) (p : Nat) (h : bM B w p) (hpw : p < w.heap.size) (q o c : Nat) (hq : q ≠ p) (hc : 1 ≤ c ∧ c ≤ 9223372036854775807) (hcells : ∀ j u, T.cells3[j]? = some u → w.cell? ⟨q, o + j, none⟩ = some u) :
 Calls Tryz.prog 9 #[.pointer (some ⟨p, 0, none⟩), .agg #[.string (aV [78, 117, 108, 108, 97, 98, 108, 101]), .int .i64 (0 : Nat), .slice (some ⟨q, o, none⟩) 1 c]] w fun e w' =>
  ∃ x, (x = qE ∨ Flat T x) ∧ e = .returned (.agg x.gZ.toArray) ∧ bM B w' p ∧ Fr (fun k => k = p) w w' := by
 have hnm : (aV [78, 117, 108, 108, 97, 98, 108, 101]).toList = [78, 117, 108, 108, 97, 98, 108, 101] := bY _
 have hBp := h.1
 have k0 := hcells 0 _ rfl
 have k1 := hcells 1 _ rfl
 have k2 := hcells 2 _ rfl
 simp only [Nat.add_zero] at k0
 obtain ⟨hc1, hc2⟩ := hc
 generalize aV [78, 117, 108, 108, 97, 98, 108, 101] = nm at hnm
 go_enter Tryz.func9, Tryz.ntmps9
 go_wp2_with fail
 have hW := lU.of w #[.string nm, .int .i64 0, .slice (some ⟨q, o, none⟩) 1 c]
 unfold bZ at hW
 generalize ((w.alloc _).alloc _).alloc _ = W at hW ⊢
 have hcW : bM B W p := h.fr hW.fr (fun h => h) (fun _ _ h => h)
 have hpW : p < W.heap.size := by rw [hW.size]; omega
 have hbox : W.cell? ⟨w.heap.size, 2, none⟩ = some (.slice (some ⟨q, o, none⟩) 1 c) := by rw [cell_of_row _ _ _ _ _ _ hW.box]; rfl
 have hTl : ∀ W', bM B W' p → p < W'.heap.size → Calls Tryz.prog 9 #[.pointer (some ⟨p, 0, none⟩), .agg #[.string (aV T.nm), .int .i64 T.sz, .slice none 0 0]] W' fun e w' => ∃ c, Flat T c ∧ e = .returned (.agg c.gZ.toArray) ∧ bM B w' p ∧ Fr (fun q => q = p) W' w' := fun W' h1 h2 => hT B W' p h1 h2
 have kW0 := hW.fr.aA k0 (fun h => h)
 have kW1 := hW.fr.aA k1 (fun h => h)
 have kW2 := hW.fr.aA k2 (fun h => h)
 have hres : ∀ w', Fr (fun k => k = p) W w' → pJ w w' := fun w' hf => pJ.of ((hf.block _ (by rw [hW.size]; omega) (by show ¬ w.heap.size + 1 = p; omega)).trans hW.res)
 have hres' := Lib.hid hres
 have hcells' := Lib.hid hcells
 clear hcells hT hres k0 k1 k2
 go_wp2_with (first
  | (go_at_call 20; refine (fH B _ p hcW).mono ?_; rintro e w1 ⟨b0, hb0, rfl, hco1, hf1⟩; have l0 := hf1.aA kW0 hq; have l1 := hf1.aA kW1 hq; have l2 := hf1.aA kW2 hq; have hbox1 := hf1.aA hbox (by show ¬ w.heap.size = p; omega); obtain ⟨g0, g1, g2, g3, g4, g5, g6, g7, z0, z1, z2, z3, z4, z5, z6, z7⟩ := hres'.out w1 hf1)
  | (go_at_call 9; refine (hTl _ hco1 (Nat.lt_of_lt_of_le hpW hf1.size)).mono ?_; rintro e w2 ⟨x, hx, rfl, hco2, hf2⟩; have hf12 : Fr (fun k => k = p) W w2 := hf1.trans hf2 (fun _ _ h => h); clear g0 z0 g1 z1 g2 z2 g3 z3 g4 z4 g5 z5 g6 z6 g7 z7; obtain ⟨g0, g1, g2, g3, g4, g5, g6, g7, z0, z1, z2, z3, z4, z5, z6, z7⟩ := hres'.out w2 hf12; unfold Cell.gZ))
 · refine bodyPost_ret (by simp [results, Tryz.results9, go_sem, g0, g1, g2, g3, g4, g5, g6, g7]; try rfl) rfl ?_
   have hwf : Fr (fun k => k = p) w w1 := (hW.fr.mono (S' := fun k => k = p) (fun _ _ h => h.elim)).trans hf1 (fun _ _ h => h)
   exact ⟨qE, .inl rfl, rfl, hco1.fr (aAu (w := w) (wr := w1) (fun k => k = w.heap.size + 1) rfl _ _ _ _ _ _ _ _) (by show ¬ p = w.heap.size + 1; omega) (fun k hk => by show ¬ k = w.heap.size + 1; omega), xK hwf _ _ _ _ _ _ _ _⟩
 · refine bodyPost_ret (by simp [results, Tryz.results9, go_sem, g0, g1, g2, g3, g4, g5, g6, g7]; try rfl) rfl ?_
   have hwf : Fr (fun k => k = p) w w2 := (hW.fr.mono (S' := fun k => k = p) (fun _ _ h => h.elim)).trans hf12 (fun _ _ h => h)
   exact ⟨x, .inr hx, rfl, hco2.fr (aAu (w := w) (wr := w2) (fun k => k = w.heap.size + 1) rfl _ _ _ _ _ _ _ _) (by show ¬ p = w.heap.size + 1; omega) (fun k hk => by show ¬ k = w.heap.size + 1; omega), xK hwf _ _ _ _ _ _ _ _⟩
end Go.Proofs.YtcidlnjpabgioaaGreatDoor
namespace Go.Proofs.YtcidlnjpabgioaaGreatDoor
open Go.RowKit
structure Two (lo : Nat) (w : World) (e : TypeId) (size : Nat) (rv vv : Value) (n : Nat) (xs ys : List Value) : Prop where
 a : w.ownsRow 0 e size rv n xs
 b : w.ownsRow 0 e size vv n ys
 la : ∀ k, rv.ownBlock = some k → lo ≤ k
 lb : ∀ k, vv.ownBlock = some k → lo ≤ k
 ne : ∀ k, rv.ownBlock = some k → vv.ownBlock ≠ some k
theorem Two.fr {lo : Nat} {w w' : World} {e : TypeId} {size : Nat} {rv vv : Value} {n : Nat} {xs ys : List Value} {S : Nat → Prop} (h : Two lo w e size rv vv n xs ys) (hf : Fr S w w') (hS : ∀ k, lo ≤ k → ¬ S k) : Two lo w' e size rv vv n xs ys :=
 ⟨hf.owns h.a (fun k hk => hS k (h.la k hk)), hf.owns h.b (fun k hk => hS k (h.lb k hk)), h.la, h.lb, h.ne⟩
section
variable {lo : Nat} {w0 u1 u2 u3 u4 : World} {e : TypeId} {size : Nat} {rv vv rv' vv' : Value} {n m : Nat} {xs ys xs' ys' : List Value}
theorem Two.first (h0 : Two lo w0 e size rv vv n xs ys) (f1 : Fr (fun _ => False) w0 u1) : u1.ownsRow 0 e size rv n xs := f1.owns h0.a (fun _ _ h => h)
theorem Two.done (hlo : lo ≤ w0.heap.size) (h0 : Two lo w0 e size rv vv n xs ys) (f1 : Fr (fun _ => False) w0 u1) (ha : dA u1 u2 e size rv rv' m xs') (f2 : Fr (fun _ => False) u2 u3) (hb : dA u3 u4 e size vv vv' m ys') :
 Two lo u4 e size rv' vv' m xs' ys' ∧ Fr (fun k => rv.ownBlock = some k ∨ vv.ownBlock = some k) w0 u4 := by
 have s1 := f1.size
 have s2 := ha.2.1.size
 have s3 := f2.size
 have hra : ∀ k, rv'.ownBlock = some k → rv.ownBlock = some k ∨ k = u1.heap.size := fun k hk => by
  rcases ha.2.2 with h | h
  · exact .inl (by rw [← h]; exact hk)
  · rw [h] at hk; simp only [Option.some.injEq] at hk; exact .inr hk.symm
 have hvb : ∀ k, vv'.ownBlock = some k → vv.ownBlock = some k ∨ k = u3.heap.size := fun k hk => by
  rcases hb.2.2 with h | h
  · exact .inl (by rw [← h]; exact hk)
  · rw [h] at hk; simp only [Option.some.injEq] at hk; exact .inr hk.symm
 have hrl : ∀ k, rv.ownBlock = some k → k < w0.heap.size := fun k hk => aK h0.a hk
 have hvl : ∀ k, vv.ownBlock = some k → k < w0.heap.size := fun k hk => aK h0.b hk
 have hr'l : ∀ k, rv'.ownBlock = some k → k < u2.heap.size := fun k hk => aK ha.1 hk
 refine ⟨⟨(Fr.iU hb.2.1).owns (f2.owns ha.1 (fun _ _ h => h)) (fun k hk h => ?_), hb.1, fun k hk => ?_, fun k hk => ?_, fun k hk h => ?_⟩, ?_⟩
 · rcases hra k hk with h1 | h1
   · exact h0.ne k h1 h
   · have := hvl k h; omega
 · rcases hra k hk with h1 | h1
   · exact h0.la k h1
   · omega
 · rcases hvb k hk with h1 | h1
   · exact h0.lb k h1
   · omega
 · rcases hra k hk with h1 | h1 <;> rcases hvb k h with h2 | h2
   · exact h0.ne k h1 h2
   · have := hrl k h1; omega
   · have := hvl k h2; omega
   · have := hr'l k hk; omega
 · exact (((f1.mono (fun _ _ h => h.elim)).grown ha.2.1 (fun k hk => .inl (.inl hk))).trans (f2.mono (fun _ _ h => h.elim)) (fun _ _ h => h)).grown hb.2.1 (fun k hk => .inl (.inr hk))
def aX (w : World) (k : Nat) (xs : List Value) : Prop := ∀ j u, xs[j]? = some u → w.cell? ((⟨k, 0, none⟩ : Addr).add j) = some u
theorem aX.fr {w w' : World} {k : Nat} {xs : List Value} {S : Nat → Prop} (h : aX w k xs) (hf : Fr S w w') (hk : ¬ S k) : aX w' k xs := fun j u hj => hf.aA (h j u hj) (by rw [Addr.add_lit]; exact hk)
theorem aX.new {w : World} {k : Nat} (xs : List Value) (t : TypeId) (hk : k = w.heap.size) : aX (w.alloc (.cells xs.toArray t)) k xs := by
 subst hk
 exact aW w xs t
theorem aX.drew {w : World} {k : Nat} {xs : List Value} (h : aX w k xs) : aX w.drew k xs := h
theorem aX.eight {w : World} {k : Nat} {a b c d e f g h : Value} (hc : aX w k [a, b, c, d, e, f, g, h]) : w.cell? ⟨k, 0, none⟩ = some a ∧ w.cell? ⟨k, 1, none⟩ = some b ∧ w.cell? ⟨k, 2, none⟩ = some c ∧ w.cell? ⟨k, 3, none⟩ = some d ∧ w.cell? ⟨k, 4, none⟩ = some e ∧ w.cell? ⟨k, 5, none⟩ = some f ∧ w.cell? ⟨k, 6, none⟩ = some g ∧ w.cell? ⟨k, 7, none⟩ = some h := by
 have H := fun j u hj => (congrArg w.cell? (Addr.add_lit k 0 j)).symm.trans (hc j u hj)
 simp only [Nat.zero_add] at H
 exact ⟨H 0 _ rfl, H 1 _ rfl, H 2 _ rfl, H 3 _ rfl, H 4 _ rfl, H 5 _ rfl, H 6 _ rfl, H 7 _ rfl⟩
theorem aX.of_block {w : World} {k : Nat} {xs : List Value} {t : TypeId} {p : Nat × Nat} (h : w.heap[k]? = some (.cells xs.toArray t p)) : aX w k xs := fun j u hj => by
 rw [Addr.add_lit, cell_of_row _ _ _ _ _ _ h]
 simpa using hj
end
end Go.Proofs.YtcidlnjpabgioaaGreatDoor
