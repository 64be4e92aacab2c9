import Derived.Test.YtcidlnjpabgioaaGreatDoorWGBase
import Derived.Test.YtcidlnjpabgioaaGreatDoorWGTree
import Derived.Test.YtcidlnjpabgioaaGreatDoorWGByte
import Derived.BigQuiet
import Derived.Lib.EndianBits
set_option maxHeartbeats 4000000
set_option maxRecDepth 100000
namespace Go.Proofs.YtcidlnjpabgioaaGreatDoor
open Go.RowKit
theorem aAi (T : Ty) (hT : nC T) (hTr : fV T) (w : World) (htab : Tabs w) (vs : List Value) (hvs : iI w.heap.size w T.lt vs) (htl : (text T).length ≤ 900000) (hsl : (st T).length ≤ 2147483648)
 (σ : List Cell) (rv : Value) (xs : List Value) (hs : Sl w.heap.size w 8 rv σ.length xs) (hc : aC w.heap.size w σ xs) (hw : Wt T σ ≤ 2147483648) (hl : (enc T σ).length ≤ 1099511627776) :
 Calls Tryz.prog 12 #[.agg vs.toArray, rv] w fun e w' => e = .returned (.tuple #[.string (aV (st T)), .string (aV (enc T σ)), .bool true]) ∧ Fr (fun _ => False) w w' := by
 obtain ⟨a, c, ixs, rfl, -, -⟩ := hvs.open
 have htx := fun W' (hb : Below w.heap.size w W') => hT w.heap.size W' _ (iI.below hb _ _ hvs) hb.size htl
 have hce := fun W' (hb : Below w.heap.size w W') => tC T (st T) (aV (text T)) W' (fun W2 hb2 => hTr W2 ((htab.below hb).below hb2)) σ rv xs ((hs.below hb).mono hb.size) (aC.mono hb.size _ _ (aC.below hb _ _ hc)) hsl hw hl
 generalize aV (text T) = tx at htx hce
 clear hs hc
 go_enter Tryz.func12, Tryz.ntmps12
 go_wp2_with (first
  | (go_at_call 11; refine (htx _ ((Below.refl _ w).alloc (Nat.le_refl _) _)).mono ?_; rintro e w1 ⟨rfl, hf1⟩; have hb1 : Below w.heap.size w w1 := ((Fr.refl (fun _ => False) w).alloc _).trans hf1 (fun _ _ h => h) |>.below (Nat.le_refl _) (fun _ _ h => h))
  | (go_at_call 10; refine (hce _ hb1).mono ?_; rintro e w2 ⟨v1, v2, rfl, hv1, hv2, hb2⟩; have hx1 := jR (Bytes.below hv1 ((Below.refl _ w2).drew)); have hx2 := jR (Bytes.below hv2 ((Below.refl _ w2).drew))))
 go_region
 all_goals
  go_wp2
  go_ret3
  exact ⟨rfl, (Below.fr hb1).trans (Below.fr hb2) (fun _ _ h => h) |>.drew⟩
end Go.Proofs.YtcidlnjpabgioaaGreatDoor
namespace Go.Proofs.YtcidlnjpabgioaaGreatDoor
open Go.RowKit
def aJk (w : World) (X : Nat) : Nat := match w.cell? ⟨X, 4, none⟩ with
 | some (.string s) => s.size
 | _ => 0
theorem aAo {w : World} {X : Nat} {r0 r1 r2 r3 : Int} {s : ByteArray} (h : w.heap[X]? = some (.cells (bZ r0 r1 r2 r3 s) 35 (0, 0))) : aJk w X = s.size := by
 have : w.cell? ⟨X, 4, none⟩ = some (.string s) := by rw [cell_of_row _ _ _ _ _ _ h]; rfl
 unfold aJk
 rw [this]
theorem aGJ {wr w2 : World} {p X b : Nat} {s : ByteArray} (hp : X ≠ p) (hrow : wr.heap[X]? = some (.cells (bZ 0 0 0 0 s) 35 (0, 0))) (hf : Fr (fun q => q = p) wr w2) (hb : b < 256) (hs : s.size ≤ 1000) :
 ∃ (c : ByteArray), c.size = 1 ∧ ¬ (9223372036854775807 < s.size + c.size) ∧ IntKind.u8.wrap (b : Int) = (b : Int) ∧
  (convert 22 9 (.slice (some ⟨w2.heap.size, 0, none⟩) 1 1)).run Tryz.prog (w2.alloc (.cells #[.int .u8 (b : Int)] 5)) = .ok (.string c) (w2.alloc (.cells #[.int .u8 (b : Int)] 5)) ∧
  w2.heap[X]? = some (.cells (bZ 0 0 0 0 s) 35 (0, 0)) ∧ w2.cell? ⟨X, 4, none⟩ = some (.string s) ∧ (∀ o, (w2.alloc o).cell? ⟨X, 4, none⟩ = some (.string s)) ∧ ∀ o, (w2.alloc o).frozen? ⟨X, 4, none⟩ = false := by
 have hrow2 := (hf.block X (aH hrow) hp).trans hrow
 refine ⟨aV [b.toUInt8], dO _, by rw [dO]; simp; omega, by rw [IntKind.wrap_u8']; omega, oW w2 _ b.toUInt8 (by simp [Nat.toUInt8, UInt8.toNat_ofNat']; omega), hrow2, by rw [cell_of_row _ _ _ _ _ _ hrow2]; rfl, fun o => ?_, fun o => ?_⟩
 · rw [World.cell?_alloc_lt _ _ _ (aH hrow2), cell_of_row _ _ _ _ _ _ hrow2]; rfl
 · rw [World.frozen?_alloc_old _ _ _ (Nat.ne_of_lt (aH hrow2))]; exact frozen_of_row _ _ _ _ _ hrow2
theorem aHL (n : Nat) (hn : n ≤ 1000) : jY (.fix n) := by
 intro B w p h hpw
 have hnm : (aV (Ty.fix n).nm).toList = [70, 105, 120, 101, 100, 83, 116, 114, 105, 110, 103] := bY _
 have hBp := h.1
 show Calls _ _ #[_, .agg #[.string (aV (Ty.fix n).nm), .int .i64 n, .slice none 0 0]] _ _
 generalize aV (Ty.fix n).nm = nm at hnm
 go_enter Tryz.func9, Tryz.ntmps9
 go_wp2_with fail
 have hW := lU.of w #[.string nm, .int .i64 n, .slice none 0 0]
 unfold bZ at hW
 generalize ((w.alloc _).alloc _).alloc _ = W at hW ⊢
 have hcW : bM B W p := h.fr hW.fr (fun h => h) (fun _ _ h => h)
 have hpW : p < W.heap.size := by rw [hW.size]; omega
 have hrowW := hW.row
 have hbox1 : W.cell? ⟨w.heap.size, 1, none⟩ = some (.int .i64 n) := by rw [cell_of_row _ _ _ _ _ _ hW.box]; rfl
 go_wp2_with fail
 go_loopw [167] (fun _ wr => ∃ (s : ByteArray), s.size ≤ n ∧ wr.heap[w.heap.size + 1 + 1]? = some (.cells (bZ 0 0 0 0 s) 35 (0, 0)) ∧ bM B wr p ∧ Fr (fun q => q = p ∨ q = w.heap.size + 1 + 1) W wr) (fun _ wr => n - aJk wr (w.heap.size + 1 + 1))
 case atStart => exact ⟨⟨#[]⟩, Nat.zero_le _, hrowW, hcW, Fr.refl _ _⟩
 case round =>
  obtain ⟨s, hk, hrow, hcode, hfr⟩ := hrel
  have hX4 : wr.cell? ⟨w.heap.size + 1 + 1, 4, none⟩ = some (.string s) := by rw [cell_of_row _ _ _ _ _ _ hrow]; rfl
  have hZ4 := frozen_of_row wr (w.heap.size + 1 + 1) 4 _ _ hrow
  have hb1 := hfr.aA hbox1 (by show ¬ (w.heap.size = p ∨ w.heap.size = w.heap.size + 1 + 1); omega)
  by_cases hlt : s.size < n
  · have hlt' : (s.size : Int) < n := by omega
    have hcD : bM B wr.drew p := hcode.fr ((Fr.refl (fun _ => False) wr).drew) (fun h => h) (fun _ _ h => h)
    have hss : s.size ≤ 1000 := by omega
    have hne : w.heap.size + 1 + 1 ≠ p := by omega
    go_wp2_with fail
    go_region_with (first
     | (go_at_call 20; refine (fH B _ p hcD).mono ?_; rintro e w2 ⟨b, hb, rfl, hc2, hf2⟩; obtain ⟨c, hcs, hsum, q3, hB, hrow2, hX2, hZ2⟩ := aGJ hne hrow hf2.aG hb hss))
    all_goals
     go_wp2
     go_roundw
     case rel =>
      have hrow3 := (Below.heap_alloc w2 (.cells #[.int .u8 (b : Int)] 5) _ (aH hrow2)).trans hrow2
      have hfr3 : Fr (fun q => q = p ∨ q = w.heap.size + 1 + 1) W w2 := hfr.trans (hf2.aG) (fun _ _ h => .inl h)
      refine ⟨s ++ c, by rw [ByteArray.size_append]; omega, rV hrow3 _, hc2.fr (((Fr.refl (fun q => q = w.heap.size + 1 + 1) w2).alloc _).setCell (.inl rfl) _) (by show ¬ p = w.heap.size + 1 + 1; omega) (fun q hq => by show ¬ q = w.heap.size + 1 + 1; omega), (hfr3.alloc _).setCell (.inl (.inr rfl)) _⟩
     case measure =>
      have hrow3 := (Below.heap_alloc w2 (.cells #[.int .u8 (b : Int)] 5) _ (aH hrow2)).trans hrow2
      rw [aAo hrow, aAo (rV hrow3 _), ByteArray.size_append]
      omega
  · have hk0 : ¬ (s.size : Int) < n := by omega
    have hres := aBe hW hpw hfr
    have x0 : wr.cell? ⟨w.heap.size + 1 + 1, 0, none⟩ = some (.int .u64 0) := by rw [cell_of_row _ _ _ _ _ _ hrow]; rfl
    have x1 : wr.cell? ⟨w.heap.size + 1 + 1, 1, none⟩ = some (.int .u64 0) := by rw [cell_of_row _ _ _ _ _ _ hrow]; rfl
    have x2 : wr.cell? ⟨w.heap.size + 1 + 1, 2, none⟩ = some (.int .u64 0) := by rw [cell_of_row _ _ _ _ _ _ hrow]; rfl
    have x3 : wr.cell? ⟨w.heap.size + 1 + 1, 3, none⟩ = some (.int .u64 0) := by rw [cell_of_row _ _ _ _ _ _ hrow]; rfl
    have x4 : wr.cell? ⟨w.heap.size + 1 + 1, 4, none⟩ = some (.string s) := by rw [cell_of_row _ _ _ _ _ _ hrow]; rfl
    have x5 : wr.cell? ⟨w.heap.size + 1 + 1, 5, none⟩ = some (.bool false) := by rw [cell_of_row _ _ _ _ _ _ hrow]; rfl
    have x6 : wr.cell? ⟨w.heap.size + 1 + 1, 6, none⟩ = some (.slice none 0 0) := by rw [cell_of_row _ _ _ _ _ _ hrow]; rfl
    have x7 : wr.cell? ⟨w.heap.size + 1 + 1, 7, none⟩ = some (.slice none 0 0) := by rw [cell_of_row _ _ _ _ _ _ hrow]; rfl
    have r0 : wr.cell? ⟨w.heap.size + 1, 0, none⟩ = some (.int .u64 0) := by rw [cell_of_row _ _ _ _ _ _ hres]; rfl
    have r1 : wr.cell? ⟨w.heap.size + 1, 1, none⟩ = some (.int .u64 0) := by rw [cell_of_row _ _ _ _ _ _ hres]; rfl
    have r2 : wr.cell? ⟨w.heap.size + 1, 2, none⟩ = some (.int .u64 0) := by rw [cell_of_row _ _ _ _ _ _ hres]; rfl
    have r3 : wr.cell? ⟨w.heap.size + 1, 3, none⟩ = some (.int .u64 0) := by rw [cell_of_row _ _ _ _ _ _ hres]; rfl
    have r4 : wr.cell? ⟨w.heap.size + 1, 4, none⟩ = some (.string ⟨#[]⟩) := by rw [cell_of_row _ _ _ _ _ _ hres]; rfl
    have r5 : wr.cell? ⟨w.heap.size + 1, 5, none⟩ = some (.bool false) := by rw [cell_of_row _ _ _ _ _ _ hres]; rfl
    have r6 : wr.cell? ⟨w.heap.size + 1, 6, none⟩ = some (.slice none 0 0) := by rw [cell_of_row _ _ _ _ _ _ hres]; rfl
    have r7 : wr.cell? ⟨w.heap.size + 1, 7, none⟩ = some (.slice none 0 0) := by rw [cell_of_row _ _ _ _ _ _ hres]; rfl
    have z0 : wr.frozen? ⟨w.heap.size + 1, 0, none⟩ = false := frozen_of_row _ _ _ _ _ hres
    have z1 : wr.frozen? ⟨w.heap.size + 1, 1, none⟩ = false := frozen_of_row _ _ _ _ _ hres
    have z2 : wr.frozen? ⟨w.heap.size + 1, 2, none⟩ = false := frozen_of_row _ _ _ _ _ hres
    have z3 : wr.frozen? ⟨w.heap.size + 1, 3, none⟩ = false := frozen_of_row _ _ _ _ _ hres
    have z4 : wr.frozen? ⟨w.heap.size + 1, 4, none⟩ = false := frozen_of_row _ _ _ _ _ hres
    have z5 : wr.frozen? ⟨w.heap.size + 1, 5, none⟩ = false := frozen_of_row _ _ _ _ _ hres
    have z6 : wr.frozen? ⟨w.heap.size + 1, 6, none⟩ = false := frozen_of_row _ _ _ _ _ hres
    have z7 : wr.frozen? ⟨w.heap.size + 1, 7, none⟩ = false := frozen_of_row _ _ _ _ _ hres
    clear hX4 hZ4
    go_wp2
    refine bodyPost_ret (by simp [results, Tryz.results9, go_sem, r0, r1, r2, r3, r4, r5, r6, r7]; try rfl) rfl ?_
    have h8 := fun (a b c d e f g h : Value) => ((((((((Fr.refl (fun q => q = w.heap.size + 1) wr).setCell (p := ⟨w.heap.size + 1, 0, none⟩) (.inl rfl) a).setCell (p := ⟨w.heap.size + 1, 1, none⟩) (.inl rfl) b).setCell (p := ⟨w.heap.size + 1, 2, none⟩) (.inl rfl) c).setCell (p := ⟨w.heap.size + 1, 3, none⟩) (.inl rfl) d).setCell (p := ⟨w.heap.size + 1, 4, none⟩) (.inl rfl) e).setCell (p := ⟨w.heap.size + 1, 5, none⟩) (.inl rfl) f).setCell (p := ⟨w.heap.size + 1, 6, none⟩) (.inl rfl) g).setCell (p := ⟨w.heap.size + 1, 7, none⟩) (.inl rfl) h
    have h9 : ∀ (a b c d e f g h : Value), Fr (fun q => q = p) w _ := fun (a b c d e f g h : Value) => (((((((((hW.fr.mono (S' := fun q => q = p) (fun _ _ h => h.elim)).trans hfr (fun q hq h => h.resolve_right (by omega))).setCell (p := ⟨w.heap.size + 1, 0, none⟩) (.inr (by show w.heap.size ≤ w.heap.size + 1; omega)) a).setCell (p := ⟨w.heap.size + 1, 1, none⟩) (.inr (by show w.heap.size ≤ w.heap.size + 1; omega)) b).setCell (p := ⟨w.heap.size + 1, 2, none⟩) (.inr (by show w.heap.size ≤ w.heap.size + 1; omega)) c).setCell (p := ⟨w.heap.size + 1, 3, none⟩) (.inr (by show w.heap.size ≤ w.heap.size + 1; omega)) d).setCell (p := ⟨w.heap.size + 1, 4, none⟩) (.inr (by show w.heap.size ≤ w.heap.size + 1; omega)) e).setCell (p := ⟨w.heap.size + 1, 5, none⟩) (.inr (by show w.heap.size ≤ w.heap.size + 1; omega)) f).setCell (p := ⟨w.heap.size + 1, 6, none⟩) (.inr (by show w.heap.size ≤ w.heap.size + 1; omega)) g).setCell (p := ⟨w.heap.size + 1, 7, none⟩) (.inr (by show w.heap.size ≤ w.heap.size + 1; omega)) h
    exact ⟨.mk 0 0 0 0 s false [] [], ⟨by show s.size = n; omega, rfl, rfl, rfl, rfl, rfl, rfl, rfl⟩, rfl, hcode.fr (h8 _ _ _ _ _ _ _ _) (by show ¬ p = w.heap.size + 1; omega) (fun q hq => by show ¬ q = w.heap.size + 1; omega), h9 _ _ _ _ _ _ _ _⟩
end Go.Proofs.YtcidlnjpabgioaaGreatDoor
namespace Go.Proofs.YtcidlnjpabgioaaGreatDoor
open Go.RowKit
def aAU (B : Nat) (w : World) (v : Value) (n : Nat) : Prop := ∃ a c, v = .slice a n c ∧ n ≤ c ∧ c ≤ maxLen ∧ (a = none → n = 0) ∧
 ∀ ad, a = some ad → ad.block < B ∧ ad.spot = none ∧ ∀ j, j < n → ∃ b : UInt8, w.cell? (ad.add j) = some (.int .u8 b.toNat)
theorem aIZ {w : World} {v : Value} {n : Nat} (h : aAU w.heap.size w v n) : bM w.heap.size (w.alloc (.cells #[v, .int .u64 0] 26)) w.heap.size := by
 obtain ⟨a, c, rfl, h1, h2, h3, h4⟩ := h
 refine ⟨Nat.le_refl _, a, n, c, 0, heap_alloc_new w _, by omega, by omega, h1, h2, h3, fun ad had => ?_⟩
 obtain ⟨h5, h6, h7⟩ := h4 ad had
 refine ⟨h5, h6, fun j hj => ?_⟩
 obtain ⟨b, hb⟩ := h7 j hj
 exact ⟨b, ((Fr.refl (fun _ => False) w).alloc _).aA hb (fun h => h)⟩
def aKG : Ty → Nat
 | .fix n => n
 | _ => 0
def aHS (T : Ty) : ByteArray := aV (List.replicate (aKG T) 0)
def valOf (T : Ty) (c : Cell) : Cell := if c.null then .mk 0 0 0 0 (aHS T) false [] [] else c
def aKB (c : Cell) : UInt8 := if c.null then 1 else 0
def aKM (T : Ty) (B : Nat) (W1 wr : World) (rv vv mk i : Value) : Prop := ∃ (k : Nat) (σ : List Cell), i = .int .i64 k ∧ σ.length + k ≤ 30 ∧ mk = .string (aV (σ.map aKB)) ∧ (∀ c ∈ σ, c = qE ∨ Flat T c) ∧ Two W1.heap.size wr 35 8 rv vv σ.length (σ.flatMap Cell.gZ) ((σ.map (valOf T)).flatMap Cell.gZ) ∧ bM B wr B ∧ Fr (fun q => q = B) W1 wr
theorem aKM.start {T : Ty} {B : Nat} {W1 : World} {k : Nat} {i : Value} (hi : i = .int .i64 k) (hk : k ≤ 30) (hc : bM B W1 B) : aKM T B W1 W1 (.slice none 0 0) (.slice none 0 0) (.string ⟨#[]⟩) i :=
 ⟨k, [], hi, by simpa using hk, rfl, by simp, ⟨World.ownsRow_nil _ _ _ _, World.ownsRow_nil _ _ _ _, by simp [Value.ownBlock], by simp [Value.ownBlock], by simp [Value.ownBlock]⟩, hc, Fr.refl _ _⟩
end Go.Proofs.YtcidlnjpabgioaaGreatDoor
namespace Go.Proofs.YtcidlnjpabgioaaGreatDoor
open Go.RowKit
theorem aJp : jY .str := by
 intro B w p h hpw
 have hnm : (aV Ty.str.nm).toList = [83, 116, 114, 105, 110, 103] := bY _
 have hBp := h.1
 show Calls _ _ #[_, .agg #[.string (aV Ty.str.nm), .int .i64 (0 : Nat), .slice none 0 0]] _ _
 generalize aV Ty.str.nm = nm at hnm
 go_enter Tryz.func9, Tryz.ntmps9
 go_wp2_with fail
 have hW := lU.of w #[.string nm, .int .i64 0, .slice none 0 0]
 unfold bZ at hW
 generalize ((w.alloc _).alloc _).alloc _ = W at hW ⊢
 have hcW : bM B W p := h.fr hW.fr (fun h => h) (fun _ _ h => h)
 have hpW : p < W.heap.size := by rw [hW.size]; omega
 go_wp2_with (go_at_call 20; refine (fH B _ p hcW).mono ?_; rintro e w1 ⟨b0, hb0, rfl, hc1, hf1⟩)
 have hm0 : (0 : Int) ≤ (b0 : Int) % 5 ∧ (b0 : Int) % 5 ≤ 4 := by omega
 have hrow1 : w1.heap[w.heap.size + 1 + 1]? = some (.cells (bZ 0 0 0 0 ⟨#[]⟩) 35 (0, 0)) := (hf1.block _ (by rw [hW.size]; omega) (by show ¬ w.heap.size + 1 + 1 = p; omega)).trans hW.row
 go_loopw [11] (fun m wr => ∃ (k : Nat) (s : ByteArray), m = .int .i64 k ∧ s.size + k ≤ 4 ∧ wr.heap[w.heap.size + 1 + 1]? = some (.cells (bZ 0 0 0 0 s) 35 (0, 0)) ∧ bM B wr p ∧ Fr (fun q => q = p ∨ q = w.heap.size + 1 + 1) W wr) (fun m _ => (intOf m).toNat)
 case atStart => exact ⟨b0 % 5, ⟨#[]⟩, by go_num, by show 0 + b0 % 5 ≤ 4; omega, hrow1, hc1, hf1.mono (fun _ _ h => .inl h)⟩
 case round =>
  obtain ⟨k, s, rfl, hk, hrow, hcode, hfr⟩ := hrel
  have hX4 : wr.cell? ⟨w.heap.size + 1 + 1, 4, none⟩ = some (.string s) := by rw [cell_of_row _ _ _ _ _ _ hrow]; rfl
  have hZ4 := frozen_of_row wr (w.heap.size + 1 + 1) 4 _ _ hrow
  by_cases hlt : 0 < k
  · have hlt' : (0 : Int) < k := by omega
    have hcD : bM B wr.drew p := hcode.fr ((Fr.refl (fun _ => False) wr).drew) (fun h => h) (fun _ _ h => h)
    have hss : s.size ≤ 4 := by omega
    have hne : w.heap.size + 1 + 1 ≠ p := by omega
    go_wp2_with fail
    go_region_with (first
     | (go_at_call 20; refine (fH B _ p hcD).mono ?_; rintro e w2 ⟨b, hb, rfl, hc2, hf2⟩; obtain ⟨c, hcs, hsum, q1, q2, q3, hB, hrow2, hX2, hZ2⟩ := aFy hne hrow hf2.aG hb hss))
    all_goals
     go_wp2
     go_roundw
     case rel =>
      have hrow3 := (Below.heap_alloc w2 (.cells #[.int .u8 (97 + (b : Int) % 6)] 5) _ (aH hrow2)).trans hrow2
      have hfr3 : Fr (fun q => q = p ∨ q = w.heap.size + 1 + 1) W w2 := hfr.trans (hf2.aG) (fun _ _ h => .inl h)
      refine ⟨k - 1, s ++ c, by go_num, by rw [ByteArray.size_append]; omega, rV hrow3 _, hc2.fr (((Fr.refl (fun q => q = w.heap.size + 1 + 1) w2).alloc _).setCell (.inl rfl) _) (by show ¬ p = w.heap.size + 1 + 1; omega) (fun q hq => by show ¬ q = w.heap.size + 1 + 1; omega), (hfr3.alloc _).setCell (.inl (.inr rfl)) _⟩
     case measure => simp [intOf]; omega
  · have hk0 : ¬ (0 : Int) < k := by omega
    have hres := aBe hW hpw hfr
    have x0 : wr.cell? ⟨w.heap.size + 1 + 1, 0, none⟩ = some (.int .u64 0) := by rw [cell_of_row _ _ _ _ _ _ hrow]; rfl
    have x1 : wr.cell? ⟨w.heap.size + 1 + 1, 1, none⟩ = some (.int .u64 0) := by rw [cell_of_row _ _ _ _ _ _ hrow]; rfl
    have x2 : wr.cell? ⟨w.heap.size + 1 + 1, 2, none⟩ = some (.int .u64 0) := by rw [cell_of_row _ _ _ _ _ _ hrow]; rfl
    have x3 : wr.cell? ⟨w.heap.size + 1 + 1, 3, none⟩ = some (.int .u64 0) := by rw [cell_of_row _ _ _ _ _ _ hrow]; rfl
    have x4 : wr.cell? ⟨w.heap.size + 1 + 1, 4, none⟩ = some (.string s) := by rw [cell_of_row _ _ _ _ _ _ hrow]; rfl
    have x5 : wr.cell? ⟨w.heap.size + 1 + 1, 5, none⟩ = some (.bool false) := by rw [cell_of_row _ _ _ _ _ _ hrow]; rfl
    have x6 : wr.cell? ⟨w.heap.size + 1 + 1, 6, none⟩ = some (.slice none 0 0) := by rw [cell_of_row _ _ _ _ _ _ hrow]; rfl
    have x7 : wr.cell? ⟨w.heap.size + 1 + 1, 7, none⟩ = some (.slice none 0 0) := by rw [cell_of_row _ _ _ _ _ _ hrow]; rfl
    have r0 : wr.cell? ⟨w.heap.size + 1, 0, none⟩ = some (.int .u64 0) := by rw [cell_of_row _ _ _ _ _ _ hres]; rfl
    have r1 : wr.cell? ⟨w.heap.size + 1, 1, none⟩ = some (.int .u64 0) := by rw [cell_of_row _ _ _ _ _ _ hres]; rfl
    have r2 : wr.cell? ⟨w.heap.size + 1, 2, none⟩ = some (.int .u64 0) := by rw [cell_of_row _ _ _ _ _ _ hres]; rfl
    have r3 : wr.cell? ⟨w.heap.size + 1, 3, none⟩ = some (.int .u64 0) := by rw [cell_of_row _ _ _ _ _ _ hres]; rfl
    have r4 : wr.cell? ⟨w.heap.size + 1, 4, none⟩ = some (.string ⟨#[]⟩) := by rw [cell_of_row _ _ _ _ _ _ hres]; rfl
    have r5 : wr.cell? ⟨w.heap.size + 1, 5, none⟩ = some (.bool false) := by rw [cell_of_row _ _ _ _ _ _ hres]; rfl
    have r6 : wr.cell? ⟨w.heap.size + 1, 6, none⟩ = some (.slice none 0 0) := by rw [cell_of_row _ _ _ _ _ _ hres]; rfl
    have r7 : wr.cell? ⟨w.heap.size + 1, 7, none⟩ = some (.slice none 0 0) := by rw [cell_of_row _ _ _ _ _ _ hres]; rfl
    have z0 : wr.frozen? ⟨w.heap.size + 1, 0, none⟩ = false := frozen_of_row _ _ _ _ _ hres
    have z1 : wr.frozen? ⟨w.heap.size + 1, 1, none⟩ = false := frozen_of_row _ _ _ _ _ hres
    have z2 : wr.frozen? ⟨w.heap.size + 1, 2, none⟩ = false := frozen_of_row _ _ _ _ _ hres
    have z3 : wr.frozen? ⟨w.heap.size + 1, 3, none⟩ = false := frozen_of_row _ _ _ _ _ hres
    have z4 : wr.frozen? ⟨w.heap.size + 1, 4, none⟩ = false := frozen_of_row _ _ _ _ _ hres
    have z5 : wr.frozen? ⟨w.heap.size + 1, 5, none⟩ = false := frozen_of_row _ _ _ _ _ hres
    have z6 : wr.frozen? ⟨w.heap.size + 1, 6, none⟩ = false := frozen_of_row _ _ _ _ _ hres
    have z7 : wr.frozen? ⟨w.heap.size + 1, 7, none⟩ = false := frozen_of_row _ _ _ _ _ hres
    clear hX4 hZ4
    go_wp2
    refine bodyPost_ret (by simp [results, Tryz.results9, go_sem, r0, r1, r2, r3, r4, r5, r6, r7]; try rfl) rfl ?_
    have h8 := fun (a b c d e f g h : Value) => ((((((((Fr.refl (fun q => q = w.heap.size + 1) wr).setCell (p := ⟨w.heap.size + 1, 0, none⟩) (.inl rfl) a).setCell (p := ⟨w.heap.size + 1, 1, none⟩) (.inl rfl) b).setCell (p := ⟨w.heap.size + 1, 2, none⟩) (.inl rfl) c).setCell (p := ⟨w.heap.size + 1, 3, none⟩) (.inl rfl) d).setCell (p := ⟨w.heap.size + 1, 4, none⟩) (.inl rfl) e).setCell (p := ⟨w.heap.size + 1, 5, none⟩) (.inl rfl) f).setCell (p := ⟨w.heap.size + 1, 6, none⟩) (.inl rfl) g).setCell (p := ⟨w.heap.size + 1, 7, none⟩) (.inl rfl) h
    have h9 : ∀ (a b c d e f g h : Value), Fr (fun q => q = p) w _ := fun (a b c d e f g h : Value) => (((((((((hW.fr.mono (S' := fun q => q = p) (fun _ _ h => h.elim)).trans hfr (fun q hq h => h.resolve_right (by omega))).setCell (p := ⟨w.heap.size + 1, 0, none⟩) (.inr (by show w.heap.size ≤ w.heap.size + 1; omega)) a).setCell (p := ⟨w.heap.size + 1, 1, none⟩) (.inr (by show w.heap.size ≤ w.heap.size + 1; omega)) b).setCell (p := ⟨w.heap.size + 1, 2, none⟩) (.inr (by show w.heap.size ≤ w.heap.size + 1; omega)) c).setCell (p := ⟨w.heap.size + 1, 3, none⟩) (.inr (by show w.heap.size ≤ w.heap.size + 1; omega)) d).setCell (p := ⟨w.heap.size + 1, 4, none⟩) (.inr (by show w.heap.size ≤ w.heap.size + 1; omega)) e).setCell (p := ⟨w.heap.size + 1, 5, none⟩) (.inr (by show w.heap.size ≤ w.heap.size + 1; omega)) f).setCell (p := ⟨w.heap.size + 1, 6, none⟩) (.inr (by show w.heap.size ≤ w.heap.size + 1; omega)) g).setCell (p := ⟨w.heap.size + 1, 7, none⟩) (.inr (by show w.heap.size ≤ w.heap.size + 1; omega)) h
    exact ⟨.mk 0 0 0 0 s false [] [], ⟨by show s.size ≤ 4; omega, rfl, rfl, rfl, rfl, rfl, rfl, rfl⟩, rfl, hcode.fr (h8 _ _ _ _ _ _ _ _) (by show ¬ p = w.heap.size + 1; omega) (fun q hq => by show ¬ q = w.heap.size + 1; omega), h9 _ _ _ _ _ _ _ _⟩
end Go.Proofs.YtcidlnjpabgioaaGreatDoor
namespace Go.Proofs.YtcidlnjpabgioaaGreatDoor
open Go.RowKit
def Words (k r0 r1 r2 r3 : Nat) : Prop := r0 < 256 ^ min 8 k ∧ r1 < 256 ^ min 8 (k - 8) ∧ r2 < 256 ^ min 8 (k - 16) ∧ r3 < 256 ^ min 8 (k - 24)
theorem mF (m R b : Nat) (hR : R < 256 ^ m) (hb : b < 256) : R + b * 256 ^ m < 256 ^ (m + 1) := by
 rw [Nat.pow_succ]
 have h1 : b * 256 ^ m ≤ 255 * 256 ^ m := Nat.mul_le_mul_right _ (by omega)
 omega
theorem aFe (R b k : Nat) (hR : R < 256 ^ (k % 8)) (hb : b < 256) : bits BinOp.or IntKind.u64 (R : Int) (IntKind.u64.wrap (IntKind.u64.wrap (b : Int) * 2 ^ (8 * ((k : Int) % 8)).toNat)) = ((R + b * 256 ^ (k % 8) : Nat) : Int) := by
 have e1 : (8 * ((k : Int) % 8)).toNat = 8 * (k % 8) := by omega
 have e2 : IntKind.u64.wrap (b : Int) = b := by rw [IntKind.wrap_u64]; omega
 have hm : k % 8 < 8 := Nat.mod_lt _ (by omega)
 rw [e1, e2]
 generalize k % 8 = m at hm hR
 have e3 : (2 : Int) ^ (8 * m) = ((256 ^ m : Nat) : Int) := by rw [Int.natCast_pow, Int.pow_mul]; rfl
 have hp : 256 ^ m ≤ 72057594037927936 := Nat.le_trans (Nat.pow_le_pow_right (by omega) (by omega : m ≤ 7)) (by decide)
 have hbm : b * 256 ^ m ≤ 255 * 72057594037927936 := Nat.mul_le_mul (by omega) hp
 rw [e3]
 have e4 : IntKind.u64.wrap ((b : Int) * ((256 ^ m : Nat) : Int)) = ((b * 256 ^ m : Nat) : Int) := by
  rw [← Int.natCast_mul, IntKind.wrap_u64]
  omega
 rw [e4]
 have h := bits_join_low .u64 64 (by decide) wraps_u64 (8 * m) (R : Int) ((b * 256 ^ m : Nat) : Int) (by omega) (by rw [e3]; omega) (by omega) (by omega) (by rw [e3]; exact_mod_cast Nat.mul_mod_left b (256 ^ m)) (by omega)
 rw [h]
 omega
theorem aJe {k n r0 r1 r2 r3 : Nat} (h : Words k r0 r1 r2 r3) (hk : k ≤ n) : Words n r0 r1 r2 r3 :=
 ⟨Nat.lt_of_lt_of_le h.1 (Nat.pow_le_pow_right (by omega) (by omega)), Nat.lt_of_lt_of_le h.2.1 (Nat.pow_le_pow_right (by omega) (by omega)),
  Nat.lt_of_lt_of_le h.2.2.1 (Nat.pow_le_pow_right (by omega) (by omega)), Nat.lt_of_lt_of_le h.2.2.2 (Nat.pow_le_pow_right (by omega) (by omega))⟩
theorem aJc {wr : World} {X k r0 r1 r2 r3 : Nat} {s : ByteArray} (hk : k < 32) (hrow : wr.heap[X]? = some (.cells (bZ r0 r1 r2 r3 s) 35 (0, 0))) (hw : Words k r0 r1 r2 r3) :
 ∃ R : Nat, R < 256 ^ (k % 8) ∧ wr.cell? ⟨X, k / 8, none⟩ = some (.int .u64 R) ∧ ∀ w2 : World, w2.heap[X]? = some (.cells (bZ r0 r1 r2 r3 s) 35 (0, 0)) → ∀ b : Nat, b < 256 →
  ∃ r0' r1' r2' r3' : Nat, (w2.setCell ⟨X, k / 8, none⟩ (.int .u64 (R + b * 256 ^ (k % 8) : Nat))).heap[X]? = some (.cells (bZ r0' r1' r2' r3' s) 35 (0, 0)) ∧ Words (k + 1) r0' r1' r2' r3' := by
 obtain ⟨h0, h1, h2, h3⟩ := hw
 have hc := cell_of_row wr X (k / 8) _ _ _ hrow
 have : k / 8 = 0 ∨ k / 8 = 1 ∨ k / 8 = 2 ∨ k / 8 = 3 := by omega
 rcases this with hj | hj | hj | hj <;> rw [hj] at hc ⊢
 · have e : min 8 k = k % 8 := by omega
   rw [e] at h0
   refine ⟨r0, h0, hc, fun w2 h b hb => ⟨r0 + b * 256 ^ (k % 8), r1, r2, r3, by simp [World.setCell, Array.getElem?_modify, h, bZ], ?_, ?_, ?_, ?_⟩⟩
   · rw [show min 8 (k + 1) = k % 8 + 1 by omega]; exact mF _ _ _ h0 hb
   · rw [show min 8 (k + 1 - 8) = min 8 (k - 8) by omega]; exact h1
   · rw [show min 8 (k + 1 - 16) = min 8 (k - 16) by omega]; exact h2
   · rw [show min 8 (k + 1 - 24) = min 8 (k - 24) by omega]; exact h3
 · have e : min 8 (k - 8) = k % 8 := by omega
   rw [e] at h1
   refine ⟨r1, h1, hc, fun w2 h b hb => ⟨r0, r1 + b * 256 ^ (k % 8), r2, r3, by simp [World.setCell, Array.getElem?_modify, h, bZ], ?_, ?_, ?_, ?_⟩⟩
   · rw [show min 8 (k + 1) = min 8 k by omega]; exact h0
   · rw [show min 8 (k + 1 - 8) = k % 8 + 1 by omega]; exact mF _ _ _ h1 hb
   · rw [show min 8 (k + 1 - 16) = min 8 (k - 16) by omega]; exact h2
   · rw [show min 8 (k + 1 - 24) = min 8 (k - 24) by omega]; exact h3
 · have e : min 8 (k - 16) = k % 8 := by omega
   rw [e] at h2
   refine ⟨r2, h2, hc, fun w2 h b hb => ⟨r0, r1, r2 + b * 256 ^ (k % 8), r3, by simp [World.setCell, Array.getElem?_modify, h, bZ], ?_, ?_, ?_, ?_⟩⟩
   · rw [show min 8 (k + 1) = min 8 k by omega]; exact h0
   · rw [show min 8 (k + 1 - 8) = min 8 (k - 8) by omega]; exact h1
   · rw [show min 8 (k + 1 - 16) = k % 8 + 1 by omega]; exact mF _ _ _ h2 hb
   · rw [show min 8 (k + 1 - 24) = min 8 (k - 24) by omega]; exact h3
 · have e : min 8 (k - 24) = k % 8 := by omega
   rw [e] at h3
   refine ⟨r3, h3, hc, fun w2 h b hb => ⟨r0, r1, r2, r3 + b * 256 ^ (k % 8), by simp [World.setCell, Array.getElem?_modify, h, bZ], ?_, ?_, ?_, ?_⟩⟩
   · rw [show min 8 (k + 1) = min 8 k by omega]; exact h0
   · rw [show min 8 (k + 1 - 8) = min 8 (k - 8) by omega]; exact h1
   · rw [show min 8 (k + 1 - 16) = min 8 (k - 16) by omega]; exact h2
   · rw [show min 8 (k + 1 - 24) = k % 8 + 1 by omega]; exact mF _ _ _ h3 hb
theorem aIa (kk : Num) : jY (.num kk) := by
 intro B w p h hpw
 have n0 : ((aV (Ty.num kk).nm).toList == [78, 117, 108, 108, 97, 98, 108, 101]) = false := by rw [bY]; cases kk <;> decide
 have n1 : ((aV (Ty.num kk).nm).toList == [76, 111, 119, 67, 97, 114, 100, 105, 110, 97, 108, 105, 116, 121]) = false := by rw [bY]; cases kk <;> decide
 have n2 : ((aV (Ty.num kk).nm).toList == [65, 114, 114, 97, 121]) = false := by rw [bY]; cases kk <;> decide
 have n3 : ((aV (Ty.num kk).nm).toList == [84, 117, 112, 108, 101]) = false := by rw [bY]; cases kk <;> decide
 have n4 : ((aV (Ty.num kk).nm).toList == [77, 97, 112]) = false := by rw [bY]; cases kk <;> decide
 have n5 : ((aV (Ty.num kk).nm).toList == [83, 116, 114, 105, 110, 103]) = false := by rw [bY]; cases kk <;> decide
 have n6 : ((aV (Ty.num kk).nm).toList == [70, 105, 120, 101, 100, 83, 116, 114, 105, 110, 103]) = false := by rw [bY]; cases kk <;> decide
 have hBp := h.1
 obtain ⟨n, hn⟩ : ∃ n, Hid (n = kk.size) := ⟨_, Lib.hid rfl⟩
 have hn32 : n ≤ 32 := by rw [hn.out]; cases kk <;> decide
 show Calls _ _ #[_, .agg #[.string (aV (Ty.num kk).nm), .int .i64 (kk.size : Nat), .slice none 0 0]] _ _
 rw [← hn.out]
 generalize aV (Ty.num kk).nm = nm at n0 n1 n2 n3 n4 n5 n6 ⊢
 go_enter Tryz.func9, Tryz.ntmps9
 go_wp2_with fail
 have hW := lU.of w #[.string nm, .int .i64 n, .slice none 0 0]
 unfold bZ at hW
 generalize ((w.alloc _).alloc _).alloc _ = W at hW ⊢
 have hcW : bM B W p := h.fr hW.fr (fun h => h) (fun _ _ h => h)
 have hpW : p < W.heap.size := by rw [hW.size]; omega
 have hbox1 : W.cell? ⟨w.heap.size, 1, none⟩ = some (.int .i64 n) := by rw [cell_of_row _ _ _ _ _ _ hW.box]; rfl
 go_wp2_with (go_at_call 20; refine (fH B _ p hcW).mono ?_; rintro e w1 ⟨b0, hb0, rfl, hc1, hf1⟩)
 have hrow1 : w1.heap[w.heap.size + 1 + 1]? = some (.cells (bZ 0 0 0 0 ⟨#[]⟩) 35 (0, 0)) := (hf1.block _ (by rw [hW.size]; omega) (by show ¬ w.heap.size + 1 + 1 = p; omega)).trans hW.row
 generalize ((b0 : Int) % 2 == 0) = sm
 go_loopw [13] (fun i wr => ∃ k r0 r1 r2 r3 : Nat, i = .int .i64 k ∧ k ≤ n ∧ wr.heap[w.heap.size + 1 + 1]? = some (.cells (bZ r0 r1 r2 r3 ⟨#[]⟩) 35 (0, 0)) ∧ Words k r0 r1 r2 r3 ∧ bM B wr p ∧ Fr (fun q => q = p ∨ q = w.heap.size + 1 + 1) W wr) (fun i _ => n - (intOf i).toNat)
 case atStart => exact ⟨0, 0, 0, 0, 0, rfl, Nat.zero_le _, hrow1, ⟨by decide, by decide, by decide, by decide⟩, hc1, hf1.mono (fun _ _ h => .inl h)⟩
 case round =>
  obtain ⟨k, r0, r1, r2, r3, rfl, hk, hrow, hwd, hcode, hfr⟩ := hrel
  have hb1 := hfr.aA hbox1 (by show ¬ (w.heap.size = p ∨ w.heap.size = w.heap.size + 1 + 1); omega)
  by_cases hgo : k < n ∧ (sm = false ∨ k = 0)
  · have hlt : (k : Int) < n := by omega
    have hcD : bM B wr.drew p := hcode.fr ((Fr.refl (fun _ => False) wr).drew) (fun h => h) (fun _ _ h => h)
    have hne : w.heap.size + 1 + 1 ≠ p := by omega
    obtain ⟨R, hR, hcR, hst⟩ := aJc (by omega) hrow hwd
    have hZ := frozen_of_row wr (w.heap.size + 1 + 1) (k / 8) _ _ hrow
    cases sm with
    | true =>
     have hk0 : k = 0 := by simpa using hgo.2
     have t2 : ((k : Int) == 0) = true := by simp [hk0]
     clear hk0 hgo
     have q0 : 0 ≤ (k : Int) / 8 := by omega
     have q0' : (k : Int) / 8 < 4 := by omega
     have q1 : IntKind.i64.wrap ((k : Int) / 8) = (k : Int) / 8 := by rw [IntKind.wrap_i64]; omega
     have q2 : (k : Int).tmod 8 = (k : Int) % 8 := Int.tmod_eq_emod_of_nonneg (by omega)
     have q3 : IntKind.i64.wrap (8 * ((k : Int) % 8)) = 8 * ((k : Int) % 8) := by rw [IntKind.wrap_i64]; omega
     have q4 : IntKind.u64.wrap (8 * ((k : Int) % 8)) = 8 * ((k : Int) % 8) := by rw [IntKind.wrap_u64]; omega
     have q5 : ((k : Int) / 8).toNat = k / 8 := by omega
     go_wp2_with fail
     go_region_with (first
      | (go_at_call 20; refine (fH B _ p hcD).mono ?_; rintro e w2 ⟨b, hb, rfl, hc2, hf2⟩; have hrow2 := (hf2.aG.block _ (aH hrow) hne).trans hrow; have hcR2 := hf2.aG.aA hcR hne; have hZ2 := frozen_of_row w2 (w.heap.size + 1 + 1) (k / 8) _ _ hrow2))
     all_goals
      rw [aFe R b k hR hb]
      obtain ⟨r0', r1', r2', r3', hrow3, hwd3⟩ := hst w2 hrow2 b hb
      have hst' := Lib.hid hst
      clear hst
      generalize (R + b * 256 ^ (k % 8) : Nat) = V at hrow3 ⊢
      clear q0 q0' q1 q2 q3 q4 q5
      go_wp2
      go_roundw
      case rel =>
       have hfr3 : Fr (fun q => q = p ∨ q = w.heap.size + 1 + 1) W w2 := hfr.trans (hf2.aG) (fun _ _ h => .inl h)
       exact ⟨k + 1, r0', r1', r2', r3', by go_num, by omega, hrow3, hwd3, hc2.fr ((Fr.refl (fun q => q = w.heap.size + 1 + 1) w2).setCell (.inl rfl) _) (by show ¬ p = w.heap.size + 1 + 1; omega) (fun q hq => by show ¬ q = w.heap.size + 1 + 1; omega), hfr3.setCell (.inl (.inr rfl)) _⟩
      case measure => simp [intOf]; omega
    | false =>
     clear hgo
     have q0 : 0 ≤ (k : Int) / 8 := by omega
     have q0' : (k : Int) / 8 < 4 := by omega
     have q1 : IntKind.i64.wrap ((k : Int) / 8) = (k : Int) / 8 := by rw [IntKind.wrap_i64]; omega
     have q2 : (k : Int).tmod 8 = (k : Int) % 8 := Int.tmod_eq_emod_of_nonneg (by omega)
     have q3 : IntKind.i64.wrap (8 * ((k : Int) % 8)) = 8 * ((k : Int) % 8) := by rw [IntKind.wrap_i64]; omega
     have q4 : IntKind.u64.wrap (8 * ((k : Int) % 8)) = 8 * ((k : Int) % 8) := by rw [IntKind.wrap_u64]; omega
     have q5 : ((k : Int) / 8).toNat = k / 8 := by omega
     go_wp2_with fail
     go_region_with (first
      | (go_at_call 20; refine (fH B _ p hcD).mono ?_; rintro e w2 ⟨b, hb, rfl, hc2, hf2⟩; have hrow2 := (hf2.aG.block _ (aH hrow) hne).trans hrow; have hcR2 := hf2.aG.aA hcR hne; have hZ2 := frozen_of_row w2 (w.heap.size + 1 + 1) (k / 8) _ _ hrow2))
     all_goals
      rw [aFe R b k hR hb]
      obtain ⟨r0', r1', r2', r3', hrow3, hwd3⟩ := hst w2 hrow2 b hb
      have hst' := Lib.hid hst
      clear hst
      generalize (R + b * 256 ^ (k % 8) : Nat) = V at hrow3 ⊢
      clear q0 q0' q1 q2 q3 q4 q5
      go_wp2
      go_roundw
      case rel =>
       have hfr3 : Fr (fun q => q = p ∨ q = w.heap.size + 1 + 1) W w2 := hfr.trans (hf2.aG) (fun _ _ h => .inl h)
       exact ⟨k + 1, r0', r1', r2', r3', by go_num, by omega, hrow3, hwd3, hc2.fr ((Fr.refl (fun q => q = w.heap.size + 1 + 1) w2).setCell (.inl rfl) _) (by show ¬ p = w.heap.size + 1 + 1; omega) (fun q hq => by show ¬ q = w.heap.size + 1 + 1; omega), hfr3.setCell (.inl (.inr rfl)) _⟩
      case measure => simp [intOf]; omega
  · have hres := aBe hW hpw hfr
    have x0 : wr.cell? ⟨w.heap.size + 1 + 1, 0, none⟩ = some (.int .u64 r0) := by rw [cell_of_row _ _ _ _ _ _ hrow]; rfl
    have x1 : wr.cell? ⟨w.heap.size + 1 + 1, 1, none⟩ = some (.int .u64 r1) := by rw [cell_of_row _ _ _ _ _ _ hrow]; rfl
    have x2 : wr.cell? ⟨w.heap.size + 1 + 1, 2, none⟩ = some (.int .u64 r2) := by rw [cell_of_row _ _ _ _ _ _ hrow]; rfl
    have x3 : wr.cell? ⟨w.heap.size + 1 + 1, 3, none⟩ = some (.int .u64 r3) := by rw [cell_of_row _ _ _ _ _ _ hrow]; rfl
    have x4 : wr.cell? ⟨w.heap.size + 1 + 1, 4, none⟩ = some (.string ⟨#[]⟩) := by rw [cell_of_row _ _ _ _ _ _ hrow]; rfl
    have x5 : wr.cell? ⟨w.heap.size + 1 + 1, 5, none⟩ = some (.bool false) := by rw [cell_of_row _ _ _ _ _ _ hrow]; rfl
    have x6 : wr.cell? ⟨w.heap.size + 1 + 1, 6, none⟩ = some (.slice none 0 0) := by rw [cell_of_row _ _ _ _ _ _ hrow]; rfl
    have x7 : wr.cell? ⟨w.heap.size + 1 + 1, 7, none⟩ = some (.slice none 0 0) := by rw [cell_of_row _ _ _ _ _ _ hrow]; rfl
    have g0 : wr.cell? ⟨w.heap.size + 1, 0, none⟩ = some (.int .u64 0) := by rw [cell_of_row _ _ _ _ _ _ hres]; rfl
    have g1 : wr.cell? ⟨w.heap.size + 1, 1, none⟩ = some (.int .u64 0) := by rw [cell_of_row _ _ _ _ _ _ hres]; rfl
    have g2 : wr.cell? ⟨w.heap.size + 1, 2, none⟩ = some (.int .u64 0) := by rw [cell_of_row _ _ _ _ _ _ hres]; rfl
    have g3 : wr.cell? ⟨w.heap.size + 1, 3, none⟩ = some (.int .u64 0) := by rw [cell_of_row _ _ _ _ _ _ hres]; rfl
    have g4 : wr.cell? ⟨w.heap.size + 1, 4, none⟩ = some (.string ⟨#[]⟩) := by rw [cell_of_row _ _ _ _ _ _ hres]; rfl
    have g5 : wr.cell? ⟨w.heap.size + 1, 5, none⟩ = some (.bool false) := by rw [cell_of_row _ _ _ _ _ _ hres]; rfl
    have g6 : wr.cell? ⟨w.heap.size + 1, 6, none⟩ = some (.slice none 0 0) := by rw [cell_of_row _ _ _ _ _ _ hres]; rfl
    have g7 : wr.cell? ⟨w.heap.size + 1, 7, none⟩ = some (.slice none 0 0) := by rw [cell_of_row _ _ _ _ _ _ hres]; rfl
    have z0 : wr.frozen? ⟨w.heap.size + 1, 0, none⟩ = false := frozen_of_row _ _ _ _ _ hres
    have z1 : wr.frozen? ⟨w.heap.size + 1, 1, none⟩ = false := frozen_of_row _ _ _ _ _ hres
    have z2 : wr.frozen? ⟨w.heap.size + 1, 2, none⟩ = false := frozen_of_row _ _ _ _ _ hres
    have z3 : wr.frozen? ⟨w.heap.size + 1, 3, none⟩ = false := frozen_of_row _ _ _ _ _ hres
    have z4 : wr.frozen? ⟨w.heap.size + 1, 4, none⟩ = false := frozen_of_row _ _ _ _ _ hres
    have z5 : wr.frozen? ⟨w.heap.size + 1, 5, none⟩ = false := frozen_of_row _ _ _ _ _ hres
    have z6 : wr.frozen? ⟨w.heap.size + 1, 6, none⟩ = false := frozen_of_row _ _ _ _ _ hres
    have z7 : wr.frozen? ⟨w.heap.size + 1, 7, none⟩ = false := frozen_of_row _ _ _ _ _ hres
    have hwn := aJe hwd hk
    by_cases hkn : k < n
    · have hlt : (k : Int) < n := by omega
      cases sm with
      | false => exact absurd ⟨hkn, .inl rfl⟩ hgo
      | true =>
       have t2 : ((k : Int) == 0) = false := by
        have : k ≠ 0 := fun h => hgo ⟨hkn, .inr h⟩
        simp
        omega
       clear hgo
       go_wp2
       refine bodyPost_ret (by simp [results, Tryz.results9, go_sem, g0, g1, g2, g3, g4, g5, g6, g7]; try rfl) rfl ?_
       have h8 := fun (a b c d e f g h : Value) => ((((((((Fr.refl (fun q => q = w.heap.size + 1) wr).setCell (p := ⟨w.heap.size + 1, 0, none⟩) (.inl rfl) a).setCell (p := ⟨w.heap.size + 1, 1, none⟩) (.inl rfl) b).setCell (p := ⟨w.heap.size + 1, 2, none⟩) (.inl rfl) c).setCell (p := ⟨w.heap.size + 1, 3, none⟩) (.inl rfl) d).setCell (p := ⟨w.heap.size + 1, 4, none⟩) (.inl rfl) e).setCell (p := ⟨w.heap.size + 1, 5, none⟩) (.inl rfl) f).setCell (p := ⟨w.heap.size + 1, 6, none⟩) (.inl rfl) g).setCell (p := ⟨w.heap.size + 1, 7, none⟩) (.inl rfl) h
       have h9 : ∀ (a b c d e f g h : Value), Fr (fun q => q = p) w _ := fun (a b c d e f g h : Value) => (((((((((hW.fr.mono (S' := fun q => q = p) (fun _ _ h => h.elim)).trans hfr (fun q hq h => h.resolve_right (by omega))).setCell (p := ⟨w.heap.size + 1, 0, none⟩) (.inr (by show w.heap.size ≤ w.heap.size + 1; omega)) a).setCell (p := ⟨w.heap.size + 1, 1, none⟩) (.inr (by show w.heap.size ≤ w.heap.size + 1; omega)) b).setCell (p := ⟨w.heap.size + 1, 2, none⟩) (.inr (by show w.heap.size ≤ w.heap.size + 1; omega)) c).setCell (p := ⟨w.heap.size + 1, 3, none⟩) (.inr (by show w.heap.size ≤ w.heap.size + 1; omega)) d).setCell (p := ⟨w.heap.size + 1, 4, none⟩) (.inr (by show w.heap.size ≤ w.heap.size + 1; omega)) e).setCell (p := ⟨w.heap.size + 1, 5, none⟩) (.inr (by show w.heap.size ≤ w.heap.size + 1; omega)) f).setCell (p := ⟨w.heap.size + 1, 6, none⟩) (.inr (by show w.heap.size ≤ w.heap.size + 1; omega)) g).setCell (p := ⟨w.heap.size + 1, 7, none⟩) (.inr (by show w.heap.size ≤ w.heap.size + 1; omega)) h
       exact ⟨.mk r0 r1 r2 r3 ⟨#[]⟩ false [] [], ⟨rfl, rfl, rfl, rfl, by rw [← hn.out]; exact hwn.1, by rw [← hn.out]; exact hwn.2.1, by rw [← hn.out]; exact hwn.2.2.1, by rw [← hn.out]; exact hwn.2.2.2⟩, rfl, hcode.fr (h8 _ _ _ _ _ _ _ _) (by show ¬ p = w.heap.size + 1; omega) (fun q hq => by show ¬ q = w.heap.size + 1; omega), h9 _ _ _ _ _ _ _ _⟩
    · have hge : ¬ (k : Int) < n := by omega
      clear hgo
      go_wp2
      refine bodyPost_ret (by simp [results, Tryz.results9, go_sem, g0, g1, g2, g3, g4, g5, g6, g7]; try rfl) rfl ?_
      have h8 := fun (a b c d e f g h : Value) => ((((((((Fr.refl (fun q => q = w.heap.size + 1) wr).setCell (p := ⟨w.heap.size + 1, 0, none⟩) (.inl rfl) a).setCell (p := ⟨w.heap.size + 1, 1, none⟩) (.inl rfl) b).setCell (p := ⟨w.heap.size + 1, 2, none⟩) (.inl rfl) c).setCell (p := ⟨w.heap.size + 1, 3, none⟩) (.inl rfl) d).setCell (p := ⟨w.heap.size + 1, 4, none⟩) (.inl rfl) e).setCell (p := ⟨w.heap.size + 1, 5, none⟩) (.inl rfl) f).setCell (p := ⟨w.heap.size + 1, 6, none⟩) (.inl rfl) g).setCell (p := ⟨w.heap.size + 1, 7, none⟩) (.inl rfl) h
      have h9 : ∀ (a b c d e f g h : Value), Fr (fun q => q = p) w _ := fun (a b c d e f g h : Value) => (((((((((hW.fr.mono (S' := fun q => q = p) (fun _ _ h => h.elim)).trans hfr (fun q hq h => h.resolve_right (by omega))).setCell (p := ⟨w.heap.size + 1, 0, none⟩) (.inr (by show w.heap.size ≤ w.heap.size + 1; omega)) a).setCell (p := ⟨w.heap.size + 1, 1, none⟩) (.inr (by show w.heap.size ≤ w.heap.size + 1; omega)) b).setCell (p := ⟨w.heap.size + 1, 2, none⟩) (.inr (by show w.heap.size ≤ w.heap.size + 1; omega)) c).setCell (p := ⟨w.heap.size + 1, 3, none⟩) (.inr (by show w.heap.size ≤ w.heap.size + 1; omega)) d).setCell (p := ⟨w.heap.size + 1, 4, none⟩) (.inr (by show w.heap.size ≤ w.heap.size + 1; omega)) e).setCell (p := ⟨w.heap.size + 1, 5, none⟩) (.inr (by show w.heap.size ≤ w.heap.size + 1; omega)) f).setCell (p := ⟨w.heap.size + 1, 6, none⟩) (.inr (by show w.heap.size ≤ w.heap.size + 1; omega)) g).setCell (p := ⟨w.heap.size + 1, 7, none⟩) (.inr (by show w.heap.size ≤ w.heap.size + 1; omega)) h
      exact ⟨.mk r0 r1 r2 r3 ⟨#[]⟩ false [] [], ⟨rfl, rfl, rfl, rfl, by rw [← hn.out]; exact hwn.1, by rw [← hn.out]; exact hwn.2.1, by rw [← hn.out]; exact hwn.2.2.1, by rw [← hn.out]; exact hwn.2.2.2⟩, rfl, hcode.fr (h8 _ _ _ _ _ _ _ _) (by show ¬ p = w.heap.size + 1; omega) (fun q hq => by show ¬ q = w.heap.size + 1; omega), h9 _ _ _ _ _ _ _ _⟩
end Go.Proofs.YtcidlnjpabgioaaGreatDoor
