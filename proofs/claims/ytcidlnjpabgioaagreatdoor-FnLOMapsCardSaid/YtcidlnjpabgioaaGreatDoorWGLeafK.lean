import Derived.Test.YtcidlnjpabgioaaGreatDoorWGTree
import Derived.Test.YtcidlnjpabgioaaGreatDoorWGKa
import Derived.Test.YtcidlnjpabgioaaGreatDoorWGKb
import Derived.Test.YtcidlnjpabgioaaGreatDoorWGWide
import Derived.Test.YtcidlnjpabgioaaGreatDoorWKu8
import Derived.Test.YtcidlnjpabgioaaGreatDoorWGKc
import Derived.Test.YtcidlnjpabgioaaGreatDoorWKu64
import Derived.Test.YtcidlnjpabgioaaGreatDoorWKip4
import Derived.Test.YtcidlnjpabgioaaGreatDoorWGIp6
import Derived.Test.YtcidlnjpabgioaaGreatDoorWGArr
import Derived.Test.YtcidlnjpabgioaaGreatDoorWGMap
import Derived.Test.YtcidlnjpabgioaaGreatDoorWGLowB
import Derived.Test.YtcidlnjpabgioaaGreatDoorWGTup
import Derived.Test.YtcidlnjpabgioaaGreatDoorWGByte
namespace Go.Proofs.YtcidlnjpabgioaaGreatDoor
open Go.RowKit
theorem aHY (w : World) (hk : eG w) (nm : ByteArray) (hl : nm.toList = Num.i8.name) : Calls Tryz.prog 36 #[.string nm, .slice none 0 0] w (bJ (.num .i8) [] w) := by
 refine fD w hk Num.i8.name nm hl (by decide) (by decide) 1 (by decide) (by decide) (fun K h1 h2 => (by decide : ∀ K, K < 1 → 1 ≤ K → ¬ kinds.getD K [] = Num.i8.name) K h2 h1) rfl (bJ (.num .i8) [] w) ((aGo w).mono ?_) bJ.ret
 rintro e w1 ⟨rfl, rfl⟩
 refine ⟨_, _, rfl, aI.of0 (aEV _ _) Tryz.call328 ((aJC _ w.heap.size w.heap.size (Nat.le_refl _) (heap_alloc_new w _)).mono ?_)⟩
 rintro e w2 ⟨nb, fp, rfl, hR, hf⟩
 exact ⟨_, _, _, _, fp, rfl, aKl _ _ _, hR, ((Below.refl _ w).alloc (Nat.le_refl _) _).trans (hf.below (by simp) (fun _ _ h => h))⟩
theorem aGR (w : World) (hk : eG w) (nm : ByteArray) (hl : nm.toList = Num.i16.name) : Calls Tryz.prog 36 #[.string nm, .slice none 0 0] w (bJ (.num .i16) [] w) := by
 refine fD w hk Num.i16.name nm hl (by decide) (by decide) 2 (by decide) (by decide) (fun K h1 h2 => (by decide : ∀ K, K < 2 → 1 ≤ K → ¬ kinds.getD K [] = Num.i16.name) K h2 h1) rfl (bJ (.num .i16) [] w) ((aDS w).mono ?_) bJ.ret
 rintro e w1 ⟨rfl, rfl⟩
 refine ⟨_, _, rfl, aI.of0 (aCO _ _) Tryz.call343 ((aHG _ w.heap.size w.heap.size (Nat.le_refl _) (heap_alloc_new w _)).mono ?_)⟩
 rintro e w2 ⟨nb, fp, rfl, hR, hf⟩
 exact ⟨_, _, _, _, fp, rfl, aJt _ _ _, hR, ((Below.refl _ w).alloc (Nat.le_refl _) _).trans (hf.below (by simp) (fun _ _ h => h))⟩
theorem aGE (w : World) (hk : eG w) (nm : ByteArray) (hl : nm.toList = Num.i32.name) : Calls Tryz.prog 36 #[.string nm, .slice none 0 0] w (bJ (.num .i32) [] w) := by
 refine fD w hk Num.i32.name nm hl (by decide) (by decide) 3 (by decide) (by decide) (fun K h1 h2 => (by decide : ∀ K, K < 3 → 1 ≤ K → ¬ kinds.getD K [] = Num.i32.name) K h2 h1) rfl (bJ (.num .i32) [] w) ((aDl w).mono ?_) bJ.ret
 rintro e w1 ⟨rfl, rfl⟩
 refine ⟨_, _, rfl, aI.of0 (aBE _ _) Tryz.call358 ((aHQ _ w.heap.size w.heap.size (Nat.le_refl _) (heap_alloc_new w _)).mono ?_)⟩
 rintro e w2 ⟨nb, fp, rfl, hR, hf⟩
 exact ⟨_, _, _, _, fp, rfl, aIe _ _ _, hR, ((Below.refl _ w).alloc (Nat.le_refl _) _).trans (hf.below (by simp) (fun _ _ h => h))⟩
theorem aFI (w : World) (hk : eG w) (nm : ByteArray) (hl : nm.toList = Num.i64.name) : Calls Tryz.prog 36 #[.string nm, .slice none 0 0] w (bJ (.num .i64) [] w) := by
 refine fD w hk Num.i64.name nm hl (by decide) (by decide) 4 (by decide) (by decide) (fun K h1 h2 => (by decide : ∀ K, K < 4 → 1 ≤ K → ¬ kinds.getD K [] = Num.i64.name) K h2 h1) rfl (bJ (.num .i64) [] w) ((aEG w).mono ?_) bJ.ret
 rintro e w1 ⟨rfl, rfl⟩
 refine ⟨_, _, rfl, aI.of0 (aCF _ _) Tryz.call373 ((aIM _ w.heap.size w.heap.size (Nat.le_refl _) (heap_alloc_new w _)).mono ?_)⟩
 rintro e w2 ⟨nb, fp, rfl, hR, hf⟩
 exact ⟨_, _, _, _, fp, rfl, aIh _ _ _, hR, ((Below.refl _ w).alloc (Nat.le_refl _) _).trans (hf.below (by simp) (fun _ _ h => h))⟩
theorem aEd (w : World) (hk : eG w) (nm : ByteArray) (hl : nm.toList = Num.i128.name) : Calls Tryz.prog 36 #[.string nm, .slice none 0 0] w (bJ (.num .i128) [] w) := by
 refine fD w hk Num.i128.name nm hl (by decide) (by decide) 5 (by decide) (by decide) (fun K h1 h2 => (by decide : ∀ K, K < 5 → 1 ≤ K → ¬ kinds.getD K [] = Num.i128.name) K h2 h1) rfl (bJ (.num .i128) [] w) ((aCf w).mono ?_) bJ.ret
 rintro e w1 ⟨rfl, rfl⟩
 refine ⟨_, _, rfl, aI.of0 (aAR _ _) Tryz.call391 ((aGd _ w.heap.size w.heap.size (Nat.le_refl _) (heap_alloc_new w _)).mono ?_)⟩
 rintro e w2 ⟨nb, fp, rfl, hR, hf⟩
 exact ⟨_, _, _, _, fp, rfl, aGa _ _ _, hR, ((Below.refl _ w).alloc (Nat.le_refl _) _).trans (hf.below (by simp) (fun _ _ h => h))⟩
theorem aHj (w : World) (hk : eG w) (nm : ByteArray) (hl : nm.toList = Num.u8.name) : Calls Tryz.prog 36 #[.string nm, .slice none 0 0] w (bJ (.num .u8) [] w) := by
 refine fD w hk Num.u8.name nm hl (by decide) (by decide) 7 (by decide) (by decide) (fun K h1 h2 => (by decide : ∀ K, K < 7 → 1 ≤ K → ¬ kinds.getD K [] = Num.u8.name) K h2 h1) rfl (bJ (.num .u8) [] w) ((aGf w).mono ?_) bJ.ret
 rintro e w1 ⟨rfl, rfl⟩
 refine ⟨_, _, rfl, aI.of0 (aDI _ _) Tryz.call415 ((aJR _ w.heap.size w.heap.size (Nat.le_refl _) (heap_alloc_new w _)).mono ?_)⟩
 rintro e w2 ⟨nb, fp, rfl, hR, hf⟩
 exact ⟨_, _, _, _, fp, rfl, aKo _ _ _, hR, ((Below.refl _ w).alloc (Nat.le_refl _) _).trans (hf.below (by simp) (fun _ _ h => h))⟩
theorem aGU (w : World) (hk : eG w) (nm : ByteArray) (hl : nm.toList = Num.u16.name) : Calls Tryz.prog 36 #[.string nm, .slice none 0 0] w (bJ (.num .u16) [] w) := by
 refine fD w hk Num.u16.name nm hl (by decide) (by decide) 8 (by decide) (by decide) (fun K h1 h2 => (by decide : ∀ K, K < 8 → 1 ≤ K → ¬ kinds.getD K [] = Num.u16.name) K h2 h1) rfl (bJ (.num .u16) [] w) ((aDz w).mono ?_) bJ.ret
 rintro e w1 ⟨rfl, rfl⟩
 refine ⟨_, _, rfl, aI.of0 (aCl _ _) Tryz.call425 ((aID _ w.heap.size w.heap.size (Nat.le_refl _) (heap_alloc_new w _)).mono ?_)⟩
 rintro e w2 ⟨nb, fp, rfl, hR, hf⟩
 exact ⟨_, _, _, _, fp, rfl, aIK _ _ _, hR, ((Below.refl _ w).alloc (Nat.le_refl _) _).trans (hf.below (by simp) (fun _ _ h => h))⟩
theorem aFM (w : World) (hk : eG w) (nm : ByteArray) (hl : nm.toList = Num.u32.name) : Calls Tryz.prog 36 #[.string nm, .slice none 0 0] w (bJ (.num .u32) [] w) := by
 refine fD w hk Num.u32.name nm hl (by decide) (by decide) 9 (by decide) (by decide) (fun K h1 h2 => (by decide : ∀ K, K < 9 → 1 ≤ K → ¬ kinds.getD K [] = Num.u32.name) K h2 h1) rfl (bJ (.num .u32) [] w) ((aEz w).mono ?_) bJ.ret
 rintro e w1 ⟨rfl, rfl⟩
 refine ⟨_, _, rfl, aI.of0 (aCh _ _) Tryz.call435 ((aJg _ w.heap.size w.heap.size (Nat.le_refl _) (heap_alloc_new w _)).mono ?_)⟩
 rintro e w2 ⟨nb, fp, rfl, hR, hf⟩
 exact ⟨_, _, _, _, fp, rfl, aJA _ _ _, hR, ((Below.refl _ w).alloc (Nat.le_refl _) _).trans (hf.below (by simp) (fun _ _ h => h))⟩
theorem aGx (w : World) (hk : eG w) (nm : ByteArray) (hl : nm.toList = Num.u64.name) : Calls Tryz.prog 36 #[.string nm, .slice none 0 0] w (bJ (.num .u64) [] w) := by
 refine fD w hk Num.u64.name nm hl (by decide) (by decide) 10 (by decide) (by decide) (fun K h1 h2 => (by decide : ∀ K, K < 10 → 1 ≤ K → ¬ kinds.getD K [] = Num.u64.name) K h2 h1) rfl (bJ (.num .u64) [] w) ((aEL w).mono ?_) bJ.ret
 rintro e w1 ⟨rfl, rfl⟩
 refine ⟨_, _, rfl, aI.of0 (aCJ _ _) Tryz.call443 ((aIQ _ w.heap.size w.heap.size (Nat.le_refl _) (heap_alloc_new w _)).mono ?_)⟩
 rintro e w2 ⟨nb, fp, rfl, hR, hf⟩
 exact ⟨_, _, _, _, fp, rfl, aIB _ _ _, hR, ((Below.refl _ w).alloc (Nat.le_refl _) _).trans (hf.below (by simp) (fun _ _ h => h))⟩
theorem aDn (w : World) (hk : eG w) (nm : ByteArray) (hl : nm.toList = Num.u256.name) : Calls Tryz.prog 36 #[.string nm, .slice none 0 0] w (bJ (.num .u256) [] w) := by
 refine fD w hk Num.u256.name nm hl (by decide) (by decide) 12 (by decide) (by decide) (fun K h1 h2 => (by decide : ∀ K, K < 12 → 1 ≤ K → ¬ kinds.getD K [] = Num.u256.name) K h2 h1) rfl (bJ (.num .u256) [] w) ((aCk w).mono ?_) bJ.ret
 rintro e w1 ⟨rfl, rfl⟩
 refine ⟨_, _, rfl, aI.of0 (aAY _ _) Tryz.call475 ((aGn _ w.heap.size w.heap.size (Nat.le_refl _) (heap_alloc_new w _)).mono ?_)⟩
 rintro e w2 ⟨nb, fp, rfl, hR, hf⟩
 exact ⟨_, _, _, _, fp, rfl, aGp _ _ _, hR, ((Below.refl _ w).alloc (Nat.le_refl _) _).trans (hf.below (by simp) (fun _ _ h => h))⟩
theorem aGD (w : World) (hk : eG w) (nm : ByteArray) (hl : nm.toList = Num.ip4.name) : Calls Tryz.prog 36 #[.string nm, .slice none 0 0] w (bJ (.num .ip4) [] w) := by
 refine fD w hk Num.ip4.name nm hl (by decide) (by decide) 17 (by decide) (by decide) (fun K h1 h2 => (by decide : ∀ K, K < 17 → 1 ≤ K → ¬ kinds.getD K [] = Num.ip4.name) K h2 h1) rfl (bJ (.num .ip4) [] w) ((aEW w).mono ?_) bJ.ret
 rintro e w1 ⟨rfl, rfl⟩
 refine ⟨_, _, rfl, aI.of0 (aCj _ _) Tryz.call547 ((aHb _ w.heap.size w.heap.size (Nat.le_refl _) (heap_alloc_new w _)).mono ?_)⟩
 rintro e w2 ⟨nb, fp, rfl, hR, hf⟩
 exact ⟨_, _, _, _, fp, rfl, aHf _ _ _, hR, ((Below.refl _ w).alloc (Nat.le_refl _) _).trans (hf.below (by simp) (fun _ _ h => h))⟩
theorem aGT (w : World) (hk : eG w) (nm : ByteArray) (hl : nm.toList = Num.ip6.name) : Calls Tryz.prog 36 #[.string nm, .slice none 0 0] w (bJ (.num .ip6) [] w) := by
 refine fD w hk Num.ip6.name nm hl (by decide) (by decide) 18 (by decide) (by decide) (fun K h1 h2 => (by decide : ∀ K, K < 18 → 1 ≤ K → ¬ kinds.getD K [] = Num.ip6.name) K h2 h1) rfl (bJ (.num .ip6) [] w) ((aEF w).mono ?_) bJ.ret
 rintro e w1 ⟨rfl, rfl⟩
 refine ⟨_, _, rfl, aI.of0 (aBZ _ _) Tryz.call563 ((aHi _ w.heap.size w.heap.size (Nat.le_refl _) (heap_alloc_new w _)).mono ?_)⟩
 rintro e w2 ⟨nb, fp, rfl, hR, hf⟩
 exact ⟨_, _, _, _, fp, rfl, aIH _ _ _, hR, ((Below.refl _ w).alloc (Nat.le_refl _) _).trans (hf.below (by simp) (fun _ _ h => h))⟩
theorem aEn (k : Num) (w : World) (hk : eG w) (nm : ByteArray) (hl : nm.toList = k.name) : Calls Tryz.prog 36 #[.string nm, .slice none 0 0] w (bJ (.num k) [] w) := by
 cases k
 · exact aHj w hk nm hl
 · exact aGR w hk nm hl
 · exact aFM w hk nm hl
 · exact aFI w hk nm hl
 · exact aGx w hk nm hl
 · exact aEd w hk nm hl
 · exact aDn w hk nm hl
 · exact aGD w hk nm hl
 · exact aGT w hk nm hl
 · exact aHY w hk nm hl
 · exact aGU w hk nm hl
 · exact aGE w hk nm hl
end Go.Proofs.YtcidlnjpabgioaaGreatDoor
namespace Go.Proofs.YtcidlnjpabgioaaGreatDoor
open Go.RowKit
def Ok : Nat → Ty → Prop
 | 0, T => T.dS ∨ (∃ t, T = .nul t ∧ t.dS) ∨ T = .low
 | d + 1, T => (T.dS ∨ (∃ t, T = .nul t ∧ t.dS) ∨ T = .low) ∨ (∃ t, T = .arr t ∧ Ok d t) ∨ (∃ k v, T = .map k v ∧ (k.dS ∨ k = .low) ∧ Ok d v) ∨ ∃ ts, T = .tup ts ∧ ts ≠ [] ∧ ts.length ≤ 4 ∧ ∀ t ∈ ts, Ok d t
theorem xB (T : Ty) (hT : T.dS) : fV T := by
 cases T with
 | num k => exact aIN k fun w hk nm hl => aEn k w hk nm hl
 | str => exact aIt
 | fix n => exact aHw n hT
 | _ => exact hT.elim
theorem rC : ∀ (ts : List Ty), (∀ t ∈ ts, t.fine) → mV ts
 | [], _ => trivial
 | t :: ts, h => ⟨h t (by simp), rC ts fun x hx => h x (by simp [hx])⟩
theorem kD {T : Ty} (hT : T.dS) : T.fine := by
 cases T with
 | num k => trivial
 | str => trivial
 | fix n => trivial
 | _ => exact hT.elim
theorem lN {T : Ty} (hT : T.dS) : (text T).length ≤ 16 := by
 cases T with
 | num k => cases k <;> decide
 | str => decide
 | fix n =>
  have hd : (digits n).length ≤ 2 := by
   rcases hT with rfl | rfl
   · rw [aCz]; decide
   · rw [aAk]; decide
  rw [text]
  simp
  omega
 | _ => exact hT.elim
theorem aCi {T : Ty} (hT : T.dS) : st T = [] := by
 cases T with
 | num k => rfl
 | str => rfl
 | fix n => rfl
 | _ => exact hT.elim
theorem qX : ∀ (ts : List Ty) (m : Nat), (∀ t ∈ ts, (text t).length ≤ m) → (texts ts).length ≤ ts.length * (m + 2)
 | [], m, _ => by simp [texts]
 | [t], m, h => by
  have := h t (by simp)
  rw [texts]
  simp
  omega
 | t :: t' :: ts, m, h => by
  have h1 := h t (by simp)
  have h2 := qX (t' :: ts) m (fun x hx => h x (by simp [hx]))
  have e : (t :: t' :: ts).length * (m + 2) = (t' :: ts).length * (m + 2) + (m + 2) := by rw [List.length_cons, Nat.succ_mul]
  rw [texts, List.length_append, List.length_append, e]
  simp only [List.length_cons (a := (44 : UInt8)), List.length_singleton]
  omega
theorem aFf : ∀ (ts : List Ty) (m : Nat), (∀ t ∈ ts, (st t).length ≤ m) → (sts ts).length ≤ ts.length * m
 | [], m, _ => by simp [sts]
 | t :: ts, m, h => by
  have h1 := h t (by simp)
  have h2 := aFf ts m (fun x hx => h x (by simp [hx]))
  rw [sts, List.length_append, List.length_cons, Nat.add_mul]
  omega
structure aJQ (d : Nat) (T : Ty) : Prop where
 fine : T.fine
 text : (text T).length ≤ 60 * 5 ^ d
 st : (st T).length ≤ 8 * 5 ^ d
theorem Ok.zero {T : Ty} (h : T.dS ∨ (∃ t, T = .nul t ∧ t.dS) ∨ T = .low) : T.fine ∧ (text T).length ≤ 30 ∧ (st T).length ≤ 8 := by
 rcases h with h | ⟨t, rfl, h⟩ | rfl
 · have := lN h
   exact ⟨kD h, by omega, by rw [aCi h]; simp⟩
 · have := lN h
   refine ⟨show t.fine from kD h, ?_, by rw [Go.Proofs.YtcidlnjpabgioaaGreatDoor.st, aCi h]; simp⟩
   rw [text]
   simp
   omega
 · exact ⟨trivial, by decide, by decide⟩
theorem Ok.leaf {T : Ty} (h : T.dS) : ∀ d, Ok d T
 | 0 => .inl h
 | _ + 1 => .inl (.inl h)
theorem Ok.low : ∀ d, Ok d .low
 | 0 => .inr (.inr rfl)
 | _ + 1 => .inl (.inr (.inr rfl))
theorem Ok.key {T : Ty} (h : T.dS ∨ T = .low) (d : Nat) : Ok d T := h.elim (fun h => Ok.leaf h d) (fun h => h ▸ Ok.low d)
theorem Ok.facts : ∀ (d : Nat) (T : Ty), Ok d T → aJQ d T
 | 0, T, h => by
  obtain ⟨h1, h2, h3⟩ := Ok.zero h
  exact ⟨h1, by omega, by omega⟩
 | d + 1, T, h => by
  have hp : 1 ≤ 5 ^ d := Nat.one_le_pow _ _ (by decide)
  have hp5 : 5 ^ (d + 1) = 5 * 5 ^ d := by rw [Nat.pow_succ, Nat.mul_comm]
  rcases h with h | ⟨t, rfl, h⟩ | ⟨k, v, rfl, hk, h⟩ | ⟨ts, rfl, h1, h2, h⟩
  · obtain ⟨h1, h2, h3⟩ := Ok.zero h
    exact ⟨h1, by omega, by omega⟩
  · obtain ⟨f1, f2, f3⟩ := Ok.facts d t h
    refine ⟨f1, ?_, by rw [Go.Proofs.YtcidlnjpabgioaaGreatDoor.st]; omega⟩
    rw [Go.Proofs.YtcidlnjpabgioaaGreatDoor.text]
    simp
    omega
  · obtain ⟨f1, f2, f3⟩ := Ok.facts d v h
    obtain ⟨g1, g2, g3⟩ := Ok.zero (T := k) (hk.elim .inl (fun h => .inr (.inr h)))
    refine ⟨⟨g1, f1⟩, ?_, by rw [Go.Proofs.YtcidlnjpabgioaaGreatDoor.st, List.length_append]; omega⟩
    rw [Go.Proofs.YtcidlnjpabgioaaGreatDoor.text]
    simp
    omega
  · have hf := fun t ht => Ok.facts d t (h t ht)
    have l1 := qX ts (60 * 5 ^ d) (fun t ht => (hf t ht).text)
    have l2 := aFf ts (8 * 5 ^ d) (fun t ht => (hf t ht).st)
    have l3 : ts.length * (60 * 5 ^ d + 2) ≤ 4 * (60 * 5 ^ d + 2) := Nat.mul_le_mul_right _ h2
    have l4 : ts.length * (8 * 5 ^ d) ≤ 4 * (8 * 5 ^ d) := Nat.mul_le_mul_right _ h2
    refine ⟨⟨h1, rC ts fun t ht => (hf t ht).fine⟩, ?_, by rw [Go.Proofs.YtcidlnjpabgioaaGreatDoor.st]; omega⟩
    rw [Go.Proofs.YtcidlnjpabgioaaGreatDoor.text]
    simp
    omega
theorem aKa {d : Nat} (h : d ≤ 4) : 5 ^ d ≤ 625 := Nat.le_trans (Nat.pow_le_pow_right (by decide) h) (by decide)
theorem Ok.small {d : Nat} {T : Ty} (h : Ok d T) (hd : d ≤ 4) : (Go.Proofs.YtcidlnjpabgioaaGreatDoor.text T).length ≤ 37500 ∧ (Go.Proofs.YtcidlnjpabgioaaGreatDoor.st T).length ≤ 5000 := by
 have := Ok.facts d T h
 have h5 := aKa hd
 exact ⟨by have := this.text; omega, by have := this.st; omega⟩
theorem rO {T : Ty} (h : T.dS ∨ (∃ t, T = .nul t ∧ t.dS) ∨ T = .low) : fV T := by
 rcases h with h | ⟨t, rfl, h⟩ | rfl
 · exact xB T h
 · exact aIV t (xB t h) (eY t (kD h)) (by have := lN h; omega)
 · exact aIw
theorem kW : ∀ (d : Nat) (T : Ty), d ≤ 4 → Ok d T → fV T
 | 0, _, _, h => rO h
 | d + 1, T, hd, h => by
  rcases h with h | ⟨t, rfl, h⟩ | ⟨k, v, rfl, hk, h⟩ | ⟨ts, rfl, h1, h2, h⟩
  · exact rO h
  · have hs := Ok.small h (by omega)
    exact aIx t (kW d t (by omega) h) (eY t (Ok.facts d t h).fine) (by omega)
  · have hs := Ok.small h (by omega)
    have hk0 : Ok 0 k := Ok.key hk 0
    have hks := Ok.small hk0 (by omega)
    exact aII k v (rO (hk.elim .inl (fun h => .inr (.inr h)))) (kW d v (by omega) h) (eY k (Ok.facts 0 k hk0).fine) (eY v (Ok.facts d v h).fine) (by omega)
  · have hl := qX ts 37500 (fun t ht => (Ok.small (h t ht) (by omega)).1)
    have l3 : ts.length * (37500 + 2) ≤ 4 * (37500 + 2) := Nat.mul_le_mul_right _ h2
    exact aJh ts h1 (by omega) (fun t ht => kW d t (by omega) (h t ht)) (rC ts fun t ht => (Ok.facts d t (h t ht)).fine) (by omega)
end Go.Proofs.YtcidlnjpabgioaaGreatDoor
namespace Go.Proofs.YtcidlnjpabgioaaGreatDoor
open Go.RowKit
theorem qZ {T : Ty} (h : T.dS ∨ (∃ t, T = .nul t ∧ t.dS) ∨ T = .low) : nC T := by
 rcases h with h | ⟨t, rfl, h⟩ | rfl
 · exact nI T h
 · exact iZ _ (show t.fine from kD h) (by simp) (fun x hx => by
    have : x = t := by simpa [Ty.kids] using hx
    exact this ▸ nI t h)
 · exact iZ _ trivial (by simp) (fun x hx => by
    have : x = .str := by simpa [Ty.kids] using hx
    exact this ▸ nI .str trivial)
theorem kZ : ∀ (d : Nat) (T : Ty), Ok d T → nC T
 | 0, _, h => qZ h
 | d + 1, T, h => by
  have hfine := (Ok.facts (d + 1) T h).fine
  rcases h with h | ⟨t, rfl, h⟩ | ⟨k, v, rfl, hk, h⟩ | ⟨ts, rfl, h1, h2, h⟩
  · exact qZ h
  · exact iZ _ hfine (by simp) (fun x hx => by
     have : x = t := by simpa [Ty.kids] using hx
     exact this ▸ kZ d t h)
  · refine iZ _ hfine (by simp) (fun x hx => ?_)
    have hx : x = k ∨ x = v := by simpa [Ty.kids] using hx
    rcases hx with rfl | rfl
    · exact qZ (hk.elim .inl (fun h => .inr (.inr h)))
    · exact kZ d _ h
  · exact iZ _ hfine (by simp) (fun x hx => kZ d x (h x hx))
def SlS (S : Nat → Prop) (w : World) (size : Nat) (v : Value) (n : Nat) (xs : List Value) : Prop :=
 xs.length = n * size ∧ ∃ a c, v = .slice a n c ∧ n ≤ c ∧ c ≤ maxLen ∧ (a = none → n = 0) ∧ ∀ ad, a = some ad → S ad.block ∧ ad.spot = none ∧ ∀ j u, xs[j]? = some u → w.cell? (ad.add j) = some u
mutual
def bK (S : Nat → Prop) (w : World) : Cell → List Value → Prop
 | .mk r0 r1 r2 r3 s null items keys, vs => ∃ iv kv ixs kxs, vs = [.int .u64 r0, .int .u64 r1, .int .u64 r2, .int .u64 r3, .string s, .bool null, iv, kv] ∧
  r0 < 18446744073709551616 ∧ r1 < 18446744073709551616 ∧ r2 < 18446744073709551616 ∧ r3 < 18446744073709551616 ∧ s.size ≤ 65536 ∧
  SlS S w 8 iv items.length ixs ∧ aO S w items ixs ∧ SlS S w 8 kv keys.length kxs ∧ aO S w keys kxs
def aO (S : Nat → Prop) (w : World) : List Cell → List Value → Prop
 | [], xs => xs = []
 | c :: cs, xs => ∃ vs rest, xs = vs ++ rest ∧ bK S w c vs ∧ aO S w cs rest
end
theorem Addr.add_block (ad : Addr) (j : Nat) : (ad.add j).block = ad.block := by unfold Addr.add; split <;> rfl
theorem SlS.to {S S' F : Nat → Prop} {w w' : World} {size n : Nat} {v : Value} {xs : List Value} (h : SlS S w size v n xs) (hf : Fr F w w') (hS : ∀ q, S q → S' q ∧ ¬ F q) : SlS S' w' size v n xs := by
 obtain ⟨hl, a, c, hv, hnc, hcm, h0, ha⟩ := h
 refine ⟨hl, a, c, hv, hnc, hcm, h0, fun ad had => ?_⟩
 obtain ⟨h1, h2, h3⟩ := ha ad had
 refine ⟨(hS _ h1).1, h2, fun j u hj => hf.aA (h3 j u hj) ?_⟩
 rw [Addr.add_block]
 exact (hS _ h1).2
mutual
theorem bK.to {S S' F : Nat → Prop} {w w' : World} (hf : Fr F w w') (hS : ∀ q, S q → S' q ∧ ¬ F q) : ∀ (c : Cell) (vs : List Value), bK S w c vs → bK S' w' c vs
 | .mk r0 r1 r2 r3 s null items keys, vs => by
  unfold bK
  rintro ⟨iv, kv, ixs, kxs, h0, h1, h2, h3, h4, h5, h6, h7, h8, h9⟩
  exact ⟨iv, kv, ixs, kxs, h0, h1, h2, h3, h4, h5, h6.to hf hS, aO.to hf hS _ _ h7, h8.to hf hS, aO.to hf hS _ _ h9⟩
theorem aO.to {S S' F : Nat → Prop} {w w' : World} (hf : Fr F w w') (hS : ∀ q, S q → S' q ∧ ¬ F q) : ∀ (cs : List Cell) (xs : List Value), aO S w cs xs → aO S' w' cs xs
 | [], xs => by unfold aO; exact id
 | c :: cs, xs => by
  unfold aO
  rintro ⟨vs, rest, h0, h1, h2⟩
  exact ⟨vs, rest, h0, bK.to hf hS _ _ h1, aO.to hf hS _ _ h2⟩
end
theorem SlS.sl {S : Nat → Prop} {B : Nat} {w : World} {size n : Nat} {v : Value} {xs : List Value} (h : SlS S w size v n xs) (hS : ∀ q, S q → q < B) : Sl B w size v n xs := by
 obtain ⟨hl, a, c, hv, hnc, hcm, h0, ha⟩ := h
 exact ⟨hl, a, c, hv, hnc, hcm, h0, fun ad had => ⟨hS _ (ha ad had).1, (ha ad had).2⟩⟩
mutual
theorem bK.inn {S : Nat → Prop} {B : Nat} {w : World} (hS : ∀ q, S q → q < B) : ∀ (c : Cell) (vs : List Value), bK S w c vs → bP B w c vs
 | .mk r0 r1 r2 r3 s null items keys, vs => by
  unfold bK bP
  rintro ⟨iv, kv, ixs, kxs, h0, h1, h2, h3, h4, h5, h6, h7, h8, h9⟩
  exact ⟨iv, kv, ixs, kxs, h0, h1, h2, h3, h4, h5, h6.sl hS, aO.inn hS _ _ h7, h8.sl hS, aO.inn hS _ _ h9⟩
theorem aO.inn {S : Nat → Prop} {B : Nat} {w : World} (hS : ∀ q, S q → q < B) : ∀ (cs : List Cell) (xs : List Value), aO S w cs xs → aC B w cs xs
 | [], xs => by unfold aO aC; exact id
 | c :: cs, xs => by
  unfold aO aC
  rintro ⟨vs, rest, h0, h1, h2⟩
  exact ⟨vs, rest, h0, bK.inn hS _ _ h1, aO.inn hS _ _ h2⟩
end
theorem bK.mono {S S' : Nat → Prop} {w : World} {c : Cell} {vs : List Value} (h : bK S w c vs) (hS : ∀ q, S q → S' q) : bK S' w c vs := bK.to (Fr.refl (fun _ => False) w) (fun q hq => ⟨hS q hq, id⟩) _ _ h
theorem aO.mono {S S' : Nat → Prop} {w : World} {cs : List Cell} {vs : List Value} (h : aO S w cs vs) (hS : ∀ q, S q → S' q) : aO S' w cs vs := aO.to (Fr.refl (fun _ => False) w) (fun q hq => ⟨hS q hq, id⟩) _ _ h
theorem bK.length {S : Nat → Prop} {w : World} : ∀ {c : Cell} {vs : List Value}, bK S w c vs → vs.length = 8
 | .mk r0 r1 r2 r3 s null items keys, vs => by
  unfold bK
  rintro ⟨iv, kv, ixs, kxs, rfl, _⟩
  rfl
theorem aO.length {S : Nat → Prop} {w : World} : ∀ {cs : List Cell} {xs : List Value}, aO S w cs xs → xs.length = cs.length * 8
 | [], xs => by unfold aO; rintro rfl; rfl
 | c :: cs, xs => by
  unfold aO
  rintro ⟨vs, rest, rfl, h1, h2⟩
  rw [List.length_append, h1.length, aO.length h2, List.length_cons]
  omega
theorem aO.append {S : Nat → Prop} {w : World} : ∀ {cs ds : List Cell} {xs ys : List Value}, aO S w cs xs → aO S w ds ys → aO S w (cs ++ ds) (xs ++ ys)
 | [], ds, xs, ys => by unfold aO; rintro rfl h; simpa using h
 | c :: cs, ds, xs, ys => by
  intro h h'
  unfold aO at h
  obtain ⟨vs, rest, rfl, h1, h2⟩ := h
  rw [List.cons_append]
  unfold aO
  exact ⟨vs, rest ++ ys, by rw [List.append_assoc], h1, aO.append h2 h'⟩
theorem aO.one {S : Nat → Prop} {w : World} {c : Cell} {vs : List Value} (h : bK S w c vs) : aO S w [c] vs := by
 unfold aO
 exact ⟨vs, [], by simp, h, by unfold aO; rfl⟩
theorem aO.nil {S : Nat → Prop} {w : World} : aO S w [] [] := by unfold aO; rfl
theorem bK.full {S : Nat → Prop} {w : World} : ∀ {c : Cell} {vs : List Value}, bK S w c vs → ∃ (ia : Option Addr) (ic : Nat) (ka : Option Addr) (kc : Nat) (ixs kxs : List Value),
 vs = [.int .u64 c.r0, .int .u64 c.r1, .int .u64 c.r2, .int .u64 c.r3, .string c.s, .bool c.null, .slice ia c.items.length ic, .slice ka c.keys.length kc] ∧
  SlS S w 8 (.slice ia c.items.length ic) c.items.length ixs ∧ aO S w c.items ixs ∧ SlS S w 8 (.slice ka c.keys.length kc) c.keys.length kxs ∧ aO S w c.keys kxs
 | .mk r0 r1 r2 r3 s null items keys, vs => by
  unfold bK
  rintro ⟨iv, kv, ixs, kxs, rfl, h0, h1, h2, h3, h4, hi, hci, hk, hck⟩
  obtain ⟨ia, ic, rfl, _⟩ := hi.2
  obtain ⟨ka, kc, rfl, _⟩ := hk.2
  exact ⟨ia, ic, ka, kc, ixs, kxs, rfl, hi, hci, hk, hck⟩
theorem aAH (S : Nat → Prop) (w : World) (size : Nat) : SlS S w size (.slice none 0 0) 0 [] := ⟨by simp, none, 0, rfl, Nat.le_refl _, Nat.zero_le _, fun _ => rfl, fun ad had => by cases had⟩
theorem mM {S : Nat → Prop} {w : World} {e : TypeId} {size n : Nat} {v : Value} {xs : List Value} (h : w.ownsRow 0 e size v n xs) (hS : ∀ q, v.ownBlock = some q → S q) : SlS S w size v n xs := by
 refine ⟨h.1, ?_⟩
 rcases h.2 with ⟨rfl, rfl⟩ | ⟨g, cap, cur, rfl, _, hb, hnc, hcm, _⟩
 · exact ⟨none, 0, rfl, Nat.le_refl _, Nat.zero_le _, fun _ => rfl, fun ad had => by cases had⟩
 · refine ⟨some ⟨g, 0, none⟩, cap, rfl, hnc, hcm, nofun, fun ad had => ?_⟩
   cases had
   exact ⟨hS g rfl, rfl, fun j u hj => World.ownsRow.cells h (g := g) rfl j u hj⟩
mutual
def LTS (S : Nat → Prop) (w : World) : LT → List Value → Prop
 | .mk nm sz of, vs => ∃ ov ixs, vs = [.string (aV nm), .int .i64 sz, ov] ∧ SlS S w 3 ov of.length ixs ∧ (of = [] → ov = .slice none 0 0) ∧ fB S w of ixs
def fB (S : Nat → Prop) (w : World) : List LT → List Value → Prop
 | [], xs => xs = []
 | t :: ts, xs => ∃ vs rest, xs = vs ++ rest ∧ LTS S w t vs ∧ fB S w ts rest
end
mutual
theorem LTS.to {S S' F : Nat → Prop} {w w' : World} (hf : Fr F w w') (hS : ∀ q, S q → S' q ∧ ¬ F q) : ∀ (t : LT) (vs : List Value), LTS S w t vs → LTS S' w' t vs
 | .mk nm sz of, vs => by
  unfold LTS
  rintro ⟨ov, ixs, h0, h1, h2, h3⟩
  exact ⟨ov, ixs, h0, h1.to hf hS, h2, fB.to hf hS _ _ h3⟩
theorem fB.to {S S' F : Nat → Prop} {w w' : World} (hf : Fr F w w') (hS : ∀ q, S q → S' q ∧ ¬ F q) : ∀ (ts : List LT) (xs : List Value), fB S w ts xs → fB S' w' ts xs
 | [], xs => by unfold fB; exact id
 | t :: ts, xs => by
  unfold fB
  rintro ⟨vs, rest, h0, h1, h2⟩
  exact ⟨vs, rest, h0, LTS.to hf hS _ _ h1, fB.to hf hS _ _ h2⟩
end
mutual
theorem LTS.inn {S : Nat → Prop} {B : Nat} {w : World} (hS : ∀ q, S q → q < B) : ∀ (t : LT) (vs : List Value), LTS S w t vs → iI B w t vs
 | .mk nm sz of, vs => by
  unfold LTS iI
  rintro ⟨ov, ixs, h0, h1, _, h3⟩
  exact ⟨ov, ixs, h0, h1.sl hS, fB.inn hS _ _ h3⟩
theorem fB.inn {S : Nat → Prop} {B : Nat} {w : World} (hS : ∀ q, S q → q < B) : ∀ (ts : List LT) (xs : List Value), fB S w ts xs → dR B w ts xs
 | [], xs => by unfold fB dR; exact id
 | t :: ts, xs => by
  unfold fB dR
  rintro ⟨vs, rest, h0, h1, h2⟩
  exact ⟨vs, rest, h0, LTS.inn hS _ _ h1, fB.inn hS _ _ h2⟩
end
theorem LTS.mono {S S' : Nat → Prop} {w : World} {t : LT} {vs : List Value} (h : LTS S w t vs) (hS : ∀ q, S q → S' q) : LTS S' w t vs := LTS.to (Fr.refl (fun _ => False) w) (fun q hq => ⟨hS q hq, id⟩) _ _ h
theorem LTS.length {S : Nat → Prop} {w : World} : ∀ {t : LT} {vs : List Value}, LTS S w t vs → vs.length = 3
 | .mk nm sz of, vs => by
  unfold LTS
  rintro ⟨ov, ixs, rfl, _⟩
  rfl
theorem fB.at {S : Nat → Prop} {w : World} : ∀ {ts : List LT} {xs : List Value}, fB S w ts xs → ∀ i t, ts[i]? = some t → LTS S w t ((xs.drop (i * 3)).take 3)
 | [], xs => by intro _ i t h; simp at h
 | s :: ts, xs => by
  intro h i t ht
  unfold fB at h
  obtain ⟨vs, rest, rfl, h1, h2⟩ := h
  have hl := h1.length
  cases i with
  | zero =>
   simp only [List.getElem?_cons_zero, Option.some.injEq] at ht
   subst ht
   simpa [List.take_append, hl] using h1
  | succ i =>
   have := fB.at h2 i t (by simpa using ht)
   have e : (vs ++ rest).drop ((i + 1) * 3) = rest.drop (i * 3) := by
    rw [show (i + 1) * 3 = vs.length + i * 3 by omega, ← List.drop_drop]
    simp
   rw [e]
   exact this
theorem fB.one {S : Nat → Prop} {w : World} {t : LT} {vs : List Value} (h : LTS S w t vs) : fB S w [t] vs := by
 unfold fB
 exact ⟨vs, [], by simp, h, by unfold fB; rfl⟩
theorem fB.nil {S : Nat → Prop} {w : World} : fB S w [] [] := by unfold fB; rfl
theorem fB.append {S : Nat → Prop} {w : World} : ∀ {cs ds : List LT} {xs ys : List Value}, fB S w cs xs → fB S w ds ys → fB S w (cs ++ ds) (xs ++ ys)
 | [], ds, xs, ys => by unfold fB; rintro rfl h; simpa using h
 | c :: cs, ds, xs, ys => by
  intro h h'
  unfold fB at h
  obtain ⟨vs, rest, rfl, h1, h2⟩ := h
  rw [List.cons_append]
  unfold fB
  exact ⟨vs, rest ++ ys, by rw [List.append_assoc], h1, fB.append h2 h'⟩
theorem LTS.ty {S : Nat → Prop} {w : World} {T : Ty} {vs : List Value} (h : LTS S w T.lt vs) : ∃ ov ixs, vs = [.string (aV T.nm), .int .i64 T.sz, ov] ∧ SlS S w 3 ov T.kids.length ixs ∧ (T.kids = [] → ov = .slice none 0 0) ∧ fB S w (T.kids.map Ty.lt) ixs := by
 rw [Ty.aJB] at h
 unfold LTS at h
 obtain ⟨ov, ixs, h0, h1, h2, h3⟩ := h
 rw [List.length_map] at h1
 exact ⟨ov, ixs, h0, h1, fun e => h2 (by rw [e]; rfl), h3⟩
theorem LTS.of {S : Nat → Prop} {w : World} {T : Ty} {ov : Value} {ixs : List Value} (h1 : SlS S w 3 ov T.kids.length ixs) (h2 : T.kids = [] → ov = .slice none 0 0) (h3 : fB S w (T.kids.map Ty.lt) ixs) : LTS S w T.lt [.string (aV T.nm), .int .i64 T.sz, ov] := by
 rw [Ty.aJB]
 unfold LTS
 exact ⟨ov, ixs, rfl, by rw [List.length_map]; exact h1, fun e => h2 (List.map_eq_nil_iff.1 e), h3⟩
theorem nU {T : Ty} (hT : T.dS) : T.kids = [] := by
 cases T <;> first | rfl | exact hT.elim
theorem iO {T : Ty} (hT : T.dS) (S : Nat → Prop) (w : World) : LTS S w T.lt T.cells3 :=
 LTS.of (by rw [nU hT]; exact aAH S w 3) (fun _ => rfl) (by rw [nU hT]; exact fB.nil)
theorem lF {T : Ty} (hT : T.dS) {S : Nat → Prop} {w : World} {vs : List Value} (h : LTS S w T.lt vs) : vs = T.cells3 := by
 obtain ⟨ov, ixs, rfl, _, h2, _⟩ := h.ty
 rw [h2 (nU hT)]
 rfl
end Go.Proofs.YtcidlnjpabgioaaGreatDoor
namespace Go.Proofs.YtcidlnjpabgioaaGreatDoor
open Go.RowKit
theorem oH {α : Type} (f : Cell → List α) (m : Nat) : ∀ (l : List Cell), (∀ c ∈ l, (f c).length ≤ m * c.wt) → (l.flatMap f).length ≤ m * wts l
 | [], _ => by simp
 | c :: l, h => by
  have h1 := oH f m l (fun x hx => h x (by simp [hx]))
  have h2 := h c (by simp)
  rw [List.flatMap_cons, List.length_append, wts, Nat.mul_add]
  omega
theorem vJ (c : Cell) : 1 + c.s.size ≤ c.wt := by rw [Cell.jW]; omega
theorem aFl : ∀ (l : List Cell) (c : Cell), c ∈ l → c.wt ≤ wts l
 | [], c, h => by simp at h
 | d :: l, c, h => by
  rw [wts]
  rcases List.mem_cons.1 h with rfl | h
  · omega
  · have := aFl l c h
    omega
theorem aJj (l : List Cell) (h : wts l ≤ 1000000000) : (l.flatMap fun c => Lib.uvarint c.s.size ++ c.s.data.toList).length ≤ 10 * wts l := oH _ 10 l fun c hc => by
 have h1 := aFl l c hc
 have h2 := vJ c
 have h3 : (Lib.uvarint c.s.size).length ≤ 10 := Lib.uvarint_length64 (by omega)
 have h4 : c.s.data.toList.length = c.s.size := Array.length_toList
 rw [List.length_append, h4]
 omega
theorem aCd {T : Ty} (hT : T.dS) (l : List Cell) (h : wts l ≤ 1000000000) : (enc T l).length ≤ 32 * wts l := by
 cases T with
 | num k =>
  rw [enc]
  refine oH _ _ _ fun c _ => ?_
  have := vJ c
  unfold aJ
  rw [List.length_take]
  have : k.size ≤ 32 := by cases k <;> decide
  omega
 | str =>
  have := aJj l h
  rw [enc]
  omega
 | fix n =>
  rw [enc]
  refine oH _ _ _ fun c _ => ?_
  have := vJ c
  have : n = 5 ∨ n = 16 := hT
  unfold fitted
  rw [List.length_take]
  omega
 | _ => exact hT.elim
theorem wV : ∀ (l : List Cell), wts (l.map fun c => if c.null then Cell.zero else c) ≤ wts l
 | [] => Nat.le_refl _
 | c :: l => by
  have h1 := wV l
  have h2 := vJ c
  have h3 : (⟨#[]⟩ : ByteArray).size = 0 := rfl
  rw [List.map_cons, wts, wts]
  split
  · have : Cell.zero.wt = 1 := by rw [Cell.zero, Cell.wt, h3]; simp [wts]
    omega
  · omega
theorem aGC (l : List Cell) (h : wts l ≤ 1000000000) : (nN l).length ≤ 24 + 14 * wts l := by
 unfold nN
 split
 · simp
 · have h1 := jB l []
   have h0 : wts ([] : List Cell) = 0 := rfl
   have h2 := aJj (aU [] l) (by omega)
   have h3 := oH (fun c => Lib.leBytes (lowWide (aU [] l).length) ((aU [] l).findIdx (fA c))) 4 l fun c _ => by
    have := vJ c
    rw [Lib.leBytes_length]
    unfold lowWide
    split
    · omega
    · split <;> omega
   simp only [List.length_append, Lib.leBytes_length]
   omega
theorem zero_le {T : Ty} (h : T.dS ∨ (∃ t, T = .nul t ∧ t.dS) ∨ T = .low) (l : List Cell) (hw : wts l ≤ 1000000000) : (enc T l).length ≤ 24 + 33 * wts l := by
 rcases h with h | ⟨t, rfl, h⟩ | rfl
 · have := aCd h l hw
   omega
 · have h1 := wV l
   have h2 := aCd h _ (Nat.le_trans h1 hw)
   have h3 := aN l
   rw [enc, List.length_append, List.length_map]
   have h4 : 32 * wts (l.map fun c => if c.null then Cell.zero else c) ≤ 32 * wts l := Nat.mul_le_mul_left _ h1
   omega
 · have := aGC l hw
   rw [enc]
   omega
theorem xP (m : Nat) (l : List Cell) : ∀ (ts : List Ty) (i : Nat), (∀ t ∈ ts, ∀ j, (enc t (kC j l)).length ≤ m) → (encs ts i l).length ≤ ts.length * m
 | [], _, _ => by simp [encs]
 | t :: ts, i, h => by
  have h1 := xP m l ts (i + 1) (fun x hx => h x (by simp [hx]))
  have h2 := h t (by simp) i
  rw [encs, List.length_append, List.length_cons, Nat.succ_mul]
  unfold kC at h2
  omega
theorem sF : ∀ (d : Nat) (T : Ty), Ok d T → ∀ (l : List Cell), wts l ≤ 1000000000 → (enc T l).length ≤ 5 ^ d * (40 * (wts l + 1))
 | 0, T, h, l, hw => by
  have := zero_le h l hw
  omega
 | d + 1, T, h, l, hw => by
  have hp : 1 ≤ 5 ^ d := Nat.one_le_pow _ _ (by decide)
  have hone : 1 * (40 * (wts l + 1)) ≤ 5 ^ d * (40 * (wts l + 1)) := Nat.mul_le_mul_right _ hp
  have e5 : 5 ^ (d + 1) * (40 * (wts l + 1)) = 5 * (5 ^ d * (40 * (wts l + 1))) := by rw [Nat.pow_succ, Nat.mul_comm (5 ^ d) 5, Nat.mul_assoc]
  have mono : ∀ a, a ≤ wts l → 5 ^ d * (40 * (a + 1)) ≤ 5 ^ d * (40 * (wts l + 1)) := fun a ha => Nat.mul_le_mul_left _ (by omega)
  have hl := aN l
  rw [e5]
  rcases h with h | ⟨t, rfl, h⟩ | ⟨k, v, rfl, hk, h⟩ | ⟨ts, rfl, h1, h2, h⟩
  · have := zero_le h l hw
    omega
  · have hi := iE l
    have h3 := sF d t h (l.flatMap Cell.items) (by omega)
    have h4 := mono (wts (l.flatMap Cell.items)) (by omega)
    rw [aAI, List.length_append, eF]
    omega
  · have hi := kK l
    have hj := kH l
    have h3 := sF d v h (l.flatMap iJ) (by omega)
    have h4 := mono (wts (l.flatMap iJ)) (by omega)
    have h5 := zero_le (hk.elim .inl (fun h => .inr (.inr h))) (l.flatMap mapKeys) (by omega)
    rw [uV]
    split
    · simp
    · rw [List.length_append, List.length_append, eF]
      omega
  · have h3 := xP (5 ^ d * (40 * (wts l + 1))) l ts 0 fun t ht j => by
     have h5 := qI j l
     exact Nat.le_trans (sF d t (h t ht) (kC j l) (by omega)) (mono _ h5)
    have h4 : ts.length * (5 ^ d * (40 * (wts l + 1))) ≤ 4 * (5 ^ d * (40 * (wts l + 1))) := Nat.mul_le_mul_right _ h2
    rw [enc]
    omega
end Go.Proofs.YtcidlnjpabgioaaGreatDoor
