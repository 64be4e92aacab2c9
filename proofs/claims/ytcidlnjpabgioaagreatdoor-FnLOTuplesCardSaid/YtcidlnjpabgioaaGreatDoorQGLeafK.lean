import Derived.Test.YtcidlnjpabgioaaGreatDoorQGTree
import Derived.Test.YtcidlnjpabgioaaGreatDoorQGKa
import Derived.Test.YtcidlnjpabgioaaGreatDoorQGKb
import Derived.Test.YtcidlnjpabgioaaGreatDoorQGWide
import Derived.Test.YtcidlnjpabgioaaGreatDoorQKu8
import Derived.Test.YtcidlnjpabgioaaGreatDoorQGKc
import Derived.Test.YtcidlnjpabgioaaGreatDoorQKu64
import Derived.Test.YtcidlnjpabgioaaGreatDoorQKip4
import Derived.Test.YtcidlnjpabgioaaGreatDoorQGIp6
import Derived.Test.YtcidlnjpabgioaaGreatDoorQGArr
import Derived.Test.YtcidlnjpabgioaaGreatDoorQGMap
import Derived.Test.YtcidlnjpabgioaaGreatDoorQGLowB
import Derived.Test.YtcidlnjpabgioaaGreatDoorQGTup
import Derived.Test.YtcidlnjpabgioaaGreatDoorQGByte
namespace Go.Proofs.YtcidlnjpabgioaaGreatDoor
open Go.RowKit
theorem plain_i8 (w : World) (hk : KindsAt w) (nm : ByteArray) (hl : nm.toList = Num.i8.name) : Calls Tryz.prog 36 #[.string nm, .slice none 0 0] w (TreeSays (.num .i8) [] w) := by
 refine plain_num w hk Num.i8.name nm hl (by decide) (by decide) 1 (by decide) (by decide) (fun K h1 h2 => (by decide : ∀ K, K < 1 → 1 ≤ K → ¬ kinds.getD K [] = Num.i8.name) K h2 h1) rfl (TreeSays (.num .i8) [] w) ((i8_column w).mono ?_) TreeSays.ret
 rintro e w1 ⟨rfl, rfl⟩
 refine ⟨_, _, rfl, Invokes.of0 (i8_m_cells _ _) Tryz.call328 ((i8_made _ w.heap.size w.heap.size (Nat.le_refl _) (heap_alloc_new w _)).mono ?_)⟩
 rintro e w2 ⟨nb, fp, rfl, hR, hf⟩
 exact ⟨_, _, _, _, fp, rfl, i8_spec _ _ _, hR, ((Below.refl _ w).alloc (Nat.le_refl _) _).trans (hf.below (by simp) (fun _ _ h => h))⟩
theorem plain_i16 (w : World) (hk : KindsAt w) (nm : ByteArray) (hl : nm.toList = Num.i16.name) : Calls Tryz.prog 36 #[.string nm, .slice none 0 0] w (TreeSays (.num .i16) [] w) := by
 refine plain_num w hk Num.i16.name nm hl (by decide) (by decide) 2 (by decide) (by decide) (fun K h1 h2 => (by decide : ∀ K, K < 2 → 1 ≤ K → ¬ kinds.getD K [] = Num.i16.name) K h2 h1) rfl (TreeSays (.num .i16) [] w) ((i16_column w).mono ?_) TreeSays.ret
 rintro e w1 ⟨rfl, rfl⟩
 refine ⟨_, _, rfl, Invokes.of0 (i16_m_cells _ _) Tryz.call343 ((i16_made _ w.heap.size w.heap.size (Nat.le_refl _) (heap_alloc_new w _)).mono ?_)⟩
 rintro e w2 ⟨nb, fp, rfl, hR, hf⟩
 exact ⟨_, _, _, _, fp, rfl, i16_spec _ _ _, hR, ((Below.refl _ w).alloc (Nat.le_refl _) _).trans (hf.below (by simp) (fun _ _ h => h))⟩
theorem plain_i32 (w : World) (hk : KindsAt w) (nm : ByteArray) (hl : nm.toList = Num.i32.name) : Calls Tryz.prog 36 #[.string nm, .slice none 0 0] w (TreeSays (.num .i32) [] w) := by
 refine plain_num w hk Num.i32.name nm hl (by decide) (by decide) 3 (by decide) (by decide) (fun K h1 h2 => (by decide : ∀ K, K < 3 → 1 ≤ K → ¬ kinds.getD K [] = Num.i32.name) K h2 h1) rfl (TreeSays (.num .i32) [] w) ((i32_column w).mono ?_) TreeSays.ret
 rintro e w1 ⟨rfl, rfl⟩
 refine ⟨_, _, rfl, Invokes.of0 (i32_m_cells _ _) Tryz.call358 ((i32_made _ w.heap.size w.heap.size (Nat.le_refl _) (heap_alloc_new w _)).mono ?_)⟩
 rintro e w2 ⟨nb, fp, rfl, hR, hf⟩
 exact ⟨_, _, _, _, fp, rfl, i32_spec _ _ _, hR, ((Below.refl _ w).alloc (Nat.le_refl _) _).trans (hf.below (by simp) (fun _ _ h => h))⟩
theorem plain_i64 (w : World) (hk : KindsAt w) (nm : ByteArray) (hl : nm.toList = Num.i64.name) : Calls Tryz.prog 36 #[.string nm, .slice none 0 0] w (TreeSays (.num .i64) [] w) := by
 refine plain_num w hk Num.i64.name nm hl (by decide) (by decide) 4 (by decide) (by decide) (fun K h1 h2 => (by decide : ∀ K, K < 4 → 1 ≤ K → ¬ kinds.getD K [] = Num.i64.name) K h2 h1) rfl (TreeSays (.num .i64) [] w) ((i64_column w).mono ?_) TreeSays.ret
 rintro e w1 ⟨rfl, rfl⟩
 refine ⟨_, _, rfl, Invokes.of0 (i64_m_cells _ _) Tryz.call373 ((i64_made _ w.heap.size w.heap.size (Nat.le_refl _) (heap_alloc_new w _)).mono ?_)⟩
 rintro e w2 ⟨nb, fp, rfl, hR, hf⟩
 exact ⟨_, _, _, _, fp, rfl, i64_spec _ _ _, hR, ((Below.refl _ w).alloc (Nat.le_refl _) _).trans (hf.below (by simp) (fun _ _ h => h))⟩
theorem plain_i128 (w : World) (hk : KindsAt w) (nm : ByteArray) (hl : nm.toList = Num.i128.name) : Calls Tryz.prog 36 #[.string nm, .slice none 0 0] w (TreeSays (.num .i128) [] w) := by
 refine plain_num w hk Num.i128.name nm hl (by decide) (by decide) 5 (by decide) (by decide) (fun K h1 h2 => (by decide : ∀ K, K < 5 → 1 ≤ K → ¬ kinds.getD K [] = Num.i128.name) K h2 h1) rfl (TreeSays (.num .i128) [] w) ((i128_column w).mono ?_) TreeSays.ret
 rintro e w1 ⟨rfl, rfl⟩
 refine ⟨_, _, rfl, Invokes.of0 (i128_m_cells _ _) Tryz.call391 ((i128_made _ w.heap.size w.heap.size (Nat.le_refl _) (heap_alloc_new w _)).mono ?_)⟩
 rintro e w2 ⟨nb, fp, rfl, hR, hf⟩
 exact ⟨_, _, _, _, fp, rfl, i128_spec _ _ _, hR, ((Below.refl _ w).alloc (Nat.le_refl _) _).trans (hf.below (by simp) (fun _ _ h => h))⟩
theorem plain_u8 (w : World) (hk : KindsAt w) (nm : ByteArray) (hl : nm.toList = Num.u8.name) : Calls Tryz.prog 36 #[.string nm, .slice none 0 0] w (TreeSays (.num .u8) [] w) := by
 refine plain_num w hk Num.u8.name nm hl (by decide) (by decide) 7 (by decide) (by decide) (fun K h1 h2 => (by decide : ∀ K, K < 7 → 1 ≤ K → ¬ kinds.getD K [] = Num.u8.name) K h2 h1) rfl (TreeSays (.num .u8) [] w) ((u8_column w).mono ?_) TreeSays.ret
 rintro e w1 ⟨rfl, rfl⟩
 refine ⟨_, _, rfl, Invokes.of0 (u8_m_cells _ _) Tryz.call415 ((u8_made _ w.heap.size w.heap.size (Nat.le_refl _) (heap_alloc_new w _)).mono ?_)⟩
 rintro e w2 ⟨nb, fp, rfl, hR, hf⟩
 exact ⟨_, _, _, _, fp, rfl, u8_spec _ _ _, hR, ((Below.refl _ w).alloc (Nat.le_refl _) _).trans (hf.below (by simp) (fun _ _ h => h))⟩
theorem plain_u16 (w : World) (hk : KindsAt w) (nm : ByteArray) (hl : nm.toList = Num.u16.name) : Calls Tryz.prog 36 #[.string nm, .slice none 0 0] w (TreeSays (.num .u16) [] w) := by
 refine plain_num w hk Num.u16.name nm hl (by decide) (by decide) 8 (by decide) (by decide) (fun K h1 h2 => (by decide : ∀ K, K < 8 → 1 ≤ K → ¬ kinds.getD K [] = Num.u16.name) K h2 h1) rfl (TreeSays (.num .u16) [] w) ((u16_column w).mono ?_) TreeSays.ret
 rintro e w1 ⟨rfl, rfl⟩
 refine ⟨_, _, rfl, Invokes.of0 (u16_m_cells _ _) Tryz.call425 ((u16_made _ w.heap.size w.heap.size (Nat.le_refl _) (heap_alloc_new w _)).mono ?_)⟩
 rintro e w2 ⟨nb, fp, rfl, hR, hf⟩
 exact ⟨_, _, _, _, fp, rfl, u16_spec _ _ _, hR, ((Below.refl _ w).alloc (Nat.le_refl _) _).trans (hf.below (by simp) (fun _ _ h => h))⟩
theorem plain_u32 (w : World) (hk : KindsAt w) (nm : ByteArray) (hl : nm.toList = Num.u32.name) : Calls Tryz.prog 36 #[.string nm, .slice none 0 0] w (TreeSays (.num .u32) [] w) := by
 refine plain_num w hk Num.u32.name nm hl (by decide) (by decide) 9 (by decide) (by decide) (fun K h1 h2 => (by decide : ∀ K, K < 9 → 1 ≤ K → ¬ kinds.getD K [] = Num.u32.name) K h2 h1) rfl (TreeSays (.num .u32) [] w) ((u32_column w).mono ?_) TreeSays.ret
 rintro e w1 ⟨rfl, rfl⟩
 refine ⟨_, _, rfl, Invokes.of0 (u32_m_cells _ _) Tryz.call435 ((u32_made _ w.heap.size w.heap.size (Nat.le_refl _) (heap_alloc_new w _)).mono ?_)⟩
 rintro e w2 ⟨nb, fp, rfl, hR, hf⟩
 exact ⟨_, _, _, _, fp, rfl, u32_spec _ _ _, hR, ((Below.refl _ w).alloc (Nat.le_refl _) _).trans (hf.below (by simp) (fun _ _ h => h))⟩
theorem plain_u64 (w : World) (hk : KindsAt w) (nm : ByteArray) (hl : nm.toList = Num.u64.name) : Calls Tryz.prog 36 #[.string nm, .slice none 0 0] w (TreeSays (.num .u64) [] w) := by
 refine plain_num w hk Num.u64.name nm hl (by decide) (by decide) 10 (by decide) (by decide) (fun K h1 h2 => (by decide : ∀ K, K < 10 → 1 ≤ K → ¬ kinds.getD K [] = Num.u64.name) K h2 h1) rfl (TreeSays (.num .u64) [] w) ((u64_column w).mono ?_) TreeSays.ret
 rintro e w1 ⟨rfl, rfl⟩
 refine ⟨_, _, rfl, Invokes.of0 (u64_m_cells _ _) Tryz.call443 ((u64_made _ w.heap.size w.heap.size (Nat.le_refl _) (heap_alloc_new w _)).mono ?_)⟩
 rintro e w2 ⟨nb, fp, rfl, hR, hf⟩
 exact ⟨_, _, _, _, fp, rfl, u64_spec _ _ _, hR, ((Below.refl _ w).alloc (Nat.le_refl _) _).trans (hf.below (by simp) (fun _ _ h => h))⟩
theorem plain_u256 (w : World) (hk : KindsAt w) (nm : ByteArray) (hl : nm.toList = Num.u256.name) : Calls Tryz.prog 36 #[.string nm, .slice none 0 0] w (TreeSays (.num .u256) [] w) := by
 refine plain_num w hk Num.u256.name nm hl (by decide) (by decide) 12 (by decide) (by decide) (fun K h1 h2 => (by decide : ∀ K, K < 12 → 1 ≤ K → ¬ kinds.getD K [] = Num.u256.name) K h2 h1) rfl (TreeSays (.num .u256) [] w) ((u256_column w).mono ?_) TreeSays.ret
 rintro e w1 ⟨rfl, rfl⟩
 refine ⟨_, _, rfl, Invokes.of0 (u256_m_cells _ _) Tryz.call475 ((u256_made _ w.heap.size w.heap.size (Nat.le_refl _) (heap_alloc_new w _)).mono ?_)⟩
 rintro e w2 ⟨nb, fp, rfl, hR, hf⟩
 exact ⟨_, _, _, _, fp, rfl, u256_spec _ _ _, hR, ((Below.refl _ w).alloc (Nat.le_refl _) _).trans (hf.below (by simp) (fun _ _ h => h))⟩
theorem plain_ip4 (w : World) (hk : KindsAt w) (nm : ByteArray) (hl : nm.toList = Num.ip4.name) : Calls Tryz.prog 36 #[.string nm, .slice none 0 0] w (TreeSays (.num .ip4) [] w) := by
 refine plain_num w hk Num.ip4.name nm hl (by decide) (by decide) 17 (by decide) (by decide) (fun K h1 h2 => (by decide : ∀ K, K < 17 → 1 ≤ K → ¬ kinds.getD K [] = Num.ip4.name) K h2 h1) rfl (TreeSays (.num .ip4) [] w) ((ip4_column w).mono ?_) TreeSays.ret
 rintro e w1 ⟨rfl, rfl⟩
 refine ⟨_, _, rfl, Invokes.of0 (ip4_m_cells _ _) Tryz.call547 ((ip4_made _ w.heap.size w.heap.size (Nat.le_refl _) (heap_alloc_new w _)).mono ?_)⟩
 rintro e w2 ⟨nb, fp, rfl, hR, hf⟩
 exact ⟨_, _, _, _, fp, rfl, ip4_spec _ _ _, hR, ((Below.refl _ w).alloc (Nat.le_refl _) _).trans (hf.below (by simp) (fun _ _ h => h))⟩
theorem plain_ip6 (w : World) (hk : KindsAt w) (nm : ByteArray) (hl : nm.toList = Num.ip6.name) : Calls Tryz.prog 36 #[.string nm, .slice none 0 0] w (TreeSays (.num .ip6) [] w) := by
 refine plain_num w hk Num.ip6.name nm hl (by decide) (by decide) 18 (by decide) (by decide) (fun K h1 h2 => (by decide : ∀ K, K < 18 → 1 ≤ K → ¬ kinds.getD K [] = Num.ip6.name) K h2 h1) rfl (TreeSays (.num .ip6) [] w) ((ip6_column w).mono ?_) TreeSays.ret
 rintro e w1 ⟨rfl, rfl⟩
 refine ⟨_, _, rfl, Invokes.of0 (ip6_m_cells _ _) Tryz.call563 ((ip6_made _ w.heap.size w.heap.size (Nat.le_refl _) (heap_alloc_new w _)).mono ?_)⟩
 rintro e w2 ⟨nb, fp, rfl, hR, hf⟩
 exact ⟨_, _, _, _, fp, rfl, ip6_spec _ _ _, hR, ((Below.refl _ w).alloc (Nat.le_refl _) _).trans (hf.below (by simp) (fun _ _ h => h))⟩
theorem plain_nums (k : Num) (w : World) (hk : KindsAt w) (nm : ByteArray) (hl : nm.toList = k.name) : Calls Tryz.prog 36 #[.string nm, .slice none 0 0] w (TreeSays (.num k) [] w) := by
 cases k
 · exact plain_u8 w hk nm hl
 · exact plain_i16 w hk nm hl
 · exact plain_u32 w hk nm hl
 · exact plain_i64 w hk nm hl
 · exact plain_u64 w hk nm hl
 · exact plain_i128 w hk nm hl
 · exact plain_u256 w hk nm hl
 · exact plain_ip4 w hk nm hl
 · exact plain_ip6 w hk nm hl
 · exact plain_i8 w hk nm hl
 · exact plain_u16 w hk nm hl
 · exact plain_i32 w hk nm hl
end Go.Proofs.YtcidlnjpabgioaaGreatDoor
namespace Go.Proofs.YtcidlnjpabgioaaGreatDoor
open Go.RowKit
def Ok : Nat → Ty → Prop
 | 0, T => T.leafy ∨ (∃ t, T = .nul t ∧ t.leafy) ∨ T = .low
 | d + 1, T => (T.leafy ∨ (∃ t, T = .nul t ∧ t.leafy) ∨ T = .low) ∨ (∃ t, T = .arr t ∧ Ok d t) ∨ (∃ k v, T = .map k v ∧ (k.leafy ∨ k = .low) ∧ Ok d v) ∨ ∃ ts, T = .tup ts ∧ ts ≠ [] ∧ ts.length ≤ 4 ∧ ∀ t ∈ ts, Ok d t
theorem leafy_tree (T : Ty) (hT : T.leafy) : TreeOk T := by
 cases T with
 | num k => exact tree_num k fun w hk nm hl => plain_nums k w hk nm hl
 | str => exact tree_str
 | fix n => exact tree_fix n hT
 | _ => exact hT.elim
theorem fines_mem : ∀ (ts : List Ty), (∀ t ∈ ts, t.fine) → fines ts
 | [], _ => trivial
 | t :: ts, h => ⟨h t (by simp), fines_mem ts fun x hx => h x (by simp [hx])⟩
theorem leafy_fine' {T : Ty} (hT : T.leafy) : T.fine := by
 cases T with
 | num k => trivial
 | str => trivial
 | fix n => trivial
 | _ => exact hT.elim
theorem leafy_text' {T : Ty} (hT : T.leafy) : (text T).length ≤ 16 := by
 cases T with
 | num k => cases k <;> decide
 | str => decide
 | fix n =>
  have hd : (digits n).length ≤ 2 := by
   rcases hT with rfl | rfl
   · rw [digits_5]; decide
   · rw [digits_16]; decide
  rw [text]
  simp
  omega
 | _ => exact hT.elim
theorem leafy_st {T : Ty} (hT : T.leafy) : st T = [] := by
 cases T with
 | num k => rfl
 | str => rfl
 | fix n => rfl
 | _ => exact hT.elim
theorem texts_len : ∀ (ts : List Ty) (m : Nat), (∀ t ∈ ts, (text t).length ≤ m) → (texts ts).length ≤ ts.length * (m + 2)
 | [], m, _ => by simp [texts]
 | [t], m, h => by
  have := h t (by simp)
  rw [texts]
  simp
  omega
 | t :: t' :: ts, m, h => by
  have h1 := h t (by simp)
  have h2 := texts_len (t' :: ts) m (fun x hx => h x (by simp [hx]))
  have e : (t :: t' :: ts).length * (m + 2) = (t' :: ts).length * (m + 2) + (m + 2) := by rw [List.length_cons, Nat.succ_mul]
  rw [texts, List.length_append, List.length_append, e]
  simp only [List.length_cons (a := (44 : UInt8)), List.length_singleton]
  omega
theorem sts_len : ∀ (ts : List Ty) (m : Nat), (∀ t ∈ ts, (st t).length ≤ m) → (sts ts).length ≤ ts.length * m
 | [], m, _ => by simp [sts]
 | t :: ts, m, h => by
  have h1 := h t (by simp)
  have h2 := sts_len ts m (fun x hx => h x (by simp [hx]))
  rw [sts, List.length_append, List.length_cons, Nat.add_mul]
  omega
structure OkFacts (d : Nat) (T : Ty) : Prop where
 fine : T.fine
 text : (text T).length ≤ 60 * 5 ^ d
 st : (st T).length ≤ 8 * 5 ^ d
theorem Ok.zero {T : Ty} (h : T.leafy ∨ (∃ t, T = .nul t ∧ t.leafy) ∨ T = .low) : T.fine ∧ (text T).length ≤ 30 ∧ (st T).length ≤ 8 := by
 rcases h with h | ⟨t, rfl, h⟩ | rfl
 · have := leafy_text' h
   exact ⟨leafy_fine' h, by omega, by rw [leafy_st h]; simp⟩
 · have := leafy_text' h
   refine ⟨show t.fine from leafy_fine' h, ?_, by rw [Go.Proofs.YtcidlnjpabgioaaGreatDoor.st, leafy_st h]; simp⟩
   rw [text]
   simp
   omega
 · exact ⟨trivial, by decide, by decide⟩
theorem Ok.leaf {T : Ty} (h : T.leafy) : ∀ d, Ok d T
 | 0 => .inl h
 | _ + 1 => .inl (.inl h)
theorem Ok.low : ∀ d, Ok d .low
 | 0 => .inr (.inr rfl)
 | _ + 1 => .inl (.inr (.inr rfl))
theorem Ok.key {T : Ty} (h : T.leafy ∨ T = .low) (d : Nat) : Ok d T := h.elim (fun h => Ok.leaf h d) (fun h => h ▸ Ok.low d)
theorem Ok.facts : ∀ (d : Nat) (T : Ty), Ok d T → OkFacts d T
 | 0, T, h => by
  obtain ⟨h1, h2, h3⟩ := Ok.zero h
  exact ⟨h1, by omega, by omega⟩
 | d + 1, T, h => by
  have hp : 1 ≤ 5 ^ d := Nat.one_le_pow _ _ (by decide)
  have hp5 : 5 ^ (d + 1) = 5 * 5 ^ d := by rw [Nat.pow_succ, Nat.mul_comm]
  rcases h with h | ⟨t, rfl, h⟩ | ⟨k, v, rfl, hk, h⟩ | ⟨ts, rfl, h1, h2, h⟩
  · obtain ⟨h1, h2, h3⟩ := Ok.zero h
    exact ⟨h1, by omega, by omega⟩
  · obtain ⟨f1, f2, f3⟩ := Ok.facts d t h
    refine ⟨f1, ?_, by rw [Go.Proofs.YtcidlnjpabgioaaGreatDoor.st]; omega⟩
    rw [Go.Proofs.YtcidlnjpabgioaaGreatDoor.text]
    simp
    omega
  · obtain ⟨f1, f2, f3⟩ := Ok.facts d v h
    obtain ⟨g1, g2, g3⟩ := Ok.zero (T := k) (hk.elim .inl (fun h => .inr (.inr h)))
    refine ⟨⟨g1, f1⟩, ?_, by rw [Go.Proofs.YtcidlnjpabgioaaGreatDoor.st, List.length_append]; omega⟩
    rw [Go.Proofs.YtcidlnjpabgioaaGreatDoor.text]
    simp
    omega
  · have hf := fun t ht => Ok.facts d t (h t ht)
    have l1 := texts_len ts (60 * 5 ^ d) (fun t ht => (hf t ht).text)
    have l2 := sts_len ts (8 * 5 ^ d) (fun t ht => (hf t ht).st)
    have l3 : ts.length * (60 * 5 ^ d + 2) ≤ 4 * (60 * 5 ^ d + 2) := Nat.mul_le_mul_right _ h2
    have l4 : ts.length * (8 * 5 ^ d) ≤ 4 * (8 * 5 ^ d) := Nat.mul_le_mul_right _ h2
    refine ⟨⟨h1, fines_mem ts fun t ht => (hf t ht).fine⟩, ?_, by rw [Go.Proofs.YtcidlnjpabgioaaGreatDoor.st]; omega⟩
    rw [Go.Proofs.YtcidlnjpabgioaaGreatDoor.text]
    simp
    omega
theorem five_le {d : Nat} (h : d ≤ 4) : 5 ^ d ≤ 625 := Nat.le_trans (Nat.pow_le_pow_right (by decide) h) (by decide)
theorem Ok.small {d : Nat} {T : Ty} (h : Ok d T) (hd : d ≤ 4) : (Go.Proofs.YtcidlnjpabgioaaGreatDoor.text T).length ≤ 37500 ∧ (Go.Proofs.YtcidlnjpabgioaaGreatDoor.st T).length ≤ 5000 := by
 have := Ok.facts d T h
 have h5 := five_le hd
 exact ⟨by have := this.text; omega, by have := this.st; omega⟩
theorem tree_zero {T : Ty} (h : T.leafy ∨ (∃ t, T = .nul t ∧ t.leafy) ∨ T = .low) : TreeOk T := by
 rcases h with h | ⟨t, rfl, h⟩ | rfl
 · exact leafy_tree T h
 · exact tree_nul t (leafy_tree t h) (text_sound t (leafy_fine' h)) (by have := leafy_text' h; omega)
 · exact tree_low
theorem tree_all : ∀ (d : Nat) (T : Ty), d ≤ 4 → Ok d T → TreeOk T
 | 0, _, _, h => tree_zero h
 | d + 1, T, hd, h => by
  rcases h with h | ⟨t, rfl, h⟩ | ⟨k, v, rfl, hk, h⟩ | ⟨ts, rfl, h1, h2, h⟩
  · exact tree_zero h
  · have hs := Ok.small h (by omega)
    exact tree_arr t (tree_all d t (by omega) h) (text_sound t (Ok.facts d t h).fine) (by omega)
  · have hs := Ok.small h (by omega)
    have hk0 : Ok 0 k := Ok.key hk 0
    have hks := Ok.small hk0 (by omega)
    exact tree_map k v (tree_zero (hk.elim .inl (fun h => .inr (.inr h)))) (tree_all d v (by omega) h) (text_sound k (Ok.facts 0 k hk0).fine) (text_sound v (Ok.facts d v h).fine) (by omega)
  · have hl := texts_len ts 37500 (fun t ht => (Ok.small (h t ht) (by omega)).1)
    have l3 : ts.length * (37500 + 2) ≤ 4 * (37500 + 2) := Nat.mul_le_mul_right _ h2
    exact tree_tup ts h1 (by omega) (fun t ht => tree_all d t (by omega) (h t ht)) (fines_mem ts fun t ht => (Ok.facts d t (h t ht)).fine) (by omega)
end Go.Proofs.YtcidlnjpabgioaaGreatDoor
namespace Go.Proofs.YtcidlnjpabgioaaGreatDoor
open Go.RowKit
theorem text_zero {T : Ty} (h : T.leafy ∨ (∃ t, T = .nul t ∧ t.leafy) ∨ T = .low) : TextOk T := by
 rcases h with h | ⟨t, rfl, h⟩ | rfl
 · exact text_leafy T h
 · exact text_step _ (show t.fine from leafy_fine' h) (by simp) (fun x hx => by
    have : x = t := by simpa [Ty.kids] using hx
    exact this ▸ text_leafy t h)
 · exact text_step _ trivial (by simp) (fun x hx => by
    have : x = .str := by simpa [Ty.kids] using hx
    exact this ▸ text_leafy .str trivial)
theorem text_all : ∀ (d : Nat) (T : Ty), Ok d T → TextOk T
 | 0, _, h => text_zero h
 | d + 1, T, h => by
  have hfine := (Ok.facts (d + 1) T h).fine
  rcases h with h | ⟨t, rfl, h⟩ | ⟨k, v, rfl, hk, h⟩ | ⟨ts, rfl, h1, h2, h⟩
  · exact text_zero h
  · exact text_step _ hfine (by simp) (fun x hx => by
     have : x = t := by simpa [Ty.kids] using hx
     exact this ▸ text_all d t h)
  · refine text_step _ hfine (by simp) (fun x hx => ?_)
    have hx : x = k ∨ x = v := by simpa [Ty.kids] using hx
    rcases hx with rfl | rfl
    · exact text_zero (hk.elim .inl (fun h => .inr (.inr h)))
    · exact text_all d _ h
  · exact text_step _ hfine (by simp) (fun x hx => text_all d x (h x hx))
def SlS (S : Nat → Prop) (w : World) (size : Nat) (v : Value) (n : Nat) (xs : List Value) : Prop :=
 xs.length = n * size ∧ ∃ a c, v = .slice a n c ∧ n ≤ c ∧ c ≤ maxLen ∧ (a = none → n = 0) ∧ ∀ ad, a = some ad → S ad.block ∧ ad.spot = none ∧ ∀ j u, xs[j]? = some u → w.cell? (ad.add j) = some u
mutual
def CellS (S : Nat → Prop) (w : World) : Cell → List Value → Prop
 | .mk r0 r1 r2 r3 s null items keys, vs => ∃ iv kv ixs kxs, vs = [.int .u64 r0, .int .u64 r1, .int .u64 r2, .int .u64 r3, .string s, .bool null, iv, kv] ∧
  r0 < 18446744073709551616 ∧ r1 < 18446744073709551616 ∧ r2 < 18446744073709551616 ∧ r3 < 18446744073709551616 ∧ s.size ≤ 65536 ∧
  SlS S w 8 iv items.length ixs ∧ CellsS S w items ixs ∧ SlS S w 8 kv keys.length kxs ∧ CellsS S w keys kxs
def CellsS (S : Nat → Prop) (w : World) : List Cell → List Value → Prop
 | [], xs => xs = []
 | c :: cs, xs => ∃ vs rest, xs = vs ++ rest ∧ CellS S w c vs ∧ CellsS S w cs rest
end
theorem Addr.add_block (ad : Addr) (j : Nat) : (ad.add j).block = ad.block := by unfold Addr.add; split <;> rfl
theorem SlS.to {S S' F : Nat → Prop} {w w' : World} {size n : Nat} {v : Value} {xs : List Value} (h : SlS S w size v n xs) (hf : Fr F w w') (hS : ∀ q, S q → S' q ∧ ¬ F q) : SlS S' w' size v n xs := by
 obtain ⟨hl, a, c, hv, hnc, hcm, h0, ha⟩ := h
 refine ⟨hl, a, c, hv, hnc, hcm, h0, fun ad had => ?_⟩
 obtain ⟨h1, h2, h3⟩ := ha ad had
 refine ⟨(hS _ h1).1, h2, fun j u hj => hf.cell_some (h3 j u hj) ?_⟩
 rw [Addr.add_block]
 exact (hS _ h1).2
mutual
theorem CellS.to {S S' F : Nat → Prop} {w w' : World} (hf : Fr F w w') (hS : ∀ q, S q → S' q ∧ ¬ F q) : ∀ (c : Cell) (vs : List Value), CellS S w c vs → CellS S' w' c vs
 | .mk r0 r1 r2 r3 s null items keys, vs => by
  unfold CellS
  rintro ⟨iv, kv, ixs, kxs, h0, h1, h2, h3, h4, h5, h6, h7, h8, h9⟩
  exact ⟨iv, kv, ixs, kxs, h0, h1, h2, h3, h4, h5, h6.to hf hS, CellsS.to hf hS _ _ h7, h8.to hf hS, CellsS.to hf hS _ _ h9⟩
theorem CellsS.to {S S' F : Nat → Prop} {w w' : World} (hf : Fr F w w') (hS : ∀ q, S q → S' q ∧ ¬ F q) : ∀ (cs : List Cell) (xs : List Value), CellsS S w cs xs → CellsS S' w' cs xs
 | [], xs => by unfold CellsS; exact id
 | c :: cs, xs => by
  unfold CellsS
  rintro ⟨vs, rest, h0, h1, h2⟩
  exact ⟨vs, rest, h0, CellS.to hf hS _ _ h1, CellsS.to hf hS _ _ h2⟩
end
theorem SlS.sl {S : Nat → Prop} {B : Nat} {w : World} {size n : Nat} {v : Value} {xs : List Value} (h : SlS S w size v n xs) (hS : ∀ q, S q → q < B) : Sl B w size v n xs := by
 obtain ⟨hl, a, c, hv, hnc, hcm, h0, ha⟩ := h
 exact ⟨hl, a, c, hv, hnc, hcm, h0, fun ad had => ⟨hS _ (ha ad had).1, (ha ad had).2⟩⟩
mutual
theorem CellS.inn {S : Nat → Prop} {B : Nat} {w : World} (hS : ∀ q, S q → q < B) : ∀ (c : Cell) (vs : List Value), CellS S w c vs → CellIn B w c vs
 | .mk r0 r1 r2 r3 s null items keys, vs => by
  unfold CellS CellIn
  rintro ⟨iv, kv, ixs, kxs, h0, h1, h2, h3, h4, h5, h6, h7, h8, h9⟩
  exact ⟨iv, kv, ixs, kxs, h0, h1, h2, h3, h4, h5, h6.sl hS, CellsS.inn hS _ _ h7, h8.sl hS, CellsS.inn hS _ _ h9⟩
theorem CellsS.inn {S : Nat → Prop} {B : Nat} {w : World} (hS : ∀ q, S q → q < B) : ∀ (cs : List Cell) (xs : List Value), CellsS S w cs xs → CellsIn B w cs xs
 | [], xs => by unfold CellsS CellsIn; exact id
 | c :: cs, xs => by
  unfold CellsS CellsIn
  rintro ⟨vs, rest, h0, h1, h2⟩
  exact ⟨vs, rest, h0, CellS.inn hS _ _ h1, CellsS.inn hS _ _ h2⟩
end
theorem CellS.mono {S S' : Nat → Prop} {w : World} {c : Cell} {vs : List Value} (h : CellS S w c vs) (hS : ∀ q, S q → S' q) : CellS S' w c vs := CellS.to (Fr.refl (fun _ => False) w) (fun q hq => ⟨hS q hq, id⟩) _ _ h
theorem CellsS.mono {S S' : Nat → Prop} {w : World} {cs : List Cell} {vs : List Value} (h : CellsS S w cs vs) (hS : ∀ q, S q → S' q) : CellsS S' w cs vs := CellsS.to (Fr.refl (fun _ => False) w) (fun q hq => ⟨hS q hq, id⟩) _ _ h
theorem CellS.length {S : Nat → Prop} {w : World} : ∀ {c : Cell} {vs : List Value}, CellS S w c vs → vs.length = 8
 | .mk r0 r1 r2 r3 s null items keys, vs => by
  unfold CellS
  rintro ⟨iv, kv, ixs, kxs, rfl, _⟩
  rfl
theorem CellsS.length {S : Nat → Prop} {w : World} : ∀ {cs : List Cell} {xs : List Value}, CellsS S w cs xs → xs.length = cs.length * 8
 | [], xs => by unfold CellsS; rintro rfl; rfl
 | c :: cs, xs => by
  unfold CellsS
  rintro ⟨vs, rest, rfl, h1, h2⟩
  rw [List.length_append, h1.length, CellsS.length h2, List.length_cons]
  omega
theorem CellsS.append {S : Nat → Prop} {w : World} : ∀ {cs ds : List Cell} {xs ys : List Value}, CellsS S w cs xs → CellsS S w ds ys → CellsS S w (cs ++ ds) (xs ++ ys)
 | [], ds, xs, ys => by unfold CellsS; rintro rfl h; simpa using h
 | c :: cs, ds, xs, ys => by
  intro h h'
  unfold CellsS at h
  obtain ⟨vs, rest, rfl, h1, h2⟩ := h
  rw [List.cons_append]
  unfold CellsS
  exact ⟨vs, rest ++ ys, by rw [List.append_assoc], h1, CellsS.append h2 h'⟩
theorem CellsS.one {S : Nat → Prop} {w : World} {c : Cell} {vs : List Value} (h : CellS S w c vs) : CellsS S w [c] vs := by
 unfold CellsS
 exact ⟨vs, [], by simp, h, by unfold CellsS; rfl⟩
theorem CellsS.nil {S : Nat → Prop} {w : World} : CellsS S w [] [] := by unfold CellsS; rfl
theorem CellS.full {S : Nat → Prop} {w : World} : ∀ {c : Cell} {vs : List Value}, CellS S w c vs → ∃ (ia : Option Addr) (ic : Nat) (ka : Option Addr) (kc : Nat) (ixs kxs : List Value),
 vs = [.int .u64 c.r0, .int .u64 c.r1, .int .u64 c.r2, .int .u64 c.r3, .string c.s, .bool c.null, .slice ia c.items.length ic, .slice ka c.keys.length kc] ∧
  SlS S w 8 (.slice ia c.items.length ic) c.items.length ixs ∧ CellsS S w c.items ixs ∧ SlS S w 8 (.slice ka c.keys.length kc) c.keys.length kxs ∧ CellsS S w c.keys kxs
 | .mk r0 r1 r2 r3 s null items keys, vs => by
  unfold CellS
  rintro ⟨iv, kv, ixs, kxs, rfl, h0, h1, h2, h3, h4, hi, hci, hk, hck⟩
  obtain ⟨ia, ic, rfl, _⟩ := hi.2
  obtain ⟨ka, kc, rfl, _⟩ := hk.2
  exact ⟨ia, ic, ka, kc, ixs, kxs, rfl, hi, hci, hk, hck⟩
theorem nil_slS (S : Nat → Prop) (w : World) (size : Nat) : SlS S w size (.slice none 0 0) 0 [] := ⟨by simp, none, 0, rfl, Nat.le_refl _, Nat.zero_le _, fun _ => rfl, fun ad had => by cases had⟩
theorem own_slS {S : Nat → Prop} {w : World} {e : TypeId} {size n : Nat} {v : Value} {xs : List Value} (h : w.ownsRow 0 e size v n xs) (hS : ∀ q, v.ownBlock = some q → S q) : SlS S w size v n xs := by
 refine ⟨h.1, ?_⟩
 rcases h.2 with ⟨rfl, rfl⟩ | ⟨g, cap, cur, rfl, _, hb, hnc, hcm, _⟩
 · exact ⟨none, 0, rfl, Nat.le_refl _, Nat.zero_le _, fun _ => rfl, fun ad had => by cases had⟩
 · refine ⟨some ⟨g, 0, none⟩, cap, rfl, hnc, hcm, nofun, fun ad had => ?_⟩
   cases had
   exact ⟨hS g rfl, rfl, fun j u hj => World.ownsRow.cells h (g := g) rfl j u hj⟩
mutual
def LTS (S : Nat → Prop) (w : World) : LT → List Value → Prop
 | .mk nm sz of, vs => ∃ ov ixs, vs = [.string (bstr nm), .int .i64 sz, ov] ∧ SlS S w 3 ov of.length ixs ∧ (of = [] → ov = .slice none 0 0) ∧ LTsS S w of ixs
def LTsS (S : Nat → Prop) (w : World) : List LT → List Value → Prop
 | [], xs => xs = []
 | t :: ts, xs => ∃ vs rest, xs = vs ++ rest ∧ LTS S w t vs ∧ LTsS S w ts rest
end
mutual
theorem LTS.to {S S' F : Nat → Prop} {w w' : World} (hf : Fr F w w') (hS : ∀ q, S q → S' q ∧ ¬ F q) : ∀ (t : LT) (vs : List Value), LTS S w t vs → LTS S' w' t vs
 | .mk nm sz of, vs => by
  unfold LTS
  rintro ⟨ov, ixs, h0, h1, h2, h3⟩
  exact ⟨ov, ixs, h0, h1.to hf hS, h2, LTsS.to hf hS _ _ h3⟩
theorem LTsS.to {S S' F : Nat → Prop} {w w' : World} (hf : Fr F w w') (hS : ∀ q, S q → S' q ∧ ¬ F q) : ∀ (ts : List LT) (xs : List Value), LTsS S w ts xs → LTsS S' w' ts xs
 | [], xs => by unfold LTsS; exact id
 | t :: ts, xs => by
  unfold LTsS
  rintro ⟨vs, rest, h0, h1, h2⟩
  exact ⟨vs, rest, h0, LTS.to hf hS _ _ h1, LTsS.to hf hS _ _ h2⟩
end
mutual
theorem LTS.inn {S : Nat → Prop} {B : Nat} {w : World} (hS : ∀ q, S q → q < B) : ∀ (t : LT) (vs : List Value), LTS S w t vs → LTIn B w t vs
 | .mk nm sz of, vs => by
  unfold LTS LTIn
  rintro ⟨ov, ixs, h0, h1, _, h3⟩
  exact ⟨ov, ixs, h0, h1.sl hS, LTsS.inn hS _ _ h3⟩
theorem LTsS.inn {S : Nat → Prop} {B : Nat} {w : World} (hS : ∀ q, S q → q < B) : ∀ (ts : List LT) (xs : List Value), LTsS S w ts xs → LTsIn B w ts xs
 | [], xs => by unfold LTsS LTsIn; exact id
 | t :: ts, xs => by
  unfold LTsS LTsIn
  rintro ⟨vs, rest, h0, h1, h2⟩
  exact ⟨vs, rest, h0, LTS.inn hS _ _ h1, LTsS.inn hS _ _ h2⟩
end
theorem LTS.mono {S S' : Nat → Prop} {w : World} {t : LT} {vs : List Value} (h : LTS S w t vs) (hS : ∀ q, S q → S' q) : LTS S' w t vs := LTS.to (Fr.refl (fun _ => False) w) (fun q hq => ⟨hS q hq, id⟩) _ _ h
theorem LTS.length {S : Nat → Prop} {w : World} : ∀ {t : LT} {vs : List Value}, LTS S w t vs → vs.length = 3
 | .mk nm sz of, vs => by
  unfold LTS
  rintro ⟨ov, ixs, rfl, _⟩
  rfl
theorem LTsS.at {S : Nat → Prop} {w : World} : ∀ {ts : List LT} {xs : List Value}, LTsS S w ts xs → ∀ i t, ts[i]? = some t → LTS S w t ((xs.drop (i * 3)).take 3)
 | [], xs => by intro _ i t h; simp at h
 | s :: ts, xs => by
  intro h i t ht
  unfold LTsS at h
  obtain ⟨vs, rest, rfl, h1, h2⟩ := h
  have hl := h1.length
  cases i with
  | zero =>
   simp only [List.getElem?_cons_zero, Option.some.injEq] at ht
   subst ht
   simpa [List.take_append, hl] using h1
  | succ i =>
   have := LTsS.at h2 i t (by simpa using ht)
   have e : (vs ++ rest).drop ((i + 1) * 3) = rest.drop (i * 3) := by
    rw [show (i + 1) * 3 = vs.length + i * 3 by omega, ← List.drop_drop]
    simp
   rw [e]
   exact this
theorem LTsS.one {S : Nat → Prop} {w : World} {t : LT} {vs : List Value} (h : LTS S w t vs) : LTsS S w [t] vs := by
 unfold LTsS
 exact ⟨vs, [], by simp, h, by unfold LTsS; rfl⟩
theorem LTsS.nil {S : Nat → Prop} {w : World} : LTsS S w [] [] := by unfold LTsS; rfl
theorem LTsS.append {S : Nat → Prop} {w : World} : ∀ {cs ds : List LT} {xs ys : List Value}, LTsS S w cs xs → LTsS S w ds ys → LTsS S w (cs ++ ds) (xs ++ ys)
 | [], ds, xs, ys => by unfold LTsS; rintro rfl h; simpa using h
 | c :: cs, ds, xs, ys => by
  intro h h'
  unfold LTsS at h
  obtain ⟨vs, rest, rfl, h1, h2⟩ := h
  rw [List.cons_append]
  unfold LTsS
  exact ⟨vs, rest ++ ys, by rw [List.append_assoc], h1, LTsS.append h2 h'⟩
theorem LTS.ty {S : Nat → Prop} {w : World} {T : Ty} {vs : List Value} (h : LTS S w T.lt vs) : ∃ ov ixs, vs = [.string (bstr T.nm), .int .i64 T.sz, ov] ∧ SlS S w 3 ov T.kids.length ixs ∧ (T.kids = [] → ov = .slice none 0 0) ∧ LTsS S w (T.kids.map Ty.lt) ixs := by
 rw [Ty.lt_eq] at h
 unfold LTS at h
 obtain ⟨ov, ixs, h0, h1, h2, h3⟩ := h
 rw [List.length_map] at h1
 exact ⟨ov, ixs, h0, h1, fun e => h2 (by rw [e]; rfl), h3⟩
theorem LTS.of {S : Nat → Prop} {w : World} {T : Ty} {ov : Value} {ixs : List Value} (h1 : SlS S w 3 ov T.kids.length ixs) (h2 : T.kids = [] → ov = .slice none 0 0) (h3 : LTsS S w (T.kids.map Ty.lt) ixs) : LTS S w T.lt [.string (bstr T.nm), .int .i64 T.sz, ov] := by
 rw [Ty.lt_eq]
 unfold LTS
 exact ⟨ov, ixs, rfl, by rw [List.length_map]; exact h1, fun e => h2 (List.map_eq_nil_iff.1 e), h3⟩
theorem leafy_kids {T : Ty} (hT : T.leafy) : T.kids = [] := by
 cases T <;> first | rfl | exact hT.elim
theorem leafy_lts {T : Ty} (hT : T.leafy) (S : Nat → Prop) (w : World) : LTS S w T.lt T.cells3 :=
 LTS.of (by rw [leafy_kids hT]; exact nil_slS S w 3) (fun _ => rfl) (by rw [leafy_kids hT]; exact LTsS.nil)
theorem leafy_cells3 {T : Ty} (hT : T.leafy) {S : Nat → Prop} {w : World} {vs : List Value} (h : LTS S w T.lt vs) : vs = T.cells3 := by
 obtain ⟨ov, ixs, rfl, _, h2, _⟩ := h.ty
 rw [h2 (leafy_kids hT)]
 rfl
end Go.Proofs.YtcidlnjpabgioaaGreatDoor
namespace Go.Proofs.YtcidlnjpabgioaaGreatDoor
open Go.RowKit
theorem flat_le {α : Type} (f : Cell → List α) (m : Nat) : ∀ (l : List Cell), (∀ c ∈ l, (f c).length ≤ m * c.wt) → (l.flatMap f).length ≤ m * wts l
 | [], _ => by simp
 | c :: l, h => by
  have h1 := flat_le f m l (fun x hx => h x (by simp [hx]))
  have h2 := h c (by simp)
  rw [List.flatMap_cons, List.length_append, wts, Nat.mul_add]
  omega
theorem wt_pos (c : Cell) : 1 + c.s.size ≤ c.wt := by rw [Cell.wt_eq]; omega
theorem mem_wts : ∀ (l : List Cell) (c : Cell), c ∈ l → c.wt ≤ wts l
 | [], c, h => by simp at h
 | d :: l, c, h => by
  rw [wts]
  rcases List.mem_cons.1 h with rfl | h
  · omega
  · have := mem_wts l c h
    omega
theorem str_le (l : List Cell) (h : wts l ≤ 1000000000) : (l.flatMap fun c => Lib.uvarint c.s.size ++ c.s.data.toList).length ≤ 10 * wts l := flat_le _ 10 l fun c hc => by
 have h1 := mem_wts l c hc
 have h2 := wt_pos c
 have h3 : (Lib.uvarint c.s.size).length ≤ 10 := Lib.uvarint_length64 (by omega)
 have h4 : c.s.data.toList.length = c.s.size := Array.length_toList
 rw [List.length_append, h4]
 omega
theorem leafy_le {T : Ty} (hT : T.leafy) (l : List Cell) (h : wts l ≤ 1000000000) : (enc T l).length ≤ 32 * wts l := by
 cases T with
 | num k =>
  rw [enc]
  refine flat_le _ _ _ fun c _ => ?_
  have := wt_pos c
  unfold numBytes
  rw [List.length_take]
  have : k.size ≤ 32 := by cases k <;> decide
  omega
 | str =>
  have := str_le l h
  rw [enc]
  omega
 | fix n =>
  rw [enc]
  refine flat_le _ _ _ fun c _ => ?_
  have := wt_pos c
  have : n = 5 ∨ n = 16 := hT
  unfold fitted
  rw [List.length_take]
  omega
 | _ => exact hT.elim
theorem nulled_wts : ∀ (l : List Cell), wts (l.map fun c => if c.null then Cell.zero else c) ≤ wts l
 | [] => Nat.le_refl _
 | c :: l => by
  have h1 := nulled_wts l
  have h2 := wt_pos c
  have h3 : (⟨#[]⟩ : ByteArray).size = 0 := rfl
  rw [List.map_cons, wts, wts]
  split
  · have : Cell.zero.wt = 1 := by rw [Cell.zero, Cell.wt, h3]; simp [wts]
    omega
  · omega
theorem encLow_le (l : List Cell) (h : wts l ≤ 1000000000) : (encLow l).length ≤ 24 + 14 * wts l := by
 unfold encLow
 split
 · simp
 · have h1 := lowIdx_wts l []
   have h0 : wts ([] : List Cell) = 0 := rfl
   have h2 := str_le (lowIdx [] l) (by omega)
   have h3 := flat_le (fun c => Lib.leBytes (lowWide (lowIdx [] l).length) ((lowIdx [] l).findIdx (keyB c))) 4 l fun c _ => by
    have := wt_pos c
    rw [Lib.leBytes_length]
    unfold lowWide
    split
    · omega
    · split <;> omega
   simp only [List.length_append, Lib.leBytes_length]
   omega
theorem zero_le {T : Ty} (h : T.leafy ∨ (∃ t, T = .nul t ∧ t.leafy) ∨ T = .low) (l : List Cell) (hw : wts l ≤ 1000000000) : (enc T l).length ≤ 24 + 33 * wts l := by
 rcases h with h | ⟨t, rfl, h⟩ | rfl
 · have := leafy_le h l hw
   omega
 · have h1 := nulled_wts l
   have h2 := leafy_le h _ (Nat.le_trans h1 hw)
   have h3 := length_le_wts l
   rw [enc, List.length_append, List.length_map]
   have h4 : 32 * wts (l.map fun c => if c.null then Cell.zero else c) ≤ 32 * wts l := Nat.mul_le_mul_left _ h1
   omega
 · have := encLow_le l hw
   rw [enc]
   omega
theorem encs_bound (m : Nat) (l : List Cell) : ∀ (ts : List Ty) (i : Nat), (∀ t ∈ ts, ∀ j, (enc t (nthc j l)).length ≤ m) → (encs ts i l).length ≤ ts.length * m
 | [], _, _ => by simp [encs]
 | t :: ts, i, h => by
  have h1 := encs_bound m l ts (i + 1) (fun x hx => h x (by simp [hx]))
  have h2 := h t (by simp) i
  rw [encs, List.length_append, List.length_cons, Nat.succ_mul]
  unfold nthc at h2
  omega
theorem enc_le : ∀ (d : Nat) (T : Ty), Ok d T → ∀ (l : List Cell), wts l ≤ 1000000000 → (enc T l).length ≤ 5 ^ d * (40 * (wts l + 1))
 | 0, T, h, l, hw => by
  have := zero_le h l hw
  omega
 | d + 1, T, h, l, hw => by
  have hp : 1 ≤ 5 ^ d := Nat.one_le_pow _ _ (by decide)
  have hone : 1 * (40 * (wts l + 1)) ≤ 5 ^ d * (40 * (wts l + 1)) := Nat.mul_le_mul_right _ hp
  have e5 : 5 ^ (d + 1) * (40 * (wts l + 1)) = 5 * (5 ^ d * (40 * (wts l + 1))) := by rw [Nat.pow_succ, Nat.mul_comm (5 ^ d) 5, Nat.mul_assoc]
  have mono : ∀ a, a ≤ wts l → 5 ^ d * (40 * (a + 1)) ≤ 5 ^ d * (40 * (wts l + 1)) := fun a ha => Nat.mul_le_mul_left _ (by omega)
  have hl := length_le_wts l
  rw [e5]
  rcases h with h | ⟨t, rfl, h⟩ | ⟨k, v, rfl, hk, h⟩ | ⟨ts, rfl, h1, h2, h⟩
  · have := zero_le h l hw
    omega
  · have hi := items_wts l
    have h3 := enc_le d t h (l.flatMap Cell.items) (by omega)
    have h4 := mono (wts (l.flatMap Cell.items)) (by omega)
    rw [enc_arr, List.length_append, offsets_length]
    omega
  · have hi := mapKeys_wts l
    have hj := mapVals_wts l
    have h3 := enc_le d v h (l.flatMap mapVals) (by omega)
    have h4 := mono (wts (l.flatMap mapVals)) (by omega)
    have h5 := zero_le (hk.elim .inl (fun h => .inr (.inr h))) (l.flatMap mapKeys) (by omega)
    rw [enc_map]
    split
    · simp
    · rw [List.length_append, List.length_append, offsets_length]
      omega
  · have h3 := encs_bound (5 ^ d * (40 * (wts l + 1))) l ts 0 fun t ht j => by
     have h5 := nthc_wts j l
     exact Nat.le_trans (enc_le d t (h t ht) (nthc j l) (by omega)) (mono _ h5)
    have h4 : ts.length * (5 ^ d * (40 * (wts l + 1))) ≤ 4 * (5 ^ d * (40 * (wts l + 1))) := Nat.mul_le_mul_right _ h2
    rw [enc]
    omega
end Go.Proofs.YtcidlnjpabgioaaGreatDoor
