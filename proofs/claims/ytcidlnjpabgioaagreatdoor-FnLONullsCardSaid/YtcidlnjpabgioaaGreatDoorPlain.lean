import Derived.Test.YtcidlnjpabgioaaGreatDoorBase
import Derived.Lib.Endian
import Derived.Lib.Varint
namespace Go.Proofs.YtcidlnjpabgioaaGreatDoor
open Go.RowKit

/-! ## Rows and types, in plain Lean -/
/-- A row: the four words of a number, a text, null, items, keys. -/
inductive Cell where
  | mk (r0 r1 r2 r3 : Nat) (s : ByteArray) (null : Bool) (items keys : List Cell)

namespace Cell
def r0 : Cell → Nat | mk a _ _ _ _ _ _ _ => a
def r1 : Cell → Nat | mk _ a _ _ _ _ _ _ => a
def r2 : Cell → Nat | mk _ _ a _ _ _ _ _ => a
def r3 : Cell → Nat | mk _ _ _ a _ _ _ _ => a
def s : Cell → ByteArray | mk _ _ _ _ a _ _ _ => a
def null : Cell → Bool | mk _ _ _ _ _ a _ _ => a
def items : Cell → List Cell | mk _ _ _ _ _ _ a _ => a
def keys : Cell → List Cell | mk _ _ _ _ _ _ _ a => a
/-- The zero value. -/
def zero : Cell := mk 0 0 0 0 ⟨#[]⟩ false [] []
end Cell

/-- The words of a row are words, its text is short. -/
def Cell.small (c : Cell) : Prop := c.r0 < 18446744073709551616 ∧ c.r1 < 18446744073709551616 ∧ c.r2 < 18446744073709551616 ∧ c.r3 < 18446744073709551616 ∧ c.s.size ≤ 65536

mutual
/-- How much a row weighs: itself, its text, all rows in it. -/
def Cell.wt : Cell → Nat
  | .mk _ _ _ _ s _ items keys => 1 + s.size + wts items + wts keys
def wts : List Cell → Nat
  | [] => 0
  | c :: cs => c.wt + wts cs
end
theorem Cell.wt_eq (c : Cell) : c.wt = 1 + c.s.size + wts c.items + wts c.keys := by
  cases c
  rw [Cell.wt]
  rfl
theorem wts_append : ∀ (a b : List Cell), wts (a ++ b) = wts a + wts b
  | [], b => by rw [List.nil_append, wts]; omega
  | c :: a, b => by rw [List.cons_append, wts, wts, wts_append a b]; omega
theorem length_le_wts : ∀ (a : List Cell), a.length ≤ wts a
  | [] => by simp
  | c :: a => by
    have := length_le_wts a
    rw [wts, List.length_cons, Cell.wt_eq]
    omega
theorem wts_take (a : List Cell) (k : Nat) : wts (a.take k) ≤ wts a := by
  have := wts_append (a.take k) (a.drop k)
  rw [List.take_append_drop] at this
  omega

/-- The twelve types of numbers that occur. -/
inductive Num where
  | u8 | i16 | u32 | i64 | u64 | i128 | u256 | ip4 | ip6 | i8 | u16 | i32
  deriving DecidableEq

def Num.size : Num → Nat
  | u8 | i8 => 1 | i16 | u16 => 2 | u32 | ip4 | i32 => 4 | i64 | u64 => 8 | i128 | ip6 => 16 | u256 => 32

def Num.name : Num → List UInt8
  | u8 => [85, 73, 110, 116, 56]
  | i16 => [73, 110, 116, 49, 54]
  | u32 => [85, 73, 110, 116, 51, 50]
  | i64 => [73, 110, 116, 54, 52]
  | u64 => [85, 73, 110, 116, 54, 52]
  | i128 => [73, 110, 116, 49, 50, 56]
  | u256 => [85, 73, 110, 116, 50, 53, 54]
  | ip4 => [73, 80, 118, 52]
  | ip6 => [73, 80, 118, 54]
  | i8 => [73, 110, 116, 56]
  | u16 => [85, 73, 110, 116, 49, 54]
  | i32 => [73, 110, 116, 51, 50]

inductive Ty where
  | num (k : Num) | str | fix (n : Nat) | nul (t : Ty) | low | arr (t : Ty) | map (k v : Ty) | tup (ts : List Ty)

/-- The lowest 'size' bytes of a row's words. -/
def numBytes (n : Nat) (c : Cell) : List UInt8 := (Lib.leBytes 8 c.r0 ++ Lib.leBytes 8 c.r1 ++ Lib.leBytes 8 c.r2 ++ Lib.leBytes 8 c.r3).take n

/-- A text, with zeros behind it, or cut. -/
def fitted (n : Nat) (s : ByteArray) : List UInt8 := (s.data.toList ++ List.replicate n 0).take n

/-- Where each row's items end. -/
def offsets (f : Cell → Nat) : Nat → List Cell → List UInt8
  | _, [] => []
  | n, c :: cs => Lib.leBytes 8 (n + f c) ++ offsets f (n + f c) cs

def Cell.pairs (c : Cell) : List (Cell × Cell) := c.keys.zip c.items
def Cell.keyed (c : Cell) : Cell := .mk c.r0 c.r1 c.r2 c.r3 c.s false [] []

mutual
/-- The column of rows of a type, as bytes. -/
def enc : Ty → List Cell → List UInt8
  | .num k, cs => cs.flatMap (numBytes k.size)
  | .str, cs => cs.flatMap fun c => Lib.uvarint c.s.size ++ c.s.data.toList
  | .fix n, cs => cs.flatMap fun c => fitted n c.s
  | .nul t, cs => (cs.map fun c => if c.null then 1 else 0) ++ enc t (cs.map fun c => if c.null then Cell.zero else c)
  | .low, _ => []
  | .arr t, cs => offsets (fun c => c.items.length) 0 cs ++ enc t (cs.flatMap Cell.items)
  | .map k v, cs => if cs = [] then [] else offsets (fun c => c.pairs.length) 0 cs ++ enc k (cs.flatMap fun c => c.pairs.map fun p => p.1.keyed) ++ enc v (cs.flatMap fun c => c.pairs.map (·.2))
  | .tup ts, cs => encs ts 0 cs
def encs : List Ty → Nat → List Cell → List UInt8
  | [], _, _ => []
  | t :: ts, i, cs => enc t (cs.map fun c => c.items.getD i Cell.zero) ++ encs ts (i + 1) cs
end

/-! ## In memory -/
/-- The slice v, of n elements of 'size' cells each, holds the cells xs, in blocks below B. -/
def Sl (B : Nat) (w : World) (size : Nat) (v : Value) (n : Nat) (xs : List Value) : Prop :=
  xs.length = n * size ∧ ∃ a c, v = .slice a n c ∧ n ≤ c ∧ c ≤ maxLen ∧ (a = none → n = 0) ∧ ∀ ad, a = some ad → ad.block < B ∧ ad.spot = none ∧ ∀ j u, xs[j]? = some u → w.cell? (ad.add j) = some u

mutual
/-- The cells vs are a row c, what it leads to in blocks below B. -/
def CellIn (B : Nat) (w : World) : Cell → List Value → Prop
  | .mk r0 r1 r2 r3 s null items keys, vs => ∃ iv kv ixs kxs, vs = [.int .u64 r0, .int .u64 r1, .int .u64 r2, .int .u64 r3, .string s, .bool null, iv, kv] ∧
      r0 < 18446744073709551616 ∧ r1 < 18446744073709551616 ∧ r2 < 18446744073709551616 ∧ r3 < 18446744073709551616 ∧ s.size ≤ 65536 ∧
      Sl B w 8 iv items.length ixs ∧ CellsIn B w items ixs ∧ Sl B w 8 kv keys.length kxs ∧ CellsIn B w keys kxs
def CellsIn (B : Nat) (w : World) : List Cell → List Value → Prop
  | [], xs => xs = []
  | c :: cs, xs => ∃ vs rest, xs = vs ++ rest ∧ CellIn B w c vs ∧ CellsIn B w cs rest
end

theorem Sl.below {B : Nat} {w w' : World} {size n : Nat} {v : Value} {xs : List Value} (h : Sl B w size v n xs) (hb : Below B w w') : Sl B w' size v n xs := by
  obtain ⟨hl, a, c, hv, hnc, hcm, h0, ha⟩ := h
  refine ⟨hl, a, c, hv, hnc, hcm, h0, fun ad had => ?_⟩
  obtain ⟨h1, h2, h3⟩ := ha ad had
  refine ⟨h1, h2, fun j u hj => ?_⟩
  rw [hb.cell (p := ad.add j) (by unfold Addr.add; split <;> exact h1)]
  exact h3 j u hj

theorem Sl.mono {B B' : Nat} {w : World} {size n : Nat} {v : Value} {xs : List Value} (h : Sl B w size v n xs) (hB : B ≤ B') : Sl B' w size v n xs := by
  obtain ⟨hl, a, c, hv, hnc, hcm, h0, ha⟩ := h
  exact ⟨hl, a, c, hv, hnc, hcm, h0, fun ad had => let ⟨h1, h2, h3⟩ := ha ad had; ⟨by omega, h2, h3⟩⟩

mutual
theorem CellIn.below {B : Nat} {w w' : World} (hb : Below B w w') : ∀ (c : Cell) (vs : List Value), CellIn B w c vs → CellIn B w' c vs
  | .mk r0 r1 r2 r3 s null items keys, vs => by
    unfold CellIn
    rintro ⟨iv, kv, ixs, kxs, h0, h1, h2, h3, h4, h5, h6, h7, h8, h9⟩
    exact ⟨iv, kv, ixs, kxs, h0, h1, h2, h3, h4, h5, h6.below hb, CellsIn.below hb _ _ h7, h8.below hb, CellsIn.below hb _ _ h9⟩
theorem CellsIn.below {B : Nat} {w w' : World} (hb : Below B w w') : ∀ (cs : List Cell) (xs : List Value), CellsIn B w cs xs → CellsIn B w' cs xs
  | [], xs => by unfold CellsIn; exact id
  | c :: cs, xs => by
    unfold CellsIn
    rintro ⟨vs, rest, h0, h1, h2⟩
    exact ⟨vs, rest, h0, CellIn.below hb _ _ h1, CellsIn.below hb _ _ h2⟩
end
mutual
theorem CellIn.mono {B B' : Nat} {w : World} (hB : B ≤ B') : ∀ (c : Cell) (vs : List Value), CellIn B w c vs → CellIn B' w c vs
  | .mk r0 r1 r2 r3 s null items keys, vs => by
    unfold CellIn
    rintro ⟨iv, kv, ixs, kxs, h0, h1, h2, h3, h4, h5, h6, h7, h8, h9⟩
    exact ⟨iv, kv, ixs, kxs, h0, h1, h2, h3, h4, h5, h6.mono hB, CellsIn.mono hB _ _ h7, h8.mono hB, CellsIn.mono hB _ _ h9⟩
theorem CellsIn.mono {B B' : Nat} {w : World} (hB : B ≤ B') : ∀ (cs : List Cell) (xs : List Value), CellsIn B w cs xs → CellsIn B' w cs xs
  | [], xs => by unfold CellsIn; exact id
  | c :: cs, xs => by
    unfold CellsIn
    rintro ⟨vs, rest, h0, h1, h2⟩
    exact ⟨vs, rest, h0, CellIn.mono hB _ _ h1, CellsIn.mono hB _ _ h2⟩
end
theorem CellIn.length {B : Nat} {w : World} : ∀ {c : Cell} {vs : List Value}, CellIn B w c vs → vs.length = 8
  | .mk r0 r1 r2 r3 s null items keys, vs => by
    unfold CellIn
    rintro ⟨iv, kv, ixs, kxs, rfl, _⟩
    rfl
theorem CellsIn.length {B : Nat} {w : World} : ∀ {cs : List Cell} {xs : List Value}, CellsIn B w cs xs → xs.length = cs.length * 8
  | [], xs => by unfold CellsIn; rintro rfl; rfl
  | c :: cs, xs => by
    unfold CellsIn
    rintro ⟨vs, rest, rfl, h1, h2⟩
    rw [List.length_append, h1.length, CellsIn.length h2, List.length_cons]
    omega
theorem CellsIn.append {B : Nat} {w : World} : ∀ {cs ds : List Cell} {xs ys : List Value}, CellsIn B w cs xs → CellsIn B w ds ys → CellsIn B w (cs ++ ds) (xs ++ ys)
  | [], ds, xs, ys => by unfold CellsIn; rintro rfl h; simpa using h
  | c :: cs, ds, xs, ys => by
    intro h h'
    unfold CellsIn at h
    obtain ⟨vs, rest, rfl, h1, h2⟩ := h
    rw [List.cons_append]
    unfold CellsIn
    exact ⟨vs, rest ++ ys, by rw [List.append_assoc], h1, CellsIn.append h2 h'⟩
theorem CellsIn.one {B : Nat} {w : World} {c : Cell} {vs : List Value} (h : CellIn B w c vs) : CellsIn B w [c] vs := by
  unfold CellsIn
  exact ⟨vs, [], by simp, h, by unfold CellsIn; rfl⟩
/-- The cells of row number i. -/
theorem CellsIn.at {B : Nat} {w : World} : ∀ {cs : List Cell} {xs : List Value}, CellsIn B w cs xs → ∀ i c, cs[i]? = some c → CellIn B w c ((xs.drop (i * 8)).take 8)
  | [], xs => by intro _ i c h; simp at h
  | d :: cs, xs => by
    intro h i c hc
    unfold CellsIn at h
    obtain ⟨vs, rest, rfl, h1, h2⟩ := h
    have hl := h1.length
    cases i with
    | zero =>
      simp only [List.getElem?_cons_zero, Option.some.injEq] at hc
      subst hc
      simpa [List.take_append, hl] using h1
    | succ i =>
      have := CellsIn.at h2 i c (by simpa using hc)
      have e : (vs ++ rest).drop ((i + 1) * 8) = rest.drop (i * 8) := by
        rw [show (i + 1) * 8 = vs.length + i * 8 by omega, ← List.drop_drop]
        simp
      rw [e]
      exact this
end Go.Proofs.YtcidlnjpabgioaaGreatDoor
