/- The rows: what the listed variables and the arguments give. -/
import Derived.Test.YtcidlnjpabgioaaGreatDoorCE
import Derived.Test.YtcidlnjpabgioaaGreatDoorGTree
import Derived.Test.YtcidlnjpabgioaaGreatDoorGCell
import Derived.BigQuiet
import Derived.Test.YtcidlnjpabgioaaGreatDoorTwo
import Derived.Lib.LaidU8
import Derived.ProofKit
import Derived.OpenShut
import Derived.LaidMore
import Derived.Lay
import Derived.WideKeyArgs
import Derived.Deep.Strs
import Derived.ChangeVars
import Derived.Stop.Joined
namespace Go.Proofs.YtcidlnjpabgioaaGreatDoor
open Go.RowKit

set_option maxHeartbeats 1000000 in
theorem CLEncode_at (T : Ty) (st : List UInt8) (txt : ByteArray)
    (w : World) (htree : ∀ w', Below w.heap.size w w' → Calls Tryz.prog 23 #[.string txt] w' (TreeSays T st w')) (σ : List Cell) (rv : Value) (xs : List Value) (hs : Sl w.heap.size w 8 rv σ.length xs) (hc : CellsIn w.heap.size w σ xs) (hw : Wt T σ ≤ 2147483648) (hl : (enc T σ).length ≤ 1099511627776) :
    Calls Tryz.prog 10 #[.string txt, rv] w fun e w' => ∃ v1 v2, e = .returned (.tuple #[v1, v2, .bool true]) ∧ Bytes w' v1 st ∧ Bytes w' v2 (enc T σ) ∧ Below w.heap.size w w' := by
  have hs' := hs
  obtain ⟨hxl, ao, cap, rfl, hnc, hcm, h0, ha⟩ := hs
  unfold maxLen at hcm
  clear ha h0 hxl
  go_enter_defers Tryz.func10, Tryz.ntmps10
  go_wp2_with (go_at_call 23; refine (htree _ ((Below.refl _ w).alloc (Nat.le_refl _) _)).mono ?_; rintro e w1 ⟨t, u, R, Rp, fp, rfl, cs, hR, hb⟩)
  simp only [World.size_alloc] at hb cs
  have hbw : Below w.heap.size w w1 := ((Below.refl _ w).alloc (Nat.le_refl _) _).trans (hb.mono (by omega))
  go_loopw [16] (fun i wr => ∃ (k : Nat) (fpk : Nat → Prop), k ≤ σ.length ∧ i = .int .i64 k ∧ R wr fpk (σ.take k) ∧ Below (w.heap.size + 1) w1 wr) (fun i _ => σ.length - (intOf i).toNat)
  case atStart => exact ⟨0, fp, Nat.zero_le _, rfl, by simpa using hR, Below.refl _ _⟩
  case round =>
    obtain ⟨k, fpk, hk, rfl, hRk, hbk⟩ := hrel
    have hbr : Below w.heap.size w wr := hbw.trans (hbk.mono (by omega))
    have hsr : w.heap.size + 1 ≤ wr.heap.size := by have := hbk.size; have := hb.size; simp at this; omega
    by_cases hlt : k < σ.length
    · obtain ⟨b, off, cap', hv, hbB, vs, hvs, hcell⟩ := (hs'.below hbr).row (CellsIn.below hbr _ _ hc) hlt
      obtain ⟨r0, r1, r2, r3, s, null, ia, il, ic, ka, kl, kc, rfl⟩ := hvs.spelled
      simp only [Value.slice.injEq] at hv
      obtain ⟨rfl, _, rfl⟩ := hv
      have c0 := hcell 0 _ rfl
      have c1 := hcell 1 _ rfl
      have c2 := hcell 2 _ rfl
      have c3 := hcell 3 _ rfl
      have c4 := hcell 4 _ rfl
      have c5 := hcell 5 _ rfl
      have c6 := hcell 6 _ rfl
      have c7 := hcell 7 _ rfl
      simp only [Nat.add_zero] at c0
      clear hcell
      have hsz : wr.heap.size < (wr.alloc (.cells #[.int .u64 r0, .int .u64 r1, .int .u64 r2, .int .u64 r3, .string s, .bool null, .slice ia il ic, .slice ka kl kc] 35)).heap.size := by simp
      have hba : Below (w.heap.size + 1) w1 (wr.alloc (.cells #[.int .u64 r0, .int .u64 r1, .int .u64 r2, .int .u64 r3, .string s, .bool null, .slice ia il ic, .slice ka kl kc] 35)) := hbk.alloc hsr _
      have hRa := cs.frame (w' := wr.alloc (.cells #[.int .u64 r0, .int .u64 r1, .int .u64 r2, .int .u64 r3, .string s, .bool null, .slice ia il ic, .slice ka kl kc] 35)) hRk (fun q hq => Below.heap_alloc _ _ _ (cs.lo hRk q hq).2)
      have hva := (CellIn.below (B := w.heap.size) (w' := wr.alloc (.cells #[.int .u64 r0, .int .u64 r1, .int .u64 r2, .int .u64 r3, .string s, .bool null, .slice ia il ic, .slice ka kl kc] 35)) ((Below.refl _ wr).alloc (by omega) _) _ _ hvs).mono (B' := w.heap.size + 1) (by omega)
      have hi := cs.append hRa hva (Nat.le_trans (by rw [← List.take_succ_eq_append_getElem hlt]; exact wts_take _ _) hw)
      have hlo := fun q hq => (cs.lo hRa q hq).1
      clear hRa hva hvs
      go_wp2_with ((with_reducible show wpList _ _ _ (⟨some 22, _, _, _, _, _⟩ :: _) _ _); refine wpList_invoke _ rfl _ _ _ _ rfl _ _ rfl hi rfl ?_; rintro e w2 ⟨rfl, hfr, fp2, hR2, hg2⟩; refine ⟨_, rfl, ?_⟩)
      go_roundw
      case rel => exact ⟨k + 1, fp2, by omega, by go_num, by rw [List.take_succ_eq_append_getElem hlt]; exact hR2, hba.trans (hfr.below (by omega) (fun q hq hfq => by have := hlo q hfq; omega))⟩
      case measure => simp [intOf]; omega
    · have hke : σ.take k = σ := List.take_of_length_le (by omega)
      rw [hke] at hRk
      have h24 := out_any cs wr fpk σ hRk hsr hw hl
      have hcell6 : wr.cell? ⟨w.heap.size, 0, none⟩ = some (.bool false) := by
        rw [(hb.trans hbk).cell (p := ⟨w.heap.size, 0, none⟩) (by simp)]
        simp
      have hfz6 : wr.frozen? ⟨w.heap.size, 0, none⟩ = false := by
        rw [(hb.trans hbk).frozen (p := ⟨w.heap.size, 0, none⟩) (by simp)]
        simp
      clear hs' hc
      go_wp2_with (go_at_call 24; refine h24.mono ?_; rintro e w2 ⟨v1, v2, rfl, hv1, hv2, hb2⟩; have hc6 := (hb2.cell (p := ⟨w.heap.size, 0, none⟩) (by simp)).trans hcell6; have hf6 := (hb2.frozen (p := ⟨w.heap.size, 0, none⟩) (by simp)).trans hfz6)
      have hc6' := World.cell?_setCell_same w2 ⟨w.heap.size, 0, none⟩ (.bool true) hc6
      refine leaves_cons (f := 22) (args := #[.pointer (some ⟨w.heap.size, 0, none⟩)]) (by simp) (by simp [go_sem]) ?_
      refine (caught_idle ⟨w.heap.size, 0, none⟩ _).mono ?_
      rintro e u' w'' ⟨rfl, rfl, rfl⟩
      have hlast : Below w.heap.size w (w2.setCell ⟨w.heap.size, 0, none⟩ (.bool true)) := ((hbw.trans (hbk.mono (by omega))).trans (hb2.mono (by omega))).setCell (by simp) _
      have hq : w2.heap[w.heap.size]? = some (.cells #[.bool false] 4 (0, 0)) := by
        rw [hb2.block _ (by omega), hbk.block _ (by omega), hb.block _ (by omega)]
        exact heap_alloc_new _ _
      have hv1' := hv1.setCell hq (by decide) (.bool true)
      have hv2' := hv2.setCell hq (by decide) (.bool true)
      simp [Leaves, settle, results, Tryz.results10, go_sem, hc6']
      exact ⟨_, _, ⟨rfl, rfl⟩, hv1', hv2', hlast⟩
end Go.Proofs.YtcidlnjpabgioaaGreatDoor
namespace Go.Proofs.YtcidlnjpabgioaaGreatDoor
open Go.RowKit

set_option maxRecDepth 100000 in
set_option maxHeartbeats 2000000 in
theorem loPut_any (T : Ty) (hT : TextOk T) (hTr : TreeOk T) (w : World) (htab : Tabs w) (vs : List Value) (hvs : LTIn w.heap.size w T.lt vs) (htl : (text T).length ≤ 900000)
    (σ : List Cell) (rv : Value) (xs : List Value) (hs : Sl w.heap.size w 8 rv σ.length xs) (hc : CellsIn w.heap.size w σ xs) (hw : Wt T σ ≤ 2147483648) (hl : (enc T σ).length ≤ 1099511627776) :
    Calls Tryz.prog 12 #[.agg vs.toArray, rv] w fun e w' => e = .returned (.tuple #[.string (bstr (st T)), .string (bstr (enc T σ)), .bool true]) ∧ Fr (fun _ => False) w w' := by
  obtain ⟨a, c, ixs, rfl, -, -⟩ := hvs.open
  have htx := fun W' (hb : Below w.heap.size w W') => hT w.heap.size W' _ (LTIn.below hb _ _ hvs) hb.size htl
  have hce := fun W' (hb : Below w.heap.size w W') => CLEncode_at T (st T) (bstr (text T)) W' (fun W2 hb2 => hTr W2 ((htab.below hb).below hb2)) σ rv xs ((hs.below hb).mono hb.size) (CellsIn.mono hb.size _ _ (CellsIn.below hb _ _ hc)) hw hl
  generalize bstr (text T) = tx at htx hce
  clear hs hc
  go_enter Tryz.func12, Tryz.ntmps12
  go_wp2_with (first
    | (go_at_call 11; refine (htx _ ((Below.refl _ w).alloc (Nat.le_refl _) _)).mono ?_; rintro e w1 ⟨rfl, hf1⟩; have hb1 : Below w.heap.size w w1 := ((Fr.refl (fun _ => False) w).alloc _).trans hf1 (fun _ _ h => h) |>.below (Nat.le_refl _) (fun _ _ h => h))
    | (go_at_call 10; refine (hce _ hb1).mono ?_; rintro e w2 ⟨v1, v2, rfl, hv1, hv2, hb2⟩; have hx1 := conv_bytes (Bytes.below hv1 ((Below.refl _ w2).drew)); have hx2 := conv_bytes (Bytes.below hv2 ((Below.refl _ w2).drew))))
  go_region
  all_goals
    go_wp2
    go_ret3
    exact ⟨rfl, (Below.fr hb1).trans (Below.fr hb2) (fun _ _ h => h) |>.drew⟩
end Go.Proofs.YtcidlnjpabgioaaGreatDoor
namespace Go.Proofs.YtcidlnjpabgioaaGreatDoor
open Go.RowKit

/-- A slice of bytes as it came in, in blocks below B. -/
def CodeArg (B : Nat) (w : World) (v : Value) (n : Nat) : Prop := ∃ a c, v = .slice a n c ∧ n ≤ c ∧ c ≤ maxLen ∧ (a = none → n = 0) ∧
  ∀ ad, a = some ad → ad.block < B ∧ ad.spot = none ∧ ∀ j, j < n → ∃ b : UInt8, w.cell? (ad.add j) = some (.int .u8 b.toNat)

theorem law_code {w : World} {v : Value} {n : Nat} (h : CodeArg w.heap.size w v n) : CodeAt w.heap.size (w.alloc (.cells #[v, .int .u64 0] 26)) w.heap.size := by
  obtain ⟨a, c, rfl, h1, h2, h3, h4⟩ := h
  refine ⟨Nat.le_refl _, a, n, c, 0, heap_alloc_new w _, by omega, by omega, h1, h2, h3, fun ad had => ?_⟩
  obtain ⟨h5, h6, h7⟩ := h4 ad had
  refine ⟨h5, h6, fun j hj => ?_⟩
  obtain ⟨b, hb⟩ := h7 j hj
  exact ⟨b, ((Fr.refl (fun _ => False) w).alloc _).cell_some hb (fun h => h)⟩

theorem cellEl : ElT Tryz.prog 31 35 (.agg #[.int .u64 0, .int .u64 0, .int .u64 0, .int .u64 0, .string ⟨#[]⟩, .bool false, .slice none 0 0, .slice none 0 0]) 8 104 := ⟨Tryz.underlying31, info_parts (by kernel_rfl), rfl⟩

/-- A FixedString's length. -/
def fixLen : Ty → Nat
  | .fix n => n
  | _ => 0
/-- The text that stands in NULL's place. -/
def zeroText (T : Ty) : ByteArray := bstr (List.replicate (fixLen T) 0)
/-- The value that stands in a row's place. -/
def valOf (T : Ty) (c : Cell) : Cell := if c.null then .mk 0 0 0 0 (zeroText T) false [] [] else c
def markOf (c : Cell) : UInt8 := if c.null then 1 else 0

theorem fix_name (T : Ty) (hT : T.leafy) : ((bstr T.nm).toList == [70, 105, 120, 101, 100, 83, 116, 114, 105, 110, 103]) = true ∧ T.sz = fixLen T ∨ ((bstr T.nm).toList == [70, 105, 120, 101, 100, 83, 116, 114, 105, 110, 103]) = false ∧ fixLen T = 0 := by
  rw [bstr_toList]
  cases T with
  | num k => cases k <;> exact .inr ⟨rfl, rfl⟩
  | str => exact .inr ⟨rfl, rfl⟩
  | fix n => exact .inl ⟨rfl, rfl⟩
  | _ => exact hT.elim
theorem fix_small (T : Ty) (hT : T.leafy) : fixLen T ≤ 16 := by
  cases T with
  | num k => exact Nat.zero_le _
  | str => exact Nat.zero_le _
  | fix n => rcases hT with rfl | rfl <;> simp [fixLen]
  | _ => exact hT.elim

theorem flat_notnull {T : Ty} {x : Cell} (h : Flat T x) : x.null = false := by
  cases T <;> first | exact h.2.1 | exact h.elim
theorem null_is {T : Ty} {x : Cell} (hx : x = nullCell ∨ Flat T x) (hn : x.null = true) : x = nullCell := by
  rcases hx with h | h
  · exact h
  · rw [flat_notnull h] at hn; cases hn

/-- What holds when the loop's round begins. -/
def NRel (T : Ty) (B : Nat) (W1 wr : World) (rv vv mk i : Value) : Prop := ∃ (k : Nat) (σ : List Cell), i = .int .i64 k ∧ σ.length + k ≤ 30 ∧ mk = .string (bstr (σ.map markOf)) ∧ (∀ c ∈ σ, c = nullCell ∨ Flat T c) ∧ Two W1.heap.size wr 35 8 rv vv σ.length (σ.flatMap Cell.cells8) ((σ.map (valOf T)).flatMap Cell.cells8) ∧ CodeAt B wr B ∧ Fr (fun q => q = B) W1 wr

theorem NRel.start {T : Ty} {B : Nat} {W1 : World} {k : Nat} {i : Value} (hi : i = .int .i64 k) (hk : k ≤ 30) (hc : CodeAt B W1 B) : NRel T B W1 W1 (.slice none 0 0) (.slice none 0 0) (.string ⟨#[]⟩) i :=
  ⟨k, [], hi, by simpa using hk, rfl, by simp, ⟨World.ownsRow_nil _ _ _ _, World.ownsRow_nil _ _ _ _, by simp [Value.ownBlock], by simp [Value.ownBlock], by simp [Value.ownBlock]⟩, hc, Fr.refl _ _⟩

theorem NRel.next {T : Ty} {B : Nat} {W1 W2 u1 u2 u3 u4 : World} {rv vv rv' vv' : Value} {k : Nat} {σ : List Cell} {x : Cell} {b : UInt8} {X Y : List Value} {i mk : Value} (hBW : B < W1.heap.size)
    (hk : σ.length + k ≤ 30) (hlt : 0 < k) (hσ : ∀ c ∈ σ, c = nullCell ∨ Flat T c) (hx : x = nullCell ∨ Flat T x) (htw : Two W1.heap.size W2 35 8 rv vv σ.length (σ.flatMap Cell.cells8) ((σ.map (valOf T)).flatMap Cell.cells8))
    (hW : Fr (fun q => q = B) W1 W2) (hcode : CodeAt B W2 B)
    (f1 : Fr (fun _ => False) W2 u1) (h5 : Appended u1 u2 35 8 rv rv' (σ.length + 1) (σ.flatMap Cell.cells8 ++ X)) (f2 : Fr (fun _ => False) u2 u3) (h9 : Appended u3 u4 35 8 vv vv' (σ.length + 1) ((σ.map (valOf T)).flatMap Cell.cells8 ++ Y))
    (hX : X = x.cells8) (hY : Y = (valOf T x).cells8) (hmk : mk = .string (bstr (σ.map markOf) ++ ⟨#[b]⟩)) (hb : markOf x = b) (hi : i = .int .i64 ((k : Int) - 1)) : NRel T B W1 u4 rv' vv' mk i := by
  obtain ⟨h1, h2⟩ := Two.done hW.size htw f1 h5 f2 h9
  have hlo : ∀ q, (rv.ownBlock = some q ∨ vv.ownBlock = some q) → W1.heap.size ≤ q := fun q h => h.elim (htw.la q) (htw.lb q)
  refine ⟨k - 1, σ ++ [x], by rw [hi, Int.natCast_sub hlt]; rfl, by simp; omega, ?_, ?_, ?_, hcode.fr h2 (fun h => absurd (hlo _ h) (by omega)) (fun q hq h => absurd (hlo _ h) (by omega)), hW.trans h2 (fun q hq h => absurd (hlo _ h) (by omega))⟩
  · rw [hmk, List.map_append, show (⟨#[b]⟩ : ByteArray) = bstr [b] from rfl, bstr_append, ← hb]; rfl
  · intro c hc
    rcases List.mem_append.1 hc with h | h
    · exact hσ c h
    · rw [List.mem_singleton.1 h]; exact hx
  · rw [List.length_append, List.map_append, List.flatMap_append, List.flatMap_append, List.map_singleton, List.flatMap_singleton, List.flatMap_singleton, ← hX, ← hY]
    exact h1

/-- The zeros that stand in NULL's place, in the making. -/
def ZRel (T : Ty) (Y : Nat) (W2 wi : World) : Prop := ∃ j, j ≤ fixLen T ∧ wi.heap.size = W2.heap.size ∧ wi.heap[Y]? = some (.cells (rowCells 0 0 0 0 (bstr (List.replicate j 0))) 35 (0, 0)) ∧ Fr (fun q => q = Y) W2 wi
theorem ZRel.next {T : Ty} {Y j : Nat} {W2 wi : World} (h : j < fixLen T) (hs : wi.heap.size = W2.heap.size) (hr : wi.heap[Y]? = some (.cells (rowCells 0 0 0 0 (bstr (List.replicate j 0))) 35 (0, 0))) (hf : Fr (fun q => q = Y) W2 wi) :
    ZRel T Y W2 (wi.setCell ⟨Y, 4, none⟩ (.string (bstr (List.replicate j 0) ++ ⟨#[0]⟩))) := by
  refine ⟨j + 1, h, by rw [World.size_setCell]; exact hs, ?_, hf.setCell (.inl rfl) _⟩
  rw [show (⟨#[0]⟩ : ByteArray) = bstr [0] from rfl, bstr_append, show List.replicate j (0 : UInt8) ++ [0] = List.replicate (j + 1) 0 from (List.replicate_succ' ..).symm]
  exact heap_setS hr _
end Go.Proofs.YtcidlnjpabgioaaGreatDoor
namespace Go.Proofs.YtcidlnjpabgioaaGreatDoor
open Go.RowKit

/-- An own row is a slice in memory. -/
theorem own_sl {w : World} {e : TypeId} {size n : Nat} {v : Value} {xs : List Value} (h : w.ownsRow 0 e size v n xs) : Sl w.heap.size w size v n xs := by
  refine ⟨h.1, ?_⟩
  rcases h.2 with ⟨rfl, rfl⟩ | ⟨g, cap, cur, rfl, _, hb, hnc, hcm, _⟩
  · exact ⟨none, 0, rfl, Nat.le_refl _, Nat.zero_le _, fun _ => rfl, fun ad had => by cases had⟩
  · refine ⟨some ⟨g, 0, none⟩, cap, rfl, hnc, hcm, nofun, fun ad had => ?_⟩
    cases had
    exact ⟨heap_lt hb, rfl, fun j u hj => World.ownsRow.cells h (g := g) rfl j u hj⟩

/-- A row without others in it, of small words. -/
def Simple (c : Cell) : Prop := c.items = [] ∧ c.keys = [] ∧ c.r0 < 18446744073709551616 ∧ c.r1 < 18446744073709551616 ∧ c.r2 < 18446744073709551616 ∧ c.r3 < 18446744073709551616 ∧ c.s.size ≤ 16
theorem pow_small (n : Nat) : 256 ^ min 8 n ≤ 18446744073709551616 := Nat.le_trans (Nat.pow_le_pow_right (by decide) (Nat.min_le_left 8 n)) (by decide)
theorem simple_flat {T : Ty} (hT : T.leafy) {c : Cell} (h : Flat T c) : Simple c := by
  cases T with
  | num k =>
    obtain ⟨h1, _, h3, h4, h5, h6, h7, h8⟩ := h
    have p := fun n => pow_small n
    exact ⟨h3, h4, Nat.lt_of_lt_of_le h5 (p _), Nat.lt_of_lt_of_le h6 (p _), Nat.lt_of_lt_of_le h7 (p _), Nat.lt_of_lt_of_le h8 (p _), by rw [h1]; decide⟩
  | str =>
    obtain ⟨h1, _, h3, h4, h5, h6, h7, h8⟩ := h
    exact ⟨h3, h4, by omega, by omega, by omega, by omega, by omega⟩
  | fix n =>
    obtain ⟨h1, _, h3, h4, h5, h6, h7, h8⟩ := h
    have : n = 5 ∨ n = 16 := hT
    exact ⟨h3, h4, by omega, by omega, by omega, by omega, by omega⟩
  | _ => exact hT.elim
theorem zeroText_size (T : Ty) : (zeroText T).size = fixLen T := by unfold zeroText; rw [bstr_size]; simp
theorem simple_null : Simple nullCell := ⟨rfl, rfl, by decide, by decide, by decide, by decide, by decide⟩
theorem simple_row {T : Ty} (hT : T.leafy) {c : Cell} (h : c = nullCell ∨ Flat T c) : Simple c := h.elim (fun e => e ▸ simple_null) (simple_flat hT)
theorem simple_val {T : Ty} (hT : T.leafy) {c : Cell} (h : c = nullCell ∨ Flat T c) : Simple (valOf T c) := by
  unfold valOf
  split
  · exact ⟨rfl, rfl, by show 0 < _; decide, by show 0 < _; decide, by show 0 < _; decide, by show 0 < _; decide, by show (zeroText T).size ≤ 16; rw [zeroText_size]; exact fix_small T hT⟩
  · exact simple_row hT h

theorem nil_sl (B : Nat) (w : World) (size : Nat) : Sl B w size (.slice none 0 0) 0 [] := ⟨by simp, none, 0, rfl, Nat.le_refl _, Nat.zero_le _, fun _ => rfl, fun ad had => by cases had⟩
theorem simple_in {B : Nat} {w : World} {c : Cell} (h : Simple c) : CellIn B w c c.cells8 := by
  obtain ⟨h1, h2, h3, h4, h5, h6, h7⟩ := h
  obtain ⟨a, b, d, e, s, nl, is, ks⟩ := c
  obtain rfl : is = [] := h1
  obtain rfl : ks = [] := h2
  unfold CellIn
  exact ⟨_, _, [], [], rfl, h3, h4, h5, h6, Nat.le_trans h7 (by decide), nil_sl B w 8, by unfold CellsIn; rfl, nil_sl B w 8, by unfold CellsIn; rfl⟩
theorem simples_in {B : Nat} {w : World} : ∀ (σ : List Cell), (∀ c ∈ σ, Simple c) → CellsIn B w σ (σ.flatMap Cell.cells8)
  | [], _ => by unfold CellsIn; rfl
  | c :: cs, h => by
    unfold CellsIn
    exact ⟨_, _, List.flatMap_cons, simple_in (h c (by simp)), simples_in cs (fun x hx => h x (by simp [hx]))⟩
theorem simples_wt : ∀ (σ : List Cell), (∀ c ∈ σ, Simple c) → wts σ ≤ 17 * σ.length
  | [], _ => by simp [wts]
  | c :: cs, h => by
    have h1 := simples_wt cs (fun x hx => h x (by simp [hx]))
    obtain ⟨h2, h3, _, _, _, _, h4⟩ := h c (by simp)
    rw [wts, Cell.wt_eq, h2, h3, List.length_cons]
    simp only [wts]
    omega

theorem flatMap_le {α β : Type} (f : α → List β) (m : Nat) : ∀ (l : List α), (∀ a ∈ l, (f a).length ≤ m) → (l.flatMap f).length ≤ m * l.length
  | [], _ => by simp
  | a :: l, h => by
    have h1 := flatMap_le f m l (fun x hx => h x (by simp [hx]))
    have h2 := h a (by simp)
    rw [List.flatMap_cons, List.length_append, List.length_cons, Nat.mul_succ]
    omega
theorem leafy_enc_le {T : Ty} (hT : T.leafy) (σ : List Cell) (h : ∀ c ∈ σ, Simple c) : (enc T σ).length ≤ 100 * σ.length := by
  cases T with
  | num k =>
    rw [enc]
    refine flatMap_le _ _ _ fun c hc => ?_
    unfold numBytes
    rw [List.length_take]
    cases k <;> simp [Num.size] <;> omega
  | str =>
    rw [enc]
    refine flatMap_le _ _ _ fun c hc => ?_
    have h1 := (h c hc).2.2.2.2.2.2
    have h2 : (Lib.uvarint c.s.size).length ≤ 10 := Lib.uvarint_length64 (by omega)
    have h3 : c.s.data.toList.length = c.s.size := Array.length_toList
    rw [List.length_append, h3]
    omega
  | fix n =>
    rw [enc]
    refine flatMap_le _ _ _ fun c hc => ?_
    have : n = 5 ∨ n = 16 := hT
    unfold fitted
    rw [List.length_take]
    omega
  | _ => exact hT.elim

/-- THE LAW: a byte for each row, 1 where it is NULL, and then a column of its type, with a zero in its place. -/
theorem nul_law {T : Ty} (hT : T.leafy) (σ : List Cell) : enc (.nul T) σ = σ.map markOf ++ enc T (σ.map (valOf T)) := by
  rw [enc]
  congr 1
  cases T with
  | fix n =>
    rw [enc, enc, List.flatMap_map, List.flatMap_map]
    congr 1
    funext c
    unfold valOf
    split
    · unfold fitted
      show (([] : List UInt8) ++ List.replicate n 0).take n = ((zeroText (.fix n)).data.toList ++ List.replicate n 0).take n
      rw [show (zeroText (.fix n)).data.toList = List.replicate n 0 from rfl, List.nil_append, List.take_append_of_le_length (by simp)]
    · rfl
  | num k => rfl
  | str => rfl
  | _ => exact hT.elim

theorem leafy_fine {T : Ty} (hT : T.leafy) : T.fine := by
  cases T with
  | num k => trivial
  | str => trivial
  | fix n => trivial
  | _ => exact hT.elim
theorem leafy_text {T : Ty} (hT : T.leafy) : (text T).length ≤ 30 := by
  cases T with
  | num k => cases k <;> decide
  | str => decide
  | fix n =>
    have hd : (digits n).length ≤ 3 := by
      rcases hT with rfl | rfl
      · rw [digits, dif_pos (by decide)]; decide
      · rw [digits, dif_neg (by decide), digits, dif_pos (by decide)]; decide
    rw [text]
    simp
    omega
  | _ => exact hT.elim
theorem nul_text_len {T : Ty} (hT : T.leafy) : (text (.nul T)).length ≤ 900000 := by
  have := leafy_text hT
  rw [text]
  simp
  omega
theorem nul_textok {T : Ty} (hT : T.leafy) (h : TextOk T) : TextOk (.nul T) :=
  text_step _ (show T.fine from leafy_fine hT) (by simp) (fun t ht => by
    have : t = T := by simpa [Ty.kids] using ht
    exact this ▸ h)
theorem nul_treeok {T : Ty} (hT : T.leafy) (h : TreeOk T) : TreeOk (.nul T) := tree_nul T h (text_sound T (leafy_fine hT)) (by have := leafy_text hT; omega)

theorem nul_lt {T : Ty} (hT : T.leafy) {B : Nat} {w : World} {p : Nat} (h : w.heap[p]? = some (.cells T.cells3.toArray 29 (0, 0))) (hp : p < B) : LTIn B w (Ty.nul T).lt [.string ⟨#[78, 117, 108, 108, 97, 98, 108, 101]⟩, .int .i64 0, .slice (some ⟨p, 0, none⟩) 1 1] := by
  rw [Ty.lt]
  unfold LTIn
  refine ⟨_, T.cells3, rfl, ⟨rfl, some ⟨p, 0, none⟩, 1, rfl, Nat.le_refl _, by decide, nofun, fun ad had => ?_⟩, ?_⟩
  · cases had
    refine ⟨hp, rfl, fun j u hj => ?_⟩
    rw [Addr.add_lit, Nat.zero_add, cell_of_row _ _ _ _ _ _ h]
    simpa using hj
  · unfold LTsIn
    exact ⟨T.cells3, [], by simp, hT.lt B w, by unfold LTsIn; rfl⟩

theorem nul_enc_le {T : Ty} (hT : T.leafy) (σ : List Cell) (h : ∀ c ∈ σ, c = nullCell ∨ Flat T c) (hs : σ.length ≤ 30) : (enc (.nul T) σ).length ≤ 4000 ∧ (enc T (σ.map (valOf T))).length ≤ 3000 := by
  have h1 := leafy_enc_le hT (σ.map (valOf T)) (fun c hc => by obtain ⟨x, hx, rfl⟩ := List.mem_map.1 hc; exact simple_val hT (h x hx))
  rw [List.length_map] at h1
  rw [nul_law hT, List.length_append, List.length_map]
  omega

/-- Encoded with NULLs. -/
theorem nulls_ce {T : Ty} (hT : T.leafy) (hTr : TreeOk T) {lo : Nat} {wr wA : World} (htab : Tabs wr) {rv vv : Value} {σ : List Cell} (hs : σ.length ≤ 30) (hσ : ∀ c ∈ σ, c = nullCell ∨ Flat T c)
    (htw : Two lo wr 35 8 rv vv σ.length (σ.flatMap Cell.cells8) ((σ.map (valOf T)).flatMap Cell.cells8)) (hf : Fr (fun _ => False) wr wA) :
    Calls Tryz.prog 10 #[.string (bstr (text (.nul T))), rv] wA fun e w' => ∃ v1 v2, e = .returned (.tuple #[v1, v2, .bool true]) ∧ Bytes w' v2 (enc (.nul T) σ) ∧ Fr (fun _ => False) wA w' := by
  have hb := hf.below (Nat.le_refl _) (fun _ _ h => h)
  have hsim : ∀ c ∈ σ, Simple c := fun c hc => simple_row hT (hσ c hc)
  have hw := simples_wt σ hsim
  have hl := nul_enc_le hT σ hσ hs
  refine (CLEncode_at (.nul T) (st (.nul T)) _ wA (fun w' hb' => nul_treeok hT hTr w' ((htab.below hb).below hb')) σ rv _ (own_sl (htw.fr hf (fun _ _ h => h)).a) (simples_in σ hsim) (by unfold Wt; omega) (by omega)).mono ?_
  rintro e w' ⟨v1, v2, rfl, _, h2, h3⟩
  exact ⟨v1, v2, rfl, h2, Below.fr h3⟩

/-- The values alone, encoded. -/
theorem nulls_lo {T : Ty} (hT : T.leafy) (hTx : TextOk T) (hTr : TreeOk T) {lo : Nat} {wr wB : World} (htab : Tabs wr) {rv vv : Value} {σ : List Cell} (hs : σ.length ≤ 30) (hσ : ∀ c ∈ σ, c = nullCell ∨ Flat T c)
    (htw : Two lo wr 35 8 rv vv σ.length (σ.flatMap Cell.cells8) ((σ.map (valOf T)).flatMap Cell.cells8)) (hf : Fr (fun _ => False) wr wB) :
    Calls Tryz.prog 12 #[.agg T.cells3.toArray, vv] wB fun e w' => e = .returned (.tuple #[.string (bstr (st T)), .string (bstr (enc T (σ.map (valOf T)))), .bool true]) ∧ Fr (fun _ => False) wB w' := by
  have hb := hf.below (Nat.le_refl _) (fun _ _ h => h)
  have hsim : ∀ c ∈ σ.map (valOf T), Simple c := fun c hc => by obtain ⟨x, hx, rfl⟩ := List.mem_map.1 hc; exact simple_val hT (hσ x hx)
  have hw := simples_wt _ hsim
  have hl := nul_enc_le hT σ hσ hs
  have hlt := leafy_text hT
  rw [List.length_map] at hw
  have ho := (htw.fr hf (fun _ _ h => h)).b
  have hsl := own_sl ho
  rw [← List.length_map (valOf T)] at hsl
  exact loPut_any T hTx hTr wB (htab.below hb) T.cells3 (hT.lt _ _) (by omega) (σ.map (valOf T)) vv _ hsl (simples_in _ hsim) (by unfold Wt; omega) (by omega)
end Go.Proofs.YtcidlnjpabgioaaGreatDoor
namespace Go.Proofs.YtcidlnjpabgioaaGreatDoor
open Go.ChangeShapes Go.WideShapes Go.ChangeAt Go.RowKit

theorem own_knob : ownKnob Tryz.prog.godebug = none := by kernel_rfl
theorem asc_global : Tryz.prog.globalNamed "strings.asciiSpace" = some 1 := by kernel_rfl
theorem asc_type : (Tryz.prog.globals[1]?).map (·.type) = some 182 := by kernel_rfl
theorem asc_cells : Tryz.prog.cellsOf 182 = 256 := by kernel_rfl
theorem byte_cells : Tryz.prog.cellsOf 5 = 1 := by kernel_rfl
theorem string_cells : Tryz.prog.cellsOf 9 = 1 := by kernel_rfl
theorem kind_global : Tryz.prog.globalNamed "given.example/pub-bradawl/impl.kindNames" = some 0 := by kernel_rfl
theorem kind_type : (Tryz.prog.globals[0]?).map (·.type) = some 69 := by kernel_rfl

theorem asc_of {W : World} (h : Lib.VarReads Tryz.prog W "strings.asciiSpace" (Lib.tabData .u8 Lib.asciiSpaceTab)) : Lib.TabIs Tryz.prog W "strings.asciiSpace" .u8 Lib.asciiSpaceTab := by
  obtain ⟨g, t, cs, fuel, p, hg, ht, hv, hd⟩ := h
  obtain rfl := Option.some.inj (asc_global.symm.trans hg)
  obtain rfl := Option.some.inj (asc_type.symm.trans ht)
  unfold Lib.TabIs
  rw [hv, ← Lib.cells_of_tab Tryz.underlying182 Tryz.underlying5 byte_cells asc_cells hd]

/-- The datum of the kinds' names. -/
def kindData {H : Type} : DataW H := .slice (kinds.map fun l => .lit (.string l)) []

theorem kinds_of {W : World} (h : Lib.VarReads Tryz.prog W "given.example/pub-bradawl/impl.kindNames" kindData) : KindsAt W := by
  obtain ⟨g, t, cs, fuel, p, hg, ht, hv, hd⟩ := h
  obtain rfl := Option.some.inj (kind_global.symm.trans hg)
  obtain rfl := Option.some.inj (kind_type.symm.trans ht)
  rcases Deep.open_strs Tryz.underlying69 Tryz.underlying9 string_cells hd with ⟨_, hx⟩ | ⟨a, len, cap, m, Sx, hcs, _, hl, hm, hmm, hx, hcell⟩
  · simp [kindData] at hx
  · simp only [kindData, Prod.mk.injEq, DataW.slice.injEq] at hx
    obtain ⟨⟨hx1, hx2⟩, -⟩ := hx
    have hlen : len = 20 := by
      have := congrArg List.length hx1
      simp [kinds] at this
      omega
    subst hlen
    simp only [if_true] at hmm
    have hc : W.cell? ⟨0, 0, none⟩ = some (.slice (some a) 20 cap) := by
      have := World.var?_cell kind_global hv 0
      have e : cs[0]? = some (.slice (some a) 20 cap) := by rw [← Array.getElem?_toList, hcs]; rfl
      rw [e] at this
      exact this
    obtain ⟨b, o, spot⟩ := a
    have hspot : spot = none := by simpa [Addr.add] using World.cell?_spot (hcell 0 (by omega)).1
    subst hspot
    refine ⟨b, o, cap, hc, fun i hi => ?_⟩
    have h1 := (hcell i (by omega)).1
    rw [Addr.add_lit] at h1
    rw [h1]
    have h2 := congrArg (·[i]?) hx1
    simp only [List.getElem?_map, List.getElem?_range hi, Option.map_some] at h2
    have h3 : i < kinds.length := hi
    rw [List.getElem?_eq_getElem h3] at h2
    simp only [Option.map_some, Option.some.injEq, DataW.lit.injEq, Lit.string.injEq] at h2
    have h4 : kinds.getD i [] = kinds[i] := by rw [List.getD_eq_getElem?_getD, List.getElem?_eq_getElem h3]; rfl
    rw [h4, h2]
    rfl

set_option maxRecDepth 100000 in
/-- A slice of bytes that came in. -/
theorem code_of {H : Type} {enc : TypeId × Value → H} {W : World} {base : Nat} {v : Value} {d : DataW H} {p : List MemPlace} (hval : Value.okWide Tryz.prog W .any base 22 v) (h : DataW.Trod enc Tryz.prog W 0 (fun _ => true) true 22 v d p) :
    ∃ n, CodeArg W.heap.size W v n := by
  obtain ⟨a1, len, cap, rfl⟩ := okWide_slice Tryz.underlying22 hval
  obtain ⟨fuel, hf⟩ := h
  rcases open_ints Tryz.underlying22 Tryz.underlying5 byte_cells hf with ⟨hcs, hx⟩ | ⟨a, len', cap', zs, hcs, _, hl, hm, hz, hx, hcell, hwz⟩
  · simp [Value.cells] at hcs
    obtain ⟨rfl, rfl, rfl⟩ := hcs
    exact ⟨0, none, 0, rfl, Nat.le_refl _, Nat.zero_le _, fun _ => rfl, fun ad had => by cases had⟩
  · simp [Value.cells] at hcs
    obtain ⟨rfl, rfl, rfl⟩ := hcs
    simp only [if_true] at hz
    have hv : len ≤ cap ∧ (cap : Int) ≤ IntKind.i64.max ∧ W.has Tryz.prog .any base a 5 cap := by simpa [Value.okWide, Tryz.underlying22, Cell.okWide, Cell.ok] using hval
    obtain ⟨_, _, _, hspot, row, cells, hsh, _⟩ := hv
    have hlt : a.block < W.heap.size := by
      rcases Nat.lt_or_ge a.block W.heap.size with h | h
      · exact h
      · simp [World.shape?, Array.getElem?_eq_none h] at hsh
    refine ⟨len, some a, cap, rfl, hl, hm, nofun, fun ad had => ?_⟩
    cases had
    refine ⟨hlt, hspot, fun j hj => ?_⟩
    have h1 := hcell j (by omega)
    have hw0 := hwz (zs.getD j 0) (by rw [List.getD_eq_getElem?_getD, List.getElem?_eq_getElem (show j < zs.length by omega)]; exact List.getElem_mem _)
    generalize zs.getD j 0 = z at h1 hw0 ⊢
    have hw := hw0
    have hb : 0 ≤ z ∧ z < 256 := by
      simp only [Lit.wf, Bool.and_eq_true, decide_eq_true_eq] at hw
      simp [IntKind.min, IntKind.max, IntKind.signed, IntKind.bits] at hw
      omega
    refine ⟨z.toNat.toUInt8, ?_⟩
    rw [h1]
    have : ((z.toNat.toUInt8).toNat : Int) = z := by simp [Nat.toUInt8, UInt8.toNat_ofNat']; omega
    rw [this]
end Go.Proofs.YtcidlnjpabgioaaGreatDoor
