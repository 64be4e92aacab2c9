import Derived.Test.YtcidlnjpabgioaaGreatDoorWGBase
import Derived.Lib.Space
import Derived.Lib.Bytealg
import Derived.Test.YtcidlnjpabgioaaGreatDoorWGEnc
import Derived.Test.YtcidlnjpabgioaaGreatDoorWShelf
set_option maxHeartbeats 6000000
set_option maxRecDepth 100000
namespace Go.Proofs.YtcidlnjpabgioaaGreatDoor
def digits (n : Nat) : List UInt8 := if h : n < 10 then [(48 + n).toUInt8] else digits (n / 10) ++ [(48 + n % 10).toUInt8]
termination_by n
decreasing_by omega
mutual
def text : Ty → List UInt8
 | .num k => k.name
 | .str => [83, 116, 114, 105, 110, 103]
 | .fix n => [70, 105, 120, 101, 100, 83, 116, 114, 105, 110, 103] ++ [40] ++ digits n ++ [41]
 | .nul t => [78, 117, 108, 108, 97, 98, 108, 101] ++ [40] ++ text t ++ [41]
 | .low => [76, 111, 119, 67, 97, 114, 100, 105, 110, 97, 108, 105, 116, 121] ++ [40] ++ [83, 116, 114, 105, 110, 103] ++ [41]
 | .arr t => [65, 114, 114, 97, 121] ++ [40] ++ text t ++ [41]
 | .map k v => [77, 97, 112] ++ [40] ++ (text k ++ [44, 32] ++ text v) ++ [41]
 | .tup ts => [84, 117, 112, 108, 101] ++ [40] ++ texts ts ++ [41]
def texts : List Ty → List UInt8
 | [] => []
 | [t] => text t
 | t :: t' :: ts => text t ++ [44, 32] ++ texts (t' :: ts)
end
def fF : Nat → List UInt8 → Option Nat
 | d, [] => some d
 | d, c :: l => if c = 40 then fF (d + 1) l else if c = 41 then (if 0 < d then fF (d - 1) l else none) else if d = 0 ∧ c = 44 then none else fF d l
def parts (trim : List UInt8 → List UInt8) : List UInt8 → List UInt8 → Nat → List (List UInt8)
 | [], _, _ => []
 | c :: rest, cur, d =>
  if c = 40 then parts trim rest (cur ++ [c]) (d + 1)
  else if c = 41 ∧ 0 < d then parts trim rest (cur ++ [c]) (d - 1)
  else if d = 0 ∧ (c = 44 ∨ rest = []) then trim cur :: parts trim rest [] d
  else parts trim rest (cur ++ [c]) d
theorem aDm (trim : List UInt8 → List UInt8) (c : UInt8) (rest cur : List UInt8) (d : Nat) :
 (c.toNat = 40 → parts trim (c :: rest) cur d = parts trim rest (cur ++ [c]) (d + 1)) ∧
 (c.toNat = 41 → 0 < d → parts trim (c :: rest) cur d = parts trim rest (cur ++ [c]) (d - 1)) ∧
 (c.toNat ≠ 40 → d = 0 → (c.toNat = 44 ∨ rest = []) → parts trim (c :: rest) cur d = trim cur :: parts trim rest [] 0) ∧
 (c.toNat ≠ 40 → ¬ (c.toNat = 41 ∧ 0 < d) → ¬ (d = 0 ∧ (c.toNat = 44 ∨ rest = [])) → parts trim (c :: rest) cur d = parts trim rest (cur ++ [c]) d) := by
 have h40 : c.toNat = 40 ↔ c = 40 := ⟨fun h => UInt8.toNat.inj h, fun h => by rw [h]; rfl⟩
 have h41 : c.toNat = 41 ↔ c = 41 := ⟨fun h => UInt8.toNat.inj h, fun h => by rw [h]; rfl⟩
 have h44 : c.toNat = 44 ↔ c = 44 := ⟨fun h => UInt8.toNat.inj h, fun h => by rw [h]; rfl⟩
 simp only [ne_eq, h40, h41, h44]
 refine ⟨fun h => by rw [parts, if_pos h], fun h hd => ?_, fun h hd hh => ?_, fun h h1 h2 => by rw [parts, if_neg h, if_neg h1, if_neg h2]⟩
 · rw [parts, if_neg (by rw [h]; decide), if_pos ⟨h, hd⟩]
 · subst hd
   rw [parts, if_neg h, if_neg (fun hc => Nat.lt_irrefl _ hc.2), if_pos ⟨rfl, hh⟩]
theorem dX : ∀ (a b : List UInt8) (d : Nat), fF d (a ++ b) = (fF d a).bind fun e => fF e b
 | [], b, d => rfl
 | c :: a, b, d => by
  simp only [List.cons_append, fF]
  split
  · exact dX a b _
  · split
    · split
      · exact dX a b _
      · rfl
    · split
      · rfl
      · exact dX a b _
theorem gG : ∀ (a : List UInt8) (d e n : Nat), fF d a = some e → fF (d + n) a = some (e + n)
 | [], d, e, n, h => by
  simp only [fF, Option.some.injEq] at h ⊢
  omega
 | c :: a, d, e, n, h => by
  simp only [fF] at h ⊢
  split at h
  · rw [if_pos (by assumption), show d + n + 1 = d + 1 + n by omega]
    exact gG a _ _ n h
  · rw [if_neg (by assumption)]
    split at h
    · rw [if_pos (by assumption)]
      split at h
      · rw [if_pos (by omega), show d + n - 1 = d - 1 + n by omega]
        exact gG a _ _ n h
      · cases h
    · rw [if_neg (by assumption)]
      split at h
      · cases h
      · rw [if_neg (by rename_i hh; intro ⟨h1, h2⟩; exact hh ⟨by omega, h2⟩)]
        exact gG a _ _ n h
theorem jS (trim : List UInt8 → List UInt8) : ∀ (a rest cur : List UInt8) (d e : Nat), rest ≠ [] → fF d a = some e → parts trim (a ++ rest) cur d = parts trim rest (cur ++ a) e
 | [], rest, cur, d, e, _, h => by
  simp only [fF, Option.some.injEq] at h
  subst h
  simp
 | c :: a, rest, cur, d, e, hr, h => by
  have hne : a ++ rest ≠ [] := by simp [hr]
  simp only [fF] at h
  rw [List.cons_append, parts, show cur ++ c :: a = (cur ++ [c]) ++ a by simp]
  split at h
  · rw [if_pos (by assumption)]
    exact jS trim a rest _ _ _ hr h
  · rw [if_neg (by assumption)]
    split at h
    · split at h
      · rw [if_pos ⟨by assumption, by assumption⟩]
        exact jS trim a rest _ _ _ hr h
      · cases h
    · rw [if_neg (by rename_i hh; intro ⟨h1, _⟩; exact hh h1)]
      split at h
      · cases h
      · rw [if_neg (by rename_i hh; intro ⟨h1, h2⟩; rcases h2 with h2 | h2; exact hh ⟨h1, h2⟩; exact hne h2)]
        exact jS trim a rest _ _ _ hr h
theorem xN (trim : List UInt8 → List UInt8) (a : List UInt8) (h : fF 0 a = some 0) : parts trim (a ++ [41]) [] 0 = [trim a] := by
 rw [jS trim a [41] [] 0 0 (by simp) h]
 simp [parts]
theorem nO (trim : List UInt8 → List UInt8) (a b : List UInt8) (h : fF 0 a = some 0) : parts trim (a ++ ([44] ++ b)) [] 0 = trim a :: parts trim b [] 0 := by
 rw [jS trim a ([44] ++ b) [] 0 0 (by simp) h]
 simp [parts]
structure iW (l : List UInt8) : Prop where
 walk : fF 0 l = some 0
 head : ∃ c m, l = c :: m ∧ Lib.isSp c = false
 last : ∃ m c, l = m ++ [c] ∧ Lib.isSp c = false
 ascii : ∀ c ∈ l, c.toNat < 128
theorem lY {c : UInt8} {m : List UInt8} (h : Lib.isSp c = false) : (c :: m).dropWhile Lib.isSp = c :: m := by simp [List.dropWhile, h]
theorem iW.trim {l : List UInt8} (h : iW l) : Lib.trimSpace l = l := by
 obtain ⟨c, m, rfl, hc⟩ := h.head
 obtain ⟨m', c', he, hc'⟩ := h.last
 unfold Lib.trimSpace
 rw [lY hc, he, List.reverse_append, List.reverse_singleton, List.singleton_append, lY hc']
 simp
theorem iW.aKu {l : List UInt8} (h : iW l) : Lib.trimSpace (32 :: l) = l := by
 have e : Lib.trimSpace (32 :: l) = Lib.trimSpace l := by
  unfold Lib.trimSpace
  rw [show (32 :: l).dropWhile Lib.isSp = l.dropWhile Lib.isSp by simp [List.dropWhile, Lib.isSp]]
 rw [e, h.trim]
def fM (l : List UInt8) : Prop := ∀ c ∈ l, c ≠ 40 ∧ c ≠ 41 ∧ c ≠ 44 ∧ Lib.isSp c = false ∧ c.toNat < 128
theorem lZ : ∀ (l : List UInt8) (d : Nat), fM l → fF d l = some d
 | [], _, _ => rfl
 | c :: l, d, h => by
  obtain ⟨h1, h2, h3, _⟩ := h c (by simp)
  rw [fF, if_neg h1, if_neg h2, if_neg (fun hh => h3 hh.2)]
  exact lZ l d (fun x hx => h x (by simp [hx]))
theorem gY {l : List UInt8} (h : fM l) (hne : l ≠ []) : iW l := by
 refine ⟨lZ l 0 h, ?_, ?_, fun c hc => (h c hc).2.2.2.2⟩
 · cases l with
   | nil => exact absurd rfl hne
   | cons c m => exact ⟨c, m, rfl, (h c (by simp)).2.2.2.1⟩
 · refine ⟨l.dropLast, l.getLast hne, (List.dropLast_concat_getLast hne).symm, (h _ (List.getLast_mem hne)).2.2.2.1⟩
theorem xE (k : Num) : fM k.name := by
 cases k <;> (unfold fM Num.name; decide)
theorem jK : ∀ n : Nat, fM (digits n) ∧ digits n ≠ []
 | n => by
  rw [digits]
  have hd : ∀ k, k < 10 → fM [(48 + k).toUInt8] := by
   intro k hk
   have : k = 0 ∨ k = 1 ∨ k = 2 ∨ k = 3 ∨ k = 4 ∨ k = 5 ∨ k = 6 ∨ k = 7 ∨ k = 8 ∨ k = 9 := by omega
   rcases this with h | h | h | h | h | h | h | h | h | h <;> subst h <;> (unfold fM; decide)
  split
  · exact ⟨hd n (by assumption), by simp⟩
  · refine ⟨fun c hc => ?_, by simp⟩
    rcases List.mem_append.1 hc with hc | hc
    · exact (jK (n / 10)).1 c hc
    · exact hd (n % 10) (by omega) c hc
termination_by n => n
decreasing_by omega
theorem aJv {a b : List UInt8} (ha : iW a) (hb : fF 0 b = some 0) : fF 1 (a ++ [44, 32] ++ b) = some 1 := by
 rw [dX, dX, gG a 0 0 1 ha.walk]
 simp only [Option.bind_some]
 rw [show fF (0 + 1) [44, 32] = some 1 from rfl]
 simp only [Option.bind_some]
 exact gG b 0 0 1 hb
theorem jV {nm inner : List UInt8} (h : fM nm) (hne : nm ≠ []) (hw : fF 1 inner = some 1) (ha : ∀ c ∈ inner, c.toNat < 128) : iW (nm ++ [40] ++ inner ++ [41]) := by
 have hn := gY h hne
 refine ⟨?_, ?_, ⟨_, 41, rfl, by decide⟩, ?_⟩
 · rw [dX, dX, dX, lZ nm 0 h]
   simp only [Option.bind_some]
   rw [show fF 0 [40] = some 1 from rfl]
   simp only [Option.bind_some]
   rw [hw]
   rfl
 · obtain ⟨c, m, rfl, hc⟩ := hn.head
   exact ⟨c, m ++ 40 :: (inner ++ [41]), by simp, hc⟩
 · intro c hc
   simp only [List.mem_append, List.mem_singleton] at hc
   rcases hc with ((hc | rfl) | hc) | rfl
   · exact (h c hc).2.2.2.2
   · decide
   · exact ha c hc
   · decide
theorem jD {nm inner : List UInt8} (h : fM nm) (hne : nm ≠ []) (hi : iW inner) : iW (nm ++ [40] ++ inner ++ [41]) :=
 jV h hne (gG inner 0 0 1 hi.walk) hi.ascii
mutual
def Ty.fine : Ty → Prop
 | .num _ | .str | .fix _ | .low => True
 | .nul t | .arr t => t.fine
 | .map k v => k.fine ∧ v.fine
 | .tup ts => ts ≠ [] ∧ mV ts
def mV : List Ty → Prop
 | [] => True
 | t :: ts => t.fine ∧ mV ts
end
mutual
theorem eY : ∀ (t : Ty), t.fine → iW (text t)
 | .num k, _ => by
  rw [text]
  exact gY (xE k) (by cases k <;> simp [Num.name])
 | .str, _ => by
  rw [text]
  exact gY (by unfold fM; decide) (by simp)
 | .fix n, _ => by
  rw [text]
  exact jD (by unfold fM; decide) (by simp) (gY (jK n).1 (jK n).2)
 | .nul t, h => by
  rw [Ty.fine] at h
  rw [text]
  exact jD (by unfold fM; decide) (by simp) (eY t h)
 | .low, _ => by
  rw [text]
  exact jD (by unfold fM; decide) (by simp) (gY (by unfold fM; decide) (by simp))
 | .arr t, h => by
  rw [Ty.fine] at h
  rw [text]
  exact jD (by unfold fM; decide) (by simp) (eY t h)
 | .map k v, h => by
  rw [Ty.fine] at h
  have hk := eY k h.1
  have hv := eY v h.2
  rw [text]
  refine jV (by unfold fM; decide) (by simp) (aJv hk hv.walk) (fun c hc => ?_)
  simp only [List.mem_append, List.mem_cons, List.not_mem_nil, or_false] at hc
  rcases hc with (hc | (rfl | rfl)) | hc
  · exact hk.ascii c hc
  · decide
  · decide
  · exact hv.ascii c hc
 | .tup ts, h => by
  rw [Ty.fine] at h
  have ht := lM ts h.2 h.1
  rw [text]
  exact jV (by unfold fM; decide) (by simp) ht.1 ht.2
theorem lM : ∀ (ts : List Ty), mV ts → ts ≠ [] → fF 1 (texts ts) = some 1 ∧ ∀ c ∈ texts ts, c.toNat < 128
 | [], _, h => absurd rfl h
 | [t], h, _ => by
  rw [mV] at h
  have ht := eY t h.1
  rw [texts]
  exact ⟨gG _ 0 0 1 ht.walk, ht.ascii⟩
 | t :: t' :: ts, h, _ => by
  rw [mV] at h
  have ht := eY t h.1
  have hs := lM (t' :: ts) h.2 (by simp)
  rw [texts]
  refine ⟨?_, fun c hc => ?_⟩
  · rw [dX, dX, gG (text t) 0 0 1 ht.walk]
    simp only [Option.bind_some]
    rw [show fF (0 + 1) [44, 32] = some 1 from rfl]
    exact hs.1
  · simp only [List.mem_append, List.mem_cons, List.not_mem_nil, or_false] at hc
    rcases hc with (hc | (rfl | rfl)) | hc
    · exact ht.ascii c hc
    · decide
    · decide
    · exact hs.2 c hc
end
theorem sU (b : List UInt8) (d : Nat) : fF d (32 :: b) = fF d b := by simp [fF]
theorem kX {a : List UInt8} (h : iW a) : parts Lib.trimSpace (a ++ [41]) [] 0 = [a] := by rw [xN _ _ h.walk, h.trim]
theorem wZ {a : List UInt8} (h : iW a) : parts Lib.trimSpace (32 :: a ++ [41]) [] 0 = [a] := by
 rw [xN _ _ (by rw [sU]; exact h.walk), h.aKu]
theorem aGQ {a b : List UInt8} (ha : iW a) (hb : iW b) : parts Lib.trimSpace (a ++ [44, 32] ++ b ++ [41]) [] 0 = [a, b] := by
 have e : a ++ [44, 32] ++ b ++ [41] = a ++ ([44] ++ (32 :: b ++ [41])) := by simp
 rw [e, nO _ _ _ ha.walk, ha.trim, wZ hb]
theorem sW : ∀ (ts : List Ty), mV ts → ts ≠ [] → parts Lib.trimSpace (texts ts ++ [41]) [] 0 = ts.map text ∧ parts Lib.trimSpace (32 :: texts ts ++ [41]) [] 0 = ts.map text
 | [], _, h => absurd rfl h
 | [t], h, _ => by
  rw [mV] at h
  have ht := eY t h.1
  rw [texts]
  exact ⟨kX ht, wZ ht⟩
 | t :: t' :: ts, h, _ => by
  rw [mV] at h
  have ht := eY t h.1
  have hs := (sW (t' :: ts) h.2 (by simp)).2
  rw [texts]
  have e : ∀ a : List UInt8, a ++ [44, 32] ++ texts (t' :: ts) ++ [41] = a ++ ([44] ++ (32 :: texts (t' :: ts) ++ [41])) := fun a => by simp
  have e1 : 32 :: (text t ++ [44, 32] ++ texts (t' :: ts)) ++ [41] = (32 :: text t) ++ ([44] ++ (32 :: texts (t' :: ts) ++ [41])) := by simp
  refine ⟨?_, ?_⟩
  · rw [e, nO _ _ _ ht.walk, ht.trim, hs]
    rfl
  · rw [e1, nO _ _ _ (by rw [sU]; exact ht.walk), ht.aKu, hs]
    rfl
theorem mZ : ∀ (nm rest : List UInt8), fM nm → Lib.indexByte (nm ++ 40 :: rest) 40 = nm.length
 | [], rest, _ => by simp [Lib.indexByte]
 | c :: nm, rest, h => by
  have ih := mZ nm rest (fun x hx => h x (by simp [hx]))
  have hc : (c == 40) = false := by simpa using (h c (by simp)).1
  rw [List.cons_append, Lib.indexByte, hc, ih]
  have : (((nm.length : Int) == -1)) = false := by simp
  rw [this]
  simp
theorem index_none : ∀ (l : List UInt8), fM l → Lib.indexByte l 40 = -1
 | [], _ => rfl
 | c :: l, h => by
  have ih := index_none l (fun x hx => h x (by simp [hx]))
  have hc : (c == 40) = false := by simpa using (h c (by simp)).1
  rw [Lib.indexByte, hc, ih]
  rfl
end Go.Proofs.YtcidlnjpabgioaaGreatDoor
namespace Go.Proofs.YtcidlnjpabgioaaGreatDoor
open Go.RowKit
theorem qC (w : World) (txt : ByteArray) (h : Lib.indexByte txt.data.toList 40 = -1) :
 Calls Tryz.prog 31 #[.string txt] w fun e w' => e = .returned (.tuple #[.string txt, .slice none 0 0]) ∧ w' = w := by
 have hix := Tryz.strings_IndexByte txt 40 w
 rw [show ((40 : Int).toNat.toUInt8) = 40 from rfl, h] at hix
 go_enter Tryz.func31, Tryz.ntmps31
 go_wp2_with (go_at_call 42; refine hix.mono ?_; rintro e w1 ⟨rfl, rfl⟩)
 go_ret2
 exact ⟨rfl, rfl⟩
theorem xO {P : Program} {w w' : World} (hb : Below w.heap.size w w') {n : String} {cs : Array Value} (h : w.var? P n = some cs) : w'.var? P n = some cs := by
 unfold World.var? at h ⊢
 cases hg : P.globalNamed n with
 | none => simp [hg] at h
 | some g =>
  simp only [hg, Option.bind_some] at h ⊢
  have hlt : g < w.heap.size := by
   rcases Nat.lt_or_ge g w.heap.size with h' | h'
   · exact h'
   · simp [Array.getElem?_eq_none h'] at h
  rw [hb.block g hlt]
  exact h
theorem Fr.bytes (w : World) (e : TypeId) (s : ByteArray) : Fr (fun _ => False) w (Lib.bytesWorld w e s) :=
 ⟨rfl, rfl, rfl, by simp [Lib.bytesWorld, World.freeze], fun k hk _ => Lib.bytesWorld_at_old w e s k hk⟩
theorem lI (s : ByteArray) (a b : Nat) : (s.extract a b).data.toList = (s.data.toList.take b).drop a := by
 rw [ByteArray.data_extract, Array.toList_extract, List.extract_eq_drop_take', List.drop_take]
theorem aHq : ElT Tryz.prog 69 9 (.string ⟨#[]⟩) 1 16 := ⟨Tryz.underlying69, info_parts (by kernel_rfl), rfl⟩
def Strs (w : World) (lo : Nat) (v : Value) (ls : List (List UInt8)) : Prop :=
 w.ownsRow 0 9 1 v ls.length (ls.map fun l => .string ⟨l.toArray⟩) ∧ ∀ q, v.ownBlock = some q → lo ≤ q
theorem xM (w : World) (txt : ByteArray) (nm rest : List UInt8) (htx : txt.data.toList = nm ++ 40 :: (rest ++ [41])) (hix : Lib.indexByte txt.data.toList 40 = nm.length) (hsz : txt.size ≤ 1000000)
 (hascii : ∀ c ∈ txt.data.toList, c.toNat < 128) (htab : Lib.TabIs Tryz.prog w "strings.asciiSpace" .u8 Lib.asciiSpaceTab) :
 Calls Tryz.prog 31 #[.string txt] w fun e w' => ∃ v, e = .returned (.tuple #[.string ⟨nm.toArray⟩, v]) ∧ Strs w' w.heap.size v (parts Lib.trimSpace (rest ++ [41]) [] 0) ∧ Below w.heap.size w w' := by
 have hib := Tryz.strings_IndexByte txt 40 w
 rw [show ((40 : Int).toNat.toUInt8) = 40 from rfl, hix] at hib
 have hlen : txt.data.toList.length = txt.size := Array.length_toList
 have hn2 : txt.size = nm.length + 1 + (rest.length + 1) := by rw [← hlen, htx]; simp; omega
 have hsz1 : (1 : Int) ≤ (txt.size : Int) ∧ (txt.size : Int) - 1 < (txt.size : Int) := by omega
 have hlast : ∀ h, (txt[txt.size - 1]'h).toNat = 41 := by
  intro h
  have e : txt[txt.size - 1]'h = txt.data.toList[txt.size - 1]'(by omega) := by simp [ByteArray.getElem_eq_getElem_data]
  rw [e]
  have : txt.data.toList[txt.size - 1]? = some 41 := by
   rw [htx, List.getElem?_append_right (by omega), show txt.size - 1 - nm.length = rest.length + 1 by omega, List.getElem?_cons_succ, List.getElem?_append_right (Nat.le_refl _)]
   simp
  rw [List.getElem?_eq_getElem (by omega)] at this
  simp only [Option.some.injEq] at this
  rw [this]
  rfl
 have hnm : nm.length + 2 ≤ txt.size := by omega
 have hn3 := Lib.hid hn2
 have htx2 := Lib.hid htx
 clear hn2 hlen htx
 go_enter Tryz.func31, Tryz.ntmps31
 go_wp2_with (go_at_call 42; refine hib.mono ?_; rintro e w1 ⟨rfl, hw1⟩; subst hw1)
 go_loopw [5, 6, 7, 8] (fun out at_ d k wr => ∃ (K A D : Nat) (os : List (List UInt8)), K ≤ txt.size ∧ A ≤ K ∧ D ≤ K ∧ at_ = .int .i64 A ∧ d = .int .i64 D ∧ k = .int .i64 K ∧ Strs wr w1.heap.size out os ∧ os.length ≤ K ∧
  os ++ parts Lib.trimSpace (txt.data.toList.drop K) ((txt.data.toList.take K).drop A) D = parts Lib.trimSpace (rest ++ [41]) [] 0 ∧ Below w1.heap.size w1 wr) (fun _ _ _ k _ => txt.size - (intOf k).toNat)
 case atStart =>
  have hd : txt.data.toList.drop (nm.length + 1) = rest ++ [41] := by
   rw [htx2.out, show nm ++ 40 :: (rest ++ [41]) = (nm ++ [40]) ++ (rest ++ [41]) by simp, show nm.length + 1 = (nm ++ [40]).length by simp, List.drop_left]
  have hd0 : (txt.data.toList.take (nm.length + 1)).drop (nm.length + 1) = [] := List.drop_eq_nil_of_le (by rw [List.length_take]; omega)
  exact ⟨nm.length + 1, nm.length + 1, 0, [], by have := hn3.out; omega, Nat.le_refl _, by omega, by go_num, by go_num, by go_num, ⟨World.ownsRow_nil _ _ _ _, by simp [Value.ownBlock]⟩, by simp, by rw [hd, hd0]; rfl, Below.refl _ _⟩
 case round =>
  obtain ⟨K, A, D, os, hK, hA, hD, rfl, rfl, rfl, hos, hol, hp, hb⟩ := hrel
  by_cases hlt : K < txt.size
  · have htabr : Lib.TabIs Tryz.prog wr "strings.asciiSpace" .u8 Lib.asciiSpaceTab := xO hb htab
    have hts := Tryz.strings_TrimSpace (txt.extract A K) wr (by rw [ByteArray.size_extract]; omega) (fun j b hj => by
     rw [lI] at hj
     exact hascii b (List.mem_of_mem_take (List.mem_of_mem_drop (List.mem_of_getElem? hj)))) htabr
    obtain ⟨TS, hTS⟩ : ∃ TS, RowKit.Hid (TS = Lib.trimSpace (txt.extract A K).data.toList) := ⟨_, Lib.hid rfl⟩
    rw [← hTS.out] at hts
    obtain ⟨hown, hsince⟩ := hos
    obtain ⟨a0, c0, rfl⟩ := ownsRow_shape hown
    have hownT := (Fr.bytes wr 5 (txt.extract A K)).owns hown (fun _ _ h => h)
    have hcons : txt.data.toList.drop K = txt[K] :: txt.data.toList.drop (K + 1) := by
     rw [List.drop_eq_getElem_cons (by rw [Array.length_toList]; exact hlt)]
     rfl
    have hcur : (txt.data.toList.take K).drop A ++ [txt[K]] = (txt.data.toList.take (K + 1)).drop A := by
     rw [List.take_succ_eq_append_getElem (by rw [Array.length_toList]; exact hlt), List.drop_append_of_le_length (by rw [List.length_take, Array.length_toList]; show A ≤ min K txt.size; omega)]
     rfl
    have hnil : (txt.data.toList.take (K + 1)).drop (K + 1) = [] := List.drop_eq_nil_of_le (by rw [List.length_take]; omega)
    have hrest : txt.data.toList.drop (K + 1) = [] ↔ K = txt.size - 1 := by
     rw [List.drop_eq_nil_iff, Array.length_toList]
     show txt.size ≤ K + 1 ↔ _
     omega
    have hst := Lib.hid (aDm Lib.trimSpace txt[K] (txt.data.toList.drop (K + 1)) ((txt.data.toList.take K).drop A) D)
    rw [hcons] at hp
    have hp' := Lib.hid hp
    have hcur' := Lib.hid hcur
    have hnil' := Lib.hid hnil
    have hrest' := Lib.hid hrest
    have hTS2 : RowKit.Hid (TS = Lib.trimSpace ((txt.data.toList.take K).drop A)) := by rw [← lI]; exact hTS
    clear hcons hp hcur hnil hrest
    go_wp2_with (first
     | (go_at_call 43; refine hts.mono ?_; rintro e w2 ⟨rfl, rfl⟩)
     | ((with_reducible show wpList _ _ _ (⟨some 73, _, _, _, _, _⟩ :: _) _ _); refine aP _ rfl aHq _ _ rfl _ _ _ rfl (hownT.alloc _) _ _ _ rfl (Src.ofSlice _ Tryz.underlying69 _ _ _ _ rfl (aW _ [.string ⟨TS.toArray⟩] _) (by simp [Value.oneCell'])) ?_ ?_ ?_; (unfold maxLen; omega); omega; intro v' w3 ha; obtain ⟨a', c', rfl⟩ := ha.shape))
    all_goals go_roundw
    · rename_i h1
      refine ⟨K + 1, A, D + 1, os, by omega, by omega, by omega, rfl, by go_num, by go_num, ⟨hown, hsince⟩, by omega, ?_, hb⟩
      rw [← hp'.out, hst.out.1 (by simp at h1; omega), hcur'.out]
    · simp [intOf]; omega
    · rename_i h1 h2 h3
      refine ⟨K + 1, A, D - 1, os, by omega, by omega, by omega, rfl, by go_num, by go_num, ⟨hown, hsince⟩, by omega, ?_, hb⟩
      rw [← hp'.out, hst.out.2.1 (by omega) h3, hcur'.out]
    · simp [intOf]; omega
    · rename_i h1 h2 h3 h4 h5
      refine ⟨K + 1, K + 1, 0, os ++ [TS], by omega, Nat.le_refl _, by omega, by go_num, by go_num, by go_num, ⟨?_, ?_⟩, by simp; omega, ?_, ?_⟩
      · rw [List.length_append, List.map_append]
        exact ha.1
      · intro q hq
        rcases ha.2.2 with e | e
        · exact hsince q (by rw [← hq, e]; rfl)
        · rw [e] at hq
          simp only [Option.some.injEq] at hq
          have h1 := (Fr.bytes wr 5 (txt.extract A K)).size
          have h2 := hb.size
          simp at hq
          omega
      · rw [List.append_assoc, hnil'.out, ← hp'.out, hst.out.2.2.1 (by omega) (by omega) (by exact .inr (hrest'.out.2 (by simp at h5; omega))), hTS2.out]
        rfl
      · exact hb.trans ((((Fr.bytes wr 5 (txt.extract A K)).alloc _).mono (S' := fun q => w1.heap.size ≤ q) (fun _ _ h => h.elim)).grown ha.2.1 (fun q hq => .inl (hsince q hq)) |>.below hb.size (fun q hq h => by omega))
    · simp [intOf]; omega
    · rename_i h1 h2 h3 h4 h5
      refine ⟨K + 1, A, D, os, by omega, by omega, by omega, rfl, by go_num, by go_num, ⟨hown, hsince⟩, by omega, ?_, hb⟩
      rw [← hp'.out, hst.out.2.2.2 (by omega) (fun h => h3 h.2) (fun h => h.2.elim (by omega) (fun h => by have := hrest'.out.1 h; simp at h5; omega)), hcur'.out]
    · simp [intOf]; omega
    · rename_i h1 h2 h3 h4
      refine ⟨K + 1, K + 1, 0, os ++ [TS], by omega, Nat.le_refl _, by omega, by go_num, by go_num, by go_num, ⟨?_, ?_⟩, by simp; omega, ?_, ?_⟩
      · rw [List.length_append, List.map_append]
        exact ha.1
      · intro q hq
        rcases ha.2.2 with e | e
        · exact hsince q (by rw [← hq, e]; rfl)
        · rw [e] at hq
          simp only [Option.some.injEq] at hq
          have h1 := (Fr.bytes wr 5 (txt.extract A K)).size
          have h2 := hb.size
          simp at hq
          omega
      · rw [List.append_assoc, hnil'.out, ← hp'.out, hst.out.2.2.1 (by simp at h1; omega) (by omega) (by exact .inl (by omega)), hTS2.out]
        rfl
      · exact hb.trans ((((Fr.bytes wr 5 (txt.extract A K)).alloc _).mono (S' := fun q => w1.heap.size ≤ q) (fun _ _ h => h.elim)).grown ha.2.1 (fun q hq => .inl (hsince q hq)) |>.below hb.size (fun q hq h => by omega))
    · simp [intOf]; omega
    · rename_i h1 h2 h3 h4 h5
      refine ⟨K + 1, K + 1, 0, os ++ [TS], by omega, Nat.le_refl _, by omega, by go_num, by go_num, by go_num, ⟨?_, ?_⟩, by simp; omega, ?_, ?_⟩
      · rw [List.length_append, List.map_append]
        exact ha.1
      · intro q hq
        rcases ha.2.2 with e | e
        · exact hsince q (by rw [← hq, e]; rfl)
        · rw [e] at hq
          simp only [Option.some.injEq] at hq
          have h1 := (Fr.bytes wr 5 (txt.extract A K)).size
          have h2 := hb.size
          simp at hq
          omega
      · rw [List.append_assoc, hnil'.out, ← hp'.out, hst.out.2.2.1 (by simp at h1; omega) (by omega) (by simp at h5; exact .inr (hrest'.out.2 (by omega))), hTS2.out]
        rfl
      · exact hb.trans ((((Fr.bytes wr 5 (txt.extract A K)).alloc _).mono (S' := fun q => w1.heap.size ≤ q) (fun _ _ h => h.elim)).grown ha.2.1 (fun q hq => .inl (hsince q hq)) |>.below hb.size (fun q hq h => by omega))
    · simp [intOf]; omega
    · rename_i h1 h2 h3 h4 h5
      refine ⟨K + 1, A, D, os, by omega, by omega, by omega, rfl, by go_num, by go_num, ⟨hown, hsince⟩, by omega, ?_, hb⟩
      rw [← hp'.out, hst.out.2.2.2 (by simp at h1; omega) (fun h => by omega) (fun h => h.2.elim (by omega) (fun h => by have := hrest'.out.1 h; simp at h5; omega)), hcur'.out]
    · simp [intOf]; omega
    · rename_i h1 h2 h3
      refine ⟨K + 1, A, D, os, by omega, by omega, by omega, rfl, by go_num, by go_num, ⟨hown, hsince⟩, by omega, ?_, hb⟩
      rw [← hp'.out, hst.out.2.2.2 (by simp at h1; omega) (fun h => by omega) (fun h => h3 h.1), hcur'.out]
    · simp [intOf]; omega
  · have hnil : txt.data.toList.drop K = [] := List.drop_eq_nil_of_le (by rw [Array.length_toList]; show txt.size ≤ K; omega)
    rw [hnil] at hp
    simp only [parts, List.append_nil] at hp
    subst hp
    have hx : txt.extract 0 nm.length = ⟨nm.toArray⟩ := by
     have e : (txt.extract 0 nm.length).data.toList = nm := by
      rw [lI, htx2.out, List.drop_zero, List.take_left]
     have e2 : (txt.extract 0 nm.length).data = nm.toArray := Array.ext' (by rw [e])
     rw [← e2]
    clear hnil htab hascii hlast
    go_wp2
    go_ret2
    exact ⟨_, rfl, hos, hb⟩
end Go.Proofs.YtcidlnjpabgioaaGreatDoor
namespace Go.Proofs.YtcidlnjpabgioaaGreatDoor
open Go.RowKit
def aV (l : List UInt8) : ByteArray := ⟨l.toArray⟩
theorem bY (l : List UInt8) : (aV l).toList = l := by
 rw [Go.ByteArray.toList_eq]
 rfl
def kinds : List (List UInt8) := [[], Num.i8.name, Num.i16.name, Num.i32.name, Num.i64.name, Num.i128.name, [73, 110, 116, 50, 53, 54], Num.u8.name, Num.u16.name, Num.u32.name, Num.u64.name, [85, 73, 110, 116, 49, 50, 56], Num.u256.name,
 [70, 108, 111, 97, 116, 51, 50], [70, 108, 111, 97, 116, 54, 52], [66, 70, 108, 111, 97, 116, 49, 54], [66, 111, 111, 108], Num.ip4.name, Num.ip6.name, [85, 85, 73, 68]]
def eG (w : World) : Prop := ∃ b o c, w.cell? ⟨0, 0, none⟩ = some (.slice (some ⟨b, o, none⟩) 20 c) ∧ ∀ i, i < 20 → w.cell? ⟨b, o + i, none⟩ = some (.string (aV (kinds.getD i [])))
theorem eG.below {w w' : World} (h : eG w) (hb : Below w.heap.size w w') : eG w' := by
 obtain ⟨b, o, c, h1, h2⟩ := h
 exact ⟨b, o, c, (hb.cell (p := ⟨_, 0, none⟩) (World.block_lt_of_cell? w _ h1)).trans h1, fun i hi => (hb.cell (p := ⟨b, o + i, none⟩) (World.block_lt_of_cell? w _ (h2 i hi))).trans (h2 i hi)⟩
theorem fD {T : Ty} {st : List UInt8} (w : World) (hk : eG w) (L : List UInt8) (nm : ByteArray) (hl : nm.toList = L) (hs : ¬ L = [83, 116, 114, 105, 110, 103]) (hf : ¬ L = [70, 105, 120, 101, 100, 83, 116, 114, 105, 110, 103])
 (idx : Nat) (h1 : 1 ≤ idx) (h20 : idx < 20) (hne : ∀ K, 1 ≤ K → K < idx → ¬ (kinds.getD K []) = L) (heq : kinds.getD idx [] = L) (R : Ending → World → Prop)
 (hcol : Calls Tryz.prog 50 #[.int .i64 idx] w fun e w1 => ∃ t u, e = .returned (.iface t u) ∧ aI Tryz.prog (.iface t u) "given.example/pub-bradawl/impl.cells" #[] w1 R)
 (hR : ∀ e w', R e w' → ∃ v, e = .returned v ∧ bJ T st w (.returned v) w') :
 Calls Tryz.prog 36 #[.string nm, .slice none 0 0] w (bJ T st w) := by
 obtain ⟨b, o, c, hg, hc⟩ := hk
 go_enter Tryz.func36, Tryz.ntmps36
 go_wp2
 go_loop [7] (fun i => ∃ K : Nat, 1 ≤ K ∧ K ≤ idx ∧ i = .int .i64 K) (fun i => 20 - (intOf i).toNat)
 case atStart => exact ⟨1, Nat.le_refl _, h1, rfl⟩
 case round =>
  obtain ⟨K, hK1, hK, rfl⟩ := hrel
  have hcK := hc K (by omega)
  have hlt : K < 20 := by omega
  have hsp : kinds.getD K [] = kinds[K]?.getD [] := by rw [List.getD_eq_getElem?_getD]
  have hdec : ((aV (kinds[K]?.getD [])).toList == L) = (kinds.getD K [] == L) := by rw [bY, hsp]
  by_cases hlt : K = idx
  · subst hlt
    have hd : ((aV (kinds[K]?.getD [])).toList == L) = true := by rw [hdec, heq]; simp
    clear hdec heq hne hsp hs hf
    go_wp2_with (first | (go_at_call 50; refine hcol.mono ?_; rintro e w1 ⟨t, u, rfl, hinv⟩) | ((with_reducible show wpList _ _ _ (⟨some 69, _, _, _, _, _⟩ :: _) _ _); refine aY _ rfl _ _ _ _ rfl _ _ rfl hinv rfl ?_; rintro e w2 hr; obtain ⟨v, rfl, ht⟩ := hR e w2 hr; refine ⟨_, rfl, ?_⟩))
    go_ret
    exact ht
  · have hd : ((aV (kinds[K]?.getD [])).toList == L) = false := by rw [hdec]; simpa using hne K hK1 (by omega)
    clear hdec hsp hs hf hne heq
    go_wp2
    go_round
    case rel => exact ⟨K + 1, by omega, by omega, by go_num⟩
    case measure => simp [intOf]; omega
end Go.Proofs.YtcidlnjpabgioaaGreatDoor
