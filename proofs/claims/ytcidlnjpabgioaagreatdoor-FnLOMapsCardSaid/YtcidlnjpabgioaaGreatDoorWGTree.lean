import Derived.Test.YtcidlnjpabgioaaGreatDoorWGFix
import Derived.Test.YtcidlnjpabgioaaGreatDoorWGNul
set_option maxHeartbeats 4000000
namespace Go.Proofs.YtcidlnjpabgioaaGreatDoor
open Go.RowKit
mutual
def st : Ty → List UInt8
 | .num _ | .str | .fix _ => []
 | .nul t | .arr t => st t
 | .low => [1, 0, 0, 0, 0, 0, 0, 0]
 | .map k v => st k ++ st v
 | .tup ts => sts ts
def sts : List Ty → List UInt8
 | [] => []
 | t :: ts => st t ++ sts ts
end
structure Tabs (w : World) : Prop where
 asc : Lib.TabIs Tryz.prog w "strings.asciiSpace" .u8 Lib.asciiSpaceTab
 kinds : eG w
theorem Tabs.below {w w' : World} (h : Tabs w) (hb : Below w.heap.size w w') : Tabs w' := ⟨xO hb h.asc, h.kinds.below hb⟩
def fV (T : Ty) : Prop := ∀ w, Tabs w → Calls Tryz.prog 23 #[.string (aV (text T))] w (bJ T (st T) w)
structure Kid where
 t : TypeId
 u : Value
 T : Ty
 R : World → (Nat → Prop) → List Cell → Prop
 Rp : World → (Nat → Prop) → List Cell → Prop
 fp : Nat → Prop
def Kid.v (k : Kid) : Value := .iface k.t k.u
def Kids (B : Nat) (w : World) (ks : List Kid) : Prop :=
 (∀ k ∈ ks, bI Tryz.prog B k.t k.u k.T (st k.T) k.R k.Rp ∧ k.R w k.fp []) ∧ ks.Pairwise fun a b => ∀ q, a.fp q → ¬ b.fp q
theorem Kids.nil (B : Nat) (w : World) : Kids B w [] := ⟨by simp, List.Pairwise.nil⟩
theorem Kids.below {B : Nat} {w w' : World} {ks : List Kid} (h : Kids B w ks) (hb : Below w.heap.size w w') : Kids B w' ks :=
 ⟨fun k hk => ⟨(h.1 k hk).1, (h.1 k hk).1.frame (h.1 k hk).2 fun q hq => hb.block q ((h.1 k hk).1.lo (h.1 k hk).2 q hq).2⟩, h.2⟩
theorem Kids.snoc {B : Nat} {w w' : World} {ks : List Kid} (h : Kids B w ks) (hB : B ≤ w.heap.size) (hb : Below w.heap.size w w') {k : Kid} (hk : bI Tryz.prog w.heap.size k.t k.u k.T (st k.T) k.R k.Rp) (hR : k.R w' k.fp []) : Kids B w' (ks ++ [k]) := by
 refine ⟨fun x hx => ?_, ?_⟩
 · rcases List.mem_append.1 hx with hx | hx
   · exact (h.below hb).1 x hx
   · rw [List.mem_singleton.1 hx]
     exact ⟨hk.low hB, hR⟩
 · refine List.pairwise_append.2 ⟨h.2, List.pairwise_singleton _ _, fun a ha b hbm q hq hq' => ?_⟩
   rw [List.mem_singleton.1 hbm] at hq'
   have h1 := ((h.1 a ha).1.lo (h.1 a ha).2 q hq).2
   have h2 := (hk.lo hR q hq').1
   omega
theorem qN : ElT Tryz.prog 72 59 .nilIface 1 16 := ⟨Tryz.underlying72, info_parts (by kernel_rfl), rfl⟩
def lJ (L : List UInt8) (ls : List (List UInt8)) (w : World) (e : Ending) (w' : World) : Prop :=
 ∃ nm v, e = .returned (.tuple #[.string nm, v]) ∧ nm.toList = L ∧ Strs w' w.heap.size v ls ∧ Below w.heap.size w w'
theorem kU (l : List UInt8) : (aV l).data.toList = l := rfl
theorem bJ.ret {T : Ty} {st : List UInt8} {w : World} : ∀ e w', bJ T st w e w' → ∃ v, e = .returned v ∧ bJ T st w (.returned v) w' := by
 rintro e w' ⟨t, u, R, Rp, fp, rfl, h⟩
 exact ⟨_, rfl, t, u, R, Rp, fp, rfl, h⟩
theorem iP (w : World) (ht : Tabs w) (nm inner : List UInt8) (ls : List (List UInt8)) (hw : fM nm) (hn : nm.length + inner.length ≤ 999998) (ha : ∀ c ∈ inner, c.toNat < 128) (hls : parts Lib.trimSpace (inner ++ [41]) [] 0 = ls) :
 Calls Tryz.prog 31 #[.string (aV (nm ++ [40] ++ inner ++ [41]))] w (lJ nm ls w) := by
 have e : nm ++ [40] ++ inner ++ [41] = nm ++ 40 :: (inner ++ [41]) := by simp
 rw [e]
 refine (xM w (aV (nm ++ 40 :: (inner ++ [41]))) nm inner (kU _) (by rw [kU]; exact mZ nm _ hw) ?_ (fun c hc => ?_) ht.asc).mono ?_
 · show (nm ++ 40 :: (inner ++ [41])).toArray.size ≤ 1000000
   simp
   omega
 · rw [kU] at hc
   simp only [List.mem_append, List.mem_cons, List.not_mem_nil, or_false] at hc
   rcases hc with hc | rfl | hc | rfl
   · exact (hw c hc).2.2.2.2
   · decide
   · exact ha c hc
   · decide
 · rintro e w' ⟨v, rfl, hv, hb⟩
   rw [hls] at hv
   exact ⟨_, v, rfl, bY nm, hv, hb⟩
end Go.Proofs.YtcidlnjpabgioaaGreatDoor
namespace Go.Proofs.YtcidlnjpabgioaaGreatDoor
open Go.RowKit
theorem bJ.later {T : Ty} {s : List UInt8} {w w1 : World} (hb : Below w.heap.size w w1) {e : Ending} {w' : World} (h : bJ T s w1 e w') : bJ T s w e w' := by
 obtain ⟨t, u, R, Rp, fp, rfl, cs, hR, hb'⟩ := h
 exact ⟨t, u, R, Rp, fp, rfl, cs.low hb.size, hR, hb.trans (hb'.mono hb.size)⟩
theorem Below.fr {w w' : World} (hb : Below w.heap.size w w') : Fr (fun _ => False) w w' := ⟨hb.os, hb.tape, hb.output, hb.size, fun k hk _ => hb.block k hk⟩
theorem Kids.keep {B : Nat} {w w' : World} {ks : List Kid} (h : Kids B w ks) (hb : ∀ k ∈ ks, ∀ q, k.fp q → w'.heap[q]? = w.heap[q]?) : Kids B w' ks :=
 ⟨fun k hk => ⟨(h.1 k hk).1, (h.1 k hk).1.frame (h.1 k hk).2 (hb k hk)⟩, h.2⟩
theorem Kids.lt {B : Nat} {w : World} {ks : List Kid} (h : Kids B w ks) {k : Kid} (hk : k ∈ ks) {q : Nat} (hq : k.fp q) : B ≤ q ∧ q < w.heap.size := (h.1 k hk).1.lo (h.1 k hk).2 q hq
def Apart (l : Value) (ks : List Kid) : Prop := ∀ k ∈ ks, ∀ q, k.fp q → l.ownBlock ≠ some q
theorem Kids.more {B : Nat} {wr w2 w3 : World} {ks : List Kid} (h : Kids B wr ks) (hB : B ≤ wr.heap.size) (hb : Below wr.heap.size wr w2) {k : Kid} (hk : bI Tryz.prog wr.heap.size k.t k.u k.T (st k.T) k.R k.Rp) (hR : k.R w2 k.fp [])
 {l l' : Value} (hl : ∀ q, l.ownBlock = some q → q < wr.heap.size) (ha : Apart l ks) {o : Obj} {n : Nat} {xs : List Value} (hap : dA (w2.alloc o) w3 59 1 l l' n xs) : Kids B w3 (ks ++ [k]) ∧ Apart l' (ks ++ [k]) := by
 have h2 := h.snoc hB hb hk hR
 have hsz := hb.size
 have hap2 : ∀ x ∈ ks ++ [k], ∀ q, x.fp q → l.ownBlock ≠ some q ∧ q < w2.heap.size := by
  intro x hx q hq
  refine ⟨?_, (h2.lt hx hq).2⟩
  rcases List.mem_append.1 hx with hx | hx
  · exact ha x hx q hq
  · rw [List.mem_singleton.1 hx] at hq
    have := (hk.lo hR q hq).1
    intro he
    have := hl q he
    omega
 refine ⟨h2.keep fun x hx q hq => ?_, fun x hx q hq => ?_⟩
 · obtain ⟨h1, h3⟩ := hap2 x hx q hq
   exact (hap.2.1.block q (by simp; omega) (fun e => h1 e.symm)).trans (Below.heap_alloc _ _ _ h3)
 · obtain ⟨h1, h3⟩ := hap2 x hx q hq
   rcases hap.2.2 with e | e
   · rw [e]; exact h1
   · rw [e]; simp; omega
theorem aDG (t : TypeId) (u : Value) (w : World) : Calls Tryz.prog 33 #[.iface t u] w fun e w' => e = .returned (.pointer (some ⟨w.heap.size, 0, none⟩)) ∧ w' = w.alloc (.cells #[.slice none 0 0, .iface t u] 130) := by
 go_enter Tryz.func33, Tryz.ntmps33
 go_wp2
 go_ret
 exact ⟨rfl, rfl⟩
end Go.Proofs.YtcidlnjpabgioaaGreatDoor
namespace Go.Proofs.YtcidlnjpabgioaaGreatDoor
open Go.RowKit
theorem aIV (t : Ty) (hkid : fV t) (hs : iW (text t)) (hn : (text t).length ≤ 900000) : fV (.nul t) := by
 intro w htab
 obtain ⟨ts, hts⟩ : ∃ ts, Hid (ts = [t]) := ⟨_, Lib.hid rfl⟩
 obtain ⟨LS, hLS⟩ : ∃ LS, Hid (LS = ts.map text) := ⟨_, Lib.hid rfl⟩
 have hLn : Hid (LS.length = ts.length) := Lib.hid (by rw [hLS.out, List.length_map])
 have hLb : LS.length ≤ 1000 := by rw [hLn.out, hts.out]; simp
 have hkids : ∀ x ∈ ts, fV x := fun x hx => by rw [hts.out] at hx; rw [List.mem_singleton.1 hx]; exact hkid
 have hpa : Calls Tryz.prog 31 #[.string (aV (text (.nul t)))] w (lJ [78, 117, 108, 108, 97, 98, 108, 101] LS w) := by
  rw [text]
  exact iP w htab [78, 117, 108, 108, 97, 98, 108, 101] (text t) LS (by unfold fM; decide) (by simp; omega) hs.ascii (by rw [hLS.out, hts.out]; exact kX hs)
 generalize aV (text (.nul t)) = txt at hpa
 go_enter Tryz.func23, Tryz.ntmps23
 go_wp2_with (go_at_call 31; refine hpa.mono ?_; rintro e w1 ⟨nm, v, rfl, hl, ⟨hown, hsince⟩, hb⟩; obtain ⟨av, cv, rfl⟩ := ownsRow_shape hown)
 go_loopw [5, 21] (fun l i wr => ∃ (k : Nat) (ks : List Kid), k ≤ LS.length ∧ i = .int .i64 k ∧ wr.ownsRow 0 59 1 l k (ks.map Kid.v) ∧ (∀ q, l.ownBlock = some q → w1.heap.size ≤ q) ∧ Apart l ks ∧ Kids w1.heap.size wr ks ∧ ks.map Kid.T = ts.take k ∧ Below w1.heap.size w1 wr) (fun _ i _ => LS.length - (intOf i).toNat)
 case atStart => exact ⟨0, [], Nat.zero_le _, rfl, World.ownsRow_nil _ _ _ _, by simp [Value.ownBlock], by simp [Apart], Kids.nil _ _, rfl, Below.refl _ _⟩
 case round =>
  obtain ⟨k, ks, hk, rfl, hownl, hsl, hal, hks, hkt, hbr⟩ := hrel
  obtain ⟨la, lc, rfl⟩ := ownsRow_shape hownl
  have hw1 := hbr.size
  by_cases hlt : k < LS.length
  · have hkl : k < ts.length := by rw [← hLn.out]; exact hlt
    have hstep := Lib.hid (List.take_succ_eq_append_getElem hkl)
    have hmem : ts[k] ∈ ts := List.getElem_mem _
    have hLk : LS[k]? = some (text ts[k]) := by rw [hLS.out, List.getElem?_map, List.getElem?_eq_getElem hkl]; rfl
    generalize ts[k] = tk at hstep hmem hLk
    have hownr := (Below.fr hbr).owns hown (fun _ _ h => h)
    rcases hownr.2 with ⟨hv, h0⟩ | ⟨ga, capa, cura, hv, _, _, hnc, hcm, _⟩
    · omega
    · simp only [Value.slice.injEq] at hv
      obtain ⟨rfl, _, rfl⟩ := hv
      have hcell := hownr.cells (g := ga) rfl k (.string (aV (text tk))) (by rw [List.getElem?_map, hLk]; rfl)
      rw [Addr.add_lit, Nat.zero_add] at hcell
      have hcall := hkids tk hmem wr ((htab.below hb).below hbr)
      have hll := fun q (h : (Value.slice la k lc).ownBlock = some q) => aK hownl h
      have hkt2 := Lib.hid hkt
      unfold maxLen at hcm
      clear hmem hLk hownr hkt hsince hown
      go_wp2_with (first
       | (go_at_call 23; refine hcall.mono ?_; rintro e w2 ⟨t, u, R, Rp, fp, rfl, cs, hR, hb2⟩; have hown2 := (Below.fr hb2).owns hownl (fun _ _ h => h))
       | ((with_reducible show wpList _ _ _ (⟨some 32, _, _, _, _, _⟩ :: _) _ _); refine aP _ rfl qN _ _ rfl _ _ _ rfl (hown2.alloc _) _ _ _ rfl (Src.ofSlice _ Tryz.underlying72 _ _ _ _ rfl (aW _ [.iface t u] _) (by simp [Value.oneCell'])) ?_ ?_ ?_; (unfold maxLen; omega); omega; intro v' w3 ha; obtain ⟨a', c', rfl⟩ := ha.shape))
      go_roundw
      case rel =>
       have hmore := Kids.more hks hw1 hb2 (k := ⟨t, u, tk, R, Rp, fp⟩) cs hR hll hal ha
       refine ⟨k + 1, ks ++ [⟨t, u, tk, R, Rp, fp⟩], by omega, by go_num, ?_, ?_, hmore.2, hmore.1, ?_, ?_⟩
       · rw [List.map_append]
         exact ha.1
       · intro q hq
         rcases ha.2.2 with e | e
         · exact hsl q (e.symm.trans hq)
         · rw [e] at hq
           simp only [Option.some.injEq] at hq
           have := hb2.size
           simp at hq
           omega
       · rw [List.map_append, hkt2.out, hstep.out]
         rfl
       · exact hbr.trans ((((Below.fr hb2).alloc _).mono (S' := fun q => w1.heap.size ≤ q) (fun _ _ h => h.elim)).grown ha.2.1 (fun q hq => .inl (hsl q hq)) |>.below hw1 (fun q hq h => by omega))
      case measure => simp [intOf]; omega
  · have hkl : k = ts.length := by rw [← hLn.out]; omega
    subst hkl
    rw [List.take_length] at hkt
    have hlen : ks.length = ts.length := by rw [← List.length_map (f := Kid.T), hkt]
    clear hkids hsince hown
    have hne : ts.length = 1 := by rw [hts.out]; rfl
    rcases hownl.2 with ⟨hv, h0⟩ | ⟨ga, capa, cura, hv, _, _, hnc, hcm, _⟩
    · omega
    · simp only [Value.slice.injEq] at hv
      obtain ⟨rfl, _, rfl⟩ := hv
      obtain ⟨kd, rfl⟩ := List.length_eq_one_iff.1 (hlen.trans hne)
      have hcell := hownl.cells (g := ga) rfl 0 (.iface kd.t kd.u) rfl
      simp only [Addr.add_lit, Nat.add_zero] at hcell
      have hkT : kd.T = t := by rw [hts.out] at hkt; simpa using hkt
      obtain ⟨hcs, hR⟩ := hks.1 kd (by simp)
      have hlo := fun q hq => hcs.lo hR q hq
      obtain ⟨kt, ku, kT, kR, kRp, kfp⟩ := kd
      simp only at hkT hcs hR hlo hcell
      subst hkT
      have hne2 := Lib.hid hne
      rw [hne] at hnc
      unfold maxLen at hcm
      have hone : (ts.length : Int) = 1 := by rw [hne]; rfl
      clear hkt hlen hownl hks hal hsl
      go_wp2_with (go_at_call 33; refine (aDG kt ku wr).mono ?_; rintro e w2 ⟨rfl, rfl⟩)
      go_ret
      have hs1 := hb.size
      have hlo2 : ∀ q, kfp q → w.heap.size ≤ q ∧ q < wr.heap.size := fun q hq => ⟨by have := (hlo q hq).1; omega, (hlo q hq).2⟩
      have hsp := aEP (hcs.low hs1) wr.heap.size
      refine ⟨_, _, gI w.heap.size kt ku kR wr.heap.size, gI w.heap.size kt ku kRp wr.heap.size, fun q => q = wr.heap.size ∨ kfp q, rfl, by rw [st]; exact hsp, ⟨.slice none 0 0, kfp, heap_alloc_new wr _, World.ownsRow_nil _ _ _ _, ?_, by simp [Value.ownBlock], fun h => by have := (hlo _ h).2; omega, by simp [Value.ownBlock], fun q => by simp [Value.ownBlock], ?_⟩, ?_⟩
      · exact hcs.frame hR fun q hq => Below.heap_alloc _ _ _ (hlo q hq).2
      · rintro q (rfl | hq)
        · omega
        · exact (hlo2 q hq).1
      · exact (hb.trans (hbr.mono hs1)).alloc (by omega) _
end Go.Proofs.YtcidlnjpabgioaaGreatDoor
namespace Go.Proofs.YtcidlnjpabgioaaGreatDoor
open Go.RowKit
theorem vG (T : Ty) (w : World) (L : List UInt8) (hi : Lib.indexByte L 40 = -1) (h1 : ¬ L = [70, 105, 120, 101, 100, 83, 116, 114, 105, 110, 103]) (h2 : ¬ L = [65, 114, 114, 97, 121]) (h3 : ¬ L = [78, 117, 108, 108, 97, 98, 108, 101])
 (h4 : ¬ L = [76, 111, 119, 67, 97, 114, 100, 105, 110, 97, 108, 105, 116, 121]) (h5 : ¬ L = [77, 97, 112]) (h6 : ¬ L = [84, 117, 112, 108, 101])
 (hp : Calls Tryz.prog 36 #[.string (aV L), .slice none 0 0] w (bJ T (st T) w)) :
 Calls Tryz.prog 23 #[.string (aV L)] w (bJ T (st T) w) := by
 have hpa := qC w (aV L) (by rw [kU]; exact hi)
 have hl := bY L
 generalize aV L = nm at hpa hl hp
 have n1 : (!(L == [70, 105, 120, 101, 100, 83, 116, 114, 105, 110, 103])) = true := by simpa using h1
 go_enter Tryz.func23, Tryz.ntmps23
 go_wp2_with (go_at_call 31; refine hpa.mono ?_; rintro e w1 ⟨rfl, rfl⟩)
 go_loop [21] (fun i => i = .int .i64 0) (fun _ => 0)
 case atStart => exact rfl
 case round =>
  subst hrel
  go_wp2_with (go_at_call 36; refine hp.mono ?_; rintro e w2 hts; obtain ⟨v, rfl, hts⟩ := bJ.ret e w2 hts)
  go_ret
  exact hts
end Go.Proofs.YtcidlnjpabgioaaGreatDoor
namespace Go.Proofs.YtcidlnjpabgioaaGreatDoor
open Go.RowKit
theorem aHw (n : Nat) (hn : n = 5 ∨ n = 16) : fV (.fix n) := by
 intro w htab
 have hpa : Calls Tryz.prog 31 #[.string (aV (text (.fix n)))] w (lJ [70, 105, 120, 101, 100, 83, 116, 114, 105, 110, 103] [digits n] w) := by
  rw [text]
  have hd := jK n
  have hs := gY hd.1 hd.2
  exact iP w htab [70, 105, 120, 101, 100, 83, 116, 114, 105, 110, 103] (digits n) [digits n] (by unfold fM; decide) (by have := (aCm hn).2; simp; omega) hs.ascii (kX hs)
 generalize aV (text (.fix n)) = txt at hpa
 go_enter Tryz.func23, Tryz.ntmps23
 go_wp2_with (first
  | (go_at_call 31; refine hpa.mono ?_; rintro e w1 ⟨nm, v, rfl, hl, hv, hb⟩; have hpl := aGL n hn w1 nm hl _ v hv)
  | (go_at_call 36; refine hpl.mono ?_; rintro e w2 hts; obtain ⟨v, rfl, hts⟩ := bJ.ret e w2 hts))
 go_ret
 rw [st]
 exact bJ.later hb hts
theorem aIN (k : Num) (hp : ∀ (w : World), eG w → ∀ nm : ByteArray, nm.toList = k.name → Calls Tryz.prog 36 #[.string nm, .slice none 0 0] w (bJ (.num k) [] w)) : fV (.num k) := by
 intro w htab
 have h := hp w htab.kinds (aV k.name) (bY _)
 rw [text]
 refine vG (.num k) w k.name (index_none _ (xE k)) ?_ ?_ ?_ ?_ ?_ ?_ (by rw [st]; exact h) <;> (cases k <;> decide)
theorem aIt : fV .str := by
 intro w htab
 have h := aGH w (aV [83, 116, 114, 105, 110, 103]) (bY _)
 rw [text]
 exact vG .str w [83, 116, 114, 105, 110, 103] (index_none _ (by unfold fM; decide)) (by decide) (by decide) (by decide) (by decide) (by decide) (by decide) (by rw [st]; exact h)
end Go.Proofs.YtcidlnjpabgioaaGreatDoor
