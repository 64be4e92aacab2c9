import Derived.Test.YtcidlnjpabgioaaGreatDoorWGMap
import Derived.Test.YtcidlnjpabgioaaGreatDoorWKu8
import Derived.Test.YtcidlnjpabgioaaGreatDoorWGKc
import Derived.Test.YtcidlnjpabgioaaGreatDoorProg
import Derived.ProofKit
import Derived.Maps.OwnSet
import Derived.Maps.Views
import Derived.DeepKeys4
import Derived.Test.YtcidlnjpabgioaaGreatDoorWGArr
set_option maxHeartbeats 2000000
set_option maxRecDepth 100000
namespace Go.Proofs.YtcidlnjpabgioaaGreatDoor
open Go.RowKit
theorem aDx (w : World) (b : Nat) (fb : Nat → Prop) (bs : List UInt8) (hb : Buf w b fb bs) (v : Nat) (hv : v < 18446744073709551616) (hl : bs.length ≤ 1099511627776) :
 Calls Tryz.prog 231 #[.pointer (some ⟨b, 0, none⟩), .int .u64 v] w fun e w' => e = .returned (.tuple #[]) ∧ Fr fb w w' ∧ ∃ fb', Buf w' b fb' (bs ++ Lib.leBytes 8 v) ∧ Grow w fb fb' := by
 obtain ⟨vb, hp, hob, hne, hfp⟩ := hb
 obtain ⟨a0, c0, rfl⟩ := ownsRow_shape hob
 have hpl := aH hp
 have hbl : ∀ q, (Value.slice a0 bs.length c0).ownBlock = some q → q < w.heap.size := fun q hq => aK hob hq
 go_enter Tryz.func231, Tryz.ntmps231
 go_wp2_with fail
 generalize hW : w.alloc _ = W
 have hfW : Fr (fun _ => False) w W := by subst hW; exact (Fr.refl _ w).alloc _
 have hgW : W.heap[w.heap.size]? = some (.cells #[.int .u8 0, .int .u8 0, .int .u8 0, .int .u8 0, .int .u8 0, .int .u8 0, .int .u8 0, .int .u8 0] 486 (0, 0)) := by subst hW; exact heap_alloc_new w _
 clear hW
 have hput := mJ w.heap.size 0 8 8 v hv W.drew (by omega) (fun j hj => by
  have : W.drew.cell? ⟨w.heap.size, 0 + j, none⟩ = _ := cell_of_row W _ _ _ _ _ hgW
  rw [this]
  match j, hj with
  | 0, _ | 1, _ | 2, _ | 3, _ | 4, _ | 5, _ | 6, _ | 7, _ => exact ⟨_, rfl⟩) (fun j => frozen_of_row W _ _ _ _ hgW)
 have hcells : ∀ w2, w2 = (W.drew.alloc (.cells #[] 454)).setCells w.heap.size 0 (aQ (Lib.leBytes 8 v)) → Fr (fun q => q = w.heap.size) W w2 ∧ ∀ j u, (aQ (Lib.leBytes 8 v))[j]? = some u → w2.cell? ((⟨w.heap.size, 0, none⟩ : Addr).add j) = some u := by
  rintro w2 rfl
  have hg2 : (W.drew.alloc (.cells #[] 454)).heap[w.heap.size]? = _ := (Below.heap_alloc W.drew _ _ (aH hgW)).trans hgW
  have h := jC w.heap.size 486 (aQ (Lib.leBytes 8 v)) 0 _ _ hg2 (by rw [bG, Lib.leBytes_length]; decide)
  refine ⟨Fr.setCells (S := fun q => q = w.heap.size) (.inl rfl) _ _ _ (((Fr.refl _ W).drew).alloc _), fun j u hj => ?_⟩
  rw [Addr.add_lit, cell_of_row _ _ _ _ _ _ h, List.getElem?_toArray, List.take_zero, List.nil_append]
  simp only [Nat.zero_add]
  rw [List.getElem?_append_left (List.getElem?_eq_some_iff.1 hj).1]
  exact hj
 have hll : (aQ (Lib.leBytes 8 v)).length = 8 := by rw [bG, Lib.leBytes_length]
 generalize hWb : (W.drew.alloc (.cells #[] 454)).setCells w.heap.size 0 (aQ (Lib.leBytes 8 v)) = Wb at hput
 obtain ⟨hfb, hcb⟩ := hcells Wb hWb.symm
 clear hcells hWb
 go_region_law (go_simp; go_at_call 175; refine hput.mono ?_; rintro e w2 ⟨rfl, rfl⟩)
 all_goals
  have hf2 : Fr (fun _ => False) w w2 := hfW.trans hfb (fun q hq h => by omega)
  have hp2 := (hf2.block b hpl (fun h => h)).trans hp
  have ho2 := hf2.owns hob (fun _ _ h => h)
  obtain ⟨hcell, hfz⟩ := aF.cell hp2
  have hsrc : Src Tryz.prog 1 22 (.slice (some ⟨w.heap.size, 0, none⟩) 8 8) 8 (aQ (Lib.leBytes 8 v)) w2.drew := Src.ofSlice _ Tryz.underlying22 _ _ _ _ (by rw [hll]) hcb (fun u hu => by obtain ⟨x, _, rfl⟩ := List.mem_map.1 hu; rfl)
  go_wp2
  go_region_law (refine aS _ rfl ?_; refine dB _ gU _ _ rfl _ _ _ rfl ho2 _ _ _ rfl hsrc ?_ ?_ ?_; (unfold maxLen; omega); omega; intro v' w3 ha; obtain ⟨a', c', rfl⟩ := ha.shape; have hc3 : w3.cell? ⟨b, 0, none⟩ = some (.slice a0 bs.length c0) := ha.2.1.cell hcell (fun h => hne h.symm); have hf3 : w3.frozen? ⟨b, 0, none⟩ = false := (World.frozen?_of_block (ha.2.1.block b (aH hp2) (fun h => hne h.symm))).trans hfz)
  all_goals
   obtain ⟨⟨fb', hcol, hg⟩, hfr⟩ := aF.appended hp2 ho2 hne hfp ((Fr.refl _ w2).drew) ha
   go_end0
   have hlen : (bs ++ Lib.leBytes 8 v).length = bs.length + 8 := by rw [List.length_append, Lib.leBytes_length]
   exact ⟨rfl, (hf2.mono (fun _ _ h => h.elim)).trans hfr (fun _ _ h => h), fb', Buf.col.2 (by rw [hlen, bQ]; exact hcol), fun k hk => (hg k hk).imp id (fun h => Nat.le_trans hf2.size h)⟩
theorem fO (w : World) (b : Nat) (fb : Nat → Prop) (bs : List UInt8) (hb : Buf w b fb bs) (v : Nat) (hv : v < 9223372036854775808) (hl : bs.length ≤ 1099511627776) :
 Calls Tryz.prog 218 #[.pointer (some ⟨b, 0, none⟩), .int .i64 v] w fun e w' => e = .returned (.tuple #[]) ∧ Fr fb w w' ∧ ∃ fb', Buf w' b fb' (bs ++ Lib.leBytes 8 v) ∧ Grow w fb fb' := by
 have hcall := aDx w b fb bs hb v (by omega) hl
 have hwr : IntKind.u64.wrap (v : Int) = v := by rw [IntKind.wrap_u64]; omega
 go_enter Tryz.func218, Tryz.ntmps218
 go_wp2_with (go_at_call 231; refine hcall.mono ?_; rintro e w2 ⟨rfl, hfin⟩)
 go_end0
 exact ⟨rfl, hfin⟩
theorem zI (z : Value) (hz : z.cells.size = 1) (m : Nat) : Builtin.zeroCells z.cells m = (List.replicate m (z.cells[0]'(by omega))).toArray := by
 apply Array.ext
 · simp [Builtin.zeroCells, hz]
 · intro i h1 h2
   simp [Builtin.zeroCells, hz, Nat.mod_one]
theorem aKD : ElT Tryz.prog 140 3 (.int .i64 0) 1 8 := ⟨Tryz.underlying140, info_parts (by kernel_rfl), rfl⟩
section
variable {P : Program} (w : World)
theorem rF (t tn ty e : TypeId) (i : TypeInfo) (kn : IntKind) (ht : P.underlying t = some (.slice e)) (htn : P.underlying tn = some (.int kn)) (hi : P.info? e = some i) (hz : i.zero = some (.int .i64 0))
 (hsize : i.size = 1) (hby : i.bytes = 8) (m : Nat) (hbytes : m * 8 ≤ 140737488355328) :
 ∃ v' w', (Builtin.append_ #[t, tn] ty #[.slice none 0 0, .int .i64 m]).run P w = .ok v' w' ∧ dA w w' e 1 (.slice none 0 0) v' m (List.replicate m (.int .i64 0)) := by
 have hw : IntKind.i64.wrap (m : Int) = m := by rw [IntKind.wrap_i64]; omega
 have hneg : ¬ ((m : Int) < 0) := by omega
 by_cases hm : m = 0
 · subst hm
   refine ⟨.slice none 0 0, w, ?_, World.ownsRow_nil _ _ _ _, ⟨rfl, rfl, rfl, Nat.le_refl _, fun _ _ _ => rfl⟩, .inl rfl⟩
   have hw0 : IntKind.i64.wrap 0 = 0 := by rw [IntKind.wrap_i64]; rfl
   simp [Builtin.append_, run_underlying ht, run_underlying htn, sizeOf, typeInfo, zeroValue, hi, hz, hby, asInt, asIntOf, hw0, Question.forced, run_firstCells_none, newRow, Value.cells]
 · have h48 : ¬ (281474976710656 < (m : Int) * 8) := by omega
   have hgs := growslice_fits (need := m) (old := 0) (bytes := 8) (by omega) (by omega)
   have hfit : ¬ (281474976710656 < Builtin.nextslicecap m 0 * 8) := by omega
   have h63 : ¬ (9223372036854775807 < (m : Int)) := by omega
   have hge := grownCap_ge w m 0 e
   have hcm : grownCap w m 0 e ≤ maxLen := grownCap_le_maxLen w m 0 e (by unfold maxLen; omega)
   have hl : (List.replicate m (Value.int .i64 0)).length = m * 1 := by simp
   refine ⟨.slice (some ⟨w.heap.size, 0, none⟩) m (grownCap w m 0 e), w.drew.alloc (.cells ((List.replicate m (Value.int .i64 0)).toArray ++ Builtin.zeroCells #[.int .i64 0] (grownCap w m 0 e - m)) e), ?_, ⟨hl, .inr ⟨w.heap.size, _, _, rfl, Nat.zero_le _, heap_alloc_new w.drew _, hge, hcm, ?_, ?_⟩⟩, ⟨rfl, rfl, rfl, by simp, fun k hk _ => Below.heap_alloc w.drew _ k hk⟩, .inr rfl⟩
   · have hzc : Builtin.zeroCells #[.int .i64 0] m = (List.replicate m (Value.int .i64 0)).toArray := zI (.int .i64 0) rfl m
     simp [Builtin.append_, run_underlying ht, run_underlying htn, sizeOf, typeInfo, zeroValue, hi, hz, hsize, hby, asInt, asIntOf, hw, hneg, hm, h48, hfit, h63, Question.forced, run_firstCells_none, newRow, grownCap, Value.cells, hzc]
   · rw [Array.size_append, List.size_toArray, size_zeroCells, hl]
     simp
     omega
   · rw [Array.toList_append, ← hl]
     exact List.take_left
variable {ops : Array Oper} {rest : List Oper} {o : Oper} {a : Act} {Q : Exit → Act → World → Prop} {K : Act → World → Prop}
theorem nP {t tn : TypeId} {kn : IntKind} {e : TypeId} (el : ElT P t e (.int .i64 0) 1 8) (htn : P.underlying tn = some (.int kn)) (s x : Operand)
 (hop : o.op = .call { callee := .builtin .append, args := #[s, x], argTypes := #[t, tn] }) (hv : a.eval s = .slice none 0 0) (m : Nat) (hx : a.eval x = .int .i64 m) (hbytes : m * 8 ≤ 140737488355328)
 (h : ∀ v' w', dA w w' e 1 (.slice none 0 0) v' m (List.replicate m (.int .i64 0)) → K (a.put o.dst v') w') : o.wp P a w K Q := by
 obtain ⟨i, hi, hz, hsz, hby⟩ := el.info
 obtain ⟨v', w', hr, h2⟩ := rF (P := P) w t tn o.type e i kn el.ht htn hi hz hsz hby m hbytes
 unfold Oper.wp execOp
 simp only [hop, resolve, invoke, builtin, Sem.run_bind, Sem.run_pure, Result.andThen_ok, List.map_toArray, List.map_cons, List.map_nil, hv, hx, hr]
 exact h v' w' h2
end
theorem dW {w : World} {p : Nat} {cur : Array Value} {t : TypeId} (h : w.heap[p]? = some (.cells cur t (0, 0))) (i : Nat) (v : Value) : (w.setCell ⟨p, i, none⟩ v).heap[p]? = some (.cells (cur.setIfInBounds i v) t (0, 0)) := by
 simp [World.setCell, Array.getElem?_modify, h]
def dL (n : Nat) : Cell := .mk n 0 0 0 ⟨#[]⟩ false [] []
theorem aKn (w : World) (ns : List Nat) (v : Value) (hown0 : w.ownsRow 0 3 1 v ns.length (ns.map fun n : Nat => .int .i64 n)) (hn : ns.length ≤ 2147483648) :
 Calls Tryz.prog 221 #[v, .slice none 0 0] w fun e w' => ∃ tv, e = .returned tv ∧ w'.ownsRow 0 5 1 tv ns.length ((ns.map dL).flatMap dP) ∧ (∀ q, tv.ownBlock = some q → w.heap.size ≤ q) ∧ Fr (fun _ => False) w w' := by
 obtain ⟨av, cv, rfl⟩ := ownsRow_shape hown0
 go_enter Tryz.func221, Tryz.ntmps221
 go_wp2
 go_loopw [1, 11] (fun tv i wr => ∃ k : Nat, k ≤ ns.length ∧ i = .int .i64 k ∧ wr.ownsRow 0 5 1 tv k (((ns.take k).map dL).flatMap dP) ∧ (∀ q, tv.ownBlock = some q → w.heap.size ≤ q) ∧ Fr (fun _ => False) w wr) (fun _ i _ => ns.length - (intOf i).toNat)
 case atStart => exact ⟨0, Nat.zero_le _, rfl, World.ownsRow_nil _ _ _ _, by simp [Value.ownBlock], Fr.refl _ _⟩
 case round =>
  obtain ⟨k, hk, rfl, hown, hsince, hfr⟩ := hrel
  obtain ⟨a0, c0, rfl⟩ := ownsRow_shape hown
  by_cases hlt : k < ns.length
  · have hownr := hfr.owns hown0 (fun _ _ h => h)
    have hstep : ((ns.take (k + 1)).map dL).flatMap dP = ((ns.take k).map dL).flatMap dP ++ dP (dL ns[k]) := by
     rw [List.take_succ_eq_append_getElem hlt, List.map_append, List.flatMap_append]
     simp
    have hstep2 := Lib.hid hstep
    rcases hownr.2 with ⟨hv, -⟩ | ⟨ga, capa, cura, hv, -⟩
    · simp only [Value.slice.injEq] at hv; omega
    · simp only [Value.slice.injEq] at hv
      obtain ⟨rfl, -, rfl⟩ := hv
      have hx := hownr.cells (g := ga) rfl k (.int .i64 ns[k]) (by rw [List.getElem?_map, List.getElem?_eq_getElem hlt]; rfl)
      generalize ns[k] = nk at hx hstep2
      rw [Addr.add_lit, Nat.zero_add] at hx
      clear hstep hownr hown0
      go_wp2_with ((with_reducible show wpList _ _ _ (⟨some 19, _, _, _, _, _⟩ :: _) _ _); refine aP _ rfl aIG _ _ rfl _ _ _ rfl (hown.alloc _) _ _ _ rfl (Src.ofSlice _ Tryz.underlying22 _ _ _ _ rfl (aW _ [.int .u8 (IntKind.u8.wrap nk)] _) (by simp [Value.oneCell'])) ?_ ?_ ?_; (unfold maxLen; omega); omega; intro v' w2 ha; obtain ⟨a', c', rfl⟩ := ha.shape)
      go_roundw
      case rel =>
       have hsn := ha.since (hfr.alloc _) hsince
       exact ⟨k + 1, by omega, by go_num, by rw [hstep2.out]; exact ha.1, hsn.1, hsn.2⟩
      case measure => simp [intOf]; omega
  · have hke : k = ns.length := by omega
    subst hke
    rw [List.take_length] at hown
    go_wp2
    go_ret
    exact ⟨_, rfl, hown, hsince, hfr⟩
theorem aJm (w : World) (ns : List Nat) (v : Value) (hown0 : w.ownsRow 0 3 1 v ns.length (ns.map fun n : Nat => .int .i64 n)) (hn : ns.length ≤ 2147483648) :
 Calls Tryz.prog 222 #[v, .slice none 0 0] w fun e w' => ∃ tv, e = .returned tv ∧ w'.ownsRow 0 199 1 tv ns.length ((ns.map dL).flatMap dF) ∧ (∀ q, tv.ownBlock = some q → w.heap.size ≤ q) ∧ Fr (fun _ => False) w w' := by
 obtain ⟨av, cv, rfl⟩ := ownsRow_shape hown0
 go_enter Tryz.func222, Tryz.ntmps222
 go_wp2
 go_loopw [1, 11] (fun tv i wr => ∃ k : Nat, k ≤ ns.length ∧ i = .int .i64 k ∧ wr.ownsRow 0 199 1 tv k (((ns.take k).map dL).flatMap dF) ∧ (∀ q, tv.ownBlock = some q → w.heap.size ≤ q) ∧ Fr (fun _ => False) w wr) (fun _ i _ => ns.length - (intOf i).toNat)
 case atStart => exact ⟨0, Nat.zero_le _, rfl, World.ownsRow_nil _ _ _ _, by simp [Value.ownBlock], Fr.refl _ _⟩
 case round =>
  obtain ⟨k, hk, rfl, hown, hsince, hfr⟩ := hrel
  obtain ⟨a0, c0, rfl⟩ := ownsRow_shape hown
  by_cases hlt : k < ns.length
  · have hownr := hfr.owns hown0 (fun _ _ h => h)
    have hstep : ((ns.take (k + 1)).map dL).flatMap dF = ((ns.take k).map dL).flatMap dF ++ dF (dL ns[k]) := by
     rw [List.take_succ_eq_append_getElem hlt, List.map_append, List.flatMap_append]
     simp
    have hstep2 := Lib.hid hstep
    rcases hownr.2 with ⟨hv, -⟩ | ⟨ga, capa, cura, hv, -⟩
    · simp only [Value.slice.injEq] at hv; omega
    · simp only [Value.slice.injEq] at hv
      obtain ⟨rfl, -, rfl⟩ := hv
      have hx := hownr.cells (g := ga) rfl k (.int .i64 ns[k]) (by rw [List.getElem?_map, List.getElem?_eq_getElem hlt]; rfl)
      generalize ns[k] = nk at hx hstep2
      rw [Addr.add_lit, Nat.zero_add] at hx
      clear hstep hownr hown0
      go_wp2_with ((with_reducible show wpList _ _ _ (⟨some 19, _, _, _, _, _⟩ :: _) _ _); refine aP _ rfl aFx _ _ rfl _ _ _ rfl (hown.alloc _) _ _ _ rfl (Src.ofSlice _ Tryz.underlying135 _ _ _ _ rfl (aW _ [.int .u16 (IntKind.u16.wrap nk)] _) (by simp [Value.oneCell'])) ?_ ?_ ?_; (unfold maxLen; omega); omega; intro v' w2 ha; obtain ⟨a', c', rfl⟩ := ha.shape)
      go_roundw
      case rel =>
       have hsn := ha.since (hfr.alloc _) hsince
       exact ⟨k + 1, by omega, by go_num, by rw [hstep2.out]; exact ha.1, hsn.1, hsn.2⟩
      case measure => simp [intOf]; omega
  · have hke : k = ns.length := by omega
    subst hke
    rw [List.take_length] at hown
    go_wp2
    go_ret
    exact ⟨_, rfl, hown, hsince, hfr⟩
theorem aIX (w : World) (ns : List Nat) (v : Value) (hown0 : w.ownsRow 0 3 1 v ns.length (ns.map fun n : Nat => .int .i64 n)) (hn : ns.length ≤ 2147483648) :
 Calls Tryz.prog 223 #[v, .slice none 0 0] w fun e w' => ∃ tv, e = .returned tv ∧ w'.ownsRow 0 209 1 tv ns.length ((ns.map dL).flatMap dG) ∧ (∀ q, tv.ownBlock = some q → w.heap.size ≤ q) ∧ Fr (fun _ => False) w w' := by
 obtain ⟨av, cv, rfl⟩ := ownsRow_shape hown0
 go_enter Tryz.func223, Tryz.ntmps223
 go_wp2
 go_loopw [1, 11] (fun tv i wr => ∃ k : Nat, k ≤ ns.length ∧ i = .int .i64 k ∧ wr.ownsRow 0 209 1 tv k (((ns.take k).map dL).flatMap dG) ∧ (∀ q, tv.ownBlock = some q → w.heap.size ≤ q) ∧ Fr (fun _ => False) w wr) (fun _ i _ => ns.length - (intOf i).toNat)
 case atStart => exact ⟨0, Nat.zero_le _, rfl, World.ownsRow_nil _ _ _ _, by simp [Value.ownBlock], Fr.refl _ _⟩
 case round =>
  obtain ⟨k, hk, rfl, hown, hsince, hfr⟩ := hrel
  obtain ⟨a0, c0, rfl⟩ := ownsRow_shape hown
  by_cases hlt : k < ns.length
  · have hownr := hfr.owns hown0 (fun _ _ h => h)
    have hstep : ((ns.take (k + 1)).map dL).flatMap dG = ((ns.take k).map dL).flatMap dG ++ dG (dL ns[k]) := by
     rw [List.take_succ_eq_append_getElem hlt, List.map_append, List.flatMap_append]
     simp
    have hstep2 := Lib.hid hstep
    rcases hownr.2 with ⟨hv, -⟩ | ⟨ga, capa, cura, hv, -⟩
    · simp only [Value.slice.injEq] at hv; omega
    · simp only [Value.slice.injEq] at hv
      obtain ⟨rfl, -, rfl⟩ := hv
      have hx := hownr.cells (g := ga) rfl k (.int .i64 ns[k]) (by rw [List.getElem?_map, List.getElem?_eq_getElem hlt]; rfl)
      generalize ns[k] = nk at hx hstep2
      rw [Addr.add_lit, Nat.zero_add] at hx
      clear hstep hownr hown0
      go_wp2_with ((with_reducible show wpList _ _ _ (⟨some 19, _, _, _, _, _⟩ :: _) _ _); refine aP _ rfl aFn _ _ rfl _ _ _ rfl (hown.alloc _) _ _ _ rfl (Src.ofSlice _ Tryz.underlying137 _ _ _ _ rfl (aW _ [.int .u32 (IntKind.u32.wrap nk)] _) (by simp [Value.oneCell'])) ?_ ?_ ?_; (unfold maxLen; omega); omega; intro v' w2 ha; obtain ⟨a', c', rfl⟩ := ha.shape)
      go_roundw
      case rel =>
       have hsn := ha.since (hfr.alloc _) hsince
       exact ⟨k + 1, by omega, by go_num, by rw [hstep2.out]; exact ha.1, hsn.1, hsn.2⟩
      case measure => simp [intOf]; omega
  · have hke : k = ns.length := by omega
    subst hke
    rw [List.take_length] at hown
    go_wp2
    go_ret
    exact ⟨_, rfl, hown, hsince, hfr⟩
theorem aGs (w : World) (p : Nat) (fp : Nat → Prop) (h : iH w p [] fp) : Calls Tryz.prog 291 #[.pointer (some ⟨p, 0, none⟩)] w fun e w' => e = .returned (.tuple #[]) ∧ iH w' p [] fp ∧ Fr (fun q => q = p) w w' := by
 obtain ⟨v1, v2, hp, h1, h2, n1, n2, n3, hfp⟩ := h
 obtain ⟨a1, c1, rfl⟩ := ownsRow_shape h1
 obtain ⟨a2, c2, rfl⟩ := ownsRow_shape h2
 simp only [cat, List.flatMap_nil, List.length_nil] at h1 h2 hp
 have d0 : w.cell? ⟨p, 0, none⟩ = some (.slice a1 0 c1) := by rw [cell_of_row _ _ _ _ _ _ hp]; rfl
 have d1 : w.cell? ⟨p, 1, none⟩ = some (.slice a2 0 c2) := by rw [cell_of_row _ _ _ _ _ _ hp]; rfl
 have f0 : w.frozen? ⟨p, 0, none⟩ = false := frozen_of_row _ _ _ _ _ hp
 have f1 : w.frozen? ⟨p, 1, none⟩ = false := frozen_of_row _ _ _ _ _ hp
 have hcc : c1 ≤ 9223372036854775807 ∧ c2 ≤ 9223372036854775807 ∧ True := by
  refine ⟨?_, ?_, trivial⟩
  · rcases h1.2 with ⟨hv, _⟩ | ⟨g, cap, cur, hv, _, _, hnc, hcm, _⟩
    · simp only [Value.slice.injEq] at hv; omega
    · simp only [Value.slice.injEq] at hv; unfold maxLen at hcm; omega
  · rcases h2.2 with ⟨hv, _⟩ | ⟨g, cap, cur, hv, _, _, hnc, hcm, _⟩
    · simp only [Value.slice.injEq] at hv; omega
    · simp only [Value.slice.injEq] at hv; unfold maxLen at hcm; omega
 go_enter Tryz.func291, Tryz.ntmps291
 go_wp2
 go_end0
 have hp1 := dW hp 0 (.slice a1 0 c1)
 have hp2 := dW hp1 1 (.slice a2 0 c2)
 have hf : Fr (fun q => q = p) w ((w.setCell ⟨p, 0, none⟩ (.slice a1 0 c1)).setCell ⟨p, 1, none⟩ (.slice a2 0 c2)) := ((Fr.refl (fun q => q = p) w).setCell (.inl rfl) _).setCell (.inl rfl) _
 exact ⟨rfl, ⟨_, _, hp2, hf.owns h1 (fun q hq e => n1 (by rw [← e]; exact hq)), hf.owns h2 (fun q hq e => n2 (by rw [← e]; exact hq)), n1, n2, n3, hfp⟩, hf⟩
end Go.Proofs.YtcidlnjpabgioaaGreatDoor
namespace Go.Proofs.YtcidlnjpabgioaaGreatDoor
open Go
theorem oJ {f : Nat → Bool} {a k : Nat} (h : (List.range' a k).all f = true) {i : Nat} (h1 : a ≤ i) (h2 : i < a + k) : f i = true := List.all_eq_true.1 h i (List.mem_range'_1.2 ⟨h1, h2⟩)
theorem types_size : Tryz.prog.types.size = 683 := by kernel_rfl
theorem aKH : (List.range' 0 250).all (rowFine Tryz.prog) = true := by kernel_rfl
theorem aKv : (List.range' 250 170).all (rowFine Tryz.prog) = true := by kernel_rfl
theorem aKF : (List.range' 420 140).all (rowFine Tryz.prog) = true := by kernel_rfl
theorem aKI : (List.range' 560 123).all (rowFine Tryz.prog) = true := by kernel_rfl
theorem aIU : (List.range Tryz.prog.types.size).all (rowFine Tryz.prog) = true := by
 rw [types_size, List.all_eq_true]
 intro i hi
 have h : i < 683 := List.mem_range.1 hi
 rcases Nat.lt_or_ge i 250 with h1 | h1
 · exact oJ aKH (Nat.zero_le _) (by omega)
 · rcases Nat.lt_or_ge i 420 with h2 | h2
   · exact oJ aKv h1 (by omega)
   · rcases Nat.lt_or_ge i 560 with h3 | h3
     · exact oJ aKF h2 (by omega)
     · exact oJ aKI h3 (by omega)
theorem aAE : Tryz.prog.globals.all (fun g => decide (g.type < Tryz.prog.types.size)) = true := by kernel_rfl
theorem aCU : Tryz.prog.funcs.all (fun f => f.params.all fun t => decide (t < Tryz.prog.types.size)) = true := by kernel_rfl
theorem oM : laidOutB Tryz.prog = true := by
 unfold laidOutB
 rw [aIU, aAE, aCU]
 rfl
end Go.Proofs.YtcidlnjpabgioaaGreatDoor
namespace Go.Proofs.YtcidlnjpabgioaaGreatDoor
open Go.RowKit Go.Maps
theorem aHJ {α : Type} {P : List α → Prop} (h0 : P []) (h1 : ∀ l a, P l → P (l ++ [a])) (l : List α) : P l := by
 rw [← List.reverse_reverse l]
 induction l.reverse with
 | nil => exact h0
 | cons a l ih => rw [List.reverse_cons]; exact h1 _ _ ih
theorem kQ (a b : Cell) : fA a b = true ↔ a.r0 = b.r0 ∧ a.r1 = b.r1 ∧ a.r2 = b.r2 ∧ a.r3 = b.r3 ∧ a.s = b.s := by
 unfold fA
 simp only [Bool.and_eq_true, beq_iff_eq, and_assoc]
 constructor
 · rintro ⟨h0, h1, h2, h3, h4⟩
   refine ⟨h0, h1, h2, h3, ?_⟩
   have h := Array.ext' h4
   cases ha : a.s
   cases hb : b.s
   rw [ha, hb] at h
   simp only at h
   rw [h]
 · rintro ⟨h0, h1, h2, h3, h4⟩
   exact ⟨h0, h1, h2, h3, by rw [h4]⟩
theorem wR (a b : Cell) : fA a b.keyed = fA a b := rfl
theorem aBN (a b : Cell) : fA a.keyed b = fA a b := rfl
theorem aAl (a : Cell) : fA a a = true := (kQ a a).2 ⟨rfl, rfl, rfl, rfl, rfl⟩
theorem mX : ∀ (acc a b : List Cell), aU acc (a ++ b) = aU (aU acc a) b
 | _, [], _ => rfl
 | acc, c :: a, b => by rw [List.cons_append, aU, aU, mX _ a b]
theorem sN (a : List Cell) (c : Cell) : aU [] (a ++ [c]) = if (aU [] a).any (fA c) then aU [] a else aU [] a ++ [c.keyed] := by
 rw [mX]
 rfl
theorem vP : ∀ (a acc : List Cell) (c : Cell), (c ∈ a ∨ acc.any (fA c) = true) → (aU acc a).any (fA c) = true
 | [], acc, c, h => h.resolve_left (by simp)
 | d :: a, acc, c, h => by
  rw [aU]
  refine vP a _ c ?_
  rcases h with h | h
  · rcases List.mem_cons.1 h with rfl | h
    · right
      split
      · assumption
      · rw [List.any_append, Bool.or_eq_true]
        right
        simp [wR, aAl]
    · exact .inl h
  · right
    split
    · exact h
    · rw [List.any_append, h]; rfl
theorem jB : ∀ (a acc : List Cell), wts (aU acc a) ≤ wts acc + wts a
 | [], acc => by rw [aU]; omega
 | d :: a, acc => by
  rw [aU, wts]
  have h := aBD d
  refine Nat.le_trans (jB a _) ?_
  split
  · omega
  · rw [dV]
    simp only [wts]
    omega
theorem oV : ∀ (a acc : List Cell), (∀ c ∈ a, c.small) → (∀ c ∈ acc, c.small) → ∀ c ∈ aU acc a, c.small
 | [], acc, _, h, c, hc => h c hc
 | d :: a, acc, ha, h, c, hc => by
  rw [aU] at hc
  refine oV a _ (fun x hx => ha x (by simp [hx])) (fun x hx => ?_) c hc
  split at hx
  · exact h x hx
  · rcases List.mem_append.1 hx with hx | hx
    · exact h x hx
    · rw [List.mem_singleton.1 hx]
      exact aCg (ha d (by simp))
def wP (l : List Cell) : Prop := l.Pairwise fun a b => fA b a = false
theorem pK : ∀ (a acc : List Cell), wP acc → wP (aU acc a)
 | [], _, h => h
 | d :: a, acc, h => by
  rw [aU]
  refine pK a _ ?_
  split
  · exact h
  · rename_i hn
    refine List.pairwise_append.2 ⟨h, List.pairwise_singleton _ _, fun x hx y hy => ?_⟩
    rw [List.mem_singleton.1 hy, aBN]
    simp only [Bool.not_eq_true, List.any_eq_false] at hn
    simpa using hn x hx
theorem gQ : ∀ (a acc : List Cell), (aU acc a).length ≤ acc.length + a.length
 | [], acc => by rw [aU]; simp
 | d :: a, acc => by
  rw [aU, List.length_cons]
  refine Nat.le_trans (gQ a _) ?_
  split
  · omega
  · rw [List.length_append, List.length_singleton]; omega
theorem sV {l m : List Cell} {c : Cell} (h : l.any (fA c) = true) : (l ++ m).findIdx (fA c) = l.findIdx (fA c) := by
 rw [List.findIdx_append, if_pos]
 obtain ⟨x, hx, hk⟩ := List.any_eq_true.1 h
 exact List.findIdx_lt_length_of_exists ⟨x, hx, hk⟩
theorem aIk {l : List Cell} {c : Cell} (h : l.any (fA c) = false) : (l ++ [c.keyed]).findIdx (fA c) = l.length := by
 have h1 : l.findIdx (fA c) = l.length := List.findIdx_eq_length.2 (fun x hx => by simpa using (List.any_eq_false.1 h) x hx)
 rw [List.findIdx_append, if_neg (by omega)]
 simp [List.findIdx_cons, wR, aAl]
def dD (idx σ : List Cell) : List Nat := σ.map fun c => idx.findIdx (fA c)
theorem aAv (σ : List Cell) (k : Nat) (hk : k < σ.length) :
 dD (aU [] (σ.take (k + 1))) (σ.take (k + 1)) = dD (aU [] (σ.take k)) (σ.take k) ++ [(aU [] (σ.take (k + 1))).findIdx (fA σ[k])] := by
 have hst := List.take_succ_eq_append_getElem hk
 unfold dD
 rw [hst, List.map_append]
 congr 1
 refine List.map_congr_left fun c hc => ?_
 rw [sN]
 split
 · rfl
 · exact sV (vP _ _ _ (.inl hc))
def kl (c : Cell) : Lit := .string (keyBytes [.int .u64 c.r0, .int .u64 c.r1, .int .u64 c.r2, .int .u64 c.r3, .string c.s.data.toList])
theorem aCW : ∃ f0 f1 : Field, Tryz.prog.underlying 84 = some (.struct #[f0, f1]) ∧ f0.type = 33 ∧ f0.offset = 0 ∧ f0.name ≠ "_" ∧ f1.type = 9 ∧ f1.offset = 4 ∧ f1.name ≠ "_" := ⟨_, _, Tryz.underlying84, rfl, rfl, by decide, rfl, rfl, by decide⟩
theorem aIW : Tryz.prog.keyType 84 = true := by kernel_rfl
theorem aAc : Tryz.prog.cellsOf 84 = 5 := by kernel_rfl
theorem aAj : Tryz.prog.cellsOf 33 = 4 := by kernel_rfl
theorem aDQ : Tryz.prog.cellsOf 24 = 1 := by kernel_rfl
theorem aDk : Tryz.prog.cellsOf 9 = 1 := by kernel_rfl
theorem aDp : ∃ m, Tryz.prog.types.size = m + 2 := ⟨Tryz.prog.types.size - 2, by kernel_rfl⟩
theorem aAt : Keyed Tryz.prog 84 := Keyed.of_law (deep_law_laid oM (m := 4) (by omega) (of_decide_eq_true (by kernel_rfl)) (by kernel_rfl) (by rw [Tryz.underlying84]))
theorem aBm {n : Nat} (h : n < 18446744073709551616) : (Lit.int .u64 n).wf = true := by
 simp only [Lit.wf, Bool.and_eq_true, decide_eq_true_eq]
 simp [IntKind.min, IntKind.max, IntKind.signed, IntKind.bits]
 omega
theorem mO {c : Cell} (h : c.small) : keyOf Tryz.prog 84 (.agg (dK c).toArray) = some (kl c) := by
 obtain ⟨f0, f1, hu, t0, o0, n0, t1, o1, n1⟩ := aCW
 obtain ⟨m, hm⟩ := aDp
 obtain ⟨h0, h1, h2, h3, h4⟩ := h
 have hs : c.s.size ≤ maxLen := by unfold maxLen; omega
 have w0 := aBm h0
 have w1 := aBm h1
 have w2 := aBm h2
 have w3 := aBm h3
 have hr : Tryz.prog.underlying 33 = some (.array 4 24) := Tryz.underlying33
 have hw : Tryz.prog.underlying 24 = some (.int .u64) := Tryz.underlying24
 have hstr : Tryz.prog.underlying 9 = some .string := Tryz.underlying9
 have hrow : Tryz.prog.keyLits (m + 2) 33 [.int .u64 c.r0, .int .u64 c.r1, .int .u64 c.r2, .int .u64 c.r3] = some [.int .u64 c.r0, .int .u64 c.r1, .int .u64 c.r2, .int .u64 c.r3] := by
  unfold Program.keyLits
  simp only [hr]
  rw [if_pos (by rw [aAj]; rfl), show List.range 4 = [0, 1, 2, 3] from rfl]
  simp [List.mapM_cons, aDQ, Program.keyLits, hw, w0, w1, w2, w3]
 have hst : Tryz.prog.keyLits (m + 2) 9 [.string c.s] = some [.string c.s.data.toList] := by
  unfold Program.keyLits
  simp [hstr, hs]
 unfold keyOf
 simp only [hu]
 rw [if_pos (by simp [aIW, Value.formed, hu, aAc, dK]), hm]
 unfold Program.keyLits
 simp only [hu, Value.cells]
 rw [if_pos ⟨by rw [aAc]; rfl, by simp [n0, n1]⟩]
 simp [List.mapM_cons, t0, t1, o0, o1, aAj, aDk, dK, hrow, hst, kl]
theorem aIu {c d : Cell} (hc : c.small) (hd : d.small) : kl c = kl d ↔ fA c d = true := by
 constructor
 · intro h
   have hv := aAt.inj (mO hc) (h ▸ mO hd)
   simp only [dK, Value.agg.injEq] at hv
   have hl := congrArg Array.toList hv
   simp only [List.cons.injEq, Value.int.injEq, true_and, Value.string.injEq, and_true] at hl
   obtain ⟨h0, h1, h2, h3, h4⟩ := hl
   exact (kQ c d).2 ⟨by omega, by omega, by omega, by omega, h4⟩
 · intro h
   obtain ⟨h0, h1, h2, h3, h4⟩ := (kQ c d).1 h
   unfold kl
   rw [h0, h1, h2, h3, h4]
def aAV (idx : List Cell) : DataW Unit := idx.zipIdx.foldl (fun m ci => m.put (kl ci.1) (.lit (.int .i64 ci.2))) (.map [])
theorem zQ (idx : List Cell) (c : Cell) : aAV (idx ++ [c]) = (aAV idx).put (kl c) (.lit (.int .i64 idx.length)) := by
 unfold aAV
 rw [List.zipIdx_append, List.foldl_append]
 simp
theorem sK : ∀ (l : List (Cell × Nat)) (D : DataW Unit), IsMap D → IsMap (l.foldl (fun m ci => m.put (kl ci.1) (.lit (.int .i64 ci.2))) D)
 | [], _, h => h
 | _ :: l, _, h => sK l _ (h.put _ _)
theorem vT (idx : List Cell) : IsMap (aAV idx) := sK _ _ isMap_empty
theorem aCw (c : Cell) : WideAt.IsKeyLit (kl c) := by unfold kl; trivial
theorem aJx {c : Cell} (hc : c.small) (idx : List Cell) : (∀ d ∈ idx, d.small) → wP idx → Maps.has (aAV idx) (kl c) = idx.any (fA c) ∧ (idx.any (fA c) = true → (aAV idx).atKey (kl c) (.lit (.int .i64 0)) = .lit (.int .i64 (idx.findIdx (fA c) : Nat))) := by
 refine aHJ (P := fun idx => (∀ d ∈ idx, d.small) → wP idx → Maps.has (aAV idx) (kl c) = idx.any (fA c) ∧ (idx.any (fA c) = true → (aAV idx).atKey (kl c) (.lit (.int .i64 0)) = .lit (.int .i64 (idx.findIdx (fA c) : Nat)))) (fun _ _ => ⟨rfl, fun h => by simp at h⟩) (fun idx d ih => ?_) idx
 · intro hs ha
   obtain ⟨a1, -, a3⟩ := List.pairwise_append.1 ha
   obtain ⟨i1, i2⟩ := ih (fun x hx => hs x (by simp [hx])) a1
   have hd := hs d (by simp)
   rw [zQ, List.any_append]
   by_cases hk : fA c d = true
   · have e := (aIu hc hd).2 hk
     rw [e]
     refine ⟨by rw [has_put_same (vT idx) (aCw d)]; simp [hk], fun _ => ?_⟩
     rw [atKey_put_same (vT idx) (aCw d)]
     have hn : idx.any (fA c) = false := List.any_eq_false.2 fun x hx => by
      have h1 := a3 x hx d (by simp)
      obtain ⟨e0, e1, e2, e3, e4⟩ := (kQ c d).1 hk
      intro h2
      obtain ⟨f0, f1, f2, f3, f4⟩ := (kQ c x).1 h2
      rw [(kQ d x).2 ⟨e0 ▸ f0, e1 ▸ f1, e2 ▸ f2, e3 ▸ f3, e4 ▸ f4⟩] at h1
      cases h1
     have h1 : idx.findIdx (fA c) = idx.length := List.findIdx_eq_length.2 (fun x hx => by simpa using (List.any_eq_false.1 hn) x hx)
     rw [List.findIdx_append, if_neg (by omega)]
     simp [List.findIdx_cons, hk]
   · have hne : kl c ≠ kl d := fun e => hk ((aIu hc hd).1 e)
     have hk' : fA c d = false := by simpa using hk
     rw [has_put_other hne, atKey_put_other hne]
     refine ⟨by rw [i1]; simp [hk'], fun h => ?_⟩
     have h' : idx.any (fA c) = true := by simpa [hk'] using h
     rw [i2 h', sV h']
theorem aHl (w : World) : (zeroValue 3).run Tryz.prog w = .ok (.int .i64 0) w := by kernel_rfl
def gJ (w : World) (mb : Nat) (idx : List Cell) : Prop := w.ownsMap Tryz.prog 84 (plainElem (H := Unit) Tryz.prog 3) mb idx.length (aAV idx)
theorem gJ.made (w : World) : gJ (w.alloc (.map #[] 0)) w.heap.size [] := World.ownsMap_made w _ _ _
theorem gJ.fr {w w' : World} {mb : Nat} {idx : List Cell} {S : Nat → Prop} (h : gJ w mb idx) (hf : Fr S w w') (hn : ¬ S mb) : gJ w' mb idx := by
 have hlt := h.lt
 obtain ⟨es, clock, hb, F, hs, hD⟩ := h
 exact ⟨es, clock, (hf.block mb hlt hn).trans hb, F, hs, hD⟩
theorem gJ.look {w : World} {mb : Nat} {idx : List Cell} (h : gJ w mb idx) (hs : ∀ d ∈ idx, d.small) (ha : wP idx) {c : Cell} (hc : c.small) :
 ∃ n : Int, (Instr.lookup 139 (.map (some mb)) (.agg (dK c).toArray) true).run Tryz.prog w = .ok (.tuple #[.int .i64 n, .bool (idx.any (fA c))]) w ∧ (idx.any (fA c) = true → n = (idx.findIdx (fA c) : Nat)) := by
 obtain ⟨v, ps, hrun, hv⟩ := World.ownsMap.look_ok h aAt Tryz.underlying139 (aHl w) (plainElem_int Tryz.underlying3 (a := 0) (by decide)) (mO hc)
 obtain ⟨n, rfl, hn, hwf⟩ := plainElem_int_inv Tryz.underlying3 hv
 obtain ⟨h1, h2⟩ := aJx hc idx hs ha
 rw [h1] at hrun
 refine ⟨n, hrun, fun h => ?_⟩
 have := h2 h
 have hn' := congrArg Prod.fst hn
 simp only at hn'
 rw [this] at hn'
 simp only [DataW.lit.injEq, Lit.int.injEq, true_and] at hn'
 exact hn'.symm
theorem gJ.put {w : World} {mb : Nat} {idx : List Cell} (h : gJ w mb idx) (hl : idx.length ≤ 2147483648) {c : Cell} (hc : c.small) :
 ∃ w', (Instr.mapUpdate 139 (.map (some mb)) (.agg (dK c).toArray) (.int .i64 idx.length)).run Tryz.prog w = .ok () w' ∧ gJ w' mb (idx ++ [c.keyed]) ∧ Fr (fun q => q = mb) w w' := by
 obtain ⟨w', hrun, hown, hg⟩ := World.ownsMap.update h aAt Tryz.underlying139 (by unfold maxLen; omega) (mO hc) (plainElem_int Tryz.underlying3 (a := idx.length) (by simp only [Lit.wf, Bool.and_eq_true, decide_eq_true_eq]; simp [IntKind.min, IntKind.max, IntKind.signed, IntKind.bits]; omega))
 refine ⟨w', hrun, ?_, ⟨hg.os, hg.tape, hg.output, hg.size, fun k hk hn => hg.block k hk (fun e => hn (Option.some.inj e))⟩⟩
 unfold gJ
 rw [zQ, List.length_append]
 exact hown
end Go.Proofs.YtcidlnjpabgioaaGreatDoor
namespace Go.Proofs.YtcidlnjpabgioaaGreatDoor
open Go.RowKit
abbrev aEv (q : Nat) : Value := .agg #[.iface 145 (.pointer (some ⟨q, 0, none⟩)), .func (.func 44) #[] #[], .func (.func 45) #[] #[]]
abbrev jU (q : Nat) : Value := .iface 86 (.agg #[.iface 154 (aEv q)])
theorem bW (B q : Nat) : jI Tryz.prog B 86 (.agg #[.iface 154 (aEv q)]) .str [] (kM B q) (kM B q) := aAs (kS B q)
def iG (B q p : Nat) (w : World) (fp : Nat → Prop) (σ : List Cell) : Prop :=
 ∃ v fk, w.heap[p]? = some (.cells #[v, jU q, .int .u8 0, .slice none 0 0, .slice none 0 0, .slice none 0 0, .slice none 0 0, .map none, .slice none 0 0] 142 (0, 0)) ∧ w.ownsRow 0 84 5 v σ.length (σ.flatMap dK) ∧ kM B q w fk [] ∧
  v.ownBlock ≠ some p ∧ ¬ fk p ∧ (∀ k, v.ownBlock = some k → ¬ fk k) ∧ (∀ k, fp k ↔ k = p ∨ v.ownBlock = some k ∨ fk k) ∧ (∀ k, fp k → B ≤ k) ∧ (∀ c ∈ σ, c.small) ∧ wts σ ≤ 2147483648
theorem iG.lt {B q p : Nat} {w : World} {fp : Nat → Prop} {σ : List Cell} (h : iG B q p w fp σ) : ∀ k, fp k → B ≤ k ∧ k < w.heap.size := by
 obtain ⟨v, fk, hp, hown, hR, n1, n2, n3, hfp, hB, hs⟩ := h
 intro k hk
 refine ⟨hB k hk, ?_⟩
 rcases (hfp k).1 hk with rfl | hk | hk
 · exact aH hp
 · exact aK hown hk
 · exact ((bW B q).lo hR k hk).2
theorem iG.base {B q p : Nat} {w : World} {fp : Nat → Prop} {σ : List Cell} (h : iG B q p w fp σ) : B ≤ w.heap.size := by
 have hl := h.lt
 obtain ⟨v, fk, hp, hown, hR, n1, n2, n3, hfp, hB, hs⟩ := h
 have := hl p ((hfp p).2 (.inl rfl))
 omega
theorem iG.aT {B q p : Nat} {w w' : World} {fp : Nat → Prop} {σ : List Cell} (h : iG B q p w fp σ) (hk : ∀ k, fp k → w'.heap[k]? = w.heap[k]?) : iG B q p w' fp σ := by
 obtain ⟨v, fk, hp, hown, hR, n1, n2, n3, hfp, hB, hs⟩ := h
 refine ⟨v, fk, (hk p ((hfp p).2 (.inl rfl))).trans hp, ⟨hown.1, ?_⟩, (bW B q).frame hR (fun k h => hk k ((hfp k).2 (.inr (.inr h)))), n1, n2, n3, hfp, hB, hs⟩
 rcases hown.2 with h0 | ⟨g, cap, cur, rfl, hb, hgg, rest⟩
 · exact .inl h0
 · exact .inr ⟨g, cap, cur, rfl, hb, (hk g ((hfp g).2 (.inr (.inl rfl)))).trans hgg, rest⟩
theorem iG.grown {B q p : Nat} {w w0 w1 : World} {fp fk : Nat → Prop} {σ cs : List Cell} {v v' : Value}
 (hp : w.heap[p]? = some (.cells #[v, jU q, .int .u8 0, .slice none 0 0, .slice none 0 0, .slice none 0 0, .slice none 0 0, .map none, .slice none 0 0] 142 (0, 0))) (hown : w.ownsRow 0 84 5 v σ.length (σ.flatMap dK)) (hR : kM B q w fk [])
 (n1 : v.ownBlock ≠ some p) (n2 : ¬ fk p) (n3 : ∀ k, v.ownBlock = some k → ¬ fk k) (hfp : ∀ k, fp k ↔ k = p ∨ v.ownBlock = some k ∨ fk k) (hB : ∀ k, fp k → B ≤ k) (hs : (∀ c ∈ σ, c.small) ∧ wts σ ≤ 2147483648) (hc : ∀ c ∈ cs, c.small) (hw : wts (σ ++ cs) ≤ 2147483648)
 (h0 : Fr (fun _ => False) w w0) (ha : dA w0 w1 84 5 v v' (σ.length + cs.length) (σ.flatMap dK ++ cs.flatMap dK)) :
 Fr fp w (w1.setCell ⟨p, 0, none⟩ v') ∧ ∃ fp', iG B q p (w1.setCell ⟨p, 0, none⟩ v') fp' (σ ++ cs) ∧ Grow w fp fp' := by
 have hpl := aH hp
 have hs0 := h0.size
 obtain ⟨h1, h2, h3, h4, h5⟩ := dQ (i := 0) hp hown n1 h0 ha
 have hfl : ∀ k, fk k → k < w.heap.size := fun k hk => ((bW B q).lo hR k hk).2
 have hBp : B ≤ p := hB p ((hfp p).2 (.inl rfl))
 have hv' : ∀ k, v'.ownBlock = some k → v.ownBlock = some k ∨ w.heap.size ≤ k := fun k hk => by
  rcases h4 with e | e
  · exact .inl (by rw [← e, hk])
  · rw [e] at hk
    simp only [Option.some.injEq] at hk
    exact .inr (by omega)
 refine ⟨h5.mono (fun k _ h => (hfp k).2 (h.imp id .inl)), fun k => k = p ∨ v'.ownBlock = some k ∨ fk k, ⟨v', fk, h1, ?_, (bW B q).frame hR (fun k hk => h5.block k (hfl k hk) (fun e => e.elim (fun e => n2 (e ▸ hk)) (fun e => n3 k e hk))), h3, n2, fun k hk h => ?_, fun k => Iff.rfl, ?_, ?_, hw⟩, ?_⟩
 · rw [List.length_append, List.flatMap_append]
   exact h2
 · rcases hv' k hk with h' | h'
   · exact n3 k h' h
   · have := hfl k h; omega
 · rintro k (rfl | hk | hk)
   · exact hBp
   · rcases hv' k hk with h | h
     · exact hB k ((hfp k).2 (.inr (.inl h)))
     · omega
   · exact hB k ((hfp k).2 (.inr (.inr hk)))
 · intro c hx
   rcases List.mem_append.1 hx with hx | hx
   · exact hs.1 c hx
   · exact hc c hx
 · rintro k (rfl | hk | hk)
   · exact .inl ((hfp k).2 (.inl rfl))
   · exact (hv' k hk).imp (fun h => (hfp k).2 (.inr (.inl h))) id
   · exact .inl ((hfp k).2 (.inr (.inr hk)))
theorem aJn : ElT Tryz.prog 133 84 (.agg #[.int .u64 0, .int .u64 0, .int .u64 0, .int .u64 0, .string ⟨#[]⟩]) 5 48 := ⟨Tryz.underlying133, info_parts (by kernel_rfl), rfl⟩
theorem aEe (B q p : Nat) (w : World) (fp : Nat → Prop) (σ : List Cell) (h : iG B q p w fp σ) (c : Cell) (hc : c.small) (hw : wts (σ ++ [c]) ≤ 2147483648) :
 Calls Tryz.prog 207 #[.pointer (some ⟨p, 0, none⟩), .agg #[.int .u64 c.r0, .int .u64 c.r1, .int .u64 c.r2, .int .u64 c.r3, .string c.s]] w fun e w' => e = .returned (.tuple #[]) ∧ Fr fp w w' ∧ ∃ fp', iG B q p w' fp' (σ ++ [c]) ∧ Grow w fp fp' := by
 have hlo := h.lt
 obtain ⟨v, fk, hp, hown, hR, n1, n2, n3, hfp, hB, hs⟩ := h
 have hlen := aN (σ ++ [c])
 rw [List.length_append, List.length_singleton] at hlen
 obtain ⟨a0, c0, rfl⟩ := ownsRow_shape hown
 go_enter Tryz.func207, Tryz.ntmps207
 go_wp2_with fail
 generalize hW : w.alloc _ = W
 have hfrW : Fr (fun _ => False) w W := by subst hW; exact (Fr.refl _ w).alloc _
 have d0 : W.cell? ⟨w.heap.size, 0, none⟩ = some (.int .u64 c.r0) := by subst hW; rw [aB rfl]; rfl
 have d1 : W.cell? ⟨w.heap.size, 1, none⟩ = some (.int .u64 c.r1) := by subst hW; rw [aB rfl]; rfl
 have d2 : W.cell? ⟨w.heap.size, 2, none⟩ = some (.int .u64 c.r2) := by subst hW; rw [aB rfl]; rfl
 have d3 : W.cell? ⟨w.heap.size, 3, none⟩ = some (.int .u64 c.r3) := by subst hW; rw [aB rfl]; rfl
 have d4 : W.cell? ⟨w.heap.size, 4, none⟩ = some (.string c.s) := by subst hW; rw [aB rfl]; rfl
 have hpW := (hfrW.block p (aH hp) (fun h => h)).trans hp
 have hownW := hfrW.owns hown (fun _ _ h => h)
 have hRW := (bW B q).frame (w' := W) hR (fun k hk => hfrW.block k ((bW B q).lo hR k hk).2 (fun h => h))
 have hcW : W.cell? ⟨p, 0, none⟩ = some (.slice a0 σ.length c0) := by rw [cell_of_row _ _ _ _ _ _ hpW]; rfl
 have hcWa : ∀ o, (W.alloc o).cell? ⟨p, 0, none⟩ = some (.slice a0 σ.length c0) := fun o => (((Fr.refl (fun _ => False) W).alloc o).aA hcW (fun h => h))
 clear hW
 go_region_law (refine aS _ rfl ?_; refine dB _ aJn _ _ rfl _ _ _ rfl (hownW.alloc _) _ _ _ rfl (Src.ofSlice _ Tryz.underlying133 _ _ _ _ rfl (aW _ [.int .u64 c.r0, .int .u64 c.r1, .int .u64 c.r2, .int .u64 c.r3, .string c.s] _) (by simp [Value.oneCell'])) ?_ ?_ ?_; (unfold maxLen; omega); omega; intro v' w1 ha; obtain ⟨a', c', rfl⟩ := ha.shape; obtain ⟨hcs3, hfs3⟩ := dU hpW n1 (((Fr.refl _ W).alloc _).drew) ha; have s0 : w1.cell? ⟨p, 0, none⟩ = some (.slice a0 σ.length c0) := hcs3 0; have g0 := hfs3 0)
 all_goals
  have hres := iG.grown (cs := [c]) hpW hownW hRW n1 n2 n3 hfp hB hs (by simpa using hc) hw (((Fr.refl _ W).alloc _).drew) ha
  go_end0
  obtain ⟨h1, fp', h2, h3⟩ := hres
  exact ⟨rfl, (hfrW.mono (fun _ _ h => h.elim)).trans h1 (fun _ _ h => h), fp', h2, fun k hk => (h3 k hk).imp id (fun h => Nat.le_trans hfrW.size h)⟩
theorem yJ (B q p : Nat) (w : World) (fp : Nat → Prop) (σ : List Cell) (h : iG B q p w fp σ) (cs : List Cell) (hc : ∀ c ∈ cs, c.small) (sv : Value) (hsrc : Src Tryz.prog 5 133 sv cs.length (cs.flatMap dK) w) (hw : wts (σ ++ cs) ≤ 2147483648) :
 Calls Tryz.prog 208 #[.pointer (some ⟨p, 0, none⟩), sv] w fun e w' => e = .returned (.tuple #[]) ∧ Fr fp w w' ∧ ∃ fp', iG B q p w' fp' (σ ++ cs) ∧ Grow w fp fp' := by
 have hlo := h.lt
 obtain ⟨v, fk, hp, hown, hR, n1, n2, n3, hfp, hB, hs⟩ := h
 have hlen := aN (σ ++ cs)
 rw [List.length_append] at hlen
 obtain ⟨a0, c0, rfl⟩ := ownsRow_shape hown
 have hcw : w.cell? ⟨p, 0, none⟩ = some (.slice a0 σ.length c0) := by rw [cell_of_row _ _ _ _ _ _ hp]; rfl
 go_enter Tryz.func208, Tryz.ntmps208
 go_wp2_with ((with_reducible show wpList _ _ _ (⟨some 10, _, _, _, _, _⟩ :: _) _ _); (refine aP _ rfl aJn _ _ rfl _ _ _ rfl hown _ _ _ rfl hsrc ?_ ?_ ?_); (unfold maxLen; omega); omega; intro v' w1 ha; obtain ⟨a', c', rfl⟩ := ha.shape; obtain ⟨hcs3, hfs3⟩ := dU hp n1 (Fr.refl _ w) ha; have s0 : w1.cell? ⟨p, 0, none⟩ = some (.slice a0 σ.length c0) := hcs3 0; have g0 := hfs3 0)
 go_end0
 exact ⟨rfl, iG.grown hp hown hR n1 n2 n3 hfp hB hs hc hw (Fr.refl _ w) ha⟩
theorem aER (w : World) (B : Nat) (hBw : B ≤ w.heap.size) (cs : List Cell) (v : Value) (xs : List Value) (hs : Sl B w 8 v cs.length xs) (hc : aC B w cs xs) (hn : cs.length ≤ 2147483648) :
 Calls Tryz.prog 245 #[v, .func (.func 241) #[] #[]] w fun e w' => ∃ tv, e = .returned tv ∧ w'.ownsRow 0 84 5 tv cs.length (cs.flatMap dK) ∧ Fr (fun _ => False) w w' := by
 have hs' := hs
 obtain ⟨hxl, ao, cap, rfl, hnc, hcm, h0, ha⟩ := hs
 unfold maxLen at hcm
 clear ha h0 hxl
 go_enter Tryz.func245, Tryz.ntmps245
 go_wp2
 go_loopw [5, 10] (fun tv i wr => ∃ k : Nat, k ≤ cs.length ∧ i = .int .i64 k ∧ wr.ownsRow 0 84 5 tv k ((cs.take k).flatMap dK) ∧ (∀ q, tv.ownBlock = some q → w.heap.size ≤ q) ∧ Fr (fun _ => False) w wr) (fun _ i _ => cs.length - (intOf i).toNat)
 case atStart => exact ⟨0, Nat.zero_le _, rfl, World.ownsRow_nil _ _ _ _, by simp [Value.ownBlock], Fr.refl _ _⟩
 case round =>
  obtain ⟨k, hk, rfl, hown, hsince, hfr⟩ := hrel
  have hbr : Below B w wr := hfr.below hBw (fun _ _ h => h)
  obtain ⟨a0, c0, rfl⟩ := ownsRow_shape hown
  by_cases hlt : k < cs.length
  · obtain ⟨b, off, cap', hv, hbB, vs, hvs, hcell⟩ := (hs'.below hbr).row (aC.below hbr _ _ hc) hlt
    have hstep := Lib.hid (bV dK cs k hlt)
    generalize cs[k] = c at hvs hstep
    obtain ⟨ia, il, ic, ka, kl, kc, rfl, h0, h1, h2, h3, h4⟩ := hvs.open
    simp only [Value.slice.injEq] at hv
    obtain ⟨rfl, _, rfl⟩ := hv
    have d0 := hcell 0 _ rfl
    have d1 := hcell 1 _ rfl
    have d2 := hcell 2 _ rfl
    have d3 := hcell 3 _ rfl
    have d4 := hcell 4 _ rfl
    have d5 := hcell 5 _ rfl
    have d6 := hcell 6 _ rfl
    have d7 := hcell 7 _ rfl
    simp only [Nat.add_zero] at d0
    have hfa : Fr (fun _ => False) w (wr.alloc (.cells #[.int .u64 c.r0, .int .u64 c.r1, .int .u64 c.r2, .int .u64 c.r3, .string c.s, .bool c.null, .slice ia il ic, .slice ka kl kc] 35)) := hfr.alloc _
    have hin := rM (wr.alloc (.cells #[.int .u64 c.r0, .int .u64 c.r1, .int .u64 c.r2, .int .u64 c.r3, .string c.s, .bool c.null, .slice ia il ic, .slice ka kl kc] 35)) c.r0 c.r1 c.r2 c.r3 c.s c.null (.slice ia il ic) (.slice ka kl kc)
    clear hcell hvs hs' hc
    go_wp2_with (first | ((with_reducible show wpList _ _ _ (⟨some 17, _, _, _, _, _⟩ :: _) _ _); refine dE _ rfl _ _ _ rfl _ _ rfl (dC.func0 Tryz.call241 hin) rfl ?_; rintro e w1 ⟨rfl, hf1⟩; refine ⟨_, rfl, ?_⟩; have hfw1 : Fr (fun _ => False) w w1 := hfa.trans hf1 (fun _ _ h => h); have hown1 := hf1.owns ((Fr.refl (fun _ => False) wr).alloc _ |>.owns hown (fun _ _ h => h)) (fun _ _ h => h)) | ((with_reducible show wpList _ _ _ (⟨some 19, _, _, _, _, _⟩ :: _) _ _); refine aP _ rfl aJn _ _ rfl _ _ _ rfl (hown1.alloc _) _ _ _ rfl (Src.ofSlice _ Tryz.underlying133 _ _ _ _ rfl (aW _ [.int .u64 c.r0, .int .u64 c.r1, .int .u64 c.r2, .int .u64 c.r3, .string c.s] _) (by simp [Value.oneCell'])) ?_ ?_ ?_; (unfold maxLen; omega); omega; intro v' w2 ha; obtain ⟨a', c', rfl⟩ := ha.shape))
    go_roundw
    case rel => exact ⟨k + 1, by omega, by go_num, by rw [hstep.out]; exact ha.1, (ha.since (hfw1.alloc _) hsince).1, (ha.since (hfw1.alloc _) hsince).2⟩
    case measure => simp [intOf]; omega
  · have hke : k = cs.length := by omega
    subst hke
    rw [List.take_length] at hown
    go_wp2
    go_ret
    exact ⟨_, rfl, hown, hfr⟩
theorem aBO (cs : List Cell) : ∀ u ∈ cs.flatMap dK, u.oneCell' = true := by
 intro u hu
 obtain ⟨c, _, hc⟩ := List.mem_flatMap.1 hu
 simp only [dK, List.mem_cons, List.not_mem_nil, or_false] at hc
 rcases hc with rfl | rfl | rfl | rfl | rfl <;> rfl
theorem aBq (B q p : Nat) (w : World) (fp : Nat → Prop) (σ : List Cell) (h : iG B q p w fp σ) (c : Cell) (ia : Option Addr) (il ic : Nat) (ka : Option Addr) (kl kc : Nat) (hc : c.small) (hw : wts (σ ++ [c]) ≤ 2147483648) :
 Calls Tryz.prog 242 #[.agg #[.pointer (some ⟨p, 0, none⟩)], .agg #[.int .u64 c.r0, .int .u64 c.r1, .int .u64 c.r2, .int .u64 c.r3, .string c.s, .bool c.null, .slice ia il ic, .slice ka kl kc]] w fun e w' => e = .returned (.tuple #[]) ∧ Fr fp w w' ∧ ∃ fp', iG B q p w' fp' (σ ++ [c]) ∧ Grow w fp fp' := by
 have hlo := h.lt
 go_enter Tryz.func242, Tryz.ntmps242
 go_wp2_with fail
 generalize hW : (w.alloc _).alloc _ = W
 have hfrW : Fr (fun _ => False) w W := by subst hW; exact ((Fr.refl _ w).alloc _).alloc _
 have d0 : W.cell? ⟨w.heap.size, 0, none⟩ = some (.pointer (some ⟨p, 0, none⟩)) := by subst hW; rw [World.cell?_alloc_lt _ _ _ (by simp), aB rfl]; rfl
 have e0 : W.cell? ⟨w.heap.size + 1, 0, none⟩ = some (.int .u64 c.r0) := by subst hW; rw [aB (by simp)]; rfl
 have e1 : W.cell? ⟨w.heap.size + 1, 1, none⟩ = some (.int .u64 c.r1) := by subst hW; rw [aB (by simp)]; rfl
 have e2 : W.cell? ⟨w.heap.size + 1, 2, none⟩ = some (.int .u64 c.r2) := by subst hW; rw [aB (by simp)]; rfl
 have e3 : W.cell? ⟨w.heap.size + 1, 3, none⟩ = some (.int .u64 c.r3) := by subst hW; rw [aB (by simp)]; rfl
 have e4 : W.cell? ⟨w.heap.size + 1, 4, none⟩ = some (.string c.s) := by subst hW; rw [aB (by simp)]; rfl
 have e5 : W.cell? ⟨w.heap.size + 1, 5, none⟩ = some (.bool c.null) := by subst hW; rw [aB (by simp)]; rfl
 have e6 : W.cell? ⟨w.heap.size + 1, 6, none⟩ = some (.slice ia il ic) := by subst hW; rw [aB (by simp)]; rfl
 have e7 : W.cell? ⟨w.heap.size + 1, 7, none⟩ = some (.slice ka kl kc) := by subst hW; rw [aB (by simp)]; rfl
 have hN : ¬ fp w.heap.size := fun h => by have := hlo _ h; omega
 have hN1 : ¬ fp (w.heap.size + 1) := fun h => by have := hlo _ h; omega
 clear hW
 go_region_held3 (fun w' => w'.cell? ⟨w.heap.size, 0, none⟩ = some (.pointer (some ⟨p, 0, none⟩)) ∧ w'.cell? ⟨w.heap.size + 1, 0, none⟩ = some (.int .u64 c.r0) ∧ w'.cell? ⟨w.heap.size + 1, 1, none⟩ = some (.int .u64 c.r1) ∧ w'.cell? ⟨w.heap.size + 1, 2, none⟩ = some (.int .u64 c.r2) ∧ w'.cell? ⟨w.heap.size + 1, 3, none⟩ = some (.int .u64 c.r3) ∧ w'.cell? ⟨w.heap.size + 1, 4, none⟩ = some (.string c.s) ∧ w'.cell? ⟨w.heap.size + 1, 5, none⟩ = some (.bool c.null) ∧ w'.cell? ⟨w.heap.size + 1, 6, none⟩ = some (.slice ia il ic) ∧ w'.cell? ⟨w.heap.size + 1, 7, none⟩ = some (.slice ka kl kc))
  (first
   | exact ⟨d0, e0, e1, e2, e3, e4, e5, e6, e7⟩
   | exact ⟨hf2.aA (hf1.aG.aA d0 (fun h => h)) hN, hf2.aA (hf1.aG.aA e0 (fun h => h)) hN1, hf2.aA (hf1.aG.aA e1 (fun h => h)) hN1, hf2.aA (hf1.aG.aA e2 (fun h => h)) hN1, hf2.aA (hf1.aG.aA e3 (fun h => h)) hN1, hf2.aA (hf1.aG.aA e4 (fun h => h)) hN1, hf2.aA (hf1.aG.aA e5 (fun h => h)) hN1, hf2.aA (hf1.aG.aA e6 (fun h => h)) hN1, hf2.aA (hf1.aG.aA e7 (fun h => h)) hN1⟩
   | exact ⟨hf1.aG.aA d0 (fun h => h), hf1.aG.aA e0 (fun h => h), hf1.aG.aA e1 (fun h => h), hf1.aG.aA e2 (fun h => h), hf1.aG.aA e3 (fun h => h), hf1.aG.aA e4 (fun h => h), hf1.aG.aA e5 (fun h => h), hf1.aG.aA e6 (fun h => h), hf1.aG.aA e7 (fun h => h)⟩
   | assumption)
  (first
   | (go_at_call 241; refine (rM _ c.r0 c.r1 c.r2 c.r3 c.s c.null (.slice ia il ic) (.slice ka kl kc)).mono ?_; rintro e w1 ⟨rfl, hf1⟩)
   | (go_at_call 207; refine (aEe B q p _ fp σ (h.aT fun k hk => (hfrW.trans hf1.aG (fun _ _ h => h)).block k (hlo k hk).2 (fun h => h)) c hc hw).mono ?_; rintro e w2 ⟨rfl, hf2, hfin⟩))
 all_goals
  go_end0
  obtain ⟨fp', h1, h2⟩ := hfin
  have hs1 := (hfrW.trans hf1.aG (fun _ _ h => h)).size
  exact ⟨rfl, ((hfrW.trans hf1.aG (fun _ _ h => h)).mono (fun _ _ h => h.elim)).trans hf2 (fun _ _ h => h), fp', h1, fun k hk => (h2 k hk).imp id (fun h => by omega)⟩
theorem uO (B q p : Nat) (w : World) (fp : Nat → Prop) (σ : List Cell) (h : iG B q p w fp σ) (cs : List Cell) (v : Value) (ys : List Value) (hs : Sl B w 8 v cs.length ys) (hcs : aC B w cs ys) (hw : wts (σ ++ cs) ≤ 2147483648) :
 Calls Tryz.prog 243 #[.agg #[.pointer (some ⟨p, 0, none⟩)], v] w fun e w' => e = .returned (.tuple #[]) ∧ Fr fp w w' ∧ ∃ fp', iG B q p w' fp' (σ ++ cs) ∧ Grow w fp fp' := by
 have hlo := h.lt
 have hBw := h.base
 have hsm := aC.small hcs
 have hn : cs.length ≤ 2147483648 := by
  have := aN (σ ++ cs)
  rw [List.length_append] at this
  omega
 go_enter Tryz.func243, Tryz.ntmps243
 go_wp2_with fail
 generalize hW : w.alloc _ = W
 have hfrW : Fr (fun _ => False) w W := by subst hW; exact (Fr.refl _ w).alloc _
 have d0 : W.cell? ⟨w.heap.size, 0, none⟩ = some (.pointer (some ⟨p, 0, none⟩)) := by subst hW; rw [aB rfl]; rfl
 have hN : ¬ fp w.heap.size := fun h => by have := hlo _ h; omega
 have hsW := hs.fr hBw hfrW
 have hcsW := aC.below (hfrW.below hBw (fun _ _ h => h)) _ _ hcs
 have hBW : B ≤ W.heap.size := Nat.le_trans hBw hfrW.size
 have hsD := hsW.fr hBW (Fr.refl (fun _ => False) W).drew
 have hcsD := aC.below ((Below.refl B W).drew) _ _ hcsW
 clear hW hs hcs
 go_region_held3 (fun w' => w'.cell? ⟨w.heap.size, 0, none⟩ = some (.pointer (some ⟨p, 0, none⟩)))
  (first
   | exact d0
   | exact hf2.aA (hf1.aG.aA d0 (fun h => h)) hN
   | exact hf1.aG.aA d0 (fun h => h)
   | assumption)
  (first
   | (go_at_call 245; refine (aER W.drew B hBW cs v ys hsD hcsD hn).mono ?_; rintro e w1 ⟨tv, rfl, hown, hf1⟩)
   | (go_at_call 208; refine (yJ B q p _ fp σ (h.aT fun k hk => (hfrW.trans hf1.aG (fun _ _ h => h)).block k (hlo k hk).2 (fun h => h)) cs hsm tv (Src.jH Tryz.underlying133 hown (aBO cs)) hw).mono ?_; rintro e w2 ⟨rfl, hf2, hfin⟩))
 all_goals
  go_end0
  obtain ⟨fp', h1, h2⟩ := hfin
  have hs1 := (hfrW.trans hf1.aG (fun _ _ h => h)).size
  exact ⟨rfl, ((hfrW.trans hf1.aG (fun _ _ h => h)).mono (fun _ _ h => h.elim)).trans hf2 (fun _ _ h => h), fp', h1, fun k hk => (h2 k hk).imp id (fun h => by omega)⟩
end Go.Proofs.YtcidlnjpabgioaaGreatDoor
