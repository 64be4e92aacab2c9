/- The column of strings as a leaf. -/
import Derived.Test.YtcidlnjpabgioaaGreatDoorStr
namespace Go.Proofs.YtcidlnjpabgioaaGreatDoor
open Go.RowKit

theorem str_els : ElT Tryz.prog 69 9 (.string ⟨#[]⟩) 1 16 := ⟨Tryz.underlying69, info_parts (by kernel_rfl), rfl⟩

theorem str_m_append (a : Addr) (w : World) : (method (Tryz.prog.types.size + Made.depth) 145 (.pointer (some a)) "Append").run Tryz.prog w = .ok (287, .pointer (some a)) w := by kernel_rfl
theorem str_m_appendArr (a : Addr) (w : World) : (method (Tryz.prog.types.size + Made.depth) 145 (.pointer (some a)) "AppendArr").run Tryz.prog w = .ok (288, .pointer (some a)) w := by kernel_rfl


theorem str_in (w : World) (r0 r1 r2 r3 : Nat) (s : ByteArray) (null : Bool) (iv kv : Value) :
    Calls Tryz.prog 44 #[.agg #[.int .u64 r0, .int .u64 r1, .int .u64 r2, .int .u64 r3, .string s, .bool null, iv, kv]] w fun e w' => e = .returned (.string s) ∧ Fr (fun _ => False) w w' := by
  go_enter Tryz.func44, Tryz.ntmps44
  go_wp2
  go_ret
  exact ⟨rfl, (Fr.refl _ w).alloc _⟩

theorem StrAt.shape {w : World} {p : Nat} {σ : List Cell} {fp : Nat → Prop} (h : StrAt w p σ fp) : fp p := by
  obtain ⟨v1, v2, hp, h1, h2, n1, n2, n3, hfp⟩ := h
  exact (hfp p).2 (.inl rfl)

set_option maxRecDepth 100000 in
set_option maxHeartbeats 1000000 in
theorem str_appendArr (w : World) (p : Nat) (σ : List Cell) (fp : Nat → Prop) (h : StrAt w p σ fp) (cs : List Cell) (tv : Value) (hown : w.ownsRow 0 9 1 tv cs.length (cs.map fun c => .string c.s)) (hd : ∀ k, tv.ownBlock = some k → ¬ fp k)
    (hcs : ∀ c ∈ cs, c.s.size ≤ 65536) (hn : (cat σ).length + (cat cs).length ≤ 2147483648) (hm : σ.length + cs.length ≤ 2147483648) :
    Calls Tryz.prog 288 #[.pointer (some ⟨p, 0, none⟩), tv] w fun e w' => e = .returned (.tuple #[]) ∧ (∃ fp', StrAt w' p (σ ++ cs) fp' ∧ Grow w fp fp') ∧ Fr fp w w' := by
  obtain ⟨a, c, rfl⟩ := ownsRow_shape hown
  have hcm : cs.length ≤ 9223372036854775807 := by omega
  go_enter Tryz.func288, Tryz.ntmps288
  go_wp2
  go_loopw [5, 8] (fun _ i wr => ∃ (k : Nat) (fpk : Nat → Prop), k ≤ cs.length ∧ i = .int .i64 k ∧ StrAt wr p (σ ++ cs.take k) fpk ∧ Grow w fp fpk ∧ Fr fp w wr) (fun _ i _ => cs.length - (intOf i).toNat)
  case atStart => exact ⟨0, fp, Nat.zero_le _, rfl, by simpa using h, fun k hk => .inl hk, Fr.refl _ _⟩
  case round =>
    obtain ⟨k, fpk, hk, rfl, hat, hg, hfr⟩ := hrel
    by_cases hlt : k < cs.length
    · have hownr := hfr.owns hown hd
      rcases hownr.2 with ⟨hv, _⟩ | ⟨ga, capa, cura, hv, _⟩
      · simp only [Value.slice.injEq] at hv; omega
      · simp only [Value.slice.injEq] at hv
        obtain ⟨rfl, _, rfl⟩ := hv
        have hx := hownr.cells (g := ga) rfl k (.string cs[k].s) (by simp [hlt])
        have hck := hcs cs[k] (List.getElem_mem _)
        have hstep := List.take_succ_eq_append_getElem hlt
        have hle : (cat (σ ++ cs.take k)).length ≤ 2147483648 := by
          have e : (cat cs).length = (cat (cs.take k)).length + (cat (cs.drop k)).length := by rw [← List.length_append, ← cat_append, List.take_append_drop]
          rw [cat_append, List.length_append]
          omega
        generalize cs[k] = cc at hx hck hstep
        rw [Addr.add_lit, Nat.zero_add] at hx
        have happ := str_append wr p _ fpk hat cc hck hle (by simp; omega)
        go_wp2_with (go_at_call 287; refine happ.mono ?_; rintro e w1 ⟨rfl, ⟨fp', hat', hg'⟩, hfr'⟩)
        go_roundw
        case rel =>
          refine ⟨k + 1, fp', by omega, by go_num, ?_, ?_, ?_⟩
          · rw [hstep, ← List.append_assoc]; exact hat'
          · exact fun q hq => (hg' q hq).elim (hg q) (fun h => .inr (Nat.le_trans hfr.size h))
          · exact hfr.trans hfr' (fun q hq h => (hg q h).resolve_right (by omega))
        case measure => simp [intOf]; omega
    · have hke : k = cs.length := by omega
      subst hke
      rw [List.take_length] at hat
      go_wp2
      go_end0
      exact ⟨rfl, ⟨fpk, hat, hg⟩, hfr⟩

set_option maxRecDepth 100000 in
set_option maxHeartbeats 1000000 in
theorem str_leafAppend (w : World) (p : Nat) (σ : List Cell) (fp : Nat → Prop) (hc : StrAt w p σ fp) (c : Cell) (hcs : c.s.size ≤ 65536) (hn : (cat σ).length ≤ 2147483648) (hm : σ.length < 2147483648)
    (r0 r1 r2 r3 : Nat) (null : Bool) (iv kv : Value) :
    Calls Tryz.prog 299 #[.agg #[.iface 145 (.pointer (some ⟨p, 0, none⟩)), .func (.func 44) #[] #[], .func (.func 45) #[] #[]], .agg #[.int .u64 r0, .int .u64 r1, .int .u64 r2, .int .u64 r3, .string c.s, .bool null, iv, kv]] w fun e w' =>
      e = .returned (.tuple #[]) ∧ (∃ fp', StrAt w' p (σ ++ [c]) fp' ∧ Grow w fp fp') ∧ Fr fp w w' := by
  go_enter Tryz.func299, Tryz.ntmps299
  go_wp2_with fail
  generalize hW : (w.alloc _).alloc _ = W
  have hfrW : Fr (fun _ => False) w W := by subst hW; exact ((Fr.refl _ w).alloc _).alloc _
  have d0 : W.cell? ⟨w.heap.size, 0, none⟩ = some (.iface 145 (.pointer (some ⟨p, 0, none⟩))) := by subst hW; rw [World.cell?_alloc_lt _ _ _ (by simp), cell_new rfl]; rfl
  have d1 : W.cell? ⟨w.heap.size, 1, none⟩ = some (.func (.func 44) #[] #[]) := by subst hW; rw [World.cell?_alloc_lt _ _ _ (by simp), cell_new rfl]; rfl
  have e0 : W.cell? ⟨w.heap.size + 1, 0, none⟩ = some (.int .u64 r0) := by subst hW; rw [cell_new (by simp)]; rfl
  have e1 : W.cell? ⟨w.heap.size + 1, 1, none⟩ = some (.int .u64 r1) := by subst hW; rw [cell_new (by simp)]; rfl
  have e2 : W.cell? ⟨w.heap.size + 1, 2, none⟩ = some (.int .u64 r2) := by subst hW; rw [cell_new (by simp)]; rfl
  have e3 : W.cell? ⟨w.heap.size + 1, 3, none⟩ = some (.int .u64 r3) := by subst hW; rw [cell_new (by simp)]; rfl
  have e4 : W.cell? ⟨w.heap.size + 1, 4, none⟩ = some (.string c.s) := by subst hW; rw [cell_new (by simp)]; rfl
  have e5 : W.cell? ⟨w.heap.size + 1, 5, none⟩ = some (.bool null) := by subst hW; rw [cell_new (by simp)]; rfl
  have e6 : W.cell? ⟨w.heap.size + 1, 6, none⟩ = some iv := by subst hW; rw [cell_new (by simp)]; rfl
  have e7 : W.cell? ⟨w.heap.size + 1, 7, none⟩ = some kv := by subst hW; rw [cell_new (by simp)]; rfl
  have hcW : StrAt W p σ fp := hc.framed fun k hk => hfrW.block k (hc.lt k hk) (fun h => h)
  have hN : ¬ fp w.heap.size := fun h => by have := hc.lt _ h; omega
  have hN1 : ¬ fp (w.heap.size + 1) := fun h => by have := hc.lt _ h; omega
  clear hW
  go_region_held3 (fun w' => w'.cell? ⟨w.heap.size, 0, none⟩ = some (.iface 145 (.pointer (some ⟨p, 0, none⟩))) ∧ w'.cell? ⟨w.heap.size, 1, none⟩ = some (.func (.func 44) #[] #[]) ∧
      w'.cell? ⟨w.heap.size + 1, 0, none⟩ = some (.int .u64 r0) ∧ w'.cell? ⟨w.heap.size + 1, 1, none⟩ = some (.int .u64 r1) ∧ w'.cell? ⟨w.heap.size + 1, 2, none⟩ = some (.int .u64 r2) ∧ w'.cell? ⟨w.heap.size + 1, 3, none⟩ = some (.int .u64 r3) ∧
      w'.cell? ⟨w.heap.size + 1, 4, none⟩ = some (.string c.s) ∧ w'.cell? ⟨w.heap.size + 1, 5, none⟩ = some (.bool null) ∧ w'.cell? ⟨w.heap.size + 1, 6, none⟩ = some iv ∧ w'.cell? ⟨w.heap.size + 1, 7, none⟩ = some kv)
    (first
      | exact ⟨d0, d1, e0, e1, e2, e3, e4, e5, e6, e7⟩
      | exact ⟨hf2.cell_some d0 hN, hf2.cell_some d1 hN, hf2.cell_some e0 hN1, hf2.cell_some e1 hN1, hf2.cell_some e2 hN1, hf2.cell_some e3 hN1, hf2.cell_some e4 hN1, hf2.cell_some e5 hN1, hf2.cell_some e6 hN1, hf2.cell_some e7 hN1⟩
      | exact ⟨hf1.cell_some d0 (fun h => h), hf1.cell_some d1 (fun h => h), hf1.cell_some e0 (fun h => h), hf1.cell_some e1 (fun h => h), hf1.cell_some e2 (fun h => h), hf1.cell_some e3 (fun h => h), hf1.cell_some e4 (fun h => h), hf1.cell_some e5 (fun h => h), hf1.cell_some e6 (fun h => h), hf1.cell_some e7 (fun h => h)⟩
      | assumption)
    (first
      | (go_at_call 44; refine (str_in _ r0 r1 r2 r3 c.s null iv kv).mono ?_; rintro e w1 ⟨rfl, hf1⟩)
      | (refine step_of_wp _ rfl ?_; refine wp_invoke _ _ _ _ _ rfl _ _ rfl (Invokes.of1 (str_m_append _ _) Tryz.call287 (str_append _ p σ fp (hcW.framed fun k hk => hf1.block k (hcW.lt k hk) (fun h => h)) c hcs hn hm)) rfl ?_; rintro e w2 ⟨rfl, hcol, hf2'⟩; have hf2 : Fr fp W w2 := (hf1.of_drew.mono (fun _ _ h => h.elim)).trans hf2' (fun _ _ h => h); refine ⟨_, rfl, ?_⟩))
  all_goals
    go_end0
    refine ⟨rfl, ?_, (hfrW.mono (fun _ _ h => h.elim)).trans hf2 (fun _ _ h => h)⟩
    obtain ⟨fp', h1, h2⟩ := hcol
    exact ⟨fp', h1, fun k hk => (h2 k hk).imp id (fun h => Nat.le_trans (Nat.le_trans hfrW.size hf1.size) h)⟩

/-- A row's text. -/
def str_cells (c : Cell) : List Value := [.string c.s]
theorem str_cells_map (cs : List Cell) : cs.flatMap str_cells = cs.map fun c => .string c.s := by induction cs with | nil => rfl | cons c cs ih => rw [List.flatMap_cons, List.map_cons, ih]; rfl

set_option maxRecDepth 100000 in
set_option maxHeartbeats 1000000 in
theorem str_turned (w : World) (B : Nat) (hBw : B ≤ w.heap.size) (cs : List Cell) (v : Value) (xs : List Value) (hs : Sl B w 8 v cs.length xs) (hc : CellsIn B w cs xs) (hn : cs.length ≤ 2147483648) :
    Calls Tryz.prog 302 #[v, .func (.func 44) #[] #[]] w fun e w' => ∃ tv, e = .returned tv ∧ w'.ownsRow 0 9 1 tv cs.length (cs.flatMap str_cells) ∧ (∀ q, tv.ownBlock = some q → w.heap.size ≤ q) ∧ Fr (fun _ => False) w w' := by
  have hs' := hs
  obtain ⟨hxl, ao, cap, rfl, hnc, hcm, h0, ha⟩ := hs
  unfold maxLen at hcm
  clear ha h0 hxl
  go_enter Tryz.func302, Tryz.ntmps302
  go_wp2
  go_loopw [5, 10] (fun tv i wr => ∃ k : Nat, k ≤ cs.length ∧ i = .int .i64 k ∧ wr.ownsRow 0 9 1 tv k ((cs.take k).flatMap str_cells) ∧ (∀ q, tv.ownBlock = some q → w.heap.size ≤ q) ∧ Fr (fun _ => False) w wr) (fun _ i _ => cs.length - (intOf i).toNat)
  case atStart => exact ⟨0, Nat.zero_le _, rfl, World.ownsRow_nil _ _ _ _, by simp [Value.ownBlock], Fr.refl _ _⟩
  case round =>
    obtain ⟨k, hk, rfl, hown, hsince, hfr⟩ := hrel
    have hbr : Below B w wr := hfr.below hBw (fun _ _ h => h)
    obtain ⟨a0, c0, rfl⟩ := ownsRow_shape hown
    by_cases hlt : k < cs.length
    · obtain ⟨b, off, cap', hv, hbB, vs, hvs, hcell⟩ := (hs'.below hbr).row (CellsIn.below hbr _ _ hc) hlt
      have hstep := Lib.hid (flatMap_step str_cells cs k hlt)
      generalize cs[k] = c at hvs hstep
      obtain ⟨ia, il, ic, ka, kl, kc, rfl, h0, h1, h2, h3, h4⟩ := hvs.open
      simp only [Value.slice.injEq] at hv
      obtain ⟨rfl, _, rfl⟩ := hv
      have d0 := hcell 0 _ rfl
      have d1 := hcell 1 _ rfl
      have d2 := hcell 2 _ rfl
      have d3 := hcell 3 _ rfl
      have d4 := hcell 4 _ rfl
      have d5 := hcell 5 _ rfl
      have d6 := hcell 6 _ rfl
      have d7 := hcell 7 _ rfl
      simp only [Nat.add_zero] at d0
      have hfa : Fr (fun _ => False) w (wr.alloc (.cells #[.int .u64 c.r0, .int .u64 c.r1, .int .u64 c.r2, .int .u64 c.r3, .string c.s, .bool c.null, .slice ia il ic, .slice ka kl kc] 35)) := hfr.alloc _
      have hin := str_in (wr.alloc (.cells #[.int .u64 c.r0, .int .u64 c.r1, .int .u64 c.r2, .int .u64 c.r3, .string c.s, .bool c.null, .slice ia il ic, .slice ka kl kc] 35)) c.r0 c.r1 c.r2 c.r3 c.s c.null (.slice ia il ic) (.slice ka kl kc)
      clear hcell hvs hs' hc
      go_wp2_with (first | (go_at_call 44; refine hin.mono ?_; rintro e w1 ⟨rfl, hf1⟩; have hfw1 : Fr (fun _ => False) w w1 := hfa.trans hf1 (fun _ _ h => h); have hown1 := hf1.owns ((Fr.refl (fun _ => False) wr).alloc _ |>.owns hown (fun _ _ h => h)) (fun _ _ h => h)) | ((with_reducible show wpList _ _ _ (⟨some 19, _, _, _, _, _⟩ :: _) _ _); refine wpList_append _ rfl str_els _ _ rfl _ _ _ rfl (hown1.alloc _) _ _ _ rfl (Src.ofSlice _ Tryz.underlying69 _ _ _ _ rfl (cells_new _ [.string c.s] _) (by simp [Value.oneCell'])) ?_ ?_ ?_; (unfold maxLen; omega); omega; intro v' w2 ha; obtain ⟨a', c', rfl⟩ := ha.shape))
      go_roundw
      case rel => exact ⟨k + 1, by omega, by go_num, by rw [hstep.out]; exact ha.1, (ha.since (hfw1.alloc _) hsince).1, (ha.since (hfw1.alloc _) hsince).2⟩
      case measure => simp [intOf]; omega
    · have hke : k = cs.length := by omega
      subst hke
      rw [List.take_length] at hown
      go_wp2
      go_ret
      exact ⟨_, rfl, hown, hsince, hfr⟩

theorem str_cells_one (cs : List Cell) : ∀ u ∈ cs.flatMap str_cells, u.oneCell' = true := by
  intro u hu
  obtain ⟨c, _, hc⟩ := List.mem_flatMap.1 hu
  simp only [str_cells, List.mem_cons, List.not_mem_nil, or_false] at hc
  subst hc; rfl

set_option maxRecDepth 100000 in
set_option maxHeartbeats 1000000 in
theorem str_leafAppendArr (w : World) (B p : Nat) (hBw : B ≤ w.heap.size) (σ : List Cell) (fp : Nat → Prop) (hc : StrAt w p σ fp)
    (cs : List Cell) (v : Value) (ys : List Value) (hs : Sl B w 8 v cs.length ys) (hcs : CellsIn B w cs ys) (hn : (cat σ).length + (cat cs).length ≤ 2147483648) (hm : σ.length + cs.length ≤ 2147483648) :
    Calls Tryz.prog 300 #[.agg #[.iface 145 (.pointer (some ⟨p, 0, none⟩)), .func (.func 44) #[] #[], .func (.func 45) #[] #[]], v] w fun e w' =>
      e = .returned (.tuple #[]) ∧ (∃ fp', StrAt w' p (σ ++ cs) fp' ∧ Grow w fp fp') ∧ Fr fp w w' := by
  go_enter Tryz.func300, Tryz.ntmps300
  go_wp2_with fail
  generalize hW : w.alloc _ = W
  have hfrW : Fr (fun _ => False) w W := by subst hW; exact (Fr.refl _ w).alloc _
  have d0 : W.cell? ⟨w.heap.size, 0, none⟩ = some (.iface 145 (.pointer (some ⟨p, 0, none⟩))) := by subst hW; rw [cell_new rfl]; rfl
  have d1 : W.cell? ⟨w.heap.size, 1, none⟩ = some (.func (.func 44) #[] #[]) := by subst hW; rw [cell_new rfl]; rfl
  have hcW : StrAt W p σ fp := hc.framed fun k hk => hfrW.block k (hc.lt k hk) (fun h => h)
  have hN : ¬ fp w.heap.size := fun h => by have := hc.lt _ h; omega
  have hsW := hs.fr hBw hfrW
  have hcsW := CellsIn.below (hfrW.below hBw (fun _ _ h => h)) _ _ hcs
  have hBW : B ≤ W.heap.size := Nat.le_trans hBw hfrW.size
  have hsD := hsW.fr hBW (Fr.refl (fun _ => False) W).drew
  have hcsD := CellsIn.below ((Below.refl B W).drew) _ _ hcsW
  have hsm := CellsIn.small hcs
  clear hW hs hcs
  go_region_held3 (fun w' => w'.cell? ⟨w.heap.size, 0, none⟩ = some (.iface 145 (.pointer (some ⟨p, 0, none⟩))) ∧ w'.cell? ⟨w.heap.size, 1, none⟩ = some (.func (.func 44) #[] #[]))
    (first
      | exact ⟨d0, d1⟩
      | exact ⟨hf2.cell_some d0 hN, hf2.cell_some d1 hN⟩
      | exact ⟨hf1.cell_some d0 (fun h => h), hf1.cell_some d1 (fun h => h)⟩
      | assumption)
    (first
      | (go_at_call 302; refine (str_turned W.drew B hBW cs v ys hsD hcsD (by omega)).mono ?_; rintro e w1 ⟨tv, rfl, hown, hsince, hf1⟩)
      | (refine step_of_wp _ rfl ?_; refine wp_invoke _ _ _ _ _ rfl _ _ rfl (Invokes.of1 (str_m_appendArr _ _) Tryz.call288 (str_appendArr _ p σ fp (hcW.framed fun k hk => hf1.block k (hcW.lt k hk) (fun h => h)) cs tv (by rw [← str_cells_map]; exact hown) (fun k hk h => Nat.lt_irrefl _ (Nat.lt_of_lt_of_le (hcW.lt k h) (hsince k hk))) (fun c hc => (hsm c hc).2.2.2.2) hn hm)) rfl ?_; rintro e w2 ⟨rfl, hcol, hf2'⟩; have hf2 : Fr fp W w2 := (hf1.of_drew.mono (fun _ _ h => h.elim)).trans hf2' (fun _ _ h => h); refine ⟨_, rfl, ?_⟩))
  all_goals
    go_end0
    refine ⟨rfl, ?_, (hfrW.mono (fun _ _ h => h.elim)).trans hf2 (fun _ _ h => h)⟩
    obtain ⟨fp', h1, h2⟩ := hcol
    exact ⟨fp', h1, fun k hk => (h2 k hk).imp id (fun h => Nat.le_trans (Nat.le_trans hfrW.size hf1.size) h)⟩

end Go.Proofs.YtcidlnjpabgioaaGreatDoor
