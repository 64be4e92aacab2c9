/- The column of FixedString as a leaf. -/
import Derived.Test.YtcidlnjpabgioaaGreatDoorFix
import Derived.Test.YtcidlnjpabgioaaGreatDoorStr
namespace Go.Proofs.YtcidlnjpabgioaaGreatDoor
open Go.RowKit

theorem fix_els : ElT Tryz.prog 176 22 (.slice none 0 0) 1 24 := ⟨Tryz.underlying176, info_parts (by kernel_rfl), rfl⟩

def fixes (m : Nat) (cs : List Cell) : List UInt8 := cs.flatMap fun c => fitted m c.s
theorem fitted_length (m : Nat) (s : ByteArray) : (fitted m s).length = m := by simp [fitted]
theorem fixes_length (m : Nat) (cs : List Cell) : (fixes m cs).length = m * cs.length := flatMap_length (fun c : Cell => fitted m c.s) m (fun c => fitted_length m c.s) cs
theorem fixes_append (m : Nat) (a b : List Cell) : fixes m (a ++ b) = fixes m a ++ fixes m b := by simp [fixes]

/-- Block p holds the column of the texts of σ, m bytes each. -/
def FixAt (w : World) (p m : Nat) (σ : List Cell) (fp : Nat → Prop) : Prop :=
  ∃ v, w.heap[p]? = some (.cells #[v, .int .i64 m] 159 (0, 0)) ∧ w.ownsRow 0 5 1 v (m * σ.length) (bcells (fixes m σ)) ∧ v.ownBlock ≠ some p ∧ ∀ k, fp k ↔ k = p ∨ v.ownBlock = some k
theorem FixAt.framed {w w' : World} {p m : Nat} {σ : List Cell} {fp : Nat → Prop} (h : FixAt w p m σ fp) (hk : ∀ k, fp k → w'.heap[k]? = w.heap[k]?) : FixAt w' p m σ fp := by
  obtain ⟨v, hp, hown, hne, hfp⟩ := h
  refine ⟨v, (hk p ((hfp p).2 (.inl rfl))).trans hp, ⟨hown.1, ?_⟩, hne, hfp⟩
  rcases hown.2 with h0 | ⟨g, cap, cur, rfl, hb, hgg, rest⟩
  · exact .inl h0
  · exact .inr ⟨g, cap, cur, rfl, hb, (hk g ((hfp g).2 (.inr rfl))).trans hgg, rest⟩
theorem FixAt.lt {w : World} {p m : Nat} {σ : List Cell} {fp : Nat → Prop} (h : FixAt w p m σ fp) : ∀ k, fp k → k < w.heap.size := by
  obtain ⟨v, hp, hown, hne, hfp⟩ := h
  intro k hk
  rcases (hfp k).1 hk with rfl | hk
  · exact heap_lt hp
  · exact ownsRow_lt hown hk
theorem FixAt.shape {w : World} {p m : Nat} {σ : List Cell} {fp : Nat → Prop} (h : FixAt w p m σ fp) : fp p := by
  obtain ⟨v, hp, hown, hne, hfp⟩ := h
  exact (hfp p).2 (.inl rfl)

/-- Slices of bytes, each a row's text, in blocks of their own from lo on. -/
def FitRows (w : World) (m lo : Nat) : List Value → List Cell → Prop
  | [], [] => True
  | v :: vs, c :: cs => (w.ownsRow 0 5 1 v m (bcells (fitted m c.s)) ∧ ∀ q, v.ownBlock = some q → lo ≤ q) ∧ FitRows w m lo vs cs
  | _, _ => False
theorem FitRows.map {w w' : World} {m lo lo' : Nat} (hr : ∀ v xs, w.ownsRow 0 5 1 v m xs → (∀ q, v.ownBlock = some q → lo ≤ q) → w'.ownsRow 0 5 1 v m xs ∧ ∀ q, v.ownBlock = some q → lo' ≤ q) : ∀ {vs : List Value} {cs : List Cell}, FitRows w m lo vs cs → FitRows w' m lo' vs cs
  | [], [], _ => trivial
  | v :: _, _ :: _, h => ⟨hr v _ h.1.1 h.1.2, FitRows.map hr h.2⟩
  | [], _ :: _, h => h.elim
  | _ :: _, [], h => h.elim
theorem FitRows.one {w : World} {m lo : Nat} {v : Value} {c : Cell} (h : w.ownsRow 0 5 1 v m (bcells (fitted m c.s))) (hl : ∀ q, v.ownBlock = some q → lo ≤ q) : ∀ {vs : List Value} {cs : List Cell}, FitRows w m lo vs cs → FitRows w m lo (vs ++ [v]) (cs ++ [c])
  | [], [], _ => ⟨⟨h, hl⟩, trivial⟩
  | _ :: _, _ :: _, k => ⟨k.1, FitRows.one h hl k.2⟩
  | [], _ :: _, k => k.elim
  | _ :: _, [], k => k.elim
theorem FitRows.at {w : World} {m lo : Nat} : ∀ {vs : List Value} {cs : List Cell}, FitRows w m lo vs cs → ∀ k (hk : k < cs.length), ∃ v, vs[k]? = some v ∧ w.ownsRow 0 5 1 v m (bcells (fitted m cs[k].s)) ∧ ∀ q, v.ownBlock = some q → lo ≤ q
  | [], [], _, k, hk => by simp at hk
  | v :: _, _ :: _, h, 0, _ => ⟨v, rfl, h.1.1, h.1.2⟩
  | _ :: _, _ :: _, h, k + 1, hk => by
    obtain ⟨v', h1, h2⟩ := FitRows.at h.2 k (by simpa using hk)
    exact ⟨v', by simpa using h1, by simpa using h2⟩
  | [], _ :: _, h, _, _ => h.elim
  | _ :: _, [], h, _, _ => h.elim


set_option maxHeartbeats 400000 in
theorem fix_in (w : World) (nb m : Nat) (r0 r1 r2 r3 : Nat) (s : ByteArray) (null : Bool) (iv kv : Value) (hm : m ≤ 1000) (hf : w.cell? ⟨nb, 0, none⟩ = some (.int .i64 m)) :
    Calls Tryz.prog 47 #[.agg #[.int .u64 r0, .int .u64 r1, .int .u64 r2, .int .u64 r3, .string s, .bool null, iv, kv], .pointer (some ⟨nb, 0, none⟩)] w fun e w' => ∃ tv, e = .returned tv ∧ w'.ownsRow 0 5 1 tv m (bcells (fitted m s)) ∧ (∀ q, tv.ownBlock = some q → w.heap.size ≤ q) ∧ Fr (fun _ => False) w w' := by
  have hf' : ∀ o, (w.alloc o).cell? ⟨nb, 0, none⟩ = some (.int .i64 m) := fun o => (World.cell?_alloc_lt w o _ (World.block_lt_of_cell? w _ hf)).trans hf
  go_enter Tryz.func47, Tryz.ntmps47
  go_wp2_with (go_at_call 48; refine (fitted_any _ s m hm).mono ?_; rintro e w1 ⟨tv, rfl, hown, hs, hfr⟩)
  go_ret
  exact ⟨_, rfl, hown, fun q hq => Nat.le_trans (by simp) (hs q hq), ((Fr.refl _ w).alloc _).trans hfr (fun _ _ h => h)⟩

/-- A row of bytes is not what an append onto a row of slices may turn. -/
theorem row_after {w0 w2 : World} {tv tv' v : Value} {k n m : Nat} {vals ys xs : List Value} (ha : Appended w0 w2 22 1 tv tv' n ys) (hown : w0.ownsRow 0 22 1 tv k vals) (hv : w0.ownsRow 0 5 1 v m xs) : w2.ownsRow 0 5 1 v m xs := by
  refine (Fr.of_grown ha.2.1).owns hv (fun q hq e => ?_)
  rcases hown.2 with ⟨rfl, _⟩ | ⟨g, cap, cur, rfl, _, hg, _⟩
  · simp [Value.ownBlock] at e
  · simp only [Value.ownBlock, Option.some.injEq] at e
    subst e
    exact ownsRow_ne hv hg (by decide) hq

set_option maxHeartbeats 1000000 in
theorem fix_append (w : World) (p m : Nat) (σ : List Cell) (fp : Nat → Prop) (h : FixAt w p m σ fp) (c : Cell) (tv : Value) (htv : w.ownsRow 0 5 1 tv m (bcells (fitted m c.s))) (hm : 1 ≤ m ∧ m ≤ 1000) (hn : σ.length < 2147483648) :
    Calls Tryz.prog 303 #[.pointer (some ⟨p, 0, none⟩), tv] w fun e w' => e = .returned (.tuple #[]) ∧ (∃ fp', FixAt w' p m (σ ++ [c]) fp' ∧ Grow w fp fp') ∧ Fr fp w w' := by
  obtain ⟨v, hp, hown, hne, hfp⟩ := h
  obtain ⟨a0, c0, rfl⟩ := ownsRow_shape hown
  obtain ⟨a1, c1, rfl⟩ := ownsRow_shape htv
  have hpl := heap_lt hp
  have d0 : w.cell? ⟨p, 0, none⟩ = some (.slice a0 (m * σ.length) c0) := by rw [cell_of_row _ _ _ _ _ _ hp]; rfl
  have d1 : w.cell? ⟨p, 1, none⟩ = some (.int .i64 m) := by rw [cell_of_row _ _ _ _ _ _ hp]; rfl
  have hml : m * σ.length ≤ 1000 * 2147483648 := Nat.mul_le_mul hm.2 (by omega)
  have hm0 : ¬ ((m : Int) = 0) := by omega
  have hsrc : Src Tryz.prog 1 22 (.slice a1 m c1) m (bcells (fitted m c.s)) w := Src.ofOwn Tryz.underlying22 htv (fun u hu => by obtain ⟨x, _, rfl⟩ := List.mem_map.1 hu; rfl)
  generalize hM : m * σ.length = M at hp hown hne hfp d0 hml
  go_enter Tryz.func303, Tryz.ntmps303
  go_wp2_with ((with_reducible show wpList _ _ _ (⟨some 28, _, _, _, _, _⟩ :: _) _ _); refine wpList_append _ rfl bufEl _ _ rfl _ _ _ rfl hown _ _ _ rfl hsrc ?_ ?_ ?_; (unfold maxLen; omega); omega; intro v' w1 ha; obtain ⟨a', c', rfl⟩ := ha.shape; obtain ⟨hcs, hfs⟩ := field_cells hp hne (Fr.refl _ w) ha; have d2 : w1.cell? ⟨p, 0, none⟩ = some (.slice a0 M c0) := hcs 0; have f2 := hfs 0; have hA := field_appended (i := 0) hp hown hne (Fr.refl _ w) ha)
  obtain ⟨hp2, hown2, hne2, hblk2, hfr2⟩ := hA
  have hmul : m * (σ ++ [c]).length = M + m := by rw [List.length_append, List.length_singleton, Nat.mul_add, Nat.mul_one, hM]
  (try simp only [Exit.inBlock, Exit.then]); refine bodyPost_end (results_none rfl _ _ _) rfl ?_
  refine ⟨rfl, ⟨fun k => k = p ∨ (Value.slice a' (M + m) c').ownBlock = some k, ⟨_, hp2, ?_, hne2, fun k => Iff.rfl⟩, ?_⟩, hfr2.mono (fun k _ h => (hfp k).2 h)⟩
  · have e : fixes m [c] = fitted m c.s := by simp [fixes]
    rw [hmul, fixes_append, bcells_append, e]
    exact hown2
  · rintro k (rfl | hk)
    · exact .inl ((hfp k).2 (.inl rfl))
    · rcases hblk2 with e | e
      · exact .inl ((hfp k).2 (.inr (by rw [← e, hk])))
      · rw [e] at hk
        simp only [Option.some.injEq] at hk
        exact .inr (by omega)

set_option maxRecDepth 100000 in
set_option maxHeartbeats 1000000 in
theorem fix_appendArr (w : World) (p m : Nat) (σ : List Cell) (fp : Nat → Prop) (h : FixAt w p m σ fp) (cs : List Cell) (tv : Value) (vals : List Value) (hown : w.ownsRow 0 22 1 tv cs.length vals) {lo : Nat} (hfit : FitRows w m lo vals cs) (hd : ∀ k, tv.ownBlock = some k → ¬ fp k) (hlo : ∀ k, fp k → ¬ lo ≤ k)
    (hm : 1 ≤ m ∧ m ≤ 1000) (hn : σ.length + cs.length ≤ 2147483648) :
    Calls Tryz.prog 304 #[.pointer (some ⟨p, 0, none⟩), tv] w fun e w' => e = .returned (.tuple #[]) ∧ (∃ fp', FixAt w' p m (σ ++ cs) fp' ∧ Grow w fp fp') ∧ Fr fp w w' := by
  obtain ⟨a, c, rfl⟩ := ownsRow_shape hown
  have hcm : cs.length ≤ 9223372036854775807 := by omega
  go_enter Tryz.func304, Tryz.ntmps304
  go_wp2
  go_loopw [5, 8] (fun _ i wr => ∃ (k : Nat) (fpk : Nat → Prop), k ≤ cs.length ∧ i = .int .i64 k ∧ FixAt wr p m (σ ++ cs.take k) fpk ∧ Grow w fp fpk ∧ Fr fp w wr) (fun _ i _ => cs.length - (intOf i).toNat)
  case atStart => exact ⟨0, fp, Nat.zero_le _, rfl, by simpa using h, fun k hk => .inl hk, Fr.refl _ _⟩
  case round =>
    obtain ⟨k, fpk, hk, rfl, hat, hg, hfr⟩ := hrel
    by_cases hlt : k < cs.length
    · have hownr := hfr.owns hown hd
      rcases hownr.2 with ⟨hv, _⟩ | ⟨ga, capa, cura, hv, _⟩
      · simp only [Value.slice.injEq] at hv; omega
      · simp only [Value.slice.injEq] at hv
        obtain ⟨rfl, _, rfl⟩ := hv
        obtain ⟨ev, he, hev, hel⟩ := hfit.at k hlt
        have hx := hownr.cells (g := ga) rfl k _ he
        have hevr := hfr.owns hev (fun q hq h => hlo q h (hel q hq))
        have hstep := List.take_succ_eq_append_getElem hlt
        generalize cs[k] = cc at hev hevr hstep
        rw [Addr.add_lit, Nat.zero_add] at hx
        obtain ⟨ea, ec, rfl⟩ := ownsRow_shape hev
        have happ := fix_append wr p m _ fpk hat cc _ hevr hm (by simp; omega)
        go_wp2_with (go_at_call 303; refine happ.mono ?_; rintro e w1 ⟨rfl, ⟨fp', hat', hg'⟩, hfr'⟩)
        go_roundw
        case rel =>
          refine ⟨k + 1, fp', by omega, by go_num, ?_, ?_, ?_⟩
          · rw [hstep, ← List.append_assoc]; exact hat'
          · exact fun q hq => (hg' q hq).elim (hg q) (fun h => .inr (Nat.le_trans hfr.size h))
          · exact hfr.trans hfr' (fun q hq h => (hg q h).resolve_right (by omega))
        case measure => simp [intOf]; omega
    · have hke : k = cs.length := by omega
      subst hke
      rw [List.take_length] at hat
      go_wp2
      go_end0
      exact ⟨rfl, ⟨fpk, hat, hg⟩, hfr⟩

theorem fix_m_append (a : Addr) (w : World) : (method (Tryz.prog.types.size + Made.depth) 157 (.pointer (some a)) "Append").run Tryz.prog w = .ok (303, .pointer (some a)) w := by kernel_rfl
theorem fix_m_appendArr (a : Addr) (w : World) : (method (Tryz.prog.types.size + Made.depth) 157 (.pointer (some a)) "AppendArr").run Tryz.prog w = .ok (304, .pointer (some a)) w := by kernel_rfl

set_option maxRecDepth 100000 in
set_option maxHeartbeats 1000000 in
theorem fix_leafAppend (w : World) (p nb m : Nat) (σ : List Cell) (fp : Nat → Prop) (hc : FixAt w p m σ fp) (c : Cell) (hm : 1 ≤ m ∧ m ≤ 1000) (hn : σ.length < 2147483648) (hf : w.cell? ⟨nb, 0, none⟩ = some (.int .i64 m))
    (r0 r1 r2 r3 : Nat) (null : Bool) (iv kv : Value) :
    Calls Tryz.prog 312 #[.agg #[.iface 157 (.pointer (some ⟨p, 0, none⟩)), .func (.func 47) #[] #[.pointer (some ⟨nb, 0, none⟩)], .func (.func 49) #[] #[]], .agg #[.int .u64 r0, .int .u64 r1, .int .u64 r2, .int .u64 r3, .string c.s, .bool null, iv, kv]] w fun e w' =>
      e = .returned (.tuple #[]) ∧ (∃ fp', FixAt w' p m (σ ++ [c]) fp' ∧ Grow w fp fp') ∧ Fr fp w w' := by
  go_enter Tryz.func312, Tryz.ntmps312
  go_wp2_with fail
  generalize hW : (w.alloc _).alloc _ = W
  have hfrW : Fr (fun _ => False) w W := by subst hW; exact ((Fr.refl _ w).alloc _).alloc _
  have d0 : W.cell? ⟨w.heap.size, 0, none⟩ = some (.iface 157 (.pointer (some ⟨p, 0, none⟩))) := by subst hW; rw [World.cell?_alloc_lt _ _ _ (by simp), cell_new rfl]; rfl
  have d1 : W.cell? ⟨w.heap.size, 1, none⟩ = some (.func (.func 47) #[] #[.pointer (some ⟨nb, 0, none⟩)]) := by subst hW; rw [World.cell?_alloc_lt _ _ _ (by simp), cell_new rfl]; rfl
  have e0 : W.cell? ⟨w.heap.size + 1, 0, none⟩ = some (.int .u64 r0) := by subst hW; rw [cell_new (by simp)]; rfl
  have e1 : W.cell? ⟨w.heap.size + 1, 1, none⟩ = some (.int .u64 r1) := by subst hW; rw [cell_new (by simp)]; rfl
  have e2 : W.cell? ⟨w.heap.size + 1, 2, none⟩ = some (.int .u64 r2) := by subst hW; rw [cell_new (by simp)]; rfl
  have e3 : W.cell? ⟨w.heap.size + 1, 3, none⟩ = some (.int .u64 r3) := by subst hW; rw [cell_new (by simp)]; rfl
  have e4 : W.cell? ⟨w.heap.size + 1, 4, none⟩ = some (.string c.s) := by subst hW; rw [cell_new (by simp)]; rfl
  have e5 : W.cell? ⟨w.heap.size + 1, 5, none⟩ = some (.bool null) := by subst hW; rw [cell_new (by simp)]; rfl
  have e6 : W.cell? ⟨w.heap.size + 1, 6, none⟩ = some iv := by subst hW; rw [cell_new (by simp)]; rfl
  have e7 : W.cell? ⟨w.heap.size + 1, 7, none⟩ = some kv := by subst hW; rw [cell_new (by simp)]; rfl
  have hcW : FixAt W p m σ fp := hc.framed fun k hk => hfrW.block k (hc.lt k hk) (fun h => h)
  have hfW : W.cell? ⟨nb, 0, none⟩ = some (.int .i64 m) := hfrW.cell_some hf (fun h => h)
  have hN : ¬ fp w.heap.size := fun h => by have := hc.lt _ h; omega
  have hN1 : ¬ fp (w.heap.size + 1) := fun h => by have := hc.lt _ h; omega
  clear hW
  go_region_held3 (fun w' => w'.cell? ⟨w.heap.size, 0, none⟩ = some (.iface 157 (.pointer (some ⟨p, 0, none⟩))) ∧ w'.cell? ⟨w.heap.size, 1, none⟩ = some (.func (.func 47) #[] #[.pointer (some ⟨nb, 0, none⟩)]) ∧
      w'.cell? ⟨w.heap.size + 1, 0, none⟩ = some (.int .u64 r0) ∧ w'.cell? ⟨w.heap.size + 1, 1, none⟩ = some (.int .u64 r1) ∧ w'.cell? ⟨w.heap.size + 1, 2, none⟩ = some (.int .u64 r2) ∧ w'.cell? ⟨w.heap.size + 1, 3, none⟩ = some (.int .u64 r3) ∧
      w'.cell? ⟨w.heap.size + 1, 4, none⟩ = some (.string c.s) ∧ w'.cell? ⟨w.heap.size + 1, 5, none⟩ = some (.bool null) ∧ w'.cell? ⟨w.heap.size + 1, 6, none⟩ = some iv ∧ w'.cell? ⟨w.heap.size + 1, 7, none⟩ = some kv)
    (first
      | exact ⟨d0, d1, e0, e1, e2, e3, e4, e5, e6, e7⟩
      | exact ⟨hf2.cell_some d0 hN, hf2.cell_some d1 hN, hf2.cell_some e0 hN1, hf2.cell_some e1 hN1, hf2.cell_some e2 hN1, hf2.cell_some e3 hN1, hf2.cell_some e4 hN1, hf2.cell_some e5 hN1, hf2.cell_some e6 hN1, hf2.cell_some e7 hN1⟩
      | exact ⟨hf1.cell_some d0 (fun h => h), hf1.cell_some d1 (fun h => h), hf1.cell_some e0 (fun h => h), hf1.cell_some e1 (fun h => h), hf1.cell_some e2 (fun h => h), hf1.cell_some e3 (fun h => h), hf1.cell_some e4 (fun h => h), hf1.cell_some e5 (fun h => h), hf1.cell_some e6 (fun h => h), hf1.cell_some e7 (fun h => h)⟩
      | assumption)
    (first
      | (refine step_of_wp _ rfl ?_; refine wp_callv _ _ _ _ rfl _ _ rfl (CallsV.func1 Tryz.call47 (fix_in _ nb m r0 r1 r2 r3 c.s null iv kv hm.2 hfW)) rfl ?_; rintro e w1 ⟨tv, rfl, hown, hsince, hf1⟩; refine ⟨_, rfl, ?_⟩)
      | (refine step_of_wp _ rfl ?_; refine wp_invoke _ _ _ _ _ rfl _ _ rfl (Invokes.of1 (fix_m_append _ _) Tryz.call303 (fix_append _ p m σ fp (hcW.framed fun k hk => hf1.block k (hcW.lt k hk) (fun h => h)) c tv hown hm hn)) rfl ?_; rintro e w2 ⟨rfl, hcol, hf2'⟩; have hf2 : Fr fp W w2 := (hf1.of_drew.mono (fun _ _ h => h.elim)).trans hf2' (fun _ _ h => h); refine ⟨_, rfl, ?_⟩))
  all_goals
    go_end0
    refine ⟨rfl, ?_, (hfrW.mono (fun _ _ h => h.elim)).trans hf2 (fun _ _ h => h)⟩
    obtain ⟨fp', h1, h2⟩ := hcol
    exact ⟨fp', h1, fun k hk => (h2 k hk).imp id (fun h => Nat.le_trans (Nat.le_trans hfrW.size hf1.size) h)⟩

set_option maxRecDepth 100000 in
set_option maxHeartbeats 1000000 in
theorem fix_turned (w : World) (B nb m : Nat) (hBw : B ≤ w.heap.size) (hm : m ≤ 1000) (hf : w.cell? ⟨nb, 0, none⟩ = some (.int .i64 m)) (cs : List Cell) (v : Value) (xs : List Value) (hs : Sl B w 8 v cs.length xs) (hc : CellsIn B w cs xs) (hn : cs.length ≤ 2147483648) :
    Calls Tryz.prog 315 #[v, .func (.func 47) #[] #[.pointer (some ⟨nb, 0, none⟩)]] w fun e w' => ∃ tv, e = .returned tv ∧ (∃ vals, w'.ownsRow 0 22 1 tv cs.length vals ∧ FitRows w' m w.heap.size vals cs) ∧ (∀ q, tv.ownBlock = some q → w.heap.size ≤ q) ∧ Fr (fun _ => False) w w' := by
  have hs' := hs
  obtain ⟨hxl, ao, cap, rfl, hnc, hcm, h0, ha⟩ := hs
  unfold maxLen at hcm
  clear ha h0 hxl
  go_enter Tryz.func315, Tryz.ntmps315
  go_wp2
  go_loopw [5, 10] (fun tv i wr => ∃ (k : Nat) (vals : List Value), k ≤ cs.length ∧ i = .int .i64 k ∧ wr.ownsRow 0 22 1 tv k vals ∧ FitRows wr m w.heap.size vals (cs.take k) ∧ (∀ q, tv.ownBlock = some q → w.heap.size ≤ q) ∧ Fr (fun _ => False) w wr) (fun _ i _ => cs.length - (intOf i).toNat)
  case atStart => exact ⟨0, [], Nat.zero_le _, rfl, World.ownsRow_nil _ _ _ _, trivial, by simp [Value.ownBlock], Fr.refl _ _⟩
  case round =>
    obtain ⟨k, vals, hk, rfl, hown, hfit, hsince, hfr⟩ := hrel
    have hbr : Below B w wr := hfr.below hBw (fun _ _ h => h)
    obtain ⟨a0, c0, rfl⟩ := ownsRow_shape hown
    by_cases hlt : k < cs.length
    · obtain ⟨b, off, cap', hv, hbB, vs, hvs, hcell⟩ := (hs'.below hbr).row (CellsIn.below hbr _ _ hc) hlt
      have hstep := Lib.hid (List.take_succ_eq_append_getElem hlt)
      generalize cs[k] = c at hvs hstep
      obtain ⟨ia, il, ic, ka, kl, kc, rfl, h0, h1, h2, h3, h4⟩ := hvs.open
      simp only [Value.slice.injEq] at hv
      obtain ⟨rfl, _, rfl⟩ := hv
      have d0 := hcell 0 _ rfl
      have d1 := hcell 1 _ rfl
      have d2 := hcell 2 _ rfl
      have d3 := hcell 3 _ rfl
      have d4 := hcell 4 _ rfl
      have d5 := hcell 5 _ rfl
      have d6 := hcell 6 _ rfl
      have d7 := hcell 7 _ rfl
      simp only [Nat.add_zero] at d0
      have hfa : Fr (fun _ => False) w (wr.alloc (.cells #[.int .u64 c.r0, .int .u64 c.r1, .int .u64 c.r2, .int .u64 c.r3, .string c.s, .bool c.null, .slice ia il ic, .slice ka kl kc] 35)) := hfr.alloc _
      have hin := fix_in _ nb m c.r0 c.r1 c.r2 c.r3 c.s c.null (.slice ia il ic) (.slice ka kl kc) hm (hfa.cell_some hf (fun h => h))
      clear hcell hvs hs' hc
      go_wp2_with (first | ((with_reducible show wpList _ _ _ (⟨some 17, _, _, _, _, _⟩ :: _) _ _); refine wpList_callv _ rfl _ _ _ rfl _ _ rfl (CallsV.func1 Tryz.call47 hin) rfl ?_; rintro e w1 ⟨ev, rfl, hev, hes, hf1⟩; obtain ⟨ea, ec, rfl⟩ := ownsRow_shape hev; refine ⟨_, rfl, ?_⟩; have hfw1 : Fr (fun _ => False) w w1 := hfa.trans hf1 (fun _ _ h => h); have hown1 := hf1.owns ((Fr.refl (fun _ => False) wr).alloc _ |>.owns hown (fun _ _ h => h)) (fun _ _ h => h)) | ((with_reducible show wpList _ _ _ (⟨some 19, _, _, _, _, _⟩ :: _) _ _); refine wpList_append _ rfl fix_els _ _ rfl _ _ _ rfl (hown1.alloc _) _ _ _ rfl (Src.ofSlice _ Tryz.underlying176 _ _ _ _ rfl (cells_new _ [.slice ea m ec] _) (by simp [Value.oneCell'])) ?_ ?_ ?_; (unfold maxLen; omega); omega; intro v' w2 ha; obtain ⟨a', c', rfl⟩ := ha.shape))
      go_roundw
      case rel => 
        refine ⟨k + 1, _, by omega, by go_num, ha.1, ?_, (ha.since (hfw1.alloc _) hsince).1, (ha.since (hfw1.alloc _) hsince).2⟩
        rw [hstep.out]
        exact FitRows.one (row_after ha (hown1.alloc _) (hev.alloc _)) (fun q hq => Nat.le_trans (by have := hfr.size; simp; omega) (hes q hq)) (hfit.map fun v xs hv hl => ⟨row_after ha (hown1.alloc _) ((hf1.owns ((Fr.refl (fun _ => False) wr).alloc _ |>.owns hv (fun _ _ h => h)) (fun _ _ h => h)).alloc _), hl⟩)
      case measure => simp [intOf]; omega
    · have hke : k = cs.length := by omega
      subst hke
      rw [List.take_length] at hfit
      go_wp2
      go_ret
      exact ⟨_, rfl, ⟨_, hown, hfit⟩, hsince, hfr⟩

set_option maxRecDepth 100000 in
set_option maxHeartbeats 1000000 in
theorem fix_leafAppendArr (w : World) (B p nb m : Nat) (hBw : B ≤ w.heap.size) (σ : List Cell) (fp : Nat → Prop) (hc : FixAt w p m σ fp) (hm : 1 ≤ m ∧ m ≤ 1000) (hf : w.cell? ⟨nb, 0, none⟩ = some (.int .i64 m))
    (cs : List Cell) (v : Value) (ys : List Value) (hs : Sl B w 8 v cs.length ys) (hcs : CellsIn B w cs ys) (hn : σ.length + cs.length ≤ 2147483648) :
    Calls Tryz.prog 313 #[.agg #[.iface 157 (.pointer (some ⟨p, 0, none⟩)), .func (.func 47) #[] #[.pointer (some ⟨nb, 0, none⟩)], .func (.func 49) #[] #[]], v] w fun e w' =>
      e = .returned (.tuple #[]) ∧ (∃ fp', FixAt w' p m (σ ++ cs) fp' ∧ Grow w fp fp') ∧ Fr fp w w' := by
  go_enter Tryz.func313, Tryz.ntmps313
  go_wp2_with fail
  generalize hW : w.alloc _ = W
  have hfrW : Fr (fun _ => False) w W := by subst hW; exact (Fr.refl _ w).alloc _
  have d0 : W.cell? ⟨w.heap.size, 0, none⟩ = some (.iface 157 (.pointer (some ⟨p, 0, none⟩))) := by subst hW; rw [cell_new rfl]; rfl
  have d1 : W.cell? ⟨w.heap.size, 1, none⟩ = some (.func (.func 47) #[] #[.pointer (some ⟨nb, 0, none⟩)]) := by subst hW; rw [cell_new rfl]; rfl
  have hcW : FixAt W p m σ fp := hc.framed fun k hk => hfrW.block k (hc.lt k hk) (fun h => h)
  have hfW : W.cell? ⟨nb, 0, none⟩ = some (.int .i64 m) := hfrW.cell_some hf (fun h => h)
  have hN : ¬ fp w.heap.size := fun h => by have := hc.lt _ h; omega
  have hsW := hs.fr hBw hfrW
  have hcsW := CellsIn.below (hfrW.below hBw (fun _ _ h => h)) _ _ hcs
  have hBW : B ≤ W.heap.size := Nat.le_trans hBw hfrW.size
  have hsD := hsW.fr hBW (Fr.refl (fun _ => False) W).drew
  have hcsD := CellsIn.below ((Below.refl B W).drew) _ _ hcsW
  clear hW hs hcs
  go_region_held3 (fun w' => w'.cell? ⟨w.heap.size, 0, none⟩ = some (.iface 157 (.pointer (some ⟨p, 0, none⟩))) ∧ w'.cell? ⟨w.heap.size, 1, none⟩ = some (.func (.func 47) #[] #[.pointer (some ⟨nb, 0, none⟩)]))
    (first
      | exact ⟨d0, d1⟩
      | exact ⟨hf2.cell_some d0 hN, hf2.cell_some d1 hN⟩
      | exact ⟨hf1.cell_some d0 (fun h => h), hf1.cell_some d1 (fun h => h)⟩
      | assumption)
    (first
      | (go_at_call 315; refine (fix_turned W.drew B nb m hBW hm.2 hfW cs v ys hsD hcsD (by omega)).mono ?_; rintro e w1 ⟨tv, rfl, ⟨vals, hown, hfit⟩, hsince, hf1⟩)
      | (refine step_of_wp _ rfl ?_; refine wp_invoke _ _ _ _ _ rfl _ _ rfl (Invokes.of1 (fix_m_appendArr _ _) Tryz.call304 (fix_appendArr _ p m σ fp (hcW.framed fun k hk => hf1.block k (hcW.lt k hk) (fun h => h)) cs tv vals hown hfit (fun k hk h => Nat.lt_irrefl _ (Nat.lt_of_lt_of_le (hcW.lt k h) (hsince k hk))) (fun k hk h => Nat.lt_irrefl _ (Nat.lt_of_lt_of_le (hcW.lt k hk) h)) hm hn)) rfl ?_; rintro e w2 ⟨rfl, hcol, hf2'⟩; have hf2 : Fr fp W w2 := (hf1.of_drew.mono (fun _ _ h => h.elim)).trans hf2' (fun _ _ h => h); refine ⟨_, rfl, ?_⟩))
  all_goals
    go_end0
    refine ⟨rfl, ?_, (hfrW.mono (fun _ _ h => h.elim)).trans hf2 (fun _ _ h => h)⟩
    obtain ⟨fp', h1, h2⟩ := hcol
    exact ⟨fp', h1, fun k hk => (h2 k hk).imp id (fun h => Nat.le_trans (Nat.le_trans hfrW.size hf1.size) h)⟩

end Go.Proofs.YtcidlnjpabgioaaGreatDoor
