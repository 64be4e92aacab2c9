/- nulls: rows one behind the other. -/
import Derived.Test.YtcidlnjpabgioaaGreatDoorNulL
namespace Go.Proofs.YtcidlnjpabgioaaGreatDoor
open Go.RowKit

theorem nul_els : ElT Tryz.prog 469 467 (.agg #[.bool false, .int .u64 0, .int .u64 0, .int .u64 0, .int .u64 0, .string ⟨#[]⟩, .bool false, .slice none 0 0, .slice none 0 0]) 9 112 := ⟨Tryz.underlying469, info_parts (by kernel_rfl), rfl⟩

theorem maybeV_shape (c : Cell) (ia : Option Addr) (il ic : Nat) (ka : Option Addr) (kl kc : Nat) : ∃ (r0 r1 r2 r3 : Nat) (s : ByteArray) (ja : Option Addr) (jl jc : Nat) (la : Option Addr) (ll lc : Nat),
    maybeV c ia il ic ka kl kc = [.int .u64 r0, .int .u64 r1, .int .u64 r2, .int .u64 r3, .string s, .bool false, .slice ja jl jc, .slice la ll lc] := by
  unfold maybeV
  cases c.null with
  | true => exact ⟨0, 0, 0, 0, _, none, 0, 0, none, 0, 0, rfl⟩
  | false => exact ⟨_, _, _, _, _, _, _, _, _, _, _, rfl⟩

/-- Rows that may be NULL, nine cells each. -/
def NulIn (B : Nat) (w : World) : List Cell → List Value → Prop
  | [], xs => xs = []
  | c :: cs, xs => ∃ vs rest, xs = (.bool (!c.null) :: vs) ++ rest ∧ CellIn B w (nz c) vs ∧ NulIn B w cs rest
theorem NulIn.below {B : Nat} {w w' : World} (hb : Below B w w') : ∀ (cs : List Cell) (xs : List Value), NulIn B w cs xs → NulIn B w' cs xs
  | [], _, h => h
  | _ :: _, _, ⟨vs, rest, h0, h1, h2⟩ => ⟨vs, rest, h0, CellIn.below hb _ _ h1, NulIn.below hb _ _ h2⟩
theorem NulIn.snoc {B : Nat} {w : World} {c : Cell} {vs : List Value} (h : CellIn B w (nz c) vs) : ∀ {cs : List Cell} {xs : List Value}, NulIn B w cs xs → NulIn B w (cs ++ [c]) (xs ++ (.bool (!c.null) :: vs))
  | [], _, rfl => ⟨vs, [], by simp, h, rfl⟩
  | _ :: _, _, ⟨us, rest, h0, h1, h2⟩ => ⟨us, _, by rw [h0, List.append_assoc], h1, NulIn.snoc h h2⟩
theorem NulIn.at {B : Nat} {w : World} : ∀ {cs : List Cell} {xs : List Value}, NulIn B w cs xs → ∀ k (hk : k < cs.length), ∃ vs, CellIn B w (nz cs[k]) vs ∧ ∀ j u, (Value.bool (!cs[k].null) :: vs)[j]? = some u → xs[k * 9 + j]? = some u
  | [], _, _, k, hk => by simp at hk
  | c :: cs, _, ⟨vs, rest, h0, h1, _⟩, 0, _ => ⟨vs, h1, fun j u hj => by
      replace hj : (Value.bool (!c.null) :: vs)[j]? = some u := hj
      rw [h0, Nat.zero_mul, Nat.zero_add, List.getElem?_append_left (List.getElem?_eq_some_iff.1 hj).1]
      exact hj⟩
  | c :: cs, _, ⟨vs, rest, h0, h1, h2⟩, k + 1, hk => by
      obtain ⟨vs', g1, g2⟩ := NulIn.at h2 k (by simpa using hk)
      refine ⟨vs', g1, fun j u hj => ?_⟩
      have hl : (Value.bool (!c.null) :: vs).length = 9 := by rw [List.length_cons, h1.length]
      rw [h0, List.getElem?_append_right (by rw [hl]; omega), hl, show (k + 1) * 9 + j - 9 = k * 9 + j by omega]
      exact g2 j u hj

set_option maxRecDepth 100000 in
set_option maxHeartbeats 1000000 in
theorem nul_turned (w : World) (B : Nat) (hBw : B ≤ w.heap.size) (cs : List Cell) (v : Value) (xs : List Value) (hs : Sl B w 8 v cs.length xs) (hc : CellsIn B w cs xs) (hn : cs.length ≤ 2147483648) :
    Calls Tryz.prog 204 #[v, .func (.func 203) #[] #[]] w fun e w' => ∃ tv, e = .returned tv ∧ (∃ vals, w'.ownsRow 0 467 9 tv cs.length vals ∧ NulIn B w' cs vals) ∧ (∀ q, tv.ownBlock = some q → w.heap.size ≤ q) ∧ Fr (fun _ => False) w w' := by
  have hs' := hs
  obtain ⟨hxl, ao, cap, rfl, hnc, hcm, h0, ha⟩ := hs
  unfold maxLen at hcm
  clear ha h0 hxl
  go_enter Tryz.func204, Tryz.ntmps204
  go_wp2
  go_loopw [5, 10] (fun tv i wr => ∃ (k : Nat) (vals : List Value), k ≤ cs.length ∧ i = .int .i64 k ∧ wr.ownsRow 0 467 9 tv k vals ∧ NulIn B wr (cs.take k) vals ∧ (∀ q, tv.ownBlock = some q → w.heap.size ≤ q) ∧ Fr (fun _ => False) w wr) (fun _ i _ => cs.length - (intOf i).toNat)
  case atStart => exact ⟨0, [], Nat.zero_le _, rfl, World.ownsRow_nil _ _ _ _, rfl, by simp [Value.ownBlock], Fr.refl _ _⟩
  case round =>
    obtain ⟨k, vals, hk, rfl, hown, hni, hsince, hfr⟩ := hrel
    have hbr : Below B w wr := hfr.below hBw (fun _ _ h => h)
    have hbB2 : B ≤ wr.heap.size := Nat.le_trans hBw hfr.size
    obtain ⟨a0, c0, rfl⟩ := ownsRow_shape hown
    by_cases hlt : k < cs.length
    · obtain ⟨b, off, cap', hv, hbB, vs, hvs, hcell⟩ := (hs'.below hbr).row (CellsIn.below hbr _ _ hc) hlt
      have hstep := Lib.hid (List.take_succ_eq_append_getElem hlt)
      generalize cs[k] = c at hvs hstep
      obtain ⟨ia, il, ic, ka, kl, kc, rfl, -⟩ := hvs.open
      simp only [Value.slice.injEq] at hv
      obtain ⟨rfl, _, rfl⟩ := hv
      have d0 := hcell 0 _ rfl
      have d1 := hcell 1 _ rfl
      have d2 := hcell 2 _ rfl
      have d3 := hcell 3 _ rfl
      have d4 := hcell 4 _ rfl
      have d5 := hcell 5 _ rfl
      have d6 := hcell 6 _ rfl
      have d7 := hcell 7 _ rfl
      simp only [Nat.add_zero] at d0
      have hfa : Fr (fun _ => False) w (wr.alloc (.cells #[.int .u64 c.r0, .int .u64 c.r1, .int .u64 c.r2, .int .u64 c.r3, .string c.s, .bool c.null, .slice ia il ic, .slice ka kl kc] 35)) := hfr.alloc _
      have hvs2 := hvs
      have hin := maybe_any (wr.alloc (.cells #[.int .u64 c.r0, .int .u64 c.r1, .int .u64 c.r2, .int .u64 c.r3, .string c.s, .bool c.null, .slice ia il ic, .slice ka kl kc] 35)) c ia il ic ka kl kc
      obtain ⟨m0, m1, m2, m3, ms, ja, jl, jc, la, ll, lc, hmv⟩ := maybeV_shape c ia il ic ka kl kc
      have hmay : ∀ {w}, CellIn B w c [.int .u64 c.r0, .int .u64 c.r1, .int .u64 c.r2, .int .u64 c.r3, .string c.s, .bool c.null, .slice ia il ic, .slice ka kl kc] → CellIn B w (nz c) _ := fun h => hmv ▸ h.maybe
      rw [hmv] at hin
      clear hcell hvs hs' hc
      go_wp2_with (first | (go_at_call 203; refine hin.mono ?_; rintro e w1 ⟨rfl, hf1⟩; have hfw1 : Fr (fun _ => False) w w1 := hfa.trans hf1 (fun _ _ h => h); have hown1 := hf1.owns ((Fr.refl (fun _ => False) wr).alloc _ |>.owns hown (fun _ _ h => h)) (fun _ _ h => h)) | ((with_reducible show wpList _ _ _ (⟨some 19, _, _, _, _, _⟩ :: _) _ _); refine wpList_append _ rfl nul_els _ _ rfl _ _ _ rfl (hown1.alloc _) _ _ _ rfl (Src.ofSlice _ Tryz.underlying469 _ _ _ _ rfl (cells_new _ [.bool (!c.null), .int .u64 m0, .int .u64 m1, .int .u64 m2, .int .u64 m3, .string ms, .bool false, .slice ja jl jc, .slice la ll lc] _) (by simp [Value.oneCell'])) ?_ ?_ ?_; (unfold maxLen; omega); omega; intro v' w2 ha; obtain ⟨a', c', rfl⟩ := ha.shape))
      go_roundw
      case rel => 
        refine ⟨k + 1, _, by omega, by go_num, ha.1, ?_, (ha.since (hfw1.alloc _) hsince).1, (ha.since (hfw1.alloc _) hsince).2⟩
        rw [hstep.out]
        have hb2 : Below B wr w2 := (((((Fr.refl (fun _ => False) wr).alloc _).trans hf1 (fun _ _ h => h)).alloc _).mono (S' := fun q => w.heap.size ≤ q) (fun _ _ h => h.elim)).grown ha.2.1 (fun q hq => .inl (hsince q hq)) |>.below hbB2 (fun q hq h => by omega)
        exact NulIn.snoc (hmay (CellIn.below hb2 _ _ hvs2)) (NulIn.below hb2 _ _ hni)
      case measure => simp [intOf]; omega
    · have hke : k = cs.length := by omega
      subst hke
      rw [List.take_length] at hni
      go_wp2
      go_ret
      exact ⟨_, rfl, ⟨_, hown, hni⟩, hsince, hfr⟩


section
variable {B : Nat} {t : TypeId} {u : Value} {T : Ty} {st : List UInt8} {R Rp : World → (Nat → Prop) → List Cell → Prop}

set_option maxRecDepth 100000 in
set_option maxHeartbeats 2000000 in
theorem nul_appendArr (sp : ColSpec Tryz.prog B t u T st R Rp) (w : World) (p : Nat) (fp : Nat → Prop) (σ : List Cell) (h : NulAt B t u R p w fp σ) (cs : List Cell) (tv : Value) (vals : List Value) (hown : w.ownsRow 0 467 9 tv cs.length vals) (hni : NulIn B w cs vals)
    (hd : ∀ k, tv.ownBlock = some k → ¬ fp k) (hw : wts (σ ++ cs) ≤ 2147483648) :
    Calls Tryz.prog 184 #[.pointer (some ⟨p, 0, none⟩), tv] w fun e w' => e = .returned (.tuple #[]) ∧ Fr fp w w' ∧ ∃ fp', NulAt B t u R p w' fp' (σ ++ cs) ∧ Grow w fp fp' := by
  obtain ⟨a, c, rfl⟩ := ownsRow_shape hown
  have hlo := h.lt sp.lo
  have hBw : B ≤ w.heap.size := by
    obtain ⟨v, fpc, hp, _, _, _, _, _, hfp, _⟩ := h
    have := hlo p ((hfp p).2 (.inl rfl))
    omega
  have hcm : cs.length ≤ 9223372036854775807 := by
    have := length_le_wts (σ ++ cs)
    rw [List.length_append] at this
    omega
  go_enter Tryz.func184, Tryz.ntmps184
  go_wp2
  go_loopw [5, 8] (fun _ i wr => ∃ (k : Nat) (fpk : Nat → Prop), k ≤ cs.length ∧ i = .int .i64 k ∧ NulAt B t u R p wr fpk (σ ++ cs.take k) ∧ Grow w fp fpk ∧ Fr fp w wr) (fun _ i _ => cs.length - (intOf i).toNat)
  case atStart => exact ⟨0, fp, Nat.zero_le _, rfl, by simpa using h, fun k hk => .inl hk, Fr.refl _ _⟩
  case round =>
    obtain ⟨k, fpk, hk, rfl, hat, hg, hfr⟩ := hrel
    by_cases hlt : k < cs.length
    · have hownr := hfr.owns hown hd
      rcases hownr.2 with ⟨hv, _⟩ | ⟨ga, capa, cura, hv, _⟩
      · simp only [Value.slice.injEq] at hv; omega
      · simp only [Value.slice.injEq] at hv
        obtain ⟨rfl, _, rfl⟩ := hv
        obtain ⟨vs, hvs, hvx⟩ := hni.at k hlt
        have hbr : Below B w wr := hfr.below hBw (fun q hq h => by have := (hlo q h).1; omega)
        have hvr := CellIn.below hbr _ _ hvs
        have hstep := List.take_succ_eq_append_getElem hlt
        have hwk : wts (σ ++ cs.take k ++ [cs[k]]) ≤ 2147483648 := by
          have := wts_take (σ ++ cs) (σ.length + (k + 1))
          rw [List.take_length_add_append, hstep, ← List.append_assoc] at this
          omega
        generalize cs[k] = cc at hvs hvr hvx hstep hwk
        obtain ⟨ia, il, ic, ka, kl, kc, rfl, -⟩ := hvs.open
        have hx : ∀ j u, #[.bool (!cc.null), .int .u64 (nz cc).r0, .int .u64 (nz cc).r1, .int .u64 (nz cc).r2, .int .u64 (nz cc).r3, .string (nz cc).s, .bool (nz cc).null, .slice ia il ic, .slice ka kl kc][j]? = some u → wr.cell? ⟨ga, k * 9 + j, none⟩ = some u := by
          intro j u hj
          rw [List.getElem?_toArray] at hj
          have := hownr.cells (g := ga) rfl _ _ (hvx j u hj)
          rw [Addr.add_lit, Nat.zero_add] at this
          exact this
        have x0 := hx 0 (.bool (!cc.null)) rfl
        have x1 := hx 1 (.int .u64 (nz cc).r0) rfl
        have x2 := hx 2 (.int .u64 (nz cc).r1) rfl
        have x3 := hx 3 (.int .u64 (nz cc).r2) rfl
        have x4 := hx 4 (.int .u64 (nz cc).r3) rfl
        have x5 := hx 5 (.string (nz cc).s) rfl
        have x6 := hx 6 (.bool (nz cc).null) rfl
        have x7 := hx 7 (.slice ia il ic) rfl
        have x8 := hx 8 (.slice ka kl kc) rfl
        simp only [Nat.add_zero] at x0
        have hlok := hat.lt sp.lo
        have hatA : NulAt B t u R p (wr.alloc (.cells #[.bool (!cc.null), .int .u64 (nz cc).r0, .int .u64 (nz cc).r1, .int .u64 (nz cc).r2, .int .u64 (nz cc).r3, .string (nz cc).s, .bool (nz cc).null, .slice ia il ic, .slice ka kl kc] 467)) fpk (σ ++ cs.take k) := hat.framed sp.frame fun q hq => Below.heap_alloc _ _ _ (hlok q hq).2
        have hBr : B ≤ wr.heap.size := Nat.le_trans hBw hfr.size
        have happ := nul_append sp _ p fpk (σ ++ cs.take k) hatA cc _ (CellIn.below ((Below.refl B wr).alloc hBr _) _ _ hvr) hwk
        have hval : Value.agg (.bool (!cc.null) :: [.int .u64 (nz cc).r0, .int .u64 (nz cc).r1, .int .u64 (nz cc).r2, .int .u64 (nz cc).r3, .string (nz cc).s, .bool (nz cc).null, .slice ia il ic, .slice ka kl kc]).toArray = .agg #[.bool (!cc.null), .int .u64 (nz cc).r0, .int .u64 (nz cc).r1, .int .u64 (nz cc).r2, .int .u64 (nz cc).r3, .string (nz cc).s, .bool (nz cc).null, .slice ia il ic, .slice ka kl kc] := rfl
        rw [hval] at happ
        clear hval hx hvx hni hatA hvr hvs
        go_wp2_with (go_at_call 183; refine happ.mono ?_; rintro e w1 ⟨rfl, hf1, fp', hat', hg'⟩)
        go_roundw
        case rel =>
          refine ⟨k + 1, fp', by omega, by go_num, ?_, ?_, ?_⟩
          · rw [hstep, ← List.append_assoc]; exact hat'
          · intro q hq
            have := hfr.size
            rcases hg' q hq with h | h
            · exact hg q h
            · simp at h; exact .inr (by omega)
          · exact (hfr.alloc _).trans hf1 (fun q hq h => (hg q h).resolve_right (by omega))
        case measure => simp [intOf]; omega
    · have hke : k = cs.length := by omega
      subst hke
      rw [List.take_length] at hat
      go_wp2
      go_end0
      exact ⟨rfl, hfr, fpk, hat, hg⟩
end
end Go.Proofs.YtcidlnjpabgioaaGreatDoor
