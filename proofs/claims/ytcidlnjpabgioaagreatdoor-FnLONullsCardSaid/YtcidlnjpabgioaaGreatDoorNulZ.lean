/- nulls keeps ColSpec. -/
import Derived.Test.YtcidlnjpabgioaaGreatDoorNulS
import Derived.Test.YtcidlnjpabgioaaGreatDoorStrS
namespace Go.Proofs.YtcidlnjpabgioaaGreatDoor
open Go.RowKit

section
variable {P : Program} {w : World}
/-- A method promoted through an embedded pointer, the struct's first field. -/
theorem method_emb {n : Nat} {t : TypeId} {name : String} {s : TypeId} {fs : Array Field} {fd : Field} {f : FuncId} (pr : Bool) (hs : P.underlying s = some (.struct fs)) (hfd : fs[0]? = some fd) (hfo : fd.offset = 0) (hag : ∀ w, (isAgg fd.type).run P w = .ok false w)
    (h : ((P.info? t).bind fun i => i.methods.find? (·.name == name)).map (fun m => (m.path, m.func)) = some (#[{ struct := s, index := 0, deref := false }], some (f, pr)))
    {cs : Array Value} {v r : Value} (hc : cs[0]? = some v) (hr : (receiverAt fd.type (.val v) pr none).run P w = .ok r w) : (method (n + 1) t (.agg cs) name).run P w = .ok (f, r) w := by
  cases hi : P.info? t with
  | none => simp [hi] at h
  | some i =>
    cases hm : i.methods.find? (·.name == name) with
    | none => simp [hi, hm] at h
    | some m =>
      simp only [hi, hm, Option.bind_some, Option.map_some, Option.some.injEq, Prod.mk.injEq] at h
      obtain ⟨hp, hf⟩ := h
      unfold method
      simp only [Sem.run_bind, typeInfo, run_program, Result.andThen_ok, hi, Sem.run_pure, hm, hp, follow, hf, run_underlying hs, hfd, part, hfo, hc]
      simp [Sem.run_bind, hag, hr]
theorem receiver_ptr0 {t e : TypeId} {v : Value} (hu : P.underlying t = some (.pointer e)) : (receiverAt t (.val v) true none).run P w = .ok v w := by
  simp [receiverAt, run_underlying hu, Place.get]
theorem receiver_val0 {t e : TypeId} {a : Addr} {r : Value} (hu : P.underlying t = some (.pointer e)) (hl : (loadVar e a).run P w = .ok r w) : (receiverAt t (.val (.pointer (some a))) false none).run P w = .ok r w := by
  simp [receiverAt, run_underlying hu, Place.get, asAddr, hl]
end

theorem load_nul {w : World} {a : Addr} {u v : Value} (h0 : w.cell? a = some u) (h1 : w.cell? (a.add 1) = some v) : (loadVar 130 a).run Tryz.prog w = .ok (.agg #[u, v]) w := by
  have h : (Tryz.prog.info? 130).map (·.size) = some 2 := by kernel_rfl
  obtain ⟨i, hi, hs⟩ := Option.map_eq_some_iff.1 h
  exact load_two Tryz.underlying130 hi hs h0 h1

theorem nulls_m_own (p : Nat) (w : World) (name : String) (f : FuncId) (h : (name, f) = ("Append", 200) ∨ (name, f) = ("AppendArr", 201)) :
    (method (Tryz.prog.types.size + Made.depth) 80 (.agg #[.pointer (some ⟨p, 0, none⟩)]) name).run Tryz.prog w = .ok (f, .agg #[.pointer (some ⟨p, 0, none⟩)]) w := by
  rcases h with h | h <;> (simp only [Prod.mk.injEq] at h; obtain ⟨rfl, rfl⟩ := h; kernel_rfl)
theorem nulls_m_val (p : Nat) (w : World) (u v : Value) (h0 : w.cell? ⟨p, 0, none⟩ = some u) (h1 : w.cell? ⟨p, 1, none⟩ = some v) (name : String) (f : FuncId)
    (h : (name, f) = ("Rows", 191) ∨ (name, f) = ("EncodeColumn", 186) ∨ (name, f) = ("EncodeState", 187)) :
    (method (Tryz.prog.types.size + Made.depth) 80 (.agg #[.pointer (some ⟨p, 0, none⟩)]) name).run Tryz.prog w = .ok (f, .agg #[u, v]) w := by
  obtain ⟨n, hn⟩ := fuel
  rw [hn]
  have hr := receiver_val0 (P := Tryz.prog) Tryz.underlying77 (load_nul h0 (by simpa [Addr.add] using h1))
  rcases h with h | h | h <;> (simp only [Prod.mk.injEq] at h; obtain ⟨rfl, rfl⟩ := h; exact method_emb (n := n + 1) false Tryz.underlying80 rfl rfl (fun _ => by kernel_rfl) (by kernel_rfl) rfl hr)
theorem nulls_m_prep (p : Nat) (w : World) : (method (Tryz.prog.types.size + Made.depth) 80 (.agg #[.pointer (some ⟨p, 0, none⟩)]) "Prepare").run Tryz.prog w = .ok (188, .pointer (some ⟨p, 0, none⟩)) w := by
  obtain ⟨n, hn⟩ := fuel
  rw [hn]
  exact method_emb (n := n + 1) true Tryz.underlying80 rfl rfl (fun _ => by kernel_rfl) (by kernel_rfl) rfl (receiver_ptr0 Tryz.underlying77)

set_option maxHeartbeats 400000 in
theorem nul_rows (w : World) (a : Option Addr) (n c : Nat) (x : Value) (hx : ∃ t u, x = .iface t u) : Calls Tryz.prog 191 #[.agg #[.slice a n c, x]] w fun e w' => e = .returned (.int .i64 n) ∧ Fr (fun _ => False) w w' := by
  obtain ⟨t, u, rfl⟩ := hx
  go_enter Tryz.func191, Tryz.ntmps191
  go_wp2_with (go_at_call 197; refine (u8_rows _ a n c).mono ?_; rintro e w1 ⟨rfl, hf1⟩)
  go_ret
  exact ⟨rfl, ((Fr.refl _ w).alloc _).trans hf1 (fun _ _ h => h)⟩

set_option maxHeartbeats 1000000 in
theorem nulls_spec {B : Nat} {t : TypeId} {u : Value} {T : Ty} {st : List UInt8} {R Rp : World → (Nat → Prop) → List Cell → Prop} (sp : ColSpec Tryz.prog B t u T st R Rp) (p : Nat) :
    ColSpec Tryz.prog B 80 (.agg #[.pointer (some ⟨p, 0, none⟩)]) (.nul T) st (NulAt B t u R p) (NulAt B t u Rp p) where
  lo := fun h => h.lt sp.lo
  lo' := fun h => h.lt sp.lo'
  frame := fun h hk => h.framed sp.frame hk
  frame' := fun h hk => h.framed sp.frame' hk
  append := by
    intro w fp σ c vs h hvs hw
    have hvs' := hvs
    obtain ⟨ia, il, ic, ka, kl, kc, rfl, -⟩ := hvs.open
    exact Invokes.of1 (nulls_m_own p w _ _ (.inl rfl)) Tryz.call200 (nulls_append sp w p fp σ h c ia il ic ka kl kc hvs' hw)
  appendArr := by
    intro w fp σ cs v xs h hs hcs hw
    exact Invokes.of1 (nulls_m_own p w _ _ (.inr rfl)) Tryz.call201 (nulls_appendArr sp w p fp σ h cs v xs hs hcs hw)
  rows := by
    intro w fp σ h
    obtain ⟨v, fpc, hp, hown, _⟩ := h
    obtain ⟨a, c, rfl⟩ := ownsRow_shape hown
    exact Invokes.of0 (nulls_m_val p w _ _ (by rw [cell_of_row _ _ _ _ _ _ hp]; rfl) (by rw [cell_of_row _ _ _ _ _ _ hp]; rfl) _ _ (.inl rfl)) Tryz.call191 (nul_rows w a _ c _ ⟨_, _, rfl⟩)
  prepare := ⟨true, fun x w => run_typeAssert_hasB Tryz.underlying102 (by kernel_rfl) _ x w, fun {w fp σ} h => by
    simp only [if_true]
    exact Invokes.of0 (nulls_m_prep p w) Tryz.call188 (nul_prepare sp w p fp σ h)⟩
  state := ⟨true, fun x w => run_typeAssert_hasB Tryz.underlying172 (by kernel_rfl) _ x w, by
    simp only [if_true]
    intro w fp σ b fb bs h hb hd hl
    obtain ⟨v, fpc, hp, hown, hR, n1, n2, n3, hfp, hB⟩ := h
    obtain ⟨a, c, rfl⟩ := ownsRow_shape hown
    exact Invokes.of1 (nulls_m_val p w _ _ (by rw [cell_of_row _ _ _ _ _ _ hp]; rfl) (by rw [cell_of_row _ _ _ _ _ _ hp]; rfl) _ _ (.inr (.inr rfl))) Tryz.call187
      (nul_state sp w fpc _ hR _ ⟨_, _, _, rfl⟩ b fb bs hb (fun k hk => hd k ((hfp k).2 (.inr (.inr hk)))) hl)⟩
  encode := by
    intro w fp σ b fb bs h hw hb hd hl
    obtain ⟨v, fpc, hp, hown, hR, n1, n2, n3, hfp, hB⟩ := h
    obtain ⟨a, c, rfl⟩ := ownsRow_shape hown
    exact Invokes.of1 (nulls_m_val p w _ _ (by rw [cell_of_row _ _ _ _ _ _ hp]; rfl) (by rw [cell_of_row _ _ _ _ _ _ hp]; rfl) _ _ (.inr (.inl rfl))) Tryz.call186
      (nul_encode sp w fpc σ hR _ hown b fb bs hb (fun k hk => hd k ((hfp k).2 (.inr (.inr hk)))) (fun k hk => hd k ((hfp k).2 (.inr (.inl hk)))) hw hl)
end Go.Proofs.YtcidlnjpabgioaaGreatDoor
