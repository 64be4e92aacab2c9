import Derived.Test.YtcidlnjpabgioaaGreatDoorQLTup
import Derived.Test.YtcidlnjpabgioaaGreatDoorQGRow
import Derived.Test.YtcidlnjpabgioaaGreatDoorQJoinTp
namespace Go.Proofs.YtcidlnjpabgioaaGreatDoor
open Go.ChangeShapes Go.WideShapes Go.ChangeAt Go.RowKit
set_option maxRecDepth 100000 in
theorem tuples_lifted (os : Os) (started : os.Started) (H : Type) (enc : TypeId × Value → H) :
 ReturnsInHanded {} Tryz.checked os 6 .any (fun w args => (Rows.fnLOTuplesSpec.pre enc Tryz.prog Tryz.f6 [] false w args ∧ laidMetH Tryz.prog listed w) ∧ sizedMet enc Tryz.prog Tryz.f6 (OpenSpec.ofChange Rows.fnLOTuplesSpec) false w args)
  (Rows.fnLOTuplesSpec.post enc Tryz.prog Tryz.f6 false true false false) := by
 refine returnsInHanded_of_change_and (C := Tryz.checked) (X := fun w _ => laidMetH Tryz.prog listed w) (fun _ _ _ hh h => h.of_heap hh) own_knob started (by kernel_rfl) Tryz.func6
  (ChangeSpec.witness_shaped (enc := enc) (C := Tryz.checked) (os := os) (X := fun w _ => laidMetH Tryz.prog listed w) false (laidWorld os) #[.slice none 0 0, .int .u8 0, .int .u8 0] 8 (laidWorld_os os)
   (laid_shaped os) (by kernel_rfl) (by kernel_rfl) (by kernel_rfl) (laid_met os _)) ?_
 intro W base args ds gs before hval0 hW _ _ hL _
 have hval : ∀ (j : Nat) t v, Tryz.f6.params[j]? = some t → args[j]? = some v → Value.okWide Tryz.prog W .any base t v := hval0
 have hW' := hW
 obtain ⟨p, q, hA0, hV0, rfl, _, _⟩ := hW
 have hA : DataW.TrodAll enc Tryz.prog W 0 (fun _ => true) true Tryz.f6.params.toList args.toList ds p := hA0
 have hV : DataW.TrodVars enc Tryz.prog W (fun _ => true) ["given.example/pub-bradawl/impl.kindNames"] gs q := hV0
 have hlt : ∀ x ∈ p ++ q, x.block < W.heap.size := fun x hx => hW'.lt x hx
 rw [Tryz.params6] at hA hval
 obtain ⟨v0, v1, v2, d0, d1, d2, p0, p1, p2, rfl, rfl, rfl, h0, h1, h2⟩ := trodAll_three hA
 obtain ⟨n, hcode⟩ := code_of (hval 0 _ v0 rfl rfl) h0
 obtain ⟨x, rfl, rfl, rfl, wx⟩ := open_int Tryz.underlying5 (hval 1 _ v1 rfl rfl) h1
 obtain ⟨y, rfl, rfl, rfl, wy⟩ := open_int Tryz.underlying5 (hval 2 _ v2 rfl rfl) h2
 have hx : 0 ≤ x ∧ x < 256 := by
  have := wx
  simp only [Lit.wf, Bool.and_eq_true, decide_eq_true_eq] at this
  simp [IntKind.min, IntKind.max, IntKind.signed, IntKind.bits] at this
  omega
 have hy : 0 ≤ y ∧ y < 256 := by
  have := wy
  simp only [Lit.wf, Bool.and_eq_true, decide_eq_true_eq] at this
  simp [IntKind.min, IntKind.max, IntKind.signed, IntKind.bits] at this
  omega
 obtain ⟨m, rfl⟩ : ∃ m : Nat, x = m := ⟨x.toNat, by omega⟩
 obtain ⟨r, rfl⟩ : ∃ m : Nat, y = m := ⟨y.toNat, by omega⟩
 have htab := tabs_of hL
 refine (tuples_walk W htab v0 n hcode m (by omega) r (by omega)).mono fun e W' ⟨he, hf⟩ => ?_
 subst he
 have hb := hf.below (Nat.le_refl _) (fun _ _ h => h)
 obtain ⟨g, _, _, _, d, _, rfl, _⟩ := trodVars_one hV
 exact ⟨_, rfl, _, _, _, [], p0 ++ [] ++ [], q, hW', trodAll_mk1 (shut_bool Tryz.underlying4 _),
  (by rw [List.append_assoc]; exact trodAll_mk3 (WideElems.Trod_stays laid_out code_reads code_row h0 (fun x hx => hb.same (hlt x (by simp [hx]))) (fun x hx => by simpa using hlt x (by simp [hx]))) (shut_int Tryz.underlying5 wx) (shut_int Tryz.underlying5 wy)),
  kind_stays hV (fun x hx => hlt x (by simp [hx])) hb, hb.frame _, fun h => by cases h⟩
theorem tuples_holds : Rows.FnLOTuplesSaid :=
 OpenClaim.holds_of_wide 6 Tryz.f6 rfl rfl rfl rfl rfl rfl rfl ⟨rfl, rfl, rfl, rfl, rfl⟩ rfl rfl rfl rfl rfl tuples_named Tryz.func6 tuples_joined
  tuples_instance tuples_wrapper (fun os started H enc _ => tuples_lifted os started H enc)
end Go.Proofs.YtcidlnjpabgioaaGreatDoor
