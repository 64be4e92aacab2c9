import Derived.Test.YtcidlnjpabgioaaGreatDoorQLArr
import Derived.Test.YtcidlnjpabgioaaGreatDoorQGRow
import Derived.Test.YtcidlnjpabgioaaGreatDoorQJoinArr
namespace Go.Proofs.YtcidlnjpabgioaaGreatDoor
open Go.ChangeShapes Go.WideShapes Go.ChangeAt Go.RowKit
set_option maxRecDepth 100000 in
theorem arrays_lifted (os : Os) (started : os.Started) (H : Type) (enc : TypeId × Value → H) :
 ReturnsInHanded {} Tryz.checked os 3 .any (fun w args => (Rows.fnLOArraysSpec.pre enc Tryz.prog Tryz.f3 [] false w args ∧ laidMetH Tryz.prog listed w) ∧ sizedMet enc Tryz.prog Tryz.f3 (OpenSpec.ofChange Rows.fnLOArraysSpec) false w args)
  (Rows.fnLOArraysSpec.post enc Tryz.prog Tryz.f3 false true false false) := by
 refine returnsInHanded_of_change_and (C := Tryz.checked) (X := fun w _ => laidMetH Tryz.prog listed w) (fun _ _ _ hh h => h.of_heap hh) own_knob started (by kernel_rfl) Tryz.func3
  (ChangeSpec.witness_shaped (enc := enc) (C := Tryz.checked) (os := os) (X := fun w _ => laidMetH Tryz.prog listed w) false (laidWorld os) #[.slice none 0 0, .int .u8 0] 8 (laidWorld_os os)
   (laid_shaped os) (by kernel_rfl) (by kernel_rfl) (by kernel_rfl) (laid_met os _)) ?_
 intro W base args ds gs before hval0 hW _ _ hL _
 have hval : ∀ (j : Nat) t v, Tryz.f3.params[j]? = some t → args[j]? = some v → Value.okWide Tryz.prog W .any base t v := hval0
 have hW' := hW
 obtain ⟨p, q, hA0, hV0, rfl, _, _⟩ := hW
 have hA : DataW.TrodAll enc Tryz.prog W 0 (fun _ => true) true Tryz.f3.params.toList args.toList ds p := hA0
 have hV : DataW.TrodVars enc Tryz.prog W (fun _ => true) ["given.example/pub-bradawl/impl.kindNames"] gs q := hV0
 have hlt : ∀ x ∈ p ++ q, x.block < W.heap.size := fun x hx => hW'.lt x hx
 rw [Tryz.params3] at hA hval
 obtain ⟨v0, v1, d0, d1, p0, p1, rfl, rfl, rfl, h0, h1⟩ := trodAll_two hA
 obtain ⟨n, hcode⟩ := code_of (hval 0 _ v0 rfl rfl) h0
 obtain ⟨x, rfl, rfl, rfl, wx⟩ := open_int Tryz.underlying5 (hval 1 _ v1 rfl rfl) h1
 have hx : 0 ≤ x ∧ x < 256 := by
  have := wx
  simp only [Lit.wf, Bool.and_eq_true, decide_eq_true_eq] at this
  simp [IntKind.min, IntKind.max, IntKind.signed, IntKind.bits] at this
  omega
 obtain ⟨m, rfl⟩ : ∃ m : Nat, x = m := ⟨x.toNat, by omega⟩
 have htab := tabs_of hL
 refine (arrays_walk W htab v0 n hcode m (by omega)).mono fun e W' ⟨he, hf⟩ => ?_
 subst he
 have hb := hf.below (Nat.le_refl _) (fun _ _ h => h)
 obtain ⟨g, _, _, _, d, _, rfl, _⟩ := trodVars_one hV
 exact ⟨_, rfl, _, _, _, [], p0 ++ [], q, hW', trodAll_mk1 (shut_bool Tryz.underlying4 _),
  trodAll_mk2 (WideElems.Trod_stays laid_out code_reads code_row h0 (fun x hx => hb.same (hlt x (by simp [hx]))) (fun x hx => by simpa using hlt x (by simp [hx]))) (shut_int Tryz.underlying5 wx),
  kind_stays hV (fun x hx => hlt x (by simp [hx])) hb, hb.frame _, fun h => by cases h⟩
theorem arrays_holds : Rows.FnLOArraysSaid :=
 OpenClaim.holds_of_wide 3 Tryz.f3 rfl rfl rfl rfl rfl rfl rfl ⟨rfl, rfl, rfl, rfl, rfl⟩ rfl rfl rfl rfl rfl arrays_named Tryz.func3 arrays_joined
  arrays_instance arrays_wrapper (fun os started H enc _ => arrays_lifted os started H enc)
end Go.Proofs.YtcidlnjpabgioaaGreatDoor
