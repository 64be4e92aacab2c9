import Derived.Test.YtcidlnjpabgioaaGreatDoorWLMap
import Derived.Test.YtcidlnjpabgioaaGreatDoorWGRow
import Derived.Test.YtcidlnjpabgioaaGreatDoorWJoinMp
set_option maxRecDepth 100000
namespace Go.Proofs.YtcidlnjpabgioaaGreatDoor
open Go.ChangeShapes Go.WideShapes Go.ChangeAt Go.RowKit
theorem aCr (os : Os) (started : os.Started) (H : Type) (enc : TypeId × Value → H) :
 ReturnsInHanded {} Tryz.checked os 4 .any (fun w args => (Rows.fnLOMapsSpec.pre enc Tryz.prog Tryz.f4 [] false w args ∧ laidMetH Tryz.prog listed w) ∧ sizedMet enc Tryz.prog Tryz.f4 (OpenSpec.ofChange Rows.fnLOMapsSpec) false w args)
  (Rows.fnLOMapsSpec.post enc Tryz.prog Tryz.f4 false true false false) := by
 refine returnsInHanded_of_change_and (C := Tryz.checked) (X := fun w _ => laidMetH Tryz.prog listed w) (fun _ _ _ hh h => h.of_heap hh) aHe started (by kernel_rfl) Tryz.func4
  (ChangeSpec.witness_shaped (enc := enc) (C := Tryz.checked) (os := os) (X := fun w _ => laidMetH Tryz.prog listed w) false (laidWorld os) #[.slice none 0 0, .int .u8 0] 8 (aBo os)
   (aCM os) (by kernel_rfl) (by kernel_rfl) (by kernel_rfl) (laid_met os _)) ?_
 intro W base args ds gs before hval0 hW _ _ hL _
 have hval : ∀ (j : Nat) t v, Tryz.f4.params[j]? = some t → args[j]? = some v → Value.okWide Tryz.prog W .any base t v := hval0
 have hW' := hW
 obtain ⟨p, q, hA0, hV0, rfl, _, _⟩ := hW
 have hA : DataW.TrodAll enc Tryz.prog W 0 (fun _ => true) true Tryz.f4.params.toList args.toList ds p := hA0
 have hV : DataW.TrodVars enc Tryz.prog W (fun _ => true) ["given.example/pub-bradawl/impl.kindNames"] gs q := hV0
 have hlt : ∀ x ∈ p ++ q, x.block < W.heap.size := fun x hx => hW'.lt x hx
 rw [Tryz.params4] at hA hval
 obtain ⟨v0, v1, d0, d1, p0, p1, rfl, rfl, rfl, h0, h1⟩ := trodAll_two hA
 obtain ⟨n, hcode⟩ := aKc (hval 0 _ v0 rfl rfl) h0
 obtain ⟨x, rfl, rfl, rfl, wx⟩ := open_int Tryz.underlying5 (hval 1 _ v1 rfl rfl) h1
 have hx : 0 ≤ x ∧ x < 256 := by
  have := wx
  simp only [Lit.wf, Bool.and_eq_true, decide_eq_true_eq] at this
  simp [IntKind.min, IntKind.max, IntKind.signed, IntKind.bits] at this
  omega
 obtain ⟨m, rfl⟩ : ∃ m : Nat, x = m := ⟨x.toNat, by omega⟩
 have htab := aJK hL
 refine (aFT W htab v0 n hcode m (by omega)).mono fun e W' ⟨he, hf⟩ => ?_
 subst he
 have hb := hf.below (Nat.le_refl _) (fun _ _ h => h)
 obtain ⟨g, _, _, _, d, _, rfl, _⟩ := trodVars_one hV
 exact ⟨_, rfl, _, _, _, [], p0 ++ [], q, hW', trodAll_mk1 (shut_bool Tryz.underlying4 _),
  trodAll_mk2 (WideElems.Trod_stays oM aEN aIf h0 (fun x hx => hb.same (hlt x (by simp [hx]))) (fun x hx => by simpa using hlt x (by simp [hx]))) (shut_int Tryz.underlying5 wx),
  aDZ hV (fun x hx => hlt x (by simp [hx])) hb, hb.frame _, fun h => by cases h⟩
theorem aDi : Rows.FnLOMapsSaid :=
 OpenClaim.holds_of_wide 4 Tryz.f4 rfl rfl rfl rfl rfl rfl rfl ⟨rfl, rfl, rfl, rfl, rfl⟩ rfl rfl rfl rfl rfl nJ Tryz.func4 aBH
  zF aAw (fun os started H enc _ => aCr os started H enc)
end Go.Proofs.YtcidlnjpabgioaaGreatDoor
