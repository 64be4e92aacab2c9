import Derived.Test.YtcidlnjpabgioaaGreatDoorUGWl
import Derived.Test.YtcidlnjpabgioaaGreatDoorUGRow
import Derived.Test.YtcidlnjpabgioaaGreatDoorUJoinWri
set_option maxRecDepth 100000
namespace Go.Proofs.YtcidlnjpabgioaaGreatDoor
open _root_.Go.Proofs.Tryz List Go.ChangeShapes Go.WideShapes Go.ChangeAt Go.RowKit
theorem aAR (os:Os) (started:os.Started) (H:Type) (enc:TypeId × Value→H) :
 ReturnsInHanded {} Tryz.checked os 7 .any (fun w args=>(Rows.fnLOWritesSpec.pre enc Tryz.prog Tryz.f7 [] false w args∧laidMetH Tryz.prog listed w)∧sizedMet enc Tryz.prog Tryz.f7 (OpenSpec.ofChange Rows.fnLOWritesSpec) false w args)
  (Rows.fnLOWritesSpec.post enc Tryz.prog Tryz.f7 false true false false):=by
 refine returnsInHanded_of_change_and (C:=Tryz.checked) (X:=fun w _=>laidMetH Tryz.prog listed w) (fun _ _ _ hh h=>h.of_heap hh) aLX started (by kernel_rfl) func7
  (ChangeSpec.witness_shaped (enc:=enc) (C:=Tryz.checked) (os:=os) (X:=fun w _=>laidMetH Tryz.prog listed w) false (laidWorld os) #[.slice none 0 0,.int .u8 0] 8 (aCa os)
   (aDt os) (by kernel_rfl) (by kernel_rfl) (by kernel_rfl) (laid_met os _)) ?_
 intro W base args ds gs before UG hW _ _ hL _;have G9:∀ (j:Nat) t v,Tryz.f7.params[j]?=some t→args[j]?=some v→Value.okWide Tryz.prog W .any base t v:=UG;have Ye:=hW;obtain ⟨p,q,Zt,ZG,rfl,_,_⟩:=hW;have hA:DataW.TrodAll enc Tryz.prog W 0 (fun _=>true) true Tryz.f7.params.toList args.toList ds p:=Zt;have hV:DataW.TrodVars enc Tryz.prog W (fun _=>true) ["given.example/pub-bradawl/impl.kindNames"] gs q:=ZG;have Ar:∀ x∈p++q,x.block<W.heap.size:=fun x hx=>Ye.lt x hx
 rw[Tryz.params7] at hA G9;obtain ⟨v0,v1,d0,d1,p0,p1,rfl,rfl,rfl,h0,h1⟩:=trodAll_two hA;obtain ⟨n,Bc⟩:=aNB (G9 0 _ v0 rfl rfl) h0;obtain ⟨x,rfl,rfl,rfl,wx⟩:=open_int underlying5 (G9 1 _ v1 rfl rfl) h1
 have hx:0≤x∧x<256:=by
  have:=wx;simp only[Lit.wf,Bool.and_eq_true,decide_eq_true_eq] at this;simp[IntKind.min,IntKind.max,IntKind.signed,IntKind.bits] at this;omega
 obtain ⟨m,rfl⟩:∃ m:Nat,x=m:=⟨x.toNat,by omega⟩;have Dk:=aOj hL
 refine (aEr W Dk v0 n Bc m (by omega)).mono fun e W' ⟨he,hf⟩=>?_
 subst he;have hb:=hf.below (Nat.le_refl _) (fun _ _ h=>h);obtain ⟨g,_,_,_,d,_,rfl,_⟩:=trodVars_one hV
 exact ⟨_,rfl,_,_,_,[],p0++[],q,Ye,trodAll_mk1 (shut_bool underlying4 _),
  trodAll_mk2 (WideElems.Trod_stays rE aEI aKn h0 (fun x hx=>hb.same (Ar x (by simp[hx]))) (fun x hx=>by simpa using Ar x (by simp[hx]))) (shut_int underlying5 wx),
  aFA hV (fun x hx=>Ar x (by simp[hx])) hb,hb.frame _,fun h=>by cases h⟩
theorem aCE:Rows.FnLOWritesSaid :=
 OpenClaim.holds_of_wide 7 Tryz.f7 rfl rfl rfl rfl rfl rfl rfl ⟨rfl,rfl,rfl,rfl,rfl⟩ rfl rfl rfl rfl rfl mM func7 aAQ
  xB aAe (fun os started H enc _=>aAR os started H enc)
end Go.Proofs.YtcidlnjpabgioaaGreatDoor
