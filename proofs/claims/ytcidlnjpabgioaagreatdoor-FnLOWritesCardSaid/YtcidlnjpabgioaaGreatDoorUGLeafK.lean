import Derived.Test.YtcidlnjpabgioaaGreatDoorUGKa
import Derived.Test.YtcidlnjpabgioaaGreatDoorUGKb
import Derived.Test.YtcidlnjpabgioaaGreatDoorUGIp6
import Derived.Test.YtcidlnjpabgioaaGreatDoorUGTreeN
import Derived.Test.YtcidlnjpabgioaaGreatDoorUGLowB
import Derived.Test.YtcidlnjpabgioaaGreatDoorUGTup
import Derived.Test.YtcidlnjpabgioaaGreatDoorUGCellB
namespace Go.Proofs.YtcidlnjpabgioaaGreatDoor
open Tryz List Go.RowKit
theorem aLZ (w:World) (hk:fB w) (nm:ByteArray) (hl:nm.toList=Num.i8.name):Calls Tryz.prog 36 #[.string nm,.slice none 0 0] w (dH (.num .i8) [] w):=by
 refine fP w hk Num.i8.name nm hl (by decide) (by decide) 1 (by decide) (by decide) (fun K h1 h2=>(by decide:∀ K,K<1→1≤K→¬ kinds.getD K []=Num.i8.name) K h2 h1) rfl (dH (.num .i8) [] w) ((aIt w).mono ?_) dH.ret;rintro e w1 ⟨rfl,rfl⟩
 refine ⟨_,_,rfl,aF.of0 (aFl _ _) call328 ((aNO _ w.heap.size w.heap.size (Nat.le_refl _) (heap_alloc_new w _)).mono ?_)⟩;rintro e w2 ⟨nb,fp,rfl,hR,hf⟩
 exact ⟨_,_,_,_,fp,rfl,⟨aNR _ _ _,(aLa _ _).col⟩,hR,((Below.refl _ w).alloc (Nat.le_refl _) _).trans (hf.below (by simp) (fun _ _ h=>h))⟩
theorem aIY (w:World) (hk:fB w) (nm:ByteArray) (hl:nm.toList=Num.i16.name):Calls Tryz.prog 36 #[.string nm,.slice none 0 0] w (dH (.num .i16) [] w):=by
 refine fP w hk Num.i16.name nm hl (by decide) (by decide) 2 (by decide) (by decide) (fun K h1 h2=>(by decide:∀ K,K<2→1≤K→¬ kinds.getD K []=Num.i16.name) K h2 h1) rfl (dH (.num .i16) [] w) ((aEW w).mono ?_) dH.ret;rintro e w1 ⟨rfl,rfl⟩
 refine ⟨_,_,rfl,aF.of0 (aDb _ _) call343 ((aKG _ w.heap.size w.heap.size (Nat.le_refl _) (heap_alloc_new w _)).mono ?_)⟩;rintro e w2 ⟨nb,fp,rfl,hR,hf⟩
 exact ⟨_,_,_,_,fp,rfl,⟨aKJ _ _ _,(aIg _ _).col⟩,hR,((Below.refl _ w).alloc (Nat.le_refl _) _).trans (hf.below (by simp) (fun _ _ h=>h))⟩
theorem aIZ (w:World) (hk:fB w) (nm:ByteArray) (hl:nm.toList=Num.i32.name):Calls Tryz.prog 36 #[.string nm,.slice none 0 0] w (dH (.num .i32) [] w):=by
 refine fP w hk Num.i32.name nm hl (by decide) (by decide) 3 (by decide) (by decide) (fun K h1 h2=>(by decide:∀ K,K<3→1≤K→¬ kinds.getD K []=Num.i32.name) K h2 h1) rfl (dH (.num .i32) [] w) ((aFb w).mono ?_) dH.ret;rintro e w1 ⟨rfl,rfl⟩
 refine ⟨_,_,rfl,aF.of0 (aDd _ _) call358 ((aKO _ w.heap.size w.heap.size (Nat.le_refl _) (heap_alloc_new w _)).mono ?_)⟩;rintro e w2 ⟨nb,fp,rfl,hR,hf⟩
 exact ⟨_,_,_,_,fp,rfl,⟨aKR _ _ _,(aIk _ _).col⟩,hR,((Below.refl _ w).alloc (Nat.le_refl _) _).trans (hf.below (by simp) (fun _ _ h=>h))⟩
theorem aJa (w:World) (hk:fB w) (nm:ByteArray) (hl:nm.toList=Num.i64.name):Calls Tryz.prog 36 #[.string nm,.slice none 0 0] w (dH (.num .i64) [] w):=by
 refine fP w hk Num.i64.name nm hl (by decide) (by decide) 4 (by decide) (by decide) (fun K h1 h2=>(by decide:∀ K,K<4→1≤K→¬ kinds.getD K []=Num.i64.name) K h2 h1) rfl (dH (.num .i64) [] w) ((aFg w).mono ?_) dH.ret;rintro e w1 ⟨rfl,rfl⟩
 refine ⟨_,_,rfl,aF.of0 (aDf _ _) call373 ((aKW _ w.heap.size w.heap.size (Nat.le_refl _) (heap_alloc_new w _)).mono ?_)⟩;rintro e w2 ⟨nb,fp,rfl,hR,hf⟩
 exact ⟨_,_,_,_,fp,rfl,⟨aKZ _ _ _,(aIo _ _).col⟩,hR,((Below.refl _ w).alloc (Nat.le_refl _) _).trans (hf.below (by simp) (fun _ _ h=>h))⟩
theorem aGb (w:World) (hk:fB w) (nm:ByteArray) (hl:nm.toList=Num.i128.name):Calls Tryz.prog 36 #[.string nm,.slice none 0 0] w (dH (.num .i128) [] w):=by
 refine fP w hk Num.i128.name nm hl (by decide) (by decide) 5 (by decide) (by decide) (fun K h1 h2=>(by decide:∀ K,K<5→1≤K→¬ kinds.getD K []=Num.i128.name) K h2 h1) rfl (dH (.num .i128) [] w) ((aCW w).mono ?_) dH.ret;rintro e w1 ⟨rfl,rfl⟩
 refine ⟨_,_,rfl,aF.of0 (aBO _ _) call391 ((aIc _ w.heap.size w.heap.size (Nat.le_refl _) (heap_alloc_new w _)).mono ?_)⟩;rintro e w2 ⟨nb,fp,rfl,hR,hf⟩
 exact ⟨_,_,_,_,fp,rfl,⟨aIf _ _ _,(aER _ _).col⟩,hR,((Below.refl _ w).alloc (Nat.le_refl _) _).trans (hf.below (by simp) (fun _ _ h=>h))⟩
theorem aMa (w:World) (hk:fB w) (nm:ByteArray) (hl:nm.toList=Num.u8.name):Calls Tryz.prog 36 #[.string nm,.slice none 0 0] w (dH (.num .u8) [] w):=by
 refine fP w hk Num.u8.name nm hl (by decide) (by decide) 7 (by decide) (by decide) (fun K h1 h2=>(by decide:∀ K,K<7→1≤K→¬ kinds.getD K []=Num.u8.name) K h2 h1) rfl (dH (.num .u8) [] w) ((aJU w).mono ?_) dH.ret;rintro e w1 ⟨rfl,rfl⟩
 refine ⟨_,_,rfl,aF.of0 (aGV _ _) call415 ((aOu _ w.heap.size w.heap.size (Nat.le_refl _) (heap_alloc_new w _)).mono ?_)⟩;rintro e w2 ⟨nb,fp,rfl,hR,hf⟩
 exact ⟨_,_,_,_,fp,rfl,⟨aOw _ _ _,(aNl _ _).col⟩,hR,((Below.refl _ w).alloc (Nat.le_refl _) _).trans (hf.below (by simp) (fun _ _ h=>h))⟩
theorem aJe (w:World) (hk:fB w) (nm:ByteArray) (hl:nm.toList=Num.u16.name):Calls Tryz.prog 36 #[.string nm,.slice none 0 0] w (dH (.num .u16) [] w):=by
 refine fP w hk Num.u16.name nm hl (by decide) (by decide) 8 (by decide) (by decide) (fun K h1 h2=>(by decide:∀ K,K<8→1≤K→¬ kinds.getD K []=Num.u16.name) K h2 h1) rfl (dH (.num .u16) [] w) ((aGy w).mono ?_) dH.ret;rintro e w1 ⟨rfl,rfl⟩
 refine ⟨_,_,rfl,aF.of0 (aDY _ _) call425 ((aML _ w.heap.size w.heap.size (Nat.le_refl _) (heap_alloc_new w _)).mono ?_)⟩;rintro e w2 ⟨nb,fp,rfl,hR,hf⟩
 exact ⟨_,_,_,_,fp,rfl,⟨aMO _ _ _,(aJB _ _).col⟩,hR,((Below.refl _ w).alloc (Nat.le_refl _) _).trans (hf.below (by simp) (fun _ _ h=>h))⟩
theorem aJf (w:World) (hk:fB w) (nm:ByteArray) (hl:nm.toList=Num.u32.name):Calls Tryz.prog 36 #[.string nm,.slice none 0 0] w (dH (.num .u32) [] w):=by
 refine fP w hk Num.u32.name nm hl (by decide) (by decide) 9 (by decide) (by decide) (fun K h1 h2=>(by decide:∀ K,K<9→1≤K→¬ kinds.getD K []=Num.u32.name) K h2 h1) rfl (dH (.num .u32) [] w) ((aGI w).mono ?_) dH.ret;rintro e w1 ⟨rfl,rfl⟩
 refine ⟨_,_,rfl,aF.of0 (aEf _ _) call435 ((aMY _ w.heap.size w.heap.size (Nat.le_refl _) (heap_alloc_new w _)).mono ?_)⟩;rintro e w2 ⟨nb,fp,rfl,hR,hf⟩
 exact ⟨_,_,_,_,fp,rfl,⟨aNb _ _ _,(aJM _ _).col⟩,hR,((Below.refl _ w).alloc (Nat.le_refl _) _).trans (hf.below (by simp) (fun _ _ h=>h))⟩
theorem aJg (w:World) (hk:fB w) (nm:ByteArray) (hl:nm.toList=Num.u64.name):Calls Tryz.prog 36 #[.string nm,.slice none 0 0] w (dH (.num .u64) [] w):=by
 refine fP w hk Num.u64.name nm hl (by decide) (by decide) 10 (by decide) (by decide) (fun K h1 h2=>(by decide:∀ K,K<10→1≤K→¬ kinds.getD K []=Num.u64.name) K h2 h1) rfl (dH (.num .u64) [] w) ((aGQ w).mono ?_) dH.ret;rintro e w1 ⟨rfl,rfl⟩
 refine ⟨_,_,rfl,aF.of0 (aEh _ _) call443 ((aNf _ w.heap.size w.heap.size (Nat.le_refl _) (heap_alloc_new w _)).mono ?_)⟩;rintro e w2 ⟨nb,fp,rfl,hR,hf⟩
 exact ⟨_,_,_,_,fp,rfl,⟨aNh _ _ _,(aJQ _ _).col⟩,hR,((Below.refl _ w).alloc (Nat.le_refl _) _).trans (hf.below (by simp) (fun _ _ h=>h))⟩
theorem aGd (w:World) (hk:fB w) (nm:ByteArray) (hl:nm.toList=Num.u256.name):Calls Tryz.prog 36 #[.string nm,.slice none 0 0] w (dH (.num .u256) [] w):=by
 refine fP w hk Num.u256.name nm hl (by decide) (by decide) 12 (by decide) (by decide) (fun K h1 h2=>(by decide:∀ K,K<12→1≤K→¬ kinds.getD K []=Num.u256.name) K h2 h1) rfl (dH (.num .u256) [] w) ((aEa w).mono ?_) dH.ret;rintro e w1 ⟨rfl,rfl⟩
 refine ⟨_,_,rfl,aF.of0 (aCx _ _) call475 ((aJI _ w.heap.size w.heap.size (Nat.le_refl _) (heap_alloc_new w _)).mono ?_)⟩;rintro e w2 ⟨nb,fp,rfl,hR,hf⟩
 exact ⟨_,_,_,_,fp,rfl,⟨aJL _ _ _,(aGD _ _).col⟩,hR,((Below.refl _ w).alloc (Nat.le_refl _) _).trans (hf.below (by simp) (fun _ _ h=>h))⟩
theorem aJb (w:World) (hk:fB w) (nm:ByteArray) (hl:nm.toList=Num.ip4.name):Calls Tryz.prog 36 #[.string nm,.slice none 0 0] w (dH (.num .ip4) [] w):=by
 refine fP w hk Num.ip4.name nm hl (by decide) (by decide) 17 (by decide) (by decide) (fun K h1 h2=>(by decide:∀ K,K<17→1≤K→¬ kinds.getD K []=Num.ip4.name) K h2 h1) rfl (dH (.num .ip4) [] w) ((aFn w).mono ?_) dH.ret;rintro e w1 ⟨rfl,rfl⟩
 refine ⟨_,_,rfl,aF.of0 (aDk _ _) call547 ((aLl _ w.heap.size w.heap.size (Nat.le_refl _) (heap_alloc_new w _)).mono ?_)⟩;rintro e w2 ⟨nb,fp,rfl,hR,hf⟩
 exact ⟨_,_,_,_,fp,rfl,⟨aLo _ _ _,(aIx _ _).col⟩,hR,((Below.refl _ w).alloc (Nat.le_refl _) _).trans (hf.below (by simp) (fun _ _ h=>h))⟩
theorem aJc (w:World) (hk:fB w) (nm:ByteArray) (hl:nm.toList=Num.ip6.name):Calls Tryz.prog 36 #[.string nm,.slice none 0 0] w (dH (.num .ip6) [] w):=by
 refine fP w hk Num.ip6.name nm hl (by decide) (by decide) 18 (by decide) (by decide) (fun K h1 h2=>(by decide:∀ K,K<18→1≤K→¬ kinds.getD K []=Num.ip6.name) K h2 h1) rfl (dH (.num .ip6) [] w) ((aFs w).mono ?_) dH.ret;rintro e w1 ⟨rfl,rfl⟩
 refine ⟨_,_,rfl,aF.of0 (aDm _ _) call563 ((aLu _ w.heap.size w.heap.size (Nat.le_refl _) (heap_alloc_new w _)).mono ?_)⟩;rintro e w2 ⟨nb,fp,rfl,hR,hf⟩
 exact ⟨_,_,_,_,fp,rfl,⟨aLx _ _ _,(aIC _ _).col⟩,hR,((Below.refl _ w).alloc (Nat.le_refl _) _).trans (hf.below (by simp) (fun _ _ h=>h))⟩
theorem aGc (k:Num) (w:World) (hk:fB w) (nm:ByteArray) (hl:nm.toList=k.name):Calls Tryz.prog 36 #[.string nm,.slice none 0 0] w (dH (.num k) [] w):=by
 cases k
 · exact aMa w hk nm hl
 · exact aIY w hk nm hl
 · exact aJf w hk nm hl
 · exact aJa w hk nm hl
 · exact aJg w hk nm hl
 · exact aGb w hk nm hl
 · exact aGd w hk nm hl
 · exact aJb w hk nm hl
 · exact aJc w hk nm hl
 · exact aLZ w hk nm hl
 · exact aJe w hk nm hl
 · exact aIZ w hk nm hl
def Ok:Nat→Ty→Prop
 | 0,T=>T.dU∨(∃ t,T=.nul t∧t.dU)∨T=.low
 | d+1,T=>(T.dU∨(∃ t,T=.nul t∧t.dU)∨T=.low)∨(∃ t,T=.arr t∧Ok d t)∨(∃ k v,T=.map k v∧(k.dU∨k=.low)∧Ok d v)∨∃ ts,T=.tup ts∧ts≠[]∧ts.length≤4∧∀ t∈ts,Ok d t
theorem yH (T:Ty) (hT:T.dU):iE T:=by
 cases T with
 | num k=>exact aMy k fun w hk nm hl=>aGc k w hk nm hl
 | str=>exact aMz
 | fix n=>exact aMu n hT
 | _=>exact hT.elim
theorem uD:∀ (ts:List Ty),(∀ t∈ts,t.fine)→oM ts
 | [],_=>trivial
 | t :: ts,h=>⟨h t (by simp),uD ts fun x hx=>h x (by simp[hx])⟩
theorem lC {T:Ty} (hT:T.dU):T.fine:=by
 cases T with
 | num k=>trivial
 | str=>trivial
 | fix n=>trivial
 | _=>exact hT.elim
theorem nG {T:Ty} (hT:T.dU):(text T).length≤16:=by
 cases T with
 | num k=>cases k<;>decide
 | str=>decide
 | fix n =>
  have hd:(digits n).length≤2:=by
   rcases hT with rfl|rfl
   · rw[aCS];decide
   · rw[aAX];decide
  rw[text];simp;omega
 | _=>exact hT.elim
theorem aDv {T:Ty} (hT:T.dU):st T=[]:=by
 cases T with
 | num k=>rfl
 | str=>rfl
 | fix n=>rfl
 | _=>exact hT.elim
theorem uT:∀ (ts:List Ty) (m:Nat),(∀ t∈ts,(text t).length≤m)→(texts ts).length≤ts.length*(m+2)
 | [],m,_=>by simp[texts]
 | [t],m,h=>by
  have:=h t (by simp);rw[texts];simp;omega
 | t :: t' :: ts,m,h=>by
  have h1:=h t (by simp);have h2:=uT (t' :: ts) m (fun x hx=>h x (by simp[hx]));have e:(t :: t' :: ts).length*(m+2)=(t' :: ts).length*(m+2)+(m+2):=by rw[length_cons,Nat.succ_mul]
  rw[texts,length_append,length_append,e];simp only[length_cons (a:=(44:UInt8)),length_singleton];omega
theorem aHy:∀ (ts:List Ty) (m:Nat),(∀ t∈ts,(st t).length≤m)→(sts ts).length≤ts.length*m
 | [],m,_=>by simp[sts]
 | t :: ts,m,h=>by
  have h1:=h t (by simp);have h2:=aHy ts m (fun x hx=>h x (by simp[hx]));rw[sts,length_append,length_cons,Nat.add_mul];omega
structure aNy (d:Nat) (T:Ty):Prop where
 fine:T.fine
 text:(text T).length≤60*5 ^ d
 st:(st T).length≤8*5 ^ d
theorem Ok.zero {T:Ty} (h:T.dU∨(∃ t,T=.nul t∧t.dU)∨T=.low):T.fine∧(text T).length≤30∧(st T).length≤8:=by
 rcases h with h|⟨t,rfl,h⟩|rfl
 · have:=nG h
   exact ⟨lC h,by omega,by rw[aDv h];simp⟩
 · have:=nG h
   refine ⟨show t.fine from lC h,?_,by rw[Go.Proofs.YtcidlnjpabgioaaGreatDoor.st,aDv h];simp⟩;rw[text];simp;omega
 · exact ⟨trivial,by decide,by decide⟩
theorem Ok.leaf {T:Ty} (h:T.dU):∀ d,Ok d T
 | 0=>.inl h
 | _+1=>.inl (.inl h)
theorem Ok.low:∀ d,Ok d .low
 | 0=>.inr (.inr rfl)
 | _+1=>.inl (.inr (.inr rfl))
theorem Ok.key {T:Ty} (h:T.dU∨T=.low) (d:Nat):Ok d T:=h.elim (fun h=>Ok.leaf h d) (fun h=>h▸Ok.low d)
theorem Ok.facts:∀ (d:Nat) (T:Ty),Ok d T→aNy d T
 | 0,T,h=>by
  obtain ⟨h1,h2,h3⟩:=Ok.zero h
  exact ⟨h1,by omega,by omega⟩
 | d+1,T,h=>by
  have hp:1≤5 ^ d:=Nat.one_le_pow _ _ (by decide);have qi:5 ^ (d+1)=5*5 ^ d:=by rw[Nat.pow_succ,Nat.mul_comm]
  rcases h with h|⟨t,rfl,h⟩|⟨k,v,rfl,hk,h⟩|⟨ts,rfl,h1,h2,h⟩
  · obtain ⟨h1,h2,h3⟩:=Ok.zero h
    exact ⟨h1,by omega,by omega⟩
  · obtain ⟨f1,f2,f3⟩:=Ok.facts d t h
    refine ⟨f1,?_,by rw[Go.Proofs.YtcidlnjpabgioaaGreatDoor.st];omega⟩;rw[Go.Proofs.YtcidlnjpabgioaaGreatDoor.text];simp;omega
  · obtain ⟨f1,f2,f3⟩:=Ok.facts d v h
    obtain ⟨g1,g2,g3⟩:=Ok.zero (T:=k) (hk.elim .inl (fun h=>.inr (.inr h)))
    refine ⟨⟨g1,f1⟩,?_,by rw[Go.Proofs.YtcidlnjpabgioaaGreatDoor.st,length_append];omega⟩;rw[Go.Proofs.YtcidlnjpabgioaaGreatDoor.text];simp;omega
  · have hf:=fun t ht=>Ok.facts d t (h t ht)
    have l1:=uT ts (60*5 ^ d) (fun t ht=>(hf t ht).text);have l2:=aHy ts (8*5 ^ d) (fun t ht=>(hf t ht).st);have l3:ts.length*(60*5 ^ d+2)≤4*(60*5 ^ d+2):=Nat.mul_le_mul_right _ h2;have l4:ts.length*(8*5 ^ d)≤4*(8*5 ^ d):=Nat.mul_le_mul_right _ h2
    refine ⟨⟨h1,uD ts fun t ht=>(hf t ht).fine⟩,?_,by rw[Go.Proofs.YtcidlnjpabgioaaGreatDoor.st];omega⟩;rw[Go.Proofs.YtcidlnjpabgioaaGreatDoor.text];simp;omega
theorem aNC {d:Nat} (h:d≤4):5 ^ d≤625:=Nat.le_trans (Nat.pow_le_pow_right (by decide) h) (by decide)
theorem Ok.small {d:Nat} {T:Ty} (h:Ok d T) (hd:d≤4):(Go.Proofs.YtcidlnjpabgioaaGreatDoor.text T).length≤37500∧(Go.Proofs.YtcidlnjpabgioaaGreatDoor.st T).length≤5000:=by
 have:=Ok.facts d T h;have h5:=aNC hd
 exact ⟨by have:=this.text;omega,by have:=this.st;omega⟩
theorem uU {T:Ty} (h:T.dU∨(∃ t,T=.nul t∧t.dU)∨T=.low):iE T:=by
 rcases h with h|⟨t,rfl,h⟩|rfl
 · exact yH T h
 · exact aMx t (yH t h) (fF t (lC h)) (by have:=nG h;omega)
 · exact aMv
theorem aLO {T:Ty} {c:Cell} (h:T.dU∨T=.low) (hm:Made T c):c.keyed=c:=by
 rcases h with h|rfl
 · cases T with
   | num k=>obtain ⟨_,_,_,_,rfl,_⟩:=hm;rfl
   | str=>obtain ⟨_,rfl⟩:=hm;rfl
   | fix n=>obtain ⟨_,rfl,_⟩:=hm;rfl
   | _=>exact h.elim
 · obtain ⟨_,rfl⟩:=hm;rfl
theorem sH:∀ (d:Nat) (T:Ty),d≤4→Ok d T→iE T
 | 0,_,_,h=>uU h
 | d+1,T,hd,h=>by
  rcases h with h|⟨t,rfl,h⟩|⟨k,v,rfl,hk,h⟩|⟨ts,rfl,h1,h2,h⟩
  · exact uU h
  · have hs:=Ok.small h (by omega)
    exact aMt t (sH d t (by omega) h) (fF t (Ok.facts d t h).fine) (by omega)
  · have hs:=Ok.small h (by omega)
    have J3:Ok 0 k:=Ok.key hk 0;have EG:=Ok.small J3 (by omega)
    exact aMw k v (fun c=>aLO hk) (uU (hk.elim .inl (fun h=>.inr (.inr h)))) (sH d v (by omega) h) (fF k (Ok.facts 0 k J3).fine) (fF v (Ok.facts d v h).fine) (by omega)
  · have hl:=uT ts 37500 (fun t ht=>(Ok.small (h t ht) (by omega)).1)
    have l3:ts.length*(37500+2)≤4*(37500+2):=Nat.mul_le_mul_right _ h2
    exact aMA ts h1 (by omega) (fun t ht=>sH d t (by omega) (h t ht)) (uD ts fun t ht=>(Ok.facts d t (h t ht)).fine) (by omega)
theorem uS {T:Ty} (h:T.dU∨(∃ t,T=.nul t∧t.dU)∨T=.low):tN T:=by
 rcases h with h|⟨t,rfl,h⟩|rfl
 · exact pO T h
 · exact jP _ (show t.fine from lC h) (by simp) (fun x hx=>by
    have:x=t:=by simpa [Ty.kids] using hx
    exact this▸pO t h)
 · exact jP _ trivial (by simp) (fun x hx=>by
    have:x=.str:=by simpa [Ty.kids] using hx
    exact this▸pO .str trivial)
theorem sF:∀ (d:Nat) (T:Ty),Ok d T→tN T
 | 0,_,h=>uS h
 | d+1,T,h=>by
  have LW:=(Ok.facts (d+1) T h).fine;rcases h with h|⟨t,rfl,h⟩|⟨k,v,rfl,hk,h⟩|⟨ts,rfl,h1,h2,h⟩
  · exact uS h
  · exact jP _ LW (by simp) (fun x hx=>by
     have:x=t:=by simpa [Ty.kids] using hx
     exact this▸sF d t h)
  · refine jP _ LW (by simp) (fun x hx=>?_)
    have hx:x=k∨x=v:=by simpa [Ty.kids] using hx
    rcases hx with rfl|rfl
    · exact uS (hk.elim .inl (fun h=>.inr (.inr h)))
    · exact sF d _ h
  · exact jP _ LW (by simp) (fun x hx=>sF d x (h x hx))
mutual
def LTS (S:Nat→Prop) (w:World):LT→List Value→Prop
 | .mk nm sz of,vs=>∃ ov ixs,vs=[.string (bJ nm),.int .i64 sz,ov]∧SlS S w 3 ov of.length ixs∧(of=[]→ov=.slice none 0 0)∧fH S w of ixs
def fH (S:Nat→Prop) (w:World):List LT→List Value→Prop
 | [],xs=>xs=[]
 | t :: ts,xs=>∃ vs rest,xs=vs++rest∧LTS S w t vs∧fH S w ts rest
end
mutual
theorem LTS.to {S S' F:Nat→Prop} {w w':World} (hf:Fr F w w') (hS:∀ q,S q→S' q∧¬ F q):∀ (t:LT) (vs:List Value),LTS S w t vs→LTS S' w' t vs
 | .mk nm sz of,vs=>by
  unfold LTS;rintro ⟨ov,ixs,h0,h1,h2,h3⟩
  exact ⟨ov,ixs,h0,h1.to hf hS,h2,fH.to hf hS _ _ h3⟩
theorem fH.to {S S' F:Nat→Prop} {w w':World} (hf:Fr F w w') (hS:∀ q,S q→S' q∧¬ F q):∀ (ts:List LT) (xs:List Value),fH S w ts xs→fH S' w' ts xs
 | [],xs=>by unfold fH;exact id
 | t :: ts,xs=>by
  unfold fH;rintro ⟨vs,rest,h0,h1,h2⟩
  exact ⟨vs,rest,h0,LTS.to hf hS _ _ h1,fH.to hf hS _ _ h2⟩
end
mutual
theorem LTS.inn {S:Nat→Prop} {B:Nat} {w:World} (hS:∀ q,S q→q<B):∀ (t:LT) (vs:List Value),LTS S w t vs→jK B w t vs
 | .mk nm sz of,vs=>by
  unfold LTS jK;rintro ⟨ov,ixs,h0,h1,_,h3⟩
  exact ⟨ov,ixs,h0,h1.sl hS,fH.inn hS _ _ h3⟩
theorem fH.inn {S:Nat→Prop} {B:Nat} {w:World} (hS:∀ q,S q→q<B):∀ (ts:List LT) (xs:List Value),fH S w ts xs→dZ B w ts xs
 | [],xs=>by unfold fH dZ;exact id
 | t :: ts,xs=>by
  unfold fH dZ;rintro ⟨vs,rest,h0,h1,h2⟩
  exact ⟨vs,rest,h0,LTS.inn hS _ _ h1,fH.inn hS _ _ h2⟩
end
theorem LTS.mono {S S':Nat→Prop} {w:World} {t:LT} {vs:List Value} (h:LTS S w t vs) (hS:∀ q,S q→S' q):LTS S' w t vs:=LTS.to (Fr.refl (fun _=>False) w) (fun q hq=>⟨hS q hq,id⟩) _ _ h
theorem LTS.length {S:Nat→Prop} {w:World}:∀ {t:LT} {vs:List Value},LTS S w t vs→vs.length=3
 | .mk nm sz of,vs=>by
  unfold LTS;rintro ⟨ov,ixs,rfl,_⟩
  rfl
theorem fH.at {S:Nat→Prop} {w:World}:∀ {ts:List LT} {xs:List Value},fH S w ts xs→∀ i t,ts[i]?=some t→LTS S w t ((xs.drop (i*3)).take 3)
 | [],xs=>by intro _ i t h;simp at h
 | s :: ts,xs=>by
  intro h i t ht;unfold fH at h;obtain ⟨vs,rest,rfl,h1,h2⟩:=h;have hl:=h1.length
  cases i with
  | zero =>
   simp only[getElem?_cons_zero,Option.some.injEq] at ht;subst ht
   simpa [take_append,hl] using h1
  | succ i =>
   have:=fH.at h2 i t (by simpa using ht)
   have e:(vs++rest).drop ((i+1)*3)=rest.drop (i*3):=by
    rw[show (i+1)*3=vs.length+i*3 by omega,← drop_drop];simp
   rw[e]
   exact this
theorem fH.one {S:Nat→Prop} {w:World} {t:LT} {vs:List Value} (h:LTS S w t vs):fH S w [t] vs:=by
 unfold fH
 exact ⟨vs,[],by simp,h,by unfold fH;rfl⟩
theorem fH.nil {S:Nat→Prop} {w:World}:fH S w [] []:=by unfold fH;rfl
theorem fH.append {S:Nat→Prop} {w:World}:∀ {cs ds:List LT} {xs ys:List Value},fH S w cs xs→fH S w ds ys→fH S w (cs++ds) (xs++ys)
 | [],ds,xs,ys=>by unfold fH;rintro rfl h;simpa using h
 | c :: cs,ds,xs,ys=>by
  intro h h';unfold fH at h;obtain ⟨vs,rest,rfl,h1,h2⟩:=h;rw[cons_append];unfold fH
  exact ⟨vs,rest++ys,by rw[append_assoc],h1,fH.append h2 h'⟩
theorem LTS.ty {S:Nat→Prop} {w:World} {T:Ty} {vs:List Value} (h:LTS S w T.lt vs):∃ ov ixs,vs=[.string (bJ T.nm),.int .i64 T.sz,ov]∧SlS S w 3 ov T.kids.length ixs∧(T.kids=[]→ov=.slice none 0 0)∧fH S w (T.kids.map Ty.lt) ixs:=by
 rw[Ty.aLM] at h;unfold LTS at h;obtain ⟨ov,ixs,h0,h1,h2,h3⟩:=h;rw[length_map] at h1
 exact ⟨ov,ixs,h0,h1,fun e=>h2 (by rw[e];rfl),h3⟩
theorem LTS.of {S:Nat→Prop} {w:World} {T:Ty} {ov:Value} {ixs:List Value} (h1:SlS S w 3 ov T.kids.length ixs) (h2:T.kids=[]→ov=.slice none 0 0) (h3:fH S w (T.kids.map Ty.lt) ixs):LTS S w T.lt [.string (bJ T.nm),.int .i64 T.sz,ov]:=by
 rw[Ty.aLM];unfold LTS
 exact ⟨ov,ixs,rfl,by rw[length_map];exact h1,fun e=>h2 (map_eq_nil_iff.1 e),h3⟩
theorem pK {T:Ty} (hT:T.dU):T.kids=[]:=by
 cases T<;>first|rfl|exact hT.elim
theorem jC {T:Ty} (hT:T.dU) (S:Nat→Prop) (w:World):LTS S w T.lt T.cells3 :=
 LTS.of (by rw[pK hT];exact mD S w 3) (fun _=>rfl) (by rw[pK hT];exact fH.nil)
theorem lY {T:Ty} (hT:T.dU) {S:Nat→Prop} {w:World} {vs:List Value} (h:LTS S w T.lt vs):vs=T.cells3:=by
 obtain ⟨ov,ixs,rfl,_,h2,_⟩:=h.ty;rw[h2 (pK hT)]
 rfl
theorem qO {α:Type} (f:Cell→List α) (m:Nat):∀ (l:List Cell),(∀ c∈l,(f c).length≤m*c.wt)→(l.flatMap f).length≤m*wts l
 | [],_=>by simp
 | c :: l,h=>by
  have h1:=qO f m l (fun x hx=>h x (by simp[hx]));have h2:=h c (by simp);rw[flatMap_cons,length_append,wts,Nat.mul_add];omega
theorem aAf (c:Cell):1+c.s.size≤c.wt:=by rw[Cell.nS];omega
theorem aHs:∀ (l:List Cell) (c:Cell),c∈l→c.wt≤wts l
 | [],c,h=>by simp at h
 | d :: l,c,h=>by
  rw[wts];rcases mem_cons.1 h with rfl|h
  · omega
  · have:=aHs l c h
    omega
theorem aMj (l:List Cell) (h:wts l≤1000000000):(l.flatMap fun c=>Lib.uvarint c.s.size++c.s.data.toList).length≤10*wts l:=qO _ 10 l fun c hc=>by
 have h1:=aHs l c hc;have h2:=aAf c;have h3:(Lib.uvarint c.s.size).length≤10:=Lib.uvarint_length64 (by omega);have h4:c.s.data.toList.length=c.s.size:=Array.length_toList;rw[length_append,h4];omega
theorem aDu {T:Ty} (hT:T.dU) (l:List Cell) (h:wts l≤1000000000):(enc T l).length≤32*wts l:=by
 cases T with
 | num k =>
  rw[enc]
  refine qO _ _ _ fun c _=>?_
  have:=aAf c;unfold aG;rw[length_take];have:k.size≤32:=by cases k<;>decide
  omega
 | str =>
  have:=aMj l h;rw[enc];omega
 | fix n =>
  rw[enc]
  refine qO _ _ _ fun c _=>?_
  have:=aAf c;have:n=5∨n=16:=hT;unfold fitted;rw[length_take];omega
 | _=>exact hT.elim
theorem yS:∀ (l:List Cell),wts (l.map fun c=>if c.null then Cell.zero else c)≤wts l
 | []=>Nat.le_refl _
 | c :: l=>by
  have h1:=yS l;have h2:=aAf c;have h3:(⟨#[]⟩:ByteArray).size=0:=rfl;rw[map_cons,wts,wts]
  split
  · have:Cell.zero.wt=1:=by rw[Cell.zero,Cell.wt,h3];simp[wts]
    omega
  · omega
theorem aHR (l:List Cell) (h:wts l≤1000000000):(aBG l).length≤24+14*wts l:=by
 unfold aBG
 split
 · simp
 · have h1:=iZ l []
   have h0:wts ([]:List Cell)=0:=rfl;have h2:=aMj (aS [] l) (by omega)
   have h3:=qO (fun c=>Lib.leBytes (lowWide (aS [] l).length) ((aS [] l).findIdx (fE c))) 4 l fun c _=>by
    have:=aAf c;rw[Lib.leBytes_length];unfold lowWide
    split
    · omega
    · split<;>omega
   simp only[length_append,Lib.leBytes_length];omega
theorem zero_le {T:Ty} (h:T.dU∨(∃ t,T=.nul t∧t.dU)∨T=.low) (l:List Cell) (hw:wts l≤1000000000):(enc T l).length≤24+33*wts l:=by
 rcases h with h|⟨t,rfl,h⟩|rfl
 · have:=aDu h l hw
   omega
 · have h1:=yS l
   have h2:=aDu h _ (Nat.le_trans h1 hw);have h3:=bF l;rw[enc,length_append,length_map];have h4:32*wts (l.map fun c=>if c.null then Cell.zero else c)≤32*wts l:=Nat.mul_le_mul_left _ h1;omega
 · have:=aHR l hw
   rw[enc];omega
theorem xM (m:Nat) (l:List Cell):∀ (ts:List Ty) (i:Nat),(∀ t∈ts,∀ j,(enc t (kQ j l)).length≤m)→(encs ts i l).length≤ts.length*m
 | [],_,_=>by simp[encs]
 | t :: ts,i,h=>by
  have h1:=xM m l ts (i+1) (fun x hx=>h x (by simp[hx]));have h2:=h t (by simp) i;rw[encs,length_append,length_cons,Nat.succ_mul];unfold kQ at h2;omega
theorem aBH:∀ (d:Nat) (T:Ty),Ok d T→∀ (l:List Cell),wts l≤1000000000→(enc T l).length≤5 ^ d*(40*(wts l+1))
 | 0,T,h,l,hw=>by
  have:=zero_le h l hw;omega
 | d+1,T,h,l,hw=>by
  have hp:1≤5 ^ d:=Nat.one_le_pow _ _ (by decide);have Qg:1*(40*(wts l+1))≤5 ^ d*(40*(wts l+1)):=Nat.mul_le_mul_right _ hp;have e5:5 ^ (d+1)*(40*(wts l+1))=5*(5 ^ d*(40*(wts l+1))):=by rw[Nat.pow_succ,Nat.mul_comm (5 ^ d) 5,Nat.mul_assoc]
  have mono:∀ a,a≤wts l→5 ^ d*(40*(a+1))≤5 ^ d*(40*(wts l+1)):=fun a ha=>Nat.mul_le_mul_left _ (by omega)
  have hl:=bF l;rw[e5];rcases h with h|⟨t,rfl,h⟩|⟨k,v,rfl,hk,h⟩|⟨ts,rfl,h1,h2,h⟩
  · have:=zero_le h l hw
    omega
  · have hi:=jM l
    have h3:=aBH d t h (l.flatMap Cell.items) (by omega);have h4:=mono (wts (l.flatMap Cell.items)) (by omega);rw[qK,length_append,dN];omega
  · have hi:=jD l
    have hj:=jE l;have h3:=aBH d v h (l.flatMap fD) (by omega);have h4:=mono (wts (l.flatMap fD)) (by omega);have h5:=zero_le (hk.elim .inl (fun h=>.inr (.inr h))) (l.flatMap mapKeys) (by omega);rw[lU]
    split
    · simp
    · rw[length_append,length_append,dN]
      omega
  · have h3:=xM (5 ^ d*(40*(wts l+1))) l ts 0 fun t ht j=>by
     have h5:=lM j l
     exact Nat.le_trans (aBH d t (h t ht) (kQ j l) (by omega)) (mono _ h5)
    have h4:ts.length*(5 ^ d*(40*(wts l+1)))≤4*(5 ^ d*(40*(wts l+1))):=Nat.mul_le_mul_right _ h2;rw[enc];omega
end Go.Proofs.YtcidlnjpabgioaaGreatDoor
