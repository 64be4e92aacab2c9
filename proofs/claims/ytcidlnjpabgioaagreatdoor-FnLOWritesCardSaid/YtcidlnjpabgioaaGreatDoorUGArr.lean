import Derived.Test.YtcidlnjpabgioaaGreatDoorUGNul
import Derived.Test.YtcidlnjpabgioaaGreatDoorUGKe
set_option maxHeartbeats 4000000
set_option maxRecDepth 100000
namespace Go.Proofs.YtcidlnjpabgioaaGreatDoor
open Tryz List Go.RowKit
def ends (f:Cell→Nat):Nat→List Cell→List Cell
 | _,[]=>[]
 | n,c :: cs=>.mk (n+f c) 0 0 0 ⟨#[]⟩ false [] [] :: ends f (n+f c) cs
def total (f:Cell→Nat):List Cell→Nat
 | []=>0
 | c :: cs=>f c+total f cs
theorem sG (f:Cell→Nat):∀ (a b:List Cell),total f (a++b)=total f a+total f b
 | [],b=>by simp[total]
 | c :: a,b=>by rw[cons_append,total,total,sG f a b];omega
theorem gB (f:Cell→Nat):∀ (n:Nat) (cs:List Cell),(ends f n cs).length=cs.length
 | _,[]=>rfl
 | n,c :: cs=>by rw[ends,length_cons,length_cons,gB f _ cs]
theorem oW (f:Cell→Nat):∀ (n:Nat) (cs:List Cell),(ends f n cs).flatMap (aG 8)=offsets f n cs
 | _,[]=>rfl
 | n,c :: cs=>by rw[ends,offsets,flatMap_cons,oW f _ cs,dO 8 (by omega)];rfl
theorem nC (f:Cell→Nat):∀ (n:Nat) (a:List Cell) (c:Cell),ends f n (a++[c])=ends f n a++[.mk (n+total f a+f c) 0 0 0 ⟨#[]⟩ false [] []]
 | n,[],c=>by simp[ends,total]
 | n,d :: a,c=>by rw[cons_append,ends,ends,nC f _ a c,total,cons_append,show n+f d+total f a=n+(f d+total f a) by omega]
theorem qL (f:Cell→Nat):∀ (n:Nat) (cs:List Cell),∀ x∈ends f n cs,x.r0≤n+total f cs
 | _,[],x,h=>by simp[ends] at h
 | n,c :: cs,x,h=>by
  rw[ends] at h;rw[total];rcases mem_cons.1 h with rfl|h
  · show n+f c≤_
    omega
  · have:=qL f _ cs x h
    omega
def jI (c:Cell):Nat:=c.items.length
theorem iL:∀ (cs:List Cell),total jI cs=(cs.flatMap Cell.items).length
 | []=>rfl
 | c :: cs=>by rw[total,iL cs,flatMap_cons,length_append];rfl
theorem qK (t:Ty) (cs:List Cell):enc (.arr t) cs=(ends jI 0 cs).flatMap (aG 8)++enc t (cs.flatMap Cell.items):=by rw[enc,oW];rfl
theorem jM:∀ (cs:List Cell),wts (cs.flatMap Cell.items)+cs.length≤wts cs
 | []=>Nat.le_refl _
 | c :: cs=>by
  have:=jM cs;rw[flatMap_cons,fG,wts,Cell.nS,length_cons];omega
theorem bP.full {B:Nat} {w:World}:∀ {c:Cell} {vs:List Value},bP B w c vs→∃ (ia:Option Addr) (ic:Nat) (ka:Option Addr) (kc:Nat) (ixs kxs:List Value),
 vs=[.int .u64 c.r0,.int .u64 c.r1,.int .u64 c.r2,.int .u64 c.r3,.string c.s,.bool c.null,.slice ia c.items.length ic,.slice ka c.keys.length kc] ∧
  Sl B w 8 (.slice ia c.items.length ic) c.items.length ixs∧aI B w c.items ixs∧Sl B w 8 (.slice ka c.keys.length kc) c.keys.length kxs∧aI B w c.keys kxs
 | .mk r0 r1 r2 r3 s null items keys,vs=>by
  unfold bP;rintro ⟨iv,kv,ixs,kxs,rfl,h0,h1,h2,h3,h4,hi,F7,hk,Dp⟩;obtain ⟨ia,ic,rfl,_⟩:=hi.2;obtain ⟨ka,kc,rfl,_⟩:=hk.2
  exact ⟨ia,ic,ka,kc,ixs,kxs,rfl,hi,F7,hk,Dp⟩
def fQ (B:Nat) (w:World):List Cell→List Value→Prop
 | [],xs=>xs=[]
 | c :: cs,xs=>∃ v rest ixs,xs=v :: rest∧Sl B w 8 v c.items.length ixs∧aI B w c.items ixs∧fQ B w cs rest
theorem fQ.below {B:Nat} {w w':World} (hb:Below B w w'):∀ (cs:List Cell) (xs:List Value),fQ B w cs xs→fQ B w' cs xs
 | [],_,h=>h
 | _ :: _,_,⟨v,rest,ixs,h0,h1,h2,h3⟩=>⟨v,rest,ixs,h0,h1.below hb,aI.below hb _ _ h2,fQ.below hb _ _ h3⟩
theorem fQ.snoc {B:Nat} {w:World} {c:Cell} {v:Value} {ixs:List Value} (h:Sl B w 8 v c.items.length ixs) (hc:aI B w c.items ixs):∀ {cs:List Cell} {xs:List Value},fQ B w cs xs→fQ B w (cs++[c]) (xs++[v])
 | [],_,rfl=>⟨v,[],ixs,rfl,h,hc,rfl⟩
 | _ :: _,_,⟨u,rest,jxs,h0,h1,h2,h3⟩=>⟨u,_,jxs,by rw[h0];rfl,h1,h2,fQ.snoc h hc h3⟩
theorem fQ.at {B:Nat} {w:World}:∀ {cs:List Cell} {xs:List Value},fQ B w cs xs→∀ k (hk:k<cs.length),∃ v ixs,xs[k]?=some v∧Sl B w 8 v cs[k].items.length ixs∧aI B w cs[k].items ixs
 | [],_,_,k,hk=>by simp at hk
 | c :: cs,_,⟨v,rest,ixs,h0,h1,h2,_⟩,0,_=>⟨v,ixs,by rw[h0];rfl,h1,h2⟩
 | c :: cs,_,⟨v,rest,ixs,h0,h1,h2,h3⟩,k+1,hk=>by
  obtain ⟨u,jxs,g0,g1,g2⟩:=fQ.at h3 k (by simpa using hk)
  exact ⟨u,jxs,by rw[h0];exact g0,g1,g2⟩
def fJ (B:Nat) (t:TypeId) (u:Value) (R:World→(Nat→Prop)→List Cell→Prop) (p:Nat) (w:World) (fp:Nat→Prop) (σ:List Cell):Prop :=
 ∃ v fpc,w.heap[p]?=some (.cells #[v,.iface t u] 127 (0,0))∧w.ownsRow 0 24 1 v σ.length ((ends jI 0 σ).flatMap bY)∧R w fpc (σ.flatMap Cell.items)∧v.ownBlock≠some p∧¬ fpc p∧(∀ k,v.ownBlock=some k→¬ fpc k) ∧
  (∀ k,fp k↔k=p∨v.ownBlock=some k∨fpc k)∧∀ k,fp k→B≤k
section
variable {B:Nat} {t:TypeId} {u:Value} {T:Ty} {st:List UInt8} {R Rp:World→(Nat→Prop)→List Cell→Prop}
theorem fJ.lt (NQ:∀ {w fp σ},R w fp σ→∀ k,fp k→B≤k∧k<w.heap.size) {p:Nat} {w:World} {fp:Nat→Prop} {σ:List Cell} (h:fJ B t u R p w fp σ):∀ k,fp k→B≤k∧k<w.heap.size:=by
 obtain ⟨v,fpc,hp,Aa,hR,n1,n2,n3,Aj,hB⟩:=h;intro k hk
 refine ⟨hB k hk,?_⟩;rcases (Aj k).1 hk with rfl|hk|hk
 · exact aC hp
 · exact aO Aa hk
 · exact (NQ hR k hk).2
theorem fJ.aW (RI:∀ {w w' fp σ},R w fp σ→(∀ k,fp k→w'.heap[k]?=w.heap[k]?)→R w' fp σ) {p:Nat} {w w':World} {fp:Nat→Prop} {σ:List Cell} (h:fJ B t u R p w fp σ) (hk:∀ k,fp k→w'.heap[k]?=w.heap[k]?):fJ B t u R p w' fp σ:=by
 obtain ⟨v,fpc,hp,Aa,hR,n1,n2,n3,Aj,hB⟩:=h
 refine ⟨v,fpc,(hk p ((Aj p).2 (.inl rfl))).trans hp,⟨Aa.1,?_⟩,RI hR (fun k h=>hk k ((Aj k).2 (.inr (.inr h)))),n1,n2,n3,Aj,hB⟩;rcases Aa.2 with h0|⟨g,cap,cur,rfl,hb,GX,rest⟩
 · exact .inl h0
 · exact .inr ⟨g,cap,cur,rfl,hb,(hk g ((Aj g).2 (.inr (.inl rfl)))).trans GX,rest⟩
theorem fJ.grown (RI:∀ {w w' fp σ},R w fp σ→(∀ k,fp k→w'.heap[k]?=w.heap[k]?)→R w' fp σ) (NQ:∀ {w fp σ},R w fp σ→∀ k,fp k→B≤k∧k<w.heap.size)
 {w w1 w2 w3:World} {p:Nat} {fp fpc fpc1:Nat→Prop} {σ:List Cell} {c:Cell} {v v':Value} (Aa:w.ownsRow 0 24 1 v σ.length ((ends jI 0 σ).flatMap bY))
 (hp:w.heap[p]?=some (.cells #[v,.iface t u] 127 (0,0))) (n1:v.ownBlock≠some p) (n2:¬ fpc p) (n3:∀ k,v.ownBlock=some k→¬ fpc k) (Aj:∀ k,fp k↔k=p∨v.ownBlock=some k∨fpc k) (hB:∀ k,fp k→B≤k)
 (Ad:Fr fpc w w1) (FM:R w1 fpc1 (σ.flatMap Cell.items++c.items)) (ET:Grow w fpc fpc1) (UW:F0 w1 w2)
 (ha:dE w2 w3 24 1 v v' (σ.length+1) ((ends jI 0 σ).flatMap bY++[.int .u64 (σ.flatMap Cell.items++c.items).length])) :
 Fr fp w (w3.setCell ⟨p,0,none⟩ v')∧∃ fp',fJ B t u R p (w3.setCell ⟨p,0,none⟩ v') fp' (σ++[c])∧Grow w fp fp':=by
 have AZ:=aC hp;have FO:∀ k,v.ownBlock=some k→k<w.heap.size:=fun k hk=>aO Aa hk
 have BN:=Ad.size;have EW:=UW.size;obtain ⟨h1,h2,h3,h4,h5⟩:=dW (i:=0) ((Ad.block p AZ n2).trans hp) (Ad.owns Aa n3) n1 UW ha
 have BB:∀ k,fpc1 k→(w3.setCell ⟨p,0,none⟩ v').heap[k]?=w1.heap[k]?:=fun k hk=>h5.block k (NQ FM k hk).2 (fun h=>by
  rcases ET k hk with h'|h'
  · rcases h with rfl|h
    · exact n2 h'
    · exact n3 k h h'
  · rcases h with rfl|h
    · omega
    · have:=FO k h;omega)
 have J6:∀ k,v'.ownBlock=some k→v.ownBlock=some k∨w1.heap.size≤k:=fun k hk=>by
  rcases h4 with e|e
  · exact .inl (by rw[← e,hk])
  · rw[e] at hk
    simp only[Option.some.injEq] at hk
    exact .inr (by omega)
 refine ⟨(Ad.mono (fun k _ h=>(Aj k).2 (.inr (.inr h)))).trans h5 (fun k _ h=>(Aj k).2 (h.imp id .inl)),fun k=>k=p∨v'.ownBlock=some k∨fpc1 k,⟨v',fpc1,h1,?_,?_,h3,fun h=>?_,fun k hk h=>?_,fun k=>Iff.rfl,fun k hk=>?_⟩,fun k hk=>?_⟩
 · rw[nC,flatMap_append,length_append]
   have e:0+total jI σ+jI c=(σ.flatMap Cell.items++c.items).length:=by rw[iL,length_append,Nat.zero_add];rfl
   rw[e]
   exact h2
 · rw[flatMap_append,flatMap_singleton]
   exact RI FM BB
 · rcases ET p h with h|h
   · exact n2 h
   · omega
 · rcases J6 k hk with h'|h'
   · rcases ET k h with h|h
     · exact n3 k h' h
     · have:=FO k h';omega
   · have:=(NQ FM k h).2;omega
 · rcases hk with rfl|hk|hk
   · exact hB k ((Aj k).2 (.inl rfl))
   · rcases J6 k hk with h|h
     · exact hB k ((Aj k).2 (.inr (.inl h)))
     · have:=hB p ((Aj p).2 (.inl rfl));omega
   · exact (NQ FM k hk).1
 · rcases hk with rfl|hk|hk
   · exact .inl ((Aj k).2 (.inl rfl))
   · exact (J6 k hk).imp (fun h=>(Aj k).2 (.inr (.inl h))) (fun h=>by omega)
   · exact (ET k hk).imp (fun h=>(Aj k).2 (.inr (.inr h))) id
theorem aEx (cs:ColSpec Tryz.prog B t u T st R Rp)
 (w:World) (p:Nat) (fp:Nat→Prop) (σ:List Cell) (h:fJ B t u R p w fp σ) (c:Cell) (sv:Value) (xs:List Value) (hs:Sl B w 8 sv c.items.length xs) (A8:aI B w c.items xs) (hw:wts (σ++[c])≤2147483648) :
 Calls Tryz.prog 160 #[.pointer (some ⟨p,0,none⟩),sv] w fun e w'=>e=.returned (.tuple #[])∧Fr fp w w'∧∃ fp',fJ B t u R p w' fp' (σ++[c])∧Grow w fp fp':=by
 obtain ⟨v,fpc,hp,Aa,hR,n1,n2,n3,Aj,hB⟩:=h;have AZ:=aC hp;have Ar:∀ k,fpc k→k<w.heap.size:=fun k hk=>(cs.lo hR k hk).2
 have FO:∀ k,v.ownBlock=some k→k<w.heap.size:=fun k hk=>aO Aa hk
 have GL:=jM (σ++[c]);have AA:=bF (σ++[c]);rw[flatMap_append,flatMap_singleton,length_append,length_singleton] at GL;rw[length_append,length_singleton] at AA;have Rf:=bF (σ.flatMap Cell.items++c.items);have hi:=cs.appendArr hR hs A8 (show wts _≤_ by omega);obtain ⟨a0,c0,rfl⟩:=ownsRow_shape Aa;have d0:w.cell? ⟨p,0,none⟩=some (.slice a0 σ.length c0):=crw hp rfl;have d1:w.cell? ⟨p,1,none⟩=some (.iface t u):=crw hp rfl;go_enter func160,ntmps160
 go_wp2_with ((with_reducible show wpList _ _ _ (⟨some 9,_,_,_,_,_⟩ :: _) _ _);refine aT _ rfl _ _ _ _ rfl _ _ rfl hi rfl ?_;rintro e w1 ⟨rfl,Ad,fpc1,FM,ET⟩;refine ⟨_,rfl,?_⟩)
 have BN:=Ad.size;have p1:w1.heap[p]?=some (.cells #[.slice a0 σ.length c0,.iface t u] 127 (0,0)):=(Ad.block p AZ n2).trans hp;have o1:=Ad.owns Aa n3;have q0:w1.cell? ⟨p,0,none⟩=some (.slice a0 σ.length c0):=Ad.aA d0 n2;have q1:w1.cell? ⟨p,1,none⟩=some (.iface t u):=Ad.aA d1 n2;have P5:R w1.drew fpc1 (σ.flatMap Cell.items++c.items):=cs.frame FM (fun _ _=>rfl);have EJ:=cs.rows P5;generalize hN:(σ.flatMap Cell.items++c.items).length=N at EJ Rf;have CY:IntKind.u64.wrap (N:Int)=N:=by rw[IntKind.wrap_u64];omega
 clear d0 d1 hi hs A8
 go_region_law (first
  | (refine aK _ rfl ?_;refine bH _ _ _ _ _ rfl _ _ rfl EJ rfl ?_;rintro e w2 ⟨rfl,Ae⟩;refine ⟨_,rfl,?_⟩;have r0:=Ae.aA (show w1.drew.cell? ⟨p,0,none⟩=_ from q0) (fun h=>h);have r1:=Ae.aA (show w1.drew.cell? ⟨p,1,none⟩=_ from q1) (fun h=>h);have FC:=Ae.aH;have r0a:∀ o,(w2.alloc o).cell? ⟨p,0,none⟩=some (.slice a0 σ.length c0):=fun o=>(FC.alloc o).aA q0 (fun h=>h))
  | (refine aK _ rfl ?_;refine dJ _ zT _ _ rfl _ _ _ rfl ((FC.owns o1 (fun _ _ h=>h)).alloc _) _ _ _ rfl (Src.ofSlice _ underlying125 _ _ _ _ rfl (bG _ [.int .u64 N] _) (by simp[Value.oneCell'])) ?_ ?_ ?_;(unfold maxLen;omega);omega;intro v' w3 ha;obtain ⟨a',c',rfl⟩:=ha.shape;obtain ⟨Iz,I5⟩:=eP p1 n1 (FC.alloc _) ha;have s0:w3.cell? ⟨p,0,none⟩=some (.slice a0 σ.length c0):=Iz 0;have g0:=I5 0))
 all_goals
  go_end0;subst hN
  exact ⟨rfl,fJ.grown (R:=R) cs.frame cs.lo Aa hp n1 n2 n3 Aj hB Ad FM ET (FC.alloc _) ha⟩
theorem aAg (sp:ColSpec Tryz.prog B t u T st R Rp) (w:World) (p:Nat) (fp:Nat→Prop) (σ:List Cell) (h:fJ B t u R p w fp σ) (cs:List Cell) (tv:Value) (vals:List Value) (Aa:w.ownsRow 0 31 1 tv cs.length vals) (Jg:fQ B w cs vals)
 (hd:∀ k,tv.ownBlock=some k→¬ fp k) (hw:wts (σ++cs)≤2147483648) :
 Calls Tryz.prog 177 #[.pointer (some ⟨p,0,none⟩),tv] w fun e w'=>e=.returned (.tuple #[])∧Fr fp w w'∧∃ fp',fJ B t u R p w' fp' (σ++cs)∧Grow w fp fp':=by
 obtain ⟨at_,ct,rfl⟩:=ownsRow_shape Aa;have AC:=h.lt sp.lo
 have Bd:B≤w.heap.size:=by
  obtain ⟨v,fpc,hp,_,_,_,_,_,Aj,_⟩:=h;have:=AC p ((Aj p).2 (.inl rfl));omega
 have AP:cs.length≤9223372036854775807:=by
  have:=bF (σ++cs);rw[length_append] at this;omega
 go_enter func177,ntmps177;go_wp2
 go_loopw [5,8] (fun _ i wr=>∃ (k:Nat) (fpk:Nat→Prop),k≤cs.length∧i=.int .i64 k∧fJ B t u R p wr fpk (σ++cs.take k)∧Grow w fp fpk∧Fr fp w wr) (fun _ i _=>cs.length - (intOf i).toNat)
 case atStart=>exact ⟨0,fp,Nat.zero_le _,rfl,by simpa using h,fun k hk=>.inl hk,Fr.refl _ _⟩
 case round =>
  obtain ⟨k,fpk,hk,rfl,AL,hg,Ak⟩:=hrel
  by_cases Ar:k<cs.length
  · have Ap:=Ak.owns Aa hd
    rcases Ap.2 with ⟨hv,_⟩|⟨ga,capa,cura,hv,_⟩
    · simp only[Value.slice.injEq] at hv;omega
    · simp only[Value.slice.injEq] at hv
      obtain ⟨rfl,_,rfl⟩:=hv;obtain ⟨sv,ixs,IM,EC,F7⟩:=Jg.at k Ar;have Bf:Below B w wr:=Ak.below Bd (fun q hq h=>by have:=(AC q h).1;omega);have JJ:=EC.below Bf;have PH:=aI.below Bf _ _ F7;have Ah:=Lib.hid (take_succ_eq_append_getElem Ar)
      have Fg:wts (σ++cs.take k++[cs[k]])≤2147483648:=by
       have:=iV (σ++cs) (σ.length+(k+1));rw[take_length_add_append,take_succ_eq_append_getElem Ar,← append_assoc] at this;omega
      generalize cs[k]=c at EC F7 JJ PH Ah Fg;have x0:=Ap.cells (g:=ga) rfl _ _ IM;rw[Addr.add_lit,Nat.zero_add] at x0;have DX:=Ak.size;generalize hτ:σ++cs.take k=τ at AL Fg;obtain ⟨v,fpc,hp,Gn,hR,n1,n2,n3,Aj,hB⟩:=AL;have AZ:=aC hp;have GL:=jM (τ++[c]);have AA:=bF (τ++[c]);rw[flatMap_append,flatMap_singleton,length_append,length_singleton] at GL;rw[length_append,length_singleton] at AA;have Rf:=bF (τ.flatMap Cell.items++c.items);have hi:=sp.appendArr hR JJ PH (show wts _≤_ by omega);obtain ⟨a0,c0,rfl⟩:=ownsRow_shape Gn;have d0:wr.cell? ⟨p,0,none⟩=some (.slice a0 τ.length c0):=crw hp rfl;have d1:wr.cell? ⟨p,1,none⟩=some (.iface t u):=crw hp rfl;obtain ⟨sa,sc,rfl⟩:∃ sa sc,sv=.slice sa c.items.length sc:=by obtain ⟨sa,sc,e,_⟩:=JJ.2;exact ⟨sa,sc,e⟩
      generalize c.items.length=sl at EC JJ hi x0;clear Jg IM EC F7 JJ PH Ap
      go_wp2_with ((with_reducible show wpList _ _ _ (⟨some 17,_,_,_,_,_⟩ :: _) _ _);refine aT _ rfl _ _ _ _ rfl _ _ rfl hi rfl ?_;rintro e w1 ⟨rfl,Ad,fpc1,FM,ET⟩;refine ⟨_,rfl,?_⟩)
      have BN:=Ad.size;have p1:w1.heap[p]?=some (.cells #[.slice a0 τ.length c0,.iface t u] 127 (0,0)):=(Ad.block p AZ n2).trans hp;have o1:=Ad.owns Gn n3;have q0:w1.cell? ⟨p,0,none⟩=some (.slice a0 τ.length c0):=Ad.aA d0 n2;have q1:w1.cell? ⟨p,1,none⟩=some (.iface t u):=Ad.aA d1 n2;have P5:R w1.drew fpc1 (τ.flatMap Cell.items++c.items):=sp.frame FM (fun _ _=>rfl);have EJ:=sp.rows P5;generalize hN:(τ.flatMap Cell.items++c.items).length=N at EJ Rf;have CY:IntKind.u64.wrap (N:Int)=N:=by rw[IntKind.wrap_u64];omega
      clear d0 d1 hi
      go_region_law (first
       | (refine aK _ rfl ?_;refine bH _ _ _ _ _ rfl _ _ rfl EJ rfl ?_;rintro e w2 ⟨rfl,Ae⟩;refine ⟨_,rfl,?_⟩;have r0:=Ae.aA (show w1.drew.cell? ⟨p,0,none⟩=_ from q0) (fun h=>h);have r1:=Ae.aA (show w1.drew.cell? ⟨p,1,none⟩=_ from q1) (fun h=>h);have FC:=Ae.aH;have r0a:∀ o,(w2.alloc o).cell? ⟨p,0,none⟩=some (.slice a0 τ.length c0):=fun o=>(FC.alloc o).aA q0 (fun h=>h))
       | (refine aK _ rfl ?_;refine dJ _ zT _ _ rfl _ _ _ rfl ((FC.owns o1 (fun _ _ h=>h)).alloc _) _ _ _ rfl (Src.ofSlice _ underlying125 _ _ _ _ rfl (bG _ [.int .u64 N] _) (by simp[Value.oneCell'])) ?_ ?_ ?_;(unfold maxLen;omega);omega;intro v' w3 ha;obtain ⟨a',c',rfl⟩:=ha.shape;obtain ⟨Iz,I5⟩:=eP p1 n1 (FC.alloc _) ha;have s0:w3.cell? ⟨p,0,none⟩=some (.slice a0 τ.length c0):=Iz 0;have g0:=I5 0))
      all_goals
       subst hN;obtain ⟨BV,fp',FQ,I8⟩:=fJ.grown (R:=R) sp.frame sp.lo Gn hp n1 n2 n3 Aj hB Ad FM ET (FC.alloc _) ha;go_wp2;go_roundw
       case rel =>
        refine ⟨k+1,fp',by omega,by go_num,?_,?_,?_⟩
        · rw[Ah.out,← append_assoc,hτ];exact FQ
        · intro q hq
          rcases I8 q hq with h|h
          · exact hg q h
          · exact .inr (by omega)
        · exact Ak.trans BV (fun q hq h=>(hg q h).resolve_right (by omega))
       case measure=>simp[intOf];omega
  · have Bl:k=cs.length:=by omega
    subst Bl;rw[take_length] at AL;go_wp2;go_end0
    exact ⟨rfl,Ak,fpk,AL,hg⟩
end
theorem aGl:ElT Tryz.prog 460 31 (.slice none 0 0) 1 24:=⟨underlying460,info_parts (by kernel_rfl),rfl⟩
theorem aIG (w:World) (r0 r1 r2 r3:Nat) (s:ByteArray) (null:Bool) (ia:Option Addr) (il ic:Nat) (kv:Value) :
 Calls Tryz.prog 182 #[.agg #[.int .u64 r0,.int .u64 r1,.int .u64 r2,.int .u64 r3,.string s,.bool null,.slice ia il ic,kv]] w fun e w'=>e=.returned (.slice ia il ic)∧F0 w w':=by
 go_enter func182,ntmps182;go_wp2;go_ret
 exact ⟨rfl,(Fr.refl _ w).alloc _⟩
theorem aEA (w:World) (B:Nat) (Bd:B≤w.heap.size) (cs:List Cell) (v:Value) (xs:List Value) (hs:Sl B w 8 v cs.length xs) (hc:aI B w cs xs) (hn:cs.length≤2147483648) :
 Calls Tryz.prog 181 #[v,.func (.func 182) #[] #[]] w fun e w'=>∃ tv,e=.returned tv∧(∃ vals,w'.ownsRow 0 31 1 tv cs.length vals∧fQ B w' cs vals)∧(∀ q,tv.ownBlock=some q→w.heap.size≤q)∧F0 w w':=by
 have CB:=hs;obtain ⟨Dy,ao,cap,rfl,BF,AP,h0,ha⟩:=hs;unfold maxLen at AP;clear ha h0 Dy;go_enter func181,ntmps181;go_wp2
 go_loopw [5,10] (fun tv i wr=>∃ (k:Nat) (vals:List Value),k≤cs.length∧i=.int .i64 k∧wr.ownsRow 0 31 1 tv k vals∧fQ B wr (cs.take k) vals∧(∀ q,tv.ownBlock=some q→w.heap.size≤q)∧F0 w wr) (fun _ i _=>cs.length - (intOf i).toNat)
 case atStart=>exact ⟨0,[],Nat.zero_le _,rfl,World.ownsRow_nil _ _ _ _,rfl,by simp[Value.ownBlock],Fr.refl _ _⟩
 case round =>
  obtain ⟨k,vals,hk,rfl,Aa,Jg,Ai,Ak⟩:=hrel;have Bf:Below B w wr:=Ak.below Bd (fun _ _ h=>h);have L6:B≤wr.heap.size:=Nat.le_trans Bd Ak.size;obtain ⟨a0,c0,rfl⟩:=ownsRow_shape Aa
  by_cases Ar:k<cs.length
  · obtain ⟨b,off,cap',hv,FT,vs,AQ,Ac⟩:=(CB.below Bf).row (aI.below Bf _ _ hc) Ar
    have Ah:=Lib.hid (take_succ_eq_append_getElem Ar);generalize cs[k]=c at AQ Ah;obtain ⟨ia,ic,ka,kc,ixs,kxs,rfl,Hr,F7,-,-⟩:=AQ.full;simp only[Value.slice.injEq] at hv;obtain ⟨rfl,_,rfl⟩:=hv;have d0:=Ac 0 _ rfl;have d1:=Ac 1 _ rfl;have d2:=Ac 2 _ rfl;have d3:=Ac 3 _ rfl;have d4:=Ac 4 _ rfl;have d5:=Ac 5 _ rfl;have d6:=Ac 6 _ rfl;have d7:=Ac 7 _ rfl;simp only[Nat.add_zero] at d0;obtain ⟨il,Fa⟩:∃ il,c.items.length=il:=⟨_,rfl⟩;generalize c.keys.length=kl at d7;rw[Fa] at Hr d6;have MC:=Lib.hid Fa;clear Fa;have BM:F0 w (wr.alloc (.cells #[.int .u64 c.r0,.int .u64 c.r1,.int .u64 c.r2,.int .u64 c.r3,.string c.s,.bool c.null,.slice ia il ic,.slice ka kl kc] 35)):=Ak.alloc _;have EN:=aIG (wr.alloc (.cells #[.int .u64 c.r0,.int .u64 c.r1,.int .u64 c.r2,.int .u64 c.r3,.string c.s,.bool c.null,.slice ia il ic,.slice ka kl kc] 35)) c.r0 c.r1 c.r2 c.r3 c.s c.null ia il ic (.slice ka kl kc);clear Ac AQ CB hc
    go_wp2_with (first|((with_reducible show wpList _ _ _ (⟨some 17,_,_,_,_,_⟩ :: _) _ _);refine dG _ rfl _ _ _ rfl _ _ rfl (bM.func0 call182 EN) rfl ?_;rintro e w1 ⟨rfl,Ad⟩;refine ⟨_,rfl,?_⟩;have Bv:F0 w w1:=BM.trans Ad (fun _ _ h=>h);have Ba:=Ad.owns ((Fr.refl (fun _=>False) wr).alloc _ |>.owns Aa (fun _ _ h=>h)) (fun _ _ h=>h))|((with_reducible show wpList _ _ _ (⟨some 19,_,_,_,_,_⟩ :: _) _ _);refine aP _ rfl aGl _ _ rfl _ _ _ rfl (Ba.alloc _) _ _ _ rfl (Src.ofSlice _ underlying460 _ _ _ _ rfl (bG _ [.slice ia il ic] _) (by simp[Value.oneCell'])) ?_ ?_ ?_;(unfold maxLen;omega);omega;intro v' w2 ha;obtain ⟨a',c',rfl⟩:=ha.shape))
    go_roundw
    case rel =>
     refine ⟨k+1,_,by omega,by go_num,ha.1,?_,(ha.since (Bv.alloc _) Ai).1,(ha.since (Bv.alloc _) Ai).2⟩;rw[Ah.out];have Bj:Below B wr w2:=(((((Fr.refl (fun _=>False) wr).alloc _).trans Ad (fun _ _ h=>h)).alloc _).mono (S':=fun q=>w.heap.size≤q) (fun _ _ h=>h.elim)).grown ha.2.1 (fun q hq=>.inl (Ai q hq)) |>.below L6 (fun q hq h=>by omega)
     exact fQ.snoc (by rw[MC.out];exact Hr.below Bj) (aI.below Bj _ _ F7) (fQ.below Bj _ _ Jg)
    case measure=>simp[intOf];omega
  · have Bl:k=cs.length:=by omega
    subst Bl;rw[take_length] at Jg;go_wp2;go_ret
    exact ⟨_,rfl,⟨_,Aa,Jg⟩,Ai,Ak⟩
section
variable {B:Nat} {t:TypeId} {u:Value} {T:Ty} {st:List UInt8} {R Rp:World→(Nat→Prop)→List Cell→Prop}
theorem fJ.base (NQ:∀ {w fp σ},R w fp σ→∀ k,fp k→B≤k∧k<w.heap.size) {p:Nat} {w:World} {fp:Nat→Prop} {σ:List Cell} (h:fJ B t u R p w fp σ):B≤w.heap.size:=by
 have AC:=h.lt (R:=R) NQ;obtain ⟨v,fpc,hp,_,_,_,_,_,Aj,_⟩:=h;have:=AC p ((Aj p).2 (.inl rfl));omega
theorem aAh (cs:ColSpec Tryz.prog B t u T st R Rp) (w:World) (p:Nat) (fp:Nat→Prop) (σ:List Cell) (h:fJ B t u R p w fp σ) (c:Cell) (vs:List Value) (AQ:bP B w c vs) (hw:wts (σ++[c])≤2147483648) :
 Calls Tryz.prog 178 #[.agg #[.pointer (some ⟨p,0,none⟩)],.agg vs.toArray] w fun e w'=>e=.returned (.tuple #[])∧Fr fp w w'∧∃ fp',fJ B t u R p w' fp' (σ++[c])∧Grow w fp fp':=by
 have AC:=h.lt cs.lo;have Bd:=h.base cs.lo;obtain ⟨ia,ic,ka,kc,ixs,kxs,rfl,Hr,F7,-,-⟩:=AQ.full;have Bg:=fun W (hf:F0 w W)=>aEx cs W p fp σ (h.aW cs.frame fun k hk=>hf.block k (AC k hk).2 (fun h=>h)) c _ ixs (Hr.fr Bd hf) (aI.below (hf.below Bd (fun _ _ h=>h)) _ _ F7) hw
 clear Hr F7;generalize c.items.length=il at Bg ⊢;generalize c.keys.length=kl at Bg ⊢;go_enter func178,ntmps178
 go_wp2_with (go_at_call 160;refine (Bg _ (((Fr.refl _ w).alloc _).alloc _)).mono ?_;rintro e w2 ⟨rfl,Ae,BV⟩)
 go_end0;obtain ⟨fp',h1,h2⟩:=BV
 exact ⟨rfl,(((Fr.refl fp w).alloc _).alloc _).trans Ae (fun _ _ h=>h),fp',h1,fun k hk=>(h2 k hk).imp id (fun h=>by simp at h;omega)⟩
theorem tY (sp:ColSpec Tryz.prog B t u T st R Rp) (w:World) (p:Nat) (fp:Nat→Prop) (σ:List Cell) (h:fJ B t u R p w fp σ) (cs:List Cell) (v:Value) (ys:List Value) (hs:Sl B w 8 v cs.length ys) (A8:aI B w cs ys) (hw:wts (σ++cs)≤2147483648) :
 Calls Tryz.prog 179 #[.agg #[.pointer (some ⟨p,0,none⟩)],v] w fun e w'=>e=.returned (.tuple #[])∧Fr fp w w'∧∃ fp',fJ B t u R p w' fp' (σ++cs)∧Grow w fp fp':=by
 have AC:=h.lt sp.lo;have Bd:=h.base sp.lo
 have hn:cs.length≤2147483648:=by
  have:=bF (σ++cs);rw[length_append] at this;omega
 go_enter func179,ntmps179
 go_wp2_with fail
 generalize hW:w.alloc _=W;have Af:F0 w W:=by subst hW;exact (Fr.refl _ w).alloc _
 have d0:W.cell? ⟨w.heap.size,0,none⟩=some (.pointer (some ⟨p,0,none⟩)):=by subst hW;rw[aB rfl];rfl
 have hN:¬ fp w.heap.size:=fun h=>by have:=AC _ h;omega
 have D6:=hs.fr Bd Af;have Cf:=aI.below (Af.below Bd (fun _ _ h=>h)) _ _ A8;have CZ:B≤W.heap.size:=Nat.le_trans Bd Af.size;have EX:=D6.fr CZ (Fr.refl (fun _=>False) W).drew;have Ce:=aI.below ((Below.refl B W).drew) _ _ Cf;clear hW hs A8
 go_region_held3 (fun w'=>w'.cell? ⟨w.heap.size,0,none⟩=some (.pointer (some ⟨p,0,none⟩)))
  (first
   | exact d0
   | exact Ae.aA (Ad.aH.aA d0 (fun h=>h)) hN
   | exact Ad.aH.aA d0 (fun h=>h)
   | assumption)
  (first
   | (go_at_call 181;refine (aEA W.drew B CZ cs v ys EX Ce hn).mono ?_;rintro e w1 ⟨tv,rfl,⟨vals,Aa,Jg⟩,Ai,Ad⟩)
   | (go_at_call 177;refine (aAg sp _ p fp σ (h.aW sp.frame fun k hk=>(Af.trans Ad.aH (fun _ _ h=>h)).block k (AC k hk).2 (fun h=>h)) cs tv vals Aa Jg (fun k hk h=>by have h1:=(AC k h).2;have h2:W.heap.size≤k:=Ai k hk;have h3:=Af.size;omega) hw).mono ?_;rintro e w2 ⟨rfl,Ae,BV⟩))
 all_goals
  go_end0;obtain ⟨fp',h1,h2⟩:=BV;have BN:=(Af.trans Ad.aH (fun _ _ h=>h)).size
  exact ⟨rfl,((Af.trans Ad.aH (fun _ _ h=>h)).mono (fun _ _ h=>h.elim)).trans Ae (fun _ _ h=>h),fp',h1,fun k hk=>(h2 k hk).imp id (fun h=>by omega)⟩
theorem fJ.child {R':World→(Nat→Prop)→List Cell→Prop} {w w':World} {p:Nat} {fp fpc fpc':Nat→Prop} {σ:List Cell} {v:Value} (hp:w.heap[p]?=some (.cells #[v,.iface t u] 127 (0,0))) (Aa:w.ownsRow 0 24 1 v σ.length ((ends jI 0 σ).flatMap bY))
 (n1:v.ownBlock≠some p) (n2:¬ fpc p) (n3:∀ k,v.ownBlock=some k→¬ fpc k) (Aj:∀ k,fp k↔k=p∨v.ownBlock=some k∨fpc k) (hB:∀ k,fp k→B≤k)
 (hf:Fr fpc w w') (hR:R' w' fpc' (σ.flatMap Cell.items)) (hg:Grow w fpc fpc'):Fr fp w w'∧∃ fp',fJ B t u R' p w' fp' σ∧Grow w fp fp':=by
 have AZ:=aC hp;have FO:∀ k,v.ownBlock=some k→k<w.heap.size:=fun k hk=>aO Aa hk
 have ER:B≤p:=hB p ((Aj p).2 (.inl rfl))
 refine ⟨hf.mono (fun k _ h=>(Aj k).2 (.inr (.inr h))),fun k=>k=p∨v.ownBlock=some k∨fpc' k,⟨v,fpc',(hf.block p AZ n2).trans hp,hf.owns Aa n3,hR,n1,?_,?_,fun k=>Iff.rfl,?_⟩,?_⟩
 · intro h
   rcases hg p h with h|h
   · exact n2 h
   · omega
 · intro k hk h
   rcases hg k h with h|h
   · exact n3 k hk h
   · have:=FO k hk;omega
 · rintro k (rfl|hk|hk)
   · exact ER
   · exact hB k ((Aj k).2 (.inr (.inl hk)))
   · rcases hg k hk with h|h
     · exact hB k ((Aj k).2 (.inr (.inr h)))
     · omega
 · rintro k (rfl|hk|hk)
   · exact .inl ((Aj k).2 (.inl rfl))
   · exact .inl ((Aj k).2 (.inr (.inl hk)))
   · exact (hg k hk).imp (fun h=>(Aj k).2 (.inr (.inr h))) id
theorem aCL (sp:ColSpec Tryz.prog B t u T st R Rp) (w:World) (p:Nat) (fp:Nat→Prop) (σ:List Cell) (h:fJ B t u R p w fp σ) :
 Calls Tryz.prog 164 #[.pointer (some ⟨p,0,none⟩)] w fun e w'=>e=.returned .nilIface∧Fr fp w w'∧∃ fp',fJ B t u Rp p w' fp' σ∧Grow w fp fp':=by
 obtain ⟨v,fpc,hp,Aa,hR,n1,n2,n3,Aj,hB⟩:=h;have d1:w.cell? ⟨p,1,none⟩=some (.iface t u):=crw hp rfl;obtain ⟨q,EP,Dc⟩:=sp.prepare;have BX:=EP 59;have Dc:=Dc hR
 cases q with
 | false =>
  simp only[Bool.false_eq_true,if_false] at Dc BX;go_enter func164,ntmps164;go_wp2;go_ret
  exact ⟨rfl,Fr.refl _ _,fp,⟨v,fpc,hp,Aa,Dc,n1,n2,n3,Aj,hB⟩,fun k hk=>.inl hk⟩
 | true =>
  simp only[if_true] at Dc BX;go_enter func164,ntmps164
  go_wp2_with ((with_reducible show wpList _ _ _ (⟨some 16,_,_,_,_,_⟩ :: _) _ _);refine aT _ rfl _ _ _ _ rfl _ _ rfl Dc rfl ?_;rintro e w' ⟨rfl,Ad,FM⟩;refine ⟨_,rfl,?_⟩)
  go_ret;obtain ⟨fpc',h1,h2⟩:=FM
  exact ⟨rfl,fJ.child hp Aa n1 n2 n3 Aj hB Ad h1 h2⟩
theorem aHK (sp:ColSpec Tryz.prog B t u T st R Rp) (w:World) (p:Nat) (fpc:Nat→Prop) (τ:List Cell) (hR:Rp w fpc τ) (d1:w.cell? ⟨p,1,none⟩=some (.iface t u)) (b:Nat) (fb:Nat→Prop) (bs:List UInt8) (hb:Buf w b fb bs) (hd:∀ k,fpc k→¬ fb k) (hl:bs.length+st.length≤2147483648) :
 Calls Tryz.prog 163 #[.pointer (some ⟨p,0,none⟩),.pointer (some ⟨b,0,none⟩)] w fun e w'=>e=.returned (.tuple #[])∧Fr fb w w'∧∃ fb',Buf w' b fb' (bs++st)∧Grow w fb fb':=by
 obtain ⟨q,EP,BD⟩:=sp.state;have BX:=EP 59
 cases q with
 | false =>
  simp only[Bool.false_eq_true,if_false] at BD BX;subst BD;go_enter func163,ntmps163;go_wp2;go_end0
  exact ⟨rfl,Fr.refl _ w,fb,by simpa using hb,fun k hk=>.inl hk⟩
 | true =>
  simp only[if_true] at BD BX;have hi:=BD hR hb hd hl;go_enter func163,ntmps163
  go_wp2_with ((with_reducible show wpList _ _ _ (⟨some 17,_,_,_,_,_⟩ :: _) _ _);refine aT _ rfl _ _ _ _ rfl _ _ rfl hi rfl ?_;rintro e w' ⟨rfl,Ad,ED⟩;refine ⟨_,rfl,?_⟩)
  go_end0
  exact ⟨rfl,Ad,ED⟩
theorem dN (f:Cell→Nat) (n:Nat) (cs:List Cell):((ends f n cs).flatMap (aG 8)).length=8*cs.length:=by
 rw[aY _ 8 (aV 8 (by omega)),gB]
theorem aEy (sp:ColSpec Tryz.prog B t u T st R Rp) (w:World) (fpc:Nat→Prop) (σ:List Cell) (hR:Rp w fpc (σ.flatMap Cell.items)) (v:Value) (Aa:w.ownsRow 0 24 1 v σ.length ((ends jI 0 σ).flatMap bY)) (b:Nat) (fb:Nat→Prop) (bs:List UInt8) (hb:Buf w b fb bs) (hd:∀ k,fpc k→¬ fb k)
 (PM:∀ k,v.ownBlock=some k→¬ fb k) (hw:wts σ≤2147483648) (hl:bs.length+(enc (.arr T) σ).length≤1099511627776) :
 Calls Tryz.prog 162 #[.agg #[v,.iface t u],.pointer (some ⟨b,0,none⟩)] w fun e w'=>e=.returned (.tuple #[])∧Fr fb w w'∧∃ fb',Buf w' b fb' (bs++enc (.arr T) σ)∧Grow w fb fb':=by
 obtain ⟨a1,c1,rfl⟩:=ownsRow_shape Aa;rw[qK] at hl;rw[length_append,dN] at hl;have AC:=sp.lo' hR;have Ht:=jM σ;have Ir:=iL σ;have Fa:=bF (σ.flatMap Cell.items);have hA:F0 w (w.alloc (.cells #[.slice a1 σ.length c1,.iface t u] 127)):=(Fr.refl _ w).alloc _;have Hy:Rp (w.alloc (.cells #[.slice a1 σ.length c1,.iface t u] 127)) fpc (σ.flatMap Cell.items):=sp.frame' hR fun k hk=>Below.heap_alloc _ _ _ (AC k hk).2
 have FZ:Buf (w.alloc (.cells #[.slice a1 σ.length c1,.iface t u] 127)) b fb bs:=aJ.aW hb fun k hk=>Below.heap_alloc _ _ _ (aJ.lt hb k hk)
 have Qe:=hA.owns Aa (fun _ _ h=>h);have Df:∀ k,fb k→k<w.heap.size:=aJ.lt hb;have FB:=gB jI 0 σ;have DN:=zU _ b fb bs FZ a1 c1 (ends jI 0 σ) (by rw[FB];exact Qe) (by rw[FB];exact PM) (fun c hc=>by have:=qL jI 0 σ c hc;omega) (by rw[FB];omega);rw[FB] at DN;have q1:(w.alloc (.cells #[.slice a1 σ.length c1,.iface t u] 127)).cell? ⟨w.heap.size,1,none⟩=some (.iface t u):=by rw[aB rfl];rfl
 have Pz:¬ fb w.heap.size:=fun h=>by have:=Df _ h;omega
 have KQ:=dN jI 0 σ;go_enter func162,ntmps162
 go_wp2_with (first
  | (go_at_call 170;refine DN.mono ?_;rintro e w1 ⟨rfl,Ad,fb1,ED,ET⟩;have q2:=Ad.aA q1 Pz;have FI:=Ad.size;have hi:=sp.encode (sp.frame' Hy (w':=w1) fun k hk=>Ad.block k (sp.lo' Hy k hk).2 (hd k hk)) (show wts _≤_ by omega) ED (fun k hk h=>(ET k h).elim (hd k hk) (fun h=>by have:=(sp.lo' Hy k hk).2;omega)) (by rw[length_append,KQ];omega))
  | ((with_reducible show wpList _ _ _ (⟨some 11,_,_,_,_,_⟩ :: _) _ _);refine aT _ rfl _ _ _ _ rfl _ _ rfl hi rfl ?_;rintro e w2 ⟨rfl,Ae,fb2,Bj,BJ⟩;refine ⟨_,rfl,?_⟩))
 go_end0
 refine ⟨rfl,((hA.mono (fun _ _ h=>h.elim)).trans Ad (fun _ _ h=>h)).trans Ae (fun k hk h=>(ET k h).resolve_right (by simp;omega)),fb2,?_,fun k hk=>?_⟩
 · rw[qK,← append_assoc]
   exact Bj
 · rcases BJ k hk with h|h
   · rcases ET k h with h|h
     · exact .inl h
     · simp at h;exact .inr (by omega)
   · simp at FI;exact .inr (by omega)
end
theorem aDw {w:World} {a:Addr} {u v:Value} (h0:w.cell? a=some u) (h1:w.cell? (a.add 1)=some v):(loadVar 127 a).run Tryz.prog w=.ok (.agg #[u,v]) w:=by
 have h:(Tryz.prog.info? 127).map (·.size)=some 2:=by kernel_rfl
 obtain ⟨i,hi,hs⟩:=Option.map_eq_some_iff.1 h
 exact rH underlying127 hi hs h0 h1
theorem qA (p:Nat) (w:World) (name:String) (f:FuncId) (h:(name,f)=("Append",178)∨(name,f)=("AppendArr",179)) :
 (method mdp 76 (.agg #[.pointer (some ⟨p,0,none⟩)]) name).run Tryz.prog w=.ok (f,.agg #[.pointer (some ⟨p,0,none⟩)]) w:=by
 rcases h with h|h<;>(simp only[Prod.mk.injEq] at h;obtain ⟨rfl,rfl⟩:=h;kernel_rfl)
theorem qC (p:Nat) (w:World) (u v:Value) (h0:w.cell? ⟨p,0,none⟩=some u) (h1:w.cell? ⟨p,1,none⟩=some v) (name:String) (f:FuncId)
 (h:(name,f)=("Rows",167)∨(name,f)=("EncodeColumn",162)) :
 (method mdp 76 (.agg #[.pointer (some ⟨p,0,none⟩)]) name).run Tryz.prog w=.ok (f,.agg #[u,v]) w:=by
 obtain ⟨n,hn⟩:=fuel;rw[hn];have hr:=gU (P:=Tryz.prog) underlying73 (aDw h0 (by simpa [Addr.add] using h1));rcases h with h|h<;>(simp only[Prod.mk.injEq] at h;obtain ⟨rfl,rfl⟩:=h;exact eU (n:=n+1) false underlying76 rfl rfl (fun _=>by kernel_rfl) (by kernel_rfl) rfl hr)
theorem qB (p:Nat) (w:World) (name:String) (f:FuncId) (h:(name,f)=("Prepare",164)∨(name,f)=("EncodeState",163)) :
 (method mdp 76 (.agg #[.pointer (some ⟨p,0,none⟩)]) name).run Tryz.prog w=.ok (f,.pointer (some ⟨p,0,none⟩)) w:=by
 obtain ⟨n,hn⟩:=fuel;rw[hn];rcases h with h|h<;>(simp only[Prod.mk.injEq] at h;obtain ⟨rfl,rfl⟩:=h;exact eU (n:=n+1) true underlying76 rfl rfl (fun _=>by kernel_rfl) (by kernel_rfl) rfl (jT underlying73))
theorem aKc (w:World) (a:Option Addr) (n c:Nat) (x:Value) (hx:∃ t u,x=.iface t u):Calls Tryz.prog 167 #[.agg #[.slice a n c,x]] w fun e w'=>e=.returned (.int .i64 n)∧F0 w w':=by
 obtain ⟨t,u,rfl⟩:=hx;go_enter func167,ntmps167
 go_wp2_with (go_at_call 173;refine (zW _ a n c).mono ?_;rintro e w1 ⟨rfl,Ad⟩)
 go_ret
 exact ⟨rfl,((Fr.refl _ w).alloc _).trans Ad (fun _ _ h=>h)⟩
theorem aCO {B:Nat} {t:TypeId} {u:Value} {T:Ty} {st:List UInt8} {R Rp:World→(Nat→Prop)→List Cell→Prop} (sp:ColSpec Tryz.prog B t u T st R Rp) (p:Nat) :
 ColSpec Tryz.prog B 76 (.agg #[.pointer (some ⟨p,0,none⟩)]) (.arr T) st (fJ B t u R p) (fJ B t u Rp p) where
 lo:=fun h=>h.lt sp.lo
 lo':=fun h=>h.lt sp.lo'
 frame:=fun h hk=>h.aW sp.frame hk
 frame':=fun h hk=>h.aW sp.frame' hk
 append:=by
  intro w fp σ c vs h AQ hw
  exact aF.of1 (qA p w _ _ (.inl rfl)) call178 (aAh sp w p fp σ h c vs AQ hw)
 appendArr:=by
  intro w fp σ cs v xs h hs A8 hw
  exact aF.of1 (qA p w _ _ (.inr rfl)) call179 (tY sp w p fp σ h cs v xs hs A8 hw)
 rows:=by
  intro w fp σ h;obtain ⟨v,fpc,hp,Aa,_⟩:=h;obtain ⟨a,c,rfl⟩:=ownsRow_shape Aa
  exact aF.of0 (qC p w _ _ (crw hp rfl) (crw hp rfl) _ _ (.inl rfl)) call167 (aKc w a _ c _ ⟨_,_,rfl⟩)
 flat:=by rintro w name (rfl|rfl|rfl) n m<;>exact kK (by kernel_rfl) (n+1) (m+1)
 ahead:=fun w=>by kernel_rfl
 prepare:=⟨true,fun x w=>run_typeAssert_hasB underlying102 (by kernel_rfl) _ x w,fun {w fp σ} h=>by
  simp only[if_true]
  exact aF.of0 (qB p w _ _ (.inl rfl)) call164 (aCL sp w p fp σ h)⟩
 state:=⟨true,fun x w=>run_typeAssert_hasB underlying172 (by kernel_rfl) _ x w,by
  simp only[if_true];intro w fp σ b fb bs h hb hd hl;obtain ⟨v,fpc,hp,Aa,hR,n1,n2,n3,Aj,hB⟩:=h
  exact aF.of1 (qB p w _ _ (.inr rfl)) call163 (aHK sp w p fpc _ hR (crw hp rfl) b fb bs hb (fun k hk=>hd k ((Aj k).2 (.inr (.inr hk)))) hl)⟩
 encode:=by
  intro w fp σ b fb bs h hw hb hd hl;obtain ⟨v,fpc,hp,Aa,hR,n1,n2,n3,Aj,hB⟩:=h;obtain ⟨a,c,rfl⟩:=ownsRow_shape Aa
  exact aF.of1 (qC p w _ _ (crw hp rfl) (crw hp rfl) _ _ (.inr rfl)) call162
   (aEy sp w fpc σ hR _ Aa b fb bs hb (fun k hk=>hd k ((Aj k).2 (.inr (.inr hk)))) (fun k hk=>hd k ((Aj k).2 (.inr (.inl hk)))) hw hl)
section
variable {B:Nat} {t:TypeId} {u:Value} {T:Ty} {st:List UInt8} {R Rp:World→(Nat→Prop)→List Cell→Prop}
theorem aHL (sp:ColSpec Tryz.prog B t u T st R Rp) (cw:ColW Tryz.prog t u T R Rp) (w:World) (fpc:Nat→Prop) (σ:List Cell) (hR:Rp w fpc (σ.flatMap Cell.items)) (v:Value) (Aa:w.ownsRow 0 24 1 v σ.length ((ends jI 0 σ).flatMap bY))
 {conn:Value} {ps pw:Nat} {fw:Nat→Prop} {n:Nat} {out:List UInt8} (h:eG conn ps pw w fw n out) (hd:∀ k,fpc k→¬ fw k∧k≠ps)
 (PM:∀ k,v.ownBlock=some k→¬ fw k∧k≠ps) (hw:wts σ≤2147483648) (hl:out.length+(enc (.arr T) σ).length≤1099511627776) (hn:n+pcs (.arr T)≤1000000000) :
 Calls Tryz.prog 169 #[.agg #[v,.iface t u],.pointer (some ⟨pw,0,none⟩)] w (iR conn ps pw w fw (n+pcs (.arr T)) (out++enc (.arr T) σ)):=by
 obtain ⟨a1,c1,rfl⟩:=ownsRow_shape Aa;rw[qK] at hl;rw[length_append,dN] at hl;have AC:=sp.lo' hR;have Ht:=jM σ;have Ir:=iL σ;have Fa:=bF (σ.flatMap Cell.items);have hA:F0 w (w.alloc (.cells #[.slice a1 σ.length c1,.iface t u] 127)):=(Fr.refl _ w).alloc _;have Hy:Rp (w.alloc (.cells #[.slice a1 σ.length c1,.iface t u] 127)) fpc (σ.flatMap Cell.items):=sp.frame' hR fun k hk=>Below.heap_alloc _ _ _ (AC k hk).2
 have FZ:=h.quiet hA;have Ur:pcs (.arr T)=2+pcs T:=rfl;have Qe:=hA.owns Aa (fun _ _ h=>h);have Df:∀ k,fw k→k<w.heap.size:=h.lt;have FB:=gB jI 0 σ;have DN:=uX FZ a1 c1 (ends jI 0 σ) (by rw[FB];exact Qe) (by rw[FB];exact fun k hk=>(PM k hk).1) (fun c hc=>by have:=qL jI 0 σ c hc;omega) (by rw[dN];omega);rw[FB] at DN;have q1:(w.alloc (.cells #[.slice a1 σ.length c1,.iface t u] 127)).cell? ⟨w.heap.size,1,none⟩=some (.iface t u):=by rw[aB rfl];rfl
 have Pz:¬ fw w.heap.size:=fun h=>by have:=Df _ h;omega
 have KQ:=dN jI 0 σ;go_enter func169,ntmps169
 go_wp2_with (first
  | (go_at_call 174;refine DN.mono ?_;rintro e w1 ⟨rfl,Ad,fb1,ED,ET⟩;have q2:=Ad.aA q1 Pz;have FI:=Ad.size;have hi:=cw.write (sp.frame' Hy (w':=w1) fun k hk=>Ad.block k (sp.lo' Hy k hk).2 (hd k hk).1) (show wts _≤_ by omega) ED (fun k hk=>⟨fun h=>(ET k h).elim (hd k hk).1 (fun h=>by have:=(sp.lo' Hy k hk).2;omega),(hd k hk).2⟩) (by rw[length_append,KQ];omega) (by omega))
  | ((with_reducible show wpList _ _ _ (⟨some 11,_,_,_,_,_⟩ :: _) _ _);refine aT _ rfl _ _ _ _ rfl _ _ rfl hi rfl ?_;rintro e w2 ⟨rfl,Ae,fb2,Bj,BJ⟩;refine ⟨_,rfl,?_⟩))
 go_end0
 refine iR.from hA ⟨rfl,Ad.trans Ae (fun k hk h=>(ET k h).resolve_right (Nat.not_le_of_lt hk)),fb2,?_,fun k hk=>?_⟩
 · rw[qK,← append_assoc]
   exact Bj.more (by omega)
 · exact (BJ k hk).elim (ET k) (fun h=>.inr (Nat.le_trans FI h))
end
theorem aBI (f:Cell→Nat):∀ (n:Nat) (cs:List Cell) (k:Nat) (hk:k<cs.length),(ends f n cs)[k]'(by rw[gB];exact hk)=.mk (n+total f (cs.take (k+1))) 0 0 0 ⟨#[]⟩ false [] []
 | n,c :: cs,0,_=>by simp[ends,total]
 | n,c :: cs,k+1,hk=>by
  have:=aBI f (n+f c) cs k (by simpa using hk);simp only[ends,getElem_cons_succ,take_succ_cons,total];rw[this,Nat.add_assoc]
def jG (T:Ty) (is ds:List Cell):Prop:=∀ j (h1:j<ds.length) (h2:j<is.length),Made T is[j]→ds[j]=is[j]
theorem jG.snoc {T:Ty} {is ds:List Cell} {c:Cell} (h:jG T is ds) (hd:ds.length<is.length) (hc:Made T is[ds.length]→c=is[ds.length]):jG T is (ds++[c]):=fun j h1 h2 hm=>by
 rw[length_append,length_singleton] at h1
 by_cases hj:j<ds.length
 · rw[getElem_append_left hj]
   exact h j hj h2 hm
 · obtain rfl:j=ds.length:=by omega
   rw[getElem_append_right (Nat.le_refl _)]
   simpa using hc hm
theorem jG.all {T:Ty} {is ds:List Cell} (h:jG T is ds) (hd:ds.length=is.length) (hm:∀ x∈is,Made T x):ds=is :=
 ext_getElem hd fun j h1 h2=>h j h1 h2 (hm _ (getElem_mem h2))
section
variable {B:Nat} {t:TypeId} {u:Value} {T:Ty} {st:List UInt8} {R Rp:World→(Nat→Prop)→List Cell→Prop}
theorem aEz (sp:ColSpec Tryz.prog B t u T st R Rp) (cw:ColW Tryz.prog t u T R Rp) (w:World) (fpc:Nat→Prop) (τ:List Cell) (hR:R w fpc τ) (a1:Option Addr) (n c1 k s e:Nat) (hk:k<n) (hn:n≤2147483648) (GL:Wt T τ≤2147483648) (hs:k=0→s=0) (OZ:s≤e) (hl:e≤τ.length) (hτ:τ.length≤2147483648)
 (h1:∃ q o,a1=some ⟨q,o,none⟩∧w.cell? ⟨q,o+k,none⟩=some (.int .u64 e)∧(0<k→w.cell? ⟨q,o+(k - 1),none⟩=some (.int .u64 s))) :
 Calls Tryz.prog 172 #[.agg #[.slice a1 n c1,.iface t u],.int .i64 k,.slice none 0 0] w fun e' w'=>∃ v,e'=.returned v∧F0 w w'∧∃ ds,(∃ xs S,bU w.heap.size w' v (.slice none 0 0) ds [] xs [] S)∧ds.length=e - s∧jG T ((τ.drop s).take (e - s)) ds:=by
 obtain ⟨q,o,rfl,k1,k0⟩:=h1;have AC:=sp.lo hR;have hq:=World.block_lt_of_cell? w _ k1;simp only at hq;have ZU:(e:Int)<9223372036854775808:=by omega
 have KJ:=Lib.hid hl;have hτH:=Lib.hid hτ;have Ag:=fun W (Aw:F0 w W) (i:Nat) (hi:i<τ.length)=>cw.row hi (sp.frame hR fun q hq=>Aw.block q (AC q hq).2 (fun h=>h)) GL
 have Bq:=Lib.hid Ag;clear Ag;go_enter func172,ntmps172;have hA:F0 w (w.alloc (.cells #[.slice (some ⟨q,o,none⟩) n c1,.iface t u] 127)):=(Fr.refl _ w).alloc _;have Rz:(w.alloc (.cells #[.slice (some ⟨q,o,none⟩) n c1,.iface t u] 127)).cell? ⟨w.heap.size,1,none⟩=some (.iface t u):=by rw[aB rfl];rfl
 have Zu:(w.alloc (.cells #[.slice (some ⟨q,o,none⟩) n c1,.iface t u] 127)).heap.size=w.heap.size+1:=by simp
 by_cases J3:0<k
 · obtain ⟨p,hp⟩:∃ p,Hid (k=p+1):=⟨k - 1,Lib.hid (by omega)⟩
   have k00:=k0 J3;rw[show k - 1=p by have:=hp.out;omega] at k00;have DL:(k:Int) - 1=p:=by have:=hp.out;omega
   have QX:(k:Int)<n:=by omega
   have IE:(p:Int)<n:=by have:=hp.out;omega
   have Xc:(0:Int)<k:=by omega
   have l9:wrap64 (p:Int)=p:=wrap64_small (by omega);have V8:wrap64 (s:Int)=s:=wrap64_small (by omega);have JI:=Lib.hid hs;have Ig:=Lib.hid OZ;clear k0 AC hs OZ hl hτ hk hn
   go_wp2_with fail
   try go_simp
   go_loopw [2,9] (fun tv i wr=>∃ (m i0:Nat) (ds:List Cell) (xs:List Value) (S:Nat→Prop),i=.int .i64 i0∧i0≤e∧Hid (i0=s+m)∧bU (w.alloc (.cells #[.slice (some ⟨q,o,none⟩) n c1,.iface t u] 127)).heap.size wr tv (.slice none 0 0) ds [] xs [] S∧Hid (ds.length=m)∧jG T ((τ.drop s).take (e - s)) ds∧F0 (w.alloc (.cells #[.slice (some ⟨q,o,none⟩) n c1,.iface t u] 127)) wr) (fun _ i _=>e - (intOf i).toNat)
   case atStart=>exact ⟨0,s,[],[],_,rfl,Ig.out,Lib.hid rfl,bU.nil _ _,Lib.hid rfl,fun j h=>by simp at h,Fr.refl _ _⟩
   case round =>
    obtain ⟨m,i0,ds,xs,S,rfl,Xn,HY,BG,Gx,Kt,Ak⟩:=hrel;have Cj:=Ak.aA Rz (fun h=>h);have Cb:=hA.trans Ak (fun _ _ h=>h);obtain ⟨ta,tc,rfl⟩:=ownsRow_shape BG.oi;obtain ⟨dn,WF⟩:∃ dn,Hid (ds.length=dn):=⟨_,Lib.hid rfl⟩
    by_cases Ar:i0<e
    · have hi:=Bq.out wr Cb i0 (by have:=KJ.out;omega)
      have FW:(i0:Int)<e:=by omega
      have Cc:=Lib.hid BG;have Qu:=Lib.hid Kt;have Sr:ds.length+1≤2147483648:=by have:=Gx.out;have:=KJ.out;have:=hτH.out;have:=HY.out;omega
      clear BG Kt
      go_wp2_with (first
       | ((with_reducible show wpList _ _ _ (⟨some 35,_,_,_,_,_⟩ :: _) _ _);refine aT _ rfl _ _ _ _ rfl _ _ rfl hi rfl ?_;rintro e1 w3 ⟨x,xs',rfl,AV,hx,E8⟩;obtain ⟨ia,ic,ka,kc,ixs,kxs,rfl,-⟩:=(id hx).full;refine ⟨_,rfl,?_⟩)
       | ((with_reducible show wpList _ _ _ (⟨some 37,_,_,_,_,_⟩ :: _) _ _);(refine aP _ rfl jH _ _ rfl _ _ _ rfl ((Cc.out.fr AV (fun _ _ h=>h)).oi.alloc _) _ _ _ rfl (Src.ofSlice _ underlying31 _ _ _ _ rfl (bG _ [.int .u64 x.r0,.int .u64 x.r1,.int .u64 x.r2,.int .u64 x.r3,.string x.s,.bool x.null,.slice ia x.items.length ic,.slice ka x.keys.length kc] _) (by simp[Value.oneCell'])) ?_ ?_ ?_);(unfold maxLen;omega);omega;intro v' w4 ha;obtain ⟨a',c',rfl⟩:=ha.shape))
      go_roundw
      case rel =>
       obtain ⟨⟨S',EZ⟩,BU⟩:=bU.row Ak Cc.out AV hx ha
       refine ⟨m+1,i0+1,ds++[x],_,S',rfl,Ar,Lib.hid (by rw[HY.out];rfl),EZ,Lib.hid (by rw[length_append,Gx.out];rfl),Qu.out.snoc (by have:=HY.out;have:=KJ.out;rw[length_take,length_drop,Gx.out];omega) ?_,BU⟩;have e1:=Gx.out;have e2:=HY.out
       simpa [e1,← e2] using E8
      case measure=>simp[intOf];omega
    · have FW:¬ (i0:Int)<e:=by omega
      go_wp2;go_ret;have PL:ds.length=e - s:=by have:=Gx.out;have:=HY.out;have:=Ig.out;omega
      exact ⟨_,rfl,Cb,ds,⟨xs,S,BG.low (by simp)⟩,PL,Kt⟩
 · obtain rfl:k=0:=by omega
   have II:=Lib.hid (hs rfl);have QX:(0:Int)<n:=by omega
   rw[Nat.add_zero] at k1;have Ig:=Lib.hid OZ;clear k0 AC hs OZ hl hτ hk hn
   go_wp2_with fail
   try go_simp
   go_loopw [2,9] (fun tv i wr=>∃ (m i0:Nat) (ds:List Cell) (xs:List Value) (S:Nat→Prop),i=.int .i64 i0∧i0≤e∧Hid (i0=s+m)∧bU (w.alloc (.cells #[.slice (some ⟨q,o,none⟩) n c1,.iface t u] 127)).heap.size wr tv (.slice none 0 0) ds [] xs [] S∧Hid (ds.length=m)∧jG T ((τ.drop s).take (e - s)) ds∧F0 (w.alloc (.cells #[.slice (some ⟨q,o,none⟩) n c1,.iface t u] 127)) wr) (fun _ i _=>e - (intOf i).toNat)
   case atStart=>exact ⟨0,s,[],[],_,by rw[II.out];rfl,Ig.out,Lib.hid rfl,bU.nil _ _,Lib.hid rfl,fun j h=>by simp at h,Fr.refl _ _⟩
   case round =>
    obtain ⟨m,i0,ds,xs,S,rfl,Xn,HY,BG,Gx,Kt,Ak⟩:=hrel;have Cj:=Ak.aA Rz (fun h=>h);have Cb:=hA.trans Ak (fun _ _ h=>h);obtain ⟨ta,tc,rfl⟩:=ownsRow_shape BG.oi;obtain ⟨dn,WF⟩:∃ dn,Hid (ds.length=dn):=⟨_,Lib.hid rfl⟩
    by_cases Ar:i0<e
    · have hi:=Bq.out wr Cb i0 (by have:=KJ.out;omega)
      have FW:(i0:Int)<e:=by omega
      have Cc:=Lib.hid BG;have Qu:=Lib.hid Kt;have Sr:ds.length+1≤2147483648:=by have:=Gx.out;have:=KJ.out;have:=hτH.out;have:=HY.out;omega
      clear BG Kt
      go_wp2_with (first
       | ((with_reducible show wpList _ _ _ (⟨some 35,_,_,_,_,_⟩ :: _) _ _);refine aT _ rfl _ _ _ _ rfl _ _ rfl hi rfl ?_;rintro e1 w3 ⟨x,xs',rfl,AV,hx,E8⟩;obtain ⟨ia,ic,ka,kc,ixs,kxs,rfl,-⟩:=(id hx).full;refine ⟨_,rfl,?_⟩)
       | ((with_reducible show wpList _ _ _ (⟨some 37,_,_,_,_,_⟩ :: _) _ _);(refine aP _ rfl jH _ _ rfl _ _ _ rfl ((Cc.out.fr AV (fun _ _ h=>h)).oi.alloc _) _ _ _ rfl (Src.ofSlice _ underlying31 _ _ _ _ rfl (bG _ [.int .u64 x.r0,.int .u64 x.r1,.int .u64 x.r2,.int .u64 x.r3,.string x.s,.bool x.null,.slice ia x.items.length ic,.slice ka x.keys.length kc] _) (by simp[Value.oneCell'])) ?_ ?_ ?_);(unfold maxLen;omega);omega;intro v' w4 ha;obtain ⟨a',c',rfl⟩:=ha.shape))
      go_roundw
      case rel =>
       obtain ⟨⟨S',EZ⟩,BU⟩:=bU.row Ak Cc.out AV hx ha
       refine ⟨m+1,i0+1,ds++[x],_,S',rfl,Ar,Lib.hid (by rw[HY.out];rfl),EZ,Lib.hid (by rw[length_append,Gx.out];rfl),Qu.out.snoc (by have:=HY.out;have:=KJ.out;rw[length_take,length_drop,Gx.out];omega) ?_,BU⟩;have e1:=Gx.out;have e2:=HY.out
       simpa [e1,← e2] using E8
      case measure=>simp[intOf];omega
    · have FW:¬ (i0:Int)<e:=by omega
      go_wp2;go_ret;have PL:ds.length=e - s:=by have:=Gx.out;have:=HY.out;have:=Ig.out;omega
      exact ⟨_,rfl,Cb,ds,⟨xs,S,BG.low (by simp)⟩,PL,Kt⟩
theorem aNA (sp:ColSpec Tryz.prog B t u T st R Rp) (cw:ColW Tryz.prog t u T R Rp) (w:World) (fpc:Nat→Prop) (σ:List Cell) (hR:R w fpc (σ.flatMap Cell.items)) (v:Value) (Aa:w.ownsRow 0 24 1 v σ.length ((ends jI 0 σ).flatMap bY)) (hw:wts σ≤2147483648) (k:Nat) (hk:k<σ.length) :
 Calls Tryz.prog 166 #[.agg #[v,.iface t u],.int .i64 k] w fun e' w'=>∃ v,e'=.returned v∧F0 w w'∧∃ ds,(∃ xs S,bU w.heap.size w' v (.slice none 0 0) ds [] xs [] S)∧(Made (.arr T) σ[k]→ds=σ[k].items):=by
 have AC:=sp.lo hR;have Ht:=jM σ;have Fa:=bF (σ.flatMap Cell.items);have Gl:(σ.take (k+1)).flatMap Cell.items=(σ.take k).flatMap Cell.items++σ[k].items:=bQ Cell.items σ k hk;have Nb:(σ.flatMap Cell.items)=(σ.take (k+1)).flatMap Cell.items++(σ.drop (k+1)).flatMap Cell.items:=by rw[← flatMap_append,take_append_drop]
 have Xg:total jI (σ.take k)+σ[k].items.length=total jI (σ.take (k+1)):=by rw[iL,iL,Gl,length_append]
 have MM:total jI (σ.take (k+1))≤(σ.flatMap Cell.items).length:=by rw[iL,Nb,length_append];omega
 have I4:((σ.flatMap Cell.items).drop (total jI (σ.take k))).take σ[k].items.length=σ[k].items:=by
  rw[Nb,Gl,iL,append_assoc,drop_left,take_left]
 have FB:=gB jI 0 σ
 have Ac:∀ j (hj:j<σ.length),((ends jI 0 σ).flatMap bY)[j]?=some (.int .u64 (total jI (σ.take (j+1)))):=fun j hj=>by
  rw[kH _ j (by rw[FB];exact hj),aBI jI 0 σ j hj];simp[bY];show _=_
  rfl
 have hA:F0 w (w.alloc (.cells #[v,.iface t u] 127)):=(Fr.refl _ w).alloc _;have Hy:=sp.frame hR fun q hq=>hA.block q (AC q hq).2 (fun h=>h)
 have OV:=hA.owns Aa (fun _ _ h=>h);rcases OV.2 with ⟨rfl,h0⟩|⟨g,cap,cur,rfl,_,hg,BF,AP,_⟩
 · omega
 · have LD:=fun j u hj=>OV.cells (g:=g) rfl j u hj
   have Ri:=aEz sp cw _ fpc _ Hy (some ⟨g,0,none⟩) σ.length cap k (total jI (σ.take k)) (total jI (σ.take (k+1))) hk (by have:=bF σ;omega) (show wts _≤_ by omega) (fun h=>by rw[h];rfl) (by omega) MM (by omega)
    ⟨g,0,rfl,by have:=LD k _ (Ac k hk);rw[Addr.add_lit] at this;exact this,fun h0=>by have:=LD (k - 1) _ (Ac (k - 1) (by omega));rw[Addr.add_lit,Nat.sub_add_cancel h0] at this;exact this⟩
   rw[← Xg,Nat.add_sub_cancel_left,I4] at Ri;go_enter func166,ntmps166
   go_wp2_with (go_at_call 172;refine Ri.mono ?_;rintro e w1 ⟨v,rfl,Ad,ds,⟨xs,S,BG⟩,Tc,Kt⟩;have WE:=Lib.hid Tc;clear Tc;obtain ⟨ta,tc,rfl⟩:=ownsRow_shape BG.oi)
   go_ret
   refine ⟨.slice ta ds.length tc,rfl,hA.trans Ad (fun _ _ h=>h),ds,⟨xs,S,BG.low hA.size⟩,fun hm=>?_⟩;obtain ⟨is,hi,gq⟩:=hm
   exact Kt.all WE.out fun x hx=>gq x (by rw[hi] at hx;exact hx)
theorem aEB (sp:ColSpec Tryz.prog B t u T st R Rp) (cw:ColW Tryz.prog t u T R Rp) (w:World) (p:Nat) (fp:Nat→Prop) (σ:List Cell) (h:fJ B t u R p w fp σ) (hw:wts σ≤2147483648) (k:Nat) (hk:k<σ.length) :
 Calls Tryz.prog 180 #[.agg #[.pointer (some ⟨p,0,none⟩)],.int .i64 k] w fun e w'=>∃ c xs,e=.returned (.agg xs.toArray)∧F0 w w'∧bZ (New w w') w' c xs∧(Made (.arr T) σ[k]→c=σ[k]):=by
 obtain ⟨v,fpc,hp,Aa,hR,n1,n2,n3,Aj,hB⟩:=h;obtain ⟨a1,c1,rfl⟩:=ownsRow_shape Aa;have AC:=sp.lo hR;have AZ:=aC hp;have d0:w.cell? ⟨p,0,none⟩=some (.slice a1 σ.length c1):=crw hp rfl;have d1:w.cell? ⟨p,1,none⟩=some (.iface t u):=crw hp rfl;have Ag:=fun W (Aw:F0 w W)=>aNA sp cw W fpc σ (sp.frame hR fun q hq=>Aw.block q (AC q hq).2 (fun h=>h)) _ (Aw.owns Aa (fun _ _ h=>h)) hw k hk
 have Bq:=Lib.hid Ag;clear Ag;have NC:=fun w:World=>((Fr.refl (fun _=>False) w).alloc (.cells #[.pointer (some ⟨p,0,none⟩)] 76)).alloc (.cells #[.int .u64 0,.int .u64 0,.int .u64 0,.int .u64 0,.string ⟨#[]⟩,.bool false,.slice none 0 0,.slice none 0 0] 35)
 have hz:∀ w1,F0 ((w.alloc (.cells #[.pointer (some ⟨p,0,none⟩)] 76)).alloc (.cells #[.int .u64 0,.int .u64 0,.int .u64 0,.int .u64 0,.string ⟨#[]⟩,.bool false,.slice none 0 0,.slice none 0 0] 35)) w1 →
  w1.heap[w.heap.size+1]?=some (.cells #[.int .u64 0,.int .u64 0,.int .u64 0,.int .u64 0,.string ⟨#[]⟩,.bool false,.slice none 0 0,.slice none 0 0] 35 (0,0)):=fun w1 Ad=>Ad.made (by simp)
 go_enter func180,ntmps180
 go_wp2_with (go_at_call 166;refine (Bq.out _ (((Fr.refl _ w).alloc _).alloc _)).mono ?_;rintro e w1 ⟨v,rfl,Ad,ds,⟨xs,S,BG⟩,E8⟩;obtain ⟨ta,tc,rfl⟩:=ownsRow_shape BG.oi;have E5:=hz w1 Ad;have KN:=aC E5;obtain ⟨c0,c1,c2,c3,c4,c5,c6,c7⟩:=bD.eight (bD.of_block E5);have z0:=fzj 0 E5;have z1:=fzj 1 E5;have z2:=fzj 2 E5;have z3:=fzj 3 E5;have z4:=fzj 4 E5;have z5:=fzj 5 E5;have z6:=fzj 6 E5;have z7:=fzj 7 E5)
 refine bodyPost_ret (by simp[results,results180,go_sem,c0,c1,c2,c3,c4,c5,c6,c7];try rfl) rfl ?_
 refine ⟨_,_,rfl,and_assoc.1 ⟨New.fin (uI BG) (NC w).size ((NC w).trans Ad fun _ _ h=>h) (Fr.refl _ _) (by simp) (Nat.le_succ _) (Fr.zF _ _ _ _ _ _ _ _),fun hm=>?_⟩⟩;have he:=E8 hm;obtain ⟨is,hi,-⟩:=hm;rw[he,hi]
 rfl
theorem aBC (p:Nat) (w:World):(method mdp 76 (.agg #[.pointer (some ⟨p,0,none⟩)]) "Row").run Tryz.prog w=.ok (180,.agg #[.pointer (some ⟨p,0,none⟩)]) w:=by kernel_rfl
theorem aCN (p:Nat) (w:World) (u v:Value) (h0:w.cell? ⟨p,0,none⟩=some u) (h1:w.cell? ⟨p,1,none⟩=some v):(method mdp 76 (.agg #[.pointer (some ⟨p,0,none⟩)]) "WriteColumn").run Tryz.prog w=.ok (169,.agg #[u,v]) w:=by
 obtain ⟨n,hn⟩:=fuel;rw[hn]
 exact eU (n:=n+1) false underlying76 rfl rfl (fun _=>by kernel_rfl) (by kernel_rfl) rfl (gU (P:=Tryz.prog) underlying73 (aDw h0 (by simpa [Addr.add] using h1)))
theorem aCM (sp:ColSpec Tryz.prog B t u T st R Rp) (cw:ColW Tryz.prog t u T R Rp) (p:Nat):ColW Tryz.prog 76 (.agg #[.pointer (some ⟨p,0,none⟩)]) (.arr T) (fJ B t u R p) (fJ B t u Rp p) where
 write:=by
  intro conn ps pw w fp σ fw n out h hw CY hd hl hn;obtain ⟨v,fpc,hp,Aa,hR,n1,n2,n3,Aj,hB⟩:=h;obtain ⟨a,c,rfl⟩:=ownsRow_shape Aa
  exact aF.of1 (aCN p w _ _ (crw hp rfl) (crw hp rfl)) call169
   (aHL sp cw w fpc σ hR _ Aa CY (fun k hk=>hd k ((Aj k).2 (.inr (.inr hk)))) (fun k hk=>hd k ((Aj k).2 (.inr (.inl hk)))) hw hl hn)
 row:=fun {w fp σ k} hk h hw=>aF.of1 (aBC p w) call180 (aEB sp cw w p fp σ h hw k hk)
end
end Go.Proofs.YtcidlnjpabgioaaGreatDoor
