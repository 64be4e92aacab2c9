import Derived.Test.YtcidlnjpabgioaaGreatDoorUGTree
import Derived.Test.YtcidlnjpabgioaaGreatDoorUGArr
set_option maxHeartbeats 8000000
set_option maxRecDepth 100000
namespace Go.Proofs.YtcidlnjpabgioaaGreatDoor
open Tryz List Go.RowKit
def kQ (i:Nat) (σ:List Cell):List Cell:=σ.map fun c=>c.items.getD i Cell.zero
theorem nH (i:Nat) (a b:List Cell):kQ i (a++b)=kQ i a++kQ i b:=map_append
theorem vV (i:Nat) (a:List Cell):(kQ i a).length=a.length:=length_map _
theorem aHh:∀ (l:List Cell) (i:Nat),(l.getD i Cell.zero).wt≤1+wts l
 | [],i=>by
  have h0:(⟨#[]⟩:ByteArray).size=0:=rfl;simp only[getD_nil,Cell.zero,Cell.wt,wts,h0];omega
 | c :: l,0=>by rw[getD_cons_zero,wts];omega
 | c :: l,i+1=>by
  have:=aHh l i;rw[getD_cons_succ,wts];omega
theorem lM (i:Nat):∀ (σ:List Cell),wts (kQ i σ)≤wts σ
 | []=>Nat.le_refl _
 | c :: σ=>by
  have h1:=lM i σ;have h2:=aHh c.items i;have h3:=Cell.nS c;show wts (c.items.getD i Cell.zero :: kQ i σ)≤_;rw[wts,wts];omega
theorem nV:∀ (a:List Ty) (t:Ty) (j:Nat) (cs:List Cell),encs (a++[t]) j cs=encs a j cs++enc t (kQ (j+a.length) cs)
 | [],t,j,cs=>by simp[encs,kQ]
 | x :: a,t,j,cs=>by
  rw[cons_append,encs,encs,nV a t (j+1) cs,append_assoc,length_cons,show j+1+a.length=j+(a.length+1) by omega]
theorem zJ:∀ (a:List Ty) (t:Ty),sts (a++[t])=sts a++st t
 | [],t=>by simp[sts]
 | x :: a,t=>by rw[cons_append,sts,sts,zJ a t,append_assoc]
theorem jA {α:Type} (f:Nat→α) (k:Nat):(List.range (k+1)).map f=(List.range k).map f++[f k]:=by rw[range_succ,map_append];rfl
theorem aHg (f:Nat→Ty) (n:Nat) (cs:List Cell):∀ k,k≤n→(encs ((List.range k).map f) 0 cs).length≤(encs ((List.range n).map f) 0 cs).length:=by
 induction n with
 | zero=>intro k hk;rw[Nat.le_zero.1 hk];exact Nat.le_refl _
 | succ n ih =>
  intro k hk;rcases Nat.lt_or_ge n k with h|h
  · rw[show k=n+1 by omega];exact Nat.le_refl _
  · have:=ih k h
    rw[jA f n,nV,length_append];omega
theorem aPh (f:Nat→Ty) (n:Nat):∀ k,k≤n→(sts ((List.range k).map f)).length≤(sts ((List.range n).map f)).length:=by
 induction n with
 | zero=>intro k hk;rw[Nat.le_zero.1 hk];exact Nat.le_refl _
 | succ n ih =>
  intro k hk;rcases Nat.lt_or_ge n k with h|h
  · rw[show k=n+1 by omega];exact Nat.le_refl _
  · have:=ih k h
    rw[jA f n,zJ,length_append];omega
structure aNw (n:Nat) (Q:Nat→World→(Nat→Prop)→Prop) (w:World) (fs:Nat→Nat→Prop):Prop where
 has:∀ i,i<n→Q i w (fs i)
 ap:∀ i j,i<n→j<n→i≠j→∀ q,fs i q→¬ fs j q
theorem aNw.turn {n:Nat} {Q Q':Nat→World→(Nat→Prop)→Prop} {w w':World} {fs:Nat→Nat→Prop} {k:Nat} {f':Nat→Prop} (h:aNw n Q w fs) (hk:k<n) (Ar:∀ i,i<n→∀ q,fs i q→q<w.heap.size) (hf:Fr (fs k) w w') (hq:Q' k w' f') (hg:Grow w (fs k) f')
 (ho:∀ i,i<n→i≠k→Q i w (fs i)→(∀ q,fs i q→w'.heap[q]?=w.heap[q]?)→Q' i w' (fs i)):aNw n Q' w' (fun i=>if i=k then f' else fs i):=by
 refine ⟨fun i hi=>?_,fun i j hi hj PT q Qo Qp=>?_⟩
 · by_cases e:i=k
   · subst e;simpa using hq
   · simp only[if_neg e]
     exact ho i hi e (h.has i hi) (fun q hq=>hf.block q (Ar i hi q hq) (h.ap i k hi hk e q hq))
 · by_cases e1:i=k
   · have e2:j≠k:=fun e=>PT (e1.trans e.symm)
     simp only[if_pos e1,if_neg e2] at Qo Qp;rcases hg q Qo with h1|h1
     · exact h.ap k j hk hj (fun e=>e2 e.symm) q h1 Qp
     · have:=Ar j hj q Qp;omega
   · simp only[if_neg e1] at Qo
     by_cases e2:j=k
     · simp only[if_pos e2] at Qp
       rcases hg q Qp with h1|h1
       · exact h.ap i k hi hk e1 q Qo h1
       · have:=Ar i hi q Qo;omega
     · simp only[if_neg e2] at Qp
       exact h.ap i j hi hj PT q Qo Qp
def eF (B n:Nat) (K:Nat→Kid) (Q:Nat→World→(Nat→Prop)→Prop) (tv cv:Value) (w:World) (fp:Nat→Prop):Prop :=
 ∃ fs,w.ownsRow 0 502 1 tv n ((List.range n).map fun i=>(K i).v)∧w.ownsRow 0 59 1 cv n ((List.range n).map fun i=>(K i).v)∧aNw n Q w fs ∧
  (∀ i,i<n→∀ q,fs i q→(B≤q∧q<w.heap.size)∧tv.ownBlock≠some q∧cv.ownBlock≠some q)∧(∀ q,fp q↔tv.ownBlock=some q∨cv.ownBlock=some q∨∃ i,i<n∧fs i q)∧∀ q,fp q→B≤q
theorem rQ {w w':World} {base:Nat} {e:TypeId} {size:Nat} {v:Value} {n:Nat} {xs:List Value} (h:w.ownsRow base e size v n xs) (hk:∀ q,v.ownBlock=some q→w'.heap[q]?=w.heap[q]?):w'.ownsRow base e size v n xs:=by
 refine ⟨h.1,?_⟩;rcases h.2 with h0|⟨g,cap,cur,rfl,hb,GX,rest⟩
 · exact .inl h0
 · exact .inr ⟨g,cap,cur,rfl,hb,(hk g rfl).trans GX,rest⟩
namespace eF
open Tryz List
variable {B n:Nat} {K:Nat→Kid} {Q Q':Nat→World→(Nat→Prop)→Prop} {tv cv:Value} {w w':World} {fp:Nat→Prop}
theorem lt (h:eF B n K Q tv cv w fp):∀ q,fp q→B≤q∧q<w.heap.size:=by
 obtain ⟨fs,h1,h2,hm,hd,Aj,hB⟩:=h;intro q hq
 refine ⟨hB q hq,?_⟩;rcases (Aj q).1 hq with hq|hq|⟨i,hi,hq⟩
 · exact aO h1 hq
 · exact aO h2 hq
 · exact (hd i hi q hq).1.2
theorem aW (h:eF B n K Q tv cv w fp) (hk:∀ q,fp q→w'.heap[q]?=w.heap[q]?) (ho:∀ i,i<n→∀ f,Q i w f→(∀ q,f q→w'.heap[q]?=w.heap[q]?)→Q' i w' f):eF B n K Q' tv cv w' fp:=by
 obtain ⟨fs,h1,h2,hm,hd,Aj,hB⟩:=h
 refine ⟨fs,rQ h1 (fun q hq=>hk q ((Aj q).2 (.inl hq))),rQ h2 (fun q hq=>hk q ((Aj q).2 (.inr (.inl hq)))),⟨fun i hi=>ho i hi _ (hm.has i hi) (fun q hq=>hk q ((Aj q).2 (.inr (.inr ⟨i,hi,hq⟩)))),hm.ap⟩,fun i hi q hq=>?_,Aj,hB⟩;obtain ⟨⟨a,b⟩,c⟩:=hd i hi q hq
 exact ⟨⟨a,aC ((hk q ((Aj q).2 (.inr (.inr ⟨i,hi,hq⟩)))).trans (Array.getElem?_eq_getElem b))⟩,c⟩
theorem at_ (h:eF B n K Q tv cv w fp) {k:Nat} (hk:k<n):∃ fk,Q k w fk∧(∀ q,fk q→fp q∧B≤q∧q<w.heap.size) ∧
 ∀ {w':World} {Q':Nat→World→(Nat→Prop)→Prop} {f':Nat→Prop},Fr fk w w'→Q' k w' f'→Grow w fk f'→(∀ q,f' q→B≤q∧q<w'.heap.size)→(∀ i,i<n→i≠k→∀ f,Q i w f→(∀ q,f q→w'.heap[q]?=w.heap[q]?)→Q' i w' f) →
  ∃ fp',eF B n K Q' tv cv w' fp'∧Grow w fp fp':=by
 obtain ⟨fs,h1,h2,hm,hd,Aj,hB⟩:=h
 refine ⟨fs k,hm.has k hk,fun q hq=>⟨(Aj q).2 (.inr (.inr ⟨k,hk,hq⟩)),(hd k hk q hq).1⟩,fun {w' Q' f'} hf hq hg hl ho=>?_⟩;have hs:=hf.size;have TY:=hm.turn hk (fun i hi q hq=>(hd i hi q hq).1.2) hf hq hg (fun i hi MB hQ BB=>ho i hi MB _ hQ BB)
 refine ⟨fun q=>tv.ownBlock=some q∨cv.ownBlock=some q∨∃ i,i<n∧(if i=k then f' else fs i) q,⟨fun i=>if i=k then f' else fs i,hf.owns h1 (fun q hq h=>(hd k hk q h).2.1 hq),hf.owns h2 (fun q hq h=>(hd k hk q h).2.2 hq),TY,fun i hi q hq=>?_,fun q=>Iff.rfl,?_⟩,?_⟩
 · by_cases e:i=k
   · simp only[if_pos e] at hq
     refine ⟨hl q hq,?_⟩;rcases hg q hq with h|h
     · exact (hd k hk q h).2
     · exact ⟨fun e=>by have:=aO h1 e;omega,fun e=>by have:=aO h2 e;omega⟩
   · simp only[if_neg e] at hq
     obtain ⟨⟨a,b⟩,c⟩:=hd i hi q hq
     exact ⟨⟨a,by omega⟩,c⟩
 · rintro q (hq|hq|⟨i,hi,hq⟩)
   · exact hB q ((Aj q).2 (.inl hq))
   · exact hB q ((Aj q).2 (.inr (.inl hq)))
   · by_cases e:i=k
     · simp only[if_pos e] at hq;exact (hl q hq).1
     · simp only[if_neg e] at hq;exact (hd i hi q hq).1.1
 · rintro q (hq|hq|⟨i,hi,hq⟩)
   · exact .inl ((Aj q).2 (.inl hq))
   · exact .inl ((Aj q).2 (.inr (.inl hq)))
   · by_cases e:i=k
     · simp only[if_pos e] at hq
       exact (hg q hq).imp (fun h=>(Aj q).2 (.inr (.inr ⟨k,hk,h⟩))) id
     · simp only[if_neg e] at hq
       exact .inl ((Aj q).2 (.inr (.inr ⟨i,hi,hq⟩)))
theorem turn (h:eF B n K Q tv cv w fp) (ho:∀ i,i<n→∀ f,Q i w f→Q' i w f):eF B n K Q' tv cv w fp:=h.aW (fun _ _=>rfl) fun i hi f hq _=>ho i hi f hq
end eF
def sJ (K:Nat→Kid) (σ:List Cell):Nat→World→(Nat→Prop)→Prop:=fun i w f=>(K i).R w f (kQ i σ)
def pR (K:Nat→Kid) (σ:List Cell):Nat→World→(Nat→Prop)→Prop:=fun i w f=>(K i).Rp w f (kQ i σ)
def mP (K:Nat→Kid) (σ:List Cell) (c:Cell) (k:Nat):Nat→World→(Nat→Prop)→Prop:=fun i w f=>(K i).R w f (kQ i (if i<k then σ++[c] else σ))
def mO (K:Nat→Kid) (σ:List Cell) (k:Nat):Nat→World→(Nat→Prop)→Prop:=fun i w f=>if i<k then (K i).Rp w f (kQ i σ) else (K i).R w f (kQ i σ)
theorem aKx:mdp=783:=by kernel_rfl
section
variable {B n:Nat} {K:Nat→Kid} {tv cv:Value}
theorem zL (hK:∀ i,i<n→ColSpec Tryz.prog B (K i).t (K i).u (K i).T (st (K i).T) (K i).R (K i).Rp) (w:World) (Bd:B≤w.heap.size) (fp:Nat→Prop) (σ:List Cell) (h:eF B n K (sJ K σ) tv cv w fp) (c:Cell) (vs:List Value) (AQ:bP B w c vs) (hw:wts (σ++[c])≤2147483648) :
 Calls Tryz.prog 272 #[.agg #[tv,cv],.agg vs.toArray] w fun e w'=>e=.returned (.tuple #[])∧Fr fp w w'∧∃ fp',eF B n K (sJ K (σ++[c])) tv cv w' fp'∧Grow w fp fp':=by
 have AC:=h.lt
 obtain ⟨⟨a1,c1,rfl⟩,⟨a2,c2,rfl⟩,He⟩:(∃ a c,tv=.slice a n c)∧(∃ a c,cv=.slice a n c)∧n≤9223372036854775807:=by
  obtain ⟨fs,h1,h2,_⟩:=h
  refine ⟨ownsRow_shape h1,ownsRow_shape h2,?_⟩;rcases h1.2 with ⟨_,rfl⟩|⟨g,cap,cur,rfl,_,_,BF,AP,_⟩
  · omega
  · unfold maxLen at AP;omega
 obtain ⟨ia,ic,ka,kc,ixs,kxs,rfl,Hr,F7,-,-⟩:=AQ.full;obtain ⟨il,Fa⟩:∃ il,c.items.length=il:=⟨_,rfl⟩;rw[Fa] at Hr ⊢;generalize c.keys.length=kl;go_enter func272,ntmps272;go_wp2;generalize hW:(w.alloc _).alloc _=W;have Af:F0 w W:=by subst hW;exact ((Fr.refl _ w).alloc _).alloc _
 have D6:W.heap.size=w.heap.size+2:=by subst hW;simp
 have e6:W.cell? ⟨w.heap.size+1,6,none⟩=some (.slice ia il ic):=by subst hW;rw[aB (by simp)];rfl
 clear hW
 have J9:eF B n K (mP K σ c 0) (.slice a1 n c1) (.slice a2 n c2) W fp:=h.aW (fun q hq=>Af.block q (AC q hq).2 (fun h=>h)) fun i hi f hq BB=>by
  unfold mP;simp only[Nat.not_lt_zero,if_false]
  exact (hK i hi).frame hq BB
 go_loopw [4,5,9] (fun _ _ i wr=>∃ (k:Nat) (fpk:Nat→Prop),k≤n∧i=.int .i64 k∧eF B n K (mP K σ c k) (.slice a1 n c1) (.slice a2 n c2) wr fpk∧Grow W fp fpk∧Fr fp W wr) (fun _ _ i _=>n - (intOf i).toNat)
 case atStart=>exact ⟨0,fp,Nat.zero_le _,rfl,J9,fun k hk=>.inl hk,Fr.refl _ _⟩
 case round =>
  obtain ⟨k,fpk,hk,rfl,AL,hg,Ak⟩:=hrel
  by_cases Ar:k<n
  · have FQ:=AL
    obtain ⟨fs,Qc,Qd,-⟩:=FQ;rcases Qd.2 with ⟨hv,h0⟩|⟨g2,cap2,cur2,hv,-⟩
    · omega
    · simp only[Value.slice.injEq] at hv
      obtain ⟨rfl,_,rfl⟩:=hv;have Ac:=Qd.cells (g:=g2) rfl k (.iface (K k).t (K k).u) (by rw[getElem?_map,getElem?_range Ar];rfl);rw[Addr.add_lit,Nat.zero_add] at Ac;obtain ⟨fk,Jw,DW,Iu⟩:=AL.at_ Ar;unfold mP at Jw;simp only[Nat.lt_irrefl,if_false] at Jw
      have FX:∀ (w':World) (i:Nat),i<n→i≠k→∀ f,mP K σ c k i wr f→(∀ q,f q→w'.heap[q]?=wr.heap[q]?)→mP K σ c (k+1) i w' f:=by
       intro w' i hi MB f hq BB;unfold mP at hq ⊢;have e:(i<k+1)=(i<k):=by apply propext;omega
       simp only[e]
       exact (hK i hi).frame hq BB
      have Fh:=Ak.aA e6 (fun h=>absurd (AC _ h).2 (by show ¬ (w.heap.size+1<w.heap.size);omega))
      have Fg:Wt (K k).T (kQ k σ++[c.items.getD k Cell.zero])≤2147483648:=by
       have:=lM k (σ++[c]);rw[nH] at this
       exact Nat.le_trans this hw
      have Lm:B≤wr.heap.size:=by have:=Ak.size;omega
      have Fj:Fr fp w wr:=(Af.mono (fun _ _ h=>h.elim)).trans Ak (fun _ _ h=>h);have Bf:Below B w wr:=Fj.below Bd (fun q hq h=>by have:=(AC q h).1;omega);clear Qc Qd
      by_cases DT:k<il
      · have TQ:k<c.items.length:=by omega
        obtain ⟨b,off,cap',hv,FT,us,NK,hx⟩:=((Fa▸Hr:Sl B w 8 (.slice ia il ic) c.items.length ixs).below Bf).row (aI.below Bf _ _ F7) TQ;have JE:c.items.getD k Cell.zero=c.items[k]:=by rw[getD_eq_getElem?_getD,getElem?_eq_getElem TQ];rfl
        have BD:kQ k (σ++[c])=kQ k σ++[c.items[k]]:=by rw[nH];show _++[c.items.getD k Cell.zero]=_;rw[JE]
        rw[JE] at Fg;have Oo:=Lib.hid BD;generalize c.items[k]=d at NK Fg BD Oo;have kz:=NK;obtain ⟨ja,jl,jc,la,ll,lc,rfl,-⟩:=NK.open;simp only[Value.slice.injEq] at hv;obtain ⟨rfl,-,rfl⟩:=hv;have d0:=hx 0 _ rfl;have d1:=hx 1 _ rfl;have d2:=hx 2 _ rfl;have d3:=hx 3 _ rfl;have d4:=hx 4 _ rfl;have d5:=hx 5 _ rfl;have d6:=hx 6 _ rfl;have d7:=hx 7 _ rfl;simp only[Nat.add_zero] at d0;have hi:=(hK k Ar).append ((hK k Ar).frame (w':=wr.drew) Jw (fun _ _=>rfl)) (bP.below ((Below.refl B wr).drew) _ _ NK) Fg;have o9:(nilAhead 783 (K k).t (K k).u "Append").run Tryz.prog wr.drew=.ok (some false) wr.drew:=by rw[← aKx];exact (hK k Ar).ahead wr.drew
        clear hx NK F7 Hr BD JE;clear Fa;go_wp2
        go_region_law (first
         | (refine aK _ rfl ?_;refine bH _ _ _ _ _ rfl _ _ rfl hi rfl ?_;rintro e w2 ⟨rfl,Ae,f2,Ew,BJ⟩;refine ⟨_,rfl,?_⟩))
        all_goals
         have EW:=Ae.aH.size;obtain ⟨fp',Ep,EU⟩:=Iu (Q':=mP K σ c (k+1)) Ae.aH (by unfold mP;simp only[Nat.lt_succ_self,if_true];rw[Oo.out];exact Ew) BJ (fun q hq=>(hK k Ar).lo Ew q hq) (fun i hi MB f hq BB=>FX _ i hi MB f hq BB);go_wp2;go_roundw
         case rel =>
          refine ⟨k+1,fp',by omega,by go_num,Ep,fun q hq=>?_,Ak.trans Ae.aH (fun q hq h=>(hg q (DW q h).1).resolve_right (by omega))⟩;have:=Ak.size;rcases EU q hq with h|h
          · exact hg q h
          · exact .inr (by omega)
         case measure=>simp[intOf];omega
      · have JE:c.items.getD k Cell.zero=Cell.zero:=by rw[getD_eq_getElem?_getD,getElem?_eq_none (by omega)];rfl
        have Oo:=Lib.hid (show kQ k (σ++[c])=kQ k σ++[Cell.zero] by rw[nH];show _++[c.items.getD k Cell.zero]=_;rw[JE]);rw[JE] at Fg;have hi:=(hK k Ar).append Jw (bP.zero B wr) Fg;clear F7 Hr JE Fa
        go_wp2_with ((with_reducible show wpList _ _ _ (⟨some 31,_,_,_,_,_⟩ :: _) _ _);refine aT _ rfl _ _ _ _ rfl _ _ rfl hi rfl ?_;rintro e w2 ⟨rfl,Ae,f2,Ew,BJ⟩;refine ⟨_,rfl,?_⟩)
        have EW:=Ae.size;obtain ⟨fp',Ep,EU⟩:=Iu (Q':=mP K σ c (k+1)) Ae (by unfold mP;simp only[Nat.lt_succ_self,if_true];rw[Oo.out];exact Ew) BJ (fun q hq=>(hK k Ar).lo Ew q hq) (fun i hi MB f hq BB=>FX _ i hi MB f hq BB);go_roundw
        case rel =>
         refine ⟨k+1,fp',by omega,by go_num,Ep,fun q hq=>?_,Ak.trans Ae (fun q hq h=>(hg q (DW q h).1).resolve_right (by omega))⟩;have:=Ak.size;rcases EU q hq with h|h
         · exact hg q h
         · exact .inr (by omega)
        case measure=>simp[intOf];omega
  · have Bl:k=n:=by omega
    subst Bl;go_wp2;go_end0
    refine ⟨rfl,(Af.mono (fun _ _ h=>h.elim)).trans Ak (fun _ _ h=>h),fpk,AL.turn fun i hi f hq=>?_,fun q hq=>(hg q hq).imp id (fun h=>by omega)⟩;unfold mP at hq;rw[if_pos hi] at hq
    exact hq
end
section
variable {B n:Nat} {K:Nat→Kid} {tv cv:Value}
theorem eF.shape {Q:Nat→World→(Nat→Prop)→Prop} {w:World} {fp:Nat→Prop} (h:eF B n K Q tv cv w fp):(∃ a c,tv=.slice a n c)∧(∃ a c,cv=.slice a n c)∧n≤9223372036854775807:=by
 obtain ⟨fs,h1,h2,_⟩:=h
 refine ⟨ownsRow_shape h1,ownsRow_shape h2,?_⟩;rcases h1.2 with ⟨_,rfl⟩|⟨g,cap,cur,rfl,_,_,BF,AP,_⟩
 · omega
 · unfold maxLen at AP;omega
theorem eF.cell {Q:Nat→World→(Nat→Prop)→Prop} {w:World} {fp:Nat→Prop} (h:eF B n K Q tv cv w fp) {k:Nat} (hk:k<n):∃ g c,tv=.slice (some ⟨g,0,none⟩) n c∧n≤c∧w.cell? ⟨g,k,none⟩=some (.iface (K k).t (K k).u):=by
 obtain ⟨fs,Qc,Qd,_⟩:=h;rcases Qc.2 with ⟨hv,h0⟩|⟨g,cap,cur,rfl,_,_,BF,_⟩
 · omega
 · have Ac:=Qc.cells (g:=g) rfl k (.iface (K k).t (K k).u) (by rw[getElem?_map,getElem?_range hk];rfl)
   rw[Addr.add_lit,Nat.zero_add] at Ac
   exact ⟨g,cap,rfl,BF,Ac⟩
theorem aAG (hK:∀ i,i<n→ColSpec Tryz.prog B (K i).t (K i).u (K i).T (st (K i).T) (K i).R (K i).Rp) (w:World) (Bd:B≤w.heap.size) (fp:Nat→Prop) (σ:List Cell) (h:eF B n K (sJ K σ) tv cv w fp) (cs:List Cell) (v:Value) (ys:List Value) (hs:Sl B w 8 v cs.length ys) (A8:aI B w cs ys) (hw:wts (σ++cs)≤2147483648) :
 Calls Tryz.prog 273 #[.agg #[tv,cv],v] w fun e w'=>e=.returned (.tuple #[])∧Fr fp w w'∧∃ fp',eF B n K (sJ K (σ++cs)) tv cv w' fp'∧Grow w fp fp':=by
 have AC:=h.lt;have V7:=h.shape;have CB:=hs;obtain ⟨Dy,ao,cap,rfl,BF,AP,h0,ha⟩:=hs;unfold maxLen at AP;clear ha h0 Dy;obtain ⟨⟨a1,c1,rfl⟩,⟨a2,c2,rfl⟩,He⟩:=V7;go_enter func273,ntmps273;go_wp2;generalize hW:w.alloc _=W;have Af:F0 w W:=by subst hW;exact (Fr.refl _ w).alloc _
 have D6:W.heap.size=w.heap.size+1:=by subst hW;simp
 have q0:W.cell? ⟨w.heap.size,0,none⟩=some (.slice a1 n c1):=by subst hW;rw[aB (by simp)];rfl
 have q1:W.cell? ⟨w.heap.size,1,none⟩=some (.slice a2 n c2):=by subst hW;rw[aB (by simp)];rfl
 clear hW;have Dh:∀ {w w':World} {τ:List Cell},∀ i,i<n→∀ f,sJ K τ i w f→(∀ q,f q→w'.heap[q]?=w.heap[q]?)→sJ K τ i w' f:=fun i hi f hq BB=>(hK i hi).frame hq BB
 have J9:eF B n K (sJ K σ) (.slice a1 n c1) (.slice a2 n c2) W fp:=h.aW (fun q hq=>Af.block q (AC q hq).2 (fun h=>h)) Dh
 go_loopw [8] (fun i wr=>∃ (k:Nat) (fpk:Nat→Prop),k≤cs.length∧i=.int .i64 k∧eF B n K (sJ K (σ++cs.take k)) (.slice a1 n c1) (.slice a2 n c2) wr fpk∧Grow W fp fpk∧Fr fp W wr) (fun i _=>cs.length - (intOf i).toNat)
 case atStart=>exact ⟨0,fp,Nat.zero_le _,rfl,by simpa using J9,fun k hk=>.inl hk,Fr.refl _ _⟩
 case round =>
  obtain ⟨k,fpk,hk,rfl,AL,hg,Ak⟩:=hrel;have Fj:Fr fp w wr:=(Af.mono (fun _ _ h=>h.elim)).trans Ak (fun _ _ h=>h);have Bf:Below B w wr:=Fj.below Bd (fun q hq h=>by have:=(AC q h).1;omega);have Lm:B≤wr.heap.size:=by have:=Ak.size;omega
  by_cases Ar:k<cs.length
  · obtain ⟨b,off,cap',hv,FT,vs,AQ,Ac⟩:=(CB.below Bf).row (aI.below Bf _ _ A8) Ar
    have Ah:=Lib.hid (take_succ_eq_append_getElem Ar)
    have Fg:wts (σ++cs.take k++[cs[k]])≤2147483648:=by
     have:=iV (σ++cs) (σ.length+(k+1));rw[take_length_add_append,take_succ_eq_append_getElem Ar,← append_assoc] at this;omega
    generalize cs[k]=c at AQ Ah Fg;have Nr:=AQ;obtain ⟨ia,il,ic,ka,kl,kc,rfl,-⟩:=AQ.open;simp only[Value.slice.injEq] at hv;obtain ⟨rfl,-,rfl⟩:=hv;have d0:=Ac 0 _ rfl;have d1:=Ac 1 _ rfl;have d2:=Ac 2 _ rfl;have d3:=Ac 3 _ rfl;have d4:=Ac 4 _ rfl;have d5:=Ac 5 _ rfl;have d6:=Ac 6 _ rfl;have d7:=Ac 7 _ rfl;simp only[Nat.add_zero] at d0;have x0:=Ak.aA q0 (fun h=>absurd (AC _ h).2 (by show ¬ (w.heap.size<w.heap.size);omega));have x1:=Ak.aA q1 (fun h=>absurd (AC _ h).2 (by show ¬ (w.heap.size<w.heap.size);omega));have x0a:∀ o,(wr.alloc o).cell? ⟨w.heap.size,0,none⟩=some (.slice a1 n c1):=fun o=>(((Fr.refl (fun _=>False) wr).alloc o).aA x0 (fun h=>h))
    have x1a:∀ o,(wr.alloc o).cell? ⟨w.heap.size,1,none⟩=some (.slice a2 n c2):=fun o=>(((Fr.refl (fun _=>False) wr).alloc o).aA x1 (fun h=>h))
    have Fv:=AL.lt
    have Hz:=zL hK (wr.alloc (.cells #[.int .u64 c.r0,.int .u64 c.r1,.int .u64 c.r2,.int .u64 c.r3,.string c.s,.bool c.null,.slice ia il ic,.slice ka kl kc] 35)) (by simp;omega) fpk (σ++cs.take k)
     (AL.aW (fun q hq=>Below.heap_alloc _ _ _ (Fv q hq).2) Dh) c _ (bP.below ((Below.refl B wr).alloc Lm _) _ _ AQ) Fg
    clear Ac AQ A8 CB Dh
    go_wp2_with (go_at_call 272;refine Hz.mono ?_;rintro e w1 ⟨rfl,Ad,fp',FQ,I8⟩)
    go_roundw
    case rel =>
     refine ⟨k+1,fp',by omega,by go_num,?_,?_,?_⟩
     · rw[Ah.out,← append_assoc];exact FQ
     · intro q hq
       have:=Ak.size;rcases I8 q hq with h|h
       · exact hg q h
       · simp at h;exact .inr (by omega)
     · exact (Ak.alloc _).trans Ad (fun q hq h=>(hg q h).resolve_right (by omega))
    case measure=>simp[intOf];omega
  · have Bl:k=cs.length:=by omega
    subst Bl;rw[take_length] at AL;go_wp2;go_end0
    exact ⟨rfl,Fj,fpk,AL,fun q hq=>(hg q hq).imp id (fun h=>by omega)⟩
theorem aJy (h0:0<n) (w:World) (Q:Nat→World→(Nat→Prop)→Prop) (fp:Nat→Prop) (h:eF B n K Q tv cv w fp):Calls Tryz.prog 271 #[tv] w fun e w'=>e=.returned (.iface (K 0).t (K 0).u)∧w'=w:=by
 have V7:=h.shape.2.2;obtain ⟨g,c,rfl,BF,Ac⟩:=h.cell h0;clear h;go_enter func271,ntmps271;go_wp2;go_ret
 exact ⟨rfl,rfl⟩
theorem aMD (hK:∀ i,i<n→ColSpec Tryz.prog B (K i).t (K i).u (K i).T (st (K i).T) (K i).R (K i).Rp) (h0:0<n) (w:World) (fp:Nat→Prop) (σ:List Cell) (h:eF B n K (sJ K σ) tv cv w fp) :
 Calls Tryz.prog 268 #[tv] w fun e w'=>e=.returned (.int .i64 σ.length)∧F0 w w':=by
 have hf:=aJy h0 w _ fp h;obtain ⟨fk,hQ,-,-⟩:=h.at_ h0;have hi:=(hK 0 h0).rows hQ;rw[vV] at hi;clear h hQ;go_enter func268,ntmps268
 go_wp2_with (first
  | (go_at_call 271;refine hf.mono ?_;rintro e w1 ⟨rfl,rfl⟩)
  | ((with_reducible show wpList _ _ _ (⟨some 9,_,_,_,_,_⟩ :: _) _ _);refine aT _ rfl _ _ _ _ rfl _ _ rfl hi rfl ?_;rintro e w1 ⟨rfl,Ad⟩;refine ⟨_,rfl,?_⟩))
 go_ret
 exact ⟨rfl,Ad⟩
theorem aDT (hK:∀ i,i<n→ColSpec Tryz.prog B (K i).t (K i).u (K i).T (st (K i).T) (K i).R (K i).Rp) (w:World) (fp:Nat→Prop) (σ:List Cell) (h:eF B n K (sJ K σ) tv cv w fp) :
 Calls Tryz.prog 266 #[tv] w fun e w'=>e=.returned .nilIface∧Fr fp w w'∧∃ fp',eF B n K (pR K σ) tv cv w' fp'∧Grow w fp fp':=by
 obtain ⟨⟨a1,c1,rfl⟩,-,He⟩:=h.shape;have AC:=h.lt;have J9:eF B n K (mO K σ 0) (.slice a1 n c1) cv w fp:=h.turn fun i hi f hq=>by unfold mO;simp only[Nat.not_lt_zero,if_false];exact hq
 go_enter func266,ntmps266;go_wp2
 go_loopw [10] (fun i wr=>∃ (k:Nat) (fpk:Nat→Prop),k≤n∧i=.int .i64 k∧eF B n K (mO K σ k) (.slice a1 n c1) cv wr fpk∧Grow w fp fpk∧Fr fp w wr) (fun i _=>n - (intOf i).toNat)
 case atStart=>exact ⟨0,fp,Nat.zero_le _,rfl,J9,fun k hk=>.inl hk,Fr.refl _ _⟩
 case round =>
  obtain ⟨k,fpk,hk,rfl,AL,hg,Ak⟩:=hrel;have DX:=Ak.size
  by_cases Ar:k<n
  · obtain ⟨g,c,hv,BF,Ac⟩:=AL.cell Ar
    simp only[Value.slice.injEq,true_and] at hv;obtain ⟨rfl,rfl⟩:=hv
    have FX:∀ (w':World) (i:Nat),i<n→i≠k→∀ f,mO K σ k i wr f→(∀ q,f q→w'.heap[q]?=wr.heap[q]?)→mO K σ (k+1) i w' f:=by
     intro w' i hi MB f hq BB;unfold mO at hq ⊢;have e:(i<k+1)=(i<k):=by apply propext;omega
     simp only[e]
     split at hq
     · rw[if_pos (by assumption)];exact (hK i hi).frame' hq BB
     · rw[if_neg (by assumption)];exact (hK i hi).frame hq BB
    obtain ⟨fk,Jw,DW,Iu⟩:=AL.at_ Ar;unfold mO at Jw;simp only[Nat.lt_irrefl,if_false] at Jw;obtain ⟨q,EP,Dc⟩:=(hK k Ar).prepare;have BX:=EP 502;have Dc:=Dc Jw
    cases q with
    | false =>
     simp only[Bool.false_eq_true,if_false] at Dc BX;obtain ⟨fp',Ep,EU⟩:=Iu (Q':=mO K σ (k+1)) (w':=wr) (f':=fk) (Fr.refl _ _) (by unfold mO;simp only[Nat.lt_succ_self,if_true];exact Dc) (fun q hq=>.inl hq) (fun q hq=>(DW q hq).2) (fun i hi MB f hq BB=>FX _ i hi MB f hq BB);clear EP Iu FX AL J9;go_wp2;go_roundw
     case rel =>
      refine ⟨k+1,fp',by omega,by go_num,Ep,fun q hq=>?_,Ak⟩;rcases EU q hq with h|h
      · exact hg q h
      · exact .inr (by omega)
     case measure=>simp[intOf];omega
    | true =>
     simp only[if_true] at Dc BX;clear EP AL J9
     go_wp2_with ((with_reducible show wpList _ _ _ (⟨some 21,_,_,_,_,_⟩ :: _) _ _);refine aT _ rfl _ _ _ _ rfl _ _ rfl Dc rfl ?_;rintro e w2 ⟨rfl,Ae,f2,Ew,BJ⟩;refine ⟨_,rfl,?_⟩)
     have EW:=Ae.size;obtain ⟨fp',Ep,EU⟩:=Iu (Q':=mO K σ (k+1)) Ae (by unfold mO;simp only[Nat.lt_succ_self,if_true];exact Ew) BJ (fun q hq=>(hK k Ar).lo' Ew q hq) (fun i hi MB f hq BB=>FX _ i hi MB f hq BB);go_roundw
     case rel =>
      refine ⟨k+1,fp',by omega,by go_num,Ep,fun q hq=>?_,Ak.trans Ae (fun q hq h=>(hg q (DW q h).1).resolve_right (by omega))⟩;rcases EU q hq with h|h
      · exact hg q h
      · exact .inr (by omega)
     case measure=>simp[intOf];omega
  · have Bl:k=n:=by omega
    subst Bl;go_wp2;go_ret
    refine ⟨rfl,Ak,fpk,AL.turn fun i hi f hq=>?_,hg⟩;unfold mO at hq;rw[if_pos hi] at hq
    exact hq
theorem aJz (hK:∀ i,i<n→ColSpec Tryz.prog B (K i).t (K i).u (K i).T (st (K i).T) (K i).R (K i).Rp) (w:World) (fp:Nat→Prop) (σ:List Cell) (h:eF B n K (pR K σ) tv cv w fp) (b:Nat) (fb:Nat→Prop) (bs:List UInt8) (hb:Buf w b fb bs) (hd:∀ k,fp k→¬ fb k)
 (hl:bs.length+(sts ((List.range n).map fun i=>(K i).T)).length≤2147483648) :
 Calls Tryz.prog 265 #[tv,.pointer (some ⟨b,0,none⟩)] w fun e w'=>e=.returned (.tuple #[])∧Fr fb w w'∧∃ fb',Buf w' b fb' (bs++sts ((List.range n).map fun i=>(K i).T))∧Grow w fb fb':=by
 obtain ⟨⟨a1,c1,rfl⟩,-,He⟩:=h.shape;have AC:=h.lt;have Dh:∀ {w':World},∀ i,i<n→∀ f,pR K σ i w f→(∀ q,f q→w'.heap[q]?=w.heap[q]?)→pR K σ i w' f:=fun i hi f hq BB=>(hK i hi).frame' hq BB
 go_enter func265,ntmps265;go_wp2
 go_loopw [10] (fun i wr=>∃ (k:Nat) (fbk:Nat→Prop),k≤n∧i=.int .i64 k∧Buf wr b fbk (bs++sts ((List.range k).map fun i=>(K i).T))∧Grow w fb fbk∧Fr fb w wr) (fun i _=>n - (intOf i).toNat)
 case atStart=>exact ⟨0,fb,Nat.zero_le _,rfl,by simpa [sts] using hb,fun k hk=>.inl hk,Fr.refl _ _⟩
 case round =>
  obtain ⟨k,fbk,hk,rfl,Dz,hg,Ak⟩:=hrel;have DX:=Ak.size
  by_cases Ar:k<n
  · have AL:eF B n K (pR K σ) (.slice a1 n c1) cv wr fp:=h.aW (fun q hq=>Ak.block q (AC q hq).2 (hd q hq)) Dh
    obtain ⟨g,c,hv,BF,Ac⟩:=AL.cell Ar;simp only[Value.slice.injEq,true_and] at hv;obtain ⟨rfl,rfl⟩:=hv;obtain ⟨fk,Jw,DW,-⟩:=AL.at_ Ar;have NU:∀ q,fk q→¬ fbk q:=fun q hq h=>(hg q h).elim (hd q (DW q hq).1) (fun h=>by have:=(AC q (DW q hq).1).2;omega)
    have Gl:=aPh (fun i=>(K i).T) n (k+1) (by omega);have FY:=zJ ((List.range k).map fun i=>(K i).T) (K k).T;rw[← jA] at FY;obtain ⟨q,EP,BD⟩:=(hK k Ar).state;have BX:=EP 502;have KU:=Lib.hid FY;rw[FY,length_append] at Gl
    cases q with
    | false =>
     simp only[Bool.false_eq_true,if_false] at BD BX;clear EP AL Dh FY;go_wp2;go_roundw
     case rel =>
      refine ⟨k+1,fbk,by omega,by go_num,?_,hg,Ak⟩;rw[KU.out,BD,append_nil]
      exact Dz
     case measure=>simp[intOf];omega
    | true =>
     simp only[if_true] at BD BX;have hi:=BD Jw Dz NU (by rw[length_append];omega);clear EP AL Dh FY
     go_wp2_with ((with_reducible show wpList _ _ _ (⟨some 22,_,_,_,_,_⟩ :: _) _ _);refine aT _ rfl _ _ _ _ rfl _ _ rfl hi rfl ?_;rintro e w2 ⟨rfl,Ae,fb2,Bj,BJ⟩;refine ⟨_,rfl,?_⟩)
     have EW:=Ae.size;go_roundw
     case rel =>
      refine ⟨k+1,fb2,by omega,by go_num,?_,fun q hq=>?_,Ak.trans Ae (fun q hq h=>(hg q h).resolve_right (by omega))⟩
      · rw[KU.out,← append_assoc]
        exact Bj
      · rcases BJ q hq with h|h
        · exact hg q h
        · exact .inr (by omega)
     case measure=>simp[intOf];omega
  · have Bl:k=n:=by omega
    subst Bl;go_wp2;go_end0
    exact ⟨rfl,Ak,fbk,Dz,hg⟩
theorem aGu (hK:∀ i,i<n→ColSpec Tryz.prog B (K i).t (K i).u (K i).T (st (K i).T) (K i).R (K i).Rp) (w:World) (fp:Nat→Prop) (σ:List Cell) (h:eF B n K (pR K σ) tv cv w fp) (hw:wts σ≤2147483648) (b:Nat) (fb:Nat→Prop) (bs:List UInt8) (hb:Buf w b fb bs) (hd:∀ k,fp k→¬ fb k)
 (hl:bs.length+(encs ((List.range n).map fun i=>(K i).T) 0 σ).length≤1099511627776) :
 Calls Tryz.prog 264 #[tv,.pointer (some ⟨b,0,none⟩)] w fun e w'=>e=.returned (.tuple #[])∧Fr fb w w'∧∃ fb',Buf w' b fb' (bs++encs ((List.range n).map fun i=>(K i).T) 0 σ)∧Grow w fb fb':=by
 obtain ⟨⟨a1,c1,rfl⟩,-,He⟩:=h.shape;have AC:=h.lt;have Dh:∀ {w':World},∀ i,i<n→∀ f,pR K σ i w f→(∀ q,f q→w'.heap[q]?=w.heap[q]?)→pR K σ i w' f:=fun i hi f hq BB=>(hK i hi).frame' hq BB
 go_enter func264,ntmps264;go_wp2
 go_loopw [8] (fun i wr=>∃ (k:Nat) (fbk:Nat→Prop),k≤n∧i=.int .i64 k∧Buf wr b fbk (bs++encs ((List.range k).map fun i=>(K i).T) 0 σ)∧Grow w fb fbk∧Fr fb w wr) (fun i _=>n - (intOf i).toNat)
 case atStart=>exact ⟨0,fb,Nat.zero_le _,rfl,by simpa [encs] using hb,fun k hk=>.inl hk,Fr.refl _ _⟩
 case round =>
  obtain ⟨k,fbk,hk,rfl,Dz,hg,Ak⟩:=hrel;have DX:=Ak.size
  by_cases Ar:k<n
  · have AL:eF B n K (pR K σ) (.slice a1 n c1) cv wr fp:=h.aW (fun q hq=>Ak.block q (AC q hq).2 (hd q hq)) Dh
    obtain ⟨g,c,hv,BF,Ac⟩:=AL.cell Ar;simp only[Value.slice.injEq,true_and] at hv;obtain ⟨rfl,rfl⟩:=hv;obtain ⟨fk,Jw,DW,-⟩:=AL.at_ Ar;have NU:∀ q,fk q→¬ fbk q:=fun q hq h=>(hg q h).elim (hd q (DW q hq).1) (fun h=>by have:=(AC q (DW q hq).1).2;omega)
    have Gl:=aHg (fun i=>(K i).T) n σ (k+1) (by omega);have FY:=nV ((List.range k).map fun i=>(K i).T) (K k).T 0 σ;rw[← jA,length_map,length_range,Nat.zero_add] at FY;have KU:=Lib.hid FY;rw[FY,length_append] at Gl;have hi:=(hK k Ar).encode Jw (Nat.le_trans (lM k σ) hw) Dz NU (by rw[length_append];omega);clear AL Dh FY
    go_wp2_with ((with_reducible show wpList _ _ _ (⟨some 14,_,_,_,_,_⟩ :: _) _ _);refine aT _ rfl _ _ _ _ rfl _ _ rfl hi rfl ?_;rintro e w2 ⟨rfl,Ae,fb2,Bj,BJ⟩;refine ⟨_,rfl,?_⟩)
    have EW:=Ae.size;go_roundw
    case rel =>
     refine ⟨k+1,fb2,by omega,by go_num,?_,fun q hq=>?_,Ak.trans Ae (fun q hq h=>(hg q h).resolve_right (by omega))⟩
     · rw[KU.out,← append_assoc]
       exact Bj
     · rcases BJ q hq with h|h
       · exact hg q h
       · exact .inr (by omega)
    case measure=>simp[intOf];omega
  · have Bl:k=n:=by omega
    subst Bl;go_wp2;go_end0
    exact ⟨rfl,Ak,fbk,Dz,hg⟩
end
theorem sK (tv cv:Value) (w:World) (name:String) (f:FuncId) (h:(name,f)=("Append",272)∨(name,f)=("AppendArr",273)) :
 (method mdp 96 (.agg #[tv,cv]) name).run Tryz.prog w=.ok (f,.agg #[tv,cv]) w:=by
 rcases h with h|h<;>(simp only[Prod.mk.injEq] at h;obtain ⟨rfl,rfl⟩:=h;kernel_rfl)
theorem kG (tv cv:Value) (w:World) (name:String) (f:FuncId)
 (h:(name,f)=("Rows",268)∨(name,f)=("EncodeColumn",264)∨(name,f)=("Prepare",266)∨(name,f)=("EncodeState",265)) :
 (method mdp 96 (.agg #[tv,cv]) name).run Tryz.prog w=.ok (f,tv) w:=by
 obtain ⟨n,hn⟩:=fuel;rw[hn];rcases h with h|h|h|h<;>(simp only[Prod.mk.injEq] at h;obtain ⟨rfl,rfl⟩:=h;exact eU (n:=n+1) false underlying96 rfl rfl (fun _=>by kernel_rfl) (by kernel_rfl) rfl (dM underlying94 rfl))
theorem eF.base {B n:Nat} {K:Nat→Kid} {tv cv:Value} {Q:Nat→World→(Nat→Prop)→Prop} {w:World} {fp:Nat→Prop} (h0:0<n) (h:eF B n K Q tv cv w fp):B≤w.heap.size:=by
 obtain ⟨g,c,rfl,BF,Ac⟩:=h.cell h0;have hl:=h.lt;obtain ⟨fs,h1,h2,hm,hd,Aj,hB⟩:=h;have:=hl g ((Aj g).2 (.inl rfl));omega
theorem aDW {B n:Nat} {K:Nat→Kid} {tv cv:Value} (hK:∀ i,i<n→ColSpec Tryz.prog B (K i).t (K i).u (K i).T (st (K i).T) (K i).R (K i).Rp) (h0:0<n) :
 ColSpec Tryz.prog B 96 (.agg #[tv,cv]) (.tup ((List.range n).map fun i=>(K i).T)) (sts ((List.range n).map fun i=>(K i).T)) (fun w fp σ=>eF B n K (sJ K σ) tv cv w fp) (fun w fp σ=>eF B n K (pR K σ) tv cv w fp) where
 lo:=fun h=>h.lt
 lo':=fun h=>h.lt
 frame:=fun h hk=>h.aW hk fun i hi _ hq BB=>(hK i hi).frame hq BB
 frame':=fun h hk=>h.aW hk fun i hi _ hq BB=>(hK i hi).frame' hq BB
 append:=fun {w fp σ c vs} h AQ hw=>aF.of1 (sK tv cv w _ _ (.inl rfl)) call272 (zL hK w (h.base h0) fp σ h c vs AQ hw)
 appendArr:=fun {w fp σ cs v xs} h hs A8 hw=>aF.of1 (sK tv cv w _ _ (.inr rfl)) call273 (aAG hK w (h.base h0) fp σ h cs v xs hs A8 hw)
 rows:=fun {w fp σ} h=>aF.of0 (kG tv cv w _ _ (.inl rfl)) call268 (aMD hK h0 w fp σ h)
 flat:=by rintro w name (rfl|rfl|rfl) n m<;>exact kK (by kernel_rfl) (n+1) (m+1)
 ahead:=fun w=>by kernel_rfl
 prepare:=⟨true,fun x w=>run_typeAssert_hasB underlying102 (by kernel_rfl) _ x w,fun {w fp σ} h=>by
  simp only[if_true]
  exact aF.of0 (kG tv cv w _ _ (.inr (.inr (.inl rfl)))) call266 (aDT hK w fp σ h)⟩
 state:=⟨true,fun x w=>run_typeAssert_hasB underlying172 (by kernel_rfl) _ x w,by
  simp only[if_true];intro w fp σ b fb bs h hb hd hl
  exact aF.of1 (kG tv cv w _ _ (.inr (.inr (.inr rfl)))) call265 (aJz hK w fp σ h b fb bs hb hd hl)⟩
 encode:=by
  intro w fp σ b fb bs h hw hb hd hl;rw[enc] at hl ⊢
  exact aF.of1 (kG tv cv w _ _ (.inr (.inl rfl))) call264 (aGu hK w fp σ h hw b fb bs hb hd hl)
theorem uN:∀ (ts:List Ty) (t:Ty),oJ (ts++[t])=oJ ts+pcs t
 | [],t=>by simp[oJ]
 | s :: ts,t=>by rw[cons_append,oJ,oJ,uN ts t,Nat.add_assoc]
theorem aHv (f:Nat→Ty) (k:Nat):∀ (n:Nat),k≤n→oJ ((List.range k).map f)≤oJ ((List.range n).map f)
 | 0,h=>by obtain rfl:=Nat.le_zero.1 h;exact Nat.le_refl _
 | n+1,h=>by
  by_cases he:k=n+1
  · subst he;exact Nat.le_refl _
  · rw[jA,uN]
    exact Nat.le_trans (aHv f k n (by omega)) (Nat.le_add_right _ _)
section
variable {B n:Nat} {K:Nat→Kid} {tv cv:Value}
theorem aJA (hK:∀ i,i<n→ColSpec Tryz.prog B (K i).t (K i).u (K i).T (st (K i).T) (K i).R (K i).Rp) (hW:∀ i,i<n→ColW Tryz.prog (K i).t (K i).u (K i).T (K i).R (K i).Rp) (w:World) (fp:Nat→Prop) (σ:List Cell) (h:eF B n K (pR K σ) tv cv w fp) (hw:wts σ≤2147483648)
 {conn:Value} {ps pw:Nat} {fw:Nat→Prop} {N:Nat} {out:List UInt8} (hb:eG conn ps pw w fw N out) (hd:∀ k,fp k→¬ fw k∧k≠ps)
 (hl:out.length+(encs ((List.range n).map fun i=>(K i).T) 0 σ).length≤1099511627776) (hn:N+oJ ((List.range n).map fun i=>(K i).T)≤1000000000) :
 Calls Tryz.prog 270 #[tv,.pointer (some ⟨pw,0,none⟩)] w (iR conn ps pw w fw (N+oJ ((List.range n).map fun i=>(K i).T)) (out++encs ((List.range n).map fun i=>(K i).T) 0 σ)):=by
 obtain ⟨⟨a1,c1,rfl⟩,-,He⟩:=h.shape;have AC:=h.lt;have Dh:∀ {w':World},∀ i,i<n→∀ f,pR K σ i w f→(∀ q,f q→w'.heap[q]?=w.heap[q]?)→pR K σ i w' f:=fun i hi f hq BB=>(hK i hi).frame' hq BB
 go_enter func270,ntmps270;go_wp2
 go_loopw [8] (fun i wr=>∃ (k:Nat) (fbk:Nat→Prop),k≤n∧i=.int .i64 k∧eG conn ps pw wr fbk (N+oJ ((List.range k).map fun i=>(K i).T)) (out++encs ((List.range k).map fun i=>(K i).T) 0 σ)∧Grow w fw fbk∧Fr fw w wr) (fun i _=>n - (intOf i).toNat)
 case atStart=>exact ⟨0,fw,Nat.zero_le _,rfl,by simpa [encs,oJ] using hb,fun k hk=>.inl hk,Fr.refl _ _⟩
 case round =>
  obtain ⟨k,fbk,hk,rfl,Dz,hg,Ak⟩:=hrel;have DX:=Ak.size
  by_cases Ar:k<n
  · have AL:eF B n K (pR K σ) (.slice a1 n c1) cv wr fp:=h.aW (fun q hq=>Ak.block q (AC q hq).2 (hd q hq).1) Dh
    obtain ⟨g,c,hv,BF,Ac⟩:=AL.cell Ar;simp only[Value.slice.injEq,true_and] at hv;obtain ⟨rfl,rfl⟩:=hv;obtain ⟨fk,Jw,DW,-⟩:=AL.at_ Ar;have NU:∀ q,fk q→¬ fbk q∧q≠ps:=fun q hq=>⟨fun h=>(hg q h).elim (hd q (DW q hq).1).1 (fun h=>by have:=(AC q (DW q hq).1).2;omega),(hd q (DW q hq).1).2⟩
    have Gl:=aHg (fun i=>(K i).T) n σ (k+1) (by omega);have FY:=nV ((List.range k).map fun i=>(K i).T) (K k).T 0 σ;rw[← jA,length_map,length_range,Nat.zero_add] at FY;have KU:=Lib.hid FY;rw[FY,length_append] at Gl;have NJ:=uN (((List.range k).map fun i=>(K i).T)) (K k).T;rw[← jA] at NJ;have AZ:=aHv (fun i=>(K i).T) (k+1) n (by omega);have Oh:=Lib.hid NJ;have hi:=(hW k Ar).write Jw (Nat.le_trans (lM k σ) hw) Dz NU (by rw[length_append];omega) (by omega);clear AL Dh FY NJ AZ
    go_wp2_with ((with_reducible show wpList _ _ _ (⟨some 14,_,_,_,_,_⟩ :: _) _ _);refine aT _ rfl _ _ _ _ rfl _ _ rfl hi rfl ?_;rintro e w2 ⟨rfl,Ae,fb2,Bj,BJ⟩;refine ⟨_,rfl,?_⟩)
    have EW:=Ae.size;go_roundw
    case rel =>
     refine ⟨k+1,fb2,by omega,by go_num,?_,fun q hq=>?_,Ak.trans Ae (fun q hq h=>(hg q h).resolve_right (by omega))⟩
     · rw[KU.out,← append_assoc,Oh.out,← Nat.add_assoc]
       exact Bj
     · rcases BJ q hq with h|h
       · exact hg q h
       · exact .inr (by omega)
    case measure=>simp[intOf];omega
  · have Bl:k=n:=by omega
    subst Bl;go_wp2;go_end0
    exact ⟨rfl,Ak,fbk,Dz,hg⟩
end
theorem aDD:∀ (ts:List Ty) (is:List Cell),aAT ts is→is.length=ts.length∧∀ i t,ts[i]?=some t→Made t (is.getD i Cell.zero)
 | [],is,h=>by
  have:is=[]:=h;subst this
  exact ⟨rfl,fun i t h=>by simp at h⟩
 | t :: ts,is,h=>by
  obtain ⟨d,ds,rfl,h1,h2⟩:=h;obtain ⟨h3,h4⟩:=aDD ts ds h2
  refine ⟨by simp[h3],fun i s hs=>?_⟩
  cases i with
  | zero=>simp only[getElem?_cons_zero,Option.some.injEq] at hs;subst hs;simpa using h1
  | succ i=>simpa using h4 i s (by simpa using hs)
section
variable {B n:Nat} {K:Nat→Kid} {tv cv:Value}
theorem aGv (hK:∀ i,i<n→ColSpec Tryz.prog B (K i).t (K i).u (K i).T (st (K i).T) (K i).R (K i).Rp) (hW:∀ i,i<n→ColW Tryz.prog (K i).t (K i).u (K i).T (K i).R (K i).Rp) (w:World) (fp:Nat→Prop) (σ:List Cell) (h:eF B n K (sJ K σ) tv cv w fp) (hw:wts σ≤2147483648) (JY:n≤1000) (k:Nat) (hk:k<σ.length) :
 Calls Tryz.prog 274 #[.agg #[tv,cv],.int .i64 k] w fun e w'=>∃ c xs,e=.returned (.agg xs.toArray)∧F0 w w'∧bZ (New w w') w' c xs∧(Made (.tup ((List.range n).map fun i=>(K i).T)) σ[k]→c=σ[k]):=by
 have AC:=h.lt
 obtain ⟨⟨a1,c1,rfl⟩,⟨a2,c2,rfl⟩,He⟩:(∃ a c,tv=.slice a n c)∧(∃ a c,cv=.slice a n c)∧n≤9223372036854775807:=by
  obtain ⟨fs,h1,h2,_⟩:=h
  refine ⟨ownsRow_shape h1,ownsRow_shape h2,?_⟩;rcases h1.2 with ⟨_,rfl⟩|⟨g,cap,cur,rfl,_,_,BF,AP,_⟩
  · omega
  · unfold maxLen at AP;omega
 have Gu:=fun W (Aw:F0 w W)=>(h.aW (fun q hq=>Aw.block q (AC q hq).2 (fun h=>h)) fun i hi f hq BB=>(hK i hi).frame hq BB:eF B n K (sJ K σ) (.slice a1 n c1) (.slice a2 n c2) W fp)
 have Ag:∀ W,F0 w W→∀ i,i<n→aF Tryz.prog (.iface (K i).t (K i).u) "Row" #[.int .i64 k] W fun e w'=>∃ c xs,e=.returned (.agg xs.toArray)∧F0 W w'∧bZ (New W w') w' c xs∧(Made (K i).T (σ[k].items.getD i Cell.zero)→c=σ[k].items.getD i Cell.zero):=fun W Aw i hi=>by
  obtain ⟨fk,Jw,DW,-⟩:=(Gu W Aw).at_ hi;have:=(hW i hi).row (k:=k) (by rw[vV];exact hk) Jw (Nat.le_trans (lM i σ) hw)
  simpa only[kQ,getElem_map] using this
 have LH:∀ W,F0 w W→∀ i,i<n→∃ g2,a2=some ⟨g2,0,none⟩∧W.cell? ⟨g2,i,none⟩=some (.iface (K i).t (K i).u):=fun W Aw i hi=>by
  obtain ⟨fs,h1,h2,-⟩:=Gu W Aw;rcases h2.2 with ⟨hv,h0⟩|⟨g2,cap2,cur2,hv,-⟩
  · omega
  · simp only[Value.slice.injEq] at hv
    obtain ⟨rfl,-,rfl⟩:=hv;have Ac:=h2.cells (g:=g2) rfl i (.iface (K i).t (K i).u) (by rw[getElem?_map,getElem?_range hi];rfl);rw[Addr.add_lit,Nat.zero_add] at Ac
    exact ⟨g2,rfl,Ac⟩
 generalize σ[k]=rk at Ag ⊢;have Bq:=Lib.hid Ag;have PG:=Lib.hid LH;clear Ag LH AC h hk Gu;go_enter func274,ntmps274;go_wp2;generalize Ns:((w.alloc _).alloc _).alloc _=wA;have Ee:F0 w wA:=by subst Ns;exact (((Fr.refl _ w).alloc _).alloc _).alloc _
 have X9:wA.heap.size=w.heap.size+3:=by subst Ns;simp
 have Xk:wA.heap[w.heap.size+1+1]?=some (.cells #[.int .u64 0,.int .u64 0,.int .u64 0,.int .u64 0,.string ⟨#[]⟩,.bool false,.slice none 0 0,.slice none 0 0] 35 (0,0)):=by subst Ns;exact Fr.made (Fr.refl _ _) (by simp)
 have Vw:wA.heap[w.heap.size+1]?=some (.cells #[.int .u64 0,.int .u64 0,.int .u64 0,.int .u64 0,.string ⟨#[]⟩,.bool false,.slice none 0 0,.slice none 0 0] 35 (0,0)):=by subst Ns;exact Fr.made ((Fr.refl _ _).alloc _) (by simp)
 clear Ns
 go_loopw [11] (fun i wr=>∃ (j:Nat) (ds:List Cell) (tvv:Value) (xs:List Value) (S:Nat→Prop),i=.int .i64 j∧j≤n∧wr.heap[w.heap.size+1+1]?=some (.cells #[.int .u64 0,.int .u64 0,.int .u64 0,.int .u64 0,.string ⟨#[]⟩,.bool false,tvv,.slice none 0 0] 35 (0,0))∧bU wA.heap.size wr tvv (.slice none 0 0) ds [] xs [] S∧Hid (ds.length=j)∧Hid (∀ i (hi:i<ds.length),Made (K i).T (rk.items.getD i Cell.zero)→ds[i]=rk.items.getD i Cell.zero)∧Fr (fun q=>q=w.heap.size+1+1) wA wr) (fun i _=>n - (intOf i).toNat)
 case atStart=>exact ⟨0,[],_,[],_,rfl,Nat.zero_le _,Xk,bU.nil _ _,Lib.hid rfl,Lib.hid (fun i h=>by simp at h),Fr.refl _ _⟩
 case round =>
  obtain ⟨j,ds,tvv,xs,S,rfl,hj,Eu,BG,Vk,Kt,Ak⟩:=hrel;obtain ⟨ta,tc,rfl⟩:=ownsRow_shape BG.oi;have Cb:F0 w wr:=Ee.trans Ak (fun q hq h=>by have:q=w.heap.size+1+1:=h;omega)
  by_cases Ar:j<n
  · have FW:(j:Int)<n:=by omega
    obtain ⟨g2,rfl,Ac⟩:=PG.out wr Cb j Ar;have hi:=Bq.out wr.drew Cb.drew j Ar;have Sr:ds.length+1≤n:=by have:=Vk.out;omega
    have Cc:=Lib.hid BG;have c6:wr.cell? ⟨w.heap.size+1+1,6,none⟩=some (.slice ta ds.length tc):=crw Eu rfl;have z6:=fzj 6 Eu;have OU:=Lib.hid Eu;clear BG Eu
    go_wp2_with fail
    go_region_law
     (first
      | (refine aK _ rfl ?_;refine bH _ _ _ _ _ rfl _ _ rfl hi rfl ?_;rintro e1 w3 ⟨x,xs',rfl,DI,hx,E8⟩;have AV:=DI.aH;have c63:=AV.aA c6 (fun h=>h);have m3:=(AV.block _ (aC OU.out) (fun h=>h)).trans OU.out;have qf:=aC m3;obtain ⟨ia,ic,ka,kc,ixs,kxs,rfl,-⟩:=(id hx).full;refine ⟨_,rfl,?_⟩)
      | (refine aK _ rfl ?_;refine dJ _ jH _ _ rfl _ _ _ rfl ((Cc.out.fr AV (fun _ _ h=>h)).oi.alloc _) _ _ _ rfl (Src.ofSlice _ underlying31 _ _ _ _ rfl (bG _ [.int .u64 x.r0,.int .u64 x.r1,.int .u64 x.r2,.int .u64 x.r3,.string x.s,.bool x.null,.slice ia x.items.length ic,.slice ka x.keys.length kc] _) (by simp[Value.oneCell'])) ?_ ?_ ?_;(unfold maxLen;omega);omega;intro v' w4 ha;obtain ⟨a',c',rfl⟩:=ha.shape;have m4:=((Fr.gX ha.2.1).block _ (by have:=aC m3;simp;omega) (fun e=>by have:=Cc.out.li _ e;omega)).trans ((Below.heap_alloc _ _ _ (aC m3)).trans m3);have z64:=fzj 6 m4;have c64:w4.cell? ⟨w.heap.size+1+1,6,none⟩=some (.slice ta ds.length tc):=(crw m4 rfl)))
    all_goals
     obtain ⟨⟨S',EZ⟩,BU⟩:=bU.row Ak Cc.out AV (show bZ (New wr w3) w3 x _ from hx) ha;have BP:Fr (fun q=>q=w.heap.size+1+1) w4 (w4.setCell ⟨w.heap.size+1+1,6,none⟩ (.slice a' (ds.length+1) c')):=(Fr.refl (fun q=>q=w.heap.size+1+1) w4).setCell (p:=⟨w.heap.size+1+1,6,none⟩) (.inl rfl) _;go_wp2;go_roundw
     case rel =>
      refine ⟨j+1,ds++[x],_,_,S',rfl,Ar,lI.aPz m4,EZ.fr BP (fun q hq=>by show ¬ q=_;omega),Lib.hid (by rw[length_append,Vk.out];rfl),Lib.hid fun i hi hm=>?_,BU.trans BP (fun _ _ h=>h)⟩;rw[length_append,length_singleton] at hi
      by_cases PT:i<ds.length
      · rw[getElem_append_left PT]
        exact Kt.out i PT hm
      · obtain rfl:i=ds.length:=by omega
        rw[getElem_append_right (Nat.le_refl _)];have e1:=Vk.out
        simpa [e1] using E8 (by rw[e1] at hm;exact hm)
     case measure=>simp[intOf];omega
  · have FW:¬ (j:Int)<n:=by omega
    obtain ⟨c0,c1,c2,c3,c4,c5,c6,c7⟩:=bD.eight (bD.of_block Eu);have m1:=(Ak.block _ (aC Vw) (by show ¬ w.heap.size+1=w.heap.size+1+1;omega)).trans Vw;obtain ⟨d0,d1,d2,d3,d4,d5,d6,d7⟩:=bD.eight (bD.of_block m1);have z0:=fzj 0 m1;have z1:=fzj 1 m1;have z2:=fzj 2 m1;have z3:=fzj 3 m1;have z4:=fzj 4 m1;have z5:=fzj 5 m1;have z6:=fzj 6 m1;have z7:=fzj 7 m1;go_wp2
    refine bodyPost_ret (by simp[results,results274,go_sem,d0,d1,d2,d3,d4,d5,d6,d7];try rfl) rfl ?_
    refine ⟨_,_,rfl,and_assoc.1 ⟨New.fin (uI BG) (by omega) Cb (Fr.refl _ _) (by omega) (Nat.le_succ _) (Fr.zF _ _ _ _ _ _ _ _),fun hm=>?_⟩⟩;obtain ⟨is,rfl,gy⟩:=hm;obtain ⟨Fa,AL⟩:=aDD _ _ gy;rw[length_map,length_range] at Fa;have WF:ds.length=is.length:=by have:=Vk.out;omega
    have:ds=is:=ext_getElem WF fun i h1 h2=>by
     have:=Kt.out i h1 (AL i _ (by rw[getElem?_map,getElem?_range (by omega)];rfl));rw[this];show is.getD i Cell.zero=_;rw[getD_eq_getElem?_getD,getElem?_eq_getElem h2]
     rfl
    rw[this]
theorem aCt (tv cv:Value) (w:World):(method mdp 96 (.agg #[tv,cv]) "Row").run Tryz.prog w=.ok (274,.agg #[tv,cv]) w:=by kernel_rfl
theorem aDV (tv cv:Value) (w:World):(method mdp 96 (.agg #[tv,cv]) "WriteColumn").run Tryz.prog w=.ok (270,tv) w:=by
 obtain ⟨n,hn⟩:=fuel;rw[hn]
 exact eU (n:=n+1) false underlying96 rfl rfl (fun _=>by kernel_rfl) (by kernel_rfl) rfl (dM underlying94 rfl)
theorem aDU (hK:∀ i,i<n→ColSpec Tryz.prog B (K i).t (K i).u (K i).T (st (K i).T) (K i).R (K i).Rp) (hW:∀ i,i<n→ColW Tryz.prog (K i).t (K i).u (K i).T (K i).R (K i).Rp) (JY:n≤1000) :
 ColW Tryz.prog 96 (.agg #[tv,cv]) (.tup ((List.range n).map fun i=>(K i).T)) (fun w fp σ=>eF B n K (sJ K σ) tv cv w fp) (fun w fp σ=>eF B n K (pR K σ) tv cv w fp) where
 write:=by
  intro conn ps pw w fp σ fw N out h hw CY hd hl hn;rw[enc] at hl ⊢
  exact aF.of1 (aDV tv cv w) call270 (aJA hK hW w fp σ h hw CY hd hl hn)
 row:=fun {w fp σ k} hk h hw=>aF.of1 (aCt tv cv w) call274 (aGv hK hW w fp σ h hw JY k hk)
end
theorem aOI:ElT Tryz.prog 94 502 .nilIface 1 16:=⟨underlying94,info_parts (by kernel_rfl),rfl⟩
def Kid.none:Kid:=⟨0,.nilIface,.str,fun _ _ _=>False,fun _ _ _=>False,fun _=>False⟩
theorem zB {α β:Type} (f:α→β) (d:α):∀ (l:List α),(List.range l.length).map (fun i=>f (l.getD i d))=l.map f:=by
 intro l
 apply ext_getElem?
 intro i;rw[getElem?_map,getElem?_map]
 by_cases h:i<l.length
 · rw[getElem?_range h,getElem?_eq_getElem h]
   simp[getD_eq_getElem?_getD,getElem?_eq_getElem h]
 · rw[getElem?_eq_none (by simp;omega),getElem?_eq_none (by omega)]
   rfl
def aOF (T:Ty) (s:List UInt8) (B:Nat) (tv cv:Value) (w:World):Prop :=
 ∃ R Rp fp,pW Tryz.prog B 96 (.agg #[tv,cv]) T s R Rp∧R w fp []
theorem aMB {B B2:Nat} {wr w3:World} {ks:List Kid} {tv cv:Value} {n:Nat} (hn:ks.length=n) (EG:Kids B2 wr ks) (h0:0<n) (JY:n≤1000) (hB:B≤B2) (ou:B2≤wr.heap.size) (PK:wr.ownsRow 0 59 1 cv n (ks.map Kid.v)) (EC:∀ q,cv.ownBlock=some q→B2≤q) (KC:Apart cv ks)
 (GK:w3.ownsRow 0 502 1 tv n (ks.map Kid.v)) (Ir:∀ q,tv.ownBlock=some q→wr.heap.size<q) (EY:Below wr.heap.size wr w3) :
 aOF (.tup (ks.map Kid.T)) (sts (ks.map Kid.T)) B tv cv w3:=by
 subst hn;have Jb:∀ i (hi:i<ks.length),ks.getD i Kid.none=ks[i]:=fun i hi=>by simp[getD_eq_getElem?_getD,getElem?_eq_getElem hi]
 have Dj:∀ i,i<ks.length→ks.getD i Kid.none∈ks:=fun i hi=>by rw[Jb i hi];exact getElem_mem _
 have hT:(List.range ks.length).map (fun i=>(ks.getD i Kid.none).T)=ks.map Kid.T:=zB Kid.T Kid.none ks;have hV:(List.range ks.length).map (fun i=>(ks.getD i Kid.none).v)=ks.map Kid.v:=zB Kid.v Kid.none ks;have IJ:=EY.size;have G8:=aDW (B:=B) (n:=ks.length) (K:=fun i=>ks.getD i Kid.none) (tv:=tv) (cv:=cv) (fun i hi=>((EG.1 _ (Dj i hi)).1.low hB).toColSpec) h0;have V8:=aDU (B:=B) (n:=ks.length) (K:=fun i=>ks.getD i Kid.none) (tv:=tv) (cv:=cv) (fun i hi=>((EG.1 _ (Dj i hi)).1.low hB).toColSpec) (fun i hi=>(EG.1 _ (Dj i hi)).1.toColW) JY;rw[hT] at G8 V8;have G8:=pW.mk G8 V8
 refine ⟨_,_,fun q=>tv.ownBlock=some q∨cv.ownBlock=some q∨∃ i,i<ks.length∧(ks.getD i Kid.none).fp q,G8,fun i=>(ks.getD i Kid.none).fp,by rw[hV];exact GK,by rw[hV];exact (Below.fr EY).owns PK (fun _ _ h=>h),⟨fun i hi=>?_,fun i j hi hj PT q hq OX=>?_⟩,fun i hi q hq=>?_,fun q=>Iff.rfl,?_⟩
 · obtain ⟨YI,XY⟩:=EG.1 _ (Dj i hi)
   show (ks.getD i Kid.none).R w3 (ks.getD i Kid.none).fp (kQ i [])
   exact YI.frame XY fun q hq=>EY.block q (YI.lo XY q hq).2
 · rw[Jb i hi] at hq
   rw[Jb j hj] at OX;rcases Nat.lt_or_gt_of_ne PT with h|h
   · exact (pairwise_iff_getElem.1 EG.2) i j hi hj h q hq OX
   · exact (pairwise_iff_getElem.1 EG.2) j i hj hi h q OX hq
 · have hl:=EG.lt (Dj i hi) hq
   refine ⟨⟨by omega,by omega⟩,fun h=>?_,fun h=>KC _ (Dj i hi) q hq h⟩;have:=Ir q h;omega
 · rintro q (h|h|⟨i,hi,hq⟩)
   · have:=Ir q h;omega
   · have:=EC q h;omega
   · have:=(EG.lt (Dj i hi) hq).1;omega
theorem aMA (ts:List Ty) (Oq:ts≠[]) (MK:ts.length≤1000) (D7:∀ x∈ts,iE x) (hf:oM ts) (hn:(texts ts).length≤900000):iE (.tup ts):=by
 intro w Dk;obtain ⟨LS,Hw⟩:∃ LS,Hid (LS=ts.map text):=⟨_,Lib.hid rfl⟩;have Ik:Hid (LS.length=ts.length):=Lib.hid (by rw[Hw.out,length_map]);have RF:LS.length≤1000:=by rw[Ik.out];exact MK
 have Hf:Calls Tryz.prog 31 #[.string (bJ (text (.tup ts)))] w (lT [84,117,112,108,101] LS w):=by
  rw[text]
  exact jF w Dk [84,117,112,108,101] (texts ts) LS (by unfold gI;decide) (by simp;omega) (nM ts hf Oq).2 (by rw[Hw.out];exact (vY ts hf Oq).1)
 generalize bJ (text (.tup ts))=txt at Hf;go_enter func23,ntmps23
 go_wp2_with (go_at_call 31;refine Hf.mono ?_;rintro e w1 ⟨nm,v,rfl,hl,⟨Aa,Ai⟩,hb⟩;obtain ⟨av,cv,rfl⟩:=ownsRow_shape Aa)
 go_loopw [5,21] (fun l i wr=>∃ (k:Nat) (ks:List Kid),k≤LS.length∧i=.int .i64 k∧wr.ownsRow 0 59 1 l k (ks.map Kid.v)∧(∀ q,l.ownBlock=some q→w1.heap.size≤q)∧Apart l ks∧Kids w1.heap.size wr ks∧ks.map Kid.T=ts.take k∧Below w1.heap.size w1 wr) (fun _ i _=>LS.length - (intOf i).toNat)
 case atStart=>exact ⟨0,[],Nat.zero_le _,rfl,World.ownsRow_nil _ _ _ _,by simp[Value.ownBlock],by simp[Apart],Kids.nil _ _,rfl,Below.refl _ _⟩
 case round =>
  obtain ⟨k,ks,hk,rfl,Bo,EC,KC,EG,Eh,Bf⟩:=hrel;obtain ⟨la,lc,rfl⟩:=ownsRow_shape Bo;have CG:=Bf.size
  by_cases Ar:k<LS.length
  · have DT:k<ts.length:=by rw[← Ik.out];exact Ar
    have Ah:=Lib.hid (take_succ_eq_append_getElem DT);have Dj:ts[k]∈ts:=getElem_mem _;have Ij:LS[k]?=some (text ts[k]):=by rw[Hw.out,getElem?_map,getElem?_eq_getElem DT];rfl
    generalize ts[k]=tk at Ah Dj Ij;have Ap:=(Below.fr Bf).owns Aa (fun _ _ h=>h);rcases Ap.2 with ⟨hv,h0⟩|⟨ga,capa,cura,hv,_,_,BF,AP,_⟩
    · omega
    · simp only[Value.slice.injEq] at hv
      obtain ⟨rfl,_,rfl⟩:=hv;have Ac:=Ap.cells (g:=ga) rfl k (.string (bJ (text tk))) (by rw[getElem?_map,Ij];rfl);rw[Addr.add_lit,Nat.zero_add] at Ac;have Bg:=D7 tk Dj wr ((Dk.below hb).below Bf);have MM:=fun q (h:(Value.slice la k lc).ownBlock=some q)=>aO Bo h
      have JF:=Lib.hid Eh;unfold maxLen at AP;clear Dj Ij Ap Eh Ai Aa
      go_wp2_with (first
       | (go_at_call 23;refine Bg.mono ?_;rintro e w2 ⟨t,u,R,Rp,fp,rfl,cs,hR,Bj⟩;have BR:=(Below.fr Bj).owns Bo (fun _ _ h=>h))
       | ((with_reducible show wpList _ _ _ (⟨some 32,_,_,_,_,_⟩ :: _) _ _);refine aP _ rfl qH _ _ rfl _ _ _ rfl (BR.alloc _) _ _ _ rfl (Src.ofSlice _ underlying72 _ _ _ _ rfl (bG _ [.iface t u] _) (by simp[Value.oneCell'])) ?_ ?_ ?_;(unfold maxLen;omega);omega;intro v' w3 ha;obtain ⟨a',c',rfl⟩:=ha.shape))
      go_roundw
      case rel =>
       have EH:=Kids.more EG CG Bj (k:=⟨t,u,tk,R,Rp,fp⟩) cs hR MM KC ha
       refine ⟨k+1,ks++[⟨t,u,tk,R,Rp,fp⟩],by omega,by go_num,?_,?_,EH.2,EH.1,?_,?_⟩
       · rw[map_append]
         exact ha.1
       · intro q hq
         rcases ha.2.2 with e|⟨e,-⟩
         · exact EC q (e.symm.trans hq)
         · rw[e] at hq
           simp only[Option.some.injEq] at hq;have:=Bj.size;simp at hq;omega
       · rw[map_append,JF.out,Ah.out]
         rfl
       · exact Bf.trans ((((Below.fr Bj).alloc _).mono (S':=fun q=>w1.heap.size≤q) (fun _ _ h=>h.elim)).grown ha.2.1 (fun q hq=>.inl (EC q hq)) |>.below CG (fun q hq h=>by omega))
      case measure=>simp[intOf];omega
  · have DT:k=ts.length:=by rw[← Ik.out];omega
    subst DT;rw[take_length] at Eh;have AA:ks.length=ts.length:=by rw[← length_map (f:=Kid.T),Eh]
    clear D7 Ai Aa;have Qm:0<ts.length:=length_pos_iff.2 Oq;have Dz:ts.length≤1000:=MK;have Xd:=Lib.hid Eh;have Iq:=Lib.hid AA;clear Eh AA Oq MK hf hn;generalize hN:ts.length=N at Bo Qm Dz Iq Ik Ar hk ⊢;rcases Bo.2 with ⟨hv,h0⟩|⟨ga,capa,cura,hv,_,_,BF,AP,_⟩
    · omega
    · simp only[Value.slice.injEq] at hv
      obtain ⟨rfl,_,rfl⟩:=hv;unfold maxLen at AP;have Y8:(0:Int)<N:=by omega
      clear hN;obtain ⟨wo,QD⟩:∃ wo,wo=wr:=⟨_,rfl⟩;subst QD
      go_wp2_with fail
      generalize hX:wo.alloc _=X;have ZI:X.heap[wo.heap.size]?=some (.cells #[.slice none 0 0,.slice (some ⟨ga,0,none⟩) N lc] 96 (0,0)):=by subst hX;exact heap_alloc_new wo _
      have ZH:Below wo.heap.size wo X:=by subst hX;exact (Below.refl _ wo).alloc (Nat.le_refl _) _
      clear hX
      go_loopw [109] (fun i w'=>∃ (k:Nat) (tv:Value),k≤N∧i=.int .i64 k∧w'.heap[wo.heap.size]?=some (.cells #[tv,.slice (some ⟨ga,0,none⟩) N lc] 96 (0,0))∧w'.ownsRow 0 502 1 tv k ((ks.take k).map Kid.v)∧(∀ q,tv.ownBlock=some q→wo.heap.size<q)∧Below wo.heap.size wo w') (fun i _=>N - (intOf i).toNat)
      case atStart=>exact ⟨0,.slice none 0 0,Nat.zero_le _,rfl,ZI,World.ownsRow_nil _ _ _ _,by simp[Value.ownBlock],ZH⟩
      case round =>
       obtain ⟨j,tv,hj,rfl,Dc,GK,Ir,JR⟩:=hrel;have Gs:=JR.size;have Am:tv.ownBlock≠some wo.heap.size:=fun h=>by have:=Ir _ h;omega
       have AZ:=aC Dc
       by_cases QW:j<N
       · obtain ⟨ta,tc,rfl⟩:=ownsRow_shape GK
         have QV:j<ks.length:=by rw[Iq.out];exact QW
         have Ac:wr.cell? ⟨ga,j,none⟩=some (.iface ks[j].t ks[j].u):=by
          have h1:=Bo.cells (g:=ga) rfl j (.iface ks[j].t ks[j].u) (by rw[getElem?_map,getElem?_eq_getElem QV];rfl);rw[Addr.add_lit,Nat.zero_add] at h1
          exact (JR.cell (p:=⟨ga,j,none⟩) (aO Bo rfl)).trans h1
         have Ah:=Lib.hid (take_succ_eq_append_getElem QV);generalize ks[j]=kj at Ac Ah;have d0:wr.cell? ⟨wo.heap.size,0,none⟩=some (.slice ta j tc):=crw Dc rfl;have hd:=Lib.hid Dc;clear AP Bo EG
         go_wp2_with ((with_reducible show wpList _ _ _ (⟨some 117,_,_,_,_,_⟩ :: _) _ _);refine aP _ rfl aOI _ _ rfl _ _ _ rfl (GK.alloc _) _ _ _ rfl (Src.ofSlice _ underlying94 _ _ _ _ rfl (bG _ [.iface kj.t kj.u] _) (by simp[Value.oneCell'])) ?_ ?_ ?_;(unfold maxLen;omega);omega;intro v' w3 ha;obtain ⟨a',c',rfl⟩:=ha.shape;obtain ⟨Iz,I5⟩:=eP hd.out Am ((Fr.refl _ _).alloc _) ha;have s0:w3.cell? ⟨wo.heap.size,0,none⟩=some (.slice ta j tc):=Iz 0;have g0:=I5 0)
         obtain ⟨q1,q2,q3,q4,q5⟩:=dW (i:=0) hd.out GK Am ((Fr.refl _ _).alloc _) ha;clear Dc;go_roundw
         case rel =>
          refine ⟨j+1,.slice a' (j+1) c',by omega,by go_num,q1,by rw[Ah.out,map_append];exact q2,fun q hq=>?_,JR.trans (q5.below Gs fun q hq h=>?_)⟩
          · rcases q4 with e|e
            · exact Ir q (e.symm.trans hq)
            · rw[e] at hq
              simp only[Option.some.injEq] at hq;simp at hq;omega
          · rcases h with h|h
            · omega
            · have:=Ir q h;omega
         case measure=>simp[intOf];omega
       · have WZ:j=N:=by omega
         subst WZ;rw[take_of_length_le (by rw[Iq.out];exact Nat.le_refl _)] at GK;have e0:wr.cell? ⟨wo.heap.size,0,none⟩=some tv:=crw Dc rfl;have e1:wr.cell? ⟨wo.heap.size,1,none⟩=some (.slice (some ⟨ga,0,none⟩) j lc):=crw Dc rfl;go_wp2;go_ret;have BN:=hb.size;obtain ⟨R,Rp,fp,h1,h2⟩:=aMB (B:=w.heap.size) Iq.out EG Qm (by have:=Ik.out;omega) BN CG Bo EC KC GK Ir JR;rw[Xd.out] at h1
         refine ⟨_,_,R,Rp,fp,rfl,by rw[st];exact h1,h2,(hb.trans (Bf.mono BN)).trans (JR.mono (by omega))⟩
end Go.Proofs.YtcidlnjpabgioaaGreatDoor
