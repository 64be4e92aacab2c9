import Derived.Test.YtcidlnjpabgioaaGreatDoorUGLeafK
set_option maxHeartbeats 8000000
set_option maxRecDepth 100000
namespace Go.Proofs.YtcidlnjpabgioaaGreatDoor
open Tryz List Go.RowKit
theorem aPi:ElT Tryz.prog 27 29 (.agg #[.string ⟨#[]⟩,.int .i64 0,.slice none 0 0]) 3 48:=⟨underlying27,info_parts (by kernel_rfl),rfl⟩
theorem aBo {S:Nat→Prop} {w:World} {size n g:Nat} {xs:List Value} {t:TypeId} (hl:xs.length=n*size) (hn:n≤1000) (h:w.heap[g]?=some (.cells xs.toArray t (0,0))) (hS:S g):SlS S w size (.slice (some ⟨g,0,none⟩) n n) n xs :=
 ⟨hl,some ⟨g,0,none⟩,n,rfl,Nat.le_refl _,by unfold maxLen;omega,nofun,fun ad D9=>by
  cases D9
  exact ⟨hS,rfl,fun j u hj=>by rw[Addr.add_lit,Nat.zero_add,cell_of_row _ _ _ _ _ _ h];simpa using hj⟩⟩
theorem aHr {S:Nat→Prop} {w:World} {T t:Ty} (hk:T.kids=[t]) {g:Nat} {vs:List Value} (h:w.heap[g]?=some (.cells vs.toArray 29 (0,0))) (hS:S g) (ht:LTS S w t.lt vs) :
 LTS S w T.lt [.string (bJ T.nm),.int .i64 T.sz,.slice (some ⟨g,0,none⟩) 1 1] :=
 LTS.of (ixs:=vs) (by rw[hk];exact aBo (by rw[ht.length]) (by omega) h hS) (by simp[hk]) (by rw[hk];exact fH.one ht)
theorem aOa {S:Nat→Prop} {w:World} {T t u:Ty} (hk:T.kids=[t,u]) {g:Nat} {vs us:List Value} (h:w.heap[g]?=some (.cells (vs++us).toArray 29 (0,0))) (hS:S g) (ht:LTS S w t.lt vs) (hu:LTS S w u.lt us) :
 LTS S w T.lt [.string (bJ T.nm),.int .i64 T.sz,.slice (some ⟨g,0,none⟩) 2 2] :=
 LTS.of (ixs:=vs++us) (by rw[hk];exact aBo (by rw[length_append,ht.length,hu.length]) (by omega) h hS) (by simp[hk]) (by rw[hk];exact fH.append (fH.one ht) (fH.one hu))
theorem kX {B:Nat} {w w3:World} {p:Nat} (Bc:bT B w3 p) (CW:p<w.heap.size) (Ak:Fr (fun q=>q=p) w w3) {T:Ty} {vs:List Value} (hT:LTS (aBz w w3) w3 T.lt vs) (a b c:Value) :
 LTS (New w (((w3.setCell ⟨w.heap.size,0,none⟩ a).setCell ⟨w.heap.size,1,none⟩ b).setCell ⟨w.heap.size,2,none⟩ c)) (((w3.setCell ⟨w.heap.size,0,none⟩ a).setCell ⟨w.heap.size,1,none⟩ b).setCell ⟨w.heap.size,2,none⟩ c) T.lt vs ∧
  bT B (((w3.setCell ⟨w.heap.size,0,none⟩ a).setCell ⟨w.heap.size,1,none⟩ b).setCell ⟨w.heap.size,2,none⟩ c) p∧Fr (fun q=>q=p) w (((w3.setCell ⟨w.heap.size,0,none⟩ a).setCell ⟨w.heap.size,1,none⟩ b).setCell ⟨w.heap.size,2,none⟩ c):=by
 have h1:Fr (fun q=>q=w.heap.size) w3 (((w3.setCell ⟨w.heap.size,0,none⟩ a).setCell ⟨w.heap.size,1,none⟩ b).setCell ⟨w.heap.size,2,none⟩ c):=(((Fr.refl (fun q=>q=w.heap.size) w3).setCell (.inl rfl) _).setCell (.inl rfl) _).setCell (.inl rfl) _;have hB:=Bc.1
 refine ⟨LTS.to h1 (fun q hq=>⟨⟨Nat.le_of_lt hq.1,Nat.lt_of_lt_of_le hq.2 h1.size⟩,?_⟩) _ _ hT,Bc.fr h1 (by show ¬ p=w.heap.size;omega) (fun q hq=>by show ¬ q=w.heap.size;omega),Ak.trans h1 (fun q hq h=>?_)⟩
 · have:=hq.1
   show ¬ q=w.heap.size;omega
 · have:q=w.heap.size:=h
   omega
theorem aCu {w w2:World} {p:Nat} (CW:p<w.heap.size) (hf:Fr (fun q=>q=p) (w.alloc (.cells #[.string ⟨#[]⟩,.int .i64 0,.slice none 0 0] 29)) w2):w2.heap[w.heap.size]?=some (.cells #[.string ⟨#[]⟩,.int .i64 0,.slice none 0 0] 29 (0,0)) :=
 (hf.block _ (by simp) (by show ¬ w.heap.size=p;omega)).trans (heap_alloc_new w _)
theorem oK {w:World} {q:Nat} {a b c:Value} {t:TypeId} (h:w.heap[q]?=some (.cells #[a,b,c] t (0,0))):w.cell? ⟨q,0,none⟩=some a∧w.cell? ⟨q,1,none⟩=some b∧w.cell? ⟨q,2,none⟩=some c∧w.frozen? ⟨q,0,none⟩=false∧w.frozen? ⟨q,1,none⟩=false∧w.frozen? ⟨q,2,none⟩=false :=
 ⟨crw h rfl,crw h rfl,crw h rfl,fzj _ h,fzj _ h,fzj _ h⟩
theorem vZ {w:World} {q:Nat} {a b c:Value} {t:TypeId} (h:w.heap[q]?=some (.cells #[a,b,c] t (0,0))):(∀ o,(w.alloc o).cell? ⟨q,0,none⟩=some a)∧(∀ o,(w.alloc o).cell? ⟨q,1,none⟩=some b)∧(∀ o,(w.alloc o).cell? ⟨q,2,none⟩=some c)∧(∀ o,(w.alloc o).frozen? ⟨q,0,none⟩=false)∧(∀ o,(w.alloc o).frozen? ⟨q,1,none⟩=false)∧∀ o,(w.alloc o).frozen? ⟨q,2,none⟩=false:=by
 have H:=fun o=>oK ((Below.heap_alloc w o _ (aC h)).trans h)
 exact ⟨fun o=>(H o).1,fun o=>(H o).2.1,fun o=>(H o).2.2.1,fun o=>(H o).2.2.2.1,fun o=>(H o).2.2.2.2.1,fun o=>(H o).2.2.2.2.2⟩
theorem nJ {w w1 w2:World} {p:Nat} {o:Obj} (CW:p<w.heap.size) (h:w1.heap[w.heap.size]?=some o) (hf:Fr (fun q=>q=p) w1 w2):w2.heap[w.heap.size]?=some o :=
 (hf.block _ (aC h) (by show ¬ w.heap.size=p;omega)).trans h
theorem uP {w w1 w2:World} {p:Nat} {o o':Obj} (CW:p<w.heap.size) (h:w1.heap[w.heap.size]?=some o) (hf:Fr (fun q=>q=p) (w1.alloc o') w2):w2.heap[w.heap.size]?=some o :=
 (hf.block _ (by have:=aC h;simp;omega) (by show ¬ w.heap.size=p;omega)).trans ((Below.heap_alloc _ _ _ (aC h)).trans h)
theorem aNZ (B:Nat) (w:World) (p:Nat) (h:bT B w p) (CW:p<w.heap.size):Calls Tryz.prog 14 #[.pointer (some ⟨p,0,none⟩)] w fun e w'=>∃ (T:Ty) (vs:List Value),(T.dU∨T=.low)∧e=.returned (.agg vs.toArray)∧LTS (New w w') w' T.lt vs∧bT B w' p∧Fr (fun q=>q=p) w w':=by
 go_enter func14,ntmps14
 go_wp2_with (first
  | (go_at_call 15;refine (yG B _ p (h.fr ((Fr.refl (fun _=>False) w).alloc _) (fun h=>h) (fun _ _ h=>h)) (by simp;omega)).mono ?_;rintro e w1 ⟨T,hT,rfl,Eg,Ad⟩;have BN:=Ad.size;have hr1:=aCu CW Ad;have Cj:bT B (w1.alloc (.cells #[.string (bJ T.nm),.int .i64 T.sz,.slice none 0 0] 29)) p:=Eg.fr ((Fr.refl (fun _=>False) w1).alloc _) (fun h=>h) (fun _ _ h=>h);unfold Ty.cells3)
  | (go_at_call 20;refine (fZ B _ p Cj).mono ?_;rintro e w2 ⟨b,hb,rfl,DZ,Ae⟩;have EW:=Ae.size;obtain ⟨r0,r1,r2,z0,z1,z2⟩:=oK (uP CW hr1 Ae);obtain ⟨ra0,ra1,ra2,za0,za1,za2⟩:=vZ (uP CW hr1 Ae);obtain ⟨x0,x1,x2,-,-,-⟩:=oK ((Ae.block w1.heap.size (by simp) (by show ¬ w1.heap.size=p;simp at BN;omega)).trans (heap_alloc_new w1 _))))
 · refine bodyPost_ret (by simp[results,results14,go_sem,ra0,ra1,ra2];try rfl) rfl ?_
   have ZO:bT B (w2.alloc (.cells (Ty.str.cells3).toArray 29)) p:=DZ.fr ((Fr.refl (fun _=>False) w2).alloc _) (fun h=>h) (fun _ _ h=>h);have Ee:Fr (fun q=>q=p) w (w2.alloc (.cells (Ty.str.cells3).toArray 29)):=((((Fr.refl (fun q=>q=p) w).alloc _).trans Ad (fun _ _ h=>h)).alloc _ |>.trans Ae (fun _ _ h=>h)).alloc _;have hT:=aHr (S:=aBz w (w2.alloc (.cells (Ty.str.cells3).toArray 29))) (T:=.low) (t:=.str) rfl (heap_alloc_new w2 (.cells (Ty.str.cells3).toArray 29)) ⟨by simp at BN EW;omega,by simp⟩ (jC (T:=.str) trivial _ _);obtain ⟨g1,g2,g3⟩:=kX ZO CW Ee hT (.string (bJ Ty.low.nm)) (.int .i64 0) (.slice (some ⟨w2.heap.size,0,none⟩) 1 1)
   exact ⟨.low,_,.inr rfl,rfl,g1,g2,g3⟩
 · refine bodyPost_ret (by simp[results,results14,go_sem,r0,r1,r2];try rfl) rfl ?_
   have Ee:Fr (fun q=>q=p) w w2:=(((Fr.refl (fun q=>q=p) w).alloc _).trans Ad (fun _ _ h=>h)).alloc _ |>.trans Ae (fun _ _ h=>h)
   obtain ⟨g1,g2,g3⟩:=kX DZ CW Ee (jC hT _ _) (.string (bJ T.nm)) (.int .i64 T.sz) (.slice none 0 0)
   exact ⟨T,_,.inl hT,rfl,g1,g2,g3⟩
theorem LTS.three {S:Nat→Prop} {w:World} {T:Ty} {vs:List Value} (h:LTS S w T.lt vs):∃ oa oc,vs=[.string (bJ T.nm),.int .i64 T.sz,.slice oa T.kids.length oc]:=by
 obtain ⟨ov,ixs,rfl,h1,_⟩:=h.ty;obtain ⟨_,oa,oc,rfl,_⟩:=h1
 exact ⟨oa,oc,rfl⟩
def aHc (d:Nat):Prop:=∀ (B:Nat) (w:World) (p:Nat),bT B w p→p<w.heap.size →
 Calls Tryz.prog 8 #[.pointer (some ⟨p,0,none⟩),.int .i64 d] w fun e w'=>∃ (T:Ty) (vs:List Value),Ok d T∧e=.returned (.agg vs.toArray)∧LTS (New w w') w' T.lt vs∧bT B w' p∧Fr (fun q=>q=p) w w'
theorem sN {B:Nat} {w w3:World} {p:Nat} (Bc:bT B w3 p) (CW:p<w.heap.size) (hw:w.heap.size<w3.heap.size) (Ak:Fr (fun q=>q=p) w w3) {T t:Ty} (hk:T.kids=[t]) {vs:List Value} (ht:LTS (aBz w w3) w3 t.lt vs) (a b c:Value) :
 let w4:=w3.alloc (.cells vs.toArray 29)
 let w5:=((w4.setCell ⟨w.heap.size,0,none⟩ a).setCell ⟨w.heap.size,1,none⟩ b).setCell ⟨w.heap.size,2,none⟩ c
 LTS (New w w5) w5 T.lt [.string (bJ T.nm),.int .i64 T.sz,.slice (some ⟨w3.heap.size,0,none⟩) 1 1]∧bT B w5 p∧Fr (fun q=>q=p) w w5 :=
 kX (Bc.fr ((Fr.refl (fun _=>False) w3).alloc _) (fun h=>h) (fun _ _ h=>h)) CW (Ak.alloc _)
  (aHr hk (heap_alloc_new w3 _) ⟨hw,by simp⟩ (LTS.to ((Fr.refl (fun _=>False) w3).alloc _) (fun q hq=>⟨⟨hq.1,by have:=hq.2;simp;omega⟩,fun h=>h⟩) _ _ ht)) a b c
theorem aOk {B:Nat} {w w3:World} {p:Nat} (Bc:bT B w3 p) (CW:p<w.heap.size) (hw:w.heap.size<w3.heap.size) (Ak:Fr (fun q=>q=p) w w3) {T t u:Ty} (hk:T.kids=[t,u]) {vs us:List Value} (ht:LTS (aBz w w3) w3 t.lt vs) (hu:LTS (aBz w w3) w3 u.lt us) (a b c:Value) :
 let w4:=w3.alloc (.cells (vs++us).toArray 29)
 let w5:=((w4.setCell ⟨w.heap.size,0,none⟩ a).setCell ⟨w.heap.size,1,none⟩ b).setCell ⟨w.heap.size,2,none⟩ c
 LTS (New w w5) w5 T.lt [.string (bJ T.nm),.int .i64 T.sz,.slice (some ⟨w3.heap.size,0,none⟩) 2 2]∧bT B w5 p∧Fr (fun q=>q=p) w w5 :=
 kX (Bc.fr ((Fr.refl (fun _=>False) w3).alloc _) (fun h=>h) (fun _ _ h=>h)) CW (Ak.alloc _)
  (aOa hk (heap_alloc_new w3 _) ⟨hw,by simp⟩ (LTS.to ((Fr.refl (fun _=>False) w3).alloc _) (fun q hq=>⟨⟨hq.1,by have:=hq.2;simp;omega⟩,fun h=>h⟩) _ _ ht) (LTS.to ((Fr.refl (fun _=>False) w3).alloc _) (fun q hq=>⟨⟨hq.1,by have:=hq.2;simp;omega⟩,fun h=>h⟩) _ _ hu)) a b c
theorem aBj {w w1 w2:World} {T:Ty} {vs:List Value} (hw:w.heap.size<w1.heap.size) (h:LTS (New w1 w2) w2 T.lt vs):LTS (aBz w w2) w2 T.lt vs:=h.mono fun q hq=>⟨by have:=hq.1;omega,hq.2⟩
theorem aLN {w w1 w2 w3:World} {p:Nat} {T:Ty} {vs:List Value} (CW:p<w.heap.size) (hw:w.heap.size<w1.heap.size) (h:LTS (New w1 w2) w2 T.lt vs) (hf:Fr (fun q=>q=p) w2 w3):LTS (aBz w w3) w3 T.lt vs :=
 LTS.to hf (fun q hq=>⟨⟨by have:=hq.1;omega,Nat.lt_of_lt_of_le hq.2 hf.size⟩,by have:=hq.1;show ¬ q=p;omega⟩) _ _ h
theorem aMF:aHc 0:=by
 intro B w p h CW;have h0:bT B (w.alloc (.cells #[.string ⟨#[]⟩,.int .i64 0,.slice none 0 0] 29)) p:=h.fr ((Fr.refl (fun _=>False) w).alloc _) (fun h=>h) (fun _ _ h=>h);go_enter func8,ntmps8
 go_wp2_with (first
  | (go_at_call 20;refine (fZ B _ p h0).mono ?_;rintro e w1 ⟨b,hb,rfl,Eg,Ad⟩;have BN:=Ad.size;have hr1:=aCu CW Ad;obtain ⟨r0,r1,r2,z0,z1,z2⟩:=oK hr1;obtain ⟨ra0,ra1,ra2,za0,za1,za2⟩:=vZ hr1;have n5:((b:Int) % 5 == 5)=false:=(by simp;omega);have n6:((b:Int) % 5 == 6)=false:=(by simp;omega);have n7:((b:Int) % 5 == 7)=false:=(by simp;omega);have n8:((b:Int) % 5 == 8)=false:=(by simp;omega))
  | (go_at_call 15;refine (yG B _ p Eg (by simp at BN;omega)).mono ?_;rintro e w2 ⟨T,hT,rfl,DZ,Ae⟩;have EW:=Ae.size;clear r0 r1 r2 z0 z1 z2 ra0 ra1 ra2 za0 za1 za2;have hr2:=nJ CW hr1 Ae;obtain ⟨r0,r1,r2,z0,z1,z2⟩:=oK hr2;obtain ⟨ra0,ra1,ra2,za0,za1,za2⟩:=vZ hr2;unfold Ty.cells3))
 · refine bodyPost_ret (by simp[results,results8,go_sem,ra0,ra1,ra2];try rfl) rfl ?_
   have Ee:Fr (fun q=>q=p) w w2:=(((Fr.refl (fun q=>q=p) w).alloc _).trans Ad (fun _ _ h=>h)).trans Ae (fun _ _ h=>h);obtain ⟨g1,g2,g3⟩:=sN DZ CW (by simp at BN;omega) Ee (T:=.nul T) (t:=T) rfl (jC hT _ _) (.string (bJ (Ty.nul T).nm)) (.int .i64 (Ty.nul T).sz) (.slice (some ⟨w2.heap.size,0,none⟩) 1 1)
   exact ⟨.nul T,_,.inr (.inl ⟨T,rfl,hT⟩),rfl,g1,g2,g3⟩
 · refine bodyPost_ret (by simp[results,results8,go_sem,ra0,ra1,ra2];try rfl) rfl ?_
   have Ee:Fr (fun q=>q=p) w w1:=((Fr.refl (fun q=>q=p) w).alloc _).trans Ad (fun _ _ h=>h);obtain ⟨g1,g2,g3⟩:=sN Eg CW (by simp at BN;omega) Ee (T:=.low) (t:=.str) rfl (jC (T:=.str) trivial _ _) (.string (bJ Ty.low.nm)) (.int .i64 Ty.low.sz) (.slice (some ⟨w1.heap.size,0,none⟩) 1 1)
   exact ⟨.low,_,.inr (.inr rfl),rfl,g1,g2,g3⟩
 · refine bodyPost_ret (by simp[results,results8,go_sem,r0,r1,r2];try rfl) rfl ?_
   have Ee:Fr (fun q=>q=p) w w2:=(((Fr.refl (fun q=>q=p) w).alloc _).trans Ad (fun _ _ h=>h)).trans Ae (fun _ _ h=>h);obtain ⟨g1,g2,g3⟩:=kX DZ CW Ee (jC hT _ _) (.string (bJ T.nm)) (.int .i64 T.sz) (.slice none 0 0)
   exact ⟨T,_,.inl hT,rfl,g1,g2,g3⟩
theorem aMC {B p X:Nat} {w2 wr w3 w4:World} {nmv szv ov ov':Value} {ts:List Ty} {xs vs:List Value} {S:Nat→Prop} {T:Ty} {o:Obj} (Ql:p<X) (VR:X<w2.heap.size) (ER:B≤p)
 (Ag:wr.heap[X]?=some (.cells #[nmv,szv,ov] 29 (0,0))) (Aa:wr.ownsRow 0 29 3 ov ts.length xs) (hl:fH S wr (ts.map Ty.lt) xs) (hS:∀ q,S q→w2.heap.size≤q∧q<wr.heap.size∧ov.ownBlock≠some q) (JZ:∀ q,ov.ownBlock=some q→w2.heap.size≤q)
 (hf:Fr (fun q=>q=p∨q=X) w2 wr) (Ld:bT B w3 p) (AV:Fr (fun q=>q=p) wr w3) (NG:LTS (New wr w3) w3 T.lt vs) (ha:dE (w3.alloc o) w4 29 3 ov ov' (ts.length+1) (xs++vs)) :
 (w4.setCell ⟨X,2,none⟩ ov').heap[X]?=some (.cells #[nmv,szv,ov'] 29 (0,0))∧(w4.setCell ⟨X,2,none⟩ ov').ownsRow 0 29 3 ov' (ts.length+1) (xs++vs)∧(∃ S':Nat→Prop,fH S' (w4.setCell ⟨X,2,none⟩ ov') ((ts++[T]).map Ty.lt) (xs++vs)∧∀ q,S' q→w2.heap.size≤q∧q<(w4.setCell ⟨X,2,none⟩ ov').heap.size∧ov'.ownBlock≠some q) ∧
  (∀ q,ov'.ownBlock=some q→w2.heap.size≤q)∧bT B (w4.setCell ⟨X,2,none⟩ ov') p∧Fr (fun q=>q=p∨q=X) w2 (w4.setCell ⟨X,2,none⟩ ov'):=by
 have hs:=hf.size;have IJ:=AV.size;have IC:=(AV.block X (aC Ag) (by show ¬ X=p;omega)).trans Ag;have own3:=AV.owns Aa (fun q hq=>by have:=JZ q hq;show ¬ q=p;omega);have Am:ov.ownBlock≠some X:=fun h=>by have:=JZ X h;omega
 obtain ⟨q1,q2,q3,q4,q5⟩:=dW (i:=2) IC own3 Am ((Fr.refl _ w3).alloc o) ha;have V5:=q5.size;have Ar:=fun q (h:ov.ownBlock=some q)=>aO Aa h
 have Qj:∀ q,ov'.ownBlock=some q→ov.ownBlock=some q∨q=w3.heap.size+1:=fun q hq=>by
  rcases q4 with e|e
  · exact .inl (e▸hq)
  · rw[e] at hq
    simp only[Option.some.injEq] at hq;simp at hq
    exact .inr hq.symm
 have Tm:Fr (fun q=>q=p∨q=X∨ov.ownBlock=some q) wr (w4.setCell ⟨X,2,none⟩ ov'):=(AV.mono (S':=fun q=>q=p∨q=X∨ov.ownBlock=some q) (fun _ _ h=>.inl h)).trans q5 (fun _ _ h=>.inr h)
 refine ⟨q1,q2,⟨fun q=>S q∨New wr w3 q,?_,?_⟩,fun q hq=>?_,Ld.fr q5 (fun h=>?_) (fun q hq h=>?_),hf.trans Tm (fun q hq h=>?_)⟩
 · rw[map_append]
   refine fH.append (fH.to Tm (fun q hq=>⟨.inl hq,?_⟩) _ _ hl) (fH.one (LTS.to q5 (fun q hq=>⟨.inr hq,?_⟩) _ _ NG))
   · obtain ⟨h1,h2,h3⟩:=hS q hq
     rintro (h|h|h)
     · omega
     · omega
     · exact h3 h
   · have h1:=hq.1
     rintro (h|h)
     · omega
     · have:=Ar q h;omega
 · rintro q (hq|hq)
   · obtain ⟨h1,h2,h3⟩:=hS q hq
     refine ⟨h1,by omega,fun h=>?_⟩;rcases Qj q h with h|h
     · exact h3 h
     · omega
   · have h1:=hq.1
     have h2:=hq.2
     refine ⟨by omega,by omega,fun h=>?_⟩;rcases Qj q h with h|h
     · have:=Ar q h;omega
     · omega
 · rcases Qj q hq with h|h
   · exact JZ q h
   · omega
 · rcases h with h|h
   · omega
   · have:=JZ p h;omega
 · rcases h with h|h
   · omega
   · have:=JZ q h;omega
 · rcases h with h|h|h
   · exact .inl h
   · exact .inr h
   · have:=JZ q h;omega
theorem aME (d:Nat) (hd:d≤4) (ih:aHc d):aHc (d+1):=by
 intro B w p h CW;have h0:bT B (w.alloc (.cells #[.string ⟨#[]⟩,.int .i64 0,.slice none 0 0] 29)) p:=h.fr ((Fr.refl (fun _=>False) w).alloc _) (fun h=>h) (fun _ _ h=>h);have QP:(((d+1:Nat):Int) == 0)=false:=by simp;omega
 have KF:IntKind.i64.wrap (((d+1:Nat):Int) - 1)=(d:Int):=by rw[IntKind.wrap_i64];omega
 generalize hD:((d+1:Nat):Int)=D at QP KF;clear hD;go_enter func8,ntmps8
 go_wp2_with (first
  | (go_at_call 20;refine (fZ B _ p h0).mono ?_;rintro e w1 ⟨b,hb,rfl,Eg,Ad⟩;have BN:=Ad.size;have hr1:=aCu CW Ad;obtain ⟨r0,r1,r2,z0,z1,z2⟩:=oK hr1;obtain ⟨ra0,ra1,ra2,za0,za1,za2⟩:=vZ hr1;have ZT:bT B (w1.alloc (.cells #[.string ⟨#[84,117,112,108,101]⟩,.int .i64 0,.slice none 0 0] 29)) p:=Eg.fr ((Fr.refl (fun _=>False) w1).alloc _) (fun h=>h) (fun _ _ h=>h))
  | (go_at_call 20;refine (fZ B _ p ZT).mono ?_;rintro e w2 ⟨b2,Bj,rfl,DZ,Ae⟩;have EW:=Ae.size;clear r0 r1 r2 z0 z1 z2 ra0 ra1 ra2 za0 za1 za2)
  | (go_at_call 15;refine (yG B _ p Eg (by simp at BN;omega)).mono ?_;rintro e w2 ⟨T,hT,rfl,DZ,Ae⟩;have EW:=Ae.size;clear r0 r1 r2 z0 z1 z2 ra0 ra1 ra2 za0 za1 za2;have hr2:=nJ CW hr1 Ae;obtain ⟨r0,r1,r2,z0,z1,z2⟩:=oK hr2;obtain ⟨ra0,ra1,ra2,za0,za1,za2⟩:=vZ hr2;unfold Ty.cells3)
  | (go_at_call 14;refine (aNZ B _ p Eg (by simp at BN;omega)).mono ?_;rintro e w2 ⟨K,ks,hK,rfl,Y0,DZ,Ae⟩;have EW:=Ae.size;clear r0 r1 r2 z0 z1 z2 ra0 ra1 ra2 za0 za1 za2;have hr2:=nJ CW hr1 Ae;obtain ⟨oka,okc,rfl⟩:=Y0.three)
  | (go_at_call 8;refine (ih B _ p Eg (by simp at BN;omega)).mono ?_;rintro e w2 ⟨T,vs,hT,rfl,NG,DZ,Ae⟩;have EW:=Ae.size;clear r0 r1 r2 z0 z1 z2 ra0 ra1 ra2 za0 za1 za2;have hr2:=nJ CW hr1 Ae;obtain ⟨r0,r1,r2,z0,z1,z2⟩:=oK hr2;obtain ⟨ra0,ra1,ra2,za0,za1,za2⟩:=vZ hr2;obtain ⟨ota,otc,rfl⟩:=NG.three)
  | (go_at_call 8;refine (ih B _ p DZ (by simp at BN;omega)).mono ?_;rintro e w3 ⟨T,vs,hT,rfl,NG,H6,AV⟩;have IJ:=AV.size;have hr3:=nJ CW hr2 AV;obtain ⟨r0,r1,r2,z0,z1,z2⟩:=oK hr3;obtain ⟨ra0,ra1,ra2,za0,za1,za2⟩:=vZ hr3;obtain ⟨ota,otc,rfl⟩:=NG.three))
 · refine bodyPost_ret (by simp[results,results8,go_sem,ra0,ra1,ra2];try rfl) rfl ?_
   have Ee:Fr (fun q=>q=p) w w2:=(((Fr.refl (fun q=>q=p) w).alloc _).trans Ad (fun _ _ h=>h)).trans Ae (fun _ _ h=>h);obtain ⟨g1,g2,g3⟩:=sN DZ CW (by simp at BN;omega) Ee (T:=.nul T) (t:=T) rfl (jC hT _ _) (.string (bJ (Ty.nul T).nm)) (.int .i64 (Ty.nul T).sz) (.slice (some ⟨w2.heap.size,0,none⟩) 1 1)
   exact ⟨.nul T,_,.inl (.inr (.inl ⟨T,rfl,hT⟩)),rfl,g1,g2,g3⟩
 · refine bodyPost_ret (by simp[results,results8,go_sem,ra0,ra1,ra2];try rfl) rfl ?_
   have Ee:Fr (fun q=>q=p) w w1:=((Fr.refl (fun q=>q=p) w).alloc _).trans Ad (fun _ _ h=>h);obtain ⟨g1,g2,g3⟩:=sN Eg CW (by simp at BN;omega) Ee (T:=.low) (t:=.str) rfl (jC (T:=.str) trivial _ _) (.string (bJ Ty.low.nm)) (.int .i64 Ty.low.sz) (.slice (some ⟨w1.heap.size,0,none⟩) 1 1)
   exact ⟨.low,_,.inl (.inr (.inr rfl)),rfl,g1,g2,g3⟩
 iterate 2
  · refine bodyPost_ret (by simp[results,results8,go_sem,ra0,ra1,ra2];try rfl) rfl ?_
    have Ee:Fr (fun q=>q=p) w w2:=(((Fr.refl (fun q=>q=p) w).alloc _).trans Ad (fun _ _ h=>h)).trans Ae (fun _ _ h=>h);obtain ⟨g1,g2,g3⟩:=sN DZ CW (by simp at BN;omega) Ee (T:=.arr T) (t:=T) rfl (aBj (by simp at BN;omega) NG) (.string (bJ (Ty.arr T).nm)) (.int .i64 (Ty.arr T).sz) (.slice (some ⟨w2.heap.size,0,none⟩) 1 1)
    exact ⟨.arr T,_,.inr (.inl ⟨T,rfl,hT⟩),rfl,g1,g2,g3⟩
 · refine bodyPost_ret (by simp[results,results8,go_sem,ra0,ra1,ra2];try rfl) rfl ?_
   have Ee:Fr (fun q=>q=p) w w3:=((((Fr.refl (fun q=>q=p) w).alloc _).trans Ad (fun _ _ h=>h)).trans Ae (fun _ _ h=>h)).trans AV (fun _ _ h=>h);obtain ⟨g1,g2,g3⟩:=aOk H6 CW (by simp at BN;omega) Ee (T:=.map K T) (t:=K) (u:=T) rfl (aLN CW (by simp at BN;omega) Y0 AV) (aBj (by simp at BN;omega) NG) (.string (bJ (Ty.map K T).nm)) (.int .i64 (Ty.map K T).sz) (.slice (some ⟨w3.heap.size,0,none⟩) 2 2)
   exact ⟨.map K T,_,.inr (.inr (.inl ⟨K,T,rfl,hK,hT⟩)),rfl,g1,g2,g3⟩
 · have hr2:=(Ae.block _ (by simp) (by show ¬ w1.heap.size=p;simp at BN;omega)).trans (heap_alloc_new w1 (.cells #[.string ⟨#[84,117,112,108,101]⟩,.int .i64 0,.slice none 0 0] 29))
   have U1:w2.heap[w.heap.size]?=some (.cells #[.string ⟨#[]⟩,.int .i64 0,.slice none 0 0] 29 (0,0)):=uP CW hr1 Ae;have ER:=h.1
   go_loopw [7] (fun i wr=>∃ (k:Nat) (ts:List Ty) (ov:Value) (xs:List Value) (S:Nat→Prop),i=.int .i64 k∧ts.length+k≤3∧0<ts.length+k∧wr.heap[w1.heap.size]?=some (.cells #[.string ⟨#[84,117,112,108,101]⟩,.int .i64 0,ov] 29 (0,0))∧wr.ownsRow 0 29 3 ov ts.length xs∧fH S wr (ts.map Ty.lt) xs∧(∀ q,S q→w2.heap.size≤q∧q<wr.heap.size∧ov.ownBlock≠some q)∧(∀ q,ov.ownBlock=some q→w2.heap.size≤q)∧(∀ t∈ts,Ok d t)∧bT B wr p∧Fr (fun q=>q=p∨q=w1.heap.size) w2 wr) (fun i _=>(intOf i).toNat)
   case atStart=>exact ⟨1+b2 % 3,[],.slice none 0 0,[],fun _=>False,by go_num,by simp;omega,by omega,hr2,World.ownsRow_nil _ _ _ _,fH.nil,fun _ h=>h.elim,by simp[Value.ownBlock],by simp,DZ,Fr.refl _ _⟩
   case round =>
    obtain ⟨k,ts,ov,xs,S,rfl,Oa,J3,Ag,Aa,hl,hS,JZ,Y6,Bc,Ak⟩:=hrel;obtain ⟨oa,oc,rfl⟩:=ownsRow_shape Aa;have Ql:p<w1.heap.size:=by simp at BN;omega
    have ZJ:w1.heap.size<w2.heap.size:=by simp at EW;omega
    have FN:=Ak.size;obtain ⟨x0,x1,x2,y0,y1,y2⟩:=oK Ag
    by_cases OJ:0<k
    · have Gz:(0:Int)<k:=by omega
      have SK:bT B wr.drew p:=Bc.fr ((Fr.refl (fun _=>False) wr).drew) (fun h=>h) (fun _ _ h=>h);have Am:(Value.slice oa ts.length oc).ownBlock≠some w1.heap.size:=fun h=>by have:=JZ _ h;omega
      have dh:=aC Ag;have Bq:=Lib.hid Ag;have Ko:=Lib.hid Aa;clear Ag;have Ht:IntKind.i64.wrap ((k:Int) - 1)=(k:Int) - 1:=by rw[IntKind.wrap_i64];omega
      have Dc:p<wr.heap.size:=by omega
      go_wp2_with fail
      go_region_law (first
       | (go_simp;go_at_call 8;refine (ih B _ p SK Dc).mono ?_;rintro e w3 ⟨T,vs,hT,rfl,NG,H6,AV⟩;have IJ:=AV.size;have DI:=AV.aH;have o3:=DI.owns Ko.out (fun q hq=>by have:=JZ q hq;show ¬ q=p;omega);have p3:=(DI.block _ dh (by show ¬ w1.heap.size=p;omega)).trans Bq.out;obtain ⟨-,-,x32,-,-,-⟩:=oK p3;obtain ⟨-,-,xa2,-,-,-⟩:=vZ p3;obtain ⟨ota,otc,rfl⟩:=NG.three)
       | (refine aK _ rfl ?_;refine dJ _ aPi _ _ rfl _ _ _ rfl (o3.alloc _) _ _ _ rfl (Src.ofSlice _ underlying27 _ _ _ _ rfl (bG _ [.string (bJ T.nm),.int .i64 T.sz,.slice ota T.kids.length otc] _) (by simp[Value.oneCell'])) ?_ ?_ ?_;(unfold maxLen;omega);omega;intro v' w4 ha;obtain ⟨a',c',rfl⟩:=ha.shape;obtain ⟨W9,WP⟩:=eP p3 Am ((Fr.refl _ w3).alloc _) ha;have s2:=W9 2;have g2:=WP 2;simp only[getElem?_toArray,getElem?_cons_succ,getElem?_cons_zero] at s2))
      all_goals
       obtain ⟨a1,a2,⟨S',a3,a4⟩,a5,a6,a7⟩:=aMC (T:=T) Ql ZJ ER Bq.out Ko.out hl hS JZ Ak H6 DI NG ha;go_wp2;go_roundw
       case rel=>exact ⟨k - 1,ts++[T],.slice a' (ts.length+1) c',_,S',by rw[Int.natCast_sub OJ];rfl,by simp;omega,by simp;omega,a1,by rw[length_append];exact a2,a3,a4,a5,fun t ht=>(mem_append.1 ht).elim (Y6 t) (fun h=>by rw[mem_singleton.1 h];exact hT),a6,a7⟩
       case measure=>simp[intOf];omega
    · have JG:k=0:=by omega
      subst JG;have hr3:=(Ak.block w.heap.size (aC U1) (by show ¬ (w.heap.size=p∨w.heap.size=w1.heap.size);simp at BN;omega)).trans U1;obtain ⟨r0,r1,r2,z0,z1,z2⟩:=oK hr3;go_wp2
      refine bodyPost_ret (by simp[results,results8,go_sem,r0,r1,r2];try rfl) rfl ?_
      have Ub:ts≠[]:=by intro h;simp[h] at J3
      have Ee:Fr (fun q=>q=p) w wr:=by
       refine ((((((Fr.refl (fun q=>q=p) w).alloc _).trans Ad (fun _ _ h=>h)).alloc _).trans Ae (fun _ _ h=>h))).trans Ak (fun q hq h=>?_);rcases h with h|h
       · exact h
       · simp at BN;omega
      have Gm:SlS (aBz w wr) wr 3 (.slice oa ts.length oc) ts.length xs:=lD Aa fun q hq=>⟨by have:=JZ q hq;simp at BN;omega,aO Aa hq⟩
      have hT:LTS (aBz w wr) wr (Ty.tup ts).lt [.string (bJ (Ty.tup ts).nm),.int .i64 (Ty.tup ts).sz,.slice oa ts.length oc]:=LTS.of Gm (fun h=>absurd h Ub) (fH.to (Fr.refl (fun _=>False) wr) (fun q hq=>⟨⟨by have:=(hS q hq).1;simp at BN;omega,(hS q hq).2.1⟩,fun h=>h⟩) _ _ hl);obtain ⟨g1,g2,g3⟩:=kX Bc CW Ee hT (.string (bJ (Ty.tup ts).nm)) (.int .i64 (Ty.tup ts).sz) (.slice oa ts.length oc)
      exact ⟨.tup ts,_,.inr (.inr (.inr ⟨ts,rfl,Ub,by omega,Y6⟩)),rfl,g1,g2,g3⟩
 · refine bodyPost_ret (by simp[results,results8,go_sem,r0,r1,r2];try rfl) rfl ?_
   have Ee:Fr (fun q=>q=p) w w2:=(((Fr.refl (fun q=>q=p) w).alloc _).trans Ad (fun _ _ h=>h)).trans Ae (fun _ _ h=>h);obtain ⟨g1,g2,g3⟩:=kX DZ CW Ee (jC hT _ _) (.string (bJ T.nm)) (.int .i64 T.sz) (.slice none 0 0)
   exact ⟨T,_,.inl (.inl hT),rfl,g1,g2,g3⟩
theorem aHz:∀ d,d≤4→aHc d
 | 0,_=>aMF
 | d+1,h=>aME d (by omega) (aHz d (by omega))
end Go.Proofs.YtcidlnjpabgioaaGreatDoor
