import Derived.Test.YtcidlnjpabgioaaGreatDoorUCellM
set_option maxHeartbeats 8000000
set_option maxRecDepth 100000
namespace Go.Proofs.YtcidlnjpabgioaaGreatDoor
open Tryz List Go.RowKit
theorem yM:∀ {ts:List Ty} {cs:List Cell} {t:Ty} {c:Cell},aAT ts cs→Made t c→aAT (ts++[t]) (cs++[c])
 | [],cs,t,c,h,hc=>by cases h;exact ⟨c,[],rfl,hc,rfl⟩
 | _ :: ts,cs,t,c,⟨d,ds,e,h1,h2⟩,hc=>by subst e;exact ⟨d,ds++[c],rfl,h1,yM h2 hc⟩
theorem aKm (d:Nat) (ts:List Ty) (h0:ts≠[]) (h4:ts.length≤4) (hT:∀ t∈ts,mW d t):mW (d+1) (.tup ts):=by
 intro B w p vs S h CW hl hS
 obtain ⟨T0,Vb⟩:∃ T0,ts[0]?=some T0:=by
  cases ts with
  | nil=>exact absurd rfl h0
  | cons a l=>exact ⟨a,rfl⟩
 obtain ⟨q,o,c,_,_,rfl,BF,AP,P7,_⟩:=pG hl (i:=0) (t:=T0) Vb;unfold maxLen at AP;have hq:=hS q P7;have JY:0<ts.length:=length_pos_iff.2 h0;have He:(bJ (Ty.tup ts).nm).toList=[84,117,112,108,101]:=cZ _;have ER:=h.1
 have hk:∀ j (hj:j<ts.length),∃ (oa:Option Addr) (oc:Nat),LTS S w ts[j].lt [.string (bJ ts[j].nm),.int .i64 ts[j].sz,.slice oa ts[j].kids.length oc]∧w.cell? ⟨q,o+j*3,none⟩=some (.string (bJ ts[j].nm))∧w.cell? ⟨q,o+j*3+1,none⟩=some (.int .i64 ts[j].sz)∧w.cell? ⟨q,o+j*3+2,none⟩=some (.slice oa ts[j].kids.length oc):=fun j hj=>by
  obtain ⟨q',o',c',oa,oc,hv,_,_,_,ht,k0,k1,k2⟩:=pG hl (i:=j) (t:=ts[j]) (getElem?_eq_getElem hj);simp only[List.cons.injEq,Value.slice.injEq,Option.some.injEq,Addr.mk.injEq,true_and,and_true] at hv;obtain ⟨⟨rfl,rfl⟩,rfl⟩:=hv
  exact ⟨oa,oc,ht,k0,k1,k2⟩
 show Calls _ _ #[_,.agg #[.string (bJ (Ty.tup ts).nm),.int .i64 0,.slice (some ⟨q,o,none⟩) ts.length c]] _ _;have BF:ts.length≤c:=BF;generalize bJ (Ty.tup ts).nm=nm at He;clear hl;obtain ⟨n,hn⟩:∃ n,Hid (ts.length=n):=⟨_,Lib.hid rfl⟩;rw[hn.out] at BF JY h4 ⊢;go_enter func9,ntmps9
 go_upto_region 2 with fail
 have hW:=mV.of w #[.string nm,.int .i64 0,.slice (some ⟨q,o,none⟩) n c];unfold cO at hW;generalize ((w.alloc _).alloc _).alloc _=W at hW ⊢;have BA:bT B W p:=h.fr hW.fr (fun h=>h) (fun _ _ h=>h);have Io:W.cell? ⟨w.heap.size,0,none⟩=some (.string nm):=by rw[cell_of_row _ _ _ _ _ _ hW.box];rfl
 have Yl:W.cell? ⟨w.heap.size,2,none⟩=some (.slice (some ⟨q,o,none⟩) n c):=by rw[cell_of_row _ _ _ _ _ _ hW.box];rfl
 go_wp2_with fail
 have La:=hW.size;have En:W.heap[w.heap.size+1+1]?=some (.cells (fO (.slice none 0 0) (.slice none 0 0)) 35 (0,0)):=hW.row;have JA:Fr (fun k=>k=p) w W:=hW.fr.mono (fun _ _ h=>h.elim);have Jo:=hW.res
 go_loopw [96] (fun i wr=>∃ (is:List Cell) (ixs:List Value) (iv:Value) (S':Nat→Prop),i=.int .i64 is.length∧is.length≤n∧wr.heap[w.heap.size+1+1]?=some (.cells (fO iv (.slice none 0 0)) 35 (0,0))∧bU W.heap.size wr iv (.slice none 0 0) is [] ixs [] S'∧wts is≤is.length*(20*5 ^ d)∧aAT (ts.take is.length) is∧bT B wr p∧Fr (fun k=>k=p∨k=w.heap.size+1+1) W wr) (fun i _=>n - (intOf i).toNat)
 case atStart=>exact ⟨[],[],.slice none 0 0,_,rfl,by simp,En,bU.nil _ _,by simp[wts],rfl,BA,Fr.refl _ _⟩
 case round =>
  obtain ⟨is,ixs,iv,S',rfl,Oa,Ag,BG,GL,E8,Bc,Ak⟩:=hrel;have FN:=Ak.size;have hX:w.heap.size+1+1<W.heap.size:=by omega
  have G7:=Making.of Ag
  by_cases OJ:is.length<n
  · obtain ⟨va,vc,rfl⟩:=ownsRow_shape BG.oi
    have MG:is.length<ts.length:=by rw[hn.out];exact OJ
    obtain ⟨oa,oc,ht,k0,k1,k2⟩:=hk is.length MG;have VQ:=hT ts[is.length] (getElem_mem _);have Ib:=Lib.hid fun c' (h:Made ts[is.length] c')=>take_succ_eq_append_getElem MG▸yM E8 h
    generalize ts[is.length]=T at ht k0 k1 k2 VQ Ib;have Cb:Fr (fun k=>k=p∨k=w.heap.size+1+1) w wr:=(JA.mono (S':=fun k=>k=p∨k=w.heap.size+1+1) (fun _ _ h=>.inl h)).trans Ak (fun _ _ h=>h);have Kq:¬ (q=p∨q=w.heap.size+1+1):=by omega
    have m0:=Cb.aA k0 Kq;have m1:=Cb.aA k1 Kq;have m2:=Cb.aA k2 Kq;obtain ⟨WA,JB⟩:∃ WA,WA=wr.alloc (.cells #[.string (bJ T.nm),.int .i64 T.sz,.slice oa T.kids.length oc] 29):=⟨_,rfl⟩;have Ee:F0 wr WA:=by rw[JB];exact (Fr.refl _ _).alloc _
    have X9:WA.heap.size=wr.heap.size+1:=by rw[JB];simp
    have FZ:WA.heap[wr.heap.size]?=some (.cells #[.string (bJ T.nm),.int .i64 T.sz,.slice oa T.kids.length oc] 29 (0,0)):=by rw[JB];exact heap_alloc_new wr _
    have Nh:=(Ee.block _ (aC Ag) (fun h=>h)).trans Ag;have TF:=BG.fr Ee (fun _ _ h=>h);have WM:=Ak.trans Ee (fun _ _ h=>h.elim);have Ar:LTS S WA.drew T.lt [.string (bJ T.nm),.int .i64 T.sz,.slice oa T.kids.length oc]:=LTS.to (Cb.trans Ee.drew (fun _ _ h=>h.elim)) (fun x hx=>⟨hx,by have:=hS x hx;show ¬ (x=p∨x=w.heap.size+1+1);omega⟩) _ _ ht;have SK:bT B WA.drew p:=Bc.fr Ee.drew (fun h=>h) (fun _ _ h=>h);have Bg:=VQ B WA.drew p _ S SK (by show p<WA.heap.size;omega) Ar (fun x hx=>⟨(hS x hx).1,by have:=(hS x hx).2;show x<WA.heap.size;omega⟩);have g6:=(Making.of Nh).g6;obtain ⟨b0,b1,b2,-,-,-⟩:=oK FZ;have Bq:=Lib.hid Nh;have Cc:=Lib.hid TF;have Ju:=Lib.hid GL;generalize bJ T.nm=tnm at m0 Bg b0 JB;generalize ((T.sz:Nat):Int)=tsz at m1 Bg b1 JB;generalize T.kids.length=tkl at m2 Bg b2 JB;clear Ar ht k0 k1 k2 Ag BG G7 hT VQ Io En GL E8 hk FZ Nh TF MG
    go_wp2_with fail
    rw[← JB];clear JB
    go_region_law (first
     | (go_simp;go_at_call 9;refine Bg.mono ?_;rintro e w3 ⟨c',xs',rfl,Ld,MX,H6,AV⟩;have DI:=AV.aH;have IJ:=DI.size;have BK:=(DI.block _ (by omega) (by show ¬ w.heap.size+1+1=p;omega)).trans Bq.out;obtain ⟨-,-,-,-,-,-,y6,-,-,-⟩:=Making.of BK;have ya6:=fun o'=>(Making.of ((Below.heap_alloc w3 o' _ (aC BK)).trans BK)).g6;obtain ⟨ja,jc,la,lc,rfl⟩:=Ld.eight)
     | (refine aK _ rfl ?_;refine dJ _ jH _ _ rfl _ _ _ rfl ((Cc.out.fr DI (fun q hq=>by show ¬ q=p;omega)).oi.alloc _) _ _ _ rfl (Src.ofSlice _ underlying31 _ _ _ _ rfl (bG _ [.int .u64 c'.r0,.int .u64 c'.r1,.int .u64 c'.r2,.int .u64 c'.r3,.string c'.s,.bool c'.null,.slice ja c'.items.length jc,.slice la c'.keys.length lc] _) (by simp[Value.oneCell'])) ?_ ?_ ?_;(unfold maxLen;omega);omega;intro v' w4 ha;obtain ⟨a',b',rfl⟩:=ha.shape;have Hm:=(ha.2.1.block _ (by have:=aC BK;simp;omega) (fun e=>by have:=Cc.out.li _ e.symm;omega)).trans ((Below.heap_alloc w3 _ _ (aC BK)).trans BK);obtain ⟨-,-,-,-,-,-,s6,-,z6,-⟩:=Making.of Hm))
    all_goals
     obtain ⟨a1,⟨S'',a2⟩,a3,a4⟩:=aBf (by omega) hX ER Bq.out Cc.out WM H6 DI Ld ha;go_wp2;go_roundw
     case rel=>exact ⟨is++[c'],_,.slice a' (is.length+1) b',S'',by rw[length_append];rfl,by simp;omega,a1,a2,by rw[fG,length_append,length_singleton,Nat.add_mul,Nat.one_mul];have:=MX.wt;have:=Ju.out;simp only[wts];omega,by rw[length_append];exact Ib.out c' MX.made,a3,a4⟩
     case measure=>simp[intOf];omega
  · have JG:is.length=n:=by omega
    subst JG;obtain ⟨va,vc,rfl⟩:=ownsRow_shape BG.oi;have Jp:=(Ak.block _ (by omega) (by show ¬ (w.heap.size+1=p∨w.heap.size+1=w.heap.size+1+1);omega)).trans Jo;obtain ⟨g0,g1,g2,g3,g4,g5,g6,g7,-,-⟩:=G7;obtain ⟨r0,r1,r2,r3,r4,r5,r6,r7,z0,z1,z2,z3,z4,z5,z6,z7⟩:=pY.of (w:=w) Jp;clear hk hT;go_wp2
    refine bodyPost_ret (by simp[results,results9,go_sem,r0,r1,r2,r3,r4,r5,r6,r7];try rfl) rfl ?_
    have Ee:Fr (fun k=>k=p) w wr:=JA.trans Ak (fun x hx h=>h.elim id (fun h=>by omega));obtain ⟨e1,e2,e3⟩:=uA Bc CW Ee (aCf BG (S':=fun q=>w.heap.size+1<q∧q<wr.heap.size) (fun q h1 h2=>⟨by omega,h2⟩)) (.int .u64 0) (.int .u64 0) (.int .u64 0) (.int .u64 0) (.string ⟨#[]⟩) (.bool false) (.slice va is.length vc) (.slice none 0 0)
    refine ⟨_,_,rfl,e1,⟨?_,fun us e=>(by cases e;exact hn.out.symm),fun k v e=>(by cases e),fun t e=>(by cases e),is,rfl,by rw[← hn.out,take_length] at E8;exact E8⟩,e2,e3⟩;have h5:1≤5 ^ d:=Nat.one_le_pow _ _ (by decide);have hm:is.length*(20*5 ^ d)≤4*(20*5 ^ d):=Nat.mul_le_mul_right _ (by omega);have h0:(⟨#[]⟩:ByteArray).size=0:=rfl;rw[Cell.wt,h0,Nat.pow_succ];simp only[wts];omega
theorem qG:∀ (d:Nat) (T:Ty),Ok d T→mW d T
 | 0,_,h=>(uB h).ok 0 (jQ h).1 (jQ h).2.1 (jQ h).2.2
 | d+1,T,h=>by
  rcases h with h|⟨t,rfl,h⟩|⟨k,v,rfl,hk,h⟩|⟨ts,rfl,h1,h2,h⟩
  · exact (uB h).ok (d+1) (jQ h).1 (jQ h).2.1 (jQ h).2.2
  · exact aKf d t (qG d t h)
  · exact aKi d k v (uB (hk.elim .inl (fun h=>.inr (.inr h)))) (qG d v h)
  · exact aKm d ts h1 h2 fun t ht=>qG d t (h t ht)
end Go.Proofs.YtcidlnjpabgioaaGreatDoor
