import Derived.Test.YtcidlnjpabgioaaGreatDoorUTyp
import Derived.Test.YtcidlnjpabgioaaGreatDoorUGCell
set_option maxHeartbeats 8000000
set_option maxRecDepth 100000
namespace Go.Proofs.YtcidlnjpabgioaaGreatDoor
open Tryz List Go.RowKit
structure aKb (d:Nat) (T:Ty) (c:Cell) (xs:List Value):Prop where
 wt:c.wt≤20*5 ^ d
 tup:∀ ts,T=.tup ts→c.items.length=ts.length
 map:∀ k v,T=.map k v→c.keys.length=c.items.length
 arr:∀ t,T=.arr t→c.items=[]→xs[6]?=some (.slice none 0 0)
 made:Made T c
def mW (d:Nat) (T:Ty):Prop:=∀ (B:Nat) (w:World) (p:Nat) (vs:List Value) (S:Nat→Prop),bT B w p→p<w.heap.size→LTS S w T.lt vs→(∀ q,S q→q≠p∧q<w.heap.size) →
 Calls Tryz.prog 9 #[.pointer (some ⟨p,0,none⟩),.agg vs.toArray] w fun e w'=>∃ (c:Cell) (xs:List Value),e=.returned (.agg xs.toArray)∧bZ (New w w') w' c xs∧aKb d T c xs∧bT B w' p∧Fr (fun q=>q=p) w w'
theorem pG {S:Nat→Prop} {w:World} {T t:Ty} {vs:List Value} {i:Nat} (h:LTS S w T.lt vs) (hi:T.kids[i]?=some t):∃ (q o c:Nat) (oa:Option Addr) (oc:Nat),vs=[.string (bJ T.nm),.int .i64 T.sz,.slice (some ⟨q,o,none⟩) T.kids.length c]∧T.kids.length≤c∧c≤maxLen∧S q ∧
 LTS S w t.lt [.string (bJ t.nm),.int .i64 t.sz,.slice oa t.kids.length oc]∧w.cell? ⟨q,o+i*3,none⟩=some (.string (bJ t.nm))∧w.cell? ⟨q,o+i*3+1,none⟩=some (.int .i64 t.sz)∧w.cell? ⟨q,o+i*3+2,none⟩=some (.slice oa t.kids.length oc):=by
 obtain ⟨ov,ixs,rfl,h1,_,h3⟩:=h.ty;obtain ⟨hl,a,c,rfl,BF,AP,h0,ha⟩:=h1
 have Fa:i<T.kids.length:=by
  rcases Nat.lt_or_ge i T.kids.length with h|h
  · exact h
  · rw[getElem?_eq_none h] at hi;cases hi
 cases a with
 | none=>have:=h0 rfl;omega
 | some ad =>
  obtain ⟨q,o,sp⟩:=ad;obtain ⟨hS,G8,CQ⟩:=ha _ rfl;simp only at hS G8;subst G8;have ht:=h3.at i t.lt (by rw[getElem?_map,hi];rfl);obtain ⟨oa,oc,hv⟩:=ht.three;rw[hv] at ht
  have hg:∀ j,j<3→ixs[i*3+j]?=[Value.string (bJ t.nm),.int .i64 t.sz,.slice oa t.kids.length oc][j]?:=fun j hj=>by
   rw[← hv,getElem?_take,if_pos hj,getElem?_drop]
  refine ⟨q,o,c,oa,oc,rfl,BF,AP,hS,ht,?_,?_,?_⟩
  · have:=CQ (i*3+0) _ (hg 0 (by omega))
    rw[Addr.add_lit] at this
    exact this
  · have:=CQ (i*3+1) _ (hg 1 (by omega))
    rw[Addr.add_lit,← Nat.add_assoc] at this
    exact this
  · have:=CQ (i*3+2) _ (hg 2 (by omega))
    rw[Addr.add_lit,← Nat.add_assoc] at this
    exact this
theorem uA {B:Nat} {w w3:World} {p:Nat} (Bc:bT B w3 p) (CW:p<w.heap.size) (Ak:Fr (fun q=>q=p) w w3) {c:Cell} {xs:List Value} (hc:bZ (fun q=>w.heap.size+1<q∧q<w3.heap.size) w3 c xs) (x0 x1 x2 x3 x4 x5 x6 x7:Value) :
 let w5:=(((((((w3.setCell ⟨w.heap.size+1,0,none⟩ x0).setCell ⟨w.heap.size+1,1,none⟩ x1).setCell ⟨w.heap.size+1,2,none⟩ x2).setCell ⟨w.heap.size+1,3,none⟩ x3).setCell ⟨w.heap.size+1,4,none⟩ x4).setCell ⟨w.heap.size+1,5,none⟩ x5).setCell ⟨w.heap.size+1,6,none⟩ x6).setCell ⟨w.heap.size+1,7,none⟩ x7
 bZ (New w w5) w5 c xs∧bT B w5 p∧Fr (fun q=>q=p) w w5:=by
 have h1:=aCo (w:=w) (wr:=w3) (fun q=>q=w.heap.size+1) rfl x0 x1 x2 x3 x4 x5 x6 x7;have hB:=Bc.1
 refine ⟨bZ.to h1 (fun q hq=>⟨⟨by have:=hq.1;omega,Nat.lt_of_lt_of_le hq.2 h1.size⟩,?_⟩) _ _ hc,Bc.fr h1 (by show ¬ p=w.heap.size+1;omega) (fun q hq=>by show ¬ q=w.heap.size+1;omega),Ak.trans h1 (fun q hq h=>?_)⟩
 · have:=hq.1
   show ¬ q=w.heap.size+1;omega
 · have:q=w.heap.size+1:=h
   omega
theorem pJ (T:Ty) (hT:T.dU):kM T:=by
 cases T with
 | num k=>exact aKk k
 | str=>exact aKl
 | fix n=>exact aKg n (by have:n=5∨n=16:=hT;omega)
 | _=>exact hT.elim
structure kD (c:Cell):Prop where
 items:c.items=[]
 keys:c.keys=[]
 w0:c.r0<18446744073709551616
 w1:c.r1<18446744073709551616
 w2:c.r2<18446744073709551616
 w3:c.r3<18446744073709551616
 s:c.s.size≤16
theorem aMb (n:Nat):256 ^ min 8 n≤18446744073709551616:=Nat.le_trans (Nat.pow_le_pow_right (by decide) (Nat.min_le_left 8 n)) (by decide)
theorem xP {T:Ty} (hT:T.dU) {c:Cell} (h:Flat T c):kD c:=by
 cases T with
 | num k =>
  obtain ⟨h1,_,h3,h4,h5,h6,h7,h8⟩:=h;have p:=fun n=>aMb n
  exact ⟨h3,h4,Nat.lt_of_lt_of_le h5 (p _),Nat.lt_of_lt_of_le h6 (p _),Nat.lt_of_lt_of_le h7 (p _),Nat.lt_of_lt_of_le h8 (p _),by rw[h1];decide⟩
 | str =>
  obtain ⟨h1,_,h3,h4,h5,h6,h7,h8⟩:=h
  exact ⟨h3,h4,by omega,by omega,by omega,by omega,by omega⟩
 | fix n =>
  obtain ⟨h1,_,h3,h4,h5,h6,h7,h8⟩:=h;have:n=5∨n=16:=hT
  exact ⟨h3,h4,by omega,by omega,by omega,by omega,by omega⟩
 | _=>exact hT.elim
theorem aAj:kD lN:=⟨rfl,rfl,by decide,by decide,by decide,by decide,by decide⟩
theorem kD.in {S:Nat→Prop} {w:World} {c:Cell} (h:kD c):bZ S w c c.fM:=by
 obtain ⟨h1,h2,h3,h4,h5,h6,h7⟩:=h;obtain ⟨a,b,d,e,s,nl,is,ks⟩:=c;obtain rfl:is=[]:=h1;obtain rfl:ks=[]:=h2;unfold bZ
 exact ⟨_,_,[],[],rfl,h3,h4,h5,h6,Nat.le_trans h7 (by decide),mD S w 8,bK.nil,mD S w 8,bK.nil⟩
theorem kD.wt {c:Cell} (h:kD c):c.wt≤17:=by
 rw[Cell.nS,h.items,h.keys];simp only[wts];have:=h.s;omega
structure aCJ (T:Ty) (c:Cell):Prop extends kD c where
 made:Made T c
theorem uF {T:Ty} (hT:T.dU) {c:Cell} (h:Flat T c):aCJ T c:=by
 refine ⟨xP hT h,?_⟩;obtain ⟨a,b,d,e,s,nl,is,ks⟩:=c
 cases T with
 | num k =>
  obtain ⟨h1,h2,h3,h4,h5,h6,h7,h8⟩:=h;obtain rfl:s=⟨#[]⟩:=h1;obtain rfl:nl=false:=h2;obtain rfl:is=[]:=h3;obtain rfl:ks=[]:=h4
  refine ⟨a,b,d,e,rfl,?_⟩
  change a<_ at h5
  change b<_ at h6
  change d<_ at h7
  change e<_ at h8
  cases k<;>(simp[Num.size] at h5 h6 h7 h8 ⊢;omega)
 | str =>
  obtain ⟨h1,h2,h3,h4,h5,h6,h7,h8⟩:=h
  exact ⟨s,by cases h2;cases h3;cases h4;cases h5;cases h6;cases h7;cases h8;rfl⟩
 | fix n =>
  obtain ⟨h1,h2,h3,h4,h5,h6,h7,h8⟩:=h
  exact ⟨s,by cases h2;cases h3;cases h4;cases h5;cases h6;cases h7;cases h8;rfl,h1⟩
 | _=>exact hT.elim
theorem aHW {T:Ty} (hT:T.dU) {c:Cell} (h:Flat T c):c.null=false:=by
 cases T with
 | num k=>exact h.2.1
 | str=>exact h.2.1
 | fix n=>exact h.2.1
 | _=>exact hT.elim
theorem kD.ok {c:Cell} (h:kD c) {d:Nat} {T:Ty} (h1:∀ ts,T≠.tup ts) (h2:∀ k v,T≠.map k v) (h3:∀ t,T≠.arr t) (hm:Made T c) (xs:List Value):aKb d T c xs :=
 ⟨by have:=h.wt;have:1≤5 ^ d:=Nat.one_le_pow _ _ (by decide);omega,fun ts e=>absurd e (h1 ts),fun k v e=>absurd e (h2 k v),fun t e=>absurd e (h3 t),hm⟩
def kL (T:Ty):Prop:=∀ (B:Nat) (w:World) (p:Nat) (vs:List Value) (S:Nat→Prop),bT B w p→p<w.heap.size→LTS S w T.lt vs→(∀ q,S q→q≠p∧q<w.heap.size) →
 Calls Tryz.prog 9 #[.pointer (some ⟨p,0,none⟩),.agg vs.toArray] w fun e w'=>∃ c:Cell,e=.returned (.agg c.fM.toArray)∧aCJ T c∧bT B w' p∧Fr (fun q=>q=p) w w'
theorem kL.ok {T:Ty} (h:kL T) (d:Nat) (h1:∀ ts,T≠.tup ts) (h2:∀ k v,T≠.map k v) (h5:∀ t,T≠.arr t):mW d T:=fun B w p vs S hc hp hl hS =>
 (h B w p vs S hc hp hl hS).mono fun _ _ ⟨c,e1,hf,h3,h4⟩=>⟨c,_,e1,hf.in,hf.ok h1 h2 h5 hf.made _,h3,h4⟩
theorem aEF (T:Ty) (hT:T.dU):kL T:=fun B w p vs S hc hp hl hS=>by
 rw[lY hT hl]
 exact (pJ T hT B w p hc hp).mono fun _ _ ⟨c,hf,e1,h3,h4⟩=>⟨c,e1,uF hT hf,h3,h4⟩
theorem aHP (T:Ty) (hT:T.dU):kL (.nul T):=fun B w p vs S hc hp hl hS=>by
 obtain ⟨q,o,c,oa,oc,rfl,BF,AP,hq,ht,k0,k1,k2⟩:=pG hl (i:=0) (t:=T) rfl;have h3:=lY hT ht;simp only[List.cons.injEq,Ty.cells3,and_true,true_and] at h3;rw[h3] at k2;unfold maxLen at AP;simp only[Nat.zero_mul,Nat.add_zero] at k0 k1 k2
 refine (aKj T (pJ T hT) B w p hc hp q o c (hS q hq).1 ⟨BF,by omega⟩ fun j u hj=>?_).mono fun _ _ ⟨x,hx,e1,h4,h5⟩=>⟨x,e1,hx.elim (fun e=>e▸⟨aAj,.inl rfl⟩) (fun h=>⟨xP hT h,.inr ⟨aHW hT h,(uF hT h).made⟩⟩),h4,h5⟩
 match j,hj with
 | 0,hj=>cases hj;exact k0
 | 1,hj=>cases hj;exact k1
 | 2,hj=>cases hj;exact k2
theorem aKh:kL .low:=by
 intro B w p vs S h CW hl hS;obtain ⟨q,o,c,oa,oc,rfl,BF,AP,P7,ht,k0,k1,k2⟩:=pG hl (i:=0) (t:=.str) rfl;have h3:=lY (T:=.str) trivial ht;simp only[List.cons.injEq,Ty.cells3,and_true,true_and] at h3;rw[h3] at k2;unfold maxLen at AP;simp only[Nat.zero_mul,Nat.add_zero] at k0 k1 k2;have hq:=(hS q P7).1;have Cj:1≤c:=BF;have He:(bJ Ty.low.nm).toList=[76,111,119,67,97,114,100,105,110,97,108,105,116,121]:=cZ _;have ER:=h.1;have hT:=pJ .str trivial;show Calls _ _ #[_,.agg #[.string (bJ Ty.low.nm),.int .i64 0,.slice (some ⟨q,o,none⟩) 1 c]] _ _;generalize bJ Ty.low.nm=nm at He;clear hl ht h3;go_enter func9,ntmps9
 go_upto_region 2 with fail
 have hW:=mV.of w #[.string nm,.int .i64 0,.slice (some ⟨q,o,none⟩) 1 c];unfold cO at hW;generalize ((w.alloc _).alloc _).alloc _=W at hW ⊢;have BA:bT B W p:=h.fr hW.fr (fun h=>h) (fun _ _ h=>h);have Ef:p<W.heap.size:=by rw[hW.size];omega
 have Io:W.cell? ⟨w.heap.size,0,none⟩=some (.string nm):=by rw[cell_of_row _ _ _ _ _ _ hW.box];rfl
 have Fh:W.cell? ⟨w.heap.size,2,none⟩=some (.slice (some ⟨q,o,none⟩) 1 c):=by rw[cell_of_row _ _ _ _ _ _ hW.box];rfl
 have RP:Calls Tryz.prog 9 #[.pointer (some ⟨p,0,none⟩),.agg #[.string (bJ Ty.str.nm),.int .i64 Ty.str.sz,.slice none 0 0]] W fun e w'=>∃ c,Flat .str c∧e=.returned (.agg c.fM.toArray)∧bT B w' p∧Fr (fun q=>q=p) W w':=hT B W p BA Ef
 have kW0:=hW.fr.aA k0 (fun h=>h);have kW1:=hW.fr.aA k1 (fun h=>h);have kW2:=hW.fr.aA k2 (fun h=>h);have Az:∀ w',Fr (fun k=>k=p) W w'→pY w w':=fun w' hf=>pY.of ((hf.block _ (by rw[hW.size];omega) (by show ¬ w.heap.size+1=p;omega)).trans hW.res)
 have Ku:=Lib.hid Az;clear Az k0 k1 k2 hT;generalize bJ Ty.str.nm=snm at kW0 RP;generalize ((Ty.str.sz:Nat):Int)=ssz at kW1 RP
 go_wp2_with (go_at_call 9;refine RP.mono ?_;rintro e w2 ⟨x,hx,rfl,DZ,Ae⟩;obtain ⟨g0,g1,g2,g3,g4,g5,g6,g7,z0,z1,z2,z3,z4,z5,z6,z7⟩:=Ku.out w2 Ae;unfold Cell.fM)
 refine bodyPost_ret (by simp[results,results9,go_sem,g0,g1,g2,g3,g4,g5,g6,g7];try rfl) rfl ?_
 have Rn:Fr (fun k=>k=p) w w2:=(hW.fr.mono (S':=fun k=>k=p) (fun _ _ h=>h.elim)).trans Ae (fun _ _ h=>h)
 exact ⟨x,rfl,⟨xP (T:=.str) trivial hx,(uF (T:=.str) trivial hx).made⟩,DZ.fr (aCo (w:=w) (wr:=w2) (fun k=>k=w.heap.size+1) rfl _ _ _ _ _ _ _ _) (by show ¬ p=w.heap.size+1;omega) (fun k hk=>by show ¬ k=w.heap.size+1;omega),zC Rn _ _ _ _ _ _ _ _⟩
theorem uB {T:Ty} (h:T.dU∨(∃ t,T=.nul t∧t.dU)∨T=.low):kL T:=by
 rcases h with h|⟨t,rfl,h⟩|rfl
 · exact aEF T h
 · exact aHP t h
 · exact aKh
theorem jQ {T:Ty} (h:T.dU∨(∃ t,T=.nul t∧t.dU)∨T=.low):(∀ ts,T≠.tup ts)∧(∀ k v,T≠.map k v)∧∀ t,T≠.arr t:=by
 rcases h with h|⟨t,rfl,h⟩|rfl
 · refine ⟨fun ts e=>?_,fun k v e=>?_,fun t e=>?_⟩<;>(subst e;exact h.elim)
 · exact ⟨fun _ e=>(by cases e),fun _ _ e=>(by cases e),fun _ e=>(by cases e)⟩
 · exact ⟨fun _ e=>(by cases e),fun _ _ e=>(by cases e),fun _ e=>(by cases e)⟩
def fO (iv kv:Value):Array Value:=#[.int .u64 0,.int .u64 0,.int .u64 0,.int .u64 0,.string ⟨#[]⟩,.bool false,iv,kv]
structure Making (w:World) (q:Nat) (iv kv:Value):Prop where
 g0:w.cell? ⟨q,0,none⟩=some (.int .u64 0)
 g1:w.cell? ⟨q,1,none⟩=some (.int .u64 0)
 g2:w.cell? ⟨q,2,none⟩=some (.int .u64 0)
 g3:w.cell? ⟨q,3,none⟩=some (.int .u64 0)
 g4:w.cell? ⟨q,4,none⟩=some (.string ⟨#[]⟩)
 g5:w.cell? ⟨q,5,none⟩=some (.bool false)
 g6:w.cell? ⟨q,6,none⟩=some iv
 g7:w.cell? ⟨q,7,none⟩=some kv
 z6:w.frozen? ⟨q,6,none⟩=false
 z7:w.frozen? ⟨q,7,none⟩=false
theorem Making.of {w:World} {q:Nat} {iv kv:Value} (h:w.heap[q]?=some (.cells (fO iv kv) 35 (0,0))):Making w q iv kv where
 g0:=crw h rfl
 g1:=crw h rfl
 g2:=crw h rfl
 g3:=crw h rfl
 g4:=crw h rfl
 g5:=crw h rfl
 g6:=crw h rfl
 g7:=crw h rfl
 z6:=fzj _ h
 z7:=fzj _ h
theorem aAZ {w:World} {q:Nat} {iv kv:Value} (h:w.heap[q]?=some (.cells (fO iv kv) 35 (0,0))) (v:Value):(w.setCell ⟨q,6,none⟩ v).heap[q]?=some (.cells (fO v kv) 35 (0,0)):=by
 simp[World.setCell,Array.getElem?_modify,h,fO]
theorem aHY {w:World} {q:Nat} {iv kv:Value} (h:w.heap[q]?=some (.cells (fO iv kv) 35 (0,0))) (v:Value):(w.setCell ⟨q,7,none⟩ v).heap[q]?=some (.cells (fO iv v) 35 (0,0)):=by
 simp[World.setCell,Array.getElem?_modify,h,fO]
theorem bZ.eight {S:Nat→Prop} {w:World} {c:Cell} {vs:List Value} (h:bZ S w c vs):∃ (ia:Option Addr) (ic:Nat) (ka:Option Addr) (kc:Nat),vs=[.int .u64 c.r0,.int .u64 c.r1,.int .u64 c.r2,.int .u64 c.r3,.string c.s,.bool c.null,.slice ia c.items.length ic,.slice ka c.keys.length kc]:=by
 obtain ⟨ia,ic,ka,kc,_,_,h,_⟩:=h.full
 exact ⟨ia,ic,ka,kc,h⟩
theorem aBf {B p X:Nat} {w1 wr w3 w4:World} {iv iv' kv:Value} {is ks:List Cell} {ixs kxs xs:List Value} {S:Nat→Prop} {c:Cell} {o:Obj} (Ql:p<X) (hX:X<w1.heap.size) (ER:B≤p)
 (Ag:wr.heap[X]?=some (.cells (fO iv kv) 35 (0,0))) (h:bU w1.heap.size wr iv kv is ks ixs kxs S) (hf:Fr (fun q=>q=p∨q=X) w1 wr) (Ld:bT B w3 p) (AV:Fr (fun q=>q=p) wr w3) (hc:bZ (New wr w3) w3 c xs)
 (ha:dE (w3.alloc o) w4 35 8 iv iv' (is.length+1) (ixs++xs)) :
 (w4.setCell ⟨X,6,none⟩ iv').heap[X]?=some (.cells (fO iv' kv) 35 (0,0))∧(∃ S',bU w1.heap.size (w4.setCell ⟨X,6,none⟩ iv') iv' kv (is++[c]) ks (ixs++xs) kxs S')∧bT B (w4.setCell ⟨X,6,none⟩ iv') p∧Fr (fun q=>q=p∨q=X) w1 (w4.setCell ⟨X,6,none⟩ iv'):=by
 have hs:=hf.size;have IJ:=AV.size;have h3:bU w1.heap.size w3 iv kv is ks ixs kxs S:=h.fr AV (fun q hq=>by show ¬ q=p;omega);have BM:=(Fr.refl (fun _=>False) w3).alloc o;have Zo:=h3.fr BM (fun _ _ h=>h);have SH:bZ (New wr w3) (w3.alloc o) c xs:=bZ.to BM (fun q hq=>⟨hq,fun h=>h⟩) _ _ hc;obtain ⟨h4,BU⟩:=Zo.push (by simp;omega) SH (fun q hq=>⟨by have:=hq.1;omega,by have:=hq.2;simp;omega,fun e=>by have:=aO h.oi e;have:=hq.1;omega,fun e=>by have:=aO h.ok e;have:=hq.1;omega⟩) ha;have Hm:w4.heap[X]?=some (.cells (fO iv kv) 35 (0,0)):=(BU.block X (by simp;omega) (by show ¬ w1.heap.size≤X;omega)).trans ((BM.block X (by omega) (fun h=>h)).trans ((AV.block X (aC Ag) (by show ¬ X=p;omega)).trans Ag));have BP:Fr (fun q=>q=X) w4 (w4.setCell ⟨X,6,none⟩ iv'):=(Fr.refl (fun q=>q=X) w4).setCell (.inl rfl) _
 refine ⟨aAZ Hm _,⟨_,h4.fr BP (fun q hq=>by show ¬ q=X;omega)⟩,(Ld.fr BM (fun h=>h) (fun _ _ h=>h)).fr ((BU.mono (S':=fun q=>w1.heap.size≤q∨q=X) (fun _ _ h=>.inl h)).trans BP (fun _ _ h=>.inr h)) (fun e=>?_) (fun q hq e=>?_),?_⟩
 · rcases e with e|e
   · omega
   · omega
 · rcases e with e|e
   · omega
   · omega
 · have FP:Fr (fun q=>q=p∨q=X∨w1.heap.size≤q) w1 (w4.setCell ⟨X,6,none⟩ iv'):=((((hf.mono (S':=fun q=>q=p∨q=X∨w1.heap.size≤q) (fun q _ h=>h.elim .inl (fun h=>.inr (.inl h)))).trans AV (fun q _ h=>.inl h)).trans BM (fun _ _ h=>h.elim)).trans BU (fun q _ h=>.inr (.inr h))).trans BP (fun q _ h=>.inr (.inl h))
   exact FP.mono fun q hq h=>by
    rcases h with h|h|h
    · exact .inl h
    · exact .inr h
    · omega
theorem aCf {wr:World} {lo:Nat} {iv kv:Value} {is ks:List Cell} {ixs kxs:List Value} {S S':Nat→Prop} (h:bU lo wr iv kv is ks ixs kxs S) (Lt:∀ q,lo≤q→q<wr.heap.size→S' q):bZ S' wr (.mk 0 0 0 0 ⟨#[]⟩ false is ks) [.int .u64 0,.int .u64 0,.int .u64 0,.int .u64 0,.string ⟨#[]⟩,.bool false,iv,kv]:=by
 unfold bZ
 exact ⟨iv,kv,ixs,kxs,rfl,by decide,by decide,by decide,by decide,by decide,lD h.oi fun q hq=>Lt q (h.li q hq) (aO h.oi hq),h.ci.mono fun q hq=>Lt q (h.hS q hq).1 (h.hS q hq).2.1,lD h.ok fun q hq=>Lt q (h.lk q hq) (aO h.ok hq),h.ck.mono fun q hq=>Lt q (h.hS q hq).1 (h.hS q hq).2.1⟩
theorem aKf (d:Nat) (T:Ty) (hT:mW d T):mW (d+1) (.arr T):=by
 intro B w p vs S h CW hl hS;obtain ⟨q,o,c,oa,oc,rfl,BF,AP,P7,ht,k0,k1,k2⟩:=pG hl (i:=0) (t:=T) rfl;unfold maxLen at AP;simp only[Nat.zero_mul,Nat.add_zero] at k0 k1 k2;have hq:=hS q P7;have Cj:1≤c:=BF;have He:(bJ (Ty.arr T).nm).toList=[65,114,114,97,121]:=cZ _;have ER:=h.1;show Calls _ _ #[_,.agg #[.string (bJ (Ty.arr T).nm),.int .i64 0,.slice (some ⟨q,o,none⟩) 1 c]] _ _;generalize bJ (Ty.arr T).nm=nm at He;clear hl;go_enter func9,ntmps9
 go_upto_region 2 with fail
 have hW:=mV.of w #[.string nm,.int .i64 0,.slice (some ⟨q,o,none⟩) 1 c];unfold cO at hW;generalize ((w.alloc _).alloc _).alloc _=W at hW ⊢;have BA:bT B W p:=h.fr hW.fr (fun h=>h) (fun _ _ h=>h);have Ef:p<W.heap.size:=by rw[hW.size];omega
 have Io:W.cell? ⟨w.heap.size,0,none⟩=some (.string nm):=by rw[cell_of_row _ _ _ _ _ _ hW.box];rfl
 go_wp2_with (go_at_call 20;refine (fZ B _ p BA).mono ?_;rintro e w1 ⟨b,hb,rfl,Eg,Ad⟩)
 have BN:=Ad.size;have La:=hW.size;have En:w1.heap[w.heap.size+1+1]?=some (.cells (fO (.slice none 0 0) (.slice none 0 0)) 35 (0,0)):=(Ad.block _ (by rw[La];omega) (by show ¬ w.heap.size+1+1=p;omega)).trans hW.row;have JA:Fr (fun k=>k=p) w w1:=(hW.fr.mono (S':=fun k=>k=p) (fun _ _ h=>h.elim)).trans Ad (fun _ _ h=>h);have DY:=(Ad.block _ (by rw[La];omega) (by show ¬ w.heap.size=p;omega)).trans hW.box;have Jo:=(Ad.block _ (by rw[La];omega) (by show ¬ w.heap.size+1=p;omega)).trans hW.res
 go_loopw [6] (fun i wr=>∃ (k:Nat) (is:List Cell) (ixs:List Value) (iv:Value) (S':Nat→Prop),i=.int .i64 k∧(is=[]→iv=.slice none 0 0)∧is.length+k≤3∧wr.heap[w.heap.size+1+1]?=some (.cells (fO iv (.slice none 0 0)) 35 (0,0))∧bU w1.heap.size wr iv (.slice none 0 0) is [] ixs [] S'∧wts is≤is.length*(20*5 ^ d)∧(∀ x∈is,Made T x)∧bT B wr p∧Fr (fun k=>k=p∨k=w.heap.size+1+1) w1 wr) (fun i _=>(intOf i).toNat)
 case atStart=>exact ⟨b % 4,[],[],.slice none 0 0,_,by go_num,fun _=>rfl,by simp;omega,En,bU.nil _ _,by simp[wts],by simp,Eg,Fr.refl _ _⟩
 case round =>
  obtain ⟨k,is,ixs,iv,S',rfl,Jh,Oa,Ag,BG,GL,E8,Bc,Ak⟩:=hrel;have Uc:=Lib.hid Jh;clear Jh;have FN:=Ak.size;have hX:w.heap.size+1+1<w1.heap.size:=by omega
  have Gh:=(Ak.block _ (by omega) (by show ¬ (w.heap.size=p∨w.heap.size=w.heap.size+1+1);omega)).trans DY;have G7:=Making.of Ag
  by_cases OJ:0<k
  · have Gz:(0:Int)<k:=by omega
    have Ht:IntKind.i64.wrap ((k:Int) - 1)=(k:Int) - 1:=by rw[IntKind.wrap_i64];omega
    obtain ⟨va,vc,rfl⟩:=ownsRow_shape BG.oi;have Cb:Fr (fun k=>k=p∨k=w.heap.size+1+1) w wr:=(JA.mono (S':=fun k=>k=p∨k=w.heap.size+1+1) (fun _ _ h=>.inl h)).trans Ak (fun _ _ h=>h);have Kq:¬ (q=p∨q=w.heap.size+1+1):=by omega
    have m0:=Cb.aA k0 Kq;have m1:=Cb.aA k1 Kq;have m2:=Cb.aA k2 Kq;have Ar:LTS S wr.drew T.lt [.string (bJ T.nm),.int .i64 T.sz,.slice oa T.kids.length oc]:=LTS.to Cb.drew (fun x hx=>⟨hx,by have:=hS x hx;show ¬ (x=p∨x=w.heap.size+1+1);omega⟩) _ _ ht;have SK:bT B wr.drew p:=Bc.fr ((Fr.refl (fun _=>False) wr).drew) (fun h=>h) (fun _ _ h=>h);have Bg:=hT B wr.drew p _ S SK (by show p<wr.heap.size;omega) Ar (fun x hx=>⟨(hS x hx).1,by have:=(hS x hx).2;show x<wr.heap.size;omega⟩);have SC:wr.cell? ⟨w.heap.size,2,none⟩=some (.slice (some ⟨q,o,none⟩) 1 c):=crw Gh rfl;have g6:=G7.g6;have Bq:=Lib.hid Ag;have Cc:=Lib.hid BG;have Ju:=Lib.hid GL;have Ib:=Lib.hid E8;generalize bJ T.nm=tnm at m0 Bg;generalize ((T.sz:Nat):Int)=tsz at m1 Bg;generalize T.kids.length=tkl at m2 Bg;clear Ar ht k0 k1 k2 Ag BG G7 Gh hT Io DY En GL E8
    go_wp2_with fail
    go_region_law (first
     | (go_simp;go_at_call 9;refine Bg.mono ?_;rintro e w3 ⟨c',xs',rfl,Ld,MX,H6,AV⟩;have DI:=AV.aH;have IJ:=DI.size;have BK:=(DI.block _ (by omega) (by show ¬ w.heap.size+1+1=p;omega)).trans Bq.out;obtain ⟨-,-,-,-,-,-,y6,-,-,-⟩:=Making.of BK;have ya6:=fun o'=>(Making.of ((Below.heap_alloc w3 o' _ (aC BK)).trans BK)).g6;obtain ⟨ja,jc,la,lc,rfl⟩:=Ld.eight)
     | (refine aK _ rfl ?_;refine dJ _ jH _ _ rfl _ _ _ rfl ((Cc.out.fr DI (fun q hq=>by show ¬ q=p;omega)).oi.alloc _) _ _ _ rfl (Src.ofSlice _ underlying31 _ _ _ _ rfl (bG _ [.int .u64 c'.r0,.int .u64 c'.r1,.int .u64 c'.r2,.int .u64 c'.r3,.string c'.s,.bool c'.null,.slice ja c'.items.length jc,.slice la c'.keys.length lc] _) (by simp[Value.oneCell'])) ?_ ?_ ?_;(unfold maxLen;omega);omega;intro v' w4 ha;obtain ⟨a',b',rfl⟩:=ha.shape;have Hm:=(ha.2.1.block _ (by have:=aC BK;simp;omega) (fun e=>by have:=Cc.out.li _ e.symm;omega)).trans ((Below.heap_alloc w3 _ _ (aC BK)).trans BK);obtain ⟨-,-,-,-,-,-,s6,-,z6,-⟩:=Making.of Hm))
    all_goals
     obtain ⟨a1,⟨S'',a2⟩,a3,a4⟩:=aBf (by omega) hX ER Bq.out Cc.out Ak H6 DI Ld ha;go_wp2;go_roundw
     case rel=>exact ⟨k - 1,is++[c'],_,.slice a' (is.length+1) b',S'',by rw[Int.natCast_sub OJ];rfl,fun e=>absurd e (by simp),by simp;omega,a1,a2,by rw[fG,length_append,length_singleton,Nat.add_mul,Nat.one_mul];have:=MX.wt;have:=Ju.out;simp only[wts];omega,fun x hx=>(mem_append.1 hx).elim (Ib.out x) fun h=>by rw[mem_singleton.1 h];exact MX.made,a3,a4⟩
     case measure=>simp[intOf];omega
  · have JG:k=0:=by omega
    subst JG;obtain ⟨va,vc,rfl⟩:=ownsRow_shape BG.oi;have Jp:=(Ak.block _ (by omega) (by show ¬ (w.heap.size+1=p∨w.heap.size+1=w.heap.size+1+1);omega)).trans Jo;obtain ⟨g0,g1,g2,g3,g4,g5,g6,g7,-,-⟩:=G7;obtain ⟨r0,r1,r2,r3,r4,r5,r6,r7,z0,z1,z2,z3,z4,z5,z6,z7⟩:=pY.of (w:=w) Jp;go_wp2
    refine bodyPost_ret (by simp[results,results9,go_sem,r0,r1,r2,r3,r4,r5,r6,r7];try rfl) rfl ?_
    have Ee:Fr (fun k=>k=p) w wr:=JA.trans Ak (fun x hx h=>h.elim id (fun h=>by omega));obtain ⟨e1,e2,e3⟩:=uA Bc CW Ee (aCf BG (S':=fun q=>w.heap.size+1<q∧q<wr.heap.size) (fun q h1 h2=>⟨by omega,h2⟩)) (.int .u64 0) (.int .u64 0) (.int .u64 0) (.int .u64 0) (.string ⟨#[]⟩) (.bool false) (.slice va is.length vc) (.slice none 0 0)
    refine ⟨_,_,rfl,e1,⟨?_,fun ts e=>(by cases e),fun k v e=>(by cases e),fun t _ e=>congrArg some (Uc.out e),is,rfl,E8⟩,e2,e3⟩;have h5:1≤5 ^ d:=Nat.one_le_pow _ _ (by decide);have hm:is.length*(20*5 ^ d)≤3*(20*5 ^ d):=Nat.mul_le_mul_right _ (by omega);have h0:(⟨#[]⟩:ByteArray).size=0:=rfl;rw[Cell.wt,h0,Nat.pow_succ];simp only[wts];omega
end Go.Proofs.YtcidlnjpabgioaaGreatDoor
