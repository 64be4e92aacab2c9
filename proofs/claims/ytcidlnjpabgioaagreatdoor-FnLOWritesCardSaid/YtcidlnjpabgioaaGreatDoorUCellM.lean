import Derived.Test.YtcidlnjpabgioaaGreatDoorUGCellG
import Derived.Test.YtcidlnjpabgioaaGreatDoorUGSame
set_option maxHeartbeats 8000000
set_option maxRecDepth 100000
namespace Go.Proofs.YtcidlnjpabgioaaGreatDoor
open Tryz List Go.RowKit
theorem bU.alloc {lo:Nat} {w:World} {iv kv:Value} {is ks:List Cell} {ixs kxs:List Value} {S:Nat→Prop} (h:bU lo w iv kv is ks ixs kxs S) (o:Obj):bU lo (w.alloc o) iv kv is ks ixs kxs S:=h.fr ((Fr.refl (fun _=>False) w).alloc o) (fun _ _ h=>h)
theorem bT.alloc {B:Nat} {w:World} {p:Nat} (h:bT B w p) (o:Obj):bT B (w.alloc o) p:=h.fr ((Fr.refl (fun _=>False) w).alloc o) (fun h=>h) (fun _ _ h=>h)
theorem vC {w:World} {q:Nat} {x:Obj} (h:w.heap[q]?=some x) (o:Obj):(w.alloc o).heap[q]?=some x:=(Below.heap_alloc w o _ (aC h)).trans h
structure At (B p X lo bx kq:Nat) (w1:World) (iv0 kv0:Value) (bxc kc:Array Value) (Z:World) (iv kv:Value) (is ks pd:List Cell) (ixs kxs pxs:List Value) (S:Nat→Prop):Prop where
 oi:Z.ownsRow 0 35 8 iv is.length ixs
 ok:Z.ownsRow 0 35 8 kv ks.length kxs
 ci:bK S Z is ixs
 ck:bK S Z ks kxs
 cp:bK S Z pd pxs
 hS:∀ q,S q∨q=kq→lo≤q∧q<Z.heap.size∧iv.ownBlock≠some q∧kv.ownBlock≠some q
 li:∀ q,iv.ownBlock=some q→lo≤q
 lk:∀ q,kv.ownBlock=some q→lo≤q
 ne:∀ q,iv.ownBlock=some q→kv.ownBlock≠some q
 co:bT B Z p
 row:Z.heap[X]?=some (.cells (fO iv0 kv0) 35 (0,0))
 kb:Z.heap[kq]?=some (.cells kc 35 (0,0))
 box:Z.heap[bx]?=some (.cells bxc 29 (0,0))
 frm:Fr (fun q=>q=p∨q=X∨lo≤q) w1 Z
 pX:p<X
 pb:p<bx
 Xl:X<lo
 bl:bx<lo
 Bp:B≤p
 lw:lo=w1.heap.size
namespace At
open Tryz List
variable {B p X lo bx kq:Nat} {w1 Z Z':World} {iv0 kv0 iv kv iv' kv':Value} {bxc kc:Array Value} {is ks pd:List Cell} {ixs kxs pxs xs:List Value} {S:Nat→Prop}
theorem fr {F:Nat→Prop} (h:At B p X lo bx kq w1 iv0 kv0 bxc kc Z iv kv is ks pd ixs kxs pxs S) (hf:Fr F Z Z') (hF:∀ q,F q→q=p) (hc:bT B Z' p):At B p X lo bx kq w1 iv0 kv0 bxc kc Z' iv kv is ks pd ixs kxs pxs S:=by
 have Ql:=h.pX;have Dt:=h.pb;have VT:=h.Xl;have hn:∀ q,lo≤q→¬ F q:=fun q hq Zx=>by have:=hF q Zx;omega
 have hs:=hf.size;have KX:∀ q,S q→S q∧¬ F q:=fun q hq=>⟨hq,hn q (h.hS q (.inl hq)).1⟩
 exact { oi:=hf.owns h.oi fun q hq=>hn q (h.li q hq)
         ok:=hf.owns h.ok fun q hq=>hn q (h.lk q hq)
         ci:=bK.to hf KX _ _ h.ci
         ck:=bK.to hf KX _ _ h.ck
         cp:=bK.to hf KX _ _ h.cp
         hS:=fun q hq=>let ⟨a,b,c⟩:=h.hS q hq;⟨a,Nat.lt_of_lt_of_le b hs,c⟩
         li:=h.li,lk:=h.lk,ne:=h.ne,co:=hc
         row:=(hf.block _ (aC h.row) (fun e=>by have:=hF _ e;omega)).trans h.row
         kb:=(hf.block _ (aC h.kb) (hn _ (h.hS kq (.inr rfl)).1)).trans h.kb
         box:=(hf.block _ (aC h.box) (fun e=>by have:=hF _ e;omega)).trans h.box
         frm:=h.frm.trans hf fun q _ e=>.inl (hF q e)
         pX:=h.pX,pb:=h.pb,Xl:=h.Xl,bl:=h.bl,Bp:=h.Bp,lw:=h.lw}
theorem alloc (h:At B p X lo bx kq w1 iv0 kv0 bxc kc Z iv kv is ks pd ixs kxs pxs S) (o:Obj):At B p X lo bx kq w1 iv0 kv0 bxc kc (Z.alloc o) iv kv is ks pd ixs kxs pxs S :=
 h.fr ((Fr.refl (fun _=>False) Z).alloc o) (fun _ h=>h.elim) (h.co.alloc o)
theorem drew (h:At B p X lo bx kq w1 iv0 kv0 bxc kc Z iv kv is ks pd ixs kxs pxs S):At B p X lo bx kq w1 iv0 kv0 bxc kc Z.drew iv kv is ks pd ixs kxs pxs S :=
 h.fr ((Fr.refl (fun _=>False) Z).drew) (fun _ h=>h.elim) (h.co.fr ((Fr.refl (fun _=>False) Z).drew) (fun h=>h) (fun _ _ h=>h))
theorem call {c:Cell} (h:At B p X lo bx kq w1 iv0 kv0 bxc kc Z iv kv is ks [] ixs kxs [] S) (hf:Fr (fun q=>q=p) Z Z') (hc:bT B Z' p) (hx:bZ (New Z Z') Z' c xs):At B p X lo bx kq w1 iv0 kv0 bxc kc Z' iv kv is ks [c] ixs kxs xs (fun q=>S q∨New Z Z' q):=by
 have h1:=h.fr hf (fun _ e=>e) hc;have hz:lo≤Z.heap.size:=by have:=h.frm.size;have:=h.lw;omega
 exact { h1 with
         ci:=h1.ci.mono fun _=>.inl
         ck:=h1.ck.mono fun _=>.inl
         cp:=bK.one (hx.mono fun _=>.inr)
         hS:=fun q hq=>by
          rcases hq with (hq|hq)|hq
          · exact h1.hS q (.inl hq)
          · have:=hq.1
            exact ⟨by omega,hq.2,fun e=>by have:=aO h.oi e;omega,fun e=>by have:=aO h.ok e;omega⟩
          · exact h1.hS q (.inr hq)}
theorem aHw {c:Cell} (h:At B p X lo bx kq w1 iv0 kv0 bxc kc Z iv kv is ks [c] ixs kxs pxs S) (ha:dE Z Z' 35 8 iv iv' (is.length+1) (ixs++pxs)):At B p X lo bx kq w1 iv0 kv0 bxc kc Z' iv' kv (is++[c]) ks [] (ixs++pxs) kxs [] S:=by
 have hg:=Fr.gX ha.2.1;have hs:=hg.size;have hz:lo≤Z.heap.size:=by have:=h.frm.size;have:=h.lw;omega
 have VT:=h.Xl;have Gf:=h.bl;have Ql:=h.pX;have ER:=h.Bp
 have MF:∀ q,iv'.ownBlock=some q→iv.ownBlock=some q∨q=Z.heap.size:=fun q hq=>by
  rcases ha.2.2 with e|⟨e,-⟩
  · exact .inl (e▸hq)
  · rw[e] at hq
    simp only[Option.some.injEq] at hq
    exact .inr hq.symm
 have KX:∀ q,S q→S q∧¬ iv.ownBlock=some q:=fun q hq=>⟨hq,(h.hS q (.inl hq)).2.2.1⟩
 exact { h with
         oi:=by rw[length_append];exact ha.1
         ok:=hg.owns h.ok fun q hq=>fun e=>h.ne q e hq
         ci:=bK.append (bK.to hg KX _ _ h.ci) (bK.to hg KX _ _ h.cp)
         ck:=bK.to hg KX _ _ h.ck
         cp:=bK.nil
         hS:=fun q hq=>by
          obtain ⟨h1,h2,h3,h4⟩:=h.hS q hq
          refine ⟨h1,by omega,fun e=>?_,h4⟩;rcases MF q e with e|e
          · exact h3 e
          · omega
         li:=fun q hq=>by
          rcases MF q hq with e|e
          · exact h.li q e
          · omega
         ne:=fun q hq e=>by
          rcases MF q hq with e'|e'
          · exact h.ne q e' e
          · have:=aO h.ok e;omega
         co:=h.co.fr hg (fun e=>by have:=h.li _ e;omega) (fun q hq e=>by have:=h.li _ e;omega)
         row:=(hg.block _ (aC h.row) (fun e=>by have:=h.li _ e;omega)).trans h.row
         kb:=(hg.block _ (aC h.kb) (h.hS kq (.inr rfl)).2.2.1).trans h.kb
         box:=(hg.block _ (aC h.box) (fun e=>by have:=h.li _ e;omega)).trans h.box
         frm:=h.frm.trans hg fun q _ e=>.inr (.inr (h.li q e))}
theorem aPx {c:Cell} (h:At B p X lo bx kq w1 iv0 kv0 bxc kc Z iv kv is ks pd ixs kxs pxs S) (hx:bZ (fun _=>False) Z c xs) (ha:dE Z Z' 35 8 kv kv' (ks.length+1) (kxs++xs)):At B p X lo bx kq w1 iv0 kv0 bxc kc Z' iv kv' is (ks++[c]) pd ixs (kxs++xs) pxs S:=by
 have hg:=Fr.gX ha.2.1;have hs:=hg.size;have hz:lo≤Z.heap.size:=by have:=h.frm.size;have:=h.lw;omega
 have VT:=h.Xl;have Gf:=h.bl;have Ql:=h.pX;have ER:=h.Bp
 have MF:∀ q,kv'.ownBlock=some q→kv.ownBlock=some q∨q=Z.heap.size:=fun q hq=>by
  rcases ha.2.2 with e|⟨e,-⟩
  · exact .inl (e▸hq)
  · rw[e] at hq
    simp only[Option.some.injEq] at hq
    exact .inr hq.symm
 have KX:∀ q,S q→S q∧¬ kv.ownBlock=some q:=fun q hq=>⟨hq,(h.hS q (.inl hq)).2.2.2⟩
 exact { h with
         ok:=by rw[length_append];exact ha.1
         oi:=hg.owns h.oi fun q hq=>fun e=>h.ne q hq e
         ci:=bK.to hg KX _ _ h.ci
         ck:=bK.append (bK.to hg KX _ _ h.ck) (bK.one (bZ.to hg (fun _ h=>h.elim) _ _ hx))
         cp:=bK.to hg KX _ _ h.cp
         hS:=fun q hq=>by
          obtain ⟨h1,h2,h3,h4⟩:=h.hS q hq
          refine ⟨h1,by omega,h3,fun e=>?_⟩;rcases MF q e with e|e
          · exact h4 e
          · omega
         lk:=fun q hq=>by
          rcases MF q hq with e|e
          · exact h.lk q e
          · omega
         ne:=fun q hq e=>by
          rcases MF q e with e'|e'
          · exact h.ne q hq e'
          · have:=aO h.oi hq;omega
         co:=h.co.fr hg (fun e=>by have:=h.lk _ e;omega) (fun q hq e=>by have:=h.lk _ e;omega)
         row:=(hg.block _ (aC h.row) (fun e=>by have:=h.lk _ e;omega)).trans h.row
         kb:=(hg.block _ (aC h.kb) (h.hS kq (.inr rfl)).2.2.2).trans h.kb
         box:=(hg.block _ (aC h.box) (fun e=>by have:=h.lk _ e;omega)).trans h.box
         frm:=h.frm.trans hg fun q _ e=>.inr (.inr (h.lk q e))}
theorem store (h:At B p X lo bx kq w1 iv0 kv0 bxc kc Z iv kv is ks pd ixs kxs pxs S):((Z.setCell ⟨X,7,none⟩ kv).setCell ⟨X,6,none⟩ iv).heap[X]?=some (.cells (fO iv kv) 35 (0,0))∧(∃ S',bU lo ((Z.setCell ⟨X,7,none⟩ kv).setCell ⟨X,6,none⟩ iv) iv kv is ks ixs kxs S') ∧
 bT B ((Z.setCell ⟨X,7,none⟩ kv).setCell ⟨X,6,none⟩ iv) p∧Fr (fun q=>q=p∨q=X) w1 ((Z.setCell ⟨X,7,none⟩ kv).setCell ⟨X,6,none⟩ iv):=by
 have VT:=h.Xl;have Ql:=h.pX;have ER:=h.Bp;have gm:=h.lw;have hf:Fr (fun q=>q=X) Z ((Z.setCell ⟨X,7,none⟩ kv).setCell ⟨X,6,none⟩ iv):=((Fr.refl (fun q=>q=X) Z).setCell (.inl rfl) _).setCell (.inl rfl) _;have hg:bU lo Z iv kv is ks ixs kxs S:=⟨h.oi,h.ok,h.ci,h.ck,fun q hq=>h.hS q (.inl hq),h.li,h.lk,h.ne⟩
 refine ⟨aAZ (aHY h.row _) _,⟨_,hg.fr hf (fun q hq=>by show ¬ q=X;omega)⟩,h.co.fr hf (by show ¬ p=X;omega) (fun q hq=>by show ¬ q=X;omega),?_⟩;have:=h.frm.trans hf (fun q _ e=>.inr (.inl e))
 exact this.mono fun q hq e=>by
  rcases e with e|e|e
  · exact .inl e
  · exact .inr e
  · omega
end At
theorem aKi (d:Nat) (K T:Ty) (hK:kL K) (hT:mW d T):mW (d+1) (.map K T):=by
 intro B w p vs S h CW hl hS;obtain ⟨q,o,c,oa,oc,rfl,BF,AP,P7,ht,k0,k1,k2⟩:=pG hl (i:=0) (t:=K) rfl;obtain ⟨q',o',c',ua,uc,hv,-,-,-,hu,l0,l1,l2⟩:=pG hl (i:=1) (t:=T) rfl;simp only[List.cons.injEq,Value.slice.injEq,Option.some.injEq,Addr.mk.injEq,true_and,and_true] at hv;obtain ⟨⟨rfl,rfl⟩,rfl⟩:=hv;unfold maxLen at AP;simp only[Nat.zero_mul,Nat.add_zero,Nat.one_mul] at k0 k1 k2 l0 l1 l2;have hq:=hS q P7;have Cj:2≤c:=BF;have He:(bJ (Ty.map K T).nm).toList=[77,97,112]:=cZ _;have ER:=h.1;show Calls _ _ #[_,.agg #[.string (bJ (Ty.map K T).nm),.int .i64 0,.slice (some ⟨q,o,none⟩) 2 c]] _ _;generalize bJ (Ty.map K T).nm=nm at He;clear hl;go_enter func9,ntmps9
 go_upto_region 2 with fail
 have hW:=mV.of w #[.string nm,.int .i64 0,.slice (some ⟨q,o,none⟩) 2 c];unfold cO at hW;generalize ((w.alloc _).alloc _).alloc _=W at hW ⊢;have BA:bT B W p:=h.fr hW.fr (fun h=>h) (fun _ _ h=>h);have Ef:p<W.heap.size:=by rw[hW.size];omega
 have Io:W.cell? ⟨w.heap.size,0,none⟩=some (.string nm):=by rw[cell_of_row _ _ _ _ _ _ hW.box];rfl
 go_wp2_with (go_at_call 20;refine (fZ B _ p BA).mono ?_;rintro e w1 ⟨b,hb,rfl,Eg,Ad⟩)
 have BN:=Ad.size;have La:=hW.size;have En:w1.heap[w.heap.size+1+1]?=some (.cells (fO (.slice none 0 0) (.slice none 0 0)) 35 (0,0)):=(Ad.block _ (by rw[La];omega) (by show ¬ w.heap.size+1+1=p;omega)).trans hW.row;have JA:Fr (fun k=>k=p) w w1:=(hW.fr.mono (S':=fun k=>k=p) (fun _ _ h=>h.elim)).trans Ad (fun _ _ h=>h);have DY:=(Ad.block _ (by rw[La];omega) (by show ¬ w.heap.size=p;omega)).trans hW.box;have Jo:=(Ad.block _ (by rw[La];omega) (by show ¬ w.heap.size+1=p;omega)).trans hW.res
 go_loopw [9] (fun i wr=>∃ (k:Nat) (is ks:List Cell) (ixs kxs:List Value) (iv kv:Value) (S':Nat→Prop),i=.int .i64 k∧is.length+k≤2∧ks.length=is.length∧wr.heap[w.heap.size+1+1]?=some (.cells (fO iv kv) 35 (0,0))∧bU w1.heap.size wr iv kv is ks ixs kxs S'∧wts is≤is.length*(20*5 ^ d)∧wts ks≤is.length*17∧((∀ x∈ks,Made K x)∧∀ x∈is,Made T x)∧bT B wr p∧Fr (fun k=>k=p∨k=w.heap.size+1+1) w1 wr) (fun i _=>(intOf i).toNat)
 case atStart=>exact ⟨b % 3,[],[],[],[],.slice none 0 0,.slice none 0 0,_,by go_num,by simp;omega,rfl,En,bU.nil _ _,by simp[wts],by simp[wts],by simp,Eg,Fr.refl _ _⟩
 case round =>
  obtain ⟨k,is,ks,ixs,kxs,iv,kv,S',rfl,Oa,DT,Ag,BG,GL,Fg,E8,Bc,Ak⟩:=hrel;have FN:=Ak.size;have hX:w.heap.size+1+1<w1.heap.size:=by omega
  have Gh:=(Ak.block _ (by omega) (by show ¬ (w.heap.size=p∨w.heap.size=w.heap.size+1+1);omega)).trans DY;obtain ⟨va,vc,rfl⟩:=ownsRow_shape BG.oi;obtain ⟨wa,wc,rfl⟩:=ownsRow_shape BG.ok;have G7:=Making.of Ag
  by_cases OJ:0<k
  · have Gz:(0:Int)<k:=by omega
    have Ht:IntKind.i64.wrap ((k:Int) - 1)=(k:Int) - 1:=by rw[IntKind.wrap_i64];omega
    have Cb:Fr (fun k=>k=p∨k=w.heap.size+1+1) w wr:=(JA.mono (S':=fun k=>k=p∨k=w.heap.size+1+1) (fun _ _ h=>.inl h)).trans Ak (fun _ _ h=>h);have Kq:¬ (q=p∨q=w.heap.size+1+1):=by omega
    have m0:=Cb.aA k0 Kq;have m1:=Cb.aA k1 Kq;have m2:=Cb.aA k2 Kq;have J4:LTS S wr K.lt [.string (bJ K.nm),.int .i64 K.sz,.slice oa K.kids.length oc]:=LTS.to Cb (fun x hx=>⟨hx,by have:=hS x hx;show ¬ (x=p∨x=w.heap.size+1+1);omega⟩) _ _ ht;have GM:=hK B wr p _ S Bc (by omega) J4 (fun x hx=>⟨(hS x hx).1,by have:=(hS x hx).2;omega⟩);have SC:wr.cell? ⟨w.heap.size,2,none⟩=some (.slice (some ⟨q,o,none⟩) 2 c):=crw Gh rfl;have Bq:=Lib.hid Ag;have Cc:=Lib.hid BG;have Ju:=Lib.hid GL;have UK:=Lib.hid Fg;have Ib:=Lib.hid E8;have Ia:=Lib.hid DT;have L9:=Lib.hid Gh;generalize bJ K.nm=tnm at m0 GM;generalize ((K.sz:Nat):Int)=tsz at m1 GM;generalize K.kids.length=tkl at m2 GM;clear J4 ht k0 k1 k2 Ag BG G7 Gh hK Io DY En GL Fg E8 DT
    go_wp2_with (go_at_call 9;refine GM.mono ?_;rintro e w2 ⟨ck,rfl,Dp,DZ,Ae⟩;have EW:=Ae.size;have BI:=(Ae.block _ (aC Bq.out) (by show ¬ w.heap.size+1+1=p;omega)).trans Bq.out;have ya7:=fun o'=>(Making.of (vC BI o')).g7;have ya6:=fun o'=>(Making.of (vC BI o')).g6;unfold Cell.fM)
    generalize Ve:w2.alloc _=WK;have Tq:F0 w2 WK:=by rw[← Ve];exact (Fr.refl _ _).alloc _
    have kbK:WK.heap[w2.heap.size]?=some (.cells (ck.fM).toArray 35 (0,0)):=by rw[← Ve];exact heap_alloc_new w2 _
    have ql:WK.heap.size=w2.heap.size+1:=by rw[← Ve];simp
    clear Ve ya6 ya7;have Yr:Fr (fun k=>k=p) wr WK:=Ae.trans Tq (fun _ _ h=>h.elim);have Mc:=Cc.out.fr Yr (fun q hq=>by show ¬ q=p;omega);have Wy:=DZ.fr Tq (fun h=>h) (fun _ _ h=>h);have YJ:=aJq ks ck WK.heap.size WK _ _ ck.fM ((lD Mc.ok (S:=fun q=>q<WK.heap.size) (fun q hq=>aO Mc.ok hq)).sl (fun _ h=>h)) (bK.inn (fun q hq=>(Mc.hS q hq).2.1) _ _ Mc.ck) (bZ.inn (S:=fun _=>False) (fun _ h=>h.elim) _ _ Dp.in) (Nat.le_refl _)
    refine YJ.mono ?_
    clear YJ GM;rintro e w3 ⟨bt,rfl,AV⟩;have IJ:=AV.size;have Fp:Fr (fun k=>k=p) wr w3:=Yr.trans AV (fun _ _ h=>h.elim);have EF:=Mc.fr AV (fun _ _ h=>h);have H6:=Wy.fr AV (fun h=>h) (fun _ _ h=>h);have BK:=(Fp.block _ (aC Bq.out) (by show ¬ w.heap.size+1+1=p;omega)).trans Bq.out;have kb3:=(AV.block _ (by omega) (fun h=>h)).trans kbK;have JQ:=(Fp.block _ (aC L9.out) (by show ¬ w.heap.size=p;omega)).trans L9.out;have Tj:Fr (fun k=>k=p∨k=w.heap.size+1+1) w1 w3:=Ak.trans Fp (fun _ _ h=>.inl h)
    cases bt with
    | true =>
     go_wp2;go_roundw
     case rel=>exact ⟨k - 1,is,ks,ixs,kxs,.slice va is.length vc,.slice wa ks.length wc,_,by rw[Int.natCast_sub OJ];rfl,by omega,Ia.out,BK,EF,Ju.out,UK.out,Ib.out,H6,Tj⟩
     case measure=>simp[intOf];omega
    | false =>
     have bz:w1.heap.size≤w2.heap.size:=by omega
     have UY:At B p (w.heap.size+1+1) w1.heap.size w.heap.size w2.heap.size w1 (.slice va is.length vc) (.slice wa ks.length wc) #[.string nm,.int .i64 0,.slice (some ⟨q,o,none⟩) 2 c] (ck.fM).toArray w3 (.slice va is.length vc) (.slice wa ks.length wc) is ks [] ixs kxs [] S' :=
      { oi:=EF.oi,ok:=EF.ok,ci:=EF.ci,ck:=EF.ck,cp:=bK.nil
        hS:=fun x hx=>by
         rcases hx with hx|rfl
         · exact EF.hS x hx
         · exact ⟨bz,by omega,fun e=>by have:=aO Cc.out.oi e;omega,fun e=>by have:=aO Cc.out.ok e;omega⟩
        li:=EF.li,lk:=EF.lk,ne:=EF.ne,co:=H6,row:=BK,kb:=kb3,box:=JQ
        frm:=Tj.mono fun x _ e=>e.elim .inl (fun e=>.inr (.inl e))
        pX:=by omega,pb:=by omega,Xl:=by omega,bl:=by omega,Bp:=ER,lw:=rfl}
     have LX:∀ Z,Fr (fun x=>x=p∨x=w.heap.size+1+1∨w1.heap.size≤x) w1 Z→Fr (fun x=>x=p∨x=w.heap.size+1+1) w Z:=fun Z hZ=>(JA.mono (S':=fun x=>x=p∨x=w.heap.size+1+1) (fun _ _ e=>.inl e)).trans (hZ.mono (S':=fun x=>x=p∨x=w.heap.size+1+1∨w1.heap.size≤x) (fun _ _ e=>e)) (fun x hx e=>by
      rcases e with e|e|e
      · exact .inl e
      · exact .inr e
      · have:=JA.size;omega)
     have PE:∀ (Z:World) (iv kv:Value) (is' ks':List Cell) (ixs' kxs':List Value) (S2:Nat→Prop),At B p (w.heap.size+1+1) w1.heap.size w.heap.size w2.heap.size w1 (.slice va is.length vc) (.slice wa ks.length wc) #[.string nm,.int .i64 0,.slice (some ⟨q,o,none⟩) 2 c] (ck.fM).toArray Z iv kv is' ks' [] ixs' kxs' [] S2 →
      Calls Tryz.prog 9 #[.pointer (some ⟨p,0,none⟩),.agg #[.string (bJ T.nm),.int .i64 T.sz,.slice ua T.kids.length uc]] Z fun e Z'=>∃ (c':Cell) (xs:List Value) (S3:Nat→Prop),e=.returned (.agg xs.toArray)∧bZ (New Z Z') Z' c' xs∧aKb d T c' xs∧At B p (w.heap.size+1+1) w1.heap.size w.heap.size w2.heap.size w1 (.slice va is.length vc) (.slice wa ks.length wc) #[.string nm,.int .i64 0,.slice (some ⟨q,o,none⟩) 2 c] (ck.fM).toArray Z' iv kv is' ks' [c'] ixs' kxs' xs S3:=fun Z iv kv is' ks' ixs' kxs' S2 hZ=>by
      refine (hT B Z p _ S hZ.co (by have:=hZ.frm.size;omega) (LTS.to (LX Z hZ.frm) (fun x hx=>⟨hx,by have:=hS x hx;show ¬ (x=p∨x=w.heap.size+1+1);omega⟩) _ _ hu) (fun x hx=>⟨(hS x hx).1,by have:=(hS x hx).2;have:=hZ.frm.size;omega⟩)).mono ?_
      rintro e Z' ⟨c',xs,h1,h2,h3,h4,h5⟩
      exact ⟨c',xs,_,h1,h2,h3,hZ.call h5 h4 h2⟩
     have af:=LX w3 UY.frm;have n0:∀ Z,Fr (fun x=>x=p∨x=w.heap.size+1+1∨w1.heap.size≤x) w1 Z→Z.cell? ⟨q,o+3,none⟩=some (.string (bJ T.nm)):=fun Z hZ=>(LX Z hZ).aA l0 Kq
     have n1:∀ Z,Fr (fun x=>x=p∨x=w.heap.size+1+1∨w1.heap.size≤x) w1 Z→Z.cell? ⟨q,o+4,none⟩=some (.int .i64 T.sz):=fun Z hZ=>(LX Z hZ).aA l1 Kq
     have n2:∀ Z,Fr (fun x=>x=p∨x=w.heap.size+1+1∨w1.heap.size≤x) w1 Z→Z.cell? ⟨q,o+5,none⟩=some (.slice ua T.kids.length uc):=fun Z hZ=>(LX Z hZ).aA l2 Kq
     have cu:ks.length≤2:=by rw[Ia.out];omega
     have Md:∀ (w':World) (iv kv:Value) (is' ks' pd':List Cell) (ixs' kxs' pxs':List Value) (S2:Nat→Prop),At B p (w.heap.size+1+1) w1.heap.size w.heap.size w2.heap.size w1 (.slice va is.length vc) (.slice wa ks.length wc) #[.string nm,.int .i64 0,.slice (some ⟨q,o,none⟩) 2 c] (ck.fM).toArray w' iv kv is' ks' pd' ixs' kxs' pxs' S2→(w'.cell? ⟨w.heap.size+1+1,6,none⟩=some (.slice va is.length vc)∧w'.cell? ⟨w.heap.size+1+1,7,none⟩=some (.slice wa ks.length wc)∧w'.cell? ⟨w2.heap.size,0,none⟩=some (.int .u64 ck.r0)∧w'.cell? ⟨w2.heap.size,1,none⟩=some (.int .u64 ck.r1)∧w'.cell? ⟨w2.heap.size,2,none⟩=some (.int .u64 ck.r2)∧w'.cell? ⟨w2.heap.size,3,none⟩=some (.int .u64 ck.r3)∧w'.cell? ⟨w2.heap.size,4,none⟩=some (.string ck.s)∧w'.cell? ⟨w2.heap.size,5,none⟩=some (.bool ck.null)∧w'.cell? ⟨w2.heap.size,6,none⟩=some (.slice none 0 0)∧w'.cell? ⟨w2.heap.size,7,none⟩=some (.slice none 0 0)∧w'.cell? ⟨w.heap.size,2,none⟩=some (.slice (some ⟨q,o,none⟩) 2 c)∧w'.cell? ⟨q,o+3,none⟩=some (.string (bJ T.nm))∧w'.cell? ⟨q,o+4,none⟩=some (.int .i64 T.sz)∧w'.cell? ⟨q,o+5,none⟩=some (.slice ua T.kids.length uc)):=fun w' iv kv is' ks' pd' ixs' kxs' pxs' S2 hZ=>by
      obtain ⟨e0,e1,e2,e3,e4,e5,e6,e7⟩:=bD.eight (bD.of_block hZ.kb)
      exact ⟨(Making.of hZ.row).g6,(Making.of hZ.row).g7,e0,e1,e2,e3,e4,e5,e6,e7,by rw[cell_of_row _ _ _ _ _ _ hZ.box];rfl,n0 _ hZ.frm,n1 _ hZ.frm,n2 _ hZ.frm⟩
     have BQ:=Lib.hid Md;have Js:=Md w3 _ _ _ _ _ _ _ _ _ UY;obtain ⟨v0,v1,v2,v3,v4,v5,v6,v7,v8,v9,v10,v11,v12,v13⟩:=Js;have Kz:=Lib.hid UY;clear m0 m1 m2 SC hu l0 l1 l2 n0 n1 n2 UY BK JQ kb3 EF Md
     go_wp2_with fail
     have MH:∀ Z Z':World,Fr (fun x=>x=w.heap.size+1+1) Z Z'→(Z.cell? ⟨w2.heap.size,0,none⟩=some (.int .u64 ck.r0)∧Z.cell? ⟨w2.heap.size,1,none⟩=some (.int .u64 ck.r1)∧Z.cell? ⟨w2.heap.size,2,none⟩=some (.int .u64 ck.r2)∧Z.cell? ⟨w2.heap.size,3,none⟩=some (.int .u64 ck.r3)∧Z.cell? ⟨w2.heap.size,4,none⟩=some (.string ck.s)∧Z.cell? ⟨w2.heap.size,5,none⟩=some (.bool ck.null)∧Z.cell? ⟨w2.heap.size,6,none⟩=some (.slice none 0 0)∧Z.cell? ⟨w2.heap.size,7,none⟩=some (.slice none 0 0)∧Z.cell? ⟨w.heap.size,2,none⟩=some (.slice (some ⟨q,o,none⟩) 2 c)∧Z.cell? ⟨q,o+3,none⟩=some (.string (bJ T.nm))∧Z.cell? ⟨q,o+4,none⟩=some (.int .i64 T.sz)∧Z.cell? ⟨q,o+5,none⟩=some (.slice ua T.kids.length uc))→(Z'.cell? ⟨w2.heap.size,0,none⟩=some (.int .u64 ck.r0)∧Z'.cell? ⟨w2.heap.size,1,none⟩=some (.int .u64 ck.r1)∧Z'.cell? ⟨w2.heap.size,2,none⟩=some (.int .u64 ck.r2)∧Z'.cell? ⟨w2.heap.size,3,none⟩=some (.int .u64 ck.r3)∧Z'.cell? ⟨w2.heap.size,4,none⟩=some (.string ck.s)∧Z'.cell? ⟨w2.heap.size,5,none⟩=some (.bool ck.null)∧Z'.cell? ⟨w2.heap.size,6,none⟩=some (.slice none 0 0)∧Z'.cell? ⟨w2.heap.size,7,none⟩=some (.slice none 0 0)∧Z'.cell? ⟨w.heap.size,2,none⟩=some (.slice (some ⟨q,o,none⟩) 2 c)∧Z'.cell? ⟨q,o+3,none⟩=some (.string (bJ T.nm))∧Z'.cell? ⟨q,o+4,none⟩=some (.int .i64 T.sz)∧Z'.cell? ⟨q,o+5,none⟩=some (.slice ua T.kids.length uc)):=fun Z Z' hf hz=>by
      have nk:¬ w2.heap.size=w.heap.size+1+1:=by omega
      have nb:¬ w.heap.size=w.heap.size+1+1:=by omega
      have nq:¬ q=w.heap.size+1+1:=by omega
      obtain ⟨e0,e1,e2,e3,e4,e5,e6,e7,e8,e9,e10,e11⟩:=hz
      exact ⟨hf.aA e0 nk,hf.aA e1 nk,hf.aA e2 nk,hf.aA e3 nk,hf.aA e4 nk,hf.aA e5 nk,hf.aA e6 nk,hf.aA e7 nk,hf.aA e8 nb,hf.aA e9 nq,hf.aA e10 nq,hf.aA e11 nq⟩
     have I9:=Lib.hid MH;clear MH;have Js:=BQ.out w3.drew _ _ _ _ _ _ _ _ _ Kz.out.drew;have Ih:w3.drew.cell? ⟨w2.heap.size,0,none⟩=some (.int .u64 ck.r0)∧w3.drew.cell? ⟨w2.heap.size,1,none⟩=some (.int .u64 ck.r1)∧w3.drew.cell? ⟨w2.heap.size,2,none⟩=some (.int .u64 ck.r2)∧w3.drew.cell? ⟨w2.heap.size,3,none⟩=some (.int .u64 ck.r3)∧w3.drew.cell? ⟨w2.heap.size,4,none⟩=some (.string ck.s)∧w3.drew.cell? ⟨w2.heap.size,5,none⟩=some (.bool ck.null)∧w3.drew.cell? ⟨w2.heap.size,6,none⟩=some (.slice none 0 0)∧w3.drew.cell? ⟨w2.heap.size,7,none⟩=some (.slice none 0 0)∧w3.drew.cell? ⟨w.heap.size,2,none⟩=some (.slice (some ⟨q,o,none⟩) 2 c)∧w3.drew.cell? ⟨q,o+3,none⟩=some (.string (bJ T.nm))∧w3.drew.cell? ⟨q,o+4,none⟩=some (.int .i64 T.sz)∧w3.drew.cell? ⟨q,o+5,none⟩=some (.slice ua T.kids.length uc):=Js.2.2;have FH:w3.drew.cell? ⟨w.heap.size+1+1,6,none⟩=some (.slice va is.length vc)∧w3.drew.cell? ⟨w.heap.size+1+1,7,none⟩=some (.slice wa ks.length wc):=⟨Js.1,Js.2.1⟩
     refine Goes.region (T:=fun w'=>w'.cell? ⟨w2.heap.size,0,none⟩=some (.int .u64 ck.r0)∧w'.cell? ⟨w2.heap.size,1,none⟩=some (.int .u64 ck.r1)∧w'.cell? ⟨w2.heap.size,2,none⟩=some (.int .u64 ck.r2)∧w'.cell? ⟨w2.heap.size,3,none⟩=some (.int .u64 ck.r3)∧w'.cell? ⟨w2.heap.size,4,none⟩=some (.string ck.s)∧w'.cell? ⟨w2.heap.size,5,none⟩=some (.bool ck.null)∧w'.cell? ⟨w2.heap.size,6,none⟩=some (.slice none 0 0)∧w'.cell? ⟨w2.heap.size,7,none⟩=some (.slice none 0 0)∧w'.cell? ⟨w.heap.size,2,none⟩=some (.slice (some ⟨q,o,none⟩) 2 c)∧w'.cell? ⟨q,o+3,none⟩=some (.string (bJ T.nm))∧w'.cell? ⟨q,o+4,none⟩=some (.int .i64 T.sz)∧w'.cell? ⟨q,o+5,none⟩=some (.slice ua T.kids.length uc)) (S:=fun w'=>w'.cell? ⟨w.heap.size+1+1,6,none⟩=some (.slice va is.length vc)∧w'.cell? ⟨w.heap.size+1+1,7,none⟩=some (.slice wa ks.length wc)) (z:=16) (by kernel_rfl) ?_
     refine Goes.fA (i:=0) (u:=?hu0) rfl (by kernel_rfl) (by kernel_rfl) (by kernel_rfl) (by kernel_rfl) (fun _ _ _ h=>h) (by rfl) Ih (fun _=>FH) ?hy0 ?hr0
     case hy0 =>
      intro wq EM;obtain ⟨e0,e1,e2,e3,e4,e5,e6,e7,e8,e9,e10,e11⟩:=EM;go_simp
      rfl
     simp only[getElem_toArray,getElem_cons_zero,Act.put,setIfInBounds_toArray,set_cons_zero,set_cons_succ]
     refine Goes.aDS (i:=1) (u:=?hu1) rfl (by kernel_rfl) rfl (by kernel_rfl) (by kernel_rfl) (by kernel_rfl) (by kernel_rfl) (by kernel_rfl) (fun _ _ _ h=>h) (by rfl) Ih FH ?hy1 ?hr1
     case hy1 =>
      intro wq EM;obtain ⟨-,e0,e1⟩:=EM;go_simp
      rfl
     simp only[gg,Act.put]
     refine Goes.fA (i:=2) (u:=?hu2) rfl (by kernel_rfl) (by kernel_rfl) (by kernel_rfl) (by kernel_rfl) (fun _ _ _ h=>h) (by rfl) Ih (fun _=>FH) ?hy2 ?hr2
     case hy2 =>
      intro wq EM;obtain ⟨e0,e1,e2,e3,e4,e5,e6,e7,e8,e9,e10,e11⟩:=EM;go_simp
      rfl
     simp only[gg,Act.put]
     refine Goes.fA (i:=5) (u:=?hu5) rfl (by kernel_rfl) (by kernel_rfl) (by kernel_rfl) (by kernel_rfl) (fun _ _ _ h=>h) (by rfl) Ih (fun _=>FH) ?hy5 ?hr5
     case hy5 =>
      intro wq EM;obtain ⟨e0,e1,e2,e3,e4,e5,e6,e7,e8,e9,e10,e11⟩:=EM;go_simp
      rfl
     simp only[gg,Act.put]
     refine Goes.aDS (i:=6) (u:=?hu6) rfl (by kernel_rfl) rfl (by kernel_rfl) (by kernel_rfl) (by kernel_rfl) (by kernel_rfl) (by kernel_rfl) (fun _ _ _ h=>h) (by rfl) Ih FH ?hy6 ?hr6
     case hy6 =>
      intro wq EM;obtain ⟨-,e0,e1⟩:=EM;go_simp
      rfl
     simp only[gg,Act.put]
     refine Goes.fA (i:=7) (u:=?hu7) rfl (by kernel_rfl) (by kernel_rfl) (by kernel_rfl) (by kernel_rfl) (fun _ _ _ h=>h) (by rfl) Ih (fun _=>FH) ?hy7 ?hr7
     case hy7 =>
      intro wq EM;obtain ⟨e0,e1,e2,e3,e4,e5,e6,e7,e8,e9,e10,e11⟩:=EM;go_simp
      rfl
     simp only[gg,Act.put]
     refine Goes.fA (i:=8) (u:=?hu8) rfl (by kernel_rfl) (by kernel_rfl) (by kernel_rfl) (by kernel_rfl) (fun _ _ _ h=>h) (by rfl) Ih (fun _=>FH) ?hy8 ?hr8
     case hy8 =>
      intro wq EM;obtain ⟨e0,e1,e2,e3,e4,e5,e6,e7,e8,e9,e10,e11⟩:=EM;go_simp
      rfl
     simp only[gg,Act.put]
     refine Goes.fA (i:=9) (u:=?hu9) rfl (by kernel_rfl) (by kernel_rfl) (by kernel_rfl) (by kernel_rfl) (fun _ _ _ h=>h) (by rfl) Ih (fun _=>FH) ?hy9 ?hr9
     case hy9 =>
      intro wq EM;obtain ⟨e0,e1,e2,e3,e4,e5,e6,e7,e8,e9,e10,e11⟩:=EM;go_simp
      rfl
     simp only[gg,Act.put]
     refine Goes.fA (i:=10) (u:=?hu10) rfl (by kernel_rfl) (by kernel_rfl) (by kernel_rfl) (by kernel_rfl) (fun _ _ _ h=>h) (by rfl) Ih (fun _=>FH) ?hy10 ?hr10
     case hy10 =>
      intro wq EM;obtain ⟨e0,e1,e2,e3,e4,e5,e6,e7,e8,e9,e10,e11⟩:=EM;go_simp
      rfl
     simp only[gg,Act.put]
     refine Goes.fA (i:=11) (u:=?hu11) rfl (by kernel_rfl) (by kernel_rfl) (by kernel_rfl) (by kernel_rfl) (fun _ _ _ h=>h) (by rfl) Ih (fun _=>FH) ?hy11 ?hr11
     case hy11 =>
      intro wq EM;obtain ⟨e0,e1,e2,e3,e4,e5,e6,e7,e8,e9,e10,e11⟩:=EM;go_simp
      rfl
     simp only[gg,Act.put]
     refine Goes.one (i:=3) (by kernel_rfl) rfl (fun K' hK=>?_)
     try simp only[gg,Act.put]
     go_simp
     refine hK.out _ _ (BQ.out _ _ _ _ _ _ _ _ _ _ (Kz.out.drew.alloc _)).2.2 (fun _=>⟨(BQ.out _ _ _ _ _ _ _ _ _ _ (Kz.out.drew.alloc _)).1,(BQ.out _ _ _ _ _ _ _ _ _ _ (Kz.out.drew.alloc _)).2.1⟩) ?_
     clear hK K'
     try simp only[gg,Act.put]
     refine Goes.one (i:=4) (by kernel_rfl) rfl (fun K' hK=>?_);rw[if_pos (by rfl)];simp only[getElem_toArray,getElem_cons_zero,getElem_cons_succ]
     refine dJ _ jH _ _ rfl (.slice wa ks.length wc) ks.length kxs rfl (Kz.out.drew.alloc _).ok _ _ _ rfl (Src.ofSlice _ underlying31 _ _ _ _ rfl (bG _ [.int .u64 ck.r0,.int .u64 ck.r1,.int .u64 ck.r2,.int .u64 ck.r3,.string ck.s,.bool ck.null,.slice none 0 0,.slice none 0 0] _) (by simp[Value.oneCell'])) (by unfold maxLen;omega) (by omega) ?_
     intro v4 w4 Jy;obtain ⟨a4,b4,rfl⟩:=Jy.shape;have RD:=(Kz.out.drew.alloc _).aPx Dp.in Jy
     refine hK.out _ _ (BQ.out _ _ _ _ _ _ _ _ _ _ (RD)).2.2 (fun _=>⟨(BQ.out _ _ _ _ _ _ _ _ _ _ (RD)).1,(BQ.out _ _ _ _ _ _ _ _ _ _ (RD)).2.1⟩) ?_
     clear hK K'
     try simp only[Act.put,setIfInBounds_toArray,set_cons_zero,set_cons_succ]
     have Qz:=BQ.out _ _ _ _ _ _ _ _ _ _ RD
     refine Goes.fA (i:=15) (u:=?hu15) rfl (by kernel_rfl) (by kernel_rfl) (by kernel_rfl) (by kernel_rfl) (fun _ _ _ h=>h) (by rfl) Qz.2.2 (fun _=>⟨Qz.1,Qz.2.1⟩) ?hy15 ?hr15
     case hy15 =>
      intro wq EM;obtain ⟨e0,e1,e2,e3,e4,e5,e6,e7,e8,e9,e10,e11⟩:=EM;go_simp
      rfl
     simp only[gg,Act.put]
     refine Goes.one (i:=12) (by kernel_rfl) rfl (fun K' hK=>?_)
     try simp only[gg,Act.put]
     go_simp
     go_at_call 9
     refine (PE _ _ _ _ _ _ _ _ RD).mono ?_
     rintro e w5 ⟨c',xs',S5,rfl,Wl,Ug,O3⟩;obtain ⟨ja,jc,la,lc,rfl⟩:=Wl.eight
     dsimp only
     refine hK.out _ _ (BQ.out _ _ _ _ _ _ _ _ _ _ (O3)).2.2 (fun _=>⟨(BQ.out _ _ _ _ _ _ _ _ _ _ (O3)).1,(BQ.out _ _ _ _ _ _ _ _ _ _ (O3)).2.1⟩) ?_
     clear hK K'
     try simp only[gg,Act.put]
     refine Goes.one (i:=13) (by kernel_rfl) rfl (fun K' hK=>?_)
     try simp only[gg,Act.put]
     go_simp
     refine hK.out _ _ (BQ.out _ _ _ _ _ _ _ _ _ _ (O3.alloc _)).2.2 (fun _=>⟨(BQ.out _ _ _ _ _ _ _ _ _ _ (O3.alloc _)).1,(BQ.out _ _ _ _ _ _ _ _ _ _ (O3.alloc _)).2.1⟩) ?_
     clear hK K'
     try simp only[gg,Act.put]
     refine Goes.one (i:=14) (by kernel_rfl) rfl (fun K' hK=>?_);rw[if_pos (by rfl)];simp only[getElem_toArray,getElem_cons_zero,getElem_cons_succ]
     refine dJ _ jH _ _ rfl (.slice va is.length vc) is.length ixs rfl (O3.alloc _).oi _ _ _ rfl (Src.ofSlice _ underlying31 _ _ _ _ rfl (bG _ [.int .u64 c'.r0,.int .u64 c'.r1,.int .u64 c'.r2,.int .u64 c'.r3,.string c'.s,.bool c'.null,.slice ja c'.items.length jc,.slice la c'.keys.length lc] _) (by simp[Value.oneCell'])) (by unfold maxLen;omega) (by omega) ?_
     intro v6 w6 QM;obtain ⟨a6,b6,rfl⟩:=QM.shape;have QI:=(O3.alloc _).aHw QM;have hr6:=Making.of QI.row;have g66:=hr6.g6;have g67:=hr6.g7;have f66:=hr6.z6;have f67:=hr6.z7
     refine hK.out _ _ (BQ.out _ _ _ _ _ _ _ _ _ _ (QI)).2.2 (fun _=>⟨(BQ.out _ _ _ _ _ _ _ _ _ _ (QI)).1,(BQ.out _ _ _ _ _ _ _ _ _ _ (QI)).2.1⟩) ?_
     clear hK K'
     try simp only[Act.put,setIfInBounds_toArray,set_cons_zero,set_cons_succ]
     refine Goes.one (i:=16) (by kernel_rfl) rfl (fun K' hK=>?_)
     try simp only[getElem_toArray,getElem_cons_zero,getElem_cons_succ,Act.put]
     go_simp;have Vd:=(BQ.out _ _ _ _ _ _ _ _ _ _ QI).2.2;have Vl:Fr (fun x=>x=w.heap.size+1+1) w6 (w6.setCell ⟨w.heap.size+1+1,7,none⟩ (.slice a4 (ks.length+1) b4)):=(Fr.refl (fun x=>x=w.heap.size+1+1) w6).setCell (.inl rfl) _;have Tt:Fr (fun x=>x=w.heap.size+1+1) w6 ((w6.setCell ⟨w.heap.size+1+1,7,none⟩ (.slice a4 (ks.length+1) b4)).setCell ⟨w.heap.size+1+1,6,none⟩ (.slice a6 (is.length+1) b6)):=Vl.setCell (.inl rfl) _
     refine hK.out _ _ (I9.out _ _ Vl Vd) (fun h=>absurd (h.symm.trans (by kernel_rfl)) Bool.false_ne_true) ?_
     clear hK K'
     try simp only[gg,Act.put]
     refine Goes.one (i:=17) (by kernel_rfl) rfl (fun K' hK=>?_)
     try simp only[gg,Act.put]
     go_simp
     refine hK.out _ _ (I9.out _ _ Vl Vd) (fun h=>absurd (h.symm.trans (by kernel_rfl)) Bool.false_ne_true) ?_
     clear hK K'
     try simp only[gg,Act.put]
     refine Goes.one (i:=18) (by kernel_rfl) rfl (fun K' hK=>?_)
     try simp only[getElem_toArray,getElem_cons_zero,getElem_cons_succ,Act.put]
     go_simp
     refine hK.out _ _ (I9.out _ _ Tt Vd) (fun h=>absurd (h.symm.trans (by kernel_rfl)) Bool.false_ne_true) ?_
     clear hK K'
     try simp only[gg,Act.put]
     refine Goes.done (by kernel_rfl) ?_
     obtain ⟨q1,⟨S9,q2⟩,q3,q4⟩:=QI.store;clear Vd Vl Tt;go_wp2;go_roundw
     case rel=>exact ⟨k - 1,is++[c'],ks++[ck],_,_,.slice a6 (is.length+1) b6,.slice a4 (ks.length+1) b4,S9,by rw[Int.natCast_sub OJ];rfl,by simp;omega,by rw[length_append,length_append,Ia.out];rfl,q1,q2,by rw[fG,length_append,length_singleton,Nat.add_mul,Nat.one_mul];have:=Ug.wt;have:=Ju.out;simp only[wts];omega,by rw[fG,length_append,length_singleton,Nat.add_mul,Nat.one_mul];have:=Dp.wt;have:=UK.out;simp only[wts];omega,⟨fun x hx=>(mem_append.1 hx).elim (Ib.out.1 x) fun h=>by rw[mem_singleton.1 h];exact Dp.made,fun x hx=>(mem_append.1 hx).elim (Ib.out.2 x) fun h=>by rw[mem_singleton.1 h];exact Ug.made⟩,q3,q4⟩
     case measure=>simp[intOf];omega
  · have JG:k=0:=by omega
    subst JG;have Jp:=(Ak.block _ (by omega) (by show ¬ (w.heap.size+1=p∨w.heap.size+1=w.heap.size+1+1);omega)).trans Jo;obtain ⟨g0,g1,g2,g3,g4,g5,g6,g7,-,-⟩:=G7;obtain ⟨r0,r1,r2,r3,r4,r5,r6,r7,z0,z1,z2,z3,z4,z5,z6,z7⟩:=pY.of (w:=w) Jp;have Ia:=Lib.hid DT;clear DT hK hT;go_wp2
    refine bodyPost_ret (by simp[results,results9,go_sem,r0,r1,r2,r3,r4,r5,r6,r7];try rfl) rfl ?_
    have Ee:Fr (fun k=>k=p) w wr:=JA.trans Ak (fun x hx h=>h.elim id (fun h=>by omega));obtain ⟨e1,e2,e3⟩:=uA Bc CW Ee (aCf BG (S':=fun q=>w.heap.size+1<q∧q<wr.heap.size) (fun q h1 h2=>⟨by omega,h2⟩)) (.int .u64 0) (.int .u64 0) (.int .u64 0) (.int .u64 0) (.string ⟨#[]⟩) (.bool false) (.slice va is.length vc) (.slice wa ks.length wc)
    refine ⟨_,_,rfl,e1,⟨?_,fun ts e=>(by cases e),fun k v e=>Ia.out,fun t e=>(by cases e),is,ks,rfl,Ia.out.symm,E8.1,E8.2⟩,e2,e3⟩;have h5:1≤5 ^ d:=Nat.one_le_pow _ _ (by decide);have hm:is.length*(20*5 ^ d)≤2*(20*5 ^ d):=Nat.mul_le_mul_right _ (by omega);have h0:(⟨#[]⟩:ByteArray).size=0:=rfl;rw[Cell.wt,h0,Nat.pow_succ];omega
end Go.Proofs.YtcidlnjpabgioaaGreatDoor
