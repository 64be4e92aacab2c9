import Derived.Test.YtcidlnjpabgioaaGreatDoorUGMap
set_option maxHeartbeats 8000000
set_option maxRecDepth 100000
namespace Go.Proofs.YtcidlnjpabgioaaGreatDoor
open Tryz List Go.RowKit
structure aEu (P:Program) (t:TypeId) (u:Value) (T:Ty) (R Rp:World→(Nat→Prop)→List Cell→Prop):Prop where
 write:∀ {conn ps pw w fp σ fw n out},Rp w fp σ→Wt T σ≤2147483648→eG conn ps pw w fw n out→(∀ k,fp k→¬ fw k∧k≠ps)→out.length+(enc T σ).length≤1099511627776→n+pcs T≤1000000000 →
  aF P (.iface t u) "WriteColumn" #[.pointer (some ⟨pw,0,none⟩)] w (iR conn ps pw w fw (n+pcs T) (out++enc T σ))
 row:∀ {w fp σ} {k:Nat} (hk:k<σ.length),R w fp σ→Wt T σ≤2147483648→aF P (.iface t u) "Row" #[.int .i64 k] w fun e w'=>∃ d:Cell,d.small∧e=.returned (.agg (bV d).toArray)∧F0 w w'∧(Made T σ[k]→d.keyed=σ[k])
theorem bZ.small {S:Nat→Prop} {w:World}:∀ {c:Cell} {vs:List Value},bZ S w c vs→c.small
 | .mk r0 r1 r2 r3 s null items keys,vs=>by
  unfold bZ;rintro ⟨iv,kv,ixs,kxs,-,h0,h1,h2,h3,h4,-⟩
  exact ⟨h0,h1,h2,h3,h4⟩
theorem aEG {w:World} {q:Nat} {a b c d e:Value} {t:TypeId} (h:w.heap[q]?=some (.cells #[a,b,c,d,e] t (0,0))):w.cell? ⟨q,0,none⟩=some a∧w.cell? ⟨q,1,none⟩=some b∧w.cell? ⟨q,2,none⟩=some c∧w.cell? ⟨q,3,none⟩=some d∧w.cell? ⟨q,4,none⟩=some e :=
 ⟨crw h rfl,crw h rfl,crw h rfl,crw h rfl,crw h rfl⟩
section
variable {B:Nat} {t:TypeId} {u:Value} {T:Ty} {st:List UInt8} {R Rp:World→(Nat→Prop)→List Cell→Prop}
theorem aLB (cw:ColW Tryz.prog t u T R Rp) (sp:ColSpec Tryz.prog B t u T st R Rp) (Gy:∀ c,Made T c→c.keyed=c) (w:World) (fp:Nat→Prop) (σ:List Cell) (hR:R w fp σ) (hw:Wt T σ≤2147483648) (k:Nat) (hk:k<σ.length) :
 Calls Tryz.prog 238 #[.agg #[.iface t u],.int .i64 k] w fun e w'=>∃ d:Cell,d.small∧e=.returned (.agg (bV d).toArray)∧F0 w w'∧(Made T σ[k]→d.keyed=σ[k]):=by
 have AC:=sp.lo hR;have hi:=fun W (Aw:F0 w W)=>cw.row hk (sp.frame hR fun q hq=>Aw.block q (AC q hq).2 (fun h=>h)) hw
 have bf:=Lib.hid hi;clear hi;go_enter func238,ntmps238
 go_wp2_with (first
  | ((with_reducible show wpList _ _ _ (⟨some 8,_,_,_,_,_⟩ :: _) _ _);refine aT _ rfl _ _ _ _ rfl _ _ rfl (bf.out _ (((Fr.refl _ w).alloc _).alloc _)) rfl ?_;rintro e w1 ⟨c,xs,rfl,Ad,hc,hm⟩;obtain ⟨ia,ic,ka,kc,ixs,kxs,rfl,-⟩:=(id hc).full;refine ⟨_,rfl,?_⟩)
  | (go_at_call 241;refine (nY w1 _ _ _ _ _ _ _ _).mono ?_;rintro e w2 ⟨rfl,Ae⟩;have AB:=(Ad.trans Ae (fun _ _ h=>h)).made (n:=w.heap.size+1) (by simp);obtain ⟨c0,c1,c2,c3,c4⟩:=aEG AB;have z0:=fzj 0 AB;have z1:=fzj 1 AB;have z2:=fzj 2 AB;have z3:=fzj 3 AB;have z4:=fzj 4 AB))
 refine bodyPost_ret (by simp[results,results238,go_sem,c0,c1,c2,c3,c4];try rfl) rfl ?_
 have hb:∀ i,(False∨w.heap.size≤(⟨w.heap.size+1,i,none⟩:Addr).block):=fun _=>.inr (Nat.le_succ _)
 exact ⟨c,hc.small,rfl,(((((((Fr.refl _ w).alloc _).alloc _).trans (Ad.trans Ae (fun _ _ h=>h)) (fun _ _ h=>h)).setCell (hb 0) _).setCell (hb 1) _).setCell (hb 2) _).setCell (hb 3) _ |>.setCell (hb 4) _,fun h=>by have:=hm h;rw[this];exact Gy _ h⟩
end
theorem aFx (t:TypeId) (u:Value) (w:World):(method mdp 86 (.agg #[.iface t u]) "Row").run Tryz.prog w=.ok (238,.agg #[.iface t u]) w:=by kernel_rfl
theorem aLC {B:Nat} {t:TypeId} {u:Value} {T:Ty} {st:List UInt8} {R Rp:World→(Nat→Prop)→List Cell→Prop} (sp:ColSpec Tryz.prog B t u T st R Rp) (cw:ColW Tryz.prog t u T R Rp) (Gy:∀ c,Made T c→c.keyed=c):aEu Tryz.prog 86 (.agg #[.iface t u]) T R Rp where
 row:=fun {w fp σ k} hk hR hw=>aF.of1 (aFx t u w) call238 (aLB cw sp Gy w fp σ hR hw k hk)
 write:=fun hR hw h hd hl hn=>lX sp.flat (.inr (.inr rfl)) (cw.write hR hw h hd hl hn)
section
variable {B:Nat} {tk t:TypeId} {uk u:Value} {Tk T:Ty} {stk st:List UInt8} {Rk Rkp R Rp:World→(Nat→Prop)→List Cell→Prop}
theorem aIS (ks:iH Tryz.prog B tk uk Tk stk Rk Rkp) (sp:ColSpec Tryz.prog B t u T st R Rp) (kw:aEu Tryz.prog tk uk Tk Rk Rkp) (cw:ColW Tryz.prog t u T R Rp) (w:World) (p:Nat) (fp:Nat→Prop) (σ:List Cell) (h:MapAt B tk uk Rkp t u Rp p w fp σ) (hw:wts σ≤2147483648)
 {conn:Value} {ps pw:Nat} {fw:Nat→Prop} {n:Nat} {out:List UInt8} (hb:eG conn ps pw w fw n out) (hd:∀ k,fp k→¬ fw k∧k≠ps) (hl:out.length+(enc (.map Tk T) σ).length≤1099511627776) (hn:n+pcs (.map Tk T)≤1000000000)
 (v:Value) (hv:w.cell? ⟨p,0,none⟩=some v) :
 Calls Tryz.prog 256 #[.agg #[v,.iface tk uk,.iface t u],.pointer (some ⟨pw,0,none⟩)] w (iR conn ps pw w fw (n+pcs (.map Tk T)) (out++enc (.map Tk T) σ)):=by
 have AC:∀ q,fp q→B≤q∧q<w.heap.size:=iG.lt (Rk:=Rkp) (R:=Rp) ks.lo' sp.lo' h;obtain ⟨v0,fk,fv,hp,Aa,Dn,hR,n1,n2,n3,n4,n5,Aj,hB⟩:=h;obtain rfl:v0=v:=by rw[cell_of_row _ _ _ _ _ _ hp] at hv;exact Option.some.inj hv
 obtain ⟨a1,c1,rfl⟩:=ownsRow_shape Aa;have Jb:∀ q,fk q→(¬ fw q∧q≠ps)∧q<w.heap.size:=fun q hq=>⟨hd q ((Aj q).2 (.inr (.inr (.inl hq)))),(AC q ((Aj q).2 (.inr (.inr (.inl hq))))).2⟩
 have IQ:∀ q,fv q→(¬ fw q∧q≠ps)∧q<w.heap.size:=fun q hq=>⟨hd q ((Aj q).2 (.inr (.inr (.inr hq)))),(AC q ((Aj q).2 (.inr (.inr (.inr hq))))).2⟩
 have Xw:∀ q,(Value.slice a1 σ.length c1).ownBlock=some q→¬ fw q∧q≠ps:=fun q hq=>hd q ((Aj q).2 (.inr (.inl hq)))
 have DD:=hb.lt;have Ur:pcs (.map Tk T)=2+pcs Tk+pcs T:=rfl;generalize hW:w.alloc (.cells #[.slice a1 σ.length c1,.iface tk uk,.iface t u] 144)=W;have Aw:F0 w W:=by subst hW;exact (Fr.refl _ w).alloc _
 have D6:W.heap.size=w.heap.size+1:=by subst hW;simp
 have q0:W.cell? ⟨w.heap.size,0,none⟩=some (.slice a1 σ.length c1):=by subst hW;rw[aB rfl];rfl
 have q1:W.cell? ⟨w.heap.size,1,none⟩=some (.iface tk uk):=by subst hW;rw[aB rfl];rfl
 have q2:W.cell? ⟨w.heap.size,2,none⟩=some (.iface t u):=by subst hW;rw[aB rfl];rfl
 have KE:=hb.quiet Aw;have Ag:=yN W a1 σ.length c1 (.iface tk uk) (.iface t u) ⟨_,_,rfl⟩ ⟨_,_,rfl⟩;have hN:¬ fw w.heap.size:=fun h=>by have:=DD _ h;omega
 by_cases hσ:σ=[]
 · subst hσ
   clear Aj hB n4 n5 Aa hp hv Dn hR;rw[lU,if_pos rfl];simp only[length_nil,Int.natCast_zero] at Ag hW q0 ⊢;go_enter func256,ntmps256
   go_wp2_with (go_at_call 254;refine Ag.mono ?_;rintro e w1 ⟨rfl,Ad⟩)
   try simp only[Exit.inBlock,Exit.then]
   refine bodyPost_ret (results_none rfl _ _ _) rfl ?_
   have CX:F0 w w1:=Aw.trans Ad (fun _ _ h=>h)
   exact ⟨rfl,CX.mono (fun _ _ h=>h.elim),fw,by rw[append_nil];exact (hb.quiet CX).more (Nat.le_add_right _ _),fun q hq=>.inl hq⟩
 · rw[lU,if_neg hσ,length_append,length_append,dN] at hl
   rw[lU,if_neg hσ];have hσl:σ.length≠0:=fun h=>hσ (eq_nil_of_length_eq_zero h)
   have hσz:¬ (σ.length:Int)=0:=by omega
   have QC:=bF σ;have Fg:=jD σ;have Po:=jE σ;have Ir:=kW σ;have DT:=bF (σ.flatMap mapKeys);have FB:=gB iU 0 σ;have KQ:=dN iU 0 σ;have DN:∀ w1,F0 W w1→_:=fun w1 Ad=>uX (KE.quiet Ad) a1 c1 (ends iU 0 σ) (by rw[FB];exact (Aw.trans Ad (fun _ _ h=>h)).owns Aa (fun _ _ h=>h)) (by rw[FB];exact fun q hq=>(Xw q hq).1) (fun c hc=>by have:=qL iU 0 σ c hc;omega) (by rw[KQ];omega)
   rw[FB] at DN;have J7:=fun w1 (Ad:Fr fw w w1)=>ks.frame' (w':=w1) Dn fun q hq=>Ad.block q (Jb q hq).2 (Jb q hq).1.1
   have J8:=fun w1 (Ad:Fr fw w w1)=>sp.frame' (w':=w1) hR fun q hq=>Ad.block q (IQ q hq).2 (IQ q hq).1.1
   generalize (ends iU 0 σ).flatMap (aG 8)=OB at DN KQ ⊢;generalize σ.flatMap mapKeys=κ at J7 Fg hl ⊢;generalize σ.flatMap fD=υ at J8 Po hl ⊢;have LM:=Lib.hid @DN;clear Aj hB n4 n5 Aa hp hv Dn hR Ir DT FB DN;go_enter func256,ntmps256
   go_wp2_with (first
    | (go_at_call 254;refine Ag.mono ?_;rintro e w1 ⟨rfl,Ad⟩;have r0:=Ad.aA q0 (fun h=>h);have r1:=Ad.aA q1 (fun h=>h);have r2:=Ad.aA q2 (fun h=>h);have BN:=Ad.size)
    | (go_at_call 174;refine (LM.out w1 Ad).mono ?_;rintro e w2 ⟨rfl,Ae,fb2,Bj,BJ⟩;have s1:=Ae.aA r1 hN;have s2:=Ae.aA r2 hN;have EW:=Ae.size;have Dl:Fr fw w w2:=((Aw.trans Ad (fun _ _ h=>h)).mono (fun _ _ h=>h.elim)).trans Ae (fun _ _ h=>h);have JP:¬ fb2 w.heap.size:=fun h=>(BJ _ h).elim hN (fun h=>by omega);have QU:=kw.write (J7 w2 Dl) (show wts _≤_ by omega) Bj (fun q hq=>⟨fun h=>(BJ q h).elim (Jb q hq).1.1 (fun h=>by have:=(Jb q hq).2;omega),(Jb q hq).1.2⟩) (by rw[length_append];omega) (by omega))
    | ((with_reducible show wpList _ _ _ (⟨some 14,_,_,_,_,_⟩ :: _) _ _);refine aT _ rfl _ _ _ _ rfl _ _ rfl QU rfl ?_;rintro e w3 ⟨rfl,AV,fb3,EY,EU⟩;refine ⟨_,rfl,?_⟩;have t2:=AV.aA s2 JP;have IJ:=AV.size;have ES:Fr fw w w3:=Dl.trans AV (fun q hq h=>(BJ q h).resolve_right (by omega));have WV:=cw.write (J8 w3 ES) (show wts _≤_ by omega) EY (fun q hq=>⟨fun h=>(EU q h).elim (fun h=>(BJ q h).elim (IQ q hq).1.1 (fun h=>by have:=(IQ q hq).2;omega)) (fun h=>by have:=(IQ q hq).2;omega),(IQ q hq).1.2⟩) (by rw[length_append,length_append];omega) (by omega))
    | ((with_reducible show wpList _ _ _ (⟨some 18,_,_,_,_,_⟩ :: _) _ _);refine aT _ rfl _ _ _ _ rfl _ _ rfl WV rfl ?_;rintro e w4 ⟨rfl,BU,fb4,NR,EZ⟩;refine ⟨_,rfl,?_⟩))
   go_end0
   refine ⟨rfl,ES.trans BU (fun q hq h=>(EU q h).elim (fun h=>(BJ q h).resolve_right (by omega)) (fun h=>by omega)),fb4,eG.more (by simpa [append_assoc] using NR) (by omega),fun q hq=>?_⟩;rcases EZ q hq with h|h
   · rcases EU q h with h|h
     · rcases BJ q h with h|h
       · exact .inl h
       · exact .inr (by omega)
     · exact .inr (by omega)
   · exact .inr (by omega)
end
theorem ElT.aPs {P:Program} {t e:TypeId} {z:Value} {size bytes:Nat} (el:ElT P t e z size bytes) (w:World):(Instr.makeSlice t (.int .i64 0) (.int .i64 0)).run P w=.ok (.slice (some ⟨w.heap.size,0,none⟩) 0 0) (w.alloc (.cells #[] e)):=by
 obtain ⟨i,hi,hz,hs,hb⟩:=el.info;have:=run_make w t e i z el.ht hi hz .i64 .i64 0 0 (Int.le_refl _) (Int.le_refl _) (by omega) (by omega)
 simpa [madeCells,Array.range_zero'] using this
def KvS (S:Nat→Prop) (w:World):List (Cell × Cell)→List Value→Prop
 | [],xs=>xs=[]
 | p :: ps,xs=>∃ vs rest,xs=(bV p.1++vs)++rest∧p.1.small∧bZ S w p.2 vs∧KvS S w ps rest
theorem KvS.to {S S' F:Nat→Prop} {w w':World} (hf:Fr F w w') (hS:∀ q,S q→S' q∧¬ F q):∀ (ps:List (Cell × Cell)) (xs:List Value),KvS S w ps xs→KvS S' w' ps xs
 | [],_,h=>h
 | _ :: _,_,⟨vs,rest,h0,h1,h2,h3⟩=>⟨vs,rest,h0,h1,bZ.to hf hS _ _ h2,KvS.to hf hS _ _ h3⟩
theorem KvS.snoc {S:Nat→Prop} {w:World} {p:Cell × Cell} {vs:List Value} (hs:p.1.small) (h:bZ S w p.2 vs):∀ {ps:List (Cell × Cell)} {xs:List Value},KvS S w ps xs→KvS S w (ps++[p]) (xs++(bV p.1++vs))
 | [],_,rfl=>⟨vs,[],by simp,hs,h,rfl⟩
 | _ :: _,_,⟨us,rest,h0,h1,h2,h3⟩=>⟨us,_,by rw[h0,append_assoc],h1,h2,KvS.snoc hs h h3⟩
theorem KvS.at {S:Nat→Prop} {w:World}:∀ {ps:List (Cell × Cell)} {xs:List Value},KvS S w ps xs→∀ k (hk:k<ps.length),ps[k].1.small∧∃ vs,bZ S w ps[k].2 vs∧∀ j u,(bV ps[k].1++vs)[j]?=some u→xs[k*13+j]?=some u
 | [],_,_,k,hk=>by simp at hk
 | p :: ps,_,⟨vs,rest,h0,h1,h2,_⟩,0,_=>⟨h1,vs,h2,fun j u hj=>by
  replace hj:(bV p.1++vs)[j]?=some u:=hj
  rw[h0,Nat.zero_mul,Nat.zero_add,getElem?_append_left (List.getElem?_eq_some_iff.1 hj).1]
  exact hj⟩
 | p :: ps,_,⟨vs,rest,h0,h1,h2,h3⟩,k+1,hk=>by
  obtain ⟨hs,vs',g1,g2⟩:=KvS.at h3 k (by simpa using hk)
  refine ⟨hs,vs',g1,fun j u hj=>?_⟩;have hl:(bV p.1++vs).length=13:=by rw[length_append,h2.length];rfl
  rw[h0,getElem?_append_right (by rw[hl];omega),hl,show (k+1)*13+j - 13=k*13+j by omega]
  exact g2 j u hj
structure iQ (lo:Nat) (w:World) (v:Value) (ps:List (Cell × Cell)) (xs:List Value) (S:Nat→Prop):Prop where
 own:w.ownsRow 0 498 13 v ps.length xs
 kv:KvS S w ps xs
 hS:∀ q,S q→lo≤q∧q<w.heap.size∧v.ownBlock≠some q
 lo:∀ q,v.ownBlock=some q→lo≤q
theorem iQ.row {w0 w w3 w4:World} {v v':Value} {ps:List (Cell × Cell)} {xs vs:List Value} {S F:Nat→Prop} {d c:Cell} {t:TypeId} (h0:Fr F w0 w) (h:iQ w0.heap.size w v ps xs S) (hf:F0 w w3) (hd:d.small) (hc:bZ (New w w3) w3 c vs)
 (ha:dE (w3.alloc (.cells (bV d++vs).toArray t)) w4 498 13 v v' (ps.length+1) (xs++(bV d++vs))):(∃ S',iQ w0.heap.size w4 v' (ps++[(d,c)]) (xs++(bV d++vs)) S')∧Fr F w0 w4:=by
 have BM:F0 w3 (w3.alloc (.cells (bV d++vs).toArray t)):=(Fr.refl _ _).alloc _;have hs:=h0.size;have IJ:=hf.size;have V6:=BM.size;have hg:=Fr.gX ha.2.1;have V4:=hg.size;have AV:F0 w (w3.alloc (.cells (bV d++vs).toArray t)):=hf.trans BM (fun _ _ h=>h);have FO:=fun q (e:v.ownBlock=some q)=>aO h.own e
 have Et:∀ q,v'.ownBlock=some q→v.ownBlock=some q∨q=(w3.alloc (.cells (bV d++vs).toArray t)).heap.size:=fun q hq=>by
  rcases ha.2.2 with e|⟨e,-⟩
  · exact .inl (e▸hq)
  · rw[e] at hq
    simp only[Option.some.injEq] at hq
    exact .inr hq.symm
 have Lt:∀ q,S q∨New w w3 q→w0.heap.size≤q∧q<w3.heap.size∧v.ownBlock≠some q:=fun q hq=>hq.elim (fun hq=>⟨(h.hS q hq).1,Nat.lt_of_lt_of_le (h.hS q hq).2.1 IJ,(h.hS q hq).2.2⟩) (fun hq=>⟨Nat.le_trans hs hq.1,hq.2,fun e=>by have:=FO q e;have:=hq.1;omega⟩)
 refine ⟨⟨fun q=>S q∨New w w3 q,by rw[length_append];exact ha.1,KvS.snoc hd (bZ.to (BM.mono (S':=fun q=>v.ownBlock=some q) (fun _ _ h=>h.elim) |>.trans hg (fun _ _ h=>h)) (fun q hq=>⟨.inr hq,(Lt q (.inr hq)).2.2⟩) _ _ hc) (KvS.to (AV.mono (S':=fun q=>v.ownBlock=some q) (fun _ _ h=>h.elim) |>.trans hg (fun _ _ h=>h)) (fun q hq=>⟨.inl hq,(Lt q (.inl hq)).2.2⟩) _ _ h.kv),fun q hq=>?_,fun q hq=>?_⟩,((h0.trans AV fun _ _ h=>h.elim).trans hg fun q hq e=>by have:=h.lo q e;omega)⟩
 · obtain ⟨a,b,c⟩:=Lt q hq
   refine ⟨a,by omega,fun e=>(Et q e).elim c (fun e=>by omega)⟩
 · exact (Et q hq).elim (h.lo q) (fun e=>by omega)
theorem iQ.low {lo lo':Nat} {w:World} {v:Value} {ps:List (Cell × Cell)} {xs:List Value} {S:Nat→Prop} (h:iQ lo w v ps xs S) (hl:lo'≤lo):iQ lo' w v ps xs S :=
 ⟨h.own,h.kv,fun q hq=>⟨Nat.le_trans hl (h.hS q hq).1,(h.hS q hq).2⟩,fun q hq=>Nat.le_trans hl (h.lo q hq)⟩
theorem iQ.nil (w:World) {g:Nat} (hg:g=w.heap.size):iQ w.heap.size (w.alloc (.cells #[] 498)) (.slice (some ⟨g,0,none⟩) 0 0) [] [] (fun _=>False):=by
 subst hg
 exact ⟨⟨rfl,.inr ⟨w.heap.size,0,#[],rfl,Nat.zero_le _,heap_alloc_new w _,Nat.le_refl _,Nat.zero_le _,rfl,rfl⟩⟩,rfl,fun _ h=>h.elim,fun q hq=>by simp only[Value.ownBlock,Option.some.injEq] at hq;omega⟩
section
variable {B:Nat} {tk t:TypeId} {uk u:Value} {Tk T:Ty} {stk st:List UInt8} {Rk Rkp R Rp:World→(Nat→Prop)→List Cell→Prop}
theorem aIQ (ks:iH Tryz.prog B tk uk Tk stk Rk Rkp) (sp:ColSpec Tryz.prog B t u T st R Rp) (kw:aEu Tryz.prog tk uk Tk Rk Rkp) (cw:ColW Tryz.prog t u T R Rp) (w:World) (fk fv:Nat→Prop) (κ υ:List Cell) (Dn:Rk w fk κ) (hR:R w fv υ) (a1:Option Addr) (n c1 k s e:Nat) (hk:k<n) (hn:n≤2147483648) (Fg:Wt Tk κ≤2147483648) (GL:Wt T υ≤2147483648) (hs:k=0→s=0) (OZ:s≤e) (J4:e≤κ.length) (hl:e≤υ.length) (hτ:υ.length≤2147483648)
 (h1:∃ q o,a1=some ⟨q,o,none⟩∧w.cell? ⟨q,o+k,none⟩=some (.int .u64 e)∧(0<k→w.cell? ⟨q,o+(k - 1),none⟩=some (.int .u64 s))) :
 Calls Tryz.prog 262 #[.agg #[.slice a1 n c1,.iface tk uk,.iface t u],.int .i64 k] w fun e' w'=>∃ v,e'=.returned v∧F0 w w'∧∃ ds,(∃ xs S,iQ w.heap.size w' v ds xs S)∧ds.length=e - s∧jG Tk ((κ.drop s).take (e - s)) (ds.map fun p=>p.1.keyed)∧jG T ((υ.drop s).take (e - s)) (ds.map (·.2)):=by
 obtain ⟨q,o,rfl,k1,k0⟩:=h1;have hq:=World.block_lt_of_cell? w _ k1;simp only at hq;have ZU:(e:Int)<9223372036854775808:=by omega
 have Fv:=ks.lo Dn;have TW:=sp.lo hR;have OI:=fun W (Aw:F0 w W) (i:Nat) (hi:i<κ.length)=>kw.row hi (ks.frame Dn fun q hq=>Aw.block q (Fv q hq).2 (fun h=>h)) Fg
 have Pm:=fun W (Aw:F0 w W) (i:Nat) (hi:i<υ.length)=>cw.row hi (sp.frame hR fun q hq=>Aw.block q (TW q hq).2 (fun h=>h)) GL
 have Yz:=Lib.hid OI;have YP:=Lib.hid Pm;have Oc:=Lib.hid J4;have KJ:=Lib.hid hl;have hτH:=Lib.hid hτ;have Ig:=Lib.hid OZ;have G7:=aNX.aPs (w.alloc (.cells #[.slice (some ⟨q,o,none⟩) n c1,.iface tk uk,.iface t u] 144));have hA:F0 w (w.alloc (.cells #[.slice (some ⟨q,o,none⟩) n c1,.iface tk uk,.iface t u] 144)):=(Fr.refl _ w).alloc _;have Rz:((w.alloc (.cells #[.slice (some ⟨q,o,none⟩) n c1,.iface tk uk,.iface t u] 144))).cell? ⟨w.heap.size,1,none⟩=some (.iface tk uk):=by rw[aB rfl];rfl
 have XU:((w.alloc (.cells #[.slice (some ⟨q,o,none⟩) n c1,.iface tk uk,.iface t u] 144))).cell? ⟨w.heap.size,2,none⟩=some (.iface t u):=by rw[aB rfl];rfl
 have V8:wrap64 (s:Int)=s:=wrap64_small (by omega);clear OI Pm Fv TW;go_enter func262,ntmps262
 by_cases J3:0<k
 · obtain ⟨p,hp⟩:∃ p,Hid (k=p+1):=⟨k - 1,Lib.hid (by omega)⟩
   have k00:=k0 J3;rw[show k - 1=p by have:=hp.out;omega] at k00;have DL:(k:Int) - 1=p:=by have:=hp.out;omega
   have QX:(k:Int)<n:=by omega
   have IE:(p:Int)<n:=by have:=hp.out;omega
   have Xc:(0:Int)<k:=by omega
   have l9:wrap64 (p:Int)=p:=wrap64_small (by omega);clear k0 hs OZ hl J4 hτ hk hn
   go_wp2_with fail
   try go_simp
   go_loopw [7,8] (fun tv i wr=>∃ (m i0:Nat) (ds:List (Cell × Cell)) (xs:List Value) (S:Nat→Prop),i=.int .i64 i0∧i0≤e∧Hid (i0=s+m)∧iQ (w.alloc (.cells #[.slice (some ⟨q,o,none⟩) n c1,.iface tk uk,.iface t u] 144)).heap.size wr tv ds xs S∧Hid (ds.length=m)∧Hid (jG Tk ((κ.drop s).take (e - s)) (ds.map fun p=>p.1.keyed))∧Hid (jG T ((υ.drop s).take (e - s)) (ds.map (·.2)))∧F0 (w.alloc (.cells #[.slice (some ⟨q,o,none⟩) n c1,.iface tk uk,.iface t u] 144)) wr) (fun _ i _=>e - (intOf i).toNat)
   case atStart=>exact ⟨0,s,[],[],_,rfl,Ig.out,Lib.hid rfl,iQ.nil _ (by simp),Lib.hid rfl,Lib.hid (fun j h=>by simp at h),Lib.hid (fun j h=>by simp at h),(Fr.refl _ _).alloc _⟩
   case round =>
    obtain ⟨m,i0,ds,xs,S,rfl,Xn,HY,BG,Gx,Oi,Ol,Ak⟩:=hrel;have c1:=Ak.aA Rz (fun h=>h);have c2:=Ak.aA XU (fun h=>h);have Cb:=hA.trans Ak (fun _ _ h=>h);obtain ⟨ta,tc,rfl⟩:=ownsRow_shape BG.own
    by_cases Ar:i0<e
    · have hi:=Yz.out wr.drew Cb.drew i0 (by have:=Oc.out;omega)
      have FW:(i0:Int)<e:=by omega
      have Cc:=Lib.hid BG;have Sr:ds.length+1≤2147483648:=by have:=Gx.out;have:=KJ.out;have:=hτH.out;have:=HY.out;omega
      clear BG
      go_wp2_with fail
      go_region_law
       (first
        | (refine aK _ rfl ?_;refine bH _ _ _ _ _ rfl _ _ rfl hi rfl ?_;rintro e1 w2 ⟨d,Td,he,Au,E8⟩;unfold bV at he;subst he;have Ae:=Au.aH;have I7:=Cb.trans Ae (fun _ _ h=>h);have d1:=Ae.aA c1 (fun h=>h);have d2:=Ae.aA c2 (fun h=>h);have hj:=YP.out w2 I7 i0 (by have:=KJ.out;omega);refine ⟨_,rfl,?_⟩)
        | (refine aK _ rfl ?_;refine bH _ _ _ _ _ rfl _ _ rfl hj rfl ?_;rintro e2 w3 ⟨x,xs',rfl,DI,hx,TZ⟩;have AV:=Ae.trans DI (fun _ _ h=>h);obtain ⟨ia,ic,ka,kc,ixs,kxs,rfl,-⟩:=(id hx).full;refine ⟨_,rfl,?_⟩)
        | (refine aK _ rfl ?_;refine dJ _ aNX _ _ rfl _ _ _ rfl ((AV.owns Cc.out.own (fun _ _ h=>h)).alloc _) _ _ _ rfl (Src.ofSlice _ underlying496 _ _ _ _ rfl (bG _ (bV d++[.int .u64 x.r0,.int .u64 x.r1,.int .u64 x.r2,.int .u64 x.r3,.string x.s,.bool x.null,.slice ia x.items.length ic,.slice ka x.keys.length kc]) _) (by simp[Value.oneCell',bV])) ?_ ?_ ?_;(unfold maxLen;omega);omega;intro v' w4 ha;obtain ⟨a',c',rfl⟩:=ha.shape))
      all_goals
       obtain ⟨⟨S',EZ⟩,BU⟩:=iQ.row Ak Cc.out AV Td (hx.mono fun q hq=>⟨Nat.le_trans Ae.size hq.1,hq.2⟩:bZ (New wr w3) w3 x _) ha;go_wp2;go_roundw
       case rel =>
        have e1:=Gx.out;have e2:=HY.out
        refine ⟨m+1,i0+1,ds++[(d,x)],_,S',rfl,Ar,Lib.hid (by rw[HY.out];rfl),EZ,Lib.hid (by rw[length_append,Gx.out];rfl),Lib.hid ?_,Lib.hid ?_,BU⟩
        · rw[map_append]
          exact Oi.out.snoc (by have:=Oc.out;rw[length_take,length_drop,length_map,Gx.out];omega) (by simpa [e1,← e2] using E8)
        · rw[map_append]
          exact Ol.out.snoc (by have:=KJ.out;rw[length_take,length_drop,length_map,Gx.out];omega) (by simpa [e1,← e2] using TZ)
       case measure=>simp[intOf];omega
    · have FW:¬ (i0:Int)<e:=by omega
      go_wp2;go_ret;have PL:ds.length=e - s:=by have:=Gx.out;have:=HY.out;have:=Ig.out;omega
      exact ⟨_,rfl,Cb,ds,⟨xs,S,BG.low hA.size⟩,PL,Oi.out,Ol.out⟩
 · obtain rfl:k=0:=by omega
   have II:=Lib.hid (hs rfl);have QX:(0:Int)<n:=by omega
   rw[Nat.add_zero] at k1;clear k0 hs OZ hl J4 hτ hk hn
   go_wp2_with fail
   try go_simp
   go_loopw [7,8] (fun tv i wr=>∃ (m i0:Nat) (ds:List (Cell × Cell)) (xs:List Value) (S:Nat→Prop),i=.int .i64 i0∧i0≤e∧Hid (i0=s+m)∧iQ (w.alloc (.cells #[.slice (some ⟨q,o,none⟩) n c1,.iface tk uk,.iface t u] 144)).heap.size wr tv ds xs S∧Hid (ds.length=m)∧Hid (jG Tk ((κ.drop s).take (e - s)) (ds.map fun p=>p.1.keyed))∧Hid (jG T ((υ.drop s).take (e - s)) (ds.map (·.2)))∧F0 (w.alloc (.cells #[.slice (some ⟨q,o,none⟩) n c1,.iface tk uk,.iface t u] 144)) wr) (fun _ i _=>e - (intOf i).toNat)
   case atStart=>exact ⟨0,s,[],[],_,by rw[II.out];rfl,Ig.out,Lib.hid rfl,iQ.nil _ (by simp),Lib.hid rfl,Lib.hid (fun j h=>by simp at h),Lib.hid (fun j h=>by simp at h),(Fr.refl _ _).alloc _⟩
   case round =>
    obtain ⟨m,i0,ds,xs,S,rfl,Xn,HY,BG,Gx,Oi,Ol,Ak⟩:=hrel;have c1:=Ak.aA Rz (fun h=>h);have c2:=Ak.aA XU (fun h=>h);have Cb:=hA.trans Ak (fun _ _ h=>h);obtain ⟨ta,tc,rfl⟩:=ownsRow_shape BG.own
    by_cases Ar:i0<e
    · have hi:=Yz.out wr.drew Cb.drew i0 (by have:=Oc.out;omega)
      have FW:(i0:Int)<e:=by omega
      have Cc:=Lib.hid BG;have Sr:ds.length+1≤2147483648:=by have:=Gx.out;have:=KJ.out;have:=hτH.out;have:=HY.out;omega
      clear BG
      go_wp2_with fail
      go_region_law
       (first
        | (refine aK _ rfl ?_;refine bH _ _ _ _ _ rfl _ _ rfl hi rfl ?_;rintro e1 w2 ⟨d,Td,he,Au,E8⟩;unfold bV at he;subst he;have Ae:=Au.aH;have I7:=Cb.trans Ae (fun _ _ h=>h);have d1:=Ae.aA c1 (fun h=>h);have d2:=Ae.aA c2 (fun h=>h);have hj:=YP.out w2 I7 i0 (by have:=KJ.out;omega);refine ⟨_,rfl,?_⟩)
        | (refine aK _ rfl ?_;refine bH _ _ _ _ _ rfl _ _ rfl hj rfl ?_;rintro e2 w3 ⟨x,xs',rfl,DI,hx,TZ⟩;have AV:=Ae.trans DI (fun _ _ h=>h);obtain ⟨ia,ic,ka,kc,ixs,kxs,rfl,-⟩:=(id hx).full;refine ⟨_,rfl,?_⟩)
        | (refine aK _ rfl ?_;refine dJ _ aNX _ _ rfl _ _ _ rfl ((AV.owns Cc.out.own (fun _ _ h=>h)).alloc _) _ _ _ rfl (Src.ofSlice _ underlying496 _ _ _ _ rfl (bG _ (bV d++[.int .u64 x.r0,.int .u64 x.r1,.int .u64 x.r2,.int .u64 x.r3,.string x.s,.bool x.null,.slice ia x.items.length ic,.slice ka x.keys.length kc]) _) (by simp[Value.oneCell',bV])) ?_ ?_ ?_;(unfold maxLen;omega);omega;intro v' w4 ha;obtain ⟨a',c',rfl⟩:=ha.shape))
      all_goals
       obtain ⟨⟨S',EZ⟩,BU⟩:=iQ.row Ak Cc.out AV Td (hx.mono fun q hq=>⟨Nat.le_trans Ae.size hq.1,hq.2⟩:bZ (New wr w3) w3 x _) ha;go_wp2;go_roundw
       case rel =>
        have e1:=Gx.out;have e2:=HY.out
        refine ⟨m+1,i0+1,ds++[(d,x)],_,S',rfl,Ar,Lib.hid (by rw[HY.out];rfl),EZ,Lib.hid (by rw[length_append,Gx.out];rfl),Lib.hid ?_,Lib.hid ?_,BU⟩
        · rw[map_append]
          exact Oi.out.snoc (by have:=Oc.out;rw[length_take,length_drop,length_map,Gx.out];omega) (by simpa [e1,← e2] using E8)
        · rw[map_append]
          exact Ol.out.snoc (by have:=KJ.out;rw[length_take,length_drop,length_map,Gx.out];omega) (by simpa [e1,← e2] using TZ)
       case measure=>simp[intOf];omega
    · have FW:¬ (i0:Int)<e:=by omega
      go_wp2;go_ret;have PL:ds.length=e - s:=by have:=Gx.out;have:=HY.out;have:=Ig.out;omega
      exact ⟨_,rfl,Cb,ds,⟨xs,S,BG.low hA.size⟩,PL,Oi.out,Ol.out⟩
end
structure Pr (X lo:Nat) (w1:World) (cr:Array Value) (L:List (Nat × Array Value)) (Z:World) (iv kv:Value) (is ks:List Cell) (ixs kxs:List Value):Prop where
 gr:∃ S,bU lo Z iv kv is ks ixs kxs S
 own:∀ q,iv.ownBlock=some q∨kv.ownBlock=some q→w1.heap.size≤q
 ext:∀ x∈L,(∃ t,Z.heap[x.1]?=some (.cells x.2 t (0,0)))∧iv.ownBlock≠some x.1∧kv.ownBlock≠some x.1
 row:Z.heap[X]?=some (.cells cr 35 (0,0))
 frm:Fr (fun q=>q=X) w1 Z
 Xl:X<lo
 lw:lo≤w1.heap.size
namespace Pr
open Tryz List
variable {X lo:Nat} {w1 Z Z':World} {cr:Array Value} {L:List (Nat × Array Value)} {iv iv' kv kv':Value} {is ks:List Cell} {ixs kxs xs:List Value}
theorem fr (h:Pr X lo w1 cr L Z iv kv is ks ixs kxs) (hf:F0 Z Z'):Pr X lo w1 cr L Z' iv kv is ks ixs kxs:=by
 obtain ⟨⟨S,hg⟩,h1,h2,h3,h4,h5,h6⟩:=h
 exact ⟨⟨S,hg.fr hf fun _ _ h=>h⟩,h1,fun x hx=>let ⟨⟨t,e⟩,e'⟩:=h2 x hx;⟨⟨t,(hf.block _ (aC e) fun h=>h).trans e⟩,e'⟩,(hf.block _ (aC h3) fun h=>h).trans h3,h4.trans hf fun _ _ h=>h.elim,h5,h6⟩
theorem alloc (h:Pr X lo w1 cr L Z iv kv is ks ixs kxs) (c:Array Value) (t:TypeId):Pr X lo w1 cr ((Z.heap.size,c) :: L) (Z.alloc (.cells c t)) iv kv is ks ixs kxs:=by
 obtain ⟨S,hg⟩:=h.gr;have h':=h.fr ((Fr.refl _ Z).alloc (.cells c t))
 refine { h' with ext:=fun x hx=>?_};rcases mem_cons.1 hx with rfl|hx
 · exact ⟨⟨t,heap_alloc_new Z _⟩,fun e=>Nat.lt_irrefl _ (aO hg.oi e),fun e=>Nat.lt_irrefl _ (aO hg.ok e)⟩
 · exact h'.ext x hx
theorem swap (h:Pr X lo w1 cr L Z iv kv is ks ixs kxs):Pr X lo w1 cr L Z kv iv ks is kxs ixs :=
 { h with gr:=h.gr.imp fun _=>bU.swap,own:=fun q hq=>h.own q hq.symm,ext:=fun x hx=>let ⟨a,b,c⟩:=h.ext x hx;⟨a,c,b⟩}
theorem aHw {c:Cell} {S0:Nat→Prop} (h:Pr X lo w1 cr L Z iv kv is ks ixs kxs) (RJ:∀ q,S0 q→lo≤q∧q<w1.heap.size) (hc:bZ S0 w1 c xs) (ha:dE Z Z' 35 8 iv iv' (is.length+1) (ixs++xs)):Pr X lo w1 cr L Z' iv' kv (is++[c]) ks (ixs++xs) kxs:=by
 obtain ⟨⟨S,hg⟩,h1,h2,h3,h4,h5,h6⟩:=h;have hf:=Fr.gX ha.2.1;have hs:=h4.size;have hZ:=bZ.to (S':=S0) h4 (fun q hq=>⟨hq,fun e=>by have:=(RJ q hq).1;omega⟩) _ _ hc
 have hn:∀ q,iv'.ownBlock=some q→iv.ownBlock=some q∨q=Z.heap.size:=fun q hq=>by
  rcases ha.2.2 with e|⟨e,-⟩
  · exact .inl (e▸hq)
  · rw[e] at hq
    simp only[Option.some.injEq] at hq
    exact .inr hq.symm
 have hX:=aC h3
 refine ⟨⟨_,(hg.push (by omega) hZ (fun q hq=>⟨(RJ q hq).1,by have:=(RJ q hq).2;omega,fun e=>by have:=h1 q (.inl e);have:=(RJ q hq).2;omega,fun e=>by have:=h1 q (.inr e);have:=(RJ q hq).2;omega⟩) ha).1⟩,fun q hq=>?_,fun x hx=>?_,(hf.block _ hX fun e=>by have:=h1 X (.inl e);omega).trans h3,h4.trans hf fun q hq e=>by have:=h1 q (.inl e);omega,h5,h6⟩
 · rcases hq with hq|hq
   · exact (hn q hq).elim (fun e=>h1 q (.inl e)) (fun e=>by omega)
   · exact h1 q (.inr hq)
 · obtain ⟨⟨t,e⟩,a,b⟩:=h2 x hx
   exact ⟨⟨t,(hf.block _ (aC e) a).trans e⟩,fun e'=>(hn _ e').elim a (fun e'=>by have:=aC e;omega),b⟩
theorem src {P:Program} {t tx:TypeId} {n g:Nat} {c:Array Value} (h:Pr X lo w1 cr L Z iv kv is ks ixs kxs) (hx:(g,c)∈L) (hk:P.underlying tx=some (.slice t)) (hl:c.size=n) (h1:∀ u∈c.toList,u.oneCell'=true):Src P n tx (.slice (some ⟨g,0,none⟩) 1 1) 1 c.toList Z:=by
 obtain ⟨⟨t',e⟩,-⟩:=h.ext _ hx
 exact Src.ofSlice Z hk _ _ _ _ (by simp[hl]) (bD.of_block (xs:=c.toList) (by simpa using e)) h1
theorem stored (h:Pr X lo w1 cr L Z iv kv is ks ixs kxs) (hf:Fr (fun q=>q=X) Z Z') {cr':Array Value} (hr:Z'.heap[X]?=some (.cells cr' 35 (0,0))):Pr X lo w1 cr' [] Z' iv kv is ks ixs kxs:=by
 obtain ⟨⟨S,hg⟩,h1,h2,h3,h4,h5,h6⟩:=h
 exact ⟨⟨S,hg.fr hf fun q hq e=>by omega⟩,h1,(fun x hx=>by cases hx),hr,h4.trans hf fun _ _ h=>h,h5,h6⟩
theorem next {K G:Act→World→Prop} {T S:World→Prop} {a:Act} {b:Prop} (hK:Hid (∀ c v,T v→(b→S v)→G c v→K c v)) (hT:T Z) (hS:S Z) (hG:G a Z):K a Z:=hK.out a Z hT (fun _=>hS) hG
theorem aOA {K G:Act→World→Prop} {T S:World→Prop} {a:Act} {b:Prop} {c:Array Value} {t:TypeId} (h:Pr X lo w1 cr L Z iv kv is ks ixs kxs) (hK:Hid (∀ c v,T v→(b→S v)→G c v→K c v)) (hT:∀ Z',Pr X lo w1 cr ((Z.heap.size,c) :: L) Z' iv kv is ks ixs kxs→T Z') (hS:∀ Z',Pr X lo w1 cr ((Z.heap.size,c) :: L) Z' iv kv is ks ixs kxs→S Z') (hG:∀ Z',Pr X lo w1 cr ((Z.heap.size,c) :: L) Z' iv kv is ks ixs kxs→G a Z'):K a (Z.alloc (.cells c t)) :=
 hK.out a _ (hT _ (h.alloc c t)) (fun _=>hS _ (h.alloc c t)) (hG _ (h.alloc c t))
end Pr
theorem aPB {w:World} {q:Nat} {x0 x1 x2 x3 x4 x5 x6 x7 y:Value} {t:TypeId} (h:w.heap[q]?=some (.cells #[x0,x1,x2,x3,x4,x5,x6,x7] t (0,0))):(w.setCell ⟨q,7,none⟩ y).heap[q]?=some (.cells #[x0,x1,x2,x3,x4,x5,x6,y] t (0,0)):=by
 simp[World.setCell,Array.getElem?_modify,h]
theorem aHd {w:World} {q:Nat} {x0 x1 x2 x3 x4 x5 x6 x7 x8 x9 x10 x11 x12:Value} {t:TypeId} (h:w.heap[q]?=some (.cells #[x0,x1,x2,x3,x4,x5,x6,x7,x8,x9,x10,x11,x12] t (0,0))) :
 (w.cell? ⟨q,0,none⟩=some x0∧w.cell? ⟨q,1,none⟩=some x1∧w.cell? ⟨q,2,none⟩=some x2∧w.cell? ⟨q,3,none⟩=some x3∧w.cell? ⟨q,4,none⟩=some x4)∧w.cell? ⟨q,5,none⟩=some x5∧w.cell? ⟨q,6,none⟩=some x6∧w.cell? ⟨q,7,none⟩=some x7∧w.cell? ⟨q,8,none⟩=some x8∧w.cell? ⟨q,9,none⟩=some x9∧w.cell? ⟨q,10,none⟩=some x10∧w.cell? ⟨q,11,none⟩=some x11∧w.cell? ⟨q,12,none⟩=some x12:=by
 refine ⟨⟨?_,?_,?_,?_,?_⟩,?_,?_,?_,?_,?_,?_,?_,?_⟩<;>(rw[cell_of_row _ _ _ _ _ _ h];rfl)
section
variable {B:Nat} {tk t:TypeId} {uk u:Value} {Tk T:Ty} {stk st:List UInt8} {Rk Rkp R Rp:World→(Nat→Prop)→List Cell→Prop}
theorem aLQ (ks:iH Tryz.prog B tk uk Tk stk Rk Rkp) (sp:ColSpec Tryz.prog B t u T st R Rp) (kw:aEu Tryz.prog tk uk Tk Rk Rkp) (cw:ColW Tryz.prog t u T R Rp) (Gy:∀ c,Made Tk c→c.keyed=c) (w:World) (p:Nat) (fp:Nat→Prop) (σ:List Cell) (h:MapAt B tk uk Rk t u R p w fp σ) (hw:wts σ≤2147483648) (k:Nat) (hk:k<σ.length) (v:Value) (hv:w.cell? ⟨p,0,none⟩=some v) :
 Calls Tryz.prog 262 #[.agg #[v,.iface tk uk,.iface t u],.int .i64 k] w fun e' w'=>∃ v,e'=.returned v∧F0 w w'∧∃ ds:List (Cell × Cell),(∃ xs S,iQ w.heap.size w' v ds xs S)∧ds.length≤2147483648∧(Made (.map Tk T) σ[k]→.mk 0 0 0 0 ⟨#[]⟩ false (ds.map (·.2)) (ds.map fun p=>p.1.keyed)=σ[k]):=by
 obtain ⟨v0,fk,fv,hp,Aa,Dn,hR,n1,n2,n3,n4,n5,Aj,hB⟩:=h;obtain rfl:v0=v:=by rw[cell_of_row _ _ _ _ _ _ hp] at hv;exact Option.some.inj hv
 have QC:=bF σ;have Fg:=jD σ;have Po:=jE σ;have DT:=bF (σ.flatMap mapKeys);have FO:=bF (σ.flatMap fD);have FB:=gB iU 0 σ
 have Ac:∀ j (hj:j<σ.length),((ends iU 0 σ).flatMap bY)[j]?=some (.int .u64 (total iU (σ.take (j+1)))):=fun j hj=>by
  rw[kH _ j (by rw[FB];exact hj),aBI iU 0 σ j hj];simp[bY];show _=_
  rfl
 have JX:∀ l:List Cell,total iU l=(l.flatMap mapKeys).length:=kW
 have TV:∀ l:List Cell,(l.flatMap fD).length=(l.flatMap mapKeys).length:=fun l=>by
  induction l with
  | nil=>rfl
  | cons c l ih=>rw[flatMap_cons,flatMap_cons,length_append,length_append,ih];simp[fD,mapKeys]
 have I4:∀ g:Cell→List Cell,(∀ l:List Cell,(l.flatMap g).length=total iU l)→total iU (σ.take k)+(g σ[k]).length=total iU (σ.take (k+1))∧total iU (σ.take (k+1))≤(σ.flatMap g).length∧((σ.flatMap g).drop (total iU (σ.take k))).take (g σ[k]).length=g σ[k]:=fun g hg=>by
  have Gl:(σ.take (k+1)).flatMap g=(σ.take k).flatMap g++g σ[k]:=bQ g σ k hk;have Nb:(σ.flatMap g)=(σ.take (k+1)).flatMap g++(σ.drop (k+1)).flatMap g:=by rw[← flatMap_append,take_append_drop]
  refine ⟨by rw[← hg,← hg,Gl,length_append],by rw[← hg,Nb,length_append];omega,?_⟩;rw[Nb,Gl,← hg,append_assoc,drop_left,take_left]
 obtain ⟨k1,k2,k3⟩:=I4 mapKeys fun l=>(JX l).symm
 obtain ⟨v1,v2,v3⟩:=I4 fD fun l=>by rw[TV,JX]
 rcases Aa.2 with ⟨rfl,h0⟩|⟨g,cap,cur,rfl,_,hg,BF,AP,_⟩
 · omega
 · have LD:=fun j u hj=>Aa.cells (g:=g) rfl j u hj
   refine (aIQ ks sp kw cw w fk fv (σ.flatMap mapKeys) (σ.flatMap fD) Dn hR (some ⟨g,0,none⟩) σ.length cap k (total iU (σ.take k)) (total iU (σ.take (k+1))) hk (by omega) (show wts _≤_ by omega) (show wts _≤_ by omega) (fun h=>by rw[h];rfl) (by omega) k2 v2 (by omega)
    ⟨g,0,rfl,by have:=LD k _ (Ac k hk);rw[Addr.add_lit] at this;exact this,fun h0=>by have:=LD (k - 1) _ (Ac (k - 1) (by omega));rw[Addr.add_lit,Nat.sub_add_cancel h0] at this;exact this⟩).mono ?_
   rintro e w' ⟨v,rfl,hf,ds,Td,WE,Oi,Ol⟩;have ek:total iU (σ.take (k+1)) - total iU (σ.take k)=(mapKeys σ[k]).length:=by omega
   have ev:total iU (σ.take (k+1)) - total iU (σ.take k)=(fD σ[k]).length:=by omega
   rw[ek,k3] at Oi;rw[ev,v3] at Ol
   refine ⟨v,rfl,hf,ds,Td,by omega,fun hm=>?_⟩;obtain ⟨is,ks,hi,hl,G7,OQ⟩:=hm;have e0:ks.map Cell.keyed=ks:=(map_congr_left fun x hx=>Gy x (G7 x hx)).trans (map_id _)
   have e1:mapKeys σ[k]=ks:=by
    rw[hi];show (ks.zip is).map _=_;rw[show (fun p:Cell × Cell=>p.1.keyed)=Cell.keyed ∘ Prod.fst from rfl,← map_map,map_fst_zip (by omega),e0]
   have e2:fD σ[k]=is:=by
    rw[hi];show (ks.zip is).map Prod.snd=_;rw[map_snd_zip (by omega)]
   rw[e1] at Oi ek;rw[e2] at Ol ev;rw[Oi.all (by rw[length_map];omega) G7,Ol.all (by rw[length_map];omega) OQ,hi]
set_option linter.unusedSimpArgs false in
theorem aFM (ks:iH Tryz.prog B tk uk Tk stk Rk Rkp) (sp:ColSpec Tryz.prog B t u T st R Rp) (kw:aEu Tryz.prog tk uk Tk Rk Rkp) (cw:ColW Tryz.prog t u T R Rp) (Gy:∀ c,Made Tk c→c.keyed=c) (w:World) (p:Nat) (fp:Nat→Prop) (σ:List Cell) (h:MapAt B tk uk Rk t u R p w fp σ) (hw:wts σ≤2147483648) (k:Nat) (hk:k<σ.length) :
 Calls Tryz.prog 260 #[.agg #[.pointer (some ⟨p,0,none⟩)],.int .i64 k] w fun e w'=>∃ c xs,e=.returned (.agg xs.toArray)∧F0 w w'∧bZ (New w w') w' c xs∧(Made (.map Tk T) σ[k]→c=σ[k]):=by
 have AC:∀ q,fp q→B≤q∧q<w.heap.size:=iG.lt (Rk:=Rk) (R:=R) ks.lo sp.lo h;have Ag:=fun W (Aw:F0 w W) v hv=>aLQ ks sp kw cw Gy W p fp σ (iG.aW (Rk:=Rk) (R:=R) ks.frame sp.frame h fun q hq=>Aw.block q (AC q hq).2 (fun h=>h)) hw k hk v hv
 obtain ⟨v0,fk,fv,hp,Aa,Dn,hR,n1,n2,n3,n4,n5,Aj,hB⟩:=h;obtain ⟨a1,c1,rfl⟩:=ownsRow_shape Aa;have AZ:=aC hp;have Us:p<w.heap.size+1:=by omega
 have X0:p<w.heap.size+1+1:=by omega
 have d0:w.cell? ⟨p,0,none⟩=some (.slice a1 σ.length c1):=crw hp rfl;have d1:w.cell? ⟨p,1,none⟩=some (.iface tk uk):=crw hp rfl;have d2:w.cell? ⟨p,2,none⟩=some (.iface t u):=crw hp rfl;generalize σ[k]=rk at Ag ⊢;have Bq:=Lib.hid Ag;clear Ag;go_enter func260,ntmps260
 go_wp2_with (go_at_call 262;refine (Bq.out _ ((((Fr.refl _ w).alloc _).alloc _).alloc _) _ (by simpa [World.cell?_alloc_lt,AZ,Us,X0] using d0)).mono ?_;rintro e w1 ⟨lv,rfl,Ad,ds,⟨xs,S,Fq⟩,WE,E8⟩;obtain ⟨la,lc,rfl⟩:=ownsRow_shape Fq.own)
 generalize Ns:((w.alloc _).alloc _).alloc _=wA at Ad Fq;have Ee:F0 w wA:=by subst Ns;exact (((Fr.refl _ w).alloc _).alloc _).alloc _
 have X9:wA.heap.size=w.heap.size+1+1+1:=by subst Ns;simp
 have Xk:wA.heap[w.heap.size+1+1]?=some (.cells #[.int .u64 0,.int .u64 0,.int .u64 0,.int .u64 0,.string ⟨#[]⟩,.bool false,.slice none 0 0,.slice none 0 0] 35 (0,0)):=by subst Ns;exact Fr.made (Fr.refl _ _) (by simp)
 have Vw:wA.heap[w.heap.size+1]?=some (.cells #[.int .u64 0,.int .u64 0,.int .u64 0,.int .u64 0,.string ⟨#[]⟩,.bool false,.slice none 0 0,.slice none 0 0] 35 (0,0)):=by subst Ns;exact Fr.made ((Fr.refl _ _).alloc _) (by simp)
 clear Ns;have BN:=Ad.size;have E5:=(Ad.block _ (by omega) (fun h=>h)).trans Xk;have hr1:=(Ad.block _ (by omega) (fun h=>h)).trans Vw;have Bv:=Ee.trans Ad (fun _ _ h=>h);have Ob:=Lib.hid Fq;have Ib:=Lib.hid E8;clear Fq E8
 go_loopw [15] (fun i wr=>∃ (j:Nat) (iv kv:Value) (is ks:List Cell) (ixs kxs:List Value),i=.int .i64 j∧j≤ds.length∧Pr (w.heap.size+1+1) wA.heap.size w1 #[.int .u64 0,.int .u64 0,.int .u64 0,.int .u64 0,.string ⟨#[]⟩,.bool false,iv,kv] [] wr iv kv is ks ixs kxs∧Hid (is=(ds.take j).map (·.2))∧Hid (ks=(ds.take j).map fun p=>p.1.keyed)) (fun i _=>ds.length - (intOf i).toNat)
 case atStart=>exact ⟨0,_,_,[],[],[],[],rfl,Nat.zero_le _,⟨⟨_,bU.nil _ _⟩,(fun q h=>by simp[Value.ownBlock] at h),(fun x h=>by cases h),E5,Fr.refl _ _,by omega,BN⟩,Lib.hid rfl,Lib.hid rfl⟩
 case round =>
  obtain ⟨j,iv,kv,is,ks',ixs,kxs,rfl,hj,hP,WY,EG⟩:=hrel;obtain ⟨Sg,BG⟩:=hP.gr;obtain ⟨ta,tc,rfl⟩:=ownsRow_shape BG.oi;obtain ⟨ua,uc,rfl⟩:=ownsRow_shape BG.ok
  by_cases Ar:j<ds.length
  · have FW:(j:Int)<ds.length:=by omega
    obtain ⟨CE,vs,AQ,IM⟩:=Ob.out.kv.at j Ar;have Ap:=hP.frm.owns Ob.out.own (fun q hq e=>by have:=Ob.out.lo q hq;omega);rcases Ap.2 with ⟨hv,-⟩|⟨ga,capa,cura,hv,-⟩
    · simp only[Value.slice.injEq] at hv;omega
    · simp only[Value.slice.injEq] at hv
      obtain ⟨rfl,-,rfl⟩:=hv;have Ah:=take_succ_eq_append_getElem Ar;have TK:Hid ((ds.take (j+1)).map (·.2)=is++[ds[j].2]):=Lib.hid (by rw[Ah,map_append,WY.out];rfl);have TT:Hid ((ds.take (j+1)).map (fun p=>p.1.keyed)=ks'++[ds[j].1.keyed]):=Lib.hid (by rw[Ah,map_append,EG.out];rfl);have Fa:is.length+1≤2147483648:=by rw[WY.out,length_map,length_take];omega
      have DT:ks'.length+1≤2147483648:=by rw[EG.out,length_map,length_take];omega
      generalize ds[j].1=kc at CE IM TT;generalize ds[j].2=vc at AQ IM TK;obtain ⟨ia,ic,ka,kcc,ixs0,kxs0,rfl,-⟩:=(id AQ).full
      have hx:∀ m u,(bV kc++[.int .u64 vc.r0,.int .u64 vc.r1,.int .u64 vc.r2,.int .u64 vc.r3,.string vc.s,.bool vc.null,.slice ia vc.items.length ic,.slice ka vc.keys.length kcc])[m]?=some u→wr.cell? ⟨ga,j*13+m,none⟩=some u:=fun m u hm=>by
       have:=Ap.cells (g:=ga) rfl _ _ (IM m u hm);rw[Addr.add_lit,Nat.zero_add] at this
       exact this
      have x0:=hx 0 _ rfl;have x1:=hx 1 _ rfl;have x2:=hx 2 _ rfl;have x3:=hx 3 _ rfl;have x4:=hx 4 _ rfl;have x5:=hx 5 _ rfl;have x6:=hx 6 _ rfl;have x7:=hx 7 _ rfl;have x8:=hx 8 _ rfl;have x9:=hx 9 _ rfl;have x10:=hx 10 _ rfl;have x11:=hx 11 _ rfl;have x12:=hx 12 _ rfl;simp only[Nat.add_zero] at x0;have Ii:=AQ;have J4:=Ob.out.hS;have EL:=(hP.alloc #[.int .u64 kc.r0,.int .u64 kc.r1,.int .u64 kc.r2,.int .u64 kc.r3,.string kc.s,.int .u64 vc.r0,.int .u64 vc.r1,.int .u64 vc.r2,.int .u64 vc.r3,.string vc.s,.bool vc.null,.slice ia vc.items.length ic,.slice ka vc.keys.length kcc] 498).fr (Fr.refl _ _).drew;have ZC:=hP;have gm:=hP.Xl;clear hx IM Ap BG hP
      go_wp2_with fail
      clear x0 x1 x2 x3 x4 x5 x6 x7 x8 x9 x10 x11 x12
      refine Goes.region (T:=fun Z=>∃ t,Z.heap[wr.heap.size]?=some (.cells #[.int .u64 kc.r0,.int .u64 kc.r1,.int .u64 kc.r2,.int .u64 kc.r3,.string kc.s,.int .u64 vc.r0,.int .u64 vc.r1,.int .u64 vc.r2,.int .u64 vc.r3,.string vc.s,.bool vc.null,.slice ia vc.items.length ic,.slice ka vc.keys.length kcc] t (0,0))) (S:=fun Z=>Z.heap[w.heap.size+1+1]?=some (.cells #[.int .u64 0,.int .u64 0,.int .u64 0,.int .u64 0,.string ⟨#[]⟩,.bool false,.slice ta is.length tc,.slice ua ks'.length uc] 35 (0,0))) (z:=14) (by kernel_rfl) ?_
      generalize World.drew _=Z at EL ⊢;have hT:=(EL.ext _ mem_cons_self).1;have hS:=EL.row
      refine Goes.fA (i:=0) (u:=?hu0) rfl (by kernel_rfl) (by kernel_rfl) (by kernel_rfl) (by kernel_rfl) (fun _ _ _ h=>h) (by rfl) hT (fun _=>hS) ?hy0 ?hr0
      case hy0 =>
       rintro wq ⟨t,hq⟩;go_simp
       try rfl
      try simp only[gg,Act.put]
      refine Goes.aDS (i:=1) (u:=?hu1) rfl (by kernel_rfl) rfl (by kernel_rfl) (by kernel_rfl) (by kernel_rfl) (by kernel_rfl) (by kernel_rfl) (fun _ _ _ h=>h) (by rfl) hT hS ?hy1 ?hr1
      case hy1 =>
       rintro wq ⟨-,hq⟩;obtain ⟨g0,g1,g2,g3,g4,g5,g6,g7⟩:=bD.eight (bD.of_block hq);go_simp
       try rfl
      try simp only[gg,Act.put]
      refine Goes.fA (i:=2) (u:=?hu2) rfl (by kernel_rfl) (by kernel_rfl) (by kernel_rfl) (by kernel_rfl) (fun _ _ _ h=>h) (by rfl) hT (fun _=>hS) ?hy2 ?hr2
      case hy2 =>
       rintro wq ⟨t,hq⟩;go_simp
       try rfl
      try simp only[gg,Act.put]
      refine Goes.fA (i:=3) (u:=?hu3) rfl (by kernel_rfl) (by kernel_rfl) (by kernel_rfl) (by kernel_rfl) (fun _ _ _ h=>h) (by rfl) hT (fun _=>hS) ?hy3 ?hr3
      case hy3 =>
       rintro wq ⟨t,hq⟩;obtain ⟨⟨g0,g1,g2,g3,g4⟩,g5,g6,g7,g8,g9,g10,g11,g12⟩:=aHd hq;go_simp
       try rfl
      try simp only[gg,Act.put]
      refine Goes.fA (i:=7) (u:=?hu7) rfl (by kernel_rfl) (by kernel_rfl) (by kernel_rfl) (by kernel_rfl) (fun _ _ _ h=>h) (by rfl) hT (fun _=>hS) ?hy7 ?hr7
      case hy7 =>
       rintro wq ⟨t,hq⟩;go_simp
       try rfl
      try simp only[gg,Act.put]
      refine Goes.aDS (i:=8) (u:=?hu8) rfl (by kernel_rfl) rfl (by kernel_rfl) (by kernel_rfl) (by kernel_rfl) (by kernel_rfl) (by kernel_rfl) (fun _ _ _ h=>h) (by rfl) hT hS ?hy8 ?hr8
      case hy8 =>
       rintro wq ⟨-,hq⟩;obtain ⟨g0,g1,g2,g3,g4,g5,g6,g7⟩:=bD.eight (bD.of_block hq);go_simp
       try rfl
      try simp only[gg,Act.put]
      refine Goes.fA (i:=9) (u:=?hu9) rfl (by kernel_rfl) (by kernel_rfl) (by kernel_rfl) (by kernel_rfl) (fun _ _ _ h=>h) (by rfl) hT (fun _=>hS) ?hy9 ?hr9
      case hy9 =>
       rintro wq ⟨t,hq⟩;go_simp
       try rfl
      try simp only[gg,Act.put]
      refine Goes.fA (i:=10) (u:=?hu10) rfl (by kernel_rfl) (by kernel_rfl) (by kernel_rfl) (by kernel_rfl) (fun _ _ _ h=>h) (by rfl) hT (fun _=>hS) ?hy10 ?hr10
      case hy10 =>
       rintro wq ⟨t,hq⟩;obtain ⟨⟨g0,g1,g2,g3,g4⟩,g5,g6,g7,g8,g9,g10,g11,g12⟩:=aHd hq;go_simp
       try rfl
      try simp only[gg,Act.put]
      clear hT hS;have Dp:bZ (fun q=>wA.heap.size≤q∧q<w1.heap.size) w1 kc.keyed #[.int .u64 kc.r0,.int .u64 kc.r1,.int .u64 kc.r2,.int .u64 kc.r3,.string kc.s,.bool false,.slice none 0 0,.slice none 0 0].toList:=lL _ _ CE;have PK:bZ (fun q=>wA.heap.size≤q∧q<w1.heap.size) w1 vc #[.int .u64 vc.r0,.int .u64 vc.r1,.int .u64 vc.r2,.int .u64 vc.r3,.string vc.s,.bool vc.null,.slice ia vc.items.length ic,.slice ka vc.keys.length kcc].toList:=Ii.mono fun q hq=>⟨(J4 q hq).1,(J4 q hq).2.1⟩
      have Ws:=Lib.hid Dp;have WC:=Lib.hid PK;have o8:=aC ZC.row;clear Dp PK AQ Ii J4 CE
      iterate 6
       all_goals (first
        | refine Goes.fA (i:=13) (u:=.pointer (some ⟨w.heap.size+1+1,7,none⟩)) rfl (by kernel_rfl) (by kernel_rfl) (by decide +kernel) (by decide +kernel) (fun _ _ _ h=>h) (by rfl) (EL.ext (wr.heap.size,#[.int .u64 kc.r0,.int .u64 kc.r1,.int .u64 kc.r2,.int .u64 kc.r3,.string kc.s,.int .u64 vc.r0,.int .u64 vc.r1,.int .u64 vc.r2,.int .u64 vc.r3,.string vc.s,.bool vc.null,.slice ia vc.items.length ic,.slice ka vc.keys.length kcc]) (by repeat (first|exact mem_cons_self|apply mem_cons_of_mem))).1 (fun _=>EL.row) (fun wq _=>by go_simp;try rfl) ?_
        | refine Goes.two (i:=4) (j:=11) (by decide +kernel) rfl rfl (fun K' hK=>?_) (fun K' hK=>?_)
        | refine Goes.two (i:=5) (j:=11) (by decide +kernel) rfl rfl (fun K' hK=>?_) (fun K' hK=>?_)
        | refine Goes.two (i:=6) (j:=11) (by decide +kernel) rfl rfl (fun K' hK=>?_) (fun K' hK=>?_)
        | refine Goes.one (i:=4) (by decide +kernel) rfl (fun K' hK=>?_)
        | refine Goes.one (i:=5) (by decide +kernel) rfl (fun K' hK=>?_)
        | refine Goes.one (i:=6) (by decide +kernel) rfl (fun K' hK=>?_)
        | refine Goes.one (i:=11) (by decide +kernel) rfl (fun K' hK=>?_)
        | refine Goes.one (i:=12) (by decide +kernel) rfl (fun K' hK=>?_)
        | skip)
       all_goals try simp only[gg,Act.put]
       all_goals (first
        | (go_simp;go_at_call 239;refine (oV _ _ _ _ _ _).mono ?_;rintro e Z1 ⟨rfl,Ae⟩;dsimp only;have Hq:=EL.fr Ae;refine Pr.next hK (Hq.ext (wr.heap.size,#[.int .u64 kc.r0,.int .u64 kc.r1,.int .u64 kc.r2,.int .u64 kc.r3,.string kc.s,.int .u64 vc.r0,.int .u64 vc.r1,.int .u64 vc.r2,.int .u64 vc.r3,.string vc.s,.bool vc.null,.slice ia vc.items.length ic,.slice ka vc.keys.length kcc]) (by repeat (first|exact mem_cons_self|apply mem_cons_of_mem))).1 Hq.row ?_;clear hK K' EL;have EL:=Hq;clear Hq;try simp only[gg,Act.put])
        | (go_simp;refine Pr.aOA (c:=#[.int .u64 kc.r0,.int .u64 kc.r1,.int .u64 kc.r2,.int .u64 kc.r3,.string kc.s,.bool false,.slice none 0 0,.slice none 0 0]) EL hK (fun Z' Hq=>(Hq.ext (wr.heap.size,#[.int .u64 kc.r0,.int .u64 kc.r1,.int .u64 kc.r2,.int .u64 kc.r3,.string kc.s,.int .u64 vc.r0,.int .u64 vc.r1,.int .u64 vc.r2,.int .u64 vc.r3,.string vc.s,.bool vc.null,.slice ia vc.items.length ic,.slice ka vc.keys.length kcc]) (by repeat (first|exact mem_cons_self|apply mem_cons_of_mem))).1) (fun Z' Hq=>Hq.row) ?_;clear hK K' EL;intro Z2 EL;try simp only[gg,Act.put])
        | (go_simp;refine Pr.aOA (c:=#[.int .u64 vc.r0,.int .u64 vc.r1,.int .u64 vc.r2,.int .u64 vc.r3,.string vc.s,.bool vc.null,.slice ia vc.items.length ic,.slice ka vc.keys.length kcc]) EL hK (fun Z' Hq=>(Hq.ext (wr.heap.size,#[.int .u64 kc.r0,.int .u64 kc.r1,.int .u64 kc.r2,.int .u64 kc.r3,.string kc.s,.int .u64 vc.r0,.int .u64 vc.r1,.int .u64 vc.r2,.int .u64 vc.r3,.string vc.s,.bool vc.null,.slice ia vc.items.length ic,.slice ka vc.keys.length kcc]) (by repeat (first|exact mem_cons_self|apply mem_cons_of_mem))).1) (fun Z' Hq=>Hq.row) ?_;clear hK K' EL;intro Z2 EL;try simp only[gg,Act.put])
        | (rw[if_pos (by rfl)];obtain ⟨Sx,OH⟩:=EL.gr;refine dJ _ jH _ _ rfl (.slice ua ks'.length uc) ks'.length kxs rfl OH.ok _ _ _ rfl (EL.src (c:=#[.int .u64 kc.r0,.int .u64 kc.r1,.int .u64 kc.r2,.int .u64 kc.r3,.string kc.s,.bool false,.slice none 0 0,.slice none 0 0]) (by repeat (first|exact mem_cons_self|apply mem_cons_of_mem)) underlying31 rfl (by simp[Value.oneCell'])) (by unfold maxLen;omega) (by omega) ?_;intro v4 Z4 Jy;obtain ⟨a4,b4,rfl⟩:=Jy.shape;have Hq:=(EL.swap.aHw (fun _ h=>h) Ws.out Jy).swap;clear OH Jy;refine Pr.next hK (Hq.ext (wr.heap.size,#[.int .u64 kc.r0,.int .u64 kc.r1,.int .u64 kc.r2,.int .u64 kc.r3,.string kc.s,.int .u64 vc.r0,.int .u64 vc.r1,.int .u64 vc.r2,.int .u64 vc.r3,.string vc.s,.bool vc.null,.slice ia vc.items.length ic,.slice ka vc.keys.length kcc]) (by repeat (first|exact mem_cons_self|apply mem_cons_of_mem))).1 Hq.row ?_;clear hK K' EL;have EL:=Hq;clear Hq;try simp only[gg,Act.put])
        | (rw[if_pos (by rfl)];obtain ⟨Sx,OH⟩:=EL.gr;refine dJ _ jH _ _ rfl (.slice ta is.length tc) is.length ixs rfl OH.oi _ _ _ rfl (EL.src (c:=#[.int .u64 vc.r0,.int .u64 vc.r1,.int .u64 vc.r2,.int .u64 vc.r3,.string vc.s,.bool vc.null,.slice ia vc.items.length ic,.slice ka vc.keys.length kcc]) (by repeat (first|exact mem_cons_self|apply mem_cons_of_mem)) underlying31 rfl (by simp[Value.oneCell'])) (by unfold maxLen;omega) (by omega) ?_;intro v6 Z6 QM;obtain ⟨a6,b6,rfl⟩:=QM.shape;have Hq:=EL.aHw (fun _ h=>h) WC.out QM;clear OH QM;refine Pr.next hK (Hq.ext (wr.heap.size,#[.int .u64 kc.r0,.int .u64 kc.r1,.int .u64 kc.r2,.int .u64 kc.r3,.string kc.s,.int .u64 vc.r0,.int .u64 vc.r1,.int .u64 vc.r2,.int .u64 vc.r3,.string vc.s,.bool vc.null,.slice ia vc.items.length ic,.slice ka vc.keys.length kcc]) (by repeat (first|exact mem_cons_self|apply mem_cons_of_mem))).1 Hq.row ?_;clear hK K' EL;have EL:=Hq;clear Hq;try simp only[gg,Act.put])
        | skip)
      all_goals
       obtain ⟨g0,g1,g2,g3,g4,g5,g6,g7⟩:=bD.eight (bD.of_block EL.row);have f6:=fzj 6 EL.row;have f7:=fzj 7 EL.row;have Qx:Fr (fun x=>x=w.heap.size+1+1) Z6 (Z6.setCell ⟨w.heap.size+1+1,7,none⟩ (.slice a4 (ks'.length+1) b4)):=(Fr.refl (fun x=>x=w.heap.size+1+1) Z6).setCell (p:=⟨w.heap.size+1+1,7,none⟩) (.inl rfl) _;have Qw:Fr (fun x=>x=w.heap.size+1+1) Z6 ((Z6.setCell ⟨w.heap.size+1+1,7,none⟩ (.slice a4 (ks'.length+1) b4)).setCell ⟨w.heap.size+1+1,6,none⟩ (.slice a6 (is.length+1) b6)):=Qx.setCell (p:=⟨w.heap.size+1+1,6,none⟩) (.inl rfl) _;have Vb:=(EL.ext (wr.heap.size,#[.int .u64 kc.r0,.int .u64 kc.r1,.int .u64 kc.r2,.int .u64 kc.r3,.string kc.s,.int .u64 vc.r0,.int .u64 vc.r1,.int .u64 vc.r2,.int .u64 vc.r3,.string vc.s,.bool vc.null,.slice ia vc.items.length ic,.slice ka vc.keys.length kcc]) (by repeat (first|exact mem_cons_self|apply mem_cons_of_mem))).1;have P9:∀ Z',Fr (fun x=>x=w.heap.size+1+1) Z6 Z'→∃ t,Z'.heap[wr.heap.size]?=some (.cells #[.int .u64 kc.r0,.int .u64 kc.r1,.int .u64 kc.r2,.int .u64 kc.r3,.string kc.s,.int .u64 vc.r0,.int .u64 vc.r1,.int .u64 vc.r2,.int .u64 vc.r3,.string vc.s,.bool vc.null,.slice ia vc.items.length ic,.slice ka vc.keys.length kcc] t (0,0)):=fun Z' hf=>Vb.imp fun t e=>(hf.block _ (aC e) (by omega)).trans e
       have ZA:=EL.stored Qw (lI.aPz (aPB EL.row))
       refine Goes.one (i:=14) (by kernel_rfl) rfl (fun K' hK=>?_)
       try simp only[gg,Act.put]
       go_simp
       refine hK.out _ _ (P9 _ Qx) (fun h=>absurd (h.symm.trans (by kernel_rfl)) Bool.false_ne_true) ?_
       clear hK K'
       try simp only[gg,Act.put]
       refine Goes.fA (i:=15) (u:=.pointer (some ⟨w.heap.size+1+1,6,none⟩)) rfl (by kernel_rfl) (by kernel_rfl) (by kernel_rfl) (by kernel_rfl) (fun _ _ _ h=>h) (by rfl) (P9 _ Qx) (fun h=>absurd (h.symm.trans (by kernel_rfl)) Bool.false_ne_true) (fun wq _=>by go_simp;try rfl) ?_
       try simp only[gg,Act.put]
       refine Goes.one (i:=16) (by kernel_rfl) rfl (fun K' hK=>?_)
       try simp only[gg,Act.put]
       go_simp
       refine hK.out _ _ (P9 _ Qw) (fun h=>absurd (h.symm.trans (by kernel_rfl)) Bool.false_ne_true) ?_
       clear hK K'
       try simp only[gg,Act.put]
       refine Goes.done (by kernel_rfl) ?_
       clear P9 Vb Qw Qx EL;go_wp2;go_roundw
       case rel=>exact ⟨j+1,_,_,_,_,_,_,rfl,Ar,ZA,Lib.hid TK.out.symm,Lib.hid TT.out.symm⟩
       case measure=>simp[intOf];omega
  · have FW:¬ (j:Int)<ds.length:=by omega
    have Eu:=hP.row;have Oj:=(hP.frm.block _ (by omega) (by show ¬ w.heap.size+1=_;omega)).trans hr1;obtain ⟨c0,c1,c2,c3,c4,c5,c6,c7⟩:=bD.eight (bD.of_block Eu);obtain ⟨d0,d1,d2,d3,d4,d5,d6,d7⟩:=bD.eight (bD.of_block Oj);have z0:=fzj 0 Oj;have z1:=fzj 1 Oj;have z2:=fzj 2 Oj;have z3:=fzj 3 Oj;have z4:=fzj 4 Oj;have z5:=fzj 5 Oj;have z6:=fzj 6 Oj;have z7:=fzj 7 Oj;have Z8:=Lib.hid hP;clear hP;go_wp2
    refine bodyPost_ret (by simp[results,results260,go_sem,d0,d1,d2,d3,d4,d5,d6,d7];try rfl) rfl ?_
    refine ⟨_,_,rfl,and_assoc.1 ⟨New.fin (uI BG) (by omega) (Bv.trans Z8.out.frm (fun q hq h=>by have:q=_:=h;omega)) (Fr.refl _ _) (by omega) (Nat.le_succ _) (Fr.zF _ _ _ _ _ _ _ _),fun hm=>?_⟩⟩;have e:=Ib.out hm;have ej:ds.take j=ds:=take_of_length_le (by omega);rw[WY.out,EG.out,ej]
    exact e
theorem aCh (p:Nat) (w:World):(method mdp 92 (.agg #[.pointer (some ⟨p,0,none⟩)]) "Row").run Tryz.prog w=.ok (260,.agg #[.pointer (some ⟨p,0,none⟩)]) w:=by kernel_rfl
theorem aDG (p:Nat) (w:World) (x u v:Value) (h0:w.cell? ⟨p,0,none⟩=some x) (h1:w.cell? ⟨p,1,none⟩=some u) (h2:w.cell? ⟨p,2,none⟩=some v):(method mdp 92 (.agg #[.pointer (some ⟨p,0,none⟩)]) "WriteColumn").run Tryz.prog w=.ok (256,.agg #[x,u,v]) w:=by
 obtain ⟨n,hn⟩:=fuel;rw[hn]
 exact eU (n:=n+1) false underlying92 rfl rfl (fun _=>by kernel_rfl) (by kernel_rfl) rfl (gU (P:=Tryz.prog) underlying89 (aDx h0 (by simpa [Addr.add] using h1) (by simpa [Addr.add] using h2)))
theorem aDF (ks:iH Tryz.prog B tk uk Tk stk Rk Rkp) (sp:ColSpec Tryz.prog B t u T st R Rp) (kw:aEu Tryz.prog tk uk Tk Rk Rkp) (cw:ColW Tryz.prog t u T R Rp) (Gy:∀ c,Made Tk c→c.keyed=c) (p:Nat) :
 ColW Tryz.prog 92 (.agg #[.pointer (some ⟨p,0,none⟩)]) (.map Tk T) (MapAt B tk uk Rk t u R p) (MapAt B tk uk Rkp t u Rp p) where
 write:=by
  intro conn ps pw w fp σ fw n out h hw CY hd hl hn;obtain ⟨v,fk,fv,hp,Kv⟩:=id h
  exact aF.of1 (aDG p w _ _ _ (crw hp rfl) (crw hp rfl) (crw hp rfl)) call256
   (aIS ks sp kw cw w p fp σ h hw CY hd hl hn v (crw hp rfl))
 row:=fun {w fp σ k} hk h hw=>aF.of1 (aCh p w) call260 (aFM ks sp kw cw Gy w p fp σ h hw k hk)
end
theorem aFS (tk:TypeId) (uk:Value) (t:TypeId) (u:Value) (w:World):Calls Tryz.prog 35 #[.iface tk uk,.iface t u] w fun e w'=>e=.returned (.pointer (some ⟨w.heap.size,0,none⟩))∧w'=w.alloc (.cells #[.slice none 0 0,.iface tk uk,.iface t u] 144):=by
 go_enter func35,ntmps35;go_wp2;go_ret
 exact ⟨rfl,rfl⟩
theorem aMw (a b:Ty) (Gy:∀ c,Made a c→c.keyed=c) (bu:iE a) (GG:iE b) (V6:jJ (text a)) (Om:jJ (text b)) (hn:(text a).length+(text b).length≤900000):iE (.map a b):=by
 intro w Dk;obtain ⟨ts,EQ⟩:∃ ts,Hid (ts=[a,b]):=⟨_,Lib.hid rfl⟩;obtain ⟨LS,Hw⟩:∃ LS,Hid (LS=ts.map text):=⟨_,Lib.hid rfl⟩;have Ik:Hid (LS.length=ts.length):=Lib.hid (by rw[Hw.out,length_map]);have RF:LS.length≤1000:=by rw[Ik.out,EQ.out];simp
 have D7:∀ x∈ts,iE x:=fun x hx=>by
  rw[EQ.out] at hx;simp only[mem_cons,not_mem_nil,or_false] at hx;rcases hx with rfl|rfl
  · exact bu
  · exact GG
 have Hf:Calls Tryz.prog 31 #[.string (bJ (text (.map a b)))] w (lT [77,97,112] LS w):=by
  rw[text]
  refine jF w Dk [77,97,112] (text a++[44,32]++text b) LS (by unfold gI;decide) (by simp;omega) (fun c hc=>?_) (by rw[Hw.out,EQ.out];exact aIW V6 Om);simp only[mem_append,mem_cons,not_mem_nil,or_false] at hc;rcases hc with (hc|(rfl|rfl))|hc
  · exact V6.ascii c hc
  · decide
  · decide
  · exact Om.ascii c hc
 generalize bJ (text (.map a b))=txt at Hf;go_enter func23,ntmps23
 go_wp2_with (go_at_call 31;refine Hf.mono ?_;rintro e w1 ⟨nm,v,rfl,hl,⟨Aa,Ai⟩,hb⟩;obtain ⟨av,cv,rfl⟩:=ownsRow_shape Aa)
 go_loopw [5,21] (fun l i wr=>∃ (k:Nat) (ks:List Kid),k≤LS.length∧i=.int .i64 k∧wr.ownsRow 0 59 1 l k (ks.map Kid.v)∧(∀ q,l.ownBlock=some q→w1.heap.size≤q)∧Apart l ks∧Kids w1.heap.size wr ks∧ks.map Kid.T=ts.take k∧Below w1.heap.size w1 wr) (fun _ i _=>LS.length - (intOf i).toNat)
 case atStart=>exact ⟨0,[],Nat.zero_le _,rfl,World.ownsRow_nil _ _ _ _,by simp[Value.ownBlock],by simp[Apart],Kids.nil _ _,rfl,Below.refl _ _⟩
 case round =>
  obtain ⟨k,ks,hk,rfl,Bo,EC,KC,EG,Eh,Bf⟩:=hrel;obtain ⟨la,lc,rfl⟩:=ownsRow_shape Bo;have CG:=Bf.size
  by_cases Ar:k<LS.length
  · have DT:k<ts.length:=by rw[← Ik.out];exact Ar
    have Ah:=Lib.hid (take_succ_eq_append_getElem DT);have Dj:ts[k]∈ts:=getElem_mem _;have Ij:LS[k]?=some (text ts[k]):=by rw[Hw.out,getElem?_map,getElem?_eq_getElem DT];rfl
    generalize ts[k]=tk at Ah Dj Ij;have Ap:=(Below.fr Bf).owns Aa (fun _ _ h=>h);rcases Ap.2 with ⟨hv,h0⟩|⟨ga,capa,cura,hv,_,_,BF,AP,_⟩
    · omega
    · simp only[Value.slice.injEq] at hv
      obtain ⟨rfl,_,rfl⟩:=hv;have Ac:=Ap.cells (g:=ga) rfl k (.string (bJ (text tk))) (by rw[getElem?_map,Ij];rfl);rw[Addr.add_lit,Nat.zero_add] at Ac;have Bg:=D7 tk Dj wr ((Dk.below hb).below Bf);have MM:=fun q (h:(Value.slice la k lc).ownBlock=some q)=>aO Bo h
      have JF:=Lib.hid Eh;unfold maxLen at AP;clear Dj Ij Ap Eh Ai Aa
      go_wp2_with (first
       | (go_at_call 23;refine Bg.mono ?_;rintro e w2 ⟨t,u,R,Rp,fp,rfl,cs,hR,Bj⟩;have BR:=(Below.fr Bj).owns Bo (fun _ _ h=>h))
       | ((with_reducible show wpList _ _ _ (⟨some 32,_,_,_,_,_⟩ :: _) _ _);refine aP _ rfl qH _ _ rfl _ _ _ rfl (BR.alloc _) _ _ _ rfl (Src.ofSlice _ underlying72 _ _ _ _ rfl (bG _ [.iface t u] _) (by simp[Value.oneCell'])) ?_ ?_ ?_;(unfold maxLen;omega);omega;intro v' w3 ha;obtain ⟨a',c',rfl⟩:=ha.shape))
      go_roundw
      case rel =>
       have EH:=Kids.more EG CG Bj (k:=⟨t,u,tk,R,Rp,fp⟩) cs hR MM KC ha
       refine ⟨k+1,ks++[⟨t,u,tk,R,Rp,fp⟩],by omega,by go_num,?_,?_,EH.2,EH.1,?_,?_⟩
       · rw[map_append]
         exact ha.1
       · intro q hq
         rcases ha.2.2 with e|⟨e,-⟩
         · exact EC q (e.symm.trans hq)
         · rw[e] at hq
           simp only[Option.some.injEq] at hq;have:=Bj.size;simp at hq;omega
       · rw[map_append,JF.out,Ah.out]
         rfl
       · exact Bf.trans ((((Below.fr Bj).alloc _).mono (S':=fun q=>w1.heap.size≤q) (fun _ _ h=>h.elim)).grown ha.2.1 (fun q hq=>.inl (EC q hq)) |>.below CG (fun q hq h=>by omega))
      case measure=>simp[intOf];omega
  · have DT:k=ts.length:=by rw[← Ik.out];omega
    subst DT;rw[take_length] at Eh;have AA:ks.length=ts.length:=by rw[← length_map (f:=Kid.T),Eh]
    clear D7 Ai Aa;have Am:ts.length=2:=by rw[EQ.out];rfl
    rcases Bo.2 with ⟨hv,h0⟩|⟨ga,capa,cura,hv,_,_,BF,AP,_⟩
    · omega
    · simp only[Value.slice.injEq] at hv
      obtain ⟨rfl,_,rfl⟩:=hv
      obtain ⟨k1,k2,rfl⟩:∃ k1 k2,ks=[k1,k2]:=by
       have h2:=AA.trans Am
       match ks,h2 with
       | [x,y],_=>exact ⟨x,y,rfl⟩
      have c0:=Bo.cells (g:=ga) rfl 0 (.iface k1.t k1.u) rfl;have c1:=Bo.cells (g:=ga) rfl 1 (.iface k2.t k2.u) rfl;simp only[Addr.add_lit,Nat.zero_add,Nat.add_zero] at c0 c1;have P9:k1.T=a∧k2.T=b:=by rw[EQ.out] at Eh;simpa using Eh
      obtain ⟨JC,FM⟩:=EG.1 k1 (by simp);obtain ⟨IW,Ew⟩:=EG.1 k2 (by simp);have RX:∀ q,k1.fp q→¬ k2.fp q:=(pairwise_cons.1 EG.2).1 k2 (by simp);have Jd:=fun q hq=>JC.lo FM q hq
      have G5:=fun q hq=>IW.lo Ew q hq
      obtain ⟨t1,u1,T1,R1,Rp1,f1⟩:=k1;obtain ⟨t2,u2,T2,R2,Rp2,f2⟩:=k2;simp only at P9 JC IW FM Ew Jd G5 RX c0 c1;obtain ⟨rfl,rfl⟩:=P9;have Ic:=Lib.hid Am;rw[Am] at BF;unfold maxLen at AP;have Qg:(ts.length:Int)=2:=by rw[Am];rfl
      clear Eh AA Bo EG KC EC
      go_wp2_with fail
      go_region_law (go_simp;go_at_call 35;refine (aFS 86 (.agg #[.iface t1 u1]) t2 u2 _).mono ?_;rintro e w2 ⟨rfl,rfl⟩)
      all_goals
       go_wp2;go_ret;have BN:=hb.size;have G8:=pW.mk (aDH (uJ (JC.low BN).toColSpec) (IW.low BN).toColSpec wr.heap.size) (aDF (uJ (JC.low BN).toColSpec) (IW.low BN).toColSpec (aLC (JC.low BN).toColSpec JC.toColW Gy) IW.toColW Gy wr.heap.size)
       refine ⟨_,_,MapAt w.heap.size 86 (.agg #[.iface t1 u1]) R1 t2 u2 R2 wr.heap.size,MapAt w.heap.size 86 (.agg #[.iface t1 u1]) Rp1 t2 u2 Rp2 wr.heap.size,fun q=>q=wr.heap.size∨f1 q∨f2 q,rfl,by rw[st];exact G8,?_,?_⟩
       · have Sv:∀ q,q<wr.heap.size→(wr.drew.alloc (.cells #[.slice none 0 0,.iface 86 (.agg #[.iface t1 u1]),.iface t2 u2] 144)).heap[q]?=wr.heap[q]?:=fun q hq=>Below.heap_alloc wr.drew _ _ hq
         unfold MapAt iG
         refine ⟨.slice none 0 0,f1,f2,heap_alloc_new wr.drew _,World.ownsRow_nil _ _ _ _,JC.frame FM fun q hq=>Sv q (Jd q hq).2,IW.frame Ew fun q hq=>Sv q (G5 q hq).2,by simp[Value.ownBlock],fun h=>by have:=(Jd _ h).2;omega,fun h=>by have:=(G5 _ h).2;omega,by simp[Value.ownBlock],RX,fun q=>by simp[Value.ownBlock],?_⟩;rintro q (rfl|hq|hq)
         · omega
         · have:=(Jd q hq).1;omega
         · have:=(G5 q hq).1;omega
       · exact ((hb.trans (Bf.mono BN)).drew).alloc (by show w.heap.size≤wr.heap.size;omega) _
end Go.Proofs.YtcidlnjpabgioaaGreatDoor
