import Derived.Test.YtcidlnjpabgioaaGreatDoorUGEnc
import Derived.BigQuiet
set_option maxHeartbeats 4000000
set_option maxRecDepth 100000
namespace Go.Proofs.YtcidlnjpabgioaaGreatDoor
open Tryz List Go.RowKit
def Ent (S:Nat→Prop) (w:World) (v:Value) (l:List UInt8):Prop :=
 ∃ a c,v=.slice a l.length c∧l.length≤c∧c≤maxLen∧(a=none→l=[])∧∀ ad,a=some ad→S ad.block∧ad.spot=none∧∀ j u,(aN l)[j]?=some u→w.cell? (ad.add j)=some u
theorem add_block' (ad:Addr) (j:Nat):(ad.add j).block=ad.block:=by unfold Addr.add;split<;>rfl
theorem Ent.to {S S' F:Nat→Prop} {w w':World} {v:Value} {l:List UInt8} (h:Ent S w v l) (hf:Fr F w w') (hS:∀ q,S q→S' q∧¬ F q):Ent S' w' v l:=by
 obtain ⟨a,c,h1,h2,h3,h4,h5⟩:=h
 refine ⟨a,c,h1,h2,h3,h4,fun ad D9=>?_⟩;obtain ⟨h6,h7,h8⟩:=h5 ad D9
 exact ⟨(hS _ h6).1,h7,fun j u hj=>hf.aA (h8 j u hj) (by rw[add_block'];exact (hS _ h6).2)⟩
theorem Ent.mono {S S':Nat→Prop} {w:World} {v:Value} {l:List UInt8} (h:Ent S w v l) (hS:∀ q,S q→S' q):Ent S' w v l:=h.to (Fr.refl (fun _=>False) w) fun q hq=>⟨hS q hq,id⟩
def Inn (g off:Nat) (w:World) (v:Value) (l:List UInt8):Prop :=
 ∃ o c,v=.slice (some ⟨g,o,none⟩) l.length c∧l.length≤c∧c≤maxLen∧o+l.length≤off∧∀ j u,(aN l)[j]?=some u→w.cell? ⟨g,o+j,none⟩=some u
structure lI (conn:Value) (ps:Nat) (w:World) (pw b:Nat) (v vv:Value) (off:Nat) (bs:List UInt8) (es:List (Value × List UInt8)):Prop where
 row:w.heap[pw]?=some (.cells #[conn,.pointer (some ⟨b,0,none⟩),.int .i64 off,.bool false,vv] 178 (0,0))
 buf:w.heap[b]?=some (.cells #[v] 114 (0,0))
 own:w.ownsRow 0 5 1 v bs.length (aN bs)
 vec:w.ownsRow 0 22 1 vv es.length (es.map (·.1))
 le:off≤bs.length
 pb:pw≠b
 vp:v.ownBlock≠some pw
 vb:v.ownBlock≠some b
 vs:v.ownBlock≠some ps
 xp:vv.ownBlock≠some pw
 xb:vv.ownBlock≠some b
 vx:∀ q,v.ownBlock=some q→vv.ownBlock≠some q
 sl:ps<w.heap.size
 ent:∀ e∈es,Ent (fun q=>q≠ps∧q<w.heap.size∧q≠pw∧q≠b∧v.ownBlock≠some q∧vv.ownBlock≠some q) w e.1 e.2∨∃ g,v.ownBlock=some g∧Inn g off w e.1 e.2
namespace lI
open Tryz List
variable {conn:Value} {ps:Nat} {w w':World} {pw b:Nat} {v v' vv vv':Value} {off:Nat} {bs l:List UInt8} {es:List (Value × List UInt8)}
theorem buffer (h:lI conn ps w pw b v vv off bs es) {fb fb':Nat→Prop} (CJ:∀ k,fb k→k=b∨v.ownBlock=some k) (hf:Fr fb w w') (hb:w'.heap[b]?=some (.cells #[v'] 114 (0,0)))
 (ho:w'.ownsRow 0 5 1 v' (bs++l).length (aN (bs++l))) (J6:v'.ownBlock≠some b) (BC:∀ k,v'.ownBlock=some k→fb' k) (hg:Grow w fb fb') (hk:Kept w w' b bs.length):lI conn ps w' pw b v' vv off (bs++l) es:=by
 have AZ:=aC h.row;have Gf:=aC h.buf
 have Et:∀ q,v'.ownBlock=some q→v.ownBlock=some q∨w.heap.size≤q:=fun q hq=>by
  rcases hg q (BC q hq) with e|e
  · rcases CJ q e with e|e
    · exact absurd (e▸hq) J6
    · exact .inl e
  · exact .inr e
 have PZ:∀ q,q≠b→v.ownBlock≠some q→¬ fb q:=fun q h1 h2 h3=>(CJ q h3).elim h1 h2
 refine ⟨(hf.block _ AZ (PZ _ h.pb h.vp)).trans h.row,hb,ho,hf.owns h.vec (fun q hq=>PZ q (fun e=>h.xb (e▸hq)) (fun e=>h.vx q e hq)),by rw[length_append];have:=h.le;omega,h.pb,fun e=>?_,J6,fun e=>?_,h.xp,h.xb,fun q hq e=>?_,Nat.lt_of_lt_of_le h.sl hf.size,fun e he=>?_⟩
 · rcases Et _ e with e|e
   · exact h.vp e
   · omega
 · rcases Et _ e with e|e
   · exact h.vs e
   · have:=h.sl;omega
 · rcases Et _ hq with e'|e'
   · exact h.vx q e' e
   · have:=aO h.vec e;omega
 · rcases h.ent e he with h1|⟨g,QT,h1⟩
   · refine .inl (h1.to hf fun q ⟨a1,a2,a3,a4,a5,a6⟩=>⟨⟨a1,Nat.lt_of_lt_of_le a2 hf.size,a3,a4,fun e=>?_,a6⟩,PZ q a4 a5⟩)
     rcases Et _ e with e|e
     · exact a5 e
     · omega
   · obtain ⟨o,c,e1,e2,e3,e4,e5⟩:=h1
     have Gl:=h.le
     have Ac:∀ j u,(aN e.2)[j]?=some u→w'.cell? ⟨g,o+j,none⟩=some u:=fun j u hj=>by
      have MG:j<e.2.length:=by
       rcases Nat.lt_or_ge j e.2.length with h|h
       · exact h
       · rw[getElem?_eq_none (by rw[aZ];exact h)] at hj;cases hj
      rw[hk _ _ h.buf QT (o+j) (by omega)]
      exact e5 j u hj
     by_cases GX:v'.ownBlock=some g
     · exact .inr ⟨g,GX,o,c,e1,e2,e3,e4,Ac⟩
     · refine .inl ⟨_,c,e1,e2,e3,nofun,fun ad D9=>?_⟩
       cases D9
       refine ⟨⟨fun e=>h.vs (e▸QT),Nat.lt_of_lt_of_le (aO h.own QT) hf.size,fun e=>h.vp (e▸QT),fun e=>h.vb (e▸QT),GX,h.vx g QT⟩,rfl,fun j u hj=>?_⟩;rw[Addr.add_lit]
       exact Ac j u hj
theorem quiet (h:lI conn ps w pw b v vv off bs es) (hf:F0 w w'):lI conn ps w' pw b v vv off bs es :=
 { h with
   row:=(hf.block _ (aC h.row) (fun h=>h)).trans h.row
   buf:=(hf.block _ (aC h.buf) (fun h=>h)).trans h.buf
   own:=hf.owns h.own (fun _ _ h=>h)
   vec:=hf.owns h.vec (fun _ _ h=>h)
   sl:=Nat.lt_of_lt_of_le h.sl hf.size
   ent:=fun e he=>(h.ent e he).imp (fun h1=>h1.to hf fun _ ⟨a1,a2,a3⟩=>⟨⟨a1,Nat.lt_of_lt_of_le a2 hf.size,a3⟩,fun h=>h⟩) fun ⟨g,hg,o,c,e1,e2,e3,e4,e5⟩=>⟨g,hg,o,c,e1,e2,e3,e4,fun j u hj=>hf.aA (e5 j u hj) (fun h=>h)⟩}
theorem row4 {w:World} {q:Nat} {a b c d e e':Value} (h:w.heap[q]?=some (.cells #[a,b,c,d,e] 178 (0,0))):(w.setCell ⟨q,4,none⟩ e').heap[q]?=some (.cells #[a,b,c,d,e'] 178 (0,0)):=by
 simp[World.setCell,Array.getElem?_modify,h]
theorem aPy {w:World} {q:Nat} {a b c c' d e:Value} (h:w.heap[q]?=some (.cells #[a,b,c,d,e] 178 (0,0))):(w.setCell ⟨q,2,none⟩ c').heap[q]?=some (.cells #[a,b,c',d,e] 178 (0,0)):=by
 simp[World.setCell,Array.getElem?_modify,h]
theorem push (h:lI conn ps w pw b v vv off bs es) {off1:Nat} (DK:off≤off1) (h1:off1≤bs.length) {W0 w4:World} {o:Obj} {piece:Value} (h0:Fr (fun q=>q=pw) w W0)
 (hr0:W0.heap[pw]?=some (.cells #[conn,.pointer (some ⟨b,0,none⟩),.int .i64 off1,.bool false,vv] 178 (0,0)))
 (ha:dE (W0.alloc o) w4 22 1 vv vv' (es.length+1) (es.map (·.1)++[piece]))
 (hp:Ent (fun q=>q≠ps∧q<w.heap.size∧q≠pw∧q≠b∧v.ownBlock≠some q∧vv.ownBlock≠some q) w piece l∨∃ g,v.ownBlock=some g∧Inn g off1 w piece l) :
 lI conn ps (w4.setCell ⟨pw,4,none⟩ vv') pw b v vv' off1 bs (es++[(piece,l)])∧Fr (fun q=>q=pw∨vv.ownBlock=some q) w (w4.setCell ⟨pw,4,none⟩ vv')∧∀ q,vv'.ownBlock=some q→vv.ownBlock=some q∨w.heap.size≤q:=by
 have s0:=h0.size;have AZ:=aC h.row;have Gf:=aC h.buf;have BM:F0 W0 (W0.alloc o):=(Fr.refl _ W0).alloc o;have BU:=Fr.gX ha.2.1;have V6:(W0.alloc o).heap.size=W0.heap.size+1:=by simp
 have BP:Fr (fun q=>q=pw) w4 (w4.setCell ⟨pw,4,none⟩ vv'):=(Fr.refl (fun q=>q=pw) w4).setCell (.inl rfl) _
 have Et:∀ q,vv'.ownBlock=some q→vv.ownBlock=some q∨w.heap.size≤q:=fun q hq=>by
  rcases ha.2.2 with e|⟨e,-⟩
  · exact .inl (e▸hq)
  · rw[e] at hq
    simp only[Option.some.injEq] at hq
    exact .inr (by omega)
 have hF:Fr (fun q=>q=pw∨vv.ownBlock=some q) w (w4.setCell ⟨pw,4,none⟩ vv'):=(((h0.trans BM (fun _ _ h=>h.elim)).mono (S':=fun q=>q=pw∨vv.ownBlock=some q) (fun _ _ h=>.inl h)).trans BU (fun _ _ h=>.inr h)).trans BP (fun _ _ h=>.inl h);have Hm:=(BU.block pw (by omega) (fun e=>h.xp e)).trans ((BM.block pw (by omega) (fun h=>h)).trans hr0);have YO:∀ q,v.ownBlock=some q→¬ (q=pw∨vv.ownBlock=some q):=fun q hq e=>e.elim (fun e=>h.vp (e▸hq)) (h.vx q hq)
 have Ot:w4.ownsRow 0 22 1 vv' (es.length+1) (es.map (·.1)++[piece]):=ha.1
 have KX:∀ e:Value × List UInt8,(Ent (fun q=>q≠ps∧q<w.heap.size∧q≠pw∧q≠b∧v.ownBlock≠some q∧vv.ownBlock≠some q) w e.1 e.2∨∃ g,v.ownBlock=some g∧Inn g off1 w e.1 e.2) →
  (Ent (fun q=>q≠ps∧q<(w4.setCell ⟨pw,4,none⟩ vv').heap.size∧q≠pw∧q≠b∧v.ownBlock≠some q∧vv'.ownBlock≠some q) (w4.setCell ⟨pw,4,none⟩ vv') e.1 e.2∨∃ g,v.ownBlock=some g∧Inn g off1 (w4.setCell ⟨pw,4,none⟩ vv') e.1 e.2):=fun e he=>by
  rcases he with he|⟨g,hg,o,c,e1,e2,e3,e4,e5⟩
  · refine .inl (he.to hF fun q ⟨a1,a2,a3,a4,a5,a6⟩=>⟨⟨a1,Nat.lt_of_lt_of_le a2 hF.size,a3,a4,a5,fun e=>?_⟩,fun e=>e.elim a3 a6⟩)
    rcases Et _ e with e|e
    · exact a6 e
    · omega
  · exact .inr ⟨g,hg,o,c,e1,e2,e3,e4,fun j u hj=>hF.aA (e5 j u hj) (YO g hg)⟩
 refine ⟨⟨row4 Hm,(hF.block _ Gf (fun e=>e.elim (fun e=>h.pb e.symm) h.xb)).trans h.buf,hF.owns h.own YO,?_,h1,h.pb,h.vp,h.vb,h.vs,fun e=>?_,fun e=>?_,fun q hq e=>?_,Nat.lt_of_lt_of_le h.sl hF.size,fun e he=>?_⟩,hF,Et⟩
 · rw[length_append,map_append]
   exact BP.owns Ot fun q hq e=>by
    rcases Et _ hq with e'|e'
    · exact h.xp (e▸e')
    · omega
 · rcases Et _ e with e|e
   · exact h.xp e
   · omega
 · rcases Et _ e with e|e
   · exact h.xb e
   · omega
 · rcases Et _ e with e|e
   · exact h.vx q hq e
   · have:=aO h.own hq;omega
 · refine KX e ?_
   rcases mem_append.1 he with he|he
   · exact (h.ent e he).imp id fun ⟨g,hg,o,c,e1,e2,e3,e4,e5⟩=>⟨g,hg,o,c,e1,e2,e3,by omega,e5⟩
   · rw[mem_singleton.1 he]
     exact hp
end lI
structure Two (lo:Nat) (w:World) (e:TypeId) (size:Nat) (rv vv:Value) (n:Nat) (xs ys:List Value):Prop where
 a:w.ownsRow 0 e size rv n xs
 b:w.ownsRow 0 e size vv n ys
 la:∀ k,rv.ownBlock=some k→lo≤k
 lb:∀ k,vv.ownBlock=some k→lo≤k
 ne:∀ k,rv.ownBlock=some k→vv.ownBlock≠some k
theorem Two.swap {lo:Nat} {w:World} {e:TypeId} {size:Nat} {rv vv:Value} {n:Nat} {xs ys:List Value} (h:Two lo w e size rv vv n xs ys):Two lo w e size vv rv n ys xs :=
 ⟨h.b,h.a,h.lb,h.la,fun k h1 h2=>h.ne k h2 h1⟩
theorem Two.fr {lo:Nat} {w w':World} {e:TypeId} {size:Nat} {rv vv:Value} {n:Nat} {xs ys:List Value} {S:Nat→Prop} (h:Two lo w e size rv vv n xs ys) (hf:Fr S w w') (hS:∀ k,lo≤k→¬ S k):Two lo w' e size rv vv n xs ys :=
 ⟨hf.owns h.a (fun k hk=>hS k (h.la k hk)),hf.owns h.b (fun k hk=>hS k (h.lb k hk)),h.la,h.lb,h.ne⟩
section
variable {lo:Nat} {w0 u1 u2 u3 u4:World} {e:TypeId} {size:Nat} {rv vv rv' vv':Value} {n m:Nat} {xs ys xs' ys':List Value}
theorem Two.first (h0:Two lo w0 e size rv vv n xs ys) (f1:F0 w0 u1):u1.ownsRow 0 e size rv n xs:=f1.owns h0.a (fun _ _ h=>h)
theorem Two.done (AC:lo≤w0.heap.size) (h0:Two lo w0 e size rv vv n xs ys) (f1:F0 w0 u1) (ha:dE u1 u2 e size rv rv' m xs') (f2:F0 u2 u3) (hb:dE u3 u4 e size vv vv' m ys') :
 Two lo u4 e size rv' vv' m xs' ys'∧Fr (fun k=>rv.ownBlock=some k∨vv.ownBlock=some k) w0 u4:=by
 have s1:=f1.size;have s2:=ha.2.1.size;have s3:=f2.size
 have Ri:∀ k,rv'.ownBlock=some k→rv.ownBlock=some k∨k=u1.heap.size:=fun k hk=>by
  rcases ha.2.2 with h|⟨h,-⟩
  · exact .inl (by rw[← h];exact hk)
  · rw[h] at hk;simp only[Option.some.injEq] at hk;exact .inr hk.symm
 have YQ:∀ k,vv'.ownBlock=some k→vv.ownBlock=some k∨k=u3.heap.size:=fun k hk=>by
  rcases hb.2.2 with h|⟨h,-⟩
  · exact .inl (by rw[← h];exact hk)
  · rw[h] at hk;simp only[Option.some.injEq] at hk;exact .inr hk.symm
 have X8:∀ k,rv.ownBlock=some k→k<w0.heap.size:=fun k hk=>aO h0.a hk
 have FO:∀ k,vv.ownBlock=some k→k<w0.heap.size:=fun k hk=>aO h0.b hk
 have X5:∀ k,rv'.ownBlock=some k→k<u2.heap.size:=fun k hk=>aO ha.1 hk
 refine ⟨⟨(Fr.gX hb.2.1).owns (f2.owns ha.1 (fun _ _ h=>h)) (fun k hk h=>?_),hb.1,fun k hk=>?_,fun k hk=>?_,fun k hk h=>?_⟩,?_⟩
 · rcases Ri k hk with h1|h1
   · exact h0.ne k h1 h
   · have:=FO k h;omega
 · rcases Ri k hk with h1|h1
   · exact h0.la k h1
   · omega
 · rcases YQ k hk with h1|h1
   · exact h0.lb k h1
   · omega
 · rcases Ri k hk with h1|h1<;>rcases YQ k h with h2|h2
   · exact h0.ne k h1 h2
   · have:=X8 k h1;omega
   · have:=FO k h2;omega
   · have:=X5 k hk;omega
 · exact (((f1.mono (fun _ _ h=>h.elim)).grown ha.2.1 (fun k hk=>.inl (.inl hk))).trans (f2.mono (fun _ _ h=>h.elim)) (fun _ _ h=>h)).grown hb.2.1 (fun k hk=>.inl (.inr hk))
def bD (w:World) (k:Nat) (xs:List Value):Prop:=∀ j u,xs[j]?=some u→w.cell? ((⟨k,0,none⟩:Addr).add j)=some u
theorem bD.fr {w w':World} {k:Nat} {xs:List Value} {S:Nat→Prop} (h:bD w k xs) (hf:Fr S w w') (hk:¬ S k):bD w' k xs:=fun j u hj=>hf.aA (h j u hj) (by rw[Addr.add_lit];exact hk)
theorem bD.new {w:World} {k:Nat} (xs:List Value) (t:TypeId) (hk:k=w.heap.size):bD (w.alloc (.cells xs.toArray t)) k xs:=by
 subst hk
 exact bG w xs t
theorem bD.drew {w:World} {k:Nat} {xs:List Value} (h:bD w k xs):bD w.drew k xs:=h
theorem bD.eight {w:World} {k:Nat} {a b c d e f g h:Value} (hc:bD w k [a,b,c,d,e,f,g,h]):w.cell? ⟨k,0,none⟩=some a∧w.cell? ⟨k,1,none⟩=some b∧w.cell? ⟨k,2,none⟩=some c∧w.cell? ⟨k,3,none⟩=some d∧w.cell? ⟨k,4,none⟩=some e∧w.cell? ⟨k,5,none⟩=some f∧w.cell? ⟨k,6,none⟩=some g∧w.cell? ⟨k,7,none⟩=some h:=by
 have H:=fun j u hj=>(congrArg w.cell? (Addr.add_lit k 0 j)).symm.trans (hc j u hj)
 simp only[Nat.zero_add] at H
 exact ⟨H 0 _ rfl,H 1 _ rfl,H 2 _ rfl,H 3 _ rfl,H 4 _ rfl,H 5 _ rfl,H 6 _ rfl,H 7 _ rfl⟩
theorem bD.of_block {w:World} {k:Nat} {xs:List Value} {t:TypeId} {p:Nat × Nat} (h:w.heap[k]?=some (.cells xs.toArray t p)):bD w k xs:=fun j u hj=>by
 rw[Addr.add_lit,cell_of_row _ _ _ _ _ _ h]
 simpa using hj
end
theorem qE:ElT Tryz.prog 176 22 (.slice none 0 0) 1 24:=⟨underlying176,info_parts (by kernel_rfl),rfl⟩
theorem aHe {conn:Value} {ps:Nat} {w:World} {pw b:Nat} {v vv:Value} {off:Nat} {bs:List UInt8} {es:List (Value × List UInt8)} (h:lI conn ps w pw b v vv off bs es) (Gf:bs.length≤1099511627776) (FB:es.length≤1000000000) :
 Calls Tryz.prog 52 #[.pointer (some ⟨pw,0,none⟩)] w fun e w'=>e=.returned (.tuple #[])∧∃ vv' es',lI conn ps w' pw b v vv' bs.length bs es'∧es'.flatMap (·.2)=es.flatMap (·.2)++bs.drop off∧es'.length≤es.length+1 ∧
  Fr (fun q=>q=pw∨vv.ownBlock=some q) w w'∧∀ q,vv'.ownBlock=some q→vv.ownBlock=some q∨w.heap.size≤q:=by
 have Aa:=h.own;obtain ⟨a0,c0,rfl⟩:=ownsRow_shape h.own;obtain ⟨a1,c1,rfl⟩:=ownsRow_shape h.vec;have Gl:=h.le;have Ag:=h.row;have r0:w.cell? ⟨pw,0,none⟩=some conn:=crw Ag rfl;have r1:w.cell? ⟨pw,1,none⟩=some (.pointer (some ⟨b,0,none⟩)):=crw Ag rfl;have r2:w.cell? ⟨pw,2,none⟩=some (.int .i64 off):=crw Ag rfl;have r4:w.cell? ⟨pw,4,none⟩=some (.slice a1 es.length c1):=crw Ag rfl;have z2:=fzj 2 Ag;have z4:=fzj 4 Ag;obtain ⟨Ac,BH⟩:=aJ.cell h.buf;obtain ⟨n,hn⟩:∃ n,Hid (bs.length=n):=⟨_,Lib.hid rfl⟩;rcases Aa.2 with ⟨hv,hx⟩|⟨g,cap,cur,hv,_,hg,BF,AP,_,_⟩
 · simp only[Value.slice.injEq] at hv
   obtain ⟨rfl,h0,rfl⟩:=hv;have Vg:bs=[]:=eq_nil_of_length_eq_zero h0;subst Vg;have ho:off=0:=by simpa using Gl
   subst ho;simp only[length_nil] at Ac;go_enter func52,ntmps52
   go_wp2_with fail
   go_quiet (fail)
   go_wp2
   try simp only[Exit.inBlock,Exit.then]
   refine bodyPost_ret (results_none rfl _ _ _) rfl ?_
   exact ⟨rfl,_,es,h.quiet ((Fr.refl _ w).drewN _),by simp,by omega,((Fr.refl (fun q=>q=pw∨(Value.slice a1 es.length c1).ownBlock=some q) w).drewN _),fun q hq=>.inl hq⟩
 · simp only[Value.slice.injEq] at hv
   obtain ⟨rfl,_,rfl⟩:=hv;unfold maxLen at AP;have Xf:(off:Int)≤bs.length:=by omega
   rw[hn.out] at Ac Gl Xf BF Gf
   by_cases DK:off=n
   · subst DK
     go_enter func52,ntmps52
     go_wp2_with fail
     go_quiet (fail)
     go_wp2
     try simp only[Exit.inBlock,Exit.then]
     refine bodyPost_ret (results_none rfl _ _ _) rfl ?_
     have hq:=fun k=>h.quiet ((Fr.refl (fun _=>False) w).drewN k)
     rw[hn.out] at hq ⊢
     exact ⟨rfl,_,es,hq _,by rw[drop_of_length_le (by rw[hn.out];exact Nat.le_refl _),append_nil],by omega,((Fr.refl (fun q=>q=pw∨(Value.slice a1 es.length c1).ownBlock=some q) w).drewN _),fun q hq=>.inl hq⟩
   · have Qc:(off:Int)<n:=by omega
     have qh:¬ ((n - off:Nat):Int)=0:=by omega
     have XX:∀ k,Fr (fun q=>q=pw) w ((w.drewN k).setCell ⟨pw,2,none⟩ (.int .i64 n)):=fun k=>((Fr.refl (fun q=>q=pw) w).drewN k).setCell (.inl rfl) _
     have XM:=fun k=>(XX k).owns h.vec (fun q hq e=>h.xp (e▸hq))
     have UR:=h.xp;have hH:=Lib.hid h;have Vz:=Lib.hid Ag;have Ko:=Lib.hid Aa;clear h Ag Aa;go_enter func52,ntmps52
     go_wp2_with fail
     go_quiet (fail)
     go_wp2_with ((with_reducible show wpList _ _ _ (⟨some 40,_,_,_,_,_⟩ :: _) _ _);(refine aP _ rfl qE _ _ rfl _ _ _ rfl ((XM _).alloc _) _ _ _ rfl (Src.ofSlice _ underlying176 _ _ _ _ rfl (bD.new [.slice (some ⟨g,off,none⟩) (n - off) (n - off)] _ (by simp)) (by simp[Value.oneCell'])) ?_ ?_ ?_);(unfold maxLen;omega);omega;intro v' w4 ha;obtain ⟨a',c',rfl⟩:=ha.shape;have hr4:=((Fr.gX ha.2.1).block pw (by have:=aC Vz.out;simp;omega) (fun e=>UR e)).trans ((Below.heap_alloc _ _ _ (by have:=aC Vz.out;simp;omega)).trans (lI.aPy Vz.out));have q4:=(cell_of_row _ _ 4 _ _ _ hr4);have y4:=fzj 4 hr4)
     go_end0;have NS:∀ j u,(aN (bs.drop off))[j]?=some u→w.cell? ⟨g,off+j,none⟩=some u:=fun j u hj=>kS Ko.out rfl (by unfold aN at hj ⊢;rw[map_drop,getElem?_drop] at hj;exact hj)
     obtain ⟨h1,h2,h3⟩:=hH.out.push (l:=bs.drop off) (by rw[hn.out];exact Gl) (Nat.le_refl _) (XX _) (by rw[hn.out];exact lI.aPy Vz.out) ha (.inr ⟨g,rfl,off,n - off,by rw[length_drop,hn.out],by rw[length_drop,hn.out];exact Nat.le_refl _,by unfold maxLen;omega,by rw[length_drop,hn.out];omega,NS⟩)
     exact ⟨rfl,_,_,h1,by rw[flatMap_append,flatMap_singleton],by simp,h2,h3⟩
theorem aAV {w:World} {pw b:Nat} {cb:Value} {Q:World→Prop} (r1:w.cell? ⟨pw,1,none⟩=some (.pointer (some ⟨b,0,none⟩))) (NS:bM Tryz.prog cb #[.pointer (some ⟨b,0,none⟩)] w fun e w'=>e=.returned (.tuple #[])∧Q w') :
 Calls Tryz.prog 176 #[.pointer (some ⟨pw,0,none⟩),cb] w fun e w'=>e=.returned (.tuple #[])∧Q w':=by
 go_enter func176,ntmps176
 go_wp2_with ((with_reducible show wpList _ _ _ (⟨some 9,_,_,_,_,_⟩ :: _) _ _);refine dG _ rfl _ _ _ rfl cb _ rfl NS rfl ?_;rintro e w' ⟨rfl,hq⟩;refine ⟨_,rfl,?_⟩)
 go_end0
 exact ⟨rfl,hq⟩
theorem aEH {conn:Value} {ps:Nat} {w:World} {pw b:Nat} {v vv:Value} {off:Nat} {bs l:List UInt8} {es:List (Value × List UInt8)} (h:lI conn ps w pw b v vv off bs es) (Gf:bs.length≤1099511627776) (FB:es.length≤1000000000) {data:Value}
 (hd:Ent (fun q=>q≠ps∧q<w.heap.size∧q≠pw∧q≠b∧v.ownBlock≠some q∧vv.ownBlock≠some q) w data l) :
 Calls Tryz.prog 199 #[.pointer (some ⟨pw,0,none⟩),data] w fun e w'=>e=.returned (.tuple #[])∧∃ vv' es',lI conn ps w' pw b v vv' bs.length bs es'∧es'.flatMap (·.2)=es.flatMap (·.2)++bs.drop off++l∧es'.length≤es.length+2 ∧
  Fr (fun q=>q=pw∨vv.ownBlock=some q) w w'∧∀ q,vv'.ownBlock=some q→vv.ownBlock=some q∨w.heap.size≤q:=by
 obtain ⟨da,dc,rfl,-⟩:=id hd;go_enter func199,ntmps199
 go_wp2_with (first
  | (go_at_call 52;refine (aHe h Gf FB).mono ?_;rintro e w1 ⟨rfl,vv1,es1,h1,WH,Vt,Ad,Et⟩;obtain ⟨a1,c1,rfl⟩:=ownsRow_shape h1.vec;have g4:w1.cell? ⟨pw,4,none⟩=some (.slice a1 es1.length c1):=(cell_of_row _ _ 4 _ _ _ h1.row).trans rfl;have CG:=Lib.hid h1;clear h1)
  | ((with_reducible show wpList _ _ _ (⟨some 13,_,_,_,_,_⟩ :: _) _ _);(refine aP _ rfl qE _ _ rfl _ _ _ rfl (CG.out.vec.alloc _) _ _ _ rfl (Src.ofSlice _ underlying176 _ _ _ _ rfl (bD.new [.slice da l.length dc] _ (by simp)) (by simp[Value.oneCell'])) ?_ ?_ ?_);(unfold maxLen;omega);omega;intro v' w4 ha;obtain ⟨a',c',rfl⟩:=ha.shape;have hr4:=((Fr.gX ha.2.1).block pw (by have:=aC CG.out.row;simp;omega) (fun e=>CG.out.xp e)).trans ((Below.heap_alloc _ _ _ (aC CG.out.row)).trans CG.out.row);have q4:=(cell_of_row _ _ 4 _ _ _ hr4).trans rfl;have y4:=fzj 4 hr4))
 go_end0;have KF:=hd.to (S':=fun q=>q≠ps∧q<w1.heap.size∧q≠pw∧q≠b∧v.ownBlock≠some q∧(Value.slice a1 es1.length c1).ownBlock≠some q) Ad fun q ⟨a1,a2,a3,a4,a5,a6⟩=>⟨⟨a1,Nat.lt_of_lt_of_le a2 Ad.size,a3,a4,a5,fun e=>(Et q e).elim a6 (fun e=>by omega)⟩,fun e=>e.elim a3 a6⟩
 obtain ⟨h1,h2,h3⟩:=CG.out.push (l:=l) (Nat.le_refl _) (Nat.le_refl _) (Fr.refl _ _) CG.out.row ha (.inl KF);have BN:=Ad.size
 exact ⟨rfl,_,_,h1,by rw[flatMap_append,flatMap_singleton,WH],by simp;omega,Ad.trans h2 (fun q hq e=>e.imp id fun e=>(Et q e).resolve_right (by omega)),fun q hq=>(h3 q hq).elim (Et q) (fun e=>.inr (by omega))⟩
theorem bM.bound {P:Program} {k:FuncId} {x y:Value} {w:World} {R:Ending→World→Prop} (hk:∀ (args:Array Value) (w:World),(callFunc k args).run P w=.ok (.enter k args) w)
 (h:Calls P k #[x,y] w R):bM P (.func (.func k) #[x] #[]) #[y] w R :=
 ⟨{ target:=.fn (.func k) #[],args:=#[x]++#[y]},k,#[x,y]++#[],rfl,by simp[invoke,hk],by simpa using h⟩
def eG (conn:Value) (ps pw:Nat) (w:World) (fw:Nat→Prop) (n:Nat) (out:List UInt8):Prop :=
 ∃ b v vv off bs es,lI conn ps w pw b v vv off bs es∧(∀ k,fw k↔k=pw∨k=b∨v.ownBlock=some k∨vv.ownBlock=some k)∧out=es.flatMap (·.2)++bs.drop off∧es.length≤n∧bs.length≤out.length
theorem eG.lt {conn:Value} {ps pw:Nat} {w:World} {fw:Nat→Prop} {n:Nat} {out:List UInt8} (h:eG conn ps pw w fw n out):∀ k,fw k→k<w.heap.size:=by
 obtain ⟨b,v,vv,off,bs,es,hw,Cb,_⟩:=h;intro k hk;rcases (Cb k).1 hk with rfl|rfl|hk|hk
 · exact aC hw.row
 · exact aC hw.buf
 · exact aO hw.own hk
 · exact aO hw.vec hk
theorem eG.chain {conn:Value} {ps pw:Nat} {w:World} {fw:Nat→Prop} {n:Nat} {out l:List UInt8} {cb:Value} (h:eG conn ps pw w fw n out)
 (NS:∀ b fb bs,Buf w b fb bs→(∀ k,fb k→fw k)→bs.length≤out.length→bM Tryz.prog cb #[.pointer (some ⟨b,0,none⟩)] w fun e w'=>e=.returned (.tuple #[])∧Fr fb w w'∧∃ fb',Buf w' b fb' (bs++l)∧Grow w fb fb'∧Kept w w' b bs.length) :
 Calls Tryz.prog 176 #[.pointer (some ⟨pw,0,none⟩),cb] w fun e w'=>e=.returned (.tuple #[])∧Fr fw w w'∧∃ fw',eG conn ps pw w' fw' n (out++l)∧Grow w fw fw':=by
 obtain ⟨b,v,vv,off,bs,es,hw,Cb,rfl,hn,hl⟩:=h
 refine (aAV ((cell_of_row _ _ 1 _ _ _ hw.row).trans rfl) (NS b (fun k=>k=b∨v.ownBlock=some k) bs ⟨v,hw.buf,hw.own,hw.vb,fun k=>Iff.rfl⟩ (fun k hk=>(Cb k).2 (hk.elim (fun e=>.inr (.inl e)) (fun e=>.inr (.inr (.inl e))))) hl)).mono ?_
 rintro e w' ⟨rfl,hf,fb',⟨v',Ei,Qb,Eb,BC⟩,hg,hk⟩
 refine ⟨rfl,hf.mono fun k _ h=>(Cb k).2 (h.elim (fun e=>.inr (.inl e)) fun e=>.inr (.inr (.inl e))),fun k=>k=pw∨k=b∨v'.ownBlock=some k∨vv.ownBlock=some k,
  ⟨b,v',vv,off,bs++l,es,hw.buffer (fun _ h=>h) hf Ei Qb Eb (fun k h=>(BC k).2 (.inr h)) hg hk,fun k=>Iff.rfl,by rw[drop_append_of_le_length hw.le,append_assoc],hn,by simp only[length_append] at hl ⊢;omega⟩,fun k hk=>?_⟩
 rcases hk with rfl|rfl|hk|hk
 · exact .inl ((Cb _).2 (.inl rfl))
 · exact .inl ((Cb _).2 (.inr (.inl rfl)))
 · rcases hg k ((BC k).2 (.inr hk)) with e|e
   · exact .inl ((Cb k).2 (e.elim (fun e=>.inr (.inl e)) fun e=>.inr (.inr (.inl e))))
   · exact .inr e
 · exact .inl ((Cb k).2 (.inr (.inr (.inr hk))))
theorem eG.write {conn:Value} {ps pw:Nat} {w:World} {fw:Nat→Prop} {n:Nat} {out l:List UInt8} {data:Value} (h:eG conn ps pw w fw n out) (KQ:out.length≤1099511627776) (hn:n≤1000000000) (hd:Ent (fun q=>q≠ps∧q<w.heap.size∧¬ fw q) w data l) :
 Calls Tryz.prog 199 #[.pointer (some ⟨pw,0,none⟩),data] w fun e w'=>e=.returned (.tuple #[])∧Fr fw w w'∧∃ fw',eG conn ps pw w' fw' (n+2) (out++l)∧Grow w fw fw':=by
 obtain ⟨b,v,vv,off,bs,es,hw,Cb,rfl,Am,hl⟩:=h
 refine (aEH hw (by omega) (by omega) (hd.mono fun q ⟨a1,a2,a3⟩=>⟨a1,a2,fun e=>a3 ((Cb q).2 (.inl e)),fun e=>a3 ((Cb q).2 (.inr (.inl e))),fun e=>a3 ((Cb q).2 (.inr (.inr (.inl e)))),fun e=>a3 ((Cb q).2 (.inr (.inr (.inr e))))⟩)).mono ?_
 rintro e w' ⟨rfl,vv',es',h1,h2,h3,h4,h5⟩
 refine ⟨rfl,h4.mono fun k _ h=>(Cb k).2 (h.elim .inl fun e=>.inr (.inr (.inr e))),fun k=>k=pw∨k=b∨v.ownBlock=some k∨vv'.ownBlock=some k,⟨b,v,vv',bs.length,bs,es',h1,fun k=>Iff.rfl,by rw[h2,drop_length,append_nil],by omega,by rw[length_append];omega⟩,fun k hk=>?_⟩;rcases hk with rfl|rfl|hk|hk
 · exact .inl ((Cb _).2 (.inl rfl))
 · exact .inl ((Cb _).2 (.inr (.inl rfl)))
 · exact .inl ((Cb k).2 (.inr (.inr (.inl hk))))
 · rcases h5 k hk with e|e
   · exact .inl ((Cb k).2 (.inr (.inr (.inr e))))
   · exact .inr e
theorem Ent.own {S:Nat→Prop} {w:World} {e:TypeId} {v:Value} {l:List UInt8} (h:w.ownsRow 0 e 1 v l.length (aN l)) (hS:∀ g,v.ownBlock=some g→S g):Ent S w v l:=by
 rcases h.2 with ⟨hv,hx⟩|⟨ga,capa,cura,hv,_,h2,h3,h4,_⟩
 · have hl:l=[]:=eq_nil_of_length_eq_zero hx
   subst hl
   exact ⟨none,0,hv,Nat.le_refl _,Nat.zero_le _,fun _=>rfl,nofun⟩
 · refine ⟨_,_,hv,h3,h4,nofun,fun ad D9=>?_⟩
   simp only[Option.some.injEq] at D9;subst D9 hv
   exact ⟨hS ga rfl,rfl,fun j u hj=>by rw[Addr.add_lit,Nat.zero_add];exact kS h rfl hj⟩
theorem wrap64_small {n:Nat} (h:n<9223372036854775808):wrap64 (n:Int)=n:=by rw[wrap64];omega
theorem lL (S:Nat→Prop) (w:World) {c:Cell} (h:c.small):bZ S w c.keyed [.int .u64 c.r0,.int .u64 c.r1,.int .u64 c.r2,.int .u64 c.r3,.string c.s,.bool false,.slice none 0 0,.slice none 0 0]:=by
 obtain ⟨h0,h1,h2,h3,h4⟩:=h;unfold Cell.keyed bZ
 exact ⟨_,_,[],[],rfl,h0,h1,h2,h3,h4,mD S w 8,bK.nil,mD S w 8,bK.nil⟩
theorem aLV (S:Nat→Prop) (w:World):bZ S w (.mk 0 0 0 0 ⟨#[]⟩ true [] []) [.int .u64 0,.int .u64 0,.int .u64 0,.int .u64 0,.string ⟨#[]⟩,.bool true,.slice none 0 0,.slice none 0 0]:=by
 unfold bZ
 exact ⟨_,_,[],[],rfl,by decide,by decide,by decide,by decide,by decide,mD S w 8,bK.nil,mD S w 8,bK.nil⟩
theorem uI {w0 w:World} {v kv:Value} {ds ks:List Cell} {xs kxs:List Value} {S:Nat→Prop} (h:bU w0.heap.size w v kv ds ks xs kxs S):bZ (New w0 w) w (.mk 0 0 0 0 ⟨#[]⟩ false ds ks) [.int .u64 0,.int .u64 0,.int .u64 0,.int .u64 0,.string ⟨#[]⟩,.bool false,v,kv]:=by
 unfold bZ
 exact ⟨_,_,xs,kxs,rfl,by decide,by decide,by decide,by decide,by decide,lD h.oi fun q hq=>⟨h.li q hq,aO h.oi hq⟩,h.ci.mono fun q hq=>⟨(h.hS q hq).1,(h.hS q hq).2.1⟩,lD h.ok fun q hq=>⟨h.lk q hq,aO h.ok hq⟩,h.ck.mono fun q hq=>⟨(h.hS q hq).1,(h.hS q hq).2.1⟩⟩
mutual
def Made:Ty→Cell→Prop
 | .num k,c=>∃ r0 r1 r2 r3,c=.mk r0 r1 r2 r3 ⟨#[]⟩ false [] []∧r0+18446744073709551616*(r1+18446744073709551616*(r2+18446744073709551616*r3))<256 ^ k.size
 | .str,c=>∃ s,c=.mk 0 0 0 0 s false [] []
 | .fix n,c=>∃ s,c=.mk 0 0 0 0 s false [] []∧s.size=n
 | .nul t,c=>c=.mk 0 0 0 0 ⟨#[]⟩ true [] []∨(c.null=false∧Made t c)
 | .low,c=>∃ s,c=.mk 0 0 0 0 s false [] []
 | .arr t,c=>∃ is,c=.mk 0 0 0 0 ⟨#[]⟩ false is []∧∀ x∈is,Made t x
 | .map k v,c=>∃ is ks,c=.mk 0 0 0 0 ⟨#[]⟩ false is ks∧is.length=ks.length∧(∀ x∈ks,Made k x)∧∀ x∈is,Made v x
 | .tup ts,c=>∃ is,c=.mk 0 0 0 0 ⟨#[]⟩ false is []∧aAT ts is
def aAT:List Ty→List Cell→Prop
 | [],cs=>cs=[]
 | t :: ts,cs=>∃ d ds,cs=d :: ds∧Made t d∧aAT ts ds
end
mutual
def pcs:Ty→Nat
 | .num _=>2|.str=>2|.fix _=>2|.low=>4
 | .nul t=>2+pcs t|.arr t=>2+pcs t|.map k v=>2+pcs k+pcs v|.tup ts=>oJ ts
def oJ:List Ty→Nat
 | []=>0
 | t :: ts=>pcs t+oJ ts
end
theorem eG.more {conn:Value} {ps pw:Nat} {w:World} {fw:Nat→Prop} {n m:Nat} {out:List UInt8} (h:eG conn ps pw w fw n out) (hm:n≤m):eG conn ps pw w fw m out:=by
 obtain ⟨b,v,vv,off,bs,es,h1,h2,h3,h4,h5⟩:=h
 exact ⟨b,v,vv,off,bs,es,h1,h2,h3,Nat.le_trans h4 hm,h5⟩
def iR (conn:Value) (ps pw:Nat) (w:World) (fw:Nat→Prop) (n:Nat) (out:List UInt8) (e:Ending) (w':World):Prop :=
 e=.returned (.tuple #[])∧Fr fw w w'∧∃ fw',eG conn ps pw w' fw' n out∧Grow w fw fw'
structure ColW (P:Program) (t:TypeId) (u:Value) (T:Ty) (R Rp:World→(Nat→Prop)→List Cell→Prop):Prop where
 write:∀ {conn ps pw w fp σ fw n out},Rp w fp σ→Wt T σ≤2147483648→eG conn ps pw w fw n out→(∀ k,fp k→¬ fw k∧k≠ps)→out.length+(enc T σ).length≤1099511627776→n+pcs T≤1000000000 →
  aF P (.iface t u) "WriteColumn" #[.pointer (some ⟨pw,0,none⟩)] w (iR conn ps pw w fw (n+pcs T) (out++enc T σ))
 row:∀ {w fp σ} {k:Nat} (hk:k<σ.length),R w fp σ→Wt T σ≤2147483648→aF P (.iface t u) "Row" #[.int .i64 k] w fun e w'=>∃ c xs,e=.returned (.agg xs.toArray)∧F0 w w'∧bZ (New w w') w' c xs∧(Made T σ[k]→c=σ[k])
section
variable {P:Program} {tc te tl:TypeId} {size:Nat} {cellsOf:Cell→List Value} {inF outF:Value} {B p nb:Nat} {u:Value} {T:Ty}
structure fU (P:Program) (tc te tl:TypeId) (size:Nat) (cellsOf:Cell→List Value) (outF:Value) (p nb:Nat) (u:Value) (T:Ty):Prop where
 write:∀ {conn ps pw w fw n out a c} {cs:List Cell},w.cell? ⟨p,0,none⟩=some (.slice a cs.length c)→w.ownsRow 0 te size (.slice a cs.length c) cs.length (cs.flatMap cellsOf)→(∀ c∈cs,c.small)→eG conn ps pw w fw n out →
  (∀ k,(Value.slice a cs.length c).ownBlock=some k→¬ fw k∧k≠ps)→out.length+(enc T cs).length≤1099511627776→n≤1000000000 →
  aF P (.iface tl u) "WriteColumn" #[.pointer (some ⟨pw,0,none⟩)] w (iR conn ps pw w fw (n+pcs T) (out++enc T cs))
 row:∀ {w a c} {k:Nat} {cs:List Cell} (hk:k<cs.length),w.cell? ⟨p,0,none⟩=some (.slice a cs.length c)→w.ownsRow 0 te size (.slice a cs.length c) cs.length (cs.flatMap cellsOf)→(∀ c∈cs,c.small)→w.cell? ⟨nb,2,none⟩=some outF →
  aF P (.iface tl u) "Row" #[.int .i64 k] w fun e w'=>∃ d:Cell,d.small∧e=.returned (.agg #[.int .u64 d.r0,.int .u64 d.r1,.int .u64 d.r2,.int .u64 d.r3,.string d.s,.bool false,.slice none 0 0,.slice none 0 0])∧F0 w w'∧(Made T cs[k]→d.keyed=cs[k])
theorem fU.col (L:fU P tc te tl size cellsOf outF p nb u T):ColW P tl u T (gZ tc te size cellsOf inF outF B p nb) (gZ tc te size cellsOf inF outF B p nb) where
 write:=by
  intro conn ps pw w fp σ fw n out h hw CY hd hl hn;obtain ⟨fp0,⟨v,hp,Aa,Eb,FV⟩,Em,Aj,hB,Am,CE⟩:=h;obtain ⟨a,c,rfl⟩:=ownsRow_shape Aa
  exact L.write (aJ.cell hp).1 Aa CE CY (fun k hk=>hd k ((Aj k).2 (.inl ((FV k).2 (.inr hk))))) hl (Nat.le_trans (Nat.le_add_right _ _) hn)
 row:=by
  intro w fp σ k hk h _;obtain ⟨fp0,⟨v,hp,Aa,Eb,FV⟩,Em,Aj,hB,Am,CE⟩:=h;obtain ⟨a,c,rfl⟩:=ownsRow_shape Aa
  refine (L.row hk (aJ.cell hp).1 Aa CE Em.2).mono ?_
  rintro e w' ⟨d,hd,rfl,Ak,hm⟩
  exact ⟨d.keyed,_,rfl,Ak,lL _ _ hd,hm⟩
end
theorem iO {k:Num} {c:Cell} {M x:Nat} (hM:256 ^ k.size=M) (h8:M≤18446744073709551616) (hx:x=c.r0 % M) (h:Made (.num k) c):(Cell.mk x 0 0 0 ⟨#[]⟩ false [] []).keyed=c:=by
 obtain ⟨r0,r1,r2,r3,rfl,hb⟩:=h;rw[hM] at hb;have mi:x=r0 % M:=hx;have e1:r1=0:=by omega
 have e2:r2=0:=by omega
 have e3:r3=0:=by omega
 rw[mi,Nat.mod_eq_of_lt (by omega),e1,e2,e3]
 rfl
theorem iF {x:Nat} (h:x<18446744073709551616):(Cell.mk x 0 0 0 ⟨#[]⟩ false [] []).small:=⟨h,Nat.zero_lt_succ _,Nat.zero_lt_succ _,Nat.zero_lt_succ _,Nat.zero_le _⟩
theorem aDC {k:Num} {c:Cell} (hM:256 ^ k.size=340282366920938463463374607431768211456) (h:Made (.num k) c):(Cell.mk c.r0 c.r1 0 0 ⟨#[]⟩ false [] []).keyed=c:=by
 obtain ⟨r0,r1,r2,r3,rfl,hb⟩:=h;rw[hM] at hb;have e2:r2=0:=by omega
 have e3:r3=0:=by omega
 rw[e2,e3]
 rfl
theorem aIP {k:Num} {c:Cell} (h:Made (.num k) c):(Cell.mk c.r0 c.r1 c.r2 c.r3 ⟨#[]⟩ false [] []).keyed=c:=by
 obtain ⟨r0,r1,r2,r3,rfl,hb⟩:=h
 rfl
theorem aEl (w:World) (a b c d:Int):Calls Tryz.prog 71 #[.agg #[.int .u64 a,.int .u64 b],.agg #[.int .u64 c,.int .u64 d]] w fun e w'=>e=.returned (.agg #[.int .u64 a,.int .u64 b,.int .u64 c,.int .u64 d])∧F0 w w':=by
 go_enter func71,ntmps71;go_wp2
 refine bodyPost_ret (by simp[results,results71,go_sem];try rfl) rfl ?_
 exact ⟨rfl,(((Fr.refl _ w).alloc _).alloc _).alloc _⟩
theorem eG.quiet {conn:Value} {ps pw:Nat} {w w':World} {fw:Nat→Prop} {n:Nat} {out:List UInt8} (h:eG conn ps pw w fw n out) (hf:F0 w w'):eG conn ps pw w' fw n out:=by
 obtain ⟨b,v,vv,off,bs,es,h1,h2⟩:=h
 exact ⟨b,v,vv,off,bs,es,h1.quiet hf,h2⟩
theorem iR.from {conn:Value} {ps pw:Nat} {w w' w1:World} {fw:Nat→Prop} {n:Nat} {out:List UInt8} {e:Ending} (hf:F0 w w') (h:iR conn ps pw w' fw n out e w1):iR conn ps pw w fw n out e w1:=by
 obtain ⟨h1,h2,fw',h3,h4⟩:=h
 exact ⟨h1,(hf.mono (fun _ _ h=>h.elim)).trans h2 (fun _ _ h=>h),fw',h3,fun k hk=>(h4 k hk).imp id (Nat.le_trans hf.size)⟩
theorem Fr.zF {w:World} {q:Nat} (x0 x1 x2 x3 x4 x5 x6 x7:Value):Fr (fun k=>k=q) w ((((((((w.setCell ⟨q,0,none⟩ x0).setCell ⟨q,1,none⟩ x1).setCell ⟨q,2,none⟩ x2).setCell ⟨q,3,none⟩ x3).setCell ⟨q,4,none⟩ x4).setCell ⟨q,5,none⟩ x5).setCell ⟨q,6,none⟩ x6).setCell ⟨q,7,none⟩ x7) :=
 ((((((((Fr.refl (fun k=>k=q) w).setCell (.inl rfl) _).setCell (.inl rfl) _).setCell (.inl rfl) _).setCell (.inl rfl) _).setCell (.inl rfl) _).setCell (.inl rfl) _).setCell (.inl rfl) _).setCell (.inl rfl) _
theorem Fr.aPA {w:World} {q:Nat} (x0 x1 x2 x3 x4 x5 x6 x7 x8:Value):Fr (fun k=>k=q) w (((((((((w.setCell ⟨q,0,none⟩ x0).setCell ⟨q,1,none⟩ x1).setCell ⟨q,2,none⟩ x2).setCell ⟨q,3,none⟩ x3).setCell ⟨q,4,none⟩ x4).setCell ⟨q,5,none⟩ x5).setCell ⟨q,6,none⟩ x6).setCell ⟨q,7,none⟩ x7).setCell ⟨q,8,none⟩ x8) :=
 (Fr.zF (w:=w) (q:=q) x0 x1 x2 x3 x4 x5 x6 x7).setCell (p:=⟨q,8,none⟩) (.inl rfl) x8
theorem New.fin {w W w1 w2 w3:World} {g:Nat} {c:Cell} {xs:List Value} (h:bZ (New W w1) w1 c xs) (h0:w.heap.size≤W.heap.size) (h1:F0 w w1) (h2:F0 w1 w2) (hg:g<W.heap.size) (I8:w.heap.size≤g) (h3:Fr (fun k=>k=g) w2 w3) :
 F0 w w3∧bZ (New w w3) w3 c xs :=
 ⟨(h1.trans h2 fun _ _ h=>h).trans h3 fun _ hq e=>Nat.lt_irrefl _ (Nat.lt_of_lt_of_le (e▸hq) I8),
   bZ.to ((h2.mono fun _ _ h=>h.elim).trans h3 fun _ _ h=>h) (fun _ hq=>⟨⟨Nat.le_trans h0 hq.1,Nat.lt_of_lt_of_le hq.2 (Nat.le_trans h2.size h3.size)⟩,fun e=>Nat.lt_irrefl _ (Nat.lt_of_lt_of_le (e▸hg) hq.1)⟩) _ _ h⟩
theorem lI.aPz {w:World} {q:Nat} {x0 x1 x2 x3 x4 x5 x6 x7 y:Value} {t:TypeId} (h:w.heap[q]?=some (.cells #[x0,x1,x2,x3,x4,x5,x6,x7] t (0,0))):(w.setCell ⟨q,6,none⟩ y).heap[q]?=some (.cells #[x0,x1,x2,x3,x4,x5,y,x7] t (0,0)):=by
 simp[World.setCell,Array.getElem?_modify,h]
structure pW (P:Program) (B:Nat) (t:TypeId) (u:Value) (T:Ty) (st:List UInt8) (R Rp:World→(Nat→Prop)→List Cell→Prop):Prop extends ColSpec P B t u T st R Rp,ColW P t u T R Rp
def dH (T:Ty) (st:List UInt8) (w:World) (e:Ending) (w':World):Prop :=
 ∃ t u R Rp fp,e=.returned (.iface t u)∧pW Tryz.prog w.heap.size t u T st R Rp∧R w' fp []∧Below w.heap.size w w'
theorem aCI (T:Ty) (st:List UInt8) (txt:ByteArray)
 (w:World) (Jt:∀ w',Below w.heap.size w w'→Calls Tryz.prog 23 #[.string txt] w' (dH T st w')) (σ:List Cell) (rv:Value) (xs:List Value) (hs:Sl w.heap.size w 8 rv σ.length xs) (hc:aI w.heap.size w σ xs) (EC:st.length≤2147483648) (hw:Wt T σ≤2147483648) (hl:(enc T σ).length≤1099511627776) :
 Calls Tryz.prog 10 #[.string txt,rv] w fun e w'=>∃ v1 v2,e=.returned (.tuple #[v1,v2,.bool true])∧Bytes w' v1 st∧Bytes w' v2 (enc T σ)∧Below w.heap.size w w':=by
 have CB:=hs;obtain ⟨Dy,ao,cap,rfl,BF,AP,h0,ha⟩:=hs;unfold maxLen at AP;clear ha h0 Dy
 go_enter_defers func10,ntmps10
 go_wp2_with (go_at_call 23;refine (Jt _ ((Below.refl _ w).alloc (Nat.le_refl _) _)).mono ?_;rintro e w1 ⟨t,u,R,Rp,fp,rfl,cs,hR,hb⟩;have cs:=cs.toColSpec)
 simp only[World.size_alloc] at hb cs;have JR:Below w.heap.size w w1:=((Below.refl _ w).alloc (Nat.le_refl _) _).trans (hb.mono (by omega))
 go_loopw [16] (fun i wr=>∃ (k:Nat) (fpk:Nat→Prop),k≤σ.length∧i=.int .i64 k∧R wr fpk (σ.take k)∧Below (w.heap.size+1) w1 wr) (fun i _=>σ.length - (intOf i).toNat)
 case atStart=>exact ⟨0,fp,Nat.zero_le _,rfl,by simpa using hR,Below.refl _ _⟩
 case round =>
  obtain ⟨k,fpk,hk,rfl,Dn,Dz⟩:=hrel;have Bf:Below w.heap.size w wr:=JR.trans (Dz.mono (by omega));have Nl:w.heap.size+1≤wr.heap.size:=by have:=Dz.size;have:=hb.size;simp at this;omega
  by_cases Ar:k<σ.length
  · obtain ⟨b,off,cap',hv,FT,vs,AQ,Ac⟩:=(CB.below Bf).row (aI.below Bf _ _ hc) Ar
    obtain ⟨r0,r1,r2,r3,s,null,ia,il,ic,ka,kl,kc,rfl⟩:=AQ.spelled;simp only[Value.slice.injEq] at hv;obtain ⟨rfl,_,rfl⟩:=hv;have c0:=Ac 0 _ rfl;have c1:=Ac 1 _ rfl;have c2:=Ac 2 _ rfl;have c3:=Ac 3 _ rfl;have c4:=Ac 4 _ rfl;have c5:=Ac 5 _ rfl;have c6:=Ac 6 _ rfl;have c7:=Ac 7 _ rfl;simp only[Nat.add_zero] at c0;clear Ac;have DX:wr.heap.size<(wr.alloc (.cells #[.int .u64 r0,.int .u64 r1,.int .u64 r2,.int .u64 r3,.string s,.bool null,.slice ia il ic,.slice ka kl kc] 35)).heap.size:=by simp
    have Sm:Below (w.heap.size+1) w1 (wr.alloc (.cells #[.int .u64 r0,.int .u64 r1,.int .u64 r2,.int .u64 r3,.string s,.bool null,.slice ia il ic,.slice ka kl kc] 35)):=Dz.alloc Nl _;have Ls:=cs.frame (w':=wr.alloc (.cells #[.int .u64 r0,.int .u64 r1,.int .u64 r2,.int .u64 r3,.string s,.bool null,.slice ia il ic,.slice ka kl kc] 35)) Dn (fun q hq=>Below.heap_alloc _ _ _ (cs.lo Dn q hq).2);have Pj:=(bP.below (B:=w.heap.size) (w':=wr.alloc (.cells #[.int .u64 r0,.int .u64 r1,.int .u64 r2,.int .u64 r3,.string s,.bool null,.slice ia il ic,.slice ka kl kc] 35)) ((Below.refl _ wr).alloc (by omega) _) _ _ AQ).mono (B':=w.heap.size+1) (by omega);have hi:=cs.append Ls Pj (Nat.le_trans (by rw[← take_succ_eq_append_getElem Ar];exact iV _ _) hw);have AC:=fun q hq=>(cs.lo Ls q hq).1
    clear Ls Pj AQ
    go_wp2_with ((with_reducible show wpList _ _ _ (⟨some 22,_,_,_,_,_⟩ :: _) _ _);refine aT _ rfl _ _ _ _ rfl _ _ rfl hi rfl ?_;rintro e w2 ⟨rfl,Ak,fp2,Ew,BJ⟩;refine ⟨_,rfl,?_⟩)
    go_roundw
    case rel=>exact ⟨k+1,fp2,by omega,by go_num,by rw[take_succ_eq_append_getElem Ar];exact Ew,Sm.trans (Ak.below (by omega) (fun q hq Tz=>by have:=AC q Tz;omega))⟩
    case measure=>simp[intOf];omega
  · have Bl:σ.take k=σ:=take_of_length_le (by omega)
    rw[Bl] at Dn;have VJ:=aOf cs wr fpk σ Dn EC Nl hw hl
    have GN:wr.cell? ⟨w.heap.size,0,none⟩=some (.bool false):=by
     rw[(hb.trans Dz).cell (p:=⟨w.heap.size,0,none⟩) (by simp)];simp
    have LY:wr.frozen? ⟨w.heap.size,0,none⟩=false:=by
     rw[(hb.trans Dz).frozen (p:=⟨w.heap.size,0,none⟩) (by simp)];simp
    clear CB hc
    go_wp2_with (go_at_call 24;refine VJ.mono ?_;rintro e w2 ⟨v1,v2,rfl,Eo,JM,Bj⟩;have SG:=(Bj.cell (p:=⟨w.heap.size,0,none⟩) (by simp)).trans GN;have DC:=(Bj.frozen (p:=⟨w.heap.size,0,none⟩) (by simp)).trans LY)
    have LC:=World.cell?_setCell_same w2 ⟨w.heap.size,0,none⟩ (.bool true) SG
    refine leaves_cons (f:=22) (args:=#[.pointer (some ⟨w.heap.size,0,none⟩)]) (by simp) (by simp[go_sem]) ?_
    refine (mY ⟨w.heap.size,0,none⟩ _).mono ?_
    rintro e u' w'' ⟨rfl,rfl,rfl⟩;have D8:Below w.heap.size w (w2.setCell ⟨w.heap.size,0,none⟩ (.bool true)):=((JR.trans (Dz.mono (by omega))).trans (Bj.mono (by omega))).setCell (by simp) _
    have hq:w2.heap[w.heap.size]?=some (.cells #[.bool false] 4 (0,0)):=by
     rw[Bj.block _ (by omega),Dz.block _ (by omega),hb.block _ (by omega)]
     exact heap_alloc_new _ _
    have XI:=Eo.setCell hq (by decide) (.bool true);have Np:=JM.setCell hq (by decide) (.bool true);simp[Leaves,settle,results,results10,go_sem,LC]
    exact ⟨_,_,⟨rfl,rfl⟩,XI,Np,D8⟩
end Go.Proofs.YtcidlnjpabgioaaGreatDoor
