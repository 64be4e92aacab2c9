import Derived.Test.YtcidlnjpabgioaaGreatDoorUGBase
import Derived.Lib.Hide
import Derived.Lib.EndianBits
import Derived.Stop.Asserts
set_option maxHeartbeats 4000000
set_option maxRecDepth 100000
namespace Go.Proofs.YtcidlnjpabgioaaGreatDoor
open Tryz List Go.RowKit
def aJ (w:World) (p:Nat) (tc e:TypeId) (size n:Nat) (xs:List Value) (fp:Nat→Prop):Prop :=
 ∃ v,w.heap[p]?=some (.cells #[v] tc (0,0))∧w.ownsRow 0 e size v n xs∧v.ownBlock≠some p∧∀ k,fp k↔k=p∨v.ownBlock=some k
theorem ownsRow_shape {w:World} {base:Nat} {e:TypeId} {size:Nat} {v:Value} {n:Nat} {xs:List Value} (h:w.ownsRow base e size v n xs):∃ a c,v=.slice a n c:=by
 rcases h.2 with ⟨rfl,rfl⟩|⟨g,cap,cur,rfl,_⟩
 · exact ⟨_,_,rfl⟩
 · exact ⟨_,_,rfl⟩
theorem aO {w:World} {base:Nat} {e:TypeId} {size:Nat} {v:Value} {n:Nat} {xs:List Value} (h:w.ownsRow base e size v n xs) {k:Nat} (hk:v.ownBlock=some k):k<w.heap.size:=(h.lt k hk).2
theorem dE.shape {w w':World} {e:TypeId} {size:Nat} {v v':Value} {n:Nat} {xs:List Value} (h:dE w w' e size v v' n xs):∃ a c,v'=.slice a n c:=ownsRow_shape h.1
theorem aC {w:World} {p:Nat} {o:Obj} (h:w.heap[p]?=some o):p<w.heap.size:=(Array.getElem?_eq_some_iff.1 h).1
theorem aAk {w:World} {p:Nat} {v:Value} {tc:TypeId} (h:w.heap[p]?=some (.cells #[v] tc (0,0))) (u:Value):(w.setCell ⟨p,0,none⟩ u).heap[p]?=some (.cells #[u] tc (0,0)):=by
 simp[World.setCell,Array.getElem?_modify,h]
theorem aJ.appended {w w0 w1:World} {p:Nat} {tc e:TypeId} {size n m:Nat} {xs ys:List Value} {fp:Nat→Prop} {v v':Value}
 (hp:w.heap[p]?=some (.cells #[v] tc (0,0))) (_hown:w.ownsRow 0 e size v n xs) (Am:v.ownBlock≠some p) (Aj:∀ k,fp k↔k=p∨v.ownBlock=some k)
 (h0:F0 w w0) (ha:dE w0 w1 e size v v' m ys) :
 (∃ fp',aJ (w1.setCell ⟨p,0,none⟩ v') p tc e size m ys fp'∧Grow w fp fp')∧Fr fp w (w1.setCell ⟨p,0,none⟩ v'):=by
 obtain ⟨h1,hg,h2⟩:=ha
 replace h2:=h2.imp id And.left
 have AZ:=aC hp;have II:=h0.size;have IP:w0.heap[p]?=some (.cells #[v] tc (0,0)):=(h0.block p AZ (fun h=>h)).trans hp;have DL:w1.heap[p]?=some (.cells #[v] tc (0,0)):=(hg.block p (by omega) (fun h=>Am h.symm)).trans IP
 have Eb:v'.ownBlock≠some p:=by
  rcases h2 with h2|h2<;>rw[h2]
  · exact Am
  · simp;omega
 refine ⟨⟨fun k=>k=p∨v'.ownBlock=some k,⟨v',aAk DL v',?_,Eb,fun k=>Iff.rfl⟩,?_⟩,?_⟩
 · exact ((Fr.refl (fun k=>k=p) w1).setCell (.inl rfl) v').owns h1 (fun k hk e=>Eb (by rw[hk,e]))
 · rintro k (rfl|hk)
   · exact .inl ((Aj k).2 (.inl rfl))
   · rcases h2 with h2|h2
     · exact .inl ((Aj k).2 (.inr (by rw[← h2,hk])))
     · rw[h2] at hk
       simp only[Option.some.injEq] at hk
       exact .inr (by omega)
 · exact ((h0.mono (fun k _ h=>h.elim)).grown hg (fun k hk=>.inl ((Aj k).2 (.inr hk)))).setCell (.inl ((Aj p).2 (.inl rfl))) v'
theorem aJ.cell {w:World} {p:Nat} {v:Value} {tc:TypeId} (hp:w.heap[p]?=some (.cells #[v] tc (0,0))):w.cell? ⟨p,0,none⟩=some v∧w.frozen? ⟨p,0,none⟩=false :=
 ⟨crw hp rfl,fzj _ hp⟩
theorem aJ.aW {w w':World} {p:Nat} {tc e:TypeId} {size n:Nat} {xs:List Value} {fp:Nat→Prop} (h:aJ w p tc e size n xs fp) (hk:∀ k,fp k→w'.heap[k]?=w.heap[k]?):aJ w' p tc e size n xs fp:=by
 obtain ⟨v,hp,Aa,Am,Aj⟩:=h
 refine ⟨v,(hk p ((Aj p).2 (.inl rfl))).trans hp,⟨Aa.1,?_⟩,Am,Aj⟩;rcases Aa.2 with h0|⟨g,cap,cur,rfl,hb,GX,rest⟩
 · exact .inl h0
 · exact .inr ⟨g,cap,cur,rfl,hb,(hk g ((Aj g).2 (.inr rfl))).trans GX,rest⟩
theorem aJ.lt {w:World} {p:Nat} {tc e:TypeId} {size n:Nat} {xs:List Value} {fp:Nat→Prop} (h:aJ w p tc e size n xs fp):∀ k,fp k→k<w.heap.size:=by
 obtain ⟨v,hp,Aa,Am,Aj⟩:=h;intro k hk;rcases (Aj k).1 hk with rfl|hk
 · exact aC hp
 · exact aO Aa hk
theorem aB {w:World} {c:Array Value} {t:TypeId} {n:Nat} (h:n=w.heap.size) (i:Nat):(w.alloc (.cells c t)).cell? ⟨n,i,none⟩=c[i]?:=by
 subst h
 exact World.cell?_alloc_new w c t i
theorem bG (w:World) (xs:List Value) (t:TypeId):∀ j u,xs[j]?=some u→(w.alloc (.cells xs.toArray t)).cell? ((⟨w.heap.size,0,none⟩:Addr).add j)=some u:=by
 intro j u hj;rw[Addr.add_lit,Nat.zero_add,World.cell?_alloc_new]
 simpa using hj
section
variable {P:Program} {w:World}
theorem aFP {n:Nat} {t:TypeId} {i:TypeInfo} {m:Method} {v:Value} {name:String} {f:FuncId} {pr:Bool} (hi:P.info? t=some i) (hm:i.methods.find? (·.name == name)=some m) (hp:m.path=#[]) (hf:m.func=some (f,pr))
 {r:Value} (hr:(receiverAt t (.val v) pr (some ((name.splitOn ".").getLastD name))).run P w=.ok r w):(method (n+1) t v name).run P w=.ok (f,r) w:=by
 have ht:(typeInfo t).run P w=.ok i w:=by simp[typeInfo,hi]
 unfold method;rw[Sem.run_bind,ht];simp only[Result.andThen_ok,hm,hp,toList_toArray,Sem.run_bind,follow,Sem.run_pure,hf,Array.isEmpty_empty,if_true,hr]
theorem aCj {n:Nat} {t:TypeId} {i:TypeInfo} {m:Method} {name:String} {s:TypeId} {fs:Array Field} {fd:Field} (hi:P.info? t=some i) (hm:i.methods.find? (·.name == name)=some m)
 (hp:m.path=#[{ struct:=s,index:=0,deref:=false}]) (hf:m.func=none) (hs:P.underlying s=some (.struct fs)) (OC:fs[0]?=some fd) (KH:fd.offset=0) (NE:∀ w,(isAgg fd.type).run P w=.ok false w)
 {cs:Array Value} {t':TypeId} {v':Value} (hc:cs[0]?=some (.iface t' v')):(method (n+1) t (.agg cs) name).run P w=(method n t' v' name).run P w:=by
 conv=>lhs;unfold method
 simp only[Sem.run_bind,typeInfo,run_program,Result.andThen_ok,hi,Sem.run_pure,hm,hp,follow,hf,run_underlying hs,OC,part,KH,hc,Place.get];simp[Sem.run_bind,NE]
theorem aCn {t:TypeId} {e:TypeId} {v:Value} {nm:Option String} (hu:P.underlying t=some (.pointer e)):(receiverAt t (.val v) true nm).run P w=.ok v w:=by
 simp[receiverAt,run_underlying hu,Place.get]
theorem aU {t:TypeId} {e:TypeId} {a:Addr} {r:Value} {nm:String} (hu:P.underlying t=some (.pointer e)) (hl:(loadVar e a).run P w=.ok r w):(receiverAt t (.val (.pointer (some a))) false (some nm)).run P w=.ok r w:=by
 have h0:Builtin.ssaWrapNilChk_ #[t] t #[.pointer (some a),strVal "",strVal nm]=pure (.pointer (some a)):=rfl;simp[receiverAt,run_underlying hu,Place.get,h0,asAddr,hl]
theorem dM {t:TypeId} {d:TypeDesc} {v:Value} {nm:Option String} (hu:P.underlying t=some d) (hd:(match d with|.pointer _=>false|_=>true)=true):(receiverAt t (.val v) false nm).run P w=.ok v w:=by
 unfold receiverAt;simp only[Sem.run_bind,run_underlying hu,Result.andThen_ok]
 cases d<;>simp_all[Place.get]
end
theorem aF.of {P:Program} {t:TypeId} {v r:Value} {name:String} {args:Array Value} {w:World} {R:Ending→World→Prop} {k:FuncId}
 (hm:(method (P.types.size+Made.depth) t v name).run P w=.ok (k,r) w)
 (hk:∀ (args:Array Value) (w:World),(callFunc k args).run P w=.ok (.enter k args) w) (h:Calls P k (#[r]++args) w R):aF P (.iface t v) name args w R :=
 ⟨k,_,by simp only[callMethod,Sem.run_bind,run_program,Result.andThen_ok,hm,hk],h⟩
theorem aF.of1 {P:Program} {t:TypeId} {v r x:Value} {name:String} {w:World} {R:Ending→World→Prop} {k:FuncId}
 (hm:(method (P.types.size+Made.depth) t v name).run P w=.ok (k,r) w)
 (hk:∀ (args:Array Value) (w:World),(callFunc k args).run P w=.ok (.enter k args) w) (h:Calls P k #[r,x] w R):aF P (.iface t v) name #[x] w R :=
 aF.of hm hk (by simpa using h)
theorem aF.of0 {P:Program} {t:TypeId} {v r:Value} {name:String} {w:World} {R:Ending→World→Prop} {k:FuncId}
 (hm:(method (P.types.size+Made.depth) t v name).run P w=.ok (k,r) w)
 (hk:∀ (args:Array Value) (w:World),(callFunc k args).run P w=.ok (.enter k args) w) (h:Calls P k #[r] w R):aF P (.iface t v) name #[] w R :=
 aF.of hm hk (by simpa using h)
theorem bM.func1 {P:Program} {k:FuncId} {x c:Value} {w:World} {R:Ending→World→Prop} (hk:∀ (args:Array Value) (w:World),(callFunc k args).run P w=.ok (.enter k args) w)
 (h:Calls P k #[x,c] w R):bM P (.func (.func k) #[] #[c]) #[x] w R:=bM.func hk (by simpa using h)
theorem bM.func0 {P:Program} {k:FuncId} {x:Value} {w:World} {R:Ending→World→Prop} (hk:∀ (args:Array Value) (w:World),(callFunc k args).run P w=.ok (.enter k args) w)
 (h:Calls P k #[x] w R):bM P (.func (.func k) #[] #[]) #[x] w R:=bM.func hk (by simpa using h)
theorem bP.open {B:Nat} {w:World}:∀ {c:Cell} {vs:List Value},bP B w c vs→∃ (ia:Option Addr) (il ic:Nat) (ka:Option Addr) (kl kc:Nat),
 vs=[.int .u64 c.r0,.int .u64 c.r1,.int .u64 c.r2,.int .u64 c.r3,.string c.s,.bool c.null,.slice ia il ic,.slice ka kl kc] ∧
  c.r0<18446744073709551616∧c.r1<18446744073709551616∧c.r2<18446744073709551616∧c.r3<18446744073709551616∧c.s.size≤65536
 | .mk r0 r1 r2 r3 s null items keys,vs=>by
  unfold bP;rintro ⟨iv,kv,ixs,kxs,rfl,h0,h1,h2,h3,h4,⟨_,ia,ic,rfl,_⟩,_,⟨_,ka,kc,rfl,_⟩,_⟩
  exact ⟨_,_,_,_,_,_,rfl,h0,h1,h2,h3,h4⟩
theorem bP.small {B:Nat} {w:World} {c:Cell} {vs:List Value} (h:bP B w c vs):c.small:=by
 obtain ⟨_,_,_,_,_,_,_,h0,h1,h2,h3,h4⟩:=h.open
 exact ⟨h0,h1,h2,h3,h4⟩
theorem aI.small {B:Nat} {w:World}:∀ {cs:List Cell} {xs:List Value},aI B w cs xs→∀ c∈cs,c.small
 | [],_,_,c,h=>by simp at h
 | d :: cs,xs,hh,c,h=>by
  unfold aI at hh;obtain ⟨vs,rest,rfl,h1,h2⟩:=hh;rcases mem_cons.1 h with rfl|h
  · exact h1.small
  · exact aI.small h2 c h
theorem bQ {α β:Type} (f:α→List β) (l:List α) (k:Nat) (h:k<l.length):(l.take (k+1)).flatMap f=(l.take k).flatMap f++f l[k]:=by
 rw[take_succ_eq_append_getElem h,flatMap_append];simp
theorem dE.since {w w0 w1:World} {e:TypeId} {size:Nat} {v v':Value} {n:Nat} {xs:List Value} (ha:dE w0 w1 e size v v' n xs) (h0:F0 w w0) (hv:∀ q,v.ownBlock=some q→w.heap.size≤q) :
 (∀ q,v'.ownBlock=some q→w.heap.size≤q)∧F0 w w1:=by
 refine ⟨fun q hq=>?_,h0.grown ha.2.1 (fun k hk=>.inr (hv k hk))⟩;rcases ha.2.2 with h|⟨h,-⟩
 · exact hv q (by rw[← h,hq])
 · rw[h] at hq
   simp only[Option.some.injEq] at hq;have:=h0.size;omega
theorem Src.kC {P:Program} {w:World} {base:Nat} {e e' tx:TypeId} {size:Nat} {v:Value} {n:Nat} {xs:List Value} (hk:P.underlying tx=some (.slice e')) (h:w.ownsRow base e size v n xs) (h1:∀ u∈xs,u.oneCell'=true):Src P size tx v n xs w:=by
 rcases h.2 with ⟨rfl,rfl⟩|⟨g,cap,cur,rfl,hb,hg,Kv⟩
 · have hx:xs=[]:=eq_nil_of_length_eq_zero (by simpa using h.1)
   subst hx
   exact Src.ofNil w hk 0
 · exact Src.ofSlice w hk _ _ _ _ h.1 (World.ownsRow.cells h (g:=g) rfl) h1
theorem Sl.fr {B:Nat} {w w':World} {size n:Nat} {v:Value} {xs:List Value} (h:Sl B w size v n xs) (hB:B≤w.heap.size) (hf:F0 w w'):Sl B w' size v n xs:=h.below (hf.below hB (fun _ _ h=>h))
theorem iT (g:Nat) (t:TypeId):∀ (vs:List Value) (o:Nat) (w:World) (cur:Array Value),w.heap[g]?=some (.cells cur t (0,0))→o+vs.length≤cur.size →
 (w.setCells g o vs).heap[g]?=some (.cells (cur.toList.take o++vs++cur.toList.drop (o+vs.length)).toArray t (0,0))
 | [],o,w,cur,hg,h=>by
  simp only[World.setCells,append_nil,length_nil,Nat.add_zero,take_append_drop,Array.toArray_toList]
  exact hg
 | v :: r,o,w,cur,hg,h=>by
  simp only[length_cons] at h
  have I8:(w.setCell ⟨g,o,none⟩ v).heap[g]?=some (.cells (cur.setIfInBounds o v) t (0,0)):=by
   simp[World.setCell,Array.getElem?_modify,hg]
  rw[World.setCells,iT g t r (o+1) _ _ I8 (by simp;omega)]
  congr 3
  have ho:o<cur.toList.length:=by simp;omega
  rw[Array.toList_setIfInBounds,take_set,drop_set_of_lt (by omega)];rw[take_succ_eq_append_getElem ho,set_append_right _ _ (by simp;omega)];have hm:o - min o cur.size=0:=by omega
  simp[hm,show o+1+r.length=o+(r.length+1) by omega]
theorem lQ {w:World} {e:TypeId} {g N cap:Nat} {xs A olds C:List Value} (h:w.ownsRow 0 e 1 (.slice (some ⟨g,0,none⟩) N cap) N xs) (hx:xs=A++olds++C) (news:List Value) (hn:news.length=olds.length) {o:Nat} (ho:o=A.length) :
 (w.setCells g o news).ownsRow 0 e 1 (.slice (some ⟨g,0,none⟩) N cap) N (A++news++C):=by
 subst ho hx;obtain ⟨hl,h⟩:=h;rcases h with ⟨hv,_⟩|⟨g',cap',cur,hv,hb,hg,BF,AP,A8,Dv⟩
 · cases hv
 · simp only[Value.slice.injEq,Option.some.injEq,Addr.mk.injEq] at hv
   obtain ⟨⟨rfl,_⟩,_,rfl⟩:=hv;simp only[length_append,Nat.mul_one] at hl;have DJ:A.length+news.length≤cur.size:=by omega
   refine ⟨by simp;omega,.inr ⟨g,cap,_,rfl,hb,iT g e news A.length w cur hg DJ,BF,AP,?_,?_⟩⟩
   · simp;omega
   · have hA:cur.toList.take A.length=A:=by
      have:=congrArg (List.take A.length) Dv;rw[take_take,Nat.min_eq_left (by omega)] at this;rw[this];simp
     have hC:(cur.toList.drop (A.length+news.length)).take C.length=C:=by
      have:=congrArg (List.drop (A.length+olds.length)) Dv;rw[drop_take] at this;rw[hn,show C.length=N*1 - (A.length+olds.length) by omega,this,append_assoc,← append_assoc,drop_left' (by simp)]
     rw[hA,show N*1=(A++news).length+C.length by simp;omega,toList_toArray,take_length_add_append,hC]
theorem Fr.setCells {S:Nat→Prop} {a:World} {g:Nat} (hS:S g∨a.heap.size≤g):∀ (vs:List Value) (o:Nat) (w:World),Fr S a w→Fr S a (w.setCells g o vs)
 | [],_,_,h=>h
 | v :: r,o,w,h=>by
  rw[World.setCells]
  exact Fr.setCells hS r (o+1) _ (h.setCell hS v)
theorem aBk (g o n c v:Nat) (hv:v<65536) (w:World) (hn:2≤n) (hc:∀ j,j<2→∃ u,w.cell? ⟨g,o+j,none⟩=some u) (hf:∀ j,w.frozen? ⟨g,j,none⟩=false) :
 Calls Tryz.prog 232 #[.agg #[],.slice (some ⟨g,o,none⟩) n c,.int .u16 v] w fun e w'=>e=.returned (.tuple #[])∧w'=(w.alloc (.cells #[] 454)).setCells g o (aN (Lib.leBytes 2 v)):=by
 obtain ⟨x0,c0⟩:=hc 0 (by omega);obtain ⟨x1,c1⟩:=hc 1 (by omega);simp only[Nat.add_zero] at c0;have d0:=(World.cell?_alloc_lt w (.cells #[] 454) _ (World.block_lt_of_cell? w _ c0)).trans c0;have f0:=(World.frozen?_alloc_old w (.cells #[] 454) ⟨g,o,none⟩ (Nat.ne_of_lt (World.block_lt_of_cell? w _ c0))).trans (hf _);have d1:=(World.cell?_alloc_lt w (.cells #[] 454) _ (World.block_lt_of_cell? w _ c1)).trans c1;have f1:=(World.frozen?_alloc_old w (.cells #[] 454) ⟨g,o+1,none⟩ (Nat.ne_of_lt (World.block_lt_of_cell? w _ c1))).trans (hf _);have e0:((v % 256:Nat):Int)=(v:Int) % 256:=by omega
 have e1:((v / 256 % 256:Nat):Int)=(v:Int) / 256:=by omega
 have hb:aN (Lib.leBytes 2 v)=[Value.int .u8 ((v:Int) % 256),Value.int .u8 ((v:Int) / 256)]:=by
  simp only[aN,Lib.leBytes,List.map,Lib.toUInt8_mod,e0,e1]
 clear hc hf;go_enter func232,ntmps232;go_wp2;go_end0
 refine ⟨rfl,?_⟩;rw[hb]
 rfl
theorem uO (g o n c v:Nat) (hv:v<4294967296) (w:World) (hn:4≤n) (hc:∀ j,j<4→∃ u,w.cell? ⟨g,o+j,none⟩=some u) (hf:∀ j,w.frozen? ⟨g,j,none⟩=false) :
 Calls Tryz.prog 233 #[.agg #[],.slice (some ⟨g,o,none⟩) n c,.int .u32 v] w fun e w'=>e=.returned (.tuple #[])∧w'=(w.alloc (.cells #[] 454)).setCells g o (aN (Lib.leBytes 4 v)):=by
 obtain ⟨x0,c0⟩:=hc 0 (by omega);obtain ⟨x1,c1⟩:=hc 1 (by omega);obtain ⟨x2,c2⟩:=hc 2 (by omega);obtain ⟨x3,c3⟩:=hc 3 (by omega);simp only[Nat.add_zero] at c0;have d0:=(World.cell?_alloc_lt w (.cells #[] 454) _ (World.block_lt_of_cell? w _ c0)).trans c0;have f0:=(World.frozen?_alloc_old w (.cells #[] 454) ⟨g,o,none⟩ (Nat.ne_of_lt (World.block_lt_of_cell? w _ c0))).trans (hf _);have d1:=(World.cell?_alloc_lt w (.cells #[] 454) _ (World.block_lt_of_cell? w _ c1)).trans c1;have f1:=(World.frozen?_alloc_old w (.cells #[] 454) ⟨g,o+1,none⟩ (Nat.ne_of_lt (World.block_lt_of_cell? w _ c1))).trans (hf _);have d2:=(World.cell?_alloc_lt w (.cells #[] 454) _ (World.block_lt_of_cell? w _ c2)).trans c2;have f2:=(World.frozen?_alloc_old w (.cells #[] 454) ⟨g,o+2,none⟩ (Nat.ne_of_lt (World.block_lt_of_cell? w _ c2))).trans (hf _);have d3:=(World.cell?_alloc_lt w (.cells #[] 454) _ (World.block_lt_of_cell? w _ c3)).trans c3;have f3:=(World.frozen?_alloc_old w (.cells #[] 454) ⟨g,o+3,none⟩ (Nat.ne_of_lt (World.block_lt_of_cell? w _ c3))).trans (hf _);have e0:((v % 256:Nat):Int)=(v:Int) % 256:=by omega
 have e1:((v / 256 % 256:Nat):Int)=(v:Int) / 256 % 256:=by omega
 have e2:((v / 256 / 256 % 256:Nat):Int)=(v:Int) / 65536 % 256:=by omega
 have e3:((v / 256 / 256 / 256 % 256:Nat):Int)=(v:Int) / 16777216:=by omega
 have hb:aN (Lib.leBytes 4 v)=[Value.int .u8 ((v:Int) % 256),Value.int .u8 ((v:Int) / 256 % 256),Value.int .u8 ((v:Int) / 65536 % 256),Value.int .u8 ((v:Int) / 16777216)]:=by
  simp only[aN,Lib.leBytes,List.map,Lib.toUInt8_mod,e0,e1,e2,e3]
 clear hc hf;go_enter func233,ntmps233;go_wp2;go_end0
 refine ⟨rfl,?_⟩;rw[hb]
 rfl
theorem oG (g o n c v:Nat) (hv:v<18446744073709551616) (w:World) (hn:8≤n) (hc:∀ j,j<8→∃ u,w.cell? ⟨g,o+j,none⟩=some u) (hf:∀ j,w.frozen? ⟨g,j,none⟩=false) :
 Calls Tryz.prog 175 #[.agg #[],.slice (some ⟨g,o,none⟩) n c,.int .u64 v] w fun e w'=>e=.returned (.tuple #[])∧w'=(w.alloc (.cells #[] 454)).setCells g o (aN (Lib.leBytes 8 v)):=by
 obtain ⟨x0,c0⟩:=hc 0 (by omega);obtain ⟨x1,c1⟩:=hc 1 (by omega);obtain ⟨x2,c2⟩:=hc 2 (by omega);obtain ⟨x3,c3⟩:=hc 3 (by omega);obtain ⟨x4,c4⟩:=hc 4 (by omega);obtain ⟨x5,c5⟩:=hc 5 (by omega);obtain ⟨x6,c6⟩:=hc 6 (by omega);obtain ⟨x7,c7⟩:=hc 7 (by omega);simp only[Nat.add_zero] at c0;have d0:=(World.cell?_alloc_lt w (.cells #[] 454) _ (World.block_lt_of_cell? w _ c0)).trans c0;have f0:=(World.frozen?_alloc_old w (.cells #[] 454) ⟨g,o,none⟩ (Nat.ne_of_lt (World.block_lt_of_cell? w _ c0))).trans (hf _);have d1:=(World.cell?_alloc_lt w (.cells #[] 454) _ (World.block_lt_of_cell? w _ c1)).trans c1;have f1:=(World.frozen?_alloc_old w (.cells #[] 454) ⟨g,o+1,none⟩ (Nat.ne_of_lt (World.block_lt_of_cell? w _ c1))).trans (hf _);have d2:=(World.cell?_alloc_lt w (.cells #[] 454) _ (World.block_lt_of_cell? w _ c2)).trans c2;have f2:=(World.frozen?_alloc_old w (.cells #[] 454) ⟨g,o+2,none⟩ (Nat.ne_of_lt (World.block_lt_of_cell? w _ c2))).trans (hf _);have d3:=(World.cell?_alloc_lt w (.cells #[] 454) _ (World.block_lt_of_cell? w _ c3)).trans c3;have f3:=(World.frozen?_alloc_old w (.cells #[] 454) ⟨g,o+3,none⟩ (Nat.ne_of_lt (World.block_lt_of_cell? w _ c3))).trans (hf _);have d4:=(World.cell?_alloc_lt w (.cells #[] 454) _ (World.block_lt_of_cell? w _ c4)).trans c4;have f4:=(World.frozen?_alloc_old w (.cells #[] 454) ⟨g,o+4,none⟩ (Nat.ne_of_lt (World.block_lt_of_cell? w _ c4))).trans (hf _);have d5:=(World.cell?_alloc_lt w (.cells #[] 454) _ (World.block_lt_of_cell? w _ c5)).trans c5;have f5:=(World.frozen?_alloc_old w (.cells #[] 454) ⟨g,o+5,none⟩ (Nat.ne_of_lt (World.block_lt_of_cell? w _ c5))).trans (hf _);have d6:=(World.cell?_alloc_lt w (.cells #[] 454) _ (World.block_lt_of_cell? w _ c6)).trans c6;have f6:=(World.frozen?_alloc_old w (.cells #[] 454) ⟨g,o+6,none⟩ (Nat.ne_of_lt (World.block_lt_of_cell? w _ c6))).trans (hf _);have d7:=(World.cell?_alloc_lt w (.cells #[] 454) _ (World.block_lt_of_cell? w _ c7)).trans c7;have f7:=(World.frozen?_alloc_old w (.cells #[] 454) ⟨g,o+7,none⟩ (Nat.ne_of_lt (World.block_lt_of_cell? w _ c7))).trans (hf _);have e0:((v % 256:Nat):Int)=(v:Int) % 256:=by omega
 have e1:((v / 256 % 256:Nat):Int)=(v:Int) / 256 % 256:=by omega
 have e2:((v / 256 / 256 % 256:Nat):Int)=(v:Int) / 65536 % 256:=by omega
 have e3:((v / 256 / 256 / 256 % 256:Nat):Int)=(v:Int) / 16777216 % 256:=by omega
 have e4:((v / 256 / 256 / 256 / 256 % 256:Nat):Int)=(v:Int) / 4294967296 % 256:=by omega
 have e5:((v / 256 / 256 / 256 / 256 / 256 % 256:Nat):Int)=(v:Int) / 1099511627776 % 256:=by omega
 have e6:((v / 256 / 256 / 256 / 256 / 256 / 256 % 256:Nat):Int)=(v:Int) / 281474976710656 % 256:=by omega
 have e7:((v / 256 / 256 / 256 / 256 / 256 / 256 / 256 % 256:Nat):Int)=(v:Int) / 72057594037927936:=by omega
 have hb:aN (Lib.leBytes 8 v)=[Value.int .u8 ((v:Int) % 256),Value.int .u8 ((v:Int) / 256 % 256),Value.int .u8 ((v:Int) / 65536 % 256),Value.int .u8 ((v:Int) / 16777216 % 256),Value.int .u8 ((v:Int) / 4294967296 % 256),Value.int .u8 ((v:Int) / 1099511627776 % 256),Value.int .u8 ((v:Int) / 281474976710656 % 256),Value.int .u8 ((v:Int) / 72057594037927936)]:=by
  simp only[aN,Lib.leBytes,List.map,Lib.toUInt8_mod,e0,e1,e2,e3,e4,e5,e6,e7]
 clear hc hf;go_enter func175,ntmps175;go_wp2;go_end0
 refine ⟨rfl,?_⟩;rw[hb]
 rfl
section
variable {P:Program} {w:World}
theorem aQ {n:Nat} {t:TypeId} {v:Value} {name:String} {f:FuncId} (pr:Bool) (h:((P.info? t).bind fun i=>i.methods.find? (·.name == name)).map (fun m=>(m.path,m.func))=some (#[],some (f,pr)))
 {r:Value} (hr:(receiverAt t (.val v) pr (some ((name.splitOn ".").getLastD name))).run P w=.ok r w):(method (n+1) t v name).run P w=.ok (f,r) w:=by
 cases hi:P.info? t with
 | none=>simp[hi] at h
 | some i =>
  cases hm:i.methods.find? (·.name == name) with
  | none=>simp[hi,hm] at h
  | some m =>
   simp only[hi,hm,Option.bind_some,Option.map_some,Option.some.injEq,Prod.mk.injEq] at h
   exact aFP hi hm h.1 h.2 hr
theorem aX {n:Nat} {t:TypeId} {name:String} {s:TypeId} {fs:Array Field} {fd:Field} (hs:P.underlying s=some (.struct fs)) (OC:fs[0]?=some fd) (KH:fd.offset=0) (NE:∀ w,(isAgg fd.type).run P w=.ok false w)
 (h:((P.info? t).bind fun i=>i.methods.find? (·.name == name)).map (fun m=>(m.path,m.func))=some (#[{ struct:=s,index:=0,deref:=false}],none))
 {cs:Array Value} {t':TypeId} {v':Value} (hc:cs[0]?=some (.iface t' v')):(method (n+1) t (.agg cs) name).run P w=(method n t' v' name).run P w:=by
 cases hi:P.info? t with
 | none=>simp[hi] at h
 | some i =>
  cases hm:i.methods.find? (·.name == name) with
  | none=>simp[hi,hm] at h
  | some m =>
   simp only[hi,hm,Option.bind_some,Option.map_some,Option.some.injEq,Prod.mk.injEq] at h
   exact aCj hi hm h.1 h.2 hs OC KH NE hc
theorem kK {t:TypeId} {v:Value} {name:String} (h:((P.info? t).bind fun i=>i.methods.find? (·.name == name)).map (fun m=>m.func.isSome)=some true) (n m:Nat):(method (n+1) t v name).run P w=(method (m+1) t v name).run P w:=by
 cases hi:P.info? t with
 | none=>simp[hi] at h
 | some i =>
  cases hm:i.methods.find? (·.name == name) with
  | none=>simp[hi,hm] at h
  | some mt =>
   simp only[hi,hm,Option.bind_some,Option.map_some,Option.some.injEq] at h;obtain ⟨x,hx⟩:=Option.isSome_iff_exists.1 h;unfold method;simp only[Sem.run_bind,typeInfo,run_program,Result.andThen_ok,hi,Sem.run_pure,hm,hx]
theorem fC {t:TypeId} {name:String} {s:TypeId} {fs:Array Field} {fd:Field} (hs:P.underlying s=some (.struct fs)) (OC:fs[0]?=some fd) (KH:fd.offset=0) (NE:∀ w,(isAgg fd.type).run P w=.ok false w)
 (h:((P.info? t).bind fun i=>i.methods.find? (·.name == name)).map (fun m=>(m.path,m.func))=some (#[{ struct:=s,index:=0,deref:=false}],none))
 {cs:Array Value} {t':TypeId} {v':Value} (hc:cs[0]?=some (.iface t' v')) (h2:((P.info? t').bind fun i=>i.methods.find? (·.name == name)).map (fun m=>m.func.isSome)=some true) (n m:Nat) :
 (method (n+2) t (.agg cs) name).run P w=(method (m+2) t (.agg cs) name).run P w:=by
 rw[aX (n:=n+1) hs OC KH NE h hc,aX (n:=m+1) hs OC KH NE h hc]
 exact kK h2 n m
end
theorem bI {P:Program} {w:World} {t e:TypeId} {a:Addr} {v:Value} (hu:P.underlying t=some (.slice e)) (hc:w.cell? a=some v):(loadVar t a).run P w=.ok v w:=by
 have hi:(isAgg t).run P w=.ok false w:=by simp[isAgg,run_underlying hu]
 unfold loadVar;simp[Sem.run_bind,hi,hc]
theorem fuel:∃ n,mdp=n+2:=⟨mdp - 2,by kernel_rfl⟩
theorem aBF {w:World} {n:Nat} (h:n=w.heap.size) (xs:List Value) (t:TypeId):∀ j u,xs[j]?=some u→(w.alloc (.cells xs.toArray t)).cell? ((⟨n,0,none⟩:Addr).add j)=some u:=by
 subst h
 exact bG w xs t
theorem setCells_size (g:Nat):∀ (vs:List Value) (o:Nat) (w:World),(w.setCells g o vs).heap.size=w.heap.size
 | [],_,_=>rfl
 | v :: r,o,w=>by rw[World.setCells,setCells_size g r];simp[World.setCell]
theorem Fr.made {w w1:World} {c:Array Value} {t:TypeId} (h:F0 (w.alloc (.cells c t)) w1) {n:Nat} (hn:n=w.heap.size):w1.heap[n]?=some (.cells c t (0,0)):=by
 subst hn
 exact (h.block _ (by simp) (fun h=>h)).trans (heap_alloc_new w _)
theorem aEm (n:Int):IntKind.i16.wrap n=(n+32768) % 65536 - 32768:=by
 simp only[IntKind.wrap,IntKind.bits,IntKind.signed];simp
 split<;>omega
theorem aHI (n:Int):IntKind.i8.wrap n=(n+128) % 256 - 128:=by
 simp only[IntKind.wrap,IntKind.bits,IntKind.signed];simp
 split<;>omega
theorem zX (n:Int):IntKind.u64.wrap (wrap64 n)=n % 18446744073709551616:=by
 rw[IntKind.wrap_u64];unfold wrap64;rw[Int.sub_emod,Int.emod_emod,← Int.sub_emod]
 congr 1
 omega
theorem aGN (n:Int):IntKind.u32.wrap (wrap32 n)=n % 4294967296:=by
 rw[IntKind.wrap_u32];unfold wrap32;rw[Int.sub_emod,Int.emod_emod,← Int.sub_emod]
 congr 1
 omega
theorem aNo (n:Int):IntKind.u8.wrap (IntKind.i8.wrap n)=n % 256:=by
 rw[IntKind.wrap_u8',aHI];omega
theorem Buf.col {w:World} {b:Nat} {fb:Nat→Prop} {bs:List UInt8}:Buf w b fb bs↔aJ w b 114 5 1 bs.length (aN bs) fb:=Iff.rfl
structure Hot (w:World) (b g N cap:Nat) (xs:List Value):Prop where
 hb:w.heap[b]?=some (.cells #[.slice (some ⟨g,0,none⟩) N cap] 114 (0,0))
 own:w.ownsRow 0 5 1 (.slice (some ⟨g,0,none⟩) N cap) N xs
 ne:g≠b
namespace Hot
open Tryz List
variable {w w':World} {b g N cap:Nat} {xs:List Value}
theorem cell (h:Hot w b g N cap xs):w.cell? ⟨b,0,none⟩=some (.slice (some ⟨g,0,none⟩) N cap):=(aJ.cell h.hb).1
theorem frozen (h:Hot w b g N cap xs):w.frozen? ⟨b,0,none⟩=false:=(aJ.cell h.hb).2
theorem row (h:Hot w b g N cap xs):∃ cur:Array Value,w.heap[g]?=some (.cells cur 5 (0,0))∧N≤cur.size∧N≤cap∧cap≤maxLen:=by
 rcases h.own.2 with ⟨hv,_⟩|⟨g',cap',cur,hv,_,hg,BF,AP,A8,_⟩
 · cases hv
 · simp only[Value.slice.injEq,Option.some.injEq,Addr.mk.injEq] at hv
   obtain ⟨⟨rfl,_⟩,_,rfl⟩:=hv
   exact ⟨cur,hg,by omega,BF,AP⟩
theorem there (h:Hot w b g N cap xs) {o m:Nat} (hm:o+m≤N):∀ j,j<m→∃ u,w.cell? ⟨g,o+j,none⟩=some u:=by
 obtain ⟨cur,hg,hN,_⟩:=h.row;intro j hj
 refine ⟨cur[o+j]'(by omega),?_⟩;rw[cell_of_row _ _ _ _ _ _ hg,Array.getElem?_eq_getElem]
theorem cold (h:Hot w b g N cap xs):∀ j,w.frozen? ⟨g,j,none⟩=false:=by
 obtain ⟨cur,hg,hN,_⟩:=h.row
 exact fun j=>fzj _ hg
theorem fr (h:Hot w b g N cap xs) {S:Nat→Prop} (hf:Fr S w w') (hb:¬ S b) (hg:¬ S g):Hot w' b g N cap xs :=
 ⟨(hf.block b (aC h.hb) hb).trans h.hb,hf.owns h.own (fun k hk hs=>by simp only[Value.ownBlock,Option.some.injEq] at hk;subst hk;exact hg hs),h.ne⟩
theorem glt (h:Hot w b g N cap xs):g<w.heap.size:=by obtain ⟨cur,hg,_⟩:=h.row;exact aC hg
theorem alloc (h:Hot w b g N cap xs) (o:Obj):Hot (w.alloc o) b g N cap xs:=h.fr ((Fr.refl (fun _=>False) w).alloc o) (fun h=>h) (fun h=>h)
theorem drew (h:Hot w b g N cap xs):Hot w.drew b g N cap xs:=h.fr ((Fr.refl (fun _=>False) w).drew) (fun h=>h) (fun h=>h)
theorem put {A olds C:List Value} (h:Hot w b g N cap xs) (hx:xs=A++olds++C) (news:List Value) (hn:news.length=olds.length) {o:Nat} (ho:o=A.length):Hot (w.setCells g o news) b g N cap (A++news++C) :=
 ⟨((Fr.setCells (S:=fun k=>k=g) (.inl rfl) news o w (Fr.refl _ w)).block b (aC h.hb) (fun e=>h.ne e.symm)).trans h.hb,lQ h.own hx news hn ho,h.ne⟩
theorem buf {bs:List UInt8} (h:Hot w b g N cap (aN bs)) {fb:Nat→Prop} (CJ:∀ k,fb k↔k=b∨k=g):Buf w b fb bs:=by
 have hl:=h.own.1;simp only[aZ,Nat.mul_one] at hl;subst hl
 exact ⟨_,h.hb,h.own,by simpa [Value.ownBlock] using h.ne,fun k=>by rw[CJ];simp[Value.ownBlock,eq_comm]⟩
theorem of {fb:Nat→Prop} (h:aJ w b 114 5 1 N xs fb) (hN:0<N):∃ g cap,Hot w b g N cap xs∧∀ k,fb k↔k=b∨k=g:=by
 obtain ⟨v,hp,Aa,Am,Aj⟩:=h;have Gm:=Aa;rcases Aa.2 with ⟨_,rfl⟩|⟨g,cap,cur,rfl,_⟩
 · omega
 · exact ⟨g,cap,⟨hp,Gm,by simpa [Value.ownBlock] using Am⟩,fun k=>by rw[Aj];simp[Value.ownBlock,eq_comm]⟩
end Hot
theorem gY:ElT Tryz.prog 22 5 (.int .u8 0) 1 1:=⟨underlying22,info_parts (by kernel_rfl),rfl⟩
theorem aBD (m:Nat):List.replicate m (Value.int .u8 0)=aN (List.replicate m 0):=by simp[aN]
theorem aY {α β:Type} (f:α→List β) (B:Nat) (h:∀ a,(f a).length=B):∀ l:List α,(l.flatMap f).length=B*l.length
 | []=>rfl
 | a :: l=>by rw[flatMap_cons,length_append,h,aY f B h l,length_cons,Nat.mul_succ];omega
theorem gJ {α β:Type} (f:α→List β) (m:Nat) (h:∀ a,(f a).length=m):∀ (l:List α) (k j:Nat) (hk:k<l.length),j<m→(l.flatMap f)[k*m+j]?=(f l[k])[j]?
 | [],k,j,hk,_=>by simp at hk
 | a :: l,0,j,_,hj=>by
  rw[flatMap_cons,Nat.zero_mul,Nat.zero_add,getElem?_append_left (by rw[h];exact hj)]
  rfl
 | a :: l,k+1,j,hk,hj=>by
  have e:(k+1)*m+j=(f a).length+(k*m+j):=by rw[h,Nat.add_mul];omega
  rw[flatMap_cons,e,getElem?_append_right (by omega),Nat.add_sub_cancel_left,gJ f m h l k j (by simpa using hk) hj]
  rfl
theorem aV (B:Nat) (hB:B≤32) (c:Cell):(aG B c).length=B:=by simp[aG,Lib.leBytes_length];omega
theorem vX (c:Cell):aG 16 c=Lib.leBytes 8 c.r0++Lib.leBytes 8 c.r1:=by
 unfold aG;rw[append_assoc]
 exact take_left' (by simp[Lib.leBytes_length])
theorem aDL (c:Cell):aG 32 c=Lib.leBytes 8 c.r0++Lib.leBytes 8 c.r1++Lib.leBytes 8 c.r2++Lib.leBytes 8 c.r3:=by
 unfold aG
 exact take_of_length_le (by simp[Lib.leBytes_length])
theorem sD:∀ (k m v:Nat),k≤m→(Lib.leBytes m v).take k=Lib.leBytes k v
 | 0,m,v,_=>by simp[Lib.leBytes]
 | k+1,0,v,h=>by omega
 | k+1,m+1,v,h=>by rw[Lib.leBytes,Lib.leBytes,take_succ_cons,sD k m _ (by omega)]
theorem iK:∀ (k v:Nat),Lib.leBytes k (v % 256 ^ k)=Lib.leBytes k v
 | 0,v=>by simp[Lib.leBytes]
 | k+1,v=>by
  have h1:(v % 256 ^ (k+1)) % 256=v % 256:=by rw[Nat.mod_mod_of_dvd];exact ⟨256 ^ k,by rw[Nat.pow_succ];omega⟩
  have h2:(v % 256 ^ (k+1)) / 256=(v / 256) % 256 ^ k:=by rw[Nat.pow_succ,Nat.mul_comm,Nat.mod_mul_right_div_self]
  rw[Lib.leBytes,Lib.leBytes,h1,h2,iK k (v / 256)]
theorem dO (B:Nat) (hB:B≤8) (c:Cell):aG B c=Lib.leBytes B c.r0:=by
 unfold aG;rw[append_assoc,append_assoc,take_append_of_le_length (by rw[Lib.leBytes_length];exact hB),sD _ _ _ hB]
def Kept (w w':World) (b n:Nat):Prop:=∀ v g,w.heap[b]?=some (.cells #[v] 114 (0,0))→v.ownBlock=some g→∀ j,j<n→w'.cell? ⟨g,j,none⟩=w.cell? ⟨g,j,none⟩
theorem Kept.refl (w:World) (b n:Nat):Kept w w b n:=fun _ _ _ _ _ _=>rfl
theorem kS {w:World} {e:TypeId} {v:Value} {n g:Nat} {xs:List Value} (h:w.ownsRow 0 e 1 v n xs) (hg:v.ownBlock=some g) {j:Nat} {u:Value} (hj:xs[j]?=some u):w.cell? ⟨g,j,none⟩=some u:=by
 have:=World.ownsRow.cells h (g:=g) hg j u hj
 rwa [Addr.add_lit,Nat.zero_add] at this
theorem Kept.appended {w w0 w1:World} {b m:Nat} {v v':Value} {bs:List UInt8} {news:List Value} (hp:w.heap[b]?=some (.cells #[v] 114 (0,0))) (Bh:w.ownsRow 0 5 1 v bs.length (aN bs)) (Am:v.ownBlock≠some b)
 (h0:F0 w w0) (ha:dE w0 w1 5 1 v v' m (aN bs++news)):Kept w (w1.setCell ⟨b,0,none⟩ v') b bs.length:=by
 intro u g hu hg j hj;rw[hp] at hu;simp only[Option.some.injEq,Obj.cells.injEq,Array.mk.injEq,List.cons.injEq,and_true] at hu;subst hu;have WS:g≠b:=fun e=>Am (e▸hg)
 have Vo:=aO Bh hg;have hx:∃ x,(aN bs)[j]?=some x:=⟨_,getElem?_eq_getElem (by rw[aZ];exact hj)⟩;obtain ⟨x,hx⟩:=hx;have hw:=kS Bh hg hx;have Qy:Fr (fun k=>k=b) w1 (w1.setCell ⟨b,0,none⟩ v'):=(Fr.refl (fun k=>k=b) w1).setCell (.inl rfl) _;rw[hw]
 refine Qy.aA ?_ WS
 rcases ha.2.2 with e|⟨_,e⟩
 · exact kS ha.1 (e.trans hg) (by rw[getElem?_append_left (by rw[aZ];exact hj)];exact hx)
 · have h1:w1.heap[g]?=w.heap[g]?:=(e g (Nat.lt_of_lt_of_le Vo h0.size)).trans (h0.block g Vo (fun h=>h))
   exact (World.cell?_of_block (a:=⟨g,j,none⟩) h1).trans hw
theorem Kept.hot {w W wr:World} {b g N cap:Nat} {v:Value} {bs:List UInt8} {l:List Value} (hp:w.heap[b]?=some (.cells #[v] 114 (0,0))) (Bh:w.ownsRow 0 5 1 v bs.length (aN bs)) (Am:v.ownBlock≠some b)
 (hk:Kept w W b bs.length) (hf:Fr (fun k=>k=b∨k=g) W wr) (hot:Hot wr b g N cap (aN bs++l)):Kept w wr b bs.length:=by
 intro u q hu hq j hj;have Q5:=hu;rw[hp] at Q5;simp only[Option.some.injEq,Obj.cells.injEq,Array.mk.injEq,List.cons.injEq,and_true] at Q5;subst Q5;have WS:q≠b:=fun e=>Am (e▸hq)
 have Vo:=aO Bh hq;obtain ⟨x,hx⟩:∃ x,(aN bs)[j]?=some x:=⟨_,getElem?_eq_getElem (by rw[aZ];exact hj)⟩;have hw:=kS Bh hq hx
 by_cases e:q=g
 · subst e
   rw[hw]
   exact kS hot.own rfl (by rw[getElem?_append_left (by rw[aZ];exact hj)];exact hx)
 · rw[hw]
   exact hf.aA ((hk _ _ hp hq j hj).trans hw) (fun h=>h.elim WS e)
def gZ (tc te:TypeId) (size:Nat) (cellsOf:Cell→List Value) (inF outF:Value) (B p nb:Nat) (w:World) (fp:Nat→Prop) (σ:List Cell):Prop :=
 ∃ fp0,aJ w p tc te size σ.length (σ.flatMap cellsOf) fp0∧(w.cell? ⟨nb,1,none⟩=some inF∧w.cell? ⟨nb,2,none⟩=some outF)∧(∀ k,fp k↔fp0 k∨k=nb)∧(∀ k,fp k→B≤k)∧(¬ fp0 nb)∧∀ c∈σ,c.small
structure iI (P:Program) (tc te tl:TypeId) (size:Nat) (cellsOf:Cell→List Value) (inF:Value) (p nb:Nat) (u:Value) (T:Ty):Prop where
 append:∀ (w:World) (n:Nat) (xs:List Value) (fp:Nat→Prop),aJ w p tc te size n xs fp→n<2147483648→w.cell? ⟨nb,1,none⟩=some inF→∀ (c:Cell) (iv kv:Value),c.small →
  aF P (.iface tl u) "Append" #[.agg #[.int .u64 c.r0,.int .u64 c.r1,.int .u64 c.r2,.int .u64 c.r3,.string c.s,.bool c.null,iv,kv]] w fun e w'=>e=.returned (.tuple #[])∧(∃ fp',aJ w' p tc te size (n+1) (xs++cellsOf c) fp'∧Grow w fp fp')∧Fr fp w w'
 appendArr:∀ (w:World) (B n:Nat) (xs:List Value) (fp:Nat→Prop),B≤w.heap.size→aJ w p tc te size n xs fp→w.cell? ⟨nb,1,none⟩=some inF→∀ (cs:List Cell) (v:Value) (ys:List Value),Sl B w 8 v cs.length ys→aI B w cs ys→n+cs.length≤2147483648 →
  aF P (.iface tl u) "AppendArr" #[v] w fun e w'=>e=.returned (.tuple #[])∧(∃ fp',aJ w' p tc te size (n+cs.length) (xs++cs.flatMap cellsOf) fp'∧Grow w fp fp')∧Fr fp w w'
 rows:∀ (w:World) (a:Option Addr) (n c:Nat),w.cell? ⟨p,0,none⟩=some (.slice a n c)→aF P (.iface tl u) "Rows" #[] w fun e w'=>e=.returned (.int .i64 n)∧F0 w w'
 flat:aGZ P tl u
 ahead:∀ w:World,(nilAhead (P.types.size+Made.depth) tl u "Append").run P w=.ok (some false) w
 prep:∀ x w,(Instr.typeAssert (.iface tl u) x 102 true).run P w=.ok (.tuple #[.nilIface,.bool false]) w
 stat:∀ x w,(Instr.typeAssert (.iface tl u) x 172 true).run P w=.ok (.tuple #[.nilIface,.bool false]) w
 encode:∀ (w:World) (b:Nat) (fb:Nat→Prop) (bs:List UInt8) (a:Option Addr) (c:Nat) (cs:List Cell),Buf w b fb bs→w.cell? ⟨p,0,none⟩=some (.slice a cs.length c)→w.ownsRow 0 te size (.slice a cs.length c) cs.length (cs.flatMap cellsOf) →
  (∀ k,(Value.slice a cs.length c).ownBlock=some k→¬ fb k)→(∀ c∈cs,c.small)→bs.length+(enc T cs).length≤1099511627776 →
  aF P (.iface tl u) "EncodeColumn" #[.pointer (some ⟨b,0,none⟩)] w fun e w'=>e=.returned (.tuple #[])∧Fr fb w w'∧∃ fb',Buf w' b fb' (bs++enc T cs)∧Grow w fb fb'∧Kept w w' b bs.length
section
variable {P:Program} {tc te tl:TypeId} {size:Nat} {cellsOf:Cell→List Value} {inF outF:Value} {B p nb:Nat} {u:Value} {T:Ty} {w w':World} {fp fp0:Nat→Prop} {σ τ:List Cell}
theorem gZ.fns (h:gZ tc te size cellsOf inF outF B p nb w fp σ):nb<w.heap.size∧B≤nb:=by
 obtain ⟨fp0,hc,Em,Aj,hB,Am,CE⟩:=h
 exact ⟨World.block_lt_of_cell? w _ Em.1,hB nb ((Aj nb).2 (.inr rfl))⟩
theorem gZ.lt (h:gZ tc te size cellsOf inF outF B p nb w fp σ):∀ k,fp k→B≤k∧k<w.heap.size:=by
 intro k hk;have hn:=h.fns;obtain ⟨fp0,hc,Em,Aj,hB,Am,CE⟩:=h
 refine ⟨hB k hk,?_⟩;rcases (Aj k).1 hk with hk|rfl
 · exact hc.lt k hk
 · exact hn.1
theorem gZ.aW (h:gZ tc te size cellsOf inF outF B p nb w fp σ) (hk:∀ k,fp k→w'.heap[k]?=w.heap[k]?):gZ tc te size cellsOf inF outF B p nb w' fp σ:=by
 obtain ⟨fp0,hc,Em,Aj,hB,Am,CE⟩:=h;have hb:=hk nb ((Aj nb).2 (.inr rfl))
 exact ⟨fp0,hc.aW fun k h=>hk k ((Aj k).2 (.inl h)),⟨(World.cell?_of_block hb).trans Em.1,(World.cell?_of_block hb).trans Em.2⟩,Aj,hB,Am,CE⟩
theorem gZ.after (h:gZ tc te size cellsOf inF outF B p nb w fp σ) (Aj:∀ k,fp k↔fp0 k∨k=nb) (Am:¬ fp0 nb)
 (hc:∃ fp',aJ w' p tc te size τ.length (τ.flatMap cellsOf) fp'∧Grow w fp0 fp') (Ak:Fr fp0 w w') (CE:∀ c∈τ,c.small) :
 Fr fp w w'∧∃ fp',gZ tc te size cellsOf inF outF B p nb w' fp' τ∧Grow w fp fp':=by
 obtain ⟨Ar,VM⟩:=h.fns;have o5:B≤w.heap.size:=by omega
 obtain ⟨_,_,Em,_,hB,_,_⟩:=h;obtain ⟨fp',Aq,hg⟩:=hc
 refine ⟨Ak.mono (fun k _ hk=>(Aj k).2 (.inl hk)),fun k=>fp' k∨k=nb,⟨fp',Aq,⟨Ak.aA Em.1 Am,Ak.aA Em.2 Am⟩,fun k=>Iff.rfl,?_,?_,CE⟩,?_⟩
 · rintro k (hk|rfl)
   · rcases hg k hk with hk|hk
     · exact hB k ((Aj k).2 (.inl hk))
     · omega
   · exact VM
 · intro hk
   rcases hg nb hk with hk|hk
   · exact Am hk
   · omega
 · rintro k (hk|rfl)
   · exact (hg k hk).imp (fun hk=>(Aj k).2 (.inl hk)) id
   · exact .inl ((Aj k).2 (.inr rfl))
theorem iI.spec (L:iI P tc te tl size cellsOf inF p nb u T):ColSpec P B tl u T [] (gZ tc te size cellsOf inF outF B p nb) (gZ tc te size cellsOf inF outF B p nb) where
 lo:=fun h=>h.lt
 lo':=fun h=>h.lt
 frame:=fun h hk=>h.aW hk
 frame':=fun h hk=>h.aW hk
 append:=by
  intro w fp σ c vs h AQ hw;have h':=h;obtain ⟨fp0,hc,Em,Aj,hB,Am,CE⟩:=h';have A8:=AQ.small;obtain ⟨ia,il,ic,ka,kl,kc,rfl,h0,h1,h2,h3,h4⟩:=AQ.open;have AA:=bF (σ++[c]);have Ou:wts (σ++[c])≤2147483648:=hw;rw[length_append,length_singleton] at AA
  refine (L.append w _ _ fp0 hc (by omega) Em.1 c (.slice ia il ic) (.slice ka kl kc) A8).mono ?_
  rintro e w' ⟨he,Aq,Ak⟩
  refine ⟨he,h.after Aj Am ?_ Ak (fun d hd=>?_)⟩
  · rw[flatMap_append,flatMap_singleton,length_append,length_singleton]
    exact Aq
  · rcases mem_append.1 hd with hd|hd
    · exact CE d hd
    · rw[mem_singleton.1 hd]
      exact A8
 appendArr:=by
  intro w fp σ cs v xs h hs A8 hw;have h':=h;obtain ⟨fp0,hc,Em,Aj,hB,Am,CE⟩:=h';have AA:=bF (σ++cs);have Ou:wts (σ++cs)≤2147483648:=hw;have hn:=h.fns;rw[length_append] at AA
  refine (L.appendArr w B _ _ fp0 (by omega) hc Em.1 cs v xs hs A8 (by omega)).mono ?_
  rintro e w' ⟨he,Aq,Ak⟩
  refine ⟨he,h.after Aj Am ?_ Ak (fun d hd=>?_)⟩
  · rw[flatMap_append,length_append]
    exact Aq
  · rcases mem_append.1 hd with hd|hd
    · exact CE d hd
    · exact aI.small A8 d hd
 rows:=by
  intro w fp σ h;obtain ⟨fp0,⟨v,hp,Aa,_⟩,Em,Aj,hB,Am,CE⟩:=h;obtain ⟨a,c,rfl⟩:=ownsRow_shape Aa
  exact L.rows w a _ c (aJ.cell hp).1
 flat:=L.flat
 ahead:=L.ahead
 prepare:=⟨false,fun x w=>by simpa using L.prep x w,fun h=>by simpa using h⟩
 state:=⟨false,fun x w=>by simpa using L.stat x w,by simp⟩
 encode:=by
  intro w fp σ b fb bs h hw hb hd hl;obtain ⟨fp0,⟨v,hp,Aa,Eb,FV⟩,Em,Aj,hB,Am,CE⟩:=h;obtain ⟨a,c,rfl⟩:=ownsRow_shape Aa
  exact (L.encode w b fb bs a c σ hb (aJ.cell hp).1 Aa (fun k hk=>hd k ((Aj k).2 (.inl ((FV k).2 (.inr hk))))) CE hl).mono fun _ _ ⟨h1,h2,fb',h3,h4,_⟩=>⟨h1,h2,fb',h3,h4⟩
end
def SlS (S:Nat→Prop) (w:World) (size:Nat) (v:Value) (n:Nat) (xs:List Value):Prop :=
 xs.length=n*size∧∃ a c,v=.slice a n c∧n≤c∧c≤maxLen∧(a=none→n=0)∧∀ ad,a=some ad→S ad.block∧ad.spot=none∧∀ j u,xs[j]?=some u→w.cell? (ad.add j)=some u
mutual
def bZ (S:Nat→Prop) (w:World):Cell→List Value→Prop
 | .mk r0 r1 r2 r3 s null items keys,vs=>∃ iv kv ixs kxs,vs=[.int .u64 r0,.int .u64 r1,.int .u64 r2,.int .u64 r3,.string s,.bool null,iv,kv] ∧
  r0<18446744073709551616∧r1<18446744073709551616∧r2<18446744073709551616∧r3<18446744073709551616∧s.size≤65536 ∧
  SlS S w 8 iv items.length ixs∧bK S w items ixs∧SlS S w 8 kv keys.length kxs∧bK S w keys kxs
def bK (S:Nat→Prop) (w:World):List Cell→List Value→Prop
 | [],xs=>xs=[]
 | c :: cs,xs=>∃ vs rest,xs=vs++rest∧bZ S w c vs∧bK S w cs rest
end
theorem Addr.add_block (ad:Addr) (j:Nat):(ad.add j).block=ad.block:=by unfold Addr.add;split<;>rfl
theorem SlS.to {S S' F:Nat→Prop} {w w':World} {size n:Nat} {v:Value} {xs:List Value} (h:SlS S w size v n xs) (hf:Fr F w w') (hS:∀ q,S q→S' q∧¬ F q):SlS S' w' size v n xs:=by
 obtain ⟨hl,a,c,hv,BF,AP,h0,ha⟩:=h
 refine ⟨hl,a,c,hv,BF,AP,h0,fun ad D9=>?_⟩;obtain ⟨h1,h2,h3⟩:=ha ad D9
 refine ⟨(hS _ h1).1,h2,fun j u hj=>hf.aA (h3 j u hj) ?_⟩;rw[Addr.add_block]
 exact (hS _ h1).2
mutual
theorem bZ.to {S S' F:Nat→Prop} {w w':World} (hf:Fr F w w') (hS:∀ q,S q→S' q∧¬ F q):∀ (c:Cell) (vs:List Value),bZ S w c vs→bZ S' w' c vs
 | .mk r0 r1 r2 r3 s null items keys,vs=>by
  unfold bZ;rintro ⟨iv,kv,ixs,kxs,h0,h1,h2,h3,h4,h5,h6,h7,h8,h9⟩
  exact ⟨iv,kv,ixs,kxs,h0,h1,h2,h3,h4,h5,h6.to hf hS,bK.to hf hS _ _ h7,h8.to hf hS,bK.to hf hS _ _ h9⟩
theorem bK.to {S S' F:Nat→Prop} {w w':World} (hf:Fr F w w') (hS:∀ q,S q→S' q∧¬ F q):∀ (cs:List Cell) (xs:List Value),bK S w cs xs→bK S' w' cs xs
 | [],xs=>by unfold bK;exact id
 | c :: cs,xs=>by
  unfold bK;rintro ⟨vs,rest,h0,h1,h2⟩
  exact ⟨vs,rest,h0,bZ.to hf hS _ _ h1,bK.to hf hS _ _ h2⟩
end
theorem SlS.sl {S:Nat→Prop} {B:Nat} {w:World} {size n:Nat} {v:Value} {xs:List Value} (h:SlS S w size v n xs) (hS:∀ q,S q→q<B):Sl B w size v n xs:=by
 obtain ⟨hl,a,c,hv,BF,AP,h0,ha⟩:=h
 exact ⟨hl,a,c,hv,BF,AP,h0,fun ad D9=>⟨hS _ (ha ad D9).1,(ha ad D9).2⟩⟩
mutual
theorem bZ.inn {S:Nat→Prop} {B:Nat} {w:World} (hS:∀ q,S q→q<B):∀ (c:Cell) (vs:List Value),bZ S w c vs→bP B w c vs
 | .mk r0 r1 r2 r3 s null items keys,vs=>by
  unfold bZ bP;rintro ⟨iv,kv,ixs,kxs,h0,h1,h2,h3,h4,h5,h6,h7,h8,h9⟩
  exact ⟨iv,kv,ixs,kxs,h0,h1,h2,h3,h4,h5,h6.sl hS,bK.inn hS _ _ h7,h8.sl hS,bK.inn hS _ _ h9⟩
theorem bK.inn {S:Nat→Prop} {B:Nat} {w:World} (hS:∀ q,S q→q<B):∀ (cs:List Cell) (xs:List Value),bK S w cs xs→aI B w cs xs
 | [],xs=>by unfold bK aI;exact id
 | c :: cs,xs=>by
  unfold bK aI;rintro ⟨vs,rest,h0,h1,h2⟩
  exact ⟨vs,rest,h0,bZ.inn hS _ _ h1,bK.inn hS _ _ h2⟩
end
theorem bZ.mono {S S':Nat→Prop} {w:World} {c:Cell} {vs:List Value} (h:bZ S w c vs) (hS:∀ q,S q→S' q):bZ S' w c vs:=bZ.to (Fr.refl (fun _=>False) w) (fun q hq=>⟨hS q hq,id⟩) _ _ h
theorem bK.mono {S S':Nat→Prop} {w:World} {cs:List Cell} {vs:List Value} (h:bK S w cs vs) (hS:∀ q,S q→S' q):bK S' w cs vs:=bK.to (Fr.refl (fun _=>False) w) (fun q hq=>⟨hS q hq,id⟩) _ _ h
theorem bZ.length {S:Nat→Prop} {w:World}:∀ {c:Cell} {vs:List Value},bZ S w c vs→vs.length=8
 | .mk r0 r1 r2 r3 s null items keys,vs=>by
  unfold bZ;rintro ⟨iv,kv,ixs,kxs,rfl,_⟩
  rfl
theorem bK.length {S:Nat→Prop} {w:World}:∀ {cs:List Cell} {xs:List Value},bK S w cs xs→xs.length=cs.length*8
 | [],xs=>by unfold bK;rintro rfl;rfl
 | c :: cs,xs=>by
  unfold bK;rintro ⟨vs,rest,rfl,h1,h2⟩;rw[length_append,h1.length,bK.length h2,length_cons];omega
theorem bK.append {S:Nat→Prop} {w:World}:∀ {cs ds:List Cell} {xs ys:List Value},bK S w cs xs→bK S w ds ys→bK S w (cs++ds) (xs++ys)
 | [],ds,xs,ys=>by unfold bK;rintro rfl h;simpa using h
 | c :: cs,ds,xs,ys=>by
  intro h h';unfold bK at h;obtain ⟨vs,rest,rfl,h1,h2⟩:=h;rw[cons_append];unfold bK
  exact ⟨vs,rest++ys,by rw[append_assoc],h1,bK.append h2 h'⟩
theorem bK.one {S:Nat→Prop} {w:World} {c:Cell} {vs:List Value} (h:bZ S w c vs):bK S w [c] vs:=by
 unfold bK
 exact ⟨vs,[],by simp,h,by unfold bK;rfl⟩
theorem bK.nil {S:Nat→Prop} {w:World}:bK S w [] []:=by unfold bK;rfl
theorem bZ.full {S:Nat→Prop} {w:World}:∀ {c:Cell} {vs:List Value},bZ S w c vs→∃ (ia:Option Addr) (ic:Nat) (ka:Option Addr) (kc:Nat) (ixs kxs:List Value),
 vs=[.int .u64 c.r0,.int .u64 c.r1,.int .u64 c.r2,.int .u64 c.r3,.string c.s,.bool c.null,.slice ia c.items.length ic,.slice ka c.keys.length kc] ∧
  SlS S w 8 (.slice ia c.items.length ic) c.items.length ixs∧bK S w c.items ixs∧SlS S w 8 (.slice ka c.keys.length kc) c.keys.length kxs∧bK S w c.keys kxs
 | .mk r0 r1 r2 r3 s null items keys,vs=>by
  unfold bZ;rintro ⟨iv,kv,ixs,kxs,rfl,h0,h1,h2,h3,h4,hi,F7,hk,Dp⟩;obtain ⟨ia,ic,rfl,_⟩:=hi.2;obtain ⟨ka,kc,rfl,_⟩:=hk.2
  exact ⟨ia,ic,ka,kc,ixs,kxs,rfl,hi,F7,hk,Dp⟩
theorem mD (S:Nat→Prop) (w:World) (size:Nat):SlS S w size (.slice none 0 0) 0 []:=⟨by simp,none,0,rfl,Nat.le_refl _,Nat.zero_le _,fun _=>rfl,fun ad D9=>by cases D9⟩
theorem lD {S:Nat→Prop} {w:World} {e:TypeId} {size n:Nat} {v:Value} {xs:List Value} (h:w.ownsRow 0 e size v n xs) (hS:∀ q,v.ownBlock=some q→S q):SlS S w size v n xs:=by
 refine ⟨h.1,?_⟩;rcases h.2 with ⟨rfl,rfl⟩|⟨g,cap,cur,rfl,_,hb,BF,AP,_⟩
 · exact ⟨none,0,rfl,Nat.le_refl _,Nat.zero_le _,fun _=>rfl,fun ad D9=>by cases D9⟩
 · refine ⟨some ⟨g,0,none⟩,cap,rfl,BF,AP,nofun,fun ad D9=>?_⟩
   cases D9
   exact ⟨hS g rfl,rfl,fun j u hj=>World.ownsRow.cells h (g:=g) rfl j u hj⟩
def New (w w':World):Nat→Prop:=fun q=>w.heap.size≤q∧q<w'.heap.size
def aBz (w w':World):Nat→Prop:=fun q=>w.heap.size<q∧q<w'.heap.size
structure bU (lo:Nat) (w:World) (iv kv:Value) (is ks:List Cell) (ixs kxs:List Value) (S:Nat→Prop):Prop where
 oi:w.ownsRow 0 35 8 iv is.length ixs
 ok:w.ownsRow 0 35 8 kv ks.length kxs
 ci:bK S w is ixs
 ck:bK S w ks kxs
 hS:∀ q,S q→lo≤q∧q<w.heap.size∧iv.ownBlock≠some q∧kv.ownBlock≠some q
 li:∀ q,iv.ownBlock=some q→lo≤q
 lk:∀ q,kv.ownBlock=some q→lo≤q
 ne:∀ q,iv.ownBlock=some q→kv.ownBlock≠some q
theorem bU.nil (lo:Nat) (w:World):bU lo w (.slice none 0 0) (.slice none 0 0) [] [] [] [] (fun _=>False) :=
 ⟨World.ownsRow_nil _ _ _ _,World.ownsRow_nil _ _ _ _,bK.nil,bK.nil,fun _ h=>h.elim,by simp[Value.ownBlock],by simp[Value.ownBlock],by simp[Value.ownBlock]⟩
theorem bU.swap {lo:Nat} {w:World} {iv kv:Value} {is ks:List Cell} {ixs kxs:List Value} {S:Nat→Prop} (h:bU lo w iv kv is ks ixs kxs S):bU lo w kv iv ks is kxs ixs S :=
 ⟨h.ok,h.oi,h.ck,h.ci,fun q hq=>let ⟨a,b,c,d⟩:=h.hS q hq;⟨a,b,d,c⟩,h.lk,h.li,fun q h1 h2=>h.ne q h2 h1⟩
theorem bU.fr {lo:Nat} {w w':World} {iv kv:Value} {is ks:List Cell} {ixs kxs:List Value} {S F:Nat→Prop} (h:bU lo w iv kv is ks ixs kxs S) (hf:Fr F w w') (hF:∀ q,lo≤q→¬ F q):bU lo w' iv kv is ks ixs kxs S :=
 ⟨hf.owns h.oi fun q hq=>hF q (h.li q hq),hf.owns h.ok fun q hq=>hF q (h.lk q hq),bK.to hf (fun q hq=>⟨hq,hF q (h.hS q hq).1⟩) _ _ h.ci,bK.to hf (fun q hq=>⟨hq,hF q (h.hS q hq).1⟩) _ _ h.ck,
  fun q hq=>let ⟨a,b,c⟩:=h.hS q hq;⟨a,Nat.lt_of_lt_of_le b hf.size,c⟩,h.li,h.lk,h.ne⟩
theorem bU.push {lo:Nat} {w w1:World} {iv iv' kv:Value} {is ks:List Cell} {ixs kxs xs:List Value} {S S':Nat→Prop} {c:Cell} (AC:lo≤w.heap.size) (h:bU lo w iv kv is ks ixs kxs S) (hc:bZ S' w c xs)
 (Lt:∀ q,S' q→lo≤q∧q<w.heap.size∧iv.ownBlock≠some q∧kv.ownBlock≠some q) (ha:dE w w1 35 8 iv iv' (is.length+1) (ixs++xs)) :
 bU lo w1 iv' kv (is++[c]) ks (ixs++xs) kxs (fun q=>S q∨S' q)∧Fr (fun q=>lo≤q) w w1:=by
 have hg:=Fr.gX ha.2.1;have hs:=hg.size
 have MF:∀ q,iv'.ownBlock=some q→iv.ownBlock=some q∨q=w.heap.size:=fun q hq=>by
  rcases ha.2.2 with e|⟨e,-⟩
  · exact .inl (e▸hq)
  · rw[e] at hq
    simp only[Option.some.injEq] at hq
    exact .inr hq.symm
 have Am:∀ q,S q∨S' q→lo≤q∧q<w.heap.size∧iv.ownBlock≠some q∧kv.ownBlock≠some q:=fun q hq=>hq.elim (h.hS q) (Lt q)
 refine ⟨⟨by rw[length_append];exact ha.1,hg.owns h.ok fun q hq=>fun e=>h.ne q e hq,bK.append (bK.to hg (fun q hq=>⟨.inl hq,(h.hS q hq).2.2.1⟩) _ _ h.ci) (bK.one (bZ.to hg (fun q hq=>⟨.inr hq,(Lt q hq).2.2.1⟩) _ _ hc)),bK.to hg (fun q hq=>⟨.inl hq,(h.hS q hq).2.2.1⟩) _ _ h.ck,fun q hq=>?_,fun q hq=>?_,h.lk,fun q hq e=>?_⟩,hg.mono fun q _ e=>h.li q e⟩
 · obtain ⟨h1,h2,h3,h4⟩:=Am q hq
   refine ⟨h1,by omega,fun e=>?_,h4⟩;rcases MF q e with e|e
   · exact h3 e
   · omega
 · rcases MF q hq with e|e
   · exact h.li q e
   · omega
 · rcases MF q hq with e'|e'
   · exact h.ne q e' e
   · have:=aO h.ok e;omega
theorem jH:ElT Tryz.prog 31 35 (.agg #[.int .u64 0,.int .u64 0,.int .u64 0,.int .u64 0,.string ⟨#[]⟩,.bool false,.slice none 0 0,.slice none 0 0]) 8 104:=⟨underlying31,info_parts (by kernel_rfl),rfl⟩
theorem bU.low {lo lo':Nat} {w:World} {iv kv:Value} {is ks:List Cell} {ixs kxs:List Value} {S:Nat→Prop} (h:bU lo w iv kv is ks ixs kxs S) (hl:lo'≤lo):bU lo' w iv kv is ks ixs kxs S :=
 ⟨h.oi,h.ok,h.ci,h.ck,fun q hq=>⟨Nat.le_trans hl (h.hS q hq).1,(h.hS q hq).2⟩,fun q hq=>Nat.le_trans hl (h.li q hq),fun q hq=>Nat.le_trans hl (h.lk q hq),h.ne⟩
theorem bU.row {w0 w w3 w4:World} {iv iv' kv:Value} {is ks:List Cell} {ixs kxs xs:List Value} {S F:Nat→Prop} {c:Cell} {t:TypeId} (h0:Fr F w0 w) (h:bU w0.heap.size w iv kv is ks ixs kxs S) (hf:F0 w w3) (hc:bZ (New w w3) w3 c xs)
 (ha:dE (w3.alloc (.cells xs.toArray t)) w4 35 8 iv iv' (is.length+1) (ixs++xs)):(∃ S',bU w0.heap.size w4 iv' kv (is++[c]) ks (ixs++xs) kxs S')∧Fr F w0 w4:=by
 have BM:F0 w3 (w3.alloc (.cells xs.toArray t)):=(Fr.refl _ _).alloc _;have hs:=h0.size;have IJ:=hf.size;have hg:=(h.fr hf (fun _ _ h=>h)).fr BM (fun _ _ h=>h)
 obtain ⟨h1,h2⟩:=hg.push (by have:=BM.size;omega) (bZ.to (S':=New w w3) BM (fun _ hq=>⟨hq,id⟩) _ _ hc)
  (fun q hq=>⟨Nat.le_trans hs hq.1,Nat.lt_of_lt_of_le hq.2 BM.size,fun e=>by have:=aO h.oi e;have:=hq.1;omega,fun e=>by have:=aO h.ok e;have:=hq.1;omega⟩) ha
 exact ⟨⟨_,h1⟩,(((h0.trans hf fun _ _ h=>h.elim).trans BM fun _ _ h=>h.elim).trans h2 fun q hq h=>by omega)⟩
end Go.Proofs.YtcidlnjpabgioaaGreatDoor
