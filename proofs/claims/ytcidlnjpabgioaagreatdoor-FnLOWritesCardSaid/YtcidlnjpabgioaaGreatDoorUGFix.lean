import Derived.Lib.BufferWrite
import Derived.Test.YtcidlnjpabgioaaGreatDoorUGStr
set_option maxHeartbeats 1000000
set_option maxRecDepth 100000
namespace Go.Proofs.YtcidlnjpabgioaaGreatDoor
open Tryz List Go.RowKit
theorem aAC {P:Program} (w:World) (dT sT ty elem:TypeId) (g dLen dCap:Nat) (s:ByteArray) (cur:Array Value) (t:TypeId)
 (hu:P.underlying dT=some (.slice elem)) (hs:(P.info? elem).map (·.size)=some 1) (hg:w.heap[g]?=some (.cells cur t (0,0))) (DJ:dLen≤cur.size) :
 ∃ v,(Builtin.copy_ #[dT,sT] ty #[.slice (some ⟨g,0,none⟩) dLen dCap,.string s]).run P w=.ok v (w.setRow g ((aN s.data.toList).take dLen++cur.toList.drop (min s.size dLen)).toArray):=by
 have hl:((aN s.data.toList).take dLen).length=min s.size dLen:=by
  rw[length_take,aZ,Array.length_toList,Nat.min_comm]
  rfl
 have BD:=run_storeCells_at P g 0 t ((aN s.data.toList).take dLen) 0 cur w hg (by rw[hl];omega) (fun u hu=>by
  obtain ⟨c,_,rfl⟩:=mem_map.1 (mem_of_mem_take hu)
  rfl)
 simp only[Nat.add_zero] at BD
 have Rl:List.take (min s.size dLen) (List.map (fun b:UInt8=>Value.int IntKind.u8 (b.toNat:Int)) s.data.toList)=(aN s.data.toList).take dLen:=by
  rw[Nat.min_def]
  split
  · rename_i h
    show List.take s.size (aN _)=_;rw[take_of_length_le (by rw[aZ,Array.length_toList];exact Nat.le_refl _),take_of_length_le (by rw[aZ,Array.length_toList];exact h)]
  · rfl
 obtain ⟨i,hi,DX⟩:=Option.map_eq_some_iff.1 hs
 refine ⟨goInt (Nat.min s.size dLen:Nat),?_⟩;simp only[Builtin.copy_,Builtin.lenOf,Builtin.firstCells,sizeOf,typeInfo];simp[run_underlying hu,hi];rw[show s.size.min dLen=min s.size dLen from rfl,Rl,BD];simp[Result.andThen,hl]
theorem uZ {P:Program} {w:World} {ops:Array Oper} {rest:List Oper} {o:Oper} {a:Act} {Q:Exit→Act→World→Prop} (ax:o.guard=none) (d s:Operand) (dT sT:TypeId)
 (ho:o.op=.call { callee:=.builtin .copy,args:=#[d,s],argTypes:=#[dT,sT]}) (elem:TypeId) (hu:P.underlying dT=some (.slice elem)) (DX:(P.info? elem).map (·.size)=some 1)
 (g dLen dCap:Nat) (txt:ByteArray) (hd:a.eval d=.slice (some ⟨g,0,none⟩) dLen dCap) (hs:a.eval s=.string txt)
 (cur:Array Value) (t:TypeId) (hg:w.heap[g]?=some (.cells cur t (0,0))) (DJ:dLen≤cur.size)
 (h:∀ v,wpList P ops Q rest (a.put o.dst v) (w.setRow g ((aN txt.data.toList).take dLen++cur.toList.drop (min txt.size dLen)).toArray)):wpList P ops Q (o :: rest) a w:=by
 refine wpList_plain ax fun K hK=>?_
 obtain ⟨v,KT⟩:=aAC (P:=P) w dT sT o.type elem g dLen dCap txt cur t hu DX hg DJ;unfold Oper.wp;simp[execOp,ho,resolve,invoke,builtin,hd,hs,KT,Result.andThen]
 exact hK _ _ (h v)
theorem aLP {w1:World} {g n:Nat} (h:w1.ownsRow 0 5 1 (.slice (some ⟨g,0,none⟩) n n) n (madeCells (Value.int .u8 0).cells (n*1)).toList) :
 ∃ cur:Array Value,w1.heap[g]?=some (.cells cur 5 (0,0))∧cur.toList=List.replicate n (Value.int .u8 0):=by
 rcases h.2 with ⟨hv,_⟩|⟨g',cap,cur,hv,_,hg,BF,AP,A8,Dv⟩
 · cases hv
 · simp only[Value.slice.injEq,Option.some.injEq,Addr.mk.injEq] at hv
   obtain ⟨⟨rfl,_⟩,_,rfl⟩:=hv
   refine ⟨cur,hg,?_⟩;rw[take_of_length_le (by rw[Array.length_toList,A8];exact Nat.le_refl _)] at Dv;rw[Dv]
   apply ext_getElem
   · simp[madeCells]
   · intro i h1 h2
     simp[madeCells,Value.cells,Nat.mod_one]
theorem aEK (w:World) (s:ByteArray) (n:Nat) (hn:n≤1000) :
 Calls Tryz.prog 48 #[.string s,.int .i64 n] w fun e w'=>∃ tv,e=.returned tv∧w'.ownsRow 0 5 1 tv n (aN (fitted n s))∧(∀ q,tv.ownBlock=some q→w.heap.size≤q)∧F0 w w':=by
 obtain ⟨i,hi,hz,DX,Iy⟩:=gY.info;go_enter func48,ntmps48
 go_wp2_with (first
  | ((with_reducible show wpList _ _ _ (⟨some 7,_,_,_,_,_⟩ :: _) _ _);refine wpList_make_full w rfl _ _ _ rfl 0 _ i _ 1 gY.ht hi hz DX _ _ _ _ n rfl rfl rfl rfl (by rw[Iy];omega) (by unfold maxLen;omega) (Nat.zero_le _) ?_;intro w1 Aa hg)
  | ((with_reducible show wpList _ _ _ (⟨some 10,_,_,_,_,_⟩ :: _) _ _);obtain ⟨cur,Ag,H7⟩:=aLP Aa;refine uZ rfl _ _ _ _ rfl _ gY.ht (by rw[hi];simp[DX]) _ _ _ s rfl rfl cur _ Ag (by rw[← Array.length_toList,H7];simp) ?_;intro v;generalize hR:((aN s.data.toList).take n++cur.toList.drop (min s.size n)).toArray=R))
 go_ret;have hl:s.data.toList.length=s.size:=Array.length_toList
 have CQ:(aN s.data.toList).take n++cur.toList.drop (min s.size n)=aN (fitted n s):=by
  have e0:aN (s.data.toList.take n)=(aN s.data.toList).take n:=by simp[aN,map_take]
  have e1:n - min s.size n=min (n - s.size) n:=by omega
  rw[H7,fitted,take_append,hl,bC,e0,drop_replicate,take_replicate,aBD,e1]
 have Ip:(aN (fitted n s)).length=n:=by rw[aZ,fitted];simp
 rw[CQ] at hR;subst hR;have CG:=Fr.gX hg
 refine ⟨_,rfl,⟨by rw[Ip,Nat.mul_one],.inr ⟨w.heap.size,n,_,rfl,Nat.zero_le _,setRow_heap w1 _ cur _ _ _ Ag,Nat.le_refl _,by unfold maxLen;omega,?_,?_⟩⟩,?_,?_⟩
 · rw[size_toArray,Ip,Nat.mul_one]
 · rw[toList_toArray,take_of_length_le (by rw[Ip];omega)]
 · intro q hq
   have OX:(Value.slice (some ⟨w.heap.size,0,none⟩) n n).ownBlock=some q:=hq;simp only[Value.ownBlock,Option.some.injEq] at OX;omega
 · refine ⟨CG.os,CG.tape,CG.output,by have:=CG.size;simpa [World.setRow] using this,fun k hk _=>?_⟩
   rw[setRow_other w1 _ k _ (by omega)]
   exact CG.block k hk (by simp)
theorem aND:ElT Tryz.prog 176 22 (.slice none 0 0) 1 24:=⟨underlying176,info_parts (by kernel_rfl),rfl⟩
def fixes (m:Nat) (cs:List Cell):List UInt8:=cs.flatMap fun c=>fitted m c.s
theorem lG (m:Nat) (s:ByteArray):(fitted m s).length=m:=by simp[fitted]
theorem lW (m:Nat) (cs:List Cell):(fixes m cs).length=m*cs.length:=aY (fun c:Cell=>fitted m c.s) m (fun c=>lG m c.s) cs
theorem aBL (m:Nat) (a b:List Cell):fixes m (a++b)=fixes m a++fixes m b:=by simp[fixes]
def jB (w:World) (p m:Nat) (σ:List Cell) (fp:Nat→Prop):Prop :=
 ∃ v,w.heap[p]?=some (.cells #[v,.int .i64 m] 159 (0,0))∧w.ownsRow 0 5 1 v (m*σ.length) (aN (fixes m σ))∧v.ownBlock≠some p∧∀ k,fp k↔k=p∨v.ownBlock=some k
theorem jB.aW {w w':World} {p m:Nat} {σ:List Cell} {fp:Nat→Prop} (h:jB w p m σ fp) (hk:∀ k,fp k→w'.heap[k]?=w.heap[k]?):jB w' p m σ fp:=by
 obtain ⟨v,hp,Aa,Am,Aj⟩:=h
 refine ⟨v,(hk p ((Aj p).2 (.inl rfl))).trans hp,⟨Aa.1,?_⟩,Am,Aj⟩;rcases Aa.2 with h0|⟨g,cap,cur,rfl,hb,GX,rest⟩
 · exact .inl h0
 · exact .inr ⟨g,cap,cur,rfl,hb,(hk g ((Aj g).2 (.inr rfl))).trans GX,rest⟩
theorem jB.lt {w:World} {p m:Nat} {σ:List Cell} {fp:Nat→Prop} (h:jB w p m σ fp):∀ k,fp k→k<w.heap.size:=by
 obtain ⟨v,hp,Aa,Am,Aj⟩:=h;intro k hk;rcases (Aj k).1 hk with rfl|hk
 · exact aC hp
 · exact aO Aa hk
theorem jB.shape {w:World} {p m:Nat} {σ:List Cell} {fp:Nat→Prop} (h:jB w p m σ fp):fp p:=by
 obtain ⟨v,hp,Aa,Am,Aj⟩:=h
 exact (Aj p).2 (.inl rfl)
def gV (w:World) (m lo:Nat):List Value→List Cell→Prop
 | [],[]=>True
 | v :: vs,c :: cs=>(w.ownsRow 0 5 1 v m (aN (fitted m c.s))∧∀ q,v.ownBlock=some q→lo≤q)∧gV w m lo vs cs
 | _,_=>False
theorem gV.map {w w':World} {m lo lo':Nat} (hr:∀ v xs,w.ownsRow 0 5 1 v m xs→(∀ q,v.ownBlock=some q→lo≤q)→w'.ownsRow 0 5 1 v m xs∧∀ q,v.ownBlock=some q→lo'≤q):∀ {vs:List Value} {cs:List Cell},gV w m lo vs cs→gV w' m lo' vs cs
 | [],[],_=>trivial
 | v :: _,_ :: _,h=>⟨hr v _ h.1.1 h.1.2,gV.map hr h.2⟩
 | [],_ :: _,h=>h.elim
 | _ :: _,[],h=>h.elim
theorem gV.one {w:World} {m lo:Nat} {v:Value} {c:Cell} (h:w.ownsRow 0 5 1 v m (aN (fitted m c.s))) (hl:∀ q,v.ownBlock=some q→lo≤q):∀ {vs:List Value} {cs:List Cell},gV w m lo vs cs→gV w m lo (vs++[v]) (cs++[c])
 | [],[],_=>⟨⟨h,hl⟩,trivial⟩
 | _ :: _,_ :: _,k=>⟨k.1,gV.one h hl k.2⟩
 | [],_ :: _,k=>k.elim
 | _ :: _,[],k=>k.elim
theorem gV.at {w:World} {m lo:Nat}:∀ {vs:List Value} {cs:List Cell},gV w m lo vs cs→∀ k (hk:k<cs.length),∃ v,vs[k]?=some v∧w.ownsRow 0 5 1 v m (aN (fitted m cs[k].s))∧∀ q,v.ownBlock=some q→lo≤q
 | [],[],_,k,hk=>by simp at hk
 | v :: _,_ :: _,h,0,_=>⟨v,rfl,h.1.1,h.1.2⟩
 | _ :: _,_ :: _,h,k+1,hk=>by
  obtain ⟨v',h1,h2⟩:=gV.at h.2 k (by simpa using hk)
  exact ⟨v',by simpa using h1,by simpa using h2⟩
 | [],_ :: _,h,_,_=>h.elim
 | _ :: _,[],h,_,_=>h.elim
theorem aKr (w:World) (nb m:Nat) (r0 r1 r2 r3:Nat) (s:ByteArray) (null:Bool) (iv kv:Value) (hm:m≤1000) (hf:w.cell? ⟨nb,0,none⟩=some (.int .i64 m)) :
 Calls Tryz.prog 47 #[.agg #[.int .u64 r0,.int .u64 r1,.int .u64 r2,.int .u64 r3,.string s,.bool null,iv,kv],.pointer (some ⟨nb,0,none⟩)] w fun e w'=>∃ tv,e=.returned tv∧w'.ownsRow 0 5 1 tv m (aN (fitted m s))∧(∀ q,tv.ownBlock=some q→w.heap.size≤q)∧F0 w w':=by
 have Ey:∀ o,(w.alloc o).cell? ⟨nb,0,none⟩=some (.int .i64 m):=fun o=>(World.cell?_alloc_lt w o _ (World.block_lt_of_cell? w _ hf)).trans hf
 go_enter func47,ntmps47
 go_wp2_with (go_at_call 48;refine (aEK _ s m hm).mono ?_;rintro e w1 ⟨tv,rfl,Aa,hs,Ak⟩)
 go_ret
 exact ⟨_,rfl,Aa,fun q hq=>Nat.le_trans (by simp) (hs q hq),((Fr.refl _ w).alloc _).trans Ak (fun _ _ h=>h)⟩
theorem aBm {w0 w2:World} {tv tv' v:Value} {k n m:Nat} {vals ys xs:List Value} (ha:dE w0 w2 22 1 tv tv' n ys) (Aa:w0.ownsRow 0 22 1 tv k vals) (hv:w0.ownsRow 0 5 1 v m xs):w2.ownsRow 0 5 1 v m xs:=by
 refine (Fr.gX ha.2.1).owns hv (fun q hq e=>?_);rcases Aa.2 with ⟨rfl,_⟩|⟨g,cap,cur,rfl,_,hg,_⟩
 · simp[Value.ownBlock] at e
 · simp only[Value.ownBlock,Option.some.injEq] at e
   subst e
   exact ownsRow_ne hv hg (by decide) hq
theorem xN (w:World) (p m:Nat) (σ:List Cell) (fp:Nat→Prop) (h:jB w p m σ fp) (c:Cell) (tv:Value) (GK:w.ownsRow 0 5 1 tv m (aN (fitted m c.s))) (hm:1≤m∧m≤1000) (hn:σ.length<2147483648) :
 Calls Tryz.prog 303 #[.pointer (some ⟨p,0,none⟩),tv] w fun e w'=>e=.returned (.tuple #[])∧(∃ fp',jB w' p m (σ++[c]) fp'∧Grow w fp fp')∧Fr fp w w':=by
 obtain ⟨v,hp,Aa,Am,Aj⟩:=h;obtain ⟨a0,c0,rfl⟩:=ownsRow_shape Aa;obtain ⟨a1,c1,rfl⟩:=ownsRow_shape GK;have AZ:=aC hp;have d0:w.cell? ⟨p,0,none⟩=some (.slice a0 (m*σ.length) c0):=crw hp rfl;have d1:w.cell? ⟨p,1,none⟩=some (.int .i64 m):=crw hp rfl;have gu:m*σ.length≤1000*2147483648:=Nat.mul_le_mul hm.2 (by omega);have Di:¬ ((m:Int)=0):=by omega
 have Be:Src Tryz.prog 1 22 (.slice a1 m c1) m (aN (fitted m c.s)) w:=Src.kC underlying22 GK (fun u hu=>by obtain ⟨x,_,rfl⟩:=mem_map.1 hu;rfl);generalize hM:m*σ.length=M at hp Aa Am Aj d0 gu;go_enter func303,ntmps303
 go_wp2_with ((with_reducible show wpList _ _ _ (⟨some 28,_,_,_,_,_⟩ :: _) _ _);refine aP _ rfl gY _ _ rfl _ _ _ rfl Aa _ _ _ rfl Be ?_ ?_ ?_;(unfold maxLen;omega);omega;intro v' w1 ha;obtain ⟨a',c',rfl⟩:=ha.shape;obtain ⟨A8,FN⟩:=eP hp Am (Fr.refl _ w) ha;have d2:w1.cell? ⟨p,0,none⟩=some (.slice a0 M c0):=A8 0;have f2:=FN 0;have hA:=dW (i:=0) hp Aa Am (Fr.refl _ w) ha)
 obtain ⟨GI,BR,Ic,Gg,BZ⟩:=hA;have Xq:m*(σ++[c]).length=M+m:=by rw[length_append,length_singleton,Nat.mul_add,Nat.mul_one,hM]
 (try simp only[Exit.inBlock,Exit.then]);refine bodyPost_end (results_none rfl _ _ _) rfl ?_
 refine ⟨rfl,⟨fun k=>k=p∨(Value.slice a' (M+m) c').ownBlock=some k,⟨_,GI,?_,Ic,fun k=>Iff.rfl⟩,?_⟩,BZ.mono (fun k _ h=>(Aj k).2 h)⟩
 · have e:fixes m [c]=fitted m c.s:=by simp[fixes]
   rw[Xq,aBL,bC,e]
   exact BR
 · rintro k (rfl|hk)
   · exact .inl ((Aj k).2 (.inl rfl))
   · rcases Gg with e|e
     · exact .inl ((Aj k).2 (.inr (by rw[← e,hk])))
     · rw[e] at hk
       simp only[Option.some.injEq] at hk
       exact .inr (by omega)
theorem aAi (w:World) (p m:Nat) (σ:List Cell) (fp:Nat→Prop) (h:jB w p m σ fp) (cs:List Cell) (tv:Value) (vals:List Value) (Aa:w.ownsRow 0 22 1 tv cs.length vals) {lo:Nat} (DJ:gV w m lo vals cs) (hd:∀ k,tv.ownBlock=some k→¬ fp k) (AC:∀ k,fp k→¬ lo≤k)
 (hm:1≤m∧m≤1000) (hn:σ.length+cs.length≤2147483648) :
 Calls Tryz.prog 304 #[.pointer (some ⟨p,0,none⟩),tv] w fun e w'=>e=.returned (.tuple #[])∧(∃ fp',jB w' p m (σ++cs) fp'∧Grow w fp fp')∧Fr fp w w':=by
 obtain ⟨a,c,rfl⟩:=ownsRow_shape Aa;have AP:cs.length≤9223372036854775807:=by omega
 go_enter func304,ntmps304;go_wp2
 go_loopw [5,8] (fun _ i wr=>∃ (k:Nat) (fpk:Nat→Prop),k≤cs.length∧i=.int .i64 k∧jB wr p m (σ++cs.take k) fpk∧Grow w fp fpk∧Fr fp w wr) (fun _ i _=>cs.length - (intOf i).toNat)
 case atStart=>exact ⟨0,fp,Nat.zero_le _,rfl,by simpa using h,fun k hk=>.inl hk,Fr.refl _ _⟩
 case round =>
  obtain ⟨k,fpk,hk,rfl,AL,hg,Ak⟩:=hrel
  by_cases Ar:k<cs.length
  · have Ap:=Ak.owns Aa hd
    rcases Ap.2 with ⟨hv,_⟩|⟨ga,capa,cura,hv,_⟩
    · simp only[Value.slice.injEq] at hv;omega
    · simp only[Value.slice.injEq] at hv
      obtain ⟨rfl,_,rfl⟩:=hv;obtain ⟨ev,he,OA,FB⟩:=DJ.at k Ar;have hx:=Ap.cells (g:=ga) rfl k _ he;have Tf:=Ak.owns OA (fun q hq h=>AC q h (FB q hq));have Ah:=take_succ_eq_append_getElem Ar;generalize cs[k]=cc at OA Tf Ah;rw[Addr.add_lit,Nat.zero_add] at hx;obtain ⟨ea,ec,rfl⟩:=ownsRow_shape OA;have Hz:=xN wr p m _ fpk AL cc _ Tf hm (by simp;omega)
      go_wp2_with (go_at_call 303;refine Hz.mono ?_;rintro e w1 ⟨rfl,⟨fp',FQ,I8⟩,JD⟩)
      go_roundw
      case rel =>
       refine ⟨k+1,fp',by omega,by go_num,?_,?_,?_⟩
       · rw[Ah,← append_assoc];exact FQ
       · exact fun q hq=>(I8 q hq).elim (hg q) (fun h=>.inr (Nat.le_trans Ak.size h))
       · exact Ak.trans JD (fun q hq h=>(hg q h).resolve_right (by omega))
      case measure=>simp[intOf];omega
  · have Bl:k=cs.length:=by omega
    subst Bl;rw[take_length] at AL;go_wp2;go_end0
    exact ⟨rfl,⟨fpk,AL,hg⟩,Ak⟩
theorem aBK (a:Addr) (w:World):(method mdp 157 (.pointer (some a)) "Append").run Tryz.prog w=.ok (303,.pointer (some a)) w:=by kernel_rfl
theorem wJ (a:Addr) (w:World):(method mdp 157 (.pointer (some a)) "AppendArr").run Tryz.prog w=.ok (304,.pointer (some a)) w:=by kernel_rfl
theorem xO (w:World) (p nb m:Nat) (σ:List Cell) (fp:Nat→Prop) (hc:jB w p m σ fp) (c:Cell) (hm:1≤m∧m≤1000) (hn:σ.length<2147483648) (hf:w.cell? ⟨nb,0,none⟩=some (.int .i64 m))
 (r0 r1 r2 r3:Nat) (null:Bool) (iv kv:Value) :
 Calls Tryz.prog 312 #[.agg #[.iface 157 (.pointer (some ⟨p,0,none⟩)),.func (.func 47) #[] #[.pointer (some ⟨nb,0,none⟩)],.func (.func 49) #[] #[]],.agg #[.int .u64 r0,.int .u64 r1,.int .u64 r2,.int .u64 r3,.string c.s,.bool null,iv,kv]] w fun e w' =>
  e=.returned (.tuple #[])∧(∃ fp',jB w' p m (σ++[c]) fp'∧Grow w fp fp')∧Fr fp w w':=by
 go_enter func312,ntmps312
 go_wp2_with fail
 generalize hW:(w.alloc _).alloc _=W;have Af:F0 w W:=by subst hW;exact ((Fr.refl _ w).alloc _).alloc _
 have d0:W.cell? ⟨w.heap.size,0,none⟩=some (.iface 157 (.pointer (some ⟨p,0,none⟩))):=by subst hW;rw[ca (by simp),aB rfl];rfl
 have d1:W.cell? ⟨w.heap.size,1,none⟩=some (.func (.func 47) #[] #[.pointer (some ⟨nb,0,none⟩)]):=by subst hW;rw[ca (by simp),aB rfl];rfl
 have e0:W.cell? ⟨w.heap.size+1,0,none⟩=some (.int .u64 r0):=by subst hW;rw[aB (by simp)];rfl
 have e1:W.cell? ⟨w.heap.size+1,1,none⟩=some (.int .u64 r1):=by subst hW;rw[aB (by simp)];rfl
 have e2:W.cell? ⟨w.heap.size+1,2,none⟩=some (.int .u64 r2):=by subst hW;rw[aB (by simp)];rfl
 have e3:W.cell? ⟨w.heap.size+1,3,none⟩=some (.int .u64 r3):=by subst hW;rw[aB (by simp)];rfl
 have e4:W.cell? ⟨w.heap.size+1,4,none⟩=some (.string c.s):=by subst hW;rw[aB (by simp)];rfl
 have e5:W.cell? ⟨w.heap.size+1,5,none⟩=some (.bool null):=by subst hW;rw[aB (by simp)];rfl
 have e6:W.cell? ⟨w.heap.size+1,6,none⟩=some iv:=by subst hW;rw[aB (by simp)];rfl
 have e7:W.cell? ⟨w.heap.size+1,7,none⟩=some kv:=by subst hW;rw[aB (by simp)];rfl
 have BA:jB W p m σ fp:=hc.aW fun k hk=>Af.block k (hc.lt k hk) (fun h=>h)
 have Aw:W.cell? ⟨nb,0,none⟩=some (.int .i64 m):=Af.aA hf (fun h=>h);have hN:¬ fp w.heap.size:=fun h=>by have:=hc.lt _ h;omega
 have AU:¬ fp (w.heap.size+1):=fun h=>by have:=hc.lt _ h;omega
 clear hW
 go_region_held3 (fun w'=>w'.cell? ⟨w.heap.size,0,none⟩=some (.iface 157 (.pointer (some ⟨p,0,none⟩)))∧w'.cell? ⟨w.heap.size,1,none⟩=some (.func (.func 47) #[] #[.pointer (some ⟨nb,0,none⟩)]) ∧
  w'.cell? ⟨w.heap.size+1,0,none⟩=some (.int .u64 r0)∧w'.cell? ⟨w.heap.size+1,1,none⟩=some (.int .u64 r1)∧w'.cell? ⟨w.heap.size+1,2,none⟩=some (.int .u64 r2)∧w'.cell? ⟨w.heap.size+1,3,none⟩=some (.int .u64 r3) ∧
  w'.cell? ⟨w.heap.size+1,4,none⟩=some (.string c.s)∧w'.cell? ⟨w.heap.size+1,5,none⟩=some (.bool null)∧w'.cell? ⟨w.heap.size+1,6,none⟩=some iv∧w'.cell? ⟨w.heap.size+1,7,none⟩=some kv)
  (first
   | exact ⟨d0,d1,e0,e1,e2,e3,e4,e5,e6,e7⟩
   | exact ⟨Ae.aA d0 hN,Ae.aA d1 hN,Ae.aA e0 AU,Ae.aA e1 AU,Ae.aA e2 AU,Ae.aA e3 AU,Ae.aA e4 AU,Ae.aA e5 AU,Ae.aA e6 AU,Ae.aA e7 AU⟩
   | exact ⟨Ad.aA d0 (fun h=>h),Ad.aA d1 (fun h=>h),Ad.aA e0 (fun h=>h),Ad.aA e1 (fun h=>h),Ad.aA e2 (fun h=>h),Ad.aA e3 (fun h=>h),Ad.aA e4 (fun h=>h),Ad.aA e5 (fun h=>h),Ad.aA e6 (fun h=>h),Ad.aA e7 (fun h=>h)⟩
   | assumption)
  (first
   | (refine aK _ rfl ?_;refine dI _ _ _ _ rfl _ _ rfl (bM.func1 call47 (aKr _ nb m r0 r1 r2 r3 c.s null iv kv hm.2 Aw)) rfl ?_;rintro e w1 ⟨tv,rfl,Aa,Ai,Ad⟩;refine ⟨_,rfl,?_⟩)
   | (refine aK _ rfl ?_;refine bH _ _ _ _ _ rfl _ _ rfl (aF.of1 (aBK _ _) call303 (xN _ p m σ fp (BA.aW fun k hk=>Ad.block k (BA.lt k hk) (fun h=>h)) c tv Aa hm hn)) rfl ?_;rintro e w2 ⟨rfl,Aq,Au⟩;have Ae:Fr fp W w2:=(Ad.aH.mono (fun _ _ h=>h.elim)).trans Au (fun _ _ h=>h);refine ⟨_,rfl,?_⟩))
 all_goals
  go_end0
  refine ⟨rfl,?_,(Af.mono (fun _ _ h=>h.elim)).trans Ae (fun _ _ h=>h)⟩;obtain ⟨fp',h1,h2⟩:=Aq
  exact ⟨fp',h1,fun k hk=>(h2 k hk).imp id (fun h=>Nat.le_trans (Nat.le_trans Af.size Ad.size) h)⟩
theorem aEO (w:World) (B nb m:Nat) (Bd:B≤w.heap.size) (hm:m≤1000) (hf:w.cell? ⟨nb,0,none⟩=some (.int .i64 m)) (cs:List Cell) (v:Value) (xs:List Value) (hs:Sl B w 8 v cs.length xs) (hc:aI B w cs xs) (hn:cs.length≤2147483648) :
 Calls Tryz.prog 315 #[v,.func (.func 47) #[] #[.pointer (some ⟨nb,0,none⟩)]] w fun e w'=>∃ tv,e=.returned tv∧(∃ vals,w'.ownsRow 0 22 1 tv cs.length vals∧gV w' m w.heap.size vals cs)∧(∀ q,tv.ownBlock=some q→w.heap.size≤q)∧F0 w w':=by
 have CB:=hs;obtain ⟨Dy,ao,cap,rfl,BF,AP,h0,ha⟩:=hs;unfold maxLen at AP;clear ha h0 Dy;go_enter func315,ntmps315;go_wp2
 go_loopw [5,10] (fun tv i wr=>∃ (k:Nat) (vals:List Value),k≤cs.length∧i=.int .i64 k∧wr.ownsRow 0 22 1 tv k vals∧gV wr m w.heap.size vals (cs.take k)∧(∀ q,tv.ownBlock=some q→w.heap.size≤q)∧F0 w wr) (fun _ i _=>cs.length - (intOf i).toNat)
 case atStart=>exact ⟨0,[],Nat.zero_le _,rfl,World.ownsRow_nil _ _ _ _,trivial,by simp[Value.ownBlock],Fr.refl _ _⟩
 case round =>
  obtain ⟨k,vals,hk,rfl,Aa,DJ,Ai,Ak⟩:=hrel;have Bf:Below B w wr:=Ak.below Bd (fun _ _ h=>h);obtain ⟨a0,c0,rfl⟩:=ownsRow_shape Aa
  by_cases Ar:k<cs.length
  · obtain ⟨b,off,cap',hv,FT,vs,AQ,Ac⟩:=(CB.below Bf).row (aI.below Bf _ _ hc) Ar
    have Ah:=Lib.hid (take_succ_eq_append_getElem Ar);generalize cs[k]=c at AQ Ah;obtain ⟨ia,il,ic,ka,kl,kc,rfl,h0,h1,h2,h3,h4⟩:=AQ.open;simp only[Value.slice.injEq] at hv;obtain ⟨rfl,_,rfl⟩:=hv;have d0:=Ac 0 _ rfl;have d1:=Ac 1 _ rfl;have d2:=Ac 2 _ rfl;have d3:=Ac 3 _ rfl;have d4:=Ac 4 _ rfl;have d5:=Ac 5 _ rfl;have d6:=Ac 6 _ rfl;have d7:=Ac 7 _ rfl;simp only[Nat.add_zero] at d0;have BM:F0 w (wr.alloc (.cells #[.int .u64 c.r0,.int .u64 c.r1,.int .u64 c.r2,.int .u64 c.r3,.string c.s,.bool c.null,.slice ia il ic,.slice ka kl kc] 35)):=Ak.alloc _;have EN:=aKr _ nb m c.r0 c.r1 c.r2 c.r3 c.s c.null (.slice ia il ic) (.slice ka kl kc) hm (BM.aA hf (fun h=>h));clear Ac AQ CB hc
    go_wp2_with (first|((with_reducible show wpList _ _ _ (⟨some 17,_,_,_,_,_⟩ :: _) _ _);refine dG _ rfl _ _ _ rfl _ _ rfl (bM.func1 call47 EN) rfl ?_;rintro e w1 ⟨ev,rfl,OA,WH,Ad⟩;obtain ⟨ea,ec,rfl⟩:=ownsRow_shape OA;refine ⟨_,rfl,?_⟩;have Bv:F0 w w1:=BM.trans Ad (fun _ _ h=>h);have Ba:=Ad.owns ((Fr.refl (fun _=>False) wr).alloc _ |>.owns Aa (fun _ _ h=>h)) (fun _ _ h=>h))|((with_reducible show wpList _ _ _ (⟨some 19,_,_,_,_,_⟩ :: _) _ _);refine aP _ rfl aND _ _ rfl _ _ _ rfl (Ba.alloc _) _ _ _ rfl (Src.ofSlice _ underlying176 _ _ _ _ rfl (bG _ [.slice ea m ec] _) (by simp[Value.oneCell'])) ?_ ?_ ?_;(unfold maxLen;omega);omega;intro v' w2 ha;obtain ⟨a',c',rfl⟩:=ha.shape))
    go_roundw
    case rel=>
     refine ⟨k+1,_,by omega,by go_num,ha.1,?_,(ha.since (Bv.alloc _) Ai).1,(ha.since (Bv.alloc _) Ai).2⟩;rw[Ah.out]
     exact gV.one (aBm ha (Ba.alloc _) (OA.alloc _)) (fun q hq=>Nat.le_trans (by have:=Ak.size;simp;omega) (WH q hq)) (DJ.map fun v xs hv hl=>⟨aBm ha (Ba.alloc _) ((Ad.owns ((Fr.refl (fun _=>False) wr).alloc _ |>.owns hv (fun _ _ h=>h)) (fun _ _ h=>h)).alloc _),hl⟩)
    case measure=>simp[intOf];omega
  · have Bl:k=cs.length:=by omega
    subst Bl;rw[take_length] at DJ;go_wp2;go_ret
    exact ⟨_,rfl,⟨_,Aa,DJ⟩,Ai,Ak⟩
theorem qN (w:World) (B p nb m:Nat) (Bd:B≤w.heap.size) (σ:List Cell) (fp:Nat→Prop) (hc:jB w p m σ fp) (hm:1≤m∧m≤1000) (hf:w.cell? ⟨nb,0,none⟩=some (.int .i64 m))
 (cs:List Cell) (v:Value) (ys:List Value) (hs:Sl B w 8 v cs.length ys) (A8:aI B w cs ys) (hn:σ.length+cs.length≤2147483648) :
 Calls Tryz.prog 313 #[.agg #[.iface 157 (.pointer (some ⟨p,0,none⟩)),.func (.func 47) #[] #[.pointer (some ⟨nb,0,none⟩)],.func (.func 49) #[] #[]],v] w fun e w' =>
  e=.returned (.tuple #[])∧(∃ fp',jB w' p m (σ++cs) fp'∧Grow w fp fp')∧Fr fp w w':=by
 go_enter func313,ntmps313
 go_wp2_with fail
 generalize hW:w.alloc _=W;have Af:F0 w W:=by subst hW;exact (Fr.refl _ w).alloc _
 have d0:W.cell? ⟨w.heap.size,0,none⟩=some (.iface 157 (.pointer (some ⟨p,0,none⟩))):=by subst hW;rw[aB rfl];rfl
 have d1:W.cell? ⟨w.heap.size,1,none⟩=some (.func (.func 47) #[] #[.pointer (some ⟨nb,0,none⟩)]):=by subst hW;rw[aB rfl];rfl
 have BA:jB W p m σ fp:=hc.aW fun k hk=>Af.block k (hc.lt k hk) (fun h=>h)
 have Aw:W.cell? ⟨nb,0,none⟩=some (.int .i64 m):=Af.aA hf (fun h=>h);have hN:¬ fp w.heap.size:=fun h=>by have:=hc.lt _ h;omega
 have D6:=hs.fr Bd Af;have Cf:=aI.below (Af.below Bd (fun _ _ h=>h)) _ _ A8;have CZ:B≤W.heap.size:=Nat.le_trans Bd Af.size;have EX:=D6.fr CZ (Fr.refl (fun _=>False) W).drew;have Ce:=aI.below ((Below.refl B W).drew) _ _ Cf;clear hW hs A8
 go_region_held3 (fun w'=>w'.cell? ⟨w.heap.size,0,none⟩=some (.iface 157 (.pointer (some ⟨p,0,none⟩)))∧w'.cell? ⟨w.heap.size,1,none⟩=some (.func (.func 47) #[] #[.pointer (some ⟨nb,0,none⟩)]))
  (first
   | exact ⟨d0,d1⟩
   | exact ⟨Ae.aA d0 hN,Ae.aA d1 hN⟩
   | exact ⟨Ad.aA d0 (fun h=>h),Ad.aA d1 (fun h=>h)⟩
   | assumption)
  (first
   | (go_at_call 315;refine (aEO W.drew B nb m CZ hm.2 Aw cs v ys EX Ce (by omega)).mono ?_;rintro e w1 ⟨tv,rfl,⟨vals,Aa,DJ⟩,Ai,Ad⟩)
   | (refine aK _ rfl ?_;refine bH _ _ _ _ _ rfl _ _ rfl (aF.of1 (wJ _ _) call304 (aAi _ p m σ fp (BA.aW fun k hk=>Ad.block k (BA.lt k hk) (fun h=>h)) cs tv vals Aa DJ (fun k hk h=>Nat.lt_irrefl _ (Nat.lt_of_lt_of_le (BA.lt k h) (Ai k hk))) (fun k hk h=>Nat.lt_irrefl _ (Nat.lt_of_lt_of_le (BA.lt k hk) h)) hm hn)) rfl ?_;rintro e w2 ⟨rfl,Aq,Au⟩;have Ae:Fr fp W w2:=(Ad.aH.mono (fun _ _ h=>h.elim)).trans Au (fun _ _ h=>h);refine ⟨_,rfl,?_⟩))
 all_goals
  go_end0
  refine ⟨rfl,?_,(Af.mono (fun _ _ h=>h.elim)).trans Ae (fun _ _ h=>h)⟩;obtain ⟨fp',h1,h2⟩:=Aq
  exact ⟨fp',h1,fun k hk=>(h2 k hk).imp id (fun h=>Nat.le_trans (Nat.le_trans Af.size Ad.size) h)⟩
theorem rG {w:World} {a:Addr} {u v:Value} (h0:w.cell? a=some u) (h1:w.cell? (a.add 1)=some v):(loadVar 159 a).run Tryz.prog w=.ok (.agg #[u,v]) w:=by
 have h:(Tryz.prog.info? 159).map (·.size)=some 2:=by kernel_rfl
 obtain ⟨i,hi,hs⟩:=Option.map_eq_some_iff.1 h
 exact rH underlying159 hi hs h0 h1
theorem ownsRow_le {w:World} {base:Nat} {e:TypeId} {size:Nat} {v:Value} {n:Nat} {xs:List Value} (h:w.ownsRow base e size v n xs):n≤maxLen:=by
 rcases h.2 with ⟨_,rfl⟩|⟨g,cap,cur,rfl,_,_,BF,AP,_⟩
 · exact Nat.zero_le _
 · omega
theorem aKv (w:World) (a:Option Addr) (c m k:Nat) (hm:1≤m∧m≤1000) (hk:m*k≤maxLen):Calls Tryz.prog 309 #[.agg #[.slice a (m*k) c,.int .i64 m]] w fun e w'=>e=.returned (.int .i64 k)∧F0 w w':=by
 have Di:¬ ((m:Int)=0):=by omega
 have E5:¬ ((m:Int)=-1):=by omega
 have hq:wrap64 (((m*k:Nat):Int) / (m:Int))=k:=by
  have e:((m*k:Nat):Int) / (m:Int)=k:=by rw[Int.natCast_mul];exact Int.mul_ediv_cancel_left _ Di
  have Vs:k≤m*k:=Nat.le_mul_of_pos_left k (by omega);unfold maxLen at hk;rw[e];unfold wrap64;omega
 unfold maxLen at hk;generalize hM:m*k=M at hk hq;go_enter func309,ntmps309;go_wp2;go_ret
 exact ⟨by rw[← hq];rfl,(Fr.refl _ w).alloc _⟩
theorem aEM (w:World) (b:Nat) (fb:Nat→Prop) (bs:List UInt8) (hb:Buf w b fb bs) (v:Value) (m:Nat) (cs:List Cell) (Aa:w.ownsRow 0 5 1 v (m*cs.length) (aN (fixes m cs))) (hl:bs.length+(fixes m cs).length≤1099511627776) :
 Calls Tryz.prog 306 #[.agg #[v,.int .i64 m],.pointer (some ⟨b,0,none⟩)] w fun e w'=>e=.returned (.tuple #[])∧Fr fb w w'∧∃ fb',Buf w' b fb' (bs++fixes m cs)∧Grow w fb fb':=by
 obtain ⟨a1,c1,rfl⟩:=ownsRow_shape Aa;rw[lW] at hl;go_enter func306,ntmps306
 go_wp2_with fail
 generalize hM:m*cs.length=M at Aa hl;generalize hW:w.alloc _=W;have Aw:F0 w W:=by subst hW;exact (Fr.refl _ w).alloc _
 have q0:W.cell? ⟨w.heap.size,0,none⟩=some (.slice a1 M c1):=by subst hW;rw[aB rfl];rfl
 have KE:Buf W b fb bs:=aJ.aW hb fun k hk=>Aw.block k (aJ.lt hb k hk) (fun h=>h)
 have Bi:=Aw.owns Aa (fun _ _ h=>h);clear hW;obtain ⟨vb,hp,Bh,Am,Aj⟩:=KE;obtain ⟨Ac,BH⟩:=aJ.cell hp;obtain ⟨a0,c0,rfl⟩:=ownsRow_shape Bh;have AZ:=aC hp;have Be:Src Tryz.prog 1 22 (.slice a1 M c1) M (aN (fixes m cs)) W.drew:=Src.kC (w:=W.drew) underlying22 Bi (fun u hu=>by obtain ⟨x,_,rfl⟩:=mem_map.1 hu;rfl)
 go_region_law (refine aK _ rfl ?_;refine dJ _ gY _ _ rfl _ _ _ rfl Bh _ _ _ rfl Be ?_ ?_ ?_;(unfold maxLen;omega);omega;intro v' w2 ha;obtain ⟨a',c',rfl⟩:=ha.shape;have IV:w2.cell? ⟨b,0,none⟩=some (.slice a0 bs.length c0):=ha.2.1.cell Ac (fun h=>Am h.symm);have Ae:w2.frozen? ⟨b,0,none⟩=false:=(World.frozen?_of_block (ha.2.1.block b AZ (fun h=>Am h.symm))).trans BH)
 all_goals
  obtain ⟨⟨fb',Aq,hg⟩,Ak⟩:=aJ.appended hp Bh Am Aj ((Fr.refl _ W).drew) ha;go_end0;have AA:(bs++fixes m cs).length=bs.length+M:=by rw[length_append,lW,hM]
  exact ⟨rfl,(Aw.mono (fun _ _ h=>h.elim)).trans Ak (fun _ _ h=>h),fb',Buf.col.2 (by rw[AA,bC];exact Aq),fun k hk=>(hg k hk).imp id (fun h=>Nat.le_trans Aw.size h)⟩
def aBJ (B p nb m:Nat) (w:World) (fp:Nat→Prop) (σ:List Cell):Prop :=
 ∃ fp0,jB w p m σ fp0∧w.cell? ⟨nb,0,none⟩=some (.int .i64 m)∧(∀ k,fp k↔fp0 k∨k=nb)∧(∀ k,fp k→B≤k)∧(¬ fp0 nb)∧∀ c∈σ,c.small
theorem aAY (p nb:Nat) (w:World) (name:String) (f:FuncId) (h:(name,f)=("Append",312)∨(name,f)=("AppendArr",313)):(method mdp 166 (.agg #[.iface 157 (.pointer (some ⟨p,0,none⟩)),.func (.func 47) #[] #[.pointer (some ⟨nb,0,none⟩)],.func (.func 49) #[] #[]]) name).run Tryz.prog w=.ok (f,.agg #[.iface 157 (.pointer (some ⟨p,0,none⟩)),.func (.func 47) #[] #[.pointer (some ⟨nb,0,none⟩)],.func (.func 49) #[] #[]]) w:=by
 rcases h with h|h<;>(simp only[Prod.mk.injEq] at h;obtain ⟨rfl,rfl⟩:=h;kernel_rfl)
theorem aEN (p nb:Nat) (w:World) (u v:Value) (h0:w.cell? ⟨p,0,none⟩=some u) (h1:w.cell? ⟨p,1,none⟩=some v):(method mdp 166 (.agg #[.iface 157 (.pointer (some ⟨p,0,none⟩)),.func (.func 47) #[] #[.pointer (some ⟨nb,0,none⟩)],.func (.func 49) #[] #[]]) "Rows").run Tryz.prog w=.ok (309,.agg #[u,v]) w:=by
 obtain ⟨n,hn⟩:=fuel;rw[hn]
 refine (aX (n:=n+1) underlying166 rfl rfl (fun _=>by kernel_rfl) (by kernel_rfl) rfl).trans ?_
 exact aQ (n:=n) false (by kernel_rfl) (aU underlying157 (rG h0 (by simpa [Addr.add] using h1)))
theorem aHT (p nb:Nat) (w:World) (u v:Value) (h0:w.cell? ⟨p,0,none⟩=some u) (h1:w.cell? ⟨p,1,none⟩=some v):(method mdp 166 (.agg #[.iface 157 (.pointer (some ⟨p,0,none⟩)),.func (.func 47) #[] #[.pointer (some ⟨nb,0,none⟩)],.func (.func 49) #[] #[]]) "EncodeColumn").run Tryz.prog w=.ok (306,.agg #[u,v]) w:=by
 obtain ⟨n,hn⟩:=fuel;rw[hn]
 refine (aX (n:=n+1) underlying166 rfl rfl (fun _=>by kernel_rfl) (by kernel_rfl) rfl).trans ?_
 exact aQ (n:=n) false (by kernel_rfl) (aU underlying157 (rG h0 (by simpa [Addr.add] using h1)))
theorem aBJ.nb {B p nb m:Nat} {w:World} {fp:Nat→Prop} {σ:List Cell} (h:aBJ B p nb m w fp σ):nb<w.heap.size∧B≤nb:=by
 obtain ⟨fp0,hc,Em,Aj,hB,Am,CE⟩:=h
 exact ⟨World.block_lt_of_cell? w _ Em,hB nb ((Aj nb).2 (.inr rfl))⟩
theorem aBJ.after {B p nb m:Nat} {w w':World} {fp fp0:Nat→Prop} {σ τ:List Cell} (h:aBJ B p nb m w fp σ) (Aj:∀ k,fp k↔fp0 k∨k=nb) (Am:¬ fp0 nb)
 (hc:∃ fp',jB w' p m τ fp'∧Grow w fp0 fp') (Ak:Fr fp0 w w') (CE:∀ c∈τ,c.small) :
 Fr fp w w'∧∃ fp',aBJ B p nb m w' fp' τ∧Grow w fp fp':=by
 obtain ⟨Ar,VM⟩:=h.nb;obtain ⟨_,_,Em,_,hB,_,_⟩:=h;obtain ⟨fp',Aq,hg⟩:=hc
 refine ⟨Ak.mono (fun k _ hk=>(Aj k).2 (.inl hk)),fun k=>fp' k∨k=nb,⟨fp',Aq,Ak.aA Em Am,fun k=>Iff.rfl,?_,?_,CE⟩,?_⟩
 · rintro k (hk|rfl)
   · rcases hg k hk with hk|hk
     · exact hB k ((Aj k).2 (.inl hk))
     · omega
   · exact VM
 · intro hk
   rcases hg nb hk with hk|hk
   · exact Am hk
   · omega
 · rintro k (hk|rfl)
   · exact (hg k hk).imp (fun hk=>(Aj k).2 (.inl hk)) id
   · exact .inl ((Aj k).2 (.inr rfl))
theorem aKw (B p nb m:Nat) (hm:1≤m∧m≤1000):ColSpec Tryz.prog B 166 (.agg #[.iface 157 (.pointer (some ⟨p,0,none⟩)),.func (.func 47) #[] #[.pointer (some ⟨nb,0,none⟩)],.func (.func 49) #[] #[]]) (.fix m) [] (aBJ B p nb m) (aBJ B p nb m) where
 lo:=by
  intro w fp σ h k hk;have hn:=h.nb;obtain ⟨fp0,hc,Em,Aj,hB,Am,CE⟩:=h
  refine ⟨hB k hk,?_⟩;rcases (Aj k).1 hk with hk|rfl
  · exact hc.lt k hk
  · exact hn.1
 lo':=by
  intro w fp σ h k hk;have hn:=h.nb;obtain ⟨fp0,hc,Em,Aj,hB,Am,CE⟩:=h
  refine ⟨hB k hk,?_⟩;rcases (Aj k).1 hk with hk|rfl
  · exact hc.lt k hk
  · exact hn.1
 frame:=by
  intro w w' fp σ h hk;obtain ⟨fp0,hc,Em,Aj,hB,Am,CE⟩:=h
  exact ⟨fp0,hc.aW fun k h=>hk k ((Aj k).2 (.inl h)),(World.cell?_of_block (hk nb ((Aj nb).2 (.inr rfl)))).trans Em,Aj,hB,Am,CE⟩
 frame':=by
  intro w w' fp σ h hk;obtain ⟨fp0,hc,Em,Aj,hB,Am,CE⟩:=h
  exact ⟨fp0,hc.aW fun k h=>hk k ((Aj k).2 (.inl h)),(World.cell?_of_block (hk nb ((Aj nb).2 (.inr rfl)))).trans Em,Aj,hB,Am,CE⟩
 append:=by
  intro w fp σ c vs h AQ hw;have h':=h;obtain ⟨fp0,hc,Em,Aj,hB,Am,CE⟩:=h';have A8:=AQ.small;obtain ⟨ia,il,ic,ka,kl,kc,rfl,h0,h1,h2,h3,h4⟩:=AQ.open;have AA:=bF (σ++[c]);have Ou:wts (σ++[c])≤2147483648:=hw;rw[length_append,length_singleton] at AA
  refine aF.of1 (aAY p nb w _ _ (.inl rfl)) call312 ((xO w p nb m σ fp0 hc c hm (by omega) Em c.r0 c.r1 c.r2 c.r3 c.null (.slice ia il ic) (.slice ka kl kc)).mono ?_);rintro e w' ⟨he,Aq,Ak⟩
  refine ⟨he,h.after Aj Am Aq Ak (fun d hd=>?_)⟩
  · rcases mem_append.1 hd with hd|hd
    · exact CE d hd
    · rw[mem_singleton.1 hd]
      exact A8
 appendArr:=by
  intro w fp σ cs v xs h hs A8 hw;have h':=h;obtain ⟨fp0,hc,Em,Aj,hB,Am,CE⟩:=h';have AA:=bF (σ++cs);have Ou:wts (σ++cs)≤2147483648:=hw;have hn:=h.nb;rw[length_append] at AA
  refine aF.of1 (aAY p nb w _ _ (.inr rfl)) call313 ((qN w B p nb m (by omega) σ fp0 hc hm Em cs v xs hs A8 (by omega)).mono ?_);rintro e w' ⟨he,Aq,Ak⟩
  refine ⟨he,h.after Aj Am Aq Ak (fun d hd=>?_)⟩
  · rcases mem_append.1 hd with hd|hd
    · exact CE d hd
    · exact aI.small A8 d hd
 rows:=by
  intro w fp σ h;obtain ⟨fp0,⟨v,hp,Aa,_⟩,Em,Aj,hB,Am,CE⟩:=h;obtain ⟨a,c,rfl⟩:=ownsRow_shape Aa
  exact aF.of0 (aEN p nb w _ _ (crw hp rfl) (crw hp rfl)) call309 (aKv w a c m _ hm (ownsRow_le Aa))
 flat:=by rintro w name (rfl|rfl|rfl) n m<;>exact fC underlying166 rfl rfl (fun _=>by kernel_rfl) (by kernel_rfl) rfl (by kernel_rfl) n m
 ahead:=fun w=>by kernel_rfl
 prepare:=⟨false,fun x w=>run_typeAssert_lacksB underlying102 (by kernel_rfl) (by kernel_rfl) _ x w,fun h=>by simpa using h⟩
 state:=⟨false,fun x w=>run_typeAssert_lacksB underlying172 (by kernel_rfl) (by kernel_rfl) _ x w,by simp⟩
 encode:=by
  intro w fp σ b fb bs h hw hb hd hl;obtain ⟨fp0,⟨v,hp,Aa,Eb,FV⟩,Em,Aj,hB,Am,CE⟩:=h;have Ou:wts σ≤2147483648:=hw;have AA:=bF σ;have he:enc (.fix m) σ=fixes m σ:=by rw[enc];rfl
  rw[he]
  exact aF.of1 (aHT p nb w _ _ (crw hp rfl) (crw hp rfl)) call306 (aEM w b fb bs hb v m σ Aa (by rw[he] at hl;exact hl))
end Go.Proofs.YtcidlnjpabgioaaGreatDoor
