import Derived.WalkSpells
import Derived.WalkLawsBesides
import Derived.Deep.RegionHeld3
import Derived.Deep.Upon
import Derived.Lib.Endian
import Derived.Lib.Varint
import Derived.Test.YtcidlnjpabgioaaGreatDoorProg
set_option maxHeartbeats 400000
namespace Go.Proofs.YtcidlnjpabgioaaGreatDoor
open Tryz Go.RowKit
section
variable {P:Program} (w:World)
theorem oL (t tx ty e:TypeId) (i:TypeInfo) (ht:P.underlying t=some (.slice e)) (hi:P.info? e=some i)
 (g sLen sCap:Nat) (cur:Array Value) (hg:w.heap[g]?=some (.cells cur e (0,0))) (x:Value) (m:Nat) (news:List Value) (hs:Src P i.size tx x m news w)
 (Ff:sLen+m≤sCap) (DJ:sLen*i.size+news.length≤cur.size) :
 (Builtin.append_ #[t,tx] ty #[.slice (some ⟨g,0,none⟩) sLen sCap,x]).run P w =
  .ok (.slice (some ⟨g,0,none⟩) (sLen+m) sCap) (w.setRow g (cur.toList.take (sLen*i.size)++news++cur.toList.drop (sLen*i.size+news.length)).toArray):=by
 have BD:=run_storeCells_at P g (sLen*i.size) e news 0 cur w hg (by simpa using DJ) hs.one;simp only[Nat.add_zero] at BD;rcases hs.kind with ⟨e',hk⟩|hk<;>simp[Builtin.append_,run_underlying ht,run_underlying hk,sizeOf,typeInfo,hi,hs.len,Ff,hs.cells,Addr.add_lit,BD]
theorem aEw (t tx ty e:TypeId) (i:TypeInfo) (z:Value) (size bytes:Nat) (ht:P.underlying t=some (.slice e)) (hi:P.info? e=some i) (hz:i.zero=some z)
 (Ho:i.size=size) (Iy:i.bytes=bytes) (oq:z.cells.size=size)
 (v:Value) (n:Nat) (xs:List Value) (Aa:w.ownsRow 0 e size v n xs)
 (x:Value) (m:Nat) (news:List Value) (hs:Src P size tx x m news w)
 (KZ:n+m≤maxLen) (CP:(n+m)*bytes≤140737488355328) :
 ∃ v' w',(Builtin.append_ #[t,tx] ty #[v,x]).run P w=.ok v' w'∧w'.ownsRow 0 e size v' (n+m) (xs++news)∧w.grownBy w' v.ownBlock ∧
  (v'.ownBlock=v.ownBlock∨v'.ownBlock=some w.heap.size∧∀ k,k<w.heap.size→w'.heap[k]?=w.heap[k]?):=by
 subst Ho;subst Iy;have hl:=hs.newsLen;have Ci:n+m≤9223372036854775807:=by simp only[maxLen] at KZ;omega
 have AA:(xs++news).length=(n+m)*i.size:=by rw[List.length_append,Aa.1,hl,Nat.add_mul]
 have grown:∀ (old:Nat),old<n+m→∀ (row:Option Nat),
  (w.drew.alloc (.cells ((xs++news).toArray++Builtin.zeroCells z.cells (grownCap w (n+m) old e - (n+m))) e)).ownsRow 0 e i.size
   (.slice (some ⟨w.heap.size,0,none⟩) (n+m) (grownCap w (n+m) old e)) (n+m) (xs++news) ∧
  w.grownBy (w.drew.alloc (.cells ((xs++news).toArray++Builtin.zeroCells z.cells (grownCap w (n+m) old e - (n+m))) e)) row:=by
  intro old ho row;have QS:=grownCap_ge w (n+m) old e;have AP:grownCap w (n+m) old e≤maxLen:=grownCap_le_maxLen w (n+m) old e KZ
  refine ⟨⟨AA,.inr ⟨w.heap.size,_,_,rfl,Nat.zero_le _,_root_.Go.heap_alloc_new w.drew _,QS,AP,?_,?_⟩⟩,⟨rfl,rfl,rfl,by simp,fun k hk _=>Below.heap_alloc w.drew _ k hk⟩⟩
  · rw[Array.size_append,List.size_toArray,size_zeroCells,oq,AA,← Nat.add_mul]
    congr 1
    omega
  · rw[Array.toList_append,← AA]
    exact List.take_left
 rcases Aa.2 with ⟨rfl,rfl⟩|⟨g,cap,cur,rfl,We,hg,BF,AP,A8,Dv⟩
 · have hx:xs=[]:=List.eq_nil_of_length_eq_zero (by simpa using Aa.1)
   subst hx
   by_cases hm:m=0
   · subst hm
     have hn:news=[]:=List.eq_nil_of_length_eq_zero (by simpa using hl);subst hn
     exact ⟨.slice none 0 0,w,run_append_nothing w t tx ty e i ht hi none 0 0 (Nat.le_refl _) x hs,World.ownsRow_nil w 0 e i.size,⟨rfl,rfl,rfl,Nat.le_refl _,fun _ _ _=>rfl⟩,.inl rfl⟩
   · have hr:=run_append_grow_src (P:=P) w t tx ty e i z ht hi hz none 0 0 [] (run_firstCells_none w.drew i.size 0 0 0) x m news hs (by omega) (by omega) (by
      have hb:=CP;rw[Nat.zero_add] at hb ⊢;exact growslice_fits (by omega) hb)
     have BG:=grown 0 (by omega) (Value.ownBlock (.slice none 0 0));have Yu:=(grown 0 (by omega) none).2;simp only[Nat.zero_add,List.nil_append] at BG Yu hr ⊢
     exact ⟨_,_,hr,BG.1,BG.2,.inr ⟨rfl,fun k hk=>Yu.block k hk (by simp)⟩⟩
 · by_cases Ff:n+m≤cap
   · have DJ:n*i.size+news.length≤cur.size:=by rw[hl,A8,← Nat.add_mul];exact Nat.mul_le_mul_right _ Ff
     have hr:=oL (P:=P) w t tx ty e i ht hi g n cap cur hg x m news hs Ff DJ
     refine ⟨_,_,hr,⟨AA,.inr ⟨g,cap,_,rfl,We,setRow_heap w g cur _ e _ hg,Ff,AP,?_,?_⟩⟩,⟨rfl,rfl,rfl,by simp,fun k _ hk=>setRow_other w g k _ (fun e=>hk (by simp[Value.ownBlock,e]))⟩,.inl rfl⟩
     · simp only[List.size_toArray,List.length_append,List.length_take,List.length_drop,Array.length_toList]
       omega
     · rw[Dv,← AA]
       exact List.take_left
   · have MZ:∀ j u,xs[j]?=some u→w.cell? ((⟨g,0,none⟩:Addr).add j)=some u:=Aa.cells (g:=g) rfl
     have hr:=run_append_grow_src (P:=P) w t tx ty e i z ht hi hz (some ⟨g,0,none⟩) n cap xs (run_firstCells_some w.drew i.size n ⟨g,0,none⟩ n cap xs Aa.1 MZ) x m news hs (by omega) (by omega) (growslice_fits (by omega) CP);have BG:=grown cap (by omega) (Value.ownBlock (.slice (some ⟨g,0,none⟩) n cap))
     exact ⟨_,_,hr,BG.1,BG.2,.inr ⟨rfl,fun k hk=>(grown cap (by omega) none).2.block k hk (by simp)⟩⟩
theorem kY (m:Nat):Builtin.zeroCells #[.int .u8 0] m=(List.replicate m (Value.int .u8 0)).toArray:=by
 apply Array.ext
 · simp[Builtin.zeroCells]
 · intro i h1 h2
   simp[Builtin.zeroCells,Nat.mod_one]
theorem tX (t tn ty e:TypeId) (i:TypeInfo) (kn:IntKind) (ht:P.underlying t=some (.slice e)) (Lh:P.underlying tn=some (.int kn)) (hi:P.info? e=some i) (hz:i.zero=some (.int .u8 0))
 (Ho:i.size=1) (Iy:i.bytes=1)
 (v:Value) (n:Nat) (xs:List Value) (Aa:w.ownsRow 0 e 1 v n xs) (m:Nat) (hm:0<m) (CP:n+m≤140737488355328) :
 ∃ v' w',(Builtin.append_ #[t,tn] ty #[v,.int .i64 m]).run P w=.ok v' w'∧w'.ownsRow 0 e 1 v' (n+m) (xs++List.replicate m (.int .u8 0))∧w.grownBy w' v.ownBlock ∧
  (v'.ownBlock=v.ownBlock∨v'.ownBlock=some w.heap.size∧∀ k,k<w.heap.size→w'.heap[k]?=w.heap[k]?):=by
 have hw:IntKind.i64.wrap (m:Int)=m:=by rw[IntKind.wrap_i64];omega
 have MR:¬ ((m:Int)<0):=by omega
 have Ry:¬ (281474976710656<(m:Int)):=by omega
 have hl:(List.replicate m (Value.int .u8 0)).length=m*1:=by simp
 have h1:∀ u∈List.replicate m (Value.int .u8 0),u.oneCell'=true:=by
  intro u hu;rw[List.eq_of_mem_replicate hu]
  rfl
 have AA:(xs++List.replicate m (Value.int .u8 0)).length=(n+m)*1:=by rw[List.length_append,Aa.1,hl];omega
 have Di:¬ m=0:=by omega
 have grown:∀ (old:Nat),old<n+m→∀ (row:Option Nat),
  (w.drew.alloc (.cells ((xs++List.replicate m (Value.int .u8 0)).toArray++Builtin.zeroCells #[.int .u8 0] (grownCap w (n+m) old e - (n+m))) e)).ownsRow 0 e 1
   (.slice (some ⟨w.heap.size,0,none⟩) (n+m) (grownCap w (n+m) old e)) (n+m) (xs++List.replicate m (Value.int .u8 0)) ∧
  w.grownBy (w.drew.alloc (.cells ((xs++List.replicate m (Value.int .u8 0)).toArray++Builtin.zeroCells #[.int .u8 0] (grownCap w (n+m) old e - (n+m))) e)) row:=by
  intro old ho row;have QS:=grownCap_ge w (n+m) old e;have AP:grownCap w (n+m) old e≤maxLen:=grownCap_le_maxLen w (n+m) old e (by unfold maxLen;omega)
  refine ⟨⟨AA,.inr ⟨w.heap.size,_,_,rfl,Nat.zero_le _,heap_alloc_new w.drew _,QS,AP,?_,?_⟩⟩,⟨rfl,rfl,rfl,by simp,fun k hk _=>Below.heap_alloc w.drew _ k hk⟩⟩
  · rw[Array.size_append,List.size_toArray,size_zeroCells,AA]
    simp;omega
  · rw[Array.toList_append,← AA]
    exact List.take_left
 rcases Aa.2 with ⟨rfl,rfl⟩|⟨g,cap,cur,rfl,We,hg,BF,AP,A8,Dv⟩
 · have hx:xs=[]:=List.eq_nil_of_length_eq_zero (by simpa using Aa.1)
   subst hx;have VL:¬ (281474976710656<Builtin.nextslicecap m 0):=by rw[nextslicecap_zero hm];omega
   have KZ:¬ (9223372036854775807<(m:Int)):=by omega
   have BG:=grown 0 (by omega) (Value.ownBlock (.slice none 0 0))
   refine ⟨_,_,?_,BG.1,BG.2,.inr ⟨rfl,fun k hk=>(grown 0 (by omega) none).2.block k hk (by simp)⟩⟩;simp[Builtin.append_,run_underlying ht,run_underlying Lh,sizeOf,typeInfo,zeroValue,hi,hz,Ho,Iy,asInt,asIntOf,hw,MR,Di,Ry,VL,KZ,Question.forced,run_firstCells_none,newRow,grownCap,Value.cells];rw[kY m];simp
 · by_cases Ff:n+m≤cap
   · have DJ:n+m≤cur.size:=by rw[A8,Nat.mul_one];exact Ff
     have BD:=run_storeCells_at P g (n*1) e (List.replicate m (Value.int .u8 0)) 0 cur w hg (by simpa using DJ) h1;simp only[Nat.add_zero,Nat.mul_one] at BD
     have hr:(Builtin.append_ #[t,tn] ty #[.slice (some ⟨g,0,none⟩) n cap,.int .i64 m]).run P w=.ok (.slice (some ⟨g,0,none⟩) (n+m) cap) (w.setRow g (cur.toList.take n++List.replicate m (Value.int .u8 0)++cur.toList.drop (n+m)).toArray):=by
      simp[Builtin.append_,run_underlying ht,run_underlying Lh,sizeOf,typeInfo,zeroValue,hi,hz,Ho,Iy,asInt,asIntOf,hw,MR,Di,Ry,Ff,Addr.add_lit,Value.cells,kY,BD]
     refine ⟨_,_,hr,⟨AA,.inr ⟨g,cap,_,rfl,We,setRow_heap w g cur _ e _ hg,Ff,AP,?_,?_⟩⟩,⟨rfl,rfl,rfl,by simp,fun k _ hk=>setRow_other w g k _ (fun e=>hk (by simp[Value.ownBlock,e]))⟩,.inl rfl⟩
     · simp only[List.size_toArray,List.length_append,List.length_take,List.length_drop,Array.length_toList,List.length_replicate]
       omega
     · rw[Nat.mul_one] at Dv
       rw[Dv,← AA]
       exact List.take_left
   · have MZ:∀ j u,xs[j]?=some u→w.cell? ((⟨g,0,none⟩:Addr).add j)=some u:=Aa.cells (g:=g) rfl
     have Xx:=run_firstCells_some (P:=P) w.drew 1 n ⟨g,0,none⟩ n cap xs Aa.1 MZ
     have DJ:¬ (281474976710656<Builtin.nextslicecap (n+m) cap):=by
      have:=growslice_fits (need:=n+m) (old:=cap) (bytes:=1) (by omega) (by omega);omega
     have KZ:¬ (9223372036854775807<(n:Int)+(m:Int)):=by omega
     have BG:=grown cap (by omega) (Value.ownBlock (.slice (some ⟨g,0,none⟩) n cap))
     refine ⟨_,_,?_,BG.1,BG.2,.inr ⟨rfl,fun k hk=>(grown cap (by omega) none).2.block k hk (by simp)⟩⟩;simp[Builtin.append_,run_underlying ht,run_underlying Lh,sizeOf,typeInfo,zeroValue,hi,hz,Ho,Iy,asInt,asIntOf,hw,MR,Di,Ry,Ff,DJ,KZ,Question.forced,Xx,newRow,grownCap,Value.cells]
     congr 2
     apply Array.ext'
     simp[kY]
end
structure Fr (S:Nat→Prop) (w w':World):Prop where
 os:w'.os=w.os
 tape:w'.tape=w.tape
 output:w'.output=w.output
 size:w.heap.size≤w'.heap.size
 block:∀ k,k<w.heap.size→¬ S k→w'.heap[k]?=w.heap[k]?
namespace Fr
open Tryz
variable {S S':Nat→Prop} {a b c w w':World}
theorem refl (S:Nat→Prop) (w:World):Fr S w w:=⟨rfl,rfl,rfl,Nat.le_refl _,fun _ _ _=>rfl⟩
theorem mono (h:Fr S a b) (hs:∀ k,k<a.heap.size→S k→S' k):Fr S' a b:=⟨h.os,h.tape,h.output,h.size,fun k hk hn=>h.block k hk (fun x=>hn (hs k hk x))⟩
theorem trans (h:Fr S a b) (k:Fr S' b c) (hs:∀ k,k<a.heap.size→S' k→S k):Fr S a c :=
 ⟨k.os.trans h.os,k.tape.trans h.tape,k.output.trans h.output,Nat.le_trans h.size k.size,fun i hi hn =>
  (k.block i (Nat.lt_of_lt_of_le hi h.size) (fun x=>hn (hs i hi x))).trans (h.block i hi hn)⟩
theorem drew (h:Fr S a w):Fr S a w.drew:=⟨h.os,h.tape,h.output,h.size,h.block⟩
theorem aH (h:Fr S a.drew w):Fr S a w:=⟨h.os,h.tape,h.output,h.size,h.block⟩
theorem drewN (h:Fr S a w) (n:Nat):Fr S a (w.drewN n):=⟨h.os,h.tape,h.output,h.size,h.block⟩
theorem alloc (h:Fr S a w) (o:Obj):Fr S a (w.alloc o) :=
 ⟨h.os,h.tape,h.output,by simp;exact Nat.le_succ_of_le h.size,fun k hk hn=>(Below.heap_alloc _ _ _ (Nat.lt_of_lt_of_le hk h.size)).trans (h.block k hk hn)⟩
theorem setCell (h:Fr S a w) {p:Addr} (hp:S p.block∨a.heap.size≤p.block) (u:Value):Fr S a (w.setCell p u) :=
 ⟨h.os,h.tape,h.output,by simp[World.setCell];exact h.size,fun k hk hn=>(Below.heap_setCell _ _ _ _ (fun e=>by subst e;rcases hp with hp|hp;exact hn hp;omega)).trans (h.block k hk hn)⟩
theorem grown (h:Fr S a w) {row:Option Nat} (hg:w.grownBy w' row) (hr:∀ k,row=some k→S k∨a.heap.size≤k):Fr S a w' :=
 ⟨hg.os.trans h.os,hg.tape.trans h.tape,hg.output.trans h.output,Nat.le_trans h.size hg.size,fun k hk hn =>
  (hg.block k (Nat.lt_of_lt_of_le hk h.size) (fun e=>by rcases hr k e.symm with hp|hp;exact hn hp;omega)).trans (h.block k hk hn)⟩
theorem gX {row:Option Nat} (hg:w.grownBy w' row):Fr (fun k=>row=some k) w w':=⟨hg.os,hg.tape,hg.output,hg.size,fun k hk hn=>hg.block k hk (fun e=>hn e.symm)⟩
theorem cell (h:Fr S w w') {p:Addr} (hp:p.block<w.heap.size) (hn:¬ S p.block):w'.cell? p=w.cell? p:=World.cell?_of_block (h.block p.block hp hn)
theorem aA (h:Fr S w w') {p:Addr} {v:Value} (hc:w.cell? p=some v) (hn:¬ S p.block):w'.cell? p=some v:=(h.cell (World.block_lt_of_cell? w p hc) hn).trans hc
theorem frozen (h:Fr S w w') {p:Addr} (hp:p.block<w.heap.size) (hn:¬ S p.block):w'.frozen? p=w.frozen? p:=World.frozen?_of_block (h.block p.block hp hn)
theorem below (h:Fr S w w') {B:Nat} (hB:B≤w.heap.size) (hS:∀ k,k<B→¬ S k):Below B w w':=⟨h.os,h.tape,h.output,h.size,fun k hk=>h.block k (by omega) (hS k hk)⟩
theorem owns (h:Fr S w w') {base:Nat} {e:TypeId} {size:Nat} {v:Value} {n:Nat} {xs:List Value} (ho:w.ownsRow base e size v n xs) (hn:∀ k,v.ownBlock=some k→¬ S k):w'.ownsRow base e size v n xs:=by
 refine ⟨ho.1,?_⟩;rcases ho.2 with QZ|⟨g,cap,cur,rfl,hb,GX,rest⟩
 · exact .inl QZ
 · refine .inr ⟨g,cap,cur,rfl,hb,?_,rest⟩
   rw[h.block g (Array.getElem?_eq_some_iff.1 GX).1 (hn g rfl)]
   exact GX
end Fr
structure ElT (P:Program) (t e:TypeId) (z:Value) (size bytes:Nat):Prop where
 ht:P.underlying t=some (.slice e)
 info:∃ i,P.info? e=some i∧i.zero=some z∧i.size=size∧i.bytes=bytes
 zs:z.cells.size=size
section
variable {P:Program} (w:World) {ops:Array Oper} {rest:List Oper} {o:Oper} {a:Act} {Q:Exit→Act→World→Prop} {K:Act→World→Prop} {E:Prop}
def dE (w w':World) (e:TypeId) (size:Nat) (v v':Value) (n:Nat) (xs:List Value):Prop :=
 w'.ownsRow 0 e size v' n xs∧w.grownBy w' v.ownBlock∧(v'.ownBlock=v.ownBlock∨v'.ownBlock=some w.heap.size∧∀ k,k<w.heap.size→w'.heap[k]?=w.heap[k]?)
theorem dJ {t tx e:TypeId} {z:Value} {size bytes:Nat} (el:ElT P t e z size bytes) (s x:Operand)
 (IA:o.op=.call { callee:=.builtin .append,args:=#[s,x],argTypes:=#[t,tx]})
 (v:Value) (n:Nat) (xs:List Value) (hv:a.eval s=v) (Aa:w.ownsRow 0 e size v n xs)
 (xv:Value) (m:Nat) (news:List Value) (hx:a.eval x=xv) (hs:Src P size tx xv m news w)
 (KZ:n+m≤maxLen) (CP:(n+m)*bytes≤140737488355328)
 (h:∀ v' w',dE w w' e size v v' (n+m) (xs++news)→K (a.put o.dst v') w'):o.wp P a w K Q:=by
 obtain ⟨i,hi,hz,DX,Iy⟩:=el.info;obtain ⟨v',w',hr,h2⟩:=aEw (P:=P) w t tx o.type e i z size bytes el.ht hi hz DX Iy el.zs v n xs Aa xv m news hs KZ CP;unfold Oper.wp execOp;simp only[IA,resolve,invoke,builtin,Sem.run_bind,Sem.run_pure,Result.andThen_ok,List.map_toArray,List.map_cons,List.map_nil,hv,hx,hr]
 exact h v' w' h2
theorem xA {t tn e:TypeId} {kn:IntKind} (el:ElT P t e (.int .u8 0) 1 1) (Lh:P.underlying tn=some (.int kn)) (s x:Operand)
 (IA:o.op=.call { callee:=.builtin .append,args:=#[s,x],argTypes:=#[t,tn]})
 (v:Value) (n:Nat) (xs:List Value) (hv:a.eval s=v) (Aa:w.ownsRow 0 e 1 v n xs)
 (M:Int) (m:Nat) (hx:a.eval x=.int .i64 M) (hM:M=(m:Int)) (hm:0<m) (CP:n+m≤140737488355328)
 (h:∀ v' w',dE w w' e 1 v v' (n+m) (xs++List.replicate m (.int .u8 0))→K (a.put o.dst v') w'):o.wp P a w K Q:=by
 obtain ⟨i,hi,hz,DX,Iy⟩:=el.info;obtain ⟨v',w',hr,h2⟩:=tX (P:=P) w t tn o.type e i kn el.ht Lh hi hz DX Iy v n xs Aa m hm CP;subst hM;unfold Oper.wp execOp;simp only[IA,resolve,invoke,builtin,Sem.run_bind,Sem.run_pure,Result.andThen_ok,List.map_toArray,List.map_cons,List.map_nil,hv,hx,hr]
 exact h v' w' h2
theorem aK (hg:o.guard=none) (h:o.wp P a w K Q):if Region.wanted o (yielded ops a.tmps)=true then Oper.wp P o a w K Q else E:=by
 rw[if_pos (by simp[Region.wanted,hg])]
 exact h
theorem aP {t tx e:TypeId} {z:Value} {size bytes:Nat} (hg:o.guard=none) (el:ElT P t e z size bytes) (s x:Operand)
 (IA:o.op=.call { callee:=.builtin .append,args:=#[s,x],argTypes:=#[t,tx]})
 (v:Value) (n:Nat) (xs:List Value) (hv:a.eval s=v) (Aa:w.ownsRow 0 e size v n xs)
 (xv:Value) (m:Nat) (news:List Value) (hx:a.eval x=xv) (hs:Src P size tx xv m news w)
 (KZ:n+m≤maxLen) (CP:(n+m)*bytes≤140737488355328)
 (h:∀ v' w',dE w w' e size v v' (n+m) (xs++news)→wpList P ops Q rest (a.put o.dst v') w'):wpList P ops Q (o :: rest) a w :=
 wpList_plain hg fun _ hK=>dJ w el s x IA v n xs hv Aa xv m news hx hs KZ CP fun v' w' h2=>hK _ _ (h v' w' h2)
theorem dB {t tn e:TypeId} {kn:IntKind} (hg:o.guard=none) (el:ElT P t e (.int .u8 0) 1 1) (Lh:P.underlying tn=some (.int kn)) (s x:Operand)
 (IA:o.op=.call { callee:=.builtin .append,args:=#[s,x],argTypes:=#[t,tn]})
 (v:Value) (n:Nat) (xs:List Value) (hv:a.eval s=v) (Aa:w.ownsRow 0 e 1 v n xs)
 (M:Int) (m:Nat) (hx:a.eval x=.int .i64 M) (hM:M=(m:Int)) (hm:0<m) (CP:n+m≤140737488355328)
 (h:∀ v' w',dE w w' e 1 v v' (n+m) (xs++List.replicate m (.int .u8 0))→wpList P ops Q rest (a.put o.dst v') w'):wpList P ops Q (o :: rest) a w :=
 wpList_plain hg fun _ hK=>xA w el Lh s x IA v n xs hv Aa M m hx hM hm CP fun v' w' h2=>hK _ _ (h v' w' h2)
def aF (P:Program) (v:Value) (name:String) (args:Array Value) (w:World) (R:Ending→World→Prop):Prop :=
 ∃ f args',(callMethod v name args).run P w=.ok (.enter f args') w∧Calls P f args' w R
theorem bH (r:Operand) (name:String) (xs:Array Operand) (ts:Array TypeId) (IA:o.op=.call { callee:=.invoke r name,args:=xs,argTypes:=ts})
 (v:Value) (args:Array Value) (hv:a.eval r=v) {R:Ending→World→Prop} (hc:aF P v name args w R) (ha:xs.toList.map a.eval=args.toList)
 (h:∀ e w',R e w'→∃ val,e=.returned val∧K (a.put o.dst val) w'):o.wp P a w K Q:=by
 obtain ⟨f,args',h1,h2⟩:=hc;unfold Oper.wp execOp;have PD:xs.map a.eval=args:=by apply Array.ext';rw[Array.toList_map];exact ha
 have e1:(#[v]++args)[0]?=some v:=by rw[Array.getElem?_append_left (by simp)];rfl
 have e2:(#[v]++args).extract 1 (#[v]++args).size=args:=by
  apply Array.ext'
  simp
 simp only[IA,resolve,invoke,Sem.run_bind,Sem.run_pure,Result.andThen_ok,hv,PD,e1,e2,h1,Oper.upon_enter]
 refine h2.mono fun e w' hr=>?_
 obtain ⟨val,rfl,hk⟩:=h e w' hr
 exact hk
theorem aT (hg:o.guard=none) (r:Operand) (name:String) (xs:Array Operand) (ts:Array TypeId) (IA:o.op=.call { callee:=.invoke r name,args:=xs,argTypes:=ts})
 (v:Value) (args:Array Value) (hv:a.eval r=v) {R:Ending→World→Prop} (hc:aF P v name args w R) (ha:xs.toList.map a.eval=args.toList)
 (h:∀ e w',R e w'→∃ val,e=.returned val∧wpList P ops Q rest (a.put o.dst val) w'):wpList P ops Q (o :: rest) a w :=
 wpList_plain hg fun _ hK=>bH w r name xs ts IA v args hv hc ha fun e w' hr=>let ⟨val,he,hk⟩:=h e w' hr;⟨val,he,hK _ _ hk⟩
end
theorem aF.mono {P:Program} {v:Value} {name:String} {args:Array Value} {w:World} {R R':Ending→World→Prop} (h:aF P v name args w R) (hr:∀ e w',R e w'→R' e w'):aF P v name args w R':=by
 obtain ⟨f,args',h1,h2⟩:=h
 exact ⟨f,args',h1,h2.mono hr⟩
inductive Cell where
 | mk (r0 r1 r2 r3:Nat) (s:ByteArray) (null:Bool) (items keys:List Cell)
namespace Cell
open Tryz
def r0:Cell→Nat|mk a _ _ _ _ _ _ _=>a
def r1:Cell→Nat|mk _ a _ _ _ _ _ _=>a
def r2:Cell→Nat|mk _ _ a _ _ _ _ _=>a
def r3:Cell→Nat|mk _ _ _ a _ _ _ _=>a
def s:Cell→ByteArray|mk _ _ _ _ a _ _ _=>a
def null:Cell→Bool|mk _ _ _ _ _ a _ _=>a
def items:Cell→List Cell|mk _ _ _ _ _ _ a _=>a
def keys:Cell→List Cell|mk _ _ _ _ _ _ _ a=>a
def zero:Cell:=mk 0 0 0 0 ⟨#[]⟩ false [] []
end Cell
def Cell.small (c:Cell):Prop:=c.r0<18446744073709551616∧c.r1<18446744073709551616∧c.r2<18446744073709551616∧c.r3<18446744073709551616∧c.s.size≤65536
mutual
def Cell.wt:Cell→Nat
 | .mk _ _ _ _ s _ items keys=>1+s.size+wts items+wts keys
def wts:List Cell→Nat
 | []=>0
 | c :: cs=>c.wt+wts cs
end
theorem Cell.nS (c:Cell):c.wt=1+c.s.size+wts c.items+wts c.keys:=by
 cases c
 rw[Cell.wt]
 rfl
theorem fG:∀ (a b:List Cell),wts (a++b)=wts a+wts b
 | [],b=>by rw[List.nil_append,wts];omega
 | c :: a,b=>by rw[List.cons_append,wts,wts,fG a b];omega
theorem bF:∀ (a:List Cell),a.length≤wts a
 | []=>by simp
 | c :: a=>by
  have:=bF a;rw[wts,List.length_cons,Cell.nS];omega
theorem iV (a:List Cell) (k:Nat):wts (a.take k)≤wts a:=by
 have:=fG (a.take k) (a.drop k);rw[List.take_append_drop] at this;omega
inductive Num where
 | u8|i16|u32|i64|u64|i128|u256|ip4|ip6|i8|u16|i32
 deriving DecidableEq
def Num.size:Num→Nat
 | u8|i8=>1|i16|u16=>2|u32|ip4|i32=>4|i64|u64=>8|i128|ip6=>16|u256=>32
def Num.name:Num→List UInt8
 | u8=>[85,73,110,116,56]
 | i16=>[73,110,116,49,54]
 | u32=>[85,73,110,116,51,50]
 | i64=>[73,110,116,54,52]
 | u64=>[85,73,110,116,54,52]
 | i128=>[73,110,116,49,50,56]
 | u256=>[85,73,110,116,50,53,54]
 | ip4=>[73,80,118,52]
 | ip6=>[73,80,118,54]
 | i8=>[73,110,116,56]
 | u16=>[85,73,110,116,49,54]
 | i32=>[73,110,116,51,50]
inductive Ty where
 | num (k:Num)|str|fix (n:Nat)|nul (t:Ty)|low|arr (t:Ty)|map (k v:Ty)|tup (ts:List Ty)
def aG (n:Nat) (c:Cell):List UInt8:=(Lib.leBytes 8 c.r0++Lib.leBytes 8 c.r1++Lib.leBytes 8 c.r2++Lib.leBytes 8 c.r3).take n
def fitted (n:Nat) (s:ByteArray):List UInt8:=(s.data.toList++List.replicate n 0).take n
def offsets (f:Cell→Nat):Nat→List Cell→List UInt8
 | _,[]=>[]
 | n,c :: cs=>Lib.leBytes 8 (n+f c)++offsets f (n+f c) cs
def Cell.pairs (c:Cell):List (Cell × Cell):=c.keys.zip c.items
def Cell.keyed (c:Cell):Cell:=.mk c.r0 c.r1 c.r2 c.r3 c.s false [] []
def fE (a b:Cell):Bool:=a.r0 == b.r0 && a.r1 == b.r1 && a.r2 == b.r2 && a.r3 == b.r3 && a.s.data.toList == b.s.data.toList
def aS:List Cell→List Cell→List Cell
 | acc,[]=>acc
 | acc,c :: cs=>aS (if acc.any (fE c) then acc else acc++[c.keyed]) cs
def dV (n:Nat):Nat:=if n≤256 then 0 else if n≤65536 then 1 else 2
def lowWide (n:Nat):Nat:=if n≤256 then 1 else if n≤65536 then 2 else 4
def aBG (cs:List Cell):List UInt8 :=
 if cs=[] then [] else
  Lib.leBytes 8 (1536+dV (aS [] cs).length)++(Lib.leBytes 8 (aS [] cs).length++((aS [] cs).flatMap (fun c=>Lib.uvarint c.s.size++c.s.data.toList) ++
   (Lib.leBytes 8 cs.length++cs.flatMap fun c=>Lib.leBytes (lowWide (aS [] cs).length) ((aS [] cs).findIdx (fE c)))))
mutual
def enc:Ty→List Cell→List UInt8
 | .num k,cs=>cs.flatMap (aG k.size)
 | .str,cs=>cs.flatMap fun c=>Lib.uvarint c.s.size++c.s.data.toList
 | .fix n,cs=>cs.flatMap fun c=>fitted n c.s
 | .nul t,cs=>(cs.map fun c=>if c.null then 1 else 0)++enc t (cs.map fun c=>if c.null then Cell.zero else c)
 | .low,cs=>aBG cs
 | .arr t,cs=>offsets (fun c=>c.items.length) 0 cs++enc t (cs.flatMap Cell.items)
 | .map k v,cs=>if cs=[] then [] else offsets (fun c=>c.pairs.length) 0 cs++enc k (cs.flatMap fun c=>c.pairs.map fun p=>p.1.keyed)++enc v (cs.flatMap fun c=>c.pairs.map (·.2))
 | .tup ts,cs=>encs ts 0 cs
def encs:List Ty→Nat→List Cell→List UInt8
 | [],_,_=>[]
 | t :: ts,i,cs=>enc t (cs.map fun c=>c.items.getD i Cell.zero)++encs ts (i+1) cs
end
def Sl (B:Nat) (w:World) (size:Nat) (v:Value) (n:Nat) (xs:List Value):Prop :=
 xs.length=n*size∧∃ a c,v=.slice a n c∧n≤c∧c≤maxLen∧(a=none→n=0)∧∀ ad,a=some ad→ad.block<B∧ad.spot=none∧∀ j u,xs[j]?=some u→w.cell? (ad.add j)=some u
mutual
def bP (B:Nat) (w:World):Cell→List Value→Prop
 | .mk r0 r1 r2 r3 s null items keys,vs=>∃ iv kv ixs kxs,vs=[.int .u64 r0,.int .u64 r1,.int .u64 r2,.int .u64 r3,.string s,.bool null,iv,kv] ∧
  r0<18446744073709551616∧r1<18446744073709551616∧r2<18446744073709551616∧r3<18446744073709551616∧s.size≤65536 ∧
  Sl B w 8 iv items.length ixs∧aI B w items ixs∧Sl B w 8 kv keys.length kxs∧aI B w keys kxs
def aI (B:Nat) (w:World):List Cell→List Value→Prop
 | [],xs=>xs=[]
 | c :: cs,xs=>∃ vs rest,xs=vs++rest∧bP B w c vs∧aI B w cs rest
end
theorem Sl.below {B:Nat} {w w':World} {size n:Nat} {v:Value} {xs:List Value} (h:Sl B w size v n xs) (hb:Below B w w'):Sl B w' size v n xs:=by
 obtain ⟨hl,a,c,hv,BF,AP,h0,ha⟩:=h
 refine ⟨hl,a,c,hv,BF,AP,h0,fun ad D9=>?_⟩;obtain ⟨h1,h2,h3⟩:=ha ad D9
 refine ⟨h1,h2,fun j u hj=>?_⟩;rw[hb.cell (p:=ad.add j) (by unfold Addr.add;split<;>exact h1)]
 exact h3 j u hj
theorem Sl.mono {B B':Nat} {w:World} {size n:Nat} {v:Value} {xs:List Value} (h:Sl B w size v n xs) (hB:B≤B'):Sl B' w size v n xs:=by
 obtain ⟨hl,a,c,hv,BF,AP,h0,ha⟩:=h
 exact ⟨hl,a,c,hv,BF,AP,h0,fun ad D9=>let ⟨h1,h2,h3⟩:=ha ad D9;⟨by omega,h2,h3⟩⟩
mutual
theorem bP.below {B:Nat} {w w':World} (hb:Below B w w'):∀ (c:Cell) (vs:List Value),bP B w c vs→bP B w' c vs
 | .mk r0 r1 r2 r3 s null items keys,vs=>by
  unfold bP;rintro ⟨iv,kv,ixs,kxs,h0,h1,h2,h3,h4,h5,h6,h7,h8,h9⟩
  exact ⟨iv,kv,ixs,kxs,h0,h1,h2,h3,h4,h5,h6.below hb,aI.below hb _ _ h7,h8.below hb,aI.below hb _ _ h9⟩
theorem aI.below {B:Nat} {w w':World} (hb:Below B w w'):∀ (cs:List Cell) (xs:List Value),aI B w cs xs→aI B w' cs xs
 | [],xs=>by unfold aI;exact id
 | c :: cs,xs=>by
  unfold aI;rintro ⟨vs,rest,h0,h1,h2⟩
  exact ⟨vs,rest,h0,bP.below hb _ _ h1,aI.below hb _ _ h2⟩
end
mutual
theorem bP.mono {B B':Nat} {w:World} (hB:B≤B'):∀ (c:Cell) (vs:List Value),bP B w c vs→bP B' w c vs
 | .mk r0 r1 r2 r3 s null items keys,vs=>by
  unfold bP;rintro ⟨iv,kv,ixs,kxs,h0,h1,h2,h3,h4,h5,h6,h7,h8,h9⟩
  exact ⟨iv,kv,ixs,kxs,h0,h1,h2,h3,h4,h5,h6.mono hB,aI.mono hB _ _ h7,h8.mono hB,aI.mono hB _ _ h9⟩
theorem aI.mono {B B':Nat} {w:World} (hB:B≤B'):∀ (cs:List Cell) (xs:List Value),aI B w cs xs→aI B' w cs xs
 | [],xs=>by unfold aI;exact id
 | c :: cs,xs=>by
  unfold aI;rintro ⟨vs,rest,h0,h1,h2⟩
  exact ⟨vs,rest,h0,bP.mono hB _ _ h1,aI.mono hB _ _ h2⟩
end
theorem bP.length {B:Nat} {w:World}:∀ {c:Cell} {vs:List Value},bP B w c vs→vs.length=8
 | .mk r0 r1 r2 r3 s null items keys,vs=>by
  unfold bP;rintro ⟨iv,kv,ixs,kxs,rfl,_⟩
  rfl
theorem aI.length {B:Nat} {w:World}:∀ {cs:List Cell} {xs:List Value},aI B w cs xs→xs.length=cs.length*8
 | [],xs=>by unfold aI;rintro rfl;rfl
 | c :: cs,xs=>by
  unfold aI;rintro ⟨vs,rest,rfl,h1,h2⟩;rw[List.length_append,h1.length,aI.length h2,List.length_cons];omega
theorem aI.append {B:Nat} {w:World}:∀ {cs ds:List Cell} {xs ys:List Value},aI B w cs xs→aI B w ds ys→aI B w (cs++ds) (xs++ys)
 | [],ds,xs,ys=>by unfold aI;rintro rfl h;simpa using h
 | c :: cs,ds,xs,ys=>by
  intro h h';unfold aI at h;obtain ⟨vs,rest,rfl,h1,h2⟩:=h;rw[List.cons_append];unfold aI
  exact ⟨vs,rest++ys,by rw[List.append_assoc],h1,aI.append h2 h'⟩
theorem aI.one {B:Nat} {w:World} {c:Cell} {vs:List Value} (h:bP B w c vs):aI B w [c] vs:=by
 unfold aI
 exact ⟨vs,[],by simp,h,by unfold aI;rfl⟩
theorem aI.at {B:Nat} {w:World}:∀ {cs:List Cell} {xs:List Value},aI B w cs xs→∀ i c,cs[i]?=some c→bP B w c ((xs.drop (i*8)).take 8)
 | [],xs=>by intro _ i c h;simp at h
 | d :: cs,xs=>by
  intro h i c hc;unfold aI at h;obtain ⟨vs,rest,rfl,h1,h2⟩:=h;have hl:=h1.length
  cases i with
  | zero =>
   simp only[List.getElem?_cons_zero,Option.some.injEq] at hc;subst hc
   simpa [List.take_append,hl] using h1
  | succ i =>
   have:=aI.at h2 i c (by simpa using hc)
   have e:(vs++rest).drop ((i+1)*8)=rest.drop (i*8):=by
    rw[show (i+1)*8=vs.length+i*8 by omega,← List.drop_drop];simp
   rw[e]
   exact this
def bM (P:Program) (fv:Value) (args:Array Value) (w:World) (R:Ending→World→Prop):Prop :=
 ∃ d f args',(Deferred.ofValue fv args).run P w=.ok d w∧(invoke d.target d.args).run P w=.ok (.enter f args') w∧Calls P f args' w R
section
variable {P:Program} (w:World) {ops:Array Oper} {rest:List Oper} {o:Oper} {a:Act} {Q:Exit→Act→World→Prop} {K:Act→World→Prop} {E:Prop}
theorem dI (f:Operand) (xs:Array Operand) (ts:Array TypeId) (IA:o.op=.call { callee:=.value f,args:=xs,argTypes:=ts})
 (fv:Value) (args:Array Value) (hv:a.eval f=fv) {R:Ending→World→Prop} (hc:bM P fv args w R) (ha:xs.toList.map a.eval=args.toList)
 (h:∀ e w',R e w'→∃ val,e=.returned val∧K (a.put o.dst val) w'):o.wp P a w K Q:=by
 obtain ⟨d,f,args',h0,h1,h2⟩:=hc;unfold Oper.wp execOp;have PD:xs.map a.eval=args:=by apply Array.ext';rw[Array.toList_map];exact ha
 simp only[IA,resolve,Sem.run_bind,Result.andThen_ok,hv,PD,h0,h1,Oper.upon_enter]
 refine h2.mono fun e w' hr=>?_
 obtain ⟨val,rfl,hk⟩:=h e w' hr
 exact hk
theorem dG (hg:o.guard=none) (f:Operand) (xs:Array Operand) (ts:Array TypeId) (IA:o.op=.call { callee:=.value f,args:=xs,argTypes:=ts})
 (fv:Value) (args:Array Value) (hv:a.eval f=fv) {R:Ending→World→Prop} (hc:bM P fv args w R) (ha:xs.toList.map a.eval=args.toList)
 (h:∀ e w',R e w'→∃ val,e=.returned val∧wpList P ops Q rest (a.put o.dst val) w'):wpList P ops Q (o :: rest) a w :=
 wpList_plain hg fun _ hK=>dI w f xs ts IA fv args hv hc ha fun e w' hr=>let ⟨val,he,hk⟩:=h e w' hr;⟨val,he,hK _ _ hk⟩
end
theorem bM.mono {P:Program} {fv:Value} {args:Array Value} {w:World} {R R':Ending→World→Prop} (h:bM P fv args w R) (hr:∀ e w',R e w'→R' e w'):bM P fv args w R':=by
 obtain ⟨d,f,args',h0,h1,h2⟩:=h
 exact ⟨d,f,args',h0,h1,h2.mono hr⟩
theorem bM.method {P:Program} {v:Value} {name:String} {args:Array Value} {w:World} {R:Ending→World→Prop} (h:aF P v name args w R):bM P (.func (.method name) #[v] #[]) args w R:=by
 obtain ⟨f,args',h1,h2⟩:=h
 refine ⟨{ target:=.fn (.method name) #[],args:=#[v]++args},f,args',rfl,?_,h2⟩;have e1:(#[v]++args)[0]?=some v:=by rw[Array.getElem?_append_left (by simp)];rfl
 have e2:(#[v]++args).extract 1 (#[v]++args).size=args:=by
  apply Array.ext'
  simp
 simp only[invoke,e1,e2,h1]
def aN (l:List UInt8):List Value:=l.map fun b=>Value.int .u8 b.toNat
theorem bC (l m:List UInt8):aN (l++m)=aN l++aN m:=by simp[aN]
theorem aZ (l:List UInt8):(aN l).length=l.length:=by simp[aN]
def Buf (w:World) (b:Nat) (fb:Nat→Prop) (bs:List UInt8):Prop :=
 ∃ v,w.heap[b]?=some (.cells #[v] 114 (0,0))∧w.ownsRow 0 5 1 v bs.length (aN bs)∧v.ownBlock≠some b∧∀ k,fb k↔k=b∨v.ownBlock=some k
def Grow (w:World) (f f':Nat→Prop):Prop:=∀ k,f' k→f k∨w.heap.size≤k
def Wt (_:Ty) (cs:List Cell):Nat:=wts cs
def aGZ (P:Program) (t:TypeId) (u:Value):Prop:=∀ (w:World) (name:String),name = "Rows"∨name = "EncodeColumn"∨name = "WriteColumn"→∀ n m:Nat,(method (n+2) t u name).run P w=(method (m+2) t u name).run P w
structure ColSpec (P:Program) (B:Nat) (t:TypeId) (u:Value) (T:Ty) (st:List UInt8) (R Rp:World→(Nat→Prop)→List Cell→Prop):Prop where
 lo:∀ {w fp σ},R w fp σ→∀ k,fp k→B≤k∧k<w.heap.size
 lo':∀ {w fp σ},Rp w fp σ→∀ k,fp k→B≤k∧k<w.heap.size
 frame:∀ {w w' fp σ},R w fp σ→(∀ k,fp k→w'.heap[k]?=w.heap[k]?)→R w' fp σ
 frame':∀ {w w' fp σ},Rp w fp σ→(∀ k,fp k→w'.heap[k]?=w.heap[k]?)→Rp w' fp σ
 append:∀ {w fp σ c vs},R w fp σ→bP B w c vs→Wt T (σ++[c])≤2147483648→aF P (.iface t u) "Append" #[.agg vs.toArray] w fun e w' =>
  e=.returned (.tuple #[])∧Fr fp w w'∧∃ fp',R w' fp' (σ++[c])∧Grow w fp fp'
 appendArr:∀ {w fp σ cs v xs},R w fp σ→Sl B w 8 v cs.length xs→aI B w cs xs→Wt T (σ++cs)≤2147483648→aF P (.iface t u) "AppendArr" #[v] w fun e w' =>
  e=.returned (.tuple #[])∧Fr fp w w'∧∃ fp',R w' fp' (σ++cs)∧Grow w fp fp'
 rows:∀ {w fp σ},R w fp σ→aF P (.iface t u) "Rows" #[] w fun e w'=>e=.returned (.int .i64 σ.length)∧Fr (fun _=>False) w w'
 flat:aGZ P t u
 ahead:∀ w:World,(nilAhead (P.types.size+Made.depth) t u "Append").run P w=.ok (some false) w
 prepare:(∃ p:Bool,(∀ x w,(Instr.typeAssert (.iface t u) x 102 true).run P w=.ok (.tuple #[if p then .iface t u else .nilIface,.bool p]) w) ∧
  ∀ {w fp σ},R w fp σ→if p then aF P (.iface t u) "Prepare" #[] w fun e w'=>e=.returned .nilIface∧Fr fp w w'∧∃ fp',Rp w' fp' σ∧Grow w fp fp' else Rp w fp σ)
 state:(∃ p:Bool,(∀ x w,(Instr.typeAssert (.iface t u) x 172 true).run P w=.ok (.tuple #[if p then .iface t u else .nilIface,.bool p]) w) ∧
  if p then ∀ {w fp σ b fb bs},Rp w fp σ→Buf w b fb bs→(∀ k,fp k→¬ fb k)→bs.length+st.length≤2147483648→aF P (.iface t u) "EncodeState" #[.pointer (some ⟨b,0,none⟩)] w fun e w' =>
   e=.returned (.tuple #[])∧Fr fb w w'∧∃ fb',Buf w' b fb' (bs++st)∧Grow w fb fb' else st=[])
 encode:∀ {w fp σ b fb bs},Rp w fp σ→Wt T σ≤2147483648→Buf w b fb bs→(∀ k,fp k→¬ fb k)→bs.length+(enc T σ).length≤1099511627776→aF P (.iface t u) "EncodeColumn" #[.pointer (some ⟨b,0,none⟩)] w fun e w' =>
  e=.returned (.tuple #[])∧Fr fb w w'∧∃ fb',Buf w' b fb' (bs++enc T σ)∧Grow w fb fb'
theorem mY (p:Addr) (w:World) :
 CallsD Tryz.prog 22 #[.pointer (some p)] .returning w fun e u' w'=>e=.returned (.tuple #[])∧u'=.returning∧w'=w:=by
 refine callsD_of_wpS func22 rfl fun c₀ cs hu=>?_
 apply wpS_seq
 apply wpS_region
 simp[wpOpsS,go_sem,recoverD,hu,ntmps22,Exit.thenS]
 refine wpS_cond (t:=false) (by simp[Act.eval,Array.replicate]) ?_
 simp only[Bool.false_eq_true,if_false]
 refine wpS_of_wp (wp_skip ?_)
 cases c₀
 simp_all[bodyPostS,results,results22]
theorem vF (put:Value) (w:World) (bs:List UInt8)
 (AO:bM Tryz.prog put #[.pointer (some ⟨w.heap.size,0,none⟩)] (w.alloc (.cells #[.slice none 0 0] 114)) fun e w'=>e=.returned (.tuple #[])∧Fr (fun k=>k=w.heap.size) (w.alloc (.cells #[.slice none 0 0] 114)) w'∧∃ fb,Buf w' w.heap.size fb bs) :
 Calls Tryz.prog 38 #[put] w fun e w'=>∃ v,e=.returned v∧w'.ownsRow 0 5 1 v bs.length (aN bs)∧Below w.heap.size w w':=by
 go_enter func38,ntmps38
 go_wp2_with ((with_reducible show wpList _ _ _ (⟨some 5,_,_,_,_,_⟩ :: _) _ _);refine dG _ rfl _ _ _ rfl put _ rfl AO rfl ?_;rintro e w' ⟨rfl,Ak,fb,v,hb,Aa,Am,CJ⟩;refine ⟨_,rfl,?_⟩;have hc:w'.cell? ⟨w.heap.size,0,none⟩=some v:=by (rw[cell_of_row _ _ _ _ _ _ hb];rfl))
 go_ret
 refine ⟨_,rfl,Aa,?_⟩
 exact ((Fr.refl (fun _=>False) w).alloc (.cells #[.slice none 0 0] 114) |>.trans (Ak.mono (S':=fun k=>k=w.heap.size) (fun k _ h=>h)) (fun k hk h=>by omega)).below (Nat.le_refl _) (fun k _ h=>h)
theorem aGm {B:Nat} {t:TypeId} {u:Value} {T:Ty} {st:List UInt8} {R Rp:World→(Nat→Prop)→List Cell→Prop} (cs:ColSpec Tryz.prog B t u T st R Rp)
 (w:World) (fp:Nat→Prop) (σ:List Cell) (hR:Rp w fp σ) (b q:Nat) (fb:Nat→Prop) (bs:List UInt8) (hb:Buf w b fb bs) (hd:∀ k,fp k→¬ fb k) (hl:bs.length+st.length≤2147483648)
 (hq:w.cell? ⟨q,0,none⟩=some (.iface t u)) :
 Calls Tryz.prog 51 #[.pointer (some ⟨b,0,none⟩),.pointer (some ⟨q,0,none⟩)] w fun e w'=>e=.returned (.tuple #[])∧Fr fb w w'∧∃ fb',Buf w' b fb' (bs++st)∧Grow w fb fb':=by
 obtain ⟨p,EP,BD⟩:=cs.state;have BX:=EP 59
 cases p with
 | false =>
  simp only[Bool.false_eq_true,if_false] at BD BX;subst BD;go_enter func51,ntmps51;go_wp2;go_end0
  exact ⟨rfl,Fr.refl _ _,fb,by simpa using hb,fun k hk=>.inl hk⟩
 | true =>
  simp only[if_true] at BD BX;have hi:=BD hR hb hd hl;go_enter func51,ntmps51
  go_wp2_with ((with_reducible show wpList _ _ _ (⟨some 13,_,_,_,_,_⟩ :: _) _ _);refine aT _ rfl _ _ _ _ rfl _ _ rfl hi rfl ?_;rintro e w' ⟨rfl,h1,h2⟩;refine ⟨_,rfl,?_⟩)
  go_end0
  exact ⟨rfl,h1,h2⟩
theorem bM.func {P:Program} {k:FuncId} {captured args:Array Value} {w:World} {R:Ending→World→Prop} (hk:∀ (args:Array Value) (w:World),(callFunc k args).run P w=.ok (.enter k args) w)
 (h:Calls P k (args++captured) w R):bM P (.func (.func k) #[] captured) args w R :=
 ⟨{ target:=.fn (.func k) captured,args:=#[]++args},k,args++captured,rfl,by simp only[invoke,Array.empty_append,hk],h⟩
theorem Fr.heap {S:Nat→Prop} {w w':World} (h:Fr S w w') {k:Nat} (hk:k<w.heap.size) (hn:¬ S k):w'.heap[k]?=w.heap[k]?:=h.block k hk hn
theorem Buf.fresh (w:World):Buf (w.alloc (.cells #[.slice none 0 0] 114)) w.heap.size (fun k=>k=w.heap.size) [] :=
 ⟨.slice none 0 0,heap_alloc_new w _,World.ownsRow_nil _ _ _ _,by simp[Value.ownBlock],fun k=>by simp[Value.ownBlock]⟩
theorem aJk {B:Nat} {t:TypeId} {u:Value} {T:Ty} {st:List UInt8} {R Rp:World→(Nat→Prop)→List Cell→Prop} (cs:ColSpec Tryz.prog B t u T st R Rp)
 (w:World) (fp:Nat→Prop) (σ:List Cell) (hR:Rp w fp σ) (EC:st.length≤2147483648) :
 Calls Tryz.prog 37 #[.iface t u] w fun e w'=>∃ v,e=.returned v∧w'.ownsRow 0 5 1 v st.length (aN st)∧Below w.heap.size w w':=by
 have AC:=cs.lo' hR;have Aj:∀ k,fp k→(w.alloc (.cells #[.iface t u] 59)).heap[k]?=w.heap[k]?:=fun k hk=>Below.heap_alloc _ _ _ (AC k hk).2
 have FM:=cs.frame' hR Aj;have Jd:=cs.lo' FM;have Ew:=cs.frame' (w':=(w.alloc (.cells #[.iface t u] 59)).alloc (.cells #[.slice none 0 0] 114)) FM (fun k hk=>Below.heap_alloc _ _ _ (Jd k hk).2);have hb:=Buf.fresh (w.alloc (.cells #[.iface t u] 59))
 have hq:((w.alloc (.cells #[.iface t u] 59)).alloc (.cells #[.slice none 0 0] 114)).cell? ⟨w.heap.size,0,none⟩=some (.iface t u):=by
  rw[World.cell?_alloc_lt _ _ _ (by simp)];simp
 have XT:=aGm cs _ fp σ Ew _ w.heap.size _ [] hb (fun k hk=>by have:=(Jd k hk).2;omega) (by simpa using EC) hq
 have he:=vF (.func (.func 51) #[] #[.pointer (some ⟨w.heap.size,0,none⟩)]) (w.alloc (.cells #[.iface t u] 59)) st
  (bM.func call51 (XT.mono fun e w' ⟨h1,h2,fb',h3,_⟩=>⟨h1,h2,fb',by simpa using h3⟩))
 clear XT hq hb Ew Jd FM Aj;go_enter func37,ntmps37
 go_wp2_with (go_at_call 38;refine he.mono ?_;rintro e w' ⟨v,rfl,h1,h2⟩)
 go_ret
 refine ⟨_,rfl,h1,?_⟩
 exact ((Below.refl _ w).alloc (Nat.le_refl _) _).trans (h2.mono (by simp))
section
variable {P:Program} {w:World} {ops:Array Oper} {rest:List Oper} {o:Oper} {a:Act} {Q:Exit→Act→World→Prop}
theorem aAP (hw:Region.wanted o (yielded ops a.tmps)=true) (h:∀ K:Act→World→Prop,(∀ a w,wpList P ops Q rest a w→K a w)→o.wp P a w K Q):wpList P ops Q (o :: rest) a w :=
 wpList_step fun K hK=>by rw[if_pos hw];exact h K hK
theorem wZ (hg:Region.wanted o (yielded ops a.tmps)=true) (r:Operand) (name:String) (xs:Array Operand) (ts:Array TypeId) (IA:o.op=.call { callee:=.invoke r name,args:=xs,argTypes:=ts})
 (v:Value) (args:Array Value) (hv:a.eval r=v) {R:Ending→World→Prop} (hc:aF P v name args w R) (ha:xs.toList.map a.eval=args.toList)
 (h:∀ e w',R e w'→∃ val,e=.returned val∧wpList P ops Q rest (a.put o.dst val) w'):wpList P ops Q (o :: rest) a w :=
 aAP hg fun _ hK=>bH w r name xs ts IA v args hv hc ha fun e w' hr=>let ⟨val,he,hk⟩:=h e w' hr;⟨val,he,hK _ _ hk⟩
end
theorem ColSpec.aW {P:Program} {B:Nat} {t:TypeId} {u:Value} {T:Ty} {st:List UInt8} {R Rp:World→(Nat→Prop)→List Cell→Prop} (cs:ColSpec P B t u T st R Rp)
 {w w':World} {fp:Nat→Prop} {σ:List Cell} (h:Rp w fp σ) (hb:Below w.heap.size w w'):Rp w' fp σ:=cs.frame' h fun k hk=>hb.block k (cs.lo' h k hk).2
def aKa (Rp:World→(Nat→Prop)→List Cell→Prop) (w w':World) (fp:Nat→Prop) (σ:List Cell):Prop:=Fr fp w w'∧∃ fp',Rp w' fp' σ∧Grow w fp fp'
theorem aBl {B:Nat} {t:TypeId} {u:Value} {T:Ty} {st:List UInt8} {R Rp:World→(Nat→Prop)→List Cell→Prop} (cs:ColSpec Tryz.prog B t u T st R Rp)
 (w:World) (fp:Nat→Prop) (σ:List Cell) (hR:R w fp σ) :
 Calls Tryz.prog 27 #[.iface t u] w fun e w'=>e=.returned (.bool true)∧aKa Rp w w' fp σ:=by
 obtain ⟨p,EP,hp⟩:=cs.prepare;have BX:=EP 59;have hp:=hp hR
 cases p with
 | false =>
  simp only[Bool.false_eq_true,if_false] at hp BX;go_enter func27,ntmps27;go_wp2;go_ret
  exact ⟨rfl,Fr.refl _ _,fp,hp,fun k hk=>.inl hk⟩
 | true =>
  simp only[if_true] at hp BX;go_enter func27,ntmps27
  go_wp2_with ((with_reducible show wpList _ _ _ (⟨some 14,_,_,_,_,_⟩ :: _) _ _);refine wZ rfl _ _ _ _ rfl _ _ rfl hp rfl ?_;rintro e w' ⟨rfl,h1,h2⟩;refine ⟨_,rfl,?_⟩)
  go_ret
  exact ⟨rfl,‹_›,‹_›⟩
def Bytes (w:World) (v:Value) (bs:List UInt8):Prop:=w.ownsRow 0 5 1 v bs.length (aN bs)
theorem Bytes.below {w w':World} {v:Value} {bs:List UInt8} (h:Bytes w v bs) (hb:Below w.heap.size w w'):Bytes w' v bs:=by
 have hf:Fr (fun _=>False) w w':=⟨hb.os,hb.tape,hb.output,hb.size,fun k hk _=>hb.block k hk⟩
 exact hf.owns h (fun _ _ h=>h)
theorem uC {B:Nat} {t:TypeId} {u:Value} {T:Ty} {st:List UInt8} {R Rp:World→(Nat→Prop)→List Cell→Prop} (cs:ColSpec Tryz.prog B t u T st R Rp)
 (w:World) (fp:Nat→Prop) (σ:List Cell) (hR:Rp w fp σ) (hw:Wt T σ≤2147483648) (hl:(enc T σ).length≤1099511627776) :
 Calls Tryz.prog 38 #[.func (.method "EncodeColumn") #[.iface t u] #[]] w fun e w'=>∃ v,e=.returned v∧Bytes w' v (enc T σ)∧Below w.heap.size w w':=by
 have AC:=cs.lo' hR;have FM:=cs.frame' (w':=w.alloc (.cells #[.slice none 0 0] 114)) hR (fun k hk=>Below.heap_alloc _ _ _ (AC k hk).2);have hi:=cs.encode FM hw (Buf.fresh w) (fun k hk=>by have:=(AC k hk).2;omega) (by simpa using hl)
 exact vF _ w _ (bM.method (hi.mono fun e w' ⟨h1,h2,fb',h3,_⟩=>⟨h1,h2,fb',by simpa using h3⟩))
theorem aOf {B:Nat} {t:TypeId} {u:Value} {T:Ty} {st:List UInt8} {R Rp:World→(Nat→Prop)→List Cell→Prop} (cs:ColSpec Tryz.prog B t u T st R Rp)
 (w:World) (fp:Nat→Prop) (σ:List Cell) (hR:R w fp σ) (EC:st.length≤2147483648) (Bd:B≤w.heap.size) (hw:Wt T σ≤2147483648) (hl:(enc T σ).length≤1099511627776) :
 Calls Tryz.prog 24 #[.iface t u] w fun e w'=>∃ v1 v2,e=.returned (.tuple #[v1,v2,.bool true])∧Bytes w' v1 st∧Bytes w' v2 (enc T σ)∧Below B w w':=by
 have hB:=cs.lo hR;have VK:=aBl cs w fp σ hR;go_enter func24,ntmps24
 go_wp2_with (go_at_call 27;refine VK.mono ?_;rintro e w1 ⟨rfl,Ak,fp1,FM,ET⟩)
 go_region_held3 (fun w'=>Rp w' fp1 σ) (first|exact cs.frame' FM (fun _ _=>rfl)|exact cs.aW (by assumption) EY|exact cs.aW (by assumption) Bj|assumption) (first
  | (go_at_call 37;refine (aJk cs _ fp1 σ (by assumption) EC).mono ?_;rintro e w2 ⟨v1,rfl,Eo,Bj⟩)
  | (go_at_call 38;refine (uC cs _ fp1 σ (by assumption) hw hl).mono ?_;rintro e w3 ⟨v2,rfl,JM,EY⟩))
 all_goals
  go_wp2
  go_ret3
  have BN:=Ak.size;have EW:=Bj.size;simp only[World.size_drew] at Bj EW
  refine ⟨v1,v2,rfl,Bytes.below Eo EY,JM,?_⟩;have ED:Below B w w1:=Ak.below (by omega) (fun k hk DW=>by have:=(hB k DW).1;omega)
  exact ED.trans ((Below.drew (Below.refl B w1)).trans ((Bj.mono (by omega)).trans (EY.mono (by omega))))
theorem bP.spelled {B:Nat} {w:World}:∀ {c:Cell} {vs:List Value},bP B w c vs→∃ (r0 r1 r2 r3:Nat) (s:ByteArray) (null:Bool) (ia:Option Addr) (il ic:Nat) (ka:Option Addr) (kl kc:Nat),vs=[.int .u64 r0,.int .u64 r1,.int .u64 r2,.int .u64 r3,.string s,.bool null,.slice ia il ic,.slice ka kl kc]
 | .mk r0 r1 r2 r3 s null items keys,vs=>by
  unfold bP;rintro ⟨iv,kv,ixs,kxs,rfl,_,_,_,_,_,⟨_,ia,ic,rfl,_⟩,_,⟨_,ka,kc,rfl,_⟩,_⟩
  exact ⟨_,_,_,_,_,_,_,_,_,_,_,_,rfl⟩
theorem Sl.row {B:Nat} {w:World} {v:Value} {cs:List Cell} {xs:List Value} (h:Sl B w 8 v cs.length xs) (hc:aI B w cs xs) {k:Nat} (hk:k<cs.length) :
 ∃ b off cap,v=.slice (some ⟨b,off,none⟩) cs.length cap∧b<B∧∃ vs,bP B w cs[k] vs∧∀ j u,vs[j]?=some u→w.cell? ⟨b,off+k*8+j,none⟩=some u:=by
 obtain ⟨Dy,ao,cap,rfl,BF,AP,h0,ha⟩:=h
 cases ao with
 | none=>have:=h0 rfl;omega
 | some ad =>
  obtain ⟨hb,G8,Ac⟩:=ha ad rfl;obtain ⟨b,off,sp⟩:=ad;simp only at G8 hb;subst G8
  refine ⟨b,off,cap,rfl,hb,_,hc.at k cs[k] (by simp[hk]),fun j u hj=>?_⟩;rw[List.getElem?_take,List.getElem?_drop] at hj
  split at hj
  · have:=Ac _ _ hj
    rw[Addr.add_lit] at this;rw[Nat.add_assoc]
    exact this
  · cases hj
theorem ownsRow_ne {w:World} {base:Nat} {e:TypeId} {size:Nat} {v:Value} {n:Nat} {xs:List Value} (h:w.ownsRow base e size v n xs) {q:Nat} {c:Array Value} {t:TypeId} {f:Nat × Nat}
 (hq:w.heap[q]?=some (.cells c t f)) (ht:t≠e):v.ownBlock≠some q:=by
 intro hv;rcases h.2 with ⟨rfl,_⟩|⟨g,cap,cur,rfl,_,hg,_⟩
 · simp[Value.ownBlock] at hv
 · simp only[Value.ownBlock,Option.some.injEq] at hv
   subst hv;rw[hg] at hq;simp only[Option.some.injEq,Obj.cells.injEq] at hq
   exact ht hq.2.1.symm
theorem Bytes.setCell {w:World} {v:Value} {bs:List UInt8} (h:Bytes w v bs) {q:Nat} {c:Array Value} {t:TypeId} {f:Nat × Nat} (hq:w.heap[q]?=some (.cells c t f)) (ht:t≠5) (x:Value) :
 Bytes (w.setCell ⟨q,0,none⟩ x) v bs :=
 ((Fr.refl (fun k=>k=q) w).setCell (.inl rfl) x).owns h (fun k hk e=>by subst e;exact ownsRow_ne h hq ht hk)
theorem gg:(∀ {α:Type} {l:List α} {i:Nat} (h:i<l.toArray.size),l.toArray[i]=l[i]'(by simpa using h))∧(∀ {α:Type} {a:α} {l:List α} (h:0<(a :: l).length),(a :: l)[0]=a)∧(∀ {α:Type} {i:Nat} {a:α} {l:List α} (h:i+1<(a :: l).length),(a :: l)[i+1]=l[i]'(Nat.lt_of_succ_lt_succ h))∧(∀ {α:Type} (l:List α) (i:Nat) (a:α),l.toArray.setIfInBounds i a=(l.set i a).toArray)∧(∀ {α:Type} {x:α} {l:List α} {b:α},(x :: l).set 0 b=b :: l)∧(∀ {α:Type} {x:α} {l:List α} {i:Nat} {b:α},(x :: l).set (i+1) b=x :: l.set i b):=⟨fun _=>rfl,fun _=>rfl,fun _=>rfl,fun _ _ _=>List.setIfInBounds_toArray ..,rfl,rfl⟩
theorem crw {w:World} {b i:Nat} {A:Array Value} {t:TypeId} {f:Nat × Nat} {u:Value} (h:w.heap[b]?=some (.cells A t f)) (e:A[i]?=some u):w.cell? ⟨b,i,none⟩=some u:=(cell_of_row w b i A t f h).trans e
theorem fzj (j:Nat) {w:World} {g:Nat} {A:Array Value} {t:TypeId} (h:w.heap[g]?=some (.cells A t (0,0))):w.frozen? ⟨g,j,none⟩=false:=frozen_of_row w g j A t h
theorem ca {w:World} {o:Obj} {a:Addr} (h:a.block<w.heap.size):(w.alloc o).cell? a=w.cell? a:=World.cell?_alloc_lt w o a h
abbrev F0:=Fr (fun _=>False)
noncomputable abbrev mdp:=Tryz.prog.types.size+Made.depth
end Go.Proofs.YtcidlnjpabgioaaGreatDoor
