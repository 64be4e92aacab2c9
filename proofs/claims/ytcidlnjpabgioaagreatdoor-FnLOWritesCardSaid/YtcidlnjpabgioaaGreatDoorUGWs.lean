import Derived.Test.YtcidlnjpabgioaaGreatDoorUGStr
import Derived.Test.YtcidlnjpabgioaaGreatDoorUGKd
import Derived.Test.YtcidlnjpabgioaaGreatDoorUGKc
set_option maxHeartbeats 2000000
set_option maxRecDepth 100000
namespace Go.Proofs.YtcidlnjpabgioaaGreatDoor
open Tryz List Go.RowKit
theorem aDO (w:World) (b:Nat) (fb:Nat→Prop) (bs:List UInt8) (hb:Buf w b fb bs) (v:Nat) (hv:v<18446744073709551616) (hl:bs.length≤1099511627776) :
 Calls Tryz.prog 231 #[.pointer (some ⟨b,0,none⟩),.int .u64 v] w fun e w'=>e=.returned (.tuple #[])∧Fr fb w w'∧∃ fb',Buf w' b fb' (bs++Lib.leBytes 8 v)∧Grow w fb fb'∧Kept w w' b bs.length:=by
 obtain ⟨vb,hp,Bh,Am,Aj⟩:=hb;obtain ⟨a0,c0,rfl⟩:=ownsRow_shape Bh;have AZ:=aC hp;have Gf:∀ q,(Value.slice a0 bs.length c0).ownBlock=some q→q<w.heap.size:=fun q hq=>aO Bh hq
 go_enter func231,ntmps231
 go_wp2_with fail
 generalize hW:w.alloc _=W;have Aw:F0 w W:=by subst hW;exact (Fr.refl _ w).alloc _
 have Vm:W.heap[w.heap.size]?=some (.cells #[.int .u8 0,.int .u8 0,.int .u8 0,.int .u8 0,.int .u8 0,.int .u8 0,.int .u8 0,.int .u8 0] 486 (0,0)):=by subst hW;exact heap_alloc_new w _
 clear hW
 have AO:=oG w.heap.size 0 8 8 v hv W.drew (by omega) (fun j hj=>by
  have:W.drew.cell? ⟨w.heap.size,0+j,none⟩=_:=cell_of_row W _ _ _ _ _ Vm;rw[this]
  match j,hj with
  | 0,_|1,_|2,_|3,_|4,_|5,_|6,_|7,_=>exact ⟨_,rfl⟩) (fun j=>fzj _ Vm)
 have CQ:∀ w2,w2=(W.drew.alloc (.cells #[] 454)).setCells w.heap.size 0 (aN (Lib.leBytes 8 v))→Fr (fun q=>q=w.heap.size) W w2∧∀ j u,(aN (Lib.leBytes 8 v))[j]?=some u→w2.cell? ((⟨w.heap.size,0,none⟩:Addr).add j)=some u:=by
  rintro w2 rfl;have BJ:(W.drew.alloc (.cells #[] 454)).heap[w.heap.size]?=_:=(Below.heap_alloc W.drew _ _ (aC Vm)).trans Vm;have h:=iT w.heap.size 486 (aN (Lib.leBytes 8 v)) 0 _ _ BJ (by rw[aZ,Lib.leBytes_length];decide)
  refine ⟨Fr.setCells (S:=fun q=>q=w.heap.size) (.inl rfl) _ _ _ (((Fr.refl _ W).drew).alloc _),fun j u hj=>?_⟩;rw[Addr.add_lit,cell_of_row _ _ _ _ _ _ h,getElem?_toArray,take_zero,nil_append];simp only[Nat.zero_add];rw[getElem?_append_left (List.getElem?_eq_some_iff.1 hj).1]
  exact hj
 have MM:(aN (Lib.leBytes 8 v)).length=8:=by rw[aZ,Lib.leBytes_length]
 generalize Yf:(W.drew.alloc (.cells #[] 454)).setCells w.heap.size 0 (aN (Lib.leBytes 8 v))=Wb at AO;obtain ⟨CJ,NS⟩:=CQ Wb Yf.symm;clear CQ Yf
 go_region_law (go_simp;go_at_call 175;refine AO.mono ?_;rintro e w2 ⟨rfl,rfl⟩)
 all_goals
  have Ae:F0 w w2:=Aw.trans CJ (fun q hq h=>by omega);have GI:=(Ae.block b AZ (fun h=>h)).trans hp;have Qd:=Ae.owns Bh (fun _ _ h=>h);obtain ⟨Ac,BH⟩:=aJ.cell GI;have Be:Src Tryz.prog 1 22 (.slice (some ⟨w.heap.size,0,none⟩) 8 8) 8 (aN (Lib.leBytes 8 v)) w2.drew:=Src.ofSlice _ underlying22 _ _ _ _ (by rw[MM]) NS (fun u hu=>by obtain ⟨x,_,rfl⟩:=mem_map.1 hu;rfl);go_wp2
  go_region_law (refine aK _ rfl ?_;refine dJ _ gY _ _ rfl _ _ _ rfl Qd _ _ _ rfl Be ?_ ?_ ?_;(unfold maxLen;omega);omega;intro v' w3 ha;obtain ⟨a',c',rfl⟩:=ha.shape;have Ld:w3.cell? ⟨b,0,none⟩=some (.slice a0 bs.length c0):=ha.2.1.cell Ac (fun h=>Am h.symm);have AV:w3.frozen? ⟨b,0,none⟩=false:=(World.frozen?_of_block (ha.2.1.block b (aC GI) (fun h=>Am h.symm))).trans BH)
  all_goals
   obtain ⟨⟨fb',Aq,hg⟩,Ak⟩:=aJ.appended GI Qd Am Aj ((Fr.refl _ w2).drew) ha;go_end0;have AA:(bs++Lib.leBytes 8 v).length=bs.length+8:=by rw[length_append,Lib.leBytes_length]
   exact ⟨rfl,(Ae.mono (fun _ _ h=>h.elim)).trans Ak (fun _ _ h=>h),fb',Buf.col.2 (by rw[AA,bC];exact Aq),fun k hk=>(hg k hk).imp id (fun h=>Nat.le_trans Ae.size h),Kept.appended hp Bh Am Ae.drew ha⟩
theorem lF (w:World) (b:Nat) (fb:Nat→Prop) (bs:List UInt8) (hb:Buf w b fb bs) (v:Nat) (hv:v<9223372036854775808) (hl:bs.length≤1099511627776) :
 Calls Tryz.prog 218 #[.pointer (some ⟨b,0,none⟩),.int .i64 v] w fun e w'=>e=.returned (.tuple #[])∧Fr fb w w'∧∃ fb',Buf w' b fb' (bs++Lib.leBytes 8 v)∧Grow w fb fb'∧Kept w w' b bs.length:=by
 have Bg:=aDO w b fb bs hb v (by omega) hl;have CY:IntKind.u64.wrap (v:Int)=v:=by rw[IntKind.wrap_u64];omega
 go_enter func218,ntmps218
 go_wp2_with (go_at_call 231;refine Bg.mono ?_;rintro e w2 ⟨rfl,BV⟩)
 go_end0
 exact ⟨rfl,BV⟩
theorem gQ (w:World) (b:Nat) (fb:Nat→Prop) (bs:List UInt8) (hb:Buf w b fb bs) (v:Nat) (hv:v<9223372036854775808) (hl:bs.length≤1099511627776) :
 Calls Tryz.prog 218 #[.pointer (some ⟨b,0,none⟩),.int .i64 v] w fun e w'=>e=.returned (.tuple #[])∧Fr fb w w'∧∃ fb',Buf w' b fb' (bs++Lib.leBytes 8 v)∧Grow w fb fb' :=
 (lF w b fb bs hb v hv hl).mono fun _ _ ⟨h1,h2,fb',h3,h4,_⟩=>⟨h1,h2,fb',h3,h4⟩
theorem aAS (z:Value) (hz:z.cells.size=1) (m:Nat):Builtin.zeroCells z.cells m=(List.replicate m (z.cells[0]'(by omega))).toArray:=by
 apply Array.ext
 · simp[Builtin.zeroCells,hz]
 · intro i h1 h2
   simp[Builtin.zeroCells,hz,Nat.mod_one]
theorem aOU:ElT Tryz.prog 140 3 (.int .i64 0) 1 8:=⟨underlying140,info_parts (by kernel_rfl),rfl⟩
section
variable {P:Program} (w:World)
theorem tV (t tn ty e:TypeId) (i:TypeInfo) (kn:IntKind) (ht:P.underlying t=some (.slice e)) (Lh:P.underlying tn=some (.int kn)) (hi:P.info? e=some i) (hz:i.zero=some (.int .i64 0))
 (Ho:i.size=1) (Iy:i.bytes=8) (m:Nat) (CP:m*8≤140737488355328) :
 ∃ v' w',(Builtin.append_ #[t,tn] ty #[.slice none 0 0,.int .i64 m]).run P w=.ok v' w'∧dE w w' e 1 (.slice none 0 0) v' m (List.replicate m (.int .i64 0)):=by
 have hw:IntKind.i64.wrap (m:Int)=m:=by rw[IntKind.wrap_i64];omega
 have MR:¬ ((m:Int)<0):=by omega
 by_cases hm:m=0
 · subst hm
   refine ⟨.slice none 0 0,w,?_,World.ownsRow_nil _ _ _ _,⟨rfl,rfl,rfl,Nat.le_refl _,fun _ _ _=>rfl⟩,.inl rfl⟩;have VD:IntKind.i64.wrap 0=0:=by rw[IntKind.wrap_i64];rfl
   simp[Builtin.append_,run_underlying ht,run_underlying Lh,sizeOf,typeInfo,zeroValue,hi,hz,Iy,asInt,asIntOf,VD,Question.forced,run_firstCells_none,newRow,Value.cells]
 · have Ry:¬ (281474976710656<(m:Int)*8):=by omega
   have pz:=growslice_fits (need:=m) (old:=0) (bytes:=8) (by omega) (by omega);have DJ:¬ (281474976710656<Builtin.nextslicecap m 0*8):=by omega
   have KZ:¬ (9223372036854775807<(m:Int)):=by omega
   have QS:=grownCap_ge w m 0 e;have AP:grownCap w m 0 e≤maxLen:=grownCap_le_maxLen w m 0 e (by unfold maxLen;omega);have hl:(List.replicate m (Value.int .i64 0)).length=m*1:=by simp
   refine ⟨.slice (some ⟨w.heap.size,0,none⟩) m (grownCap w m 0 e),w.drew.alloc (.cells ((List.replicate m (Value.int .i64 0)).toArray++Builtin.zeroCells #[.int .i64 0] (grownCap w m 0 e - m)) e),?_,⟨hl,.inr ⟨w.heap.size,_,_,rfl,Nat.zero_le _,heap_alloc_new w.drew _,QS,AP,?_,?_⟩⟩,⟨rfl,rfl,rfl,by simp,fun k hk _=>Below.heap_alloc w.drew _ k hk⟩,.inr ⟨rfl,fun k hk=>Below.heap_alloc w.drew _ k hk⟩⟩
   · have oh:Builtin.zeroCells #[.int .i64 0] m=(List.replicate m (Value.int .i64 0)).toArray:=aAS (.int .i64 0) rfl m
     simp[Builtin.append_,run_underlying ht,run_underlying Lh,sizeOf,typeInfo,zeroValue,hi,hz,Ho,Iy,asInt,asIntOf,hw,MR,hm,Ry,DJ,KZ,Question.forced,run_firstCells_none,newRow,grownCap,Value.cells,oh]
   · rw[Array.size_append,size_toArray,size_zeroCells,hl]
     simp;omega
   · rw[Array.toList_append,← hl]
     exact take_left
variable {ops:Array Oper} {rest:List Oper} {o:Oper} {a:Act} {Q:Exit→Act→World→Prop} {K:Act→World→Prop}
theorem pV {t tn:TypeId} {kn:IntKind} {e:TypeId} (el:ElT P t e (.int .i64 0) 1 8) (Lh:P.underlying tn=some (.int kn)) (s x:Operand)
 (IA:o.op=.call { callee:=.builtin .append,args:=#[s,x],argTypes:=#[t,tn]}) (hv:a.eval s=.slice none 0 0) (m:Nat) (hx:a.eval x=.int .i64 m) (CP:m*8≤140737488355328)
 (h:∀ v' w',dE w w' e 1 (.slice none 0 0) v' m (List.replicate m (.int .i64 0))→K (a.put o.dst v') w'):o.wp P a w K Q:=by
 obtain ⟨i,hi,hz,DX,Iy⟩:=el.info;obtain ⟨v',w',hr,h2⟩:=tV (P:=P) w t tn o.type e i kn el.ht Lh hi hz DX Iy m CP;unfold Oper.wp execOp;simp only[IA,resolve,invoke,builtin,Sem.run_bind,Sem.run_pure,Result.andThen_ok,map_toArray,map_cons,map_nil,hv,hx,hr]
 exact h v' w' h2
end
theorem eX {w:World} {p:Nat} {cur:Array Value} {t:TypeId} (h:w.heap[p]?=some (.cells cur t (0,0))) (i:Nat) (v:Value):(w.setCell ⟨p,i,none⟩ v).heap[p]?=some (.cells (cur.setIfInBounds i v) t (0,0)):=by
 simp[World.setCell,Array.getElem?_modify,h]
def dK (n:Nat):Cell:=.mk n 0 0 0 ⟨#[]⟩ false [] []
theorem aOq (w:World) (ns:List Nat) (v:Value) (EI:w.ownsRow 0 3 1 v ns.length (ns.map fun n:Nat=>.int .i64 n)) (hn:ns.length≤2147483648) :
 Calls Tryz.prog 221 #[v,.slice none 0 0] w fun e w'=>∃ tv,e=.returned tv∧w'.ownsRow 0 5 1 tv ns.length ((ns.map dK).flatMap dF)∧(∀ q,tv.ownBlock=some q→w.heap.size≤q)∧F0 w w':=by
 obtain ⟨av,cv,rfl⟩:=ownsRow_shape EI;go_enter func221,ntmps221;go_wp2
 go_loopw [1,11] (fun tv i wr=>∃ k:Nat,k≤ns.length∧i=.int .i64 k∧wr.ownsRow 0 5 1 tv k (((ns.take k).map dK).flatMap dF)∧(∀ q,tv.ownBlock=some q→w.heap.size≤q)∧F0 w wr) (fun _ i _=>ns.length - (intOf i).toNat)
 case atStart=>exact ⟨0,Nat.zero_le _,rfl,World.ownsRow_nil _ _ _ _,by simp[Value.ownBlock],Fr.refl _ _⟩
 case round =>
  obtain ⟨k,hk,rfl,Aa,Ai,Ak⟩:=hrel;obtain ⟨a0,c0,rfl⟩:=ownsRow_shape Aa
  by_cases Ar:k<ns.length
  · have Ap:=Ak.owns EI (fun _ _ h=>h)
    have Ah:((ns.take (k+1)).map dK).flatMap dF=((ns.take k).map dK).flatMap dF++dF (dK ns[k]):=by
     rw[take_succ_eq_append_getElem Ar,map_append,flatMap_append];simp
    have EK:=Lib.hid Ah;rcases Ap.2 with ⟨hv,-⟩|⟨ga,capa,cura,hv,-⟩
    · simp only[Value.slice.injEq] at hv;omega
    · simp only[Value.slice.injEq] at hv
      obtain ⟨rfl,-,rfl⟩:=hv;have hx:=Ap.cells (g:=ga) rfl k (.int .i64 ns[k]) (by rw[getElem?_map,getElem?_eq_getElem Ar];rfl);generalize ns[k]=nk at hx EK;rw[Addr.add_lit,Nat.zero_add] at hx;clear Ah Ap EI
      go_wp2_with ((with_reducible show wpList _ _ _ (⟨some 19,_,_,_,_,_⟩ :: _) _ _);refine aP _ rfl aNj _ _ rfl _ _ _ rfl (Aa.alloc _) _ _ _ rfl (Src.ofSlice _ underlying22 _ _ _ _ rfl (bG _ [.int .u8 (IntKind.u8.wrap nk)] _) (by simp[Value.oneCell'])) ?_ ?_ ?_;(unfold maxLen;omega);omega;intro v' w2 ha;obtain ⟨a',c',rfl⟩:=ha.shape)
      go_roundw
      case rel =>
       have FY:=ha.since (Ak.alloc _) Ai
       exact ⟨k+1,by omega,by go_num,by rw[EK.out];exact ha.1,FY.1,FY.2⟩
      case measure=>simp[intOf];omega
  · have Bl:k=ns.length:=by omega
    subst Bl;rw[take_length] at Aa;go_wp2;go_ret
    exact ⟨_,rfl,Aa,Ai,Ak⟩
theorem aMH (w:World) (ns:List Nat) (v:Value) (EI:w.ownsRow 0 3 1 v ns.length (ns.map fun n:Nat=>.int .i64 n)) (hn:ns.length≤2147483648) :
 Calls Tryz.prog 222 #[v,.slice none 0 0] w fun e w'=>∃ tv,e=.returned tv∧w'.ownsRow 0 199 1 tv ns.length ((ns.map dK).flatMap dC)∧(∀ q,tv.ownBlock=some q→w.heap.size≤q)∧F0 w w':=by
 obtain ⟨av,cv,rfl⟩:=ownsRow_shape EI;go_enter func222,ntmps222;go_wp2
 go_loopw [1,11] (fun tv i wr=>∃ k:Nat,k≤ns.length∧i=.int .i64 k∧wr.ownsRow 0 199 1 tv k (((ns.take k).map dK).flatMap dC)∧(∀ q,tv.ownBlock=some q→w.heap.size≤q)∧F0 w wr) (fun _ i _=>ns.length - (intOf i).toNat)
 case atStart=>exact ⟨0,Nat.zero_le _,rfl,World.ownsRow_nil _ _ _ _,by simp[Value.ownBlock],Fr.refl _ _⟩
 case round =>
  obtain ⟨k,hk,rfl,Aa,Ai,Ak⟩:=hrel;obtain ⟨a0,c0,rfl⟩:=ownsRow_shape Aa
  by_cases Ar:k<ns.length
  · have Ap:=Ak.owns EI (fun _ _ h=>h)
    have Ah:((ns.take (k+1)).map dK).flatMap dC=((ns.take k).map dK).flatMap dC++dC (dK ns[k]):=by
     rw[take_succ_eq_append_getElem Ar,map_append,flatMap_append];simp
    have EK:=Lib.hid Ah;rcases Ap.2 with ⟨hv,-⟩|⟨ga,capa,cura,hv,-⟩
    · simp only[Value.slice.injEq] at hv;omega
    · simp only[Value.slice.injEq] at hv
      obtain ⟨rfl,-,rfl⟩:=hv;have hx:=Ap.cells (g:=ga) rfl k (.int .i64 ns[k]) (by rw[getElem?_map,getElem?_eq_getElem Ar];rfl);generalize ns[k]=nk at hx EK;rw[Addr.add_lit,Nat.zero_add] at hx;clear Ah Ap EI
      go_wp2_with ((with_reducible show wpList _ _ _ (⟨some 19,_,_,_,_,_⟩ :: _) _ _);refine aP _ rfl aHA _ _ rfl _ _ _ rfl (Aa.alloc _) _ _ _ rfl (Src.ofSlice _ underlying135 _ _ _ _ rfl (bG _ [.int .u16 (IntKind.u16.wrap nk)] _) (by simp[Value.oneCell'])) ?_ ?_ ?_;(unfold maxLen;omega);omega;intro v' w2 ha;obtain ⟨a',c',rfl⟩:=ha.shape)
      go_roundw
      case rel =>
       have FY:=ha.since (Ak.alloc _) Ai
       exact ⟨k+1,by omega,by go_num,by rw[EK.out];exact ha.1,FY.1,FY.2⟩
      case measure=>simp[intOf];omega
  · have Bl:k=ns.length:=by omega
    subst Bl;rw[take_length] at Aa;go_wp2;go_ret
    exact ⟨_,rfl,Aa,Ai,Ak⟩
theorem aMU (w:World) (ns:List Nat) (v:Value) (EI:w.ownsRow 0 3 1 v ns.length (ns.map fun n:Nat=>.int .i64 n)) (hn:ns.length≤2147483648) :
 Calls Tryz.prog 223 #[v,.slice none 0 0] w fun e w'=>∃ tv,e=.returned tv∧w'.ownsRow 0 209 1 tv ns.length ((ns.map dK).flatMap dD)∧(∀ q,tv.ownBlock=some q→w.heap.size≤q)∧F0 w w':=by
 obtain ⟨av,cv,rfl⟩:=ownsRow_shape EI;go_enter func223,ntmps223;go_wp2
 go_loopw [1,11] (fun tv i wr=>∃ k:Nat,k≤ns.length∧i=.int .i64 k∧wr.ownsRow 0 209 1 tv k (((ns.take k).map dK).flatMap dD)∧(∀ q,tv.ownBlock=some q→w.heap.size≤q)∧F0 w wr) (fun _ i _=>ns.length - (intOf i).toNat)
 case atStart=>exact ⟨0,Nat.zero_le _,rfl,World.ownsRow_nil _ _ _ _,by simp[Value.ownBlock],Fr.refl _ _⟩
 case round =>
  obtain ⟨k,hk,rfl,Aa,Ai,Ak⟩:=hrel;obtain ⟨a0,c0,rfl⟩:=ownsRow_shape Aa
  by_cases Ar:k<ns.length
  · have Ap:=Ak.owns EI (fun _ _ h=>h)
    have Ah:((ns.take (k+1)).map dK).flatMap dD=((ns.take k).map dK).flatMap dD++dD (dK ns[k]):=by
     rw[take_succ_eq_append_getElem Ar,map_append,flatMap_append];simp
    have EK:=Lib.hid Ah;rcases Ap.2 with ⟨hv,-⟩|⟨ga,capa,cura,hv,-⟩
    · simp only[Value.slice.injEq] at hv;omega
    · simp only[Value.slice.injEq] at hv
      obtain ⟨rfl,-,rfl⟩:=hv;have hx:=Ap.cells (g:=ga) rfl k (.int .i64 ns[k]) (by rw[getElem?_map,getElem?_eq_getElem Ar];rfl);generalize ns[k]=nk at hx EK;rw[Addr.add_lit,Nat.zero_add] at hx;clear Ah Ap EI
      go_wp2_with ((with_reducible show wpList _ _ _ (⟨some 19,_,_,_,_,_⟩ :: _) _ _);refine aP _ rfl aHE _ _ rfl _ _ _ rfl (Aa.alloc _) _ _ _ rfl (Src.ofSlice _ underlying137 _ _ _ _ rfl (bG _ [.int .u32 (IntKind.u32.wrap nk)] _) (by simp[Value.oneCell'])) ?_ ?_ ?_;(unfold maxLen;omega);omega;intro v' w2 ha;obtain ⟨a',c',rfl⟩:=ha.shape)
      go_roundw
      case rel =>
       have FY:=ha.since (Ak.alloc _) Ai
       exact ⟨k+1,by omega,by go_num,by rw[EK.out];exact ha.1,FY.1,FY.2⟩
      case measure=>simp[intOf];omega
  · have Bl:k=ns.length:=by omega
    subst Bl;rw[take_length] at Aa;go_wp2;go_ret
    exact ⟨_,rfl,Aa,Ai,Ak⟩
theorem aJo (w:World) (p:Nat) (fp:Nat→Prop) (h:iP w p [] fp):Calls Tryz.prog 291 #[.pointer (some ⟨p,0,none⟩)] w fun e w'=>e=.returned (.tuple #[])∧iP w' p [] fp∧Fr (fun q=>q=p) w w':=by
 obtain ⟨v1,v2,hp,h1,h2,n1,n2,n3,Aj⟩:=h;obtain ⟨a1,c1,rfl⟩:=ownsRow_shape h1;obtain ⟨a2,c2,rfl⟩:=ownsRow_shape h2;simp only[cat,flatMap_nil,length_nil] at h1 h2 hp;have d0:w.cell? ⟨p,0,none⟩=some (.slice a1 0 c1):=crw hp rfl;have d1:w.cell? ⟨p,1,none⟩=some (.slice a2 0 c2):=crw hp rfl;have f0:w.frozen? ⟨p,0,none⟩=false:=fzj _ hp;have f1:w.frozen? ⟨p,1,none⟩=false:=fzj _ hp
 have LD:c1≤9223372036854775807∧c2≤9223372036854775807∧True:=by
  refine ⟨?_,?_,trivial⟩
  · rcases h1.2 with ⟨hv,_⟩|⟨g,cap,cur,hv,_,_,BF,AP,_⟩
    · simp only[Value.slice.injEq] at hv;omega
    · simp only[Value.slice.injEq] at hv;unfold maxLen at AP;omega
  · rcases h2.2 with ⟨hv,_⟩|⟨g,cap,cur,hv,_,_,BF,AP,_⟩
    · simp only[Value.slice.injEq] at hv;omega
    · simp only[Value.slice.injEq] at hv;unfold maxLen at AP;omega
 go_enter func291,ntmps291;go_wp2;go_end0;have DL:=eX hp 0 (.slice a1 0 c1);have GI:=eX DL 1 (.slice a2 0 c2);have hf:Fr (fun q=>q=p) w ((w.setCell ⟨p,0,none⟩ (.slice a1 0 c1)).setCell ⟨p,1,none⟩ (.slice a2 0 c2)):=((Fr.refl (fun q=>q=p) w).setCell (.inl rfl) _).setCell (.inl rfl) _
 exact ⟨rfl,⟨_,_,GI,hf.owns h1 (fun q hq e=>n1 (by rw[← e];exact hq)),hf.owns h2 (fun q hq e=>n2 (by rw[← e];exact hq)),n1,n2,n3,Aj⟩,hf⟩
theorem eG.aOH {conn:Value} {ps pw:Nat} {w W:World} {fw:Nat→Prop} {n:Nat} {out l:List UInt8} {cb:Value} (h:eG conn ps pw w fw n out) (h0:F0 w W)
 (NS:∀ b fb bs,Buf W b fb bs→(∀ k,fb k→fw k)→bs.length≤out.length→bM Tryz.prog cb #[.pointer (some ⟨b,0,none⟩)] W fun e w'=>e=.returned (.tuple #[])∧Fr fb w w'∧∃ fb',Buf w' b fb' (bs++l)∧Grow w fb fb'∧Kept w w' b bs.length) :
 Calls Tryz.prog 176 #[.pointer (some ⟨pw,0,none⟩),cb] W fun e w'=>e=.returned (.tuple #[])∧Fr fw w w'∧∃ fw',eG conn ps pw w' fw' n (out++l)∧Grow w fw fw':=by
 obtain ⟨b,v,vv,off,bs,es,hw,Cb,rfl,hn,hl⟩:=h
 refine (aAV ((cell_of_row _ _ 1 _ _ _ (hw.quiet h0).row).trans rfl) (NS b (fun k=>k=b∨v.ownBlock=some k) bs ⟨v,(hw.quiet h0).buf,(hw.quiet h0).own,hw.vb,fun k=>Iff.rfl⟩ (fun k hk=>(Cb k).2 (hk.elim (fun e=>.inr (.inl e)) (fun e=>.inr (.inr (.inl e))))) hl)).mono ?_
 rintro e w' ⟨rfl,hf,fb',⟨v',Ei,Qb,Eb,BC⟩,hg,hk⟩
 refine ⟨rfl,hf.mono fun k _ h=>(Cb k).2 (h.elim (fun e=>.inr (.inl e)) fun e=>.inr (.inr (.inl e))),fun k=>k=pw∨k=b∨v'.ownBlock=some k∨vv.ownBlock=some k,
  ⟨b,v',vv,off,bs++l,es,hw.buffer (fun _ h=>h) hf Ei Qb Eb (fun k h=>(BC k).2 (.inr h)) hg hk,fun k=>Iff.rfl,by rw[drop_append_of_le_length hw.le,append_assoc],hn,by simp only[length_append] at hl ⊢;omega⟩,fun k hk=>?_⟩
 rcases hk with rfl|rfl|hk|hk
 · exact .inl ((Cb _).2 (.inl rfl))
 · exact .inl ((Cb _).2 (.inr (.inl rfl)))
 · rcases hg k ((BC k).2 (.inr hk)) with e|e
   · exact .inl ((Cb k).2 (e.elim (fun e=>.inr (.inl e)) fun e=>.inr (.inr (.inl e))))
   · exact .inr e
 · exact .inl ((Cb k).2 (.inr (.inr (.inr hk))))
def mQ (w:World) (b:Nat) (fb:Nat→Prop) (bs l:List UInt8) (w':World):Prop:=Fr fb w w'∧∃ fb',Buf w' b fb' (bs++l)∧Grow w fb fb'∧Kept w w' b bs.length
theorem mQ.nil {w:World} {b:Nat} {fb:Nat→Prop} {bs:List UInt8} (h:Buf w b fb bs):mQ w b fb bs [] w:=⟨Fr.refl _ _,fb,by rw[append_nil];exact h,fun _ h=>.inl h,Kept.refl _ _ _⟩
theorem mQ.then {w w1 w2:World} {b:Nat} {fb fb1:Nat→Prop} {bs l l2:List UInt8} (hb:Buf w b fb bs) (hf:Fr fb w w1) (ED:Buf w1 b fb1 (bs++l)) (hg:Grow w fb fb1) (hk:Kept w w1 b bs.length) (h2:mQ w1 b fb1 (bs++l) l2 w2):mQ w b fb bs (l++l2) w2:=by
 obtain ⟨Ae,fb2,Bj,BJ,JW⟩:=h2
 refine ⟨hf.trans Ae fun q hq e=>(hg q e).resolve_right (by omega),fb2,by rw[← append_assoc];exact Bj,fun q hq=>(BJ q hq).elim (hg q) (fun e=>.inr (Nat.le_trans hf.size e)),fun v g hp hv j hj=>?_⟩;obtain ⟨v1,DL,Qc,JY,NV⟩:=ED;obtain ⟨v0,IP,MV,NH,FV⟩:=hb;obtain rfl:v=v0:=by rw[hp] at IP;simpa using IP
 refine Eq.trans ?_ (hk v g hp hv j hj)
 by_cases e:v1.ownBlock=some g
 · exact JW v1 g DL e j (by rw[length_append];omega)
 · exact World.cell?_of_block (a:=⟨g,j,none⟩) (Ae.block g (Nat.lt_of_lt_of_le (aO MV hv) hf.size) fun h=>((NV g).1 h).elim (fun h=>NH (h▸hv)) e)
theorem mQ.from {w w0 w':World} {b:Nat} {fb:Nat→Prop} {bs l:List UInt8} (h0:F0 w w0) (hb:Buf w b fb bs) (h:mQ w0 b fb bs l w'):mQ w b fb bs l w':=by
 obtain ⟨hf,fb1,ED,hg,hk⟩:=h;obtain ⟨v0,IP,MV,NH,FV⟩:=hb
 refine ⟨(h0.mono fun _ _ h=>h.elim).trans hf fun _ _ h=>h,fb1,ED,fun q hq=>(hg q hq).imp id (Nat.le_trans h0.size),fun v g hp hv j hj=>?_⟩;obtain rfl:v=v0:=by rw[hp] at IP;simpa using IP
 exact (hk v g ((h0.block _ (aC hp) fun h=>h).trans hp) hv j hj).trans (World.cell?_of_block (a:=⟨g,j,none⟩) (h0.block g (aO MV hv) fun h=>h))
def aBA (X:Nat→Prop) (w:World) (b:Nat) (fb:Nat→Prop) (bs l:List UInt8) (w':World):Prop:=Fr (fun q=>fb q∨X q) w w'∧∃ fb',Buf w' b fb' (bs++l)∧Grow w fb fb'∧Kept w w' b bs.length
theorem aBA.nil {X:Nat→Prop} {w:World} {b:Nat} {fb:Nat→Prop} {bs:List UInt8} (h:Buf w b fb bs):aBA X w b fb bs [] w:=⟨Fr.refl _ _,fb,by rw[append_nil];exact h,fun _ h=>.inl h,Kept.refl _ _ _⟩
theorem aBA.step {X:Nat→Prop} {w w1 wm w2:World} {b:Nat} {fb fb1:Nat→Prop} {bs l l2:List UInt8} (hb:Buf w b fb bs) (hX:∀ q,X q→q<w.heap.size∧¬ fb q) (hf:Fr (fun q=>fb q∨X q) w w1) (ED:Buf w1 b fb1 (bs++l)) (hg:Grow w fb fb1) (hk:Kept w w1 b bs.length) (hm:Fr X w1 wm) (h2:mQ wm b fb1 (bs++l) l2 w2):aBA X w b fb bs (l++l2) w2:=by
 obtain ⟨Ae,fb2,Bj,BJ,JW⟩:=h2;have hs:=hf.size;have CE:=hm.size;have ik:∀ q,fb1 q→¬ X q:=fun q hq hx=>(hg q hq).elim (hX q hx).2 (fun e=>by have:=(hX q hx).1;omega)
 refine ⟨(hf.trans hm fun q _ e=>.inr e).trans Ae fun q hq e=>.inl ((hg q e).resolve_right (by omega)),fb2,by rw[← append_assoc];exact Bj,fun q hq=>(BJ q hq).elim (hg q) (fun e=>.inr (by omega)),fun v g hp hv j hj=>?_⟩;obtain ⟨v1,DL,Qc,JY,NV⟩:=ED;obtain ⟨v0,IP,MV,NH,FV⟩:=hb;obtain rfl:v=v0:=by rw[hp] at IP;simpa using IP
 have Vo:=aO MV hv
 refine Eq.trans ?_ (hk v g hp hv j hj)
 have au:¬ X g:=fun hx=>(hX g hx).2 ((FV g).2 (.inr hv))
 have e1:wm.cell? ⟨g,j,none⟩=w1.cell? ⟨g,j,none⟩:=World.cell?_of_block (a:=⟨g,j,none⟩) (hm.block g (by omega) au)
 by_cases e:v1.ownBlock=some g
 · exact (JW v1 g ((hm.block b (aC DL) (ik b ((NV b).2 (.inl rfl)))).trans DL) e j (by rw[length_append];omega)).trans e1
 · exact (World.cell?_of_block (a:=⟨g,j,none⟩) (Ae.block g (by omega) fun h=>((NV g).1 h).elim (fun h=>NH (h▸hv)) e)).trans e1
theorem Buf.quiet {w w':World} {b:Nat} {fb:Nat→Prop} {bs:List UInt8} (hb:Buf w b fb bs) (h:F0 w w'):Buf w' b fb bs:=aJ.aW hb fun k hk=>h.block k (aJ.lt hb k hk) fun h=>h
theorem aBA.back {X:Nat→Prop} {w W w':World} {b:Nat} {fb:Nat→Prop} {bs l:List UInt8} (h0:F0 w W) (hb:Buf w b fb bs) (hX:∀ q,X q→w.heap.size≤q) (h:aBA X W b fb bs l w'):mQ w b fb bs l w':=by
 obtain ⟨hf,fb1,ED,hg,hk⟩:=h;obtain ⟨v0,IP,MV,NH,FV⟩:=hb
 refine ⟨(h0.mono fun _ _ h=>h.elim).trans hf fun q hq e=>e.elim id fun e=>by have:=hX q e;omega,fb1,ED,fun q hq=>(hg q hq).imp id (Nat.le_trans h0.size),fun v g hp hv j hj=>?_⟩;obtain rfl:v=v0:=by rw[hp] at IP;simpa using IP
 exact (hk v g ((h0.block _ (aC hp) fun h=>h).trans hp) hv j hj).trans (World.cell?_of_block (a:=⟨g,j,none⟩) (h0.block g (aO MV hv) fun h=>h))
theorem mG (w:World) (b:Nat) (fb:Nat→Prop) (bs l:List UInt8) (hb:Buf w b fb bs) (v:Value) (n:Nat) (Vt:l.length=n) (hv:∃ a c,v=.slice a n c) (hs:Src Tryz.prog 1 22 v n (aN l) w) (hl:bs.length+n≤1099511627776) :
 Calls Tryz.prog 39 #[.pointer (some ⟨b,0,none⟩),v] w fun e w'=>e=.returned (.tuple #[])∧mQ w b fb bs l w':=by
 subst Vt;obtain ⟨va,vc,rfl⟩:=hv;obtain ⟨vb,hp,Bh,Am,Aj⟩:=hb;obtain ⟨a0,c0,rfl⟩:=ownsRow_shape Bh;obtain ⟨Ac,BH⟩:=aJ.cell hp;have AZ:=aC hp;go_enter func39,ntmps39
 go_wp2_with ((with_reducible show wpList _ _ _ (⟨some 10,_,_,_,_,_⟩ :: _) _ _);(refine aP _ rfl gY _ _ rfl _ _ _ rfl Bh _ _ _ rfl hs ?_ ?_ ?_);(unfold maxLen;omega);omega;intro v' w1 ha;obtain ⟨a',c',rfl⟩:=ha.shape;have Cj:w1.cell? ⟨b,0,none⟩=some (.slice a0 bs.length c0):=ha.2.1.cell Ac (fun h=>Am h.symm);have Ad:w1.frozen? ⟨b,0,none⟩=false:=(World.frozen?_of_block (ha.2.1.block b AZ (fun h=>Am h.symm))).trans BH)
 go_end0;obtain ⟨⟨fb',Aq,hg⟩,Ak⟩:=aJ.appended hp Bh Am Aj (Fr.refl _ w) ha
 exact ⟨rfl,Ak,fb',Buf.col.2 (by rw[length_append,bC];exact Aq),hg,Kept.appended hp Bh Am (Fr.refl _ w) ha⟩
section
variable {P:Program} {ops:Array Oper} {Q:Exit→Act→World→Prop} {md:Region.Mode} {T S:World→Prop} {z:Nat}
def Goes (P:Program) (md:Region.Mode) (ops:Array Oper) (Q:Exit→Act→World→Prop) (T S:World→Prop) (z:Nat):Nat→Array Bool→Act→World→Prop
 | 0,got,a,w=>Region.ready md ops got=[]∧Q .normal a w
 | n+1,got,a,w=>(Region.ready md ops got=[]→Q .normal a w) ∧
  ∀ j∈Region.ready md ops got,wpOp P ops Q j (fun b v=>(T v∧((got.setIfInBounds j true).getD z true=false→S v))∧Goes P md ops Q T S z n (got.setIfInBounds j true) b v) a w
theorem Goes.any:∀ {n:Nat} {got:Array Bool} {a:Act} {w:World},Goes P md ops Q T S z n got a w→wpAny P md ops Q n got a w
 | 0,_,_,_,h=>h
 | _+1,_,_,_,h=>⟨h.1,fun j hj=>wpOp_mono (fun _ _ h'=>h'.2.any) (h.2 j hj)⟩
theorem Goes.region {id:Nat} {a:Act} {w:World} (hm:P.follows .mixedOrders=true) (h:Goes P .any ops Q T S z ops.size (Array.replicate ops.size false) a w.drew):(Code.region id ops true).wp P Q a w :=
 wp_region_any hm h.any
theorem aHt {i j:Nat} {o:Oper} {got:Array Bool} (hj:j∈Region.ready md ops got) (ho:ops[j]?=some o) (hi:got.getD i true=false):∀ e∈o.after,Region.binds md e=true→e.on≠i:=fun e he hb PN=>by
 obtain ⟨_,o',Qb,FP⟩:=mem_ready.1 hj
 cases ho.symm.trans Qb
 have h1:=FP e he hb;rw[PN] at h1;rcases Nat.lt_or_ge i got.size with h|h
 · simp[h] at hi h1
   rw[hi] at h1
   cases h1
 · simp[Array.getElem?_eq_none h] at h1
theorem Goes.firstT {i:Nat} {o:Oper} {u:Value} (hi:ops[i]?=some o) (Nj:∀ (j:Nat) (o:Oper) cs b,ops[j]?=some o→o.op≠.select cs b) (hQ:∀ c a w,Q (.panic c) (a.put o.dst u) w→Q (.panic c) a w) (NZ:i≠z) :
 ∀ {n:Nat} {got:Array Bool} {a:Act} {w:World},(∀ j oj,ops[j]?=some oj→j≠i→got.getD j true=false→(∀ e∈oj.after,Region.binds md e=true→e.on≠i)→o.apart ops oj=true)→i∈Region.ready md ops got→YieldsIf P ops T o u a→T w→(got.getD z true=false→S w) →
  Goes P md ops Q T S z n (got.setIfInBounds i true) (a.put o.dst u) w→Goes P md ops Q T S z (n+1) got a w:=by
 intro n
 induction n with
 | zero =>
  intro got a w GV hr hy hT hS H
  refine ⟨fun h=>(by rw[h] at hr;cases hr),fun j hj=>?_⟩;rcases Decidable.em (j=i) with rfl|Am
  · exact hy.wpOp hi hT ⟨⟨hT,fun h=>hS (by rw[getD_set_ne true NZ] at h;exact h)⟩,H⟩
  · have TM:=ready_mono hj Am
    rw[H.1] at TM
    cases TM
 | succ n ih =>
  intro got a w GV hr hy hT hS H
  refine ⟨fun h=>(by rw[h] at hr;cases hr),fun j hj=>?_⟩;rcases Decidable.em (j=i) with rfl|Am
  · exact hy.wpOp hi hT ⟨⟨hT,fun h=>hS (by rw[getD_set_ne true NZ] at h;exact h)⟩,H⟩
  · obtain ⟨UE,oj,NI,_⟩:=mem_ready.1 hj
    have Rh:=aHt hj NI (mem_ready.1 hr).1;have step:=wpOp_putIf NI (GV j oj NI Am UE Rh) (fun cs b=>Nj i o cs b hi) (fun cs b=>Nj j oj cs b NI) hQ hy (H.2 j (ready_mono hj Am))
    refine wpOp_mono (fun b v h3=>?_) step;have RN:(got.setIfInBounds j true).getD z true=false→S v:=fun h=>h3.2.1.2 (by rw[Array.setIfInBounds_comm _ _ (Ne.symm Am),getD_set_ne true NZ];exact h)
    refine ⟨⟨h3.2.1.1,RN⟩,ih (fun k ok hk Gz MJ PW=>GV k ok hk Gz ?_ PW) (ready_mono hr (Ne.symm Am)) h3.1 h3.2.1.1 RN ?_⟩
    · rcases Decidable.em (j=k) with rfl|QV
      · exact UE
      · rw[getD_set_ne true QV] at MJ
        exact MJ
    · rw[Array.setIfInBounds_comm _ _ Am]
      exact h3.2.2
theorem Goes.aOK {i:Nat} {o oz:Oper} {u:Value} (hi:ops[i]?=some o) (Nj:∀ (j:Nat) (o:Oper) cs b,ops[j]?=some o→o.op≠.select cs b) (hQ:∀ c a w,Q (.panic c) (a.put o.dst u) w→Q (.panic c) a w) (NZ:i≠z) (hz:ops[z]?=some oz) (Nu:∃ e∈oz.after,Region.binds md e=true∧e.on=i) :
 ∀ {n:Nat} {got:Array Bool} {a:Act} {w:World},(∀ j oj,ops[j]?=some oj→j≠i→got.getD j true=false→(∀ e∈oj.after,Region.binds md e=true→e.on≠i)→o.apart ops oj=true)→i∈Region.ready md ops got→got.getD z true=false→YieldsIf P ops (fun v=>T v∧S v) o u a→T w→S w →
  Goes P md ops Q T S z n (got.setIfInBounds i true) (a.put o.dst u) w→Goes P md ops Q T S z (n+1) got a w:=by
 intro n
 induction n with
 | zero =>
  intro got a w GV hr TI hy hT hS H
  refine ⟨fun h=>(by rw[h] at hr;cases hr),fun j hj=>?_⟩;rcases Decidable.em (j=i) with rfl|Am
  · exact hy.wpOp hi ⟨hT,hS⟩ ⟨⟨hT,fun _=>hS⟩,H⟩
  · have TM:=ready_mono hj Am
    rw[H.1] at TM
    cases TM
 | succ n ih =>
  intro got a w GV hr TI hy hT hS H
  refine ⟨fun h=>(by rw[h] at hr;cases hr),fun j hj=>?_⟩;rcases Decidable.em (j=i) with rfl|Am
  · exact hy.wpOp hi ⟨hT,hS⟩ ⟨⟨hT,fun _=>hS⟩,H⟩
  · obtain ⟨UE,oj,NI,_⟩:=mem_ready.1 hj
    have Rh:=aHt hj NI (mem_ready.1 hr).1
    have Vq:j≠z:=fun e=>by
     subst e;obtain ⟨e,he,hb,jb⟩:=Nu
     cases NI.symm.trans hz
     exact Rh e he hb jb
    have WT:(got.setIfInBounds j true).getD z true=false:=by rw[getD_set_ne true Vq];exact TI
    have step:=wpOp_putIf NI (GV j oj NI Am UE Rh) (fun cs b=>Nj i o cs b hi) (fun cs b=>Nj j oj cs b NI) hQ hy (H.2 j (ready_mono hj Am))
    refine wpOp_mono (fun b v h3=>?_) step;have RN:S v:=h3.2.1.2 (by rw[getD_set_ne true Vq,getD_set_ne true NZ];exact TI)
    refine ⟨⟨h3.2.1.1,fun _=>RN⟩,ih (fun k ok hk Gz MJ PW=>GV k ok hk Gz ?_ PW) (ready_mono hr (Ne.symm Am)) WT h3.1 h3.2.1.1 RN ?_⟩
    · rcases Decidable.em (j=k) with rfl|QV
      · exact UE
      · rw[getD_set_ne true QV] at MJ
        exact MJ
    · rw[Array.setIfInBounds_comm _ _ Am]
      exact h3.2.2
theorem Goes.fA {i:Nat} {o:Oper} {u:Value} {n:Nat} {got:Array Bool} {a:Act} {w:World} (hi:ops[i]?=some o) (NZ:(i == z)=false)
 (hs:Region.noSelect ops=true) (hf:Region.free md ops got i=true) (hr:(Region.ready md ops got).contains i=true)
 (hQ:∀ c a w,Q (.panic c) (a.put o.dst u) w→Q (.panic c) a w) (hw:Region.wanted o (yielded ops a.tmps)=true) (hT:T w) (hS:got.getD z true=false→S w) (hy:∀ w,T w→(execOp a.eval o).run P w=.ok (.value u) w)
 (h:Goes P md ops Q T S z n (got.setIfInBounds i true) (a.put o.dst u) w):Goes P md ops Q T S z (n+1) got a w :=
 Goes.firstT hi (Region.noSelect_spec hs) hQ (by simpa using NZ) (Region.free_spec hi hf) (by simpa using hr) (.inl ⟨hw,hy⟩) hT hS h
theorem Goes.aDS {i:Nat} {o oz:Oper} {u:Value} {n:Nat} {got:Array Bool} {a:Act} {w:World} (hi:ops[i]?=some o) (NZ:(i == z)=false) (hz:ops[z]?=some oz) (Nu:(oz.after.any fun e=>Region.binds md e && e.on == i)=true)
 (hs:Region.noSelect ops=true) (hf:Region.free md ops got i=true) (hr:(Region.ready md ops got).contains i=true) (TI:got.getD z true=false)
 (hQ:∀ c a w,Q (.panic c) (a.put o.dst u) w→Q (.panic c) a w) (hw:Region.wanted o (yielded ops a.tmps)=true) (hT:T w) (hS:S w) (hy:∀ w,T w∧S w→(execOp a.eval o).run P w=.ok (.value u) w)
 (h:Goes P md ops Q T S z n (got.setIfInBounds i true) (a.put o.dst u) w):Goes P md ops Q T S z (n+1) got a w:=by
 refine Goes.aOK hi (Region.noSelect_spec hs) hQ (by simpa using NZ) hz ?_ (Region.free_spec hi hf) (by simpa using hr) TI (.inl ⟨hw,hy⟩) hT hS h
 obtain ⟨e,he,hb⟩:=Array.any_eq_true'.1 Nu;simp only[Bool.and_eq_true,beq_iff_eq] at hb
 exact ⟨e,he,hb.1,hb.2⟩
theorem Goes.one {i:Nat} {n:Nat} {got:Array Bool} {a:Act} {w:World} {o:Oper} (hr:Region.ready md ops got=[i]) (ho:ops[i]?=some o)
 (h:∀ K:Act→World→Prop,Hid (∀ b v,T v→((got.setIfInBounds i true).getD z true=false→S v)→Goes P md ops Q T S z n (got.setIfInBounds i true) b v→K b v)→if Region.wanted o (yielded ops a.tmps)=true then Oper.wp P o a w K Q else K (a.put o.dst undef) w):Goes P md ops Q T S z (n+1) got a w :=
 ⟨fun e=>(by rw[hr] at e;cases e),fun j hj=>by
  rw[hr,mem_singleton] at hj;subst hj
  exact wpOp_step ho fun K hK=>h K (Lib.hid fun b v h0 h1 h2=>hK b v ⟨⟨h0,h1⟩,h2⟩)⟩
theorem Goes.two {i j:Nat} {n:Nat} {got:Array Bool} {a:Act} {w:World} {o o':Oper} (hr:Region.ready md ops got=[i,j]) (ho:ops[i]?=some o) (Qb:ops[j]?=some o')
 (h:∀ K:Act→World→Prop,Hid (∀ b v,T v→((got.setIfInBounds i true).getD z true=false→S v)→Goes P md ops Q T S z n (got.setIfInBounds i true) b v→K b v)→if Region.wanted o (yielded ops a.tmps)=true then Oper.wp P o a w K Q else K (a.put o.dst undef) w)
 (h':∀ K:Act→World→Prop,Hid (∀ b v,T v→((got.setIfInBounds j true).getD z true=false→S v)→Goes P md ops Q T S z n (got.setIfInBounds j true) b v→K b v)→if Region.wanted o' (yielded ops a.tmps)=true then Oper.wp P o' a w K Q else K (a.put o'.dst undef) w):Goes P md ops Q T S z (n+1) got a w :=
 ⟨fun e=>(by rw[hr] at e;cases e),fun k hk=>by
  rw[hr,mem_cons,mem_singleton] at hk;rcases hk with rfl|rfl
  · exact wpOp_step ho fun K hK=>h K (Lib.hid fun b v h0 h1 h2=>hK b v ⟨⟨h0,h1⟩,h2⟩)
  · exact wpOp_step Qb fun K hK=>h' K (Lib.hid fun b v h0 h1 h2=>hK b v ⟨⟨h0,h1⟩,h2⟩)⟩
theorem Goes.done {n:Nat} {got:Array Bool} {a:Act} {w:World} (hr:Region.ready md ops got=[]) (h:Q .normal a w):Goes P md ops Q T S z n got a w:=by
 cases n with
 | zero=>exact ⟨hr,h⟩
 | succ n=>exact ⟨fun _=>h,by rw[hr];simp⟩
end
set_option linter.unusedSimpArgs false in
theorem aOi (w:World) (b x0 x1:Nat) (fb:Nat→Prop) (bs:List UInt8) (hb:Buf w b fb bs) (v1 v2:Value) (cs:List Cell) (h1:w.ownsRow 0 5 1 v1 (cat cs).length (aN (cat cs))) (h2:w.ownsRow 0 511 2 v2 cs.length (spans 0 cs))
 (Fh:w.heap[x0]?=some (.cells #[v1,v2] 148 (0,0))) (CO:∃ (cur:Array Value) (t:TypeId),w.heap[x1]?=some (.cells cur t (0,0))∧cur.size=10) (n0:¬ fb x0) (n1:¬ fb x1) (n01:x0≠x1)
 (KF:∀ k,v1.ownBlock=some k→¬ fb k∧k≠x1) (QQ:∀ k,v2.ownBlock=some k→¬ fb k∧k≠x1) (CE:∀ c∈cs,c.s.size≤65536) (hm:(cat cs).length≤2147483648) (hn:cs.length≤2147483648) (hl:bs.length+(cs.flatMap dL).length≤1099511627776) :
 Calls Tryz.prog 297 #[.pointer (some ⟨b,0,none⟩),.pointer (some ⟨x0,0,none⟩),.pointer (some ⟨x1,0,none⟩)] w fun e w'=>e=.returned (.tuple #[])∧aBA (fun q=>q=x1) w b fb bs (cs.flatMap dL) w':=by
 obtain ⟨a1,k1,rfl⟩:=ownsRow_shape h1;obtain ⟨a2,k2,rfl⟩:=ownsRow_shape h2;have y0:w.cell? ⟨x0,0,none⟩=some (.slice a1 (cat cs).length k1):=crw Fh rfl;have y1:w.cell? ⟨x0,1,none⟩=some (.slice a2 cs.length k2):=crw Fh rfl;have hX:∀ q,q=x1→q<w.heap.size∧¬ fb q:=fun q e=>e▸⟨by obtain ⟨_,_,h,_⟩:=CO;exact aC h,n1⟩
 have Df:∀ k,fb k→k<w.heap.size:=aJ.lt hb;have VY:=Lib.hid hb;have L9:=Lib.hid Fh;have FK:=aC Fh;have F6:=(hX x1 rfl).1;go_enter func297,ntmps297;go_wp2
 go_loopw [5,6,10] (fun _ _ i wr=>∃ (k:Nat) (fbk:Nat→Prop),k≤cs.length∧i=.int .i64 k∧Fr (fun q=>fb q∨q=x1) w wr∧Buf wr b fbk (bs++(cs.take k).flatMap dL)∧Grow w fb fbk∧Kept w wr b bs.length∧∃ (cur:Array Value) (t:TypeId),wr.heap[x1]?=some (.cells cur t (0,0))∧cur.size=10) (fun _ _ i _=>cs.length - (intOf i).toNat)
 case atStart=>exact ⟨0,fb,Nat.zero_le _,rfl,Fr.refl _ _,by simpa using hb,fun k hk=>.inl hk,Kept.refl _ _ _,CO⟩
 case round =>
  obtain ⟨k,fbk,hk,rfl,AY,Dz,JU,Vs,cur,tb,IU,H7⟩:=hrel;have Q3:=AY.size
  by_cases Ar:k<cs.length
  · have VH:=AY.owns h1 (fun q hq h=>h.elim (KF q hq).1 (KF q hq).2)
    have Px:=AY.owns h2 (fun q hq h=>h.elim (QQ q hq).1 (QQ q hq).2);have Gh:=(AY.block x0 FK (fun h=>h.elim n0 n01)).trans Fh;rcases Px.2 with ⟨hv,_⟩|⟨ga,capa,cura,hv,_⟩
    · simp only[Value.slice.injEq] at hv;omega
    · simp only[Value.slice.injEq] at hv
      obtain ⟨rfl,_,rfl⟩:=hv;obtain ⟨II,BN⟩:=rW cs 0 k Ar;have Oz:=Px.cells (g:=ga) rfl _ _ II;have Jv:=Px.cells (g:=ga) rfl _ _ BN;rw[Addr.add_lit,Nat.zero_add,Nat.zero_add] at Oz Jv;have Dp:=CE cs[k] (getElem_mem _);have Ah:=bQ dL cs k Ar;have h3:=jZ dL cs (k+1);rw[Ah] at h3
      have BD:(cat (cs.take k)).length+cs[k].s.size≤(cat cs).length:=by
       have hs:cs[k].s.data.toList.length=cs[k].s.size:=Array.length_toList;rw[kJ cs k Ar,length_append,length_append,hs];omega
      have F9:∀ j u,(aN cs[k].s.data.toList)[j]?=some u→(aN (cat cs))[(cat (cs.take k)).length+j]?=some u:=by
       intro j u hj;rw[kJ cs k Ar,bC,getElem?_append_right (by rw[aZ];omega),aZ,Nat.add_sub_cancel_left,bC,getElem?_append_left (List.getElem?_eq_some_iff.1 hj).1]
       exact hj
      generalize cs[k]=cc at Oz Jv Dp Ah BD F9 h3;generalize (cat (cs.take k)).length=o at Oz Jv BD F9;generalize hL:(cs.take k).flatMap dL=L at Dz Ah h3;have hu10:(Lib.uvarint cc.s.size).length≤10:=Lib.uvarint_length64 (by omega);have hs:cc.s.data.toList.length=cc.s.size:=Array.length_toList;obtain ⟨WA,JB⟩:∃ WA,WA=wr.alloc (.cells #[.int .i64 o,.int .i64 (o+cc.s.size)] 511):=⟨_,rfl⟩;have hA:F0 wr WA:=by rw[JB];exact (Fr.refl _ wr).alloc _
      have Zu:WA.heap.size=wr.heap.size+1:=by rw[JB];simp
      have FZ:=(hA.block x1 (by omega) (fun h=>h)).trans IU;have p0:WA.cell? ⟨wr.heap.size,0,none⟩=some (.int .i64 o):=by rw[JB,aB rfl];rfl
      have p1:WA.cell? ⟨wr.heap.size,1,none⟩=some (.int .i64 (o+cc.s.size)):=by rw[JB,aB rfl];rfl
      have AO:=Tryz.binary_PutUvarint x1 0 10 10 cc.s.size (by omega) WA.drew hu10 (fun j hj=>⟨by have e:WA.drew.cell? ⟨x1,0+j,none⟩=_:=cell_of_row WA _ _ _ _ _ FZ;rw[e];simp;omega,fzj _ FZ⟩);have ed:o≤2147483648∧cc.s.size≤65536:=⟨by omega,Dp⟩
      have JA:∀ W1,W1=WA.drew.setCells x1 0 (Lib.byteCells (Lib.uvarint cc.s.size))→Fr (fun q=>q=x1) wr W1∧W1.cell? ⟨wr.heap.size,0,none⟩=some (.int .i64 o)∧W1.cell? ⟨wr.heap.size,1,none⟩=some (.int .i64 (o+cc.s.size)) ∧
       (∃ (cur:Array Value) (t:TypeId),W1.heap[x1]?=some (.cells cur t (0,0))∧cur.size=10)∧∀ j u,(aN (Lib.uvarint cc.s.size))[j]?=some u→W1.cell? ((⟨x1,0,none⟩:Addr).add j)=some u:=by
       rintro W1 rfl;have hf:Fr (fun q=>q=x1) WA (WA.drew.setCells x1 0 (Lib.byteCells (Lib.uvarint cc.s.size))):=Fr.setCells (S:=fun q=>q=x1) (.inl rfl) _ _ _ ((Fr.refl _ WA).drew);have hr1:=iT x1 tb (Lib.byteCells (Lib.uvarint cc.s.size)) 0 WA.drew cur FZ (by rw[Lib.byteCells_length];omega)
       refine ⟨(hA.mono (fun _ _ h=>h.elim)).trans hf (fun _ _ h=>h),hf.aA p0 (by show ¬ wr.heap.size=x1;omega),hf.aA p1 (by show ¬ wr.heap.size=x1;omega),⟨_,tb,hr1,by simp[Lib.byteCells_length,H7];omega⟩,fun j u hj=>?_⟩;rw[Addr.add_lit,Nat.zero_add,cell_of_row _ _ _ _ _ _ hr1,getElem?_toArray,take_zero,nil_append,show Lib.byteCells (Lib.uvarint cc.s.size)=aN (Lib.uvarint cc.s.size) from rfl,getElem?_append_left (List.getElem?_eq_some_iff.1 hj).1]
       exact hj
      have RQ:=Lib.hid JA;have OW:=Lib.hid AO;have Su:=Lib.hid Dz
      have RF:(bs++L).length+(Lib.uvarint cc.s.size).length+cc.s.size≤1099511627776:=by
       simp only[length_append,dL,hs] at h3 ⊢;omega
      have Yd:(aN (Lib.uvarint cc.s.size)).length=(Lib.uvarint cc.s.size).length:=aZ _;have F5:=Lib.hid Ah;have KO:=aJ.lt Dz;have Uf:¬ fbk x0:=fun h=>(JU _ h).elim n0 (fun h=>by omega)
      have Oe:¬ fbk wr.heap.size:=fun h=>by have:=KO _ h;omega
      have SY:=Lib.hid F9;have NY:=Lib.hid JU;have Xb:=Lib.hid Vs;have Xi:=Lib.hid KO;clear JA AO Dz Ah h3 IU FZ F9 CE II BN Df hX Vs KO JU hk H7
      go_wp2_with fail
      rw[← JB];clear Oz Jv JB;obtain ⟨U,Yc⟩:∃ U,Hid (Lib.uvarint cc.s.size=U):=⟨_,Lib.hid rfl⟩;rw[Yc.out] at RQ OW hu10 RF Yd;have s1:(0:Int)≤(U.length:Int):=by omega
      have s2:(U.length:Int)≤10:=by omega
      have e1:IntKind.u64.wrap (IntKind.i64.wrap ((o:Int)+cc.s.size - o))=cc.s.size:=by rw[IntKind.wrap_i64,IntKind.wrap_u64];omega
      refine Goes.region (T:=fun Z=>Z.cell? ⟨wr.heap.size,0,none⟩=some (.int .i64 o)∧Z.cell? ⟨wr.heap.size,1,none⟩=some (.int .i64 (o+cc.s.size))) (S:=fun _=>True) (z:=99) (by kernel_rfl) ?_
      refine Goes.fA (i:=0) (u:=?hu0) rfl (by kernel_rfl) (by kernel_rfl) (by kernel_rfl) (by kernel_rfl) (fun _ _ _ h=>h) (by rfl) ⟨p0,p1⟩ (fun _=>trivial) ?hy0 ?hr0
      case hy0 =>
       rintro wq ⟨g0,g1⟩;go_simp
       try rfl
      try simp only[gg,Act.put]
      refine Goes.fA (i:=1) (u:=?hu1) rfl (by kernel_rfl) (by kernel_rfl) (by kernel_rfl) (by kernel_rfl) (fun _ _ _ h=>h) (by rfl) ⟨p0,p1⟩ (fun _=>trivial) ?hy1 ?hr1
      case hy1 =>
       rintro wq ⟨g0,g1⟩;go_simp
       try rfl
      try simp only[gg,Act.put]
      refine Goes.fA (i:=2) (u:=?hu2) rfl (by kernel_rfl) (by kernel_rfl) (by kernel_rfl) (by kernel_rfl) (fun _ _ _ h=>h) (by rfl) ⟨p0,p1⟩ (fun _=>trivial) ?hy2 ?hr2
      case hy2 =>
       rintro wq ⟨g0,g1⟩;go_simp
       try rfl
      try simp only[gg,Act.put]
      refine Goes.fA (i:=3) (u:=?hu3) rfl (by kernel_rfl) (by kernel_rfl) (by kernel_rfl) (by kernel_rfl) (fun _ _ _ h=>h) (by rfl) ⟨p0,p1⟩ (fun _=>trivial) ?hy3 ?hr3
      case hy3 =>
       rintro wq ⟨g0,g1⟩;go_simp
       try rfl
      try simp only[gg,Act.put]
      refine Goes.fA (i:=4) (u:=?hu4) rfl (by kernel_rfl) (by kernel_rfl) (by kernel_rfl) (by kernel_rfl) (fun _ _ _ h=>h) (by rfl) ⟨p0,p1⟩ (fun _=>trivial) ?hy4 ?hr4
      case hy4 =>
       rintro wq ⟨g0,g1⟩;go_simp
       try rfl
      try simp only[gg,Act.put]
      refine Goes.fA (i:=5) (u:=?hu5) rfl (by kernel_rfl) (by kernel_rfl) (by kernel_rfl) (by kernel_rfl) (fun _ _ _ h=>h) (by rfl) ⟨p0,p1⟩ (fun _=>trivial) ?hy5 ?hr5
      case hy5 =>
       rintro wq ⟨g0,g1⟩;go_simp
       try rfl
      try simp only[gg,Act.put]
      refine Goes.fA (i:=6) (u:=?hu6) rfl (by kernel_rfl) (by kernel_rfl) (by kernel_rfl) (by kernel_rfl) (fun _ _ _ h=>h) (by rfl) ⟨p0,p1⟩ (fun _=>trivial) ?hy6 ?hr6
      case hy6 =>
       rintro wq ⟨g0,g1⟩;go_simp
       try rfl
      try simp only[gg,Act.put]
      refine Goes.one (i:=7) (by kernel_rfl) rfl (fun K' hK=>?_)
      try simp only[gg,Act.put]
      go_simp
      go_at_call 296
      refine OW.out.mono ?_
      rintro e w1 ⟨rfl,CG⟩;obtain ⟨Ad,p0',p1',SB,Jr⟩:=RQ.out w1 CG;clear CG
      dsimp only
      refine hK.out _ _ ⟨p0',p1'⟩ (fun _=>trivial) ?_
      clear hK K'
      try simp only[gg,Act.put]
      refine Goes.one (i:=8) (by kernel_rfl) rfl (fun K' hK=>?_)
      try simp only[gg,Act.put]
      go_simp
      refine hK.out _ _ ⟨p0',p1'⟩ (fun _=>trivial) ?_
      clear hK K'
      try simp only[gg,Act.put]
      refine Goes.done (by kernel_rfl) ?_
      have JU:=NY.out;have L8:Buf w1 b fbk (bs++L):=aJ.aW Su.out fun q hq=>Ad.block q (Xi.out q hq) (fun e=>(JU q hq).elim (fun h=>n1 (e▸h)) (fun h=>by have e':q=x1:=e;omega))
      have Ed:=mG w1 b fbk (bs++L) U L8 (.slice (some ⟨x1,0,none⟩) U.length 10) U.length rfl ⟨_,_,rfl⟩ (Src.ofSlice _ underlying22 _ _ _ _ (by rw[Yd];omega) Jr (oU _)) (by omega);have Kr:=Lib.hid Ed;have cx0:w1.cell? ⟨x0,0,none⟩=some (.slice a1 (cat cs).length k1):=Ad.aA (crw Gh rfl) n01;have NM:=Ad.owns VH (fun q hq h=>(KF q hq).2 h);clear Jr JU Ed;have r0:(0:Int)≤(o:Int):=by omega
      have r1:(o:Int)≤(o:Int)+(cc.s.size:Int):=by omega
      have r2:(0:Int)≤(o:Int)+(cc.s.size:Int):=by omega
      have r3:((o:Int)+(cc.s.size:Int)).toNat - o=cc.s.size:=by omega
      have Le:(aN cc.s.data.toList).length=cc.s.size:=by rw[aZ];exact Array.length_toList
      have BV:∀ (w2 w3:World) (fb2:Nat→Prop),Fr fbk w1 w2→Buf w2 b fb2 ((bs++L)++U)→Grow w1 fbk fb2→Kept w1 w2 b (bs++L).length→mQ w2 b fb2 ((bs++L)++U) cc.s.data.toList w3→∃ (k':Nat) (fbk':Nat→Prop),k'≤cs.length∧Value.int .i64 ((k:Int)+1)=.int .i64 k'∧Fr (fun q=>fb q∨q=x1) w w3∧Buf w3 b fbk' (bs++(cs.take k').flatMap dL)∧Grow w fb fbk'∧Kept w w3 b bs.length∧∃ (cur:Array Value) (t:TypeId),w3.heap[x1]?=some (.cells cur t (0,0))∧cur.size=10:=by
       intro w2 w3 fb2 Ae Bj BJ JW QJ;have hX:∀ q,q=x1→q<w.heap.size∧¬ fb q:=fun q e=>e▸⟨F6,n1⟩
       obtain ⟨hF,fb3,EY,EU,Oa⟩:=aBA.step VY.out hX AY Su.out NY.out Xb.out Ad (mQ.then L8 Ae Bj BJ JW QJ);have Qa:∀ q,q<w.heap.size→¬ fb q→¬ fbk q:=fun q hq hn h=>(NY.out q h).elim hn (fun h=>by omega)
       have FI:=Ad.size
       refine ⟨k+1,fb3,Ar,rfl,hF,?_,EU,Oa,?_⟩
       · rw[F5.out,dL,Yc.out]
         exact EY
       · obtain ⟨cur1,t1,e,hc⟩:=SB
         exact ⟨cur1,t1,(QJ.1.block _ (Nat.lt_of_lt_of_le (aC e) Ae.size) (fun h=>(BJ _ h).elim (Qa x1 F6 n1) (fun h=>by omega))).trans ((Ae.block _ (aC e) (Qa x1 F6 n1)).trans e),hc⟩
      have OD:=Lib.hid BV;clear BV;rcases NM.2 with ⟨Eo,hz⟩|⟨g1,cap1,cur1,Eo,_,_,Ua,LJ,_⟩
      · simp only[Value.slice.injEq] at Eo
        obtain ⟨rfl,SX,rfl⟩:=Eo;have Pq:cc.s.size=0:=by omega
        have MV:o=0:=by omega
        have WG:cc.s.data.toList=[]:=eq_nil_of_length_eq_zero (by rw[Array.length_toList];exact Pq);clear SX hz
        go_wp2_with (first|(with_reducible show Calls _ _ #[_,.slice (some ⟨x1,0,none⟩) _ _] _ _;fail)|(go_at_call 39;have hz:=Kr.out;refine hz.mono ?_;clear hz Kr;rintro e w2 ⟨rfl,Ae,fb2,Bj,BJ,JW⟩;have q0:=Ae.aA p0' Oe;have q1:=Ae.aA p1' Oe;have c0:=Ae.aA cx0 Uf;have Jn:=mG w2 b fb2 ((bs++L)++U) [] Bj (.slice none 0 0) 0 rfl ⟨_,_,rfl⟩ (Src.ofNil _ underlying22 0) (by rw[length_append];omega))|(go_at_call 39;have hz:=Jn;refine hz.mono ?_;clear hz Jn;rintro e w3 ⟨rfl,QJ⟩))
        go_roundw
        case rel=>exact OD.out w2 w3 fb2 Ae Bj BJ JW (by rw[WG];exact QJ)
        case measure=>simp[intOf];omega
      · simp only[Value.slice.injEq] at Eo
        obtain ⟨rfl,_,rfl⟩:=Eo;unfold maxLen at LJ;have r4:(o:Int)+(cc.s.size:Int)≤(k1:Int):=by omega
        have TR:k1=o→cc.s.size=0:=by intro h;omega
        have Be:∀ W,Fr fbk w1 W→∀ j u,(aN cc.s.data.toList)[j]?=some u→W.cell? ((⟨g1,o,none⟩:Addr).add j)=some u:=fun W hW j u hj=>by
         have:=NM.cells (g:=g1) rfl _ _ (SY.out j u hj);rw[Addr.add_lit,Nat.zero_add] at this;rw[Addr.add_lit]
         exact hW.aA this (fun h=>(NY.out g1 h).elim (KF g1 rfl).1 (fun h=>by have:=aO h1 (k:=g1) rfl;omega))
        have U5:=Lib.hid Be;clear Be
        go_wp2_with (first|(with_reducible show Calls _ _ #[_,.slice (some ⟨x1,0,none⟩) _ _] _ _;fail)|(go_at_call 39;have hz:=Kr.out;refine hz.mono ?_;clear hz Kr;rintro e w2 ⟨rfl,Ae,fb2,Bj,BJ,JW⟩;have q0:=Ae.aA p0' Oe;have q1:=Ae.aA p1' Oe;have c0:=Ae.aA cx0 Uf;have Jn:=mG w2 b fb2 ((bs++L)++U) cc.s.data.toList Bj _ cc.s.size hs ⟨_,_,rfl⟩ (aHx underlying22 Le (U5.out w2 Ae) TR (k1 - o)) (by rw[length_append];omega))|(go_at_call 39;have hz:=Jn;refine hz.mono ?_;clear hz Jn;rintro e w3 ⟨rfl,QJ⟩))
        go_roundw
        case rel=>exact OD.out w2 w3 fb2 Ae Bj BJ JW QJ
        case measure=>simp[intOf];omega
  · have Bl:k=cs.length:=by omega
    subst Bl;rw[take_length] at Dz;go_wp2;go_end0
    exact ⟨rfl,AY,fbk,Dz,JU,Vs⟩
theorem aJp {conn:Value} {ps pw:Nat} {w:World} {fw:Nat→Prop} {n:Nat} {out:List UInt8} (h:eG conn ps pw w fw n out) (v1 v2:Value) (cs:List Cell) (h1:w.ownsRow 0 5 1 v1 (cat cs).length (aN (cat cs))) (h2:w.ownsRow 0 511 2 v2 cs.length (spans 0 cs))
 (KF:∀ k,v1.ownBlock=some k→¬ fw k) (QQ:∀ k,v2.ownBlock=some k→¬ fw k) (CE:∀ c∈cs,c.s.size≤65536) (hm:(cat cs).length≤2147483648) (hn:cs.length≤2147483648) (hl:out.length+(cs.flatMap dL).length≤1099511627776) :
 Calls Tryz.prog 295 #[.agg #[v1,v2],.pointer (some ⟨pw,0,none⟩)] w fun e w'=>e=.returned (.tuple #[])∧Fr fw w w'∧∃ fw',eG conn ps pw w' fw' n (out++cs.flatMap dL)∧Grow w fw fw':=by
 obtain ⟨a1,k1,rfl⟩:=ownsRow_shape h1;obtain ⟨a2,k2,rfl⟩:=ownsRow_shape h2;have Df:=h.lt;generalize hW:(w.alloc (.cells #[.slice a1 (cat cs).length k1,.slice a2 cs.length k2] 148)).alloc (.cells #[.int .u8 0,.int .u8 0,.int .u8 0,.int .u8 0,.int .u8 0,.int .u8 0,.int .u8 0,.int .u8 0,.int .u8 0,.int .u8 0] 512)=W;have Aw:F0 w W:=by subst hW;exact ((Fr.refl _ w).alloc _).alloc _
 have Fh:W.heap[w.heap.size]?=some (.cells #[.slice a1 (cat cs).length k1,.slice a2 cs.length k2] 148 (0,0)):=by subst hW;exact (Below.heap_alloc _ _ _ (by simp)).trans (heap_alloc_new w _)
 have CO:∃ (cur:Array Value) (t:TypeId),W.heap[w.heap.size+1]?=some (.cells cur t (0,0))∧cur.size=10:=by subst hW;exact ⟨_,_,Fr.made (Fr.refl _ _) (by simp),rfl⟩
 have Gw:=h.aOH Aw (l:=cs.flatMap dL) (cb:=.func (.func 297) #[] #[.pointer (some ⟨w.heap.size,0,none⟩),.pointer (some ⟨w.heap.size+1,0,none⟩)]) fun b fb bs hb CJ Gf =>
  bM.func call297 (by
   have Ip:=fun k hk=>Df k (CJ k hk)
   refine (aOi W b w.heap.size (w.heap.size+1) fb bs hb _ _ cs (Aw.owns h1 (fun _ _ h=>h)) (Aw.owns h2 (fun _ _ h=>h)) Fh CO (fun h=>by have:=Ip _ h;omega) (fun h=>by have:=Ip _ h;omega) (by omega) (fun k hk=>⟨fun h=>KF k hk (CJ k h),fun e=>by have:=aO h1 hk;omega⟩) (fun k hk=>⟨fun h=>QQ k hk (CJ k h),fun e=>by have:=aO h2 hk;omega⟩) CE hm hn (by omega)).mono ?_
   rintro e w' ⟨h1,h2⟩
   exact ⟨h1,aBA.back Aw (aJ.aW hb fun k hk=>(Aw.block k (Ip k hk) (fun h=>h)).symm) (fun q e=>by have e':q=w.heap.size+1:=e;omega) h2⟩)
 subst hW;go_enter func295,ntmps295
 go_wp2_with (go_at_call 176;refine Gw.mono ?_;rintro e w1 ⟨rfl,h1,h2⟩)
 go_end0
 exact ⟨rfl,h1,h2⟩
theorem aKo (w:World):(convert 22 9 (.slice none 0 0)).run Tryz.prog w=.ok (.string ⟨#[]⟩) w:=by kernel_rfl
theorem aHQ (w:World) (g o k:Nat) (s:ByteArray) (c:Nat) (hk:k=o→s.size=0) (hs:∀ j u,(aN s.data.toList)[j]?=some u→w.cell? ((⟨g,o,none⟩:Addr).add j)=some u):(convert 22 9 (.slice (if k=o then some ⟨g,0,none⟩ else some ⟨g,o,none⟩) s.size c)).run Tryz.prog w=.ok (.string s) w:=by
 have hl:s.data.toList.length=s.size:=Array.length_toList
 by_cases h:k=o
 · have h0:s.data.toList=[]:=eq_nil_of_length_eq_zero (hl.trans (hk h))
   have:=run_convert_bytes_back w 22 9 5 ⟨g,0,none⟩ c s.data.toList underlying22 underlying5 underlying9 (fun j hj=>by rw[h0] at hj;simp at hj);rw[hl] at this;rw[if_pos h]
   exact this
 · have:=run_convert_bytes_back w 22 9 5 ⟨g,o,none⟩ c s.data.toList underlying22 underlying5 underlying9 (fun j hj=>hs j _ (by unfold aN;rw[getElem?_map,getElem?_eq_getElem hj];rfl))
   rw[hl] at this;rw[if_neg h]
   exact this
theorem aPg (w:World) (v1 v2:Value) (cs:List Cell) (h1:w.ownsRow 0 5 1 v1 (cat cs).length (aN (cat cs))) (h2:w.ownsRow 0 511 2 v2 cs.length (spans 0 cs)) (hm:(cat cs).length≤2147483648) (k:Nat) (hk:k<cs.length) :
 Calls Tryz.prog 292 #[.agg #[v1,v2],.int .i64 k] w fun e w'=>e=.returned (.string cs[k].s)∧F0 w w':=by
 obtain ⟨a1,k1,rfl⟩:=ownsRow_shape h1;obtain ⟨a2,k2,rfl⟩:=ownsRow_shape h2;rcases h2.2 with ⟨hv,_⟩|⟨ga,capa,cura,hv,_⟩
 · simp only[Value.slice.injEq] at hv;omega
 · simp only[Value.slice.injEq] at hv
   obtain ⟨rfl,_,rfl⟩:=hv;obtain ⟨II,BN⟩:=rW cs 0 k hk;have Oz:=h2.cells (g:=ga) rfl _ _ II;have Jv:=h2.cells (g:=ga) rfl _ _ BN;rw[Addr.add_lit,Nat.zero_add,Nat.zero_add] at Oz Jv
   have BD:(cat (cs.take k)).length+cs[k].s.size≤(cat cs).length:=by
    have hs:cs[k].s.data.toList.length=cs[k].s.size:=Array.length_toList;rw[kJ cs k hk,length_append,length_append,hs];omega
   have F9:∀ j u,(aN cs[k].s.data.toList)[j]?=some u→(aN (cat cs))[(cat (cs.take k)).length+j]?=some u:=by
    intro j u hj;rw[kJ cs k hk,bC,getElem?_append_right (by rw[aZ];omega),aZ,Nat.add_sub_cancel_left,bC,getElem?_append_left (List.getElem?_eq_some_iff.1 hj).1]
    exact hj
   generalize cs[k]=cc at Oz Jv BD F9 ⊢;generalize (cat (cs.take k)).length=o at Oz Jv BD F9;have Gz:(k:Int)<cs.length:=by omega
   have hn:cs.length≤9223372036854775807:=by unfold maxLen at *;omega
   have WR:=World.block_lt_of_cell? w _ Oz;simp only at WR;have r0:(0:Int)≤(o:Int):=by omega
   have r1:(o:Int)≤(o:Int)+(cc.s.size:Int):=by omega
   have r2:(0:Int)≤(o:Int)+(cc.s.size:Int):=by omega
   have r3:((o:Int)+(cc.s.size:Int)).toNat - o=cc.s.size:=by omega
   rcases h1.2 with ⟨Eo,hz⟩|⟨g1,cap1,cur1,Eo,_,_,Ua,LJ,_⟩
   · simp only[Value.slice.injEq] at Eo
     obtain ⟨rfl,SX,rfl⟩:=Eo;have Pq:cc.s.size=0:=by omega
     have MV:o=0:=by omega
     have Rj:cc.s=⟨#[]⟩:=by
      have:cc.s.data=#[]:=Array.eq_empty_of_size_eq_zero Pq
      cases hc:cc.s with|mk d=>rw[hc] at this;exact congrArg _ this
     have hc:=fun W=>aKo W
     rw[Rj];subst MV;rw[Pq] at Jv r1 r2 r3;clear SX hz Pq Rj h1 h2 F9 BD;go_enter func292,ntmps292;go_wp2;go_ret
     exact ⟨rfl,((Fr.refl _ w).alloc _).alloc _⟩
   · simp only[Value.slice.injEq] at Eo
     obtain ⟨rfl,_,rfl⟩:=Eo;unfold maxLen at LJ;have r4:(o:Int)+(cc.s.size:Int)≤(k1:Int):=by omega
     have TR:k1=o→cc.s.size=0:=by intro h;omega
     have O8:∀ W,F0 w W→(convert 22 9 (.slice (if k1=o then some ⟨g1,0,none⟩ else some ⟨g1,o,none⟩) cc.s.size (k1 - o))).run Tryz.prog W=.ok (.string cc.s) W:=fun W hW =>
      aHQ W g1 o k1 cc.s (k1 - o) TR fun j u hj=>by
       have:=h1.cells (g:=g1) rfl _ _ (F9 j u hj);rw[Addr.add_lit,Nat.zero_add] at this;rw[Addr.add_lit]
       exact hW.aA this (fun h=>h)
     have Cj:=O8 _ ((Fr.refl _ w).alloc (.cells #[.slice (some ⟨g1,0,none⟩) (cat cs).length k1,.slice (some ⟨ga,0,none⟩) cs.length k2] 148) |>.alloc (.cells #[.int .i64 o,.int .i64 (o+cc.s.size)] 511));clear h1 h2 F9 BD O8;go_enter func292,ntmps292;go_wp2
     all_goals go_ret
     all_goals exact ⟨rfl,((Fr.refl _ w).alloc _).alloc _⟩
theorem aMm (w:World) (s:ByteArray):Calls Tryz.prog 45 #[.string s] w fun e w'=>e=.returned (.agg #[.int .u64 0,.int .u64 0,.int .u64 0,.int .u64 0,.string s,.bool false,.slice none 0 0,.slice none 0 0])∧F0 w w':=by
 go_enter func45,ntmps45;go_wp2
 refine bodyPost_ret (by simp[results,results45,go_sem];try rfl) rfl ?_
 exact ⟨rfl,(Fr.refl _ w).alloc _⟩
theorem aMk (a:Addr) (w:World) {u v:Value} (h0:w.cell? a=some u) (h1:w.cell? (a.add 1)=some v):(method mdp 145 (.pointer (some a)) "Row").run Tryz.prog w=.ok (292,.agg #[u,v]) w:=by
 obtain ⟨n,hn⟩:=fuel;rw[hn]
 exact aQ (n:=n+1) false (by kernel_rfl) (aU underlying145 (oC h0 h1))
theorem aDR (w:World) (p:Nat) (v1 v2:Value) (hp:w.heap[p]?=some (.cells #[v1,v2] 148 (0,0))) (cs:List Cell) (h1:w.ownsRow 0 5 1 v1 (cat cs).length (aN (cat cs))) (h2:w.ownsRow 0 511 2 v2 cs.length (spans 0 cs)) (hm:(cat cs).length≤2147483648) (k:Nat) (hk:k<cs.length) :
 Calls Tryz.prog 301 #[rX p,.int .i64 k] w fun e w'=>e=.returned (.agg #[.int .u64 0,.int .u64 0,.int .u64 0,.int .u64 0,.string cs[k].s,.bool false,.slice none 0 0,.slice none 0 0])∧F0 w w':=by
 have Ag:=fun W (Aw:F0 w W)=>by
  have Ef:=(Aw.drew.block p (aC hp) (fun h=>h)).trans hp
  exact aF.of1 (name:= "Row") (aMk ⟨p,0,none⟩ W.drew (crw Ef rfl) (by simpa [Addr.add] using (crw Ef rfl:W.drew.cell? ⟨p,1,none⟩=some v2))) call292 (aPg W.drew v1 v2 cs (Aw.drew.owns h1 (fun _ _ h=>h)) (Aw.drew.owns h2 (fun _ _ h=>h)) hm k hk)
 generalize cs[k].s=s at Ag ⊢;unfold rX;clear hp h1 h2 hm hk;have Ag:=Lib.hid Ag;go_enter func301,ntmps301
 go_wp2_with fail
 generalize hW:(w.alloc _).alloc _=W;have Af:F0 w W:=by subst hW;exact ((Fr.refl _ w).alloc _).alloc _
 have d0:W.cell? ⟨w.heap.size,0,none⟩=some (.iface 145 (.pointer (some ⟨p,0,none⟩))):=by subst hW;rw[ca (by simp),aB rfl];rfl
 have d2:W.cell? ⟨w.heap.size,2,none⟩=some (.func (.func 45) #[] #[]):=by subst hW;rw[ca (by simp),aB rfl];rfl
 have Di:W.heap[w.heap.size+1]?=some (.cells #[.int .u64 0,.int .u64 0,.int .u64 0,.int .u64 0,.string ⟨#[]⟩,.bool false,.slice none 0 0,.slice none 0 0] 35 (0,0)):=by subst hW;exact Fr.made (Fr.refl _ _) (by simp)
 clear hW
 go_region_law
  (first
   | (refine aK _ rfl ?_;refine bH _ _ _ _ _ rfl _ _ rfl (Ag.out W Af) rfl ?_;rintro e w1 ⟨rfl,BL⟩;have Ad:=BL.aH;have d2':=Ad.aA d2 (fun h=>h);refine ⟨_,rfl,?_⟩)
   | (refine aK _ rfl ?_;refine dI _ _ _ _ rfl _ _ rfl (bM.func0 call45 (aMm w1 _)) rfl ?_;rintro e w2 ⟨rfl,Au⟩;have Ae:F0 W w2:=Ad.trans Au (fun _ _ h=>h);have AB:=(Ae.block _ (aC Di) (fun h=>h)).trans Di;obtain ⟨c0,c1,c2,c3,c4,c5,c6,c7⟩:=bD.eight (bD.of_block AB);have z0:=fzj 0 AB;have z1:=fzj 1 AB;have z2:=fzj 2 AB;have z3:=fzj 3 AB;have z4:=fzj 4 AB;have z5:=fzj 5 AB;have z6:=fzj 6 AB;have z7:=fzj 7 AB;refine ⟨_,rfl,?_⟩))
 all_goals (try simp only[Exit.then])
 all_goals
  refine (‹∀ (a:Act) (w:World),Code.wp _ Code.ret _ a w→_› _ _ ?_)
  refine wp_ret ?_
  show bodyPost _ _ _ _ _ _
  refine bodyPost_ret (by simp[results,results301,go_sem,c0,c1,c2,c3,c4,c5,c6,c7];try rfl) rfl ?_
  have hb:∀ i,(False∨w.heap.size≤(⟨w.heap.size+1,i,none⟩:Addr).block):=fun _=>.inr (Nat.le_succ _)
  exact ⟨rfl,(((((((((Af.trans Ae (fun _ _ h=>h)).setCell (hb 0) _).setCell (hb 1) _).setCell (hb 2) _).setCell (hb 3) _).setCell (hb 4) _).setCell (hb 5) _).setCell (hb 6) _).setCell (hb 7) _)⟩
theorem aMl (p:Nat) (w:World) (u v:Value) (h0:w.cell? ⟨p,0,none⟩=some u) (h1:w.cell? ⟨p,1,none⟩=some v):(method mdp 154 (rX p) "WriteColumn").run Tryz.prog w=.ok (295,.agg #[u,v]) w:=by
 obtain ⟨n,hn⟩:=fuel;rw[hn]
 refine (aX (n:=n+1) underlying154 rfl rfl (fun _=>by kernel_rfl) (by kernel_rfl) rfl).trans ?_
 exact aQ (n:=n) false (by kernel_rfl) (aU underlying145 (oC h0 (by simpa [Addr.add] using h1)))
theorem aJn (p:Nat) (w:World):(method mdp 154 (rX p) "Row").run Tryz.prog w=.ok (301,rX p) w:=by kernel_rfl
theorem aDQ (B p:Nat):ColW Tryz.prog 154 (rX p) .str (jY B p) (jY B p) where
 write:=by
  intro conn ps pw w fp σ fw n out h hw CY hd hl hn;obtain ⟨⟨v1,v2,hp,h1,h2,n1,n2,n3,Aj⟩,hB,CE⟩:=h;have QO:=jL σ;have Ou:wts σ≤2147483648:=hw;have Vt:=bF σ;rw[mJ] at hl ⊢
  exact (aF.of1 (aMl p w _ _ (crw hp rfl) (crw hp rfl)) call295 (aJp CY v1 v2 σ h1 h2 (fun k hk=>(hd k ((Aj k).2 (.inr (.inl hk)))).1) (fun k hk=>(hd k ((Aj k).2 (.inr (.inr hk)))).1) (fun c hc=>(CE c hc).2.2.2.2) (by omega) (by omega) hl)).mono
   fun e w' ⟨h1,h2,fw',h3,h4⟩=>⟨h1,h2,fw',h3.more (Nat.le_add_right _ _),h4⟩
 row:=by
  intro w fp σ k hk h hw;obtain ⟨⟨v1,v2,hp,h1,h2,n1,n2,n3,Aj⟩,hB,CE⟩:=h;have QO:=jL σ;have Ou:wts σ≤2147483648:=hw
  refine (aF.of1 (aJn p w) call301 (aDR w p v1 v2 hp σ h1 h2 (by omega) k hk)).mono ?_
  rintro e w' ⟨rfl,Ak⟩
  refine ⟨(Cell.mk 0 0 0 0 σ[k].s false [] []).keyed,_,rfl,Ak,lL _ _ ⟨Nat.zero_lt_succ _,Nat.zero_lt_succ _,Nat.zero_lt_succ _,Nat.zero_lt_succ _,(CE _ (getElem_mem hk)).2.2.2.2⟩,?_⟩;rintro ⟨s,he⟩;rw[he]
  rfl
end Go.Proofs.YtcidlnjpabgioaaGreatDoor
