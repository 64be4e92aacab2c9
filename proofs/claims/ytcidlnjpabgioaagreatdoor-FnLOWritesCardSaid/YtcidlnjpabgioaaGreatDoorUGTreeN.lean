import Derived.Test.YtcidlnjpabgioaaGreatDoorUGTree
import Derived.Test.YtcidlnjpabgioaaGreatDoorUGArr
set_option maxHeartbeats 4000000
namespace Go.Proofs.YtcidlnjpabgioaaGreatDoor
open Tryz List Go.RowKit
theorem aMx (t:Ty) (PV:iE t) (hs:jJ (text t)) (hn:(text t).length≤900000):iE (.nul t):=by
 intro w Dk;obtain ⟨ts,EQ⟩:∃ ts,Hid (ts=[t]):=⟨_,Lib.hid rfl⟩;obtain ⟨LS,Hw⟩:∃ LS,Hid (LS=ts.map text):=⟨_,Lib.hid rfl⟩;have Ik:Hid (LS.length=ts.length):=Lib.hid (by rw[Hw.out,length_map]);have RF:LS.length≤1000:=by rw[Ik.out,EQ.out];simp
 have D7:∀ x∈ts,iE x:=fun x hx=>by rw[EQ.out] at hx;rw[mem_singleton.1 hx];exact PV
 have Hf:Calls Tryz.prog 31 #[.string (bJ (text (.nul t)))] w (lT [78,117,108,108,97,98,108,101] LS w):=by
  rw[text]
  exact jF w Dk [78,117,108,108,97,98,108,101] (text t) LS (by unfold gI;decide) (by simp;omega) hs.ascii (by rw[Hw.out,EQ.out];exact lS hs)
 generalize bJ (text (.nul t))=txt at Hf;go_enter func23,ntmps23
 go_wp2_with (go_at_call 31;refine Hf.mono ?_;rintro e w1 ⟨nm,v,rfl,hl,⟨Aa,Ai⟩,hb⟩;obtain ⟨av,cv,rfl⟩:=ownsRow_shape Aa)
 go_loopw [5,21] (fun l i wr=>∃ (k:Nat) (ks:List Kid),k≤LS.length∧i=.int .i64 k∧wr.ownsRow 0 59 1 l k (ks.map Kid.v)∧(∀ q,l.ownBlock=some q→w1.heap.size≤q)∧Apart l ks∧Kids w1.heap.size wr ks∧ks.map Kid.T=ts.take k∧Below w1.heap.size w1 wr) (fun _ i _=>LS.length - (intOf i).toNat)
 case atStart=>exact ⟨0,[],Nat.zero_le _,rfl,World.ownsRow_nil _ _ _ _,by simp[Value.ownBlock],by simp[Apart],Kids.nil _ _,rfl,Below.refl _ _⟩
 case round =>
  obtain ⟨k,ks,hk,rfl,Bo,EC,KC,EG,Eh,Bf⟩:=hrel;obtain ⟨la,lc,rfl⟩:=ownsRow_shape Bo;have CG:=Bf.size
  by_cases Ar:k<LS.length
  · have DT:k<ts.length:=by rw[← Ik.out];exact Ar
    have Ah:=Lib.hid (take_succ_eq_append_getElem DT);have Dj:ts[k]∈ts:=getElem_mem _;have Ij:LS[k]?=some (text ts[k]):=by rw[Hw.out,getElem?_map,getElem?_eq_getElem DT];rfl
    generalize ts[k]=tk at Ah Dj Ij;have Ap:=(Below.fr Bf).owns Aa (fun _ _ h=>h);rcases Ap.2 with ⟨hv,h0⟩|⟨ga,capa,cura,hv,_,_,BF,AP,_⟩
    · omega
    · simp only[Value.slice.injEq] at hv
      obtain ⟨rfl,_,rfl⟩:=hv;have Ac:=Ap.cells (g:=ga) rfl k (.string (bJ (text tk))) (by rw[getElem?_map,Ij];rfl);rw[Addr.add_lit,Nat.zero_add] at Ac;have Bg:=D7 tk Dj wr ((Dk.below hb).below Bf);have MM:=fun q (h:(Value.slice la k lc).ownBlock=some q)=>aO Bo h
      have JF:=Lib.hid Eh;unfold maxLen at AP;clear Dj Ij Ap Eh Ai Aa
      go_wp2_with (first
       | (go_at_call 23;refine Bg.mono ?_;rintro e w2 ⟨t,u,R,Rp,fp,rfl,cs,hR,Bj⟩;have BR:=(Below.fr Bj).owns Bo (fun _ _ h=>h))
       | ((with_reducible show wpList _ _ _ (⟨some 32,_,_,_,_,_⟩ :: _) _ _);refine aP _ rfl qH _ _ rfl _ _ _ rfl (BR.alloc _) _ _ _ rfl (Src.ofSlice _ underlying72 _ _ _ _ rfl (bG _ [.iface t u] _) (by simp[Value.oneCell'])) ?_ ?_ ?_;(unfold maxLen;omega);omega;intro v' w3 ha;obtain ⟨a',c',rfl⟩:=ha.shape))
      go_roundw
      case rel =>
       have EH:=Kids.more EG CG Bj (k:=⟨t,u,tk,R,Rp,fp⟩) cs hR MM KC ha
       refine ⟨k+1,ks++[⟨t,u,tk,R,Rp,fp⟩],by omega,by go_num,?_,?_,EH.2,EH.1,?_,?_⟩
       · rw[map_append]
         exact ha.1
       · intro q hq
         rcases ha.2.2 with e|⟨e,-⟩
         · exact EC q (e.symm.trans hq)
         · rw[e] at hq
           simp only[Option.some.injEq] at hq;have:=Bj.size;simp at hq;omega
       · rw[map_append,JF.out,Ah.out]
         rfl
       · exact Bf.trans ((((Below.fr Bj).alloc _).mono (S':=fun q=>w1.heap.size≤q) (fun _ _ h=>h.elim)).grown ha.2.1 (fun q hq=>.inl (EC q hq)) |>.below CG (fun q hq h=>by omega))
      case measure=>simp[intOf];omega
  · have DT:k=ts.length:=by rw[← Ik.out];omega
    subst DT;rw[take_length] at Eh;have AA:ks.length=ts.length:=by rw[← length_map (f:=Kid.T),Eh]
    clear D7 Ai Aa;have Am:ts.length=1:=by rw[EQ.out];rfl
    rcases Bo.2 with ⟨hv,h0⟩|⟨ga,capa,cura,hv,_,_,BF,AP,_⟩
    · omega
    · simp only[Value.slice.injEq] at hv
      obtain ⟨rfl,_,rfl⟩:=hv;obtain ⟨kd,rfl⟩:=length_eq_one_iff.1 (AA.trans Am);have Ac:=Bo.cells (g:=ga) rfl 0 (.iface kd.t kd.u) rfl;simp only[Addr.add_lit,Nat.add_zero] at Ac;have TP:kd.T=t:=by rw[EQ.out] at Eh;simpa using Eh
      obtain ⟨A8,hR⟩:=EG.1 kd (by simp);have AC:=fun q hq=>A8.lo hR q hq
      obtain ⟨kt,ku,kT,kR,kRp,kfp⟩:=kd;simp only at TP A8 hR AC Ac;subst TP;have Ic:=Lib.hid Am;rw[Am] at BF;unfold maxLen at AP;have Qg:(ts.length:Int)=1:=by rw[Am];rfl
      clear Eh AA Bo EG KC EC
      go_wp2_with (go_at_call 33;refine (aFT kt ku wr).mono ?_;rintro e w2 ⟨rfl,rfl⟩)
      go_ret;have BN:=hb.size;have G5:∀ q,kfp q→w.heap.size≤q∧q<wr.heap.size:=fun q hq=>⟨by have:=(AC q hq).1;omega,(AC q hq).2⟩
      have G8:=pW.mk (aFY (A8.low BN).toColSpec wr.heap.size) (aFW (A8.low BN).toColSpec A8.toColW wr.heap.size)
      refine ⟨_,_,fV w.heap.size kt ku kR wr.heap.size,fV w.heap.size kt ku kRp wr.heap.size,fun q=>q=wr.heap.size∨kfp q,rfl,by rw[st];exact G8,⟨.slice none 0 0,kfp,heap_alloc_new wr _,World.ownsRow_nil _ _ _ _,?_,by simp[Value.ownBlock],fun h=>by have:=(AC _ h).2;omega,by simp[Value.ownBlock],fun q=>by simp[Value.ownBlock],?_⟩,?_⟩
      · exact A8.frame hR fun q hq=>Below.heap_alloc _ _ _ (AC q hq).2
      · rintro q (rfl|hq)
        · omega
        · exact (G5 q hq).1
      · exact (hb.trans (Bf.mono BN)).alloc (by omega) _
theorem aFQ (t:TypeId) (u:Value) (w:World):Calls Tryz.prog 32 #[.iface t u] w fun e w'=>e=.returned (.pointer (some ⟨w.heap.size,0,none⟩))∧w'=w.alloc (.cells #[.slice none 0 0,.iface t u] 127):=by
 go_enter func32,ntmps32;go_wp2;go_ret
 exact ⟨rfl,rfl⟩
theorem aMt (t:Ty) (PV:iE t) (hs:jJ (text t)) (hn:(text t).length≤900000):iE (.arr t):=by
 intro w Dk;obtain ⟨ts,EQ⟩:∃ ts,Hid (ts=[t]):=⟨_,Lib.hid rfl⟩;obtain ⟨LS,Hw⟩:∃ LS,Hid (LS=ts.map text):=⟨_,Lib.hid rfl⟩;have Ik:Hid (LS.length=ts.length):=Lib.hid (by rw[Hw.out,length_map]);have RF:LS.length≤1000:=by rw[Ik.out,EQ.out];simp
 have D7:∀ x∈ts,iE x:=fun x hx=>by rw[EQ.out] at hx;rw[mem_singleton.1 hx];exact PV
 have Hf:Calls Tryz.prog 31 #[.string (bJ (text (.arr t)))] w (lT [65,114,114,97,121] LS w):=by
  rw[text]
  exact jF w Dk [65,114,114,97,121] (text t) LS (by unfold gI;decide) (by simp;omega) hs.ascii (by rw[Hw.out,EQ.out];exact lS hs)
 generalize bJ (text (.arr t))=txt at Hf;go_enter func23,ntmps23
 go_wp2_with (go_at_call 31;refine Hf.mono ?_;rintro e w1 ⟨nm,v,rfl,hl,⟨Aa,Ai⟩,hb⟩;obtain ⟨av,cv,rfl⟩:=ownsRow_shape Aa)
 go_loopw [5,21] (fun l i wr=>∃ (k:Nat) (ks:List Kid),k≤LS.length∧i=.int .i64 k∧wr.ownsRow 0 59 1 l k (ks.map Kid.v)∧(∀ q,l.ownBlock=some q→w1.heap.size≤q)∧Apart l ks∧Kids w1.heap.size wr ks∧ks.map Kid.T=ts.take k∧Below w1.heap.size w1 wr) (fun _ i _=>LS.length - (intOf i).toNat)
 case atStart=>exact ⟨0,[],Nat.zero_le _,rfl,World.ownsRow_nil _ _ _ _,by simp[Value.ownBlock],by simp[Apart],Kids.nil _ _,rfl,Below.refl _ _⟩
 case round =>
  obtain ⟨k,ks,hk,rfl,Bo,EC,KC,EG,Eh,Bf⟩:=hrel;obtain ⟨la,lc,rfl⟩:=ownsRow_shape Bo;have CG:=Bf.size
  by_cases Ar:k<LS.length
  · have DT:k<ts.length:=by rw[← Ik.out];exact Ar
    have Ah:=Lib.hid (take_succ_eq_append_getElem DT);have Dj:ts[k]∈ts:=getElem_mem _;have Ij:LS[k]?=some (text ts[k]):=by rw[Hw.out,getElem?_map,getElem?_eq_getElem DT];rfl
    generalize ts[k]=tk at Ah Dj Ij;have Ap:=(Below.fr Bf).owns Aa (fun _ _ h=>h);rcases Ap.2 with ⟨hv,h0⟩|⟨ga,capa,cura,hv,_,_,BF,AP,_⟩
    · omega
    · simp only[Value.slice.injEq] at hv
      obtain ⟨rfl,_,rfl⟩:=hv;have Ac:=Ap.cells (g:=ga) rfl k (.string (bJ (text tk))) (by rw[getElem?_map,Ij];rfl);rw[Addr.add_lit,Nat.zero_add] at Ac;have Bg:=D7 tk Dj wr ((Dk.below hb).below Bf);have MM:=fun q (h:(Value.slice la k lc).ownBlock=some q)=>aO Bo h
      have JF:=Lib.hid Eh;unfold maxLen at AP;clear Dj Ij Ap Eh Ai Aa
      go_wp2_with (first
       | (go_at_call 23;refine Bg.mono ?_;rintro e w2 ⟨t,u,R,Rp,fp,rfl,cs,hR,Bj⟩;have BR:=(Below.fr Bj).owns Bo (fun _ _ h=>h))
       | ((with_reducible show wpList _ _ _ (⟨some 32,_,_,_,_,_⟩ :: _) _ _);refine aP _ rfl qH _ _ rfl _ _ _ rfl (BR.alloc _) _ _ _ rfl (Src.ofSlice _ underlying72 _ _ _ _ rfl (bG _ [.iface t u] _) (by simp[Value.oneCell'])) ?_ ?_ ?_;(unfold maxLen;omega);omega;intro v' w3 ha;obtain ⟨a',c',rfl⟩:=ha.shape))
      go_roundw
      case rel =>
       have EH:=Kids.more EG CG Bj (k:=⟨t,u,tk,R,Rp,fp⟩) cs hR MM KC ha
       refine ⟨k+1,ks++[⟨t,u,tk,R,Rp,fp⟩],by omega,by go_num,?_,?_,EH.2,EH.1,?_,?_⟩
       · rw[map_append]
         exact ha.1
       · intro q hq
         rcases ha.2.2 with e|⟨e,-⟩
         · exact EC q (e.symm.trans hq)
         · rw[e] at hq
           simp only[Option.some.injEq] at hq;have:=Bj.size;simp at hq;omega
       · rw[map_append,JF.out,Ah.out]
         rfl
       · exact Bf.trans ((((Below.fr Bj).alloc _).mono (S':=fun q=>w1.heap.size≤q) (fun _ _ h=>h.elim)).grown ha.2.1 (fun q hq=>.inl (EC q hq)) |>.below CG (fun q hq h=>by omega))
      case measure=>simp[intOf];omega
  · have DT:k=ts.length:=by rw[← Ik.out];omega
    subst DT;rw[take_length] at Eh;have AA:ks.length=ts.length:=by rw[← length_map (f:=Kid.T),Eh]
    clear D7 Ai Aa;have Am:ts.length=1:=by rw[EQ.out];rfl
    rcases Bo.2 with ⟨hv,h0⟩|⟨ga,capa,cura,hv,_,_,BF,AP,_⟩
    · omega
    · simp only[Value.slice.injEq] at hv
      obtain ⟨rfl,_,rfl⟩:=hv;obtain ⟨kd,rfl⟩:=length_eq_one_iff.1 (AA.trans Am);have Ac:=Bo.cells (g:=ga) rfl 0 (.iface kd.t kd.u) rfl;simp only[Addr.add_lit,Nat.add_zero] at Ac;have TP:kd.T=t:=by rw[EQ.out] at Eh;simpa using Eh
      obtain ⟨A8,hR⟩:=EG.1 kd (by simp);have AC:=fun q hq=>A8.lo hR q hq
      obtain ⟨kt,ku,kT,kR,kRp,kfp⟩:=kd;simp only at TP A8 hR AC Ac;subst TP;have Ic:=Lib.hid Am;rw[Am] at BF;unfold maxLen at AP;have Qg:(ts.length:Int)=1:=by rw[Am];rfl
      clear Eh AA Bo EG KC EC
      go_wp2_with (go_at_call 32;refine (aFQ kt ku wr).mono ?_;rintro e w2 ⟨rfl,rfl⟩)
      go_ret;have BN:=hb.size;have G5:∀ q,kfp q→w.heap.size≤q∧q<wr.heap.size:=fun q hq=>⟨by have:=(AC q hq).1;omega,(AC q hq).2⟩
      have G8:=pW.mk (aCO (A8.low BN).toColSpec wr.heap.size) (aCM (A8.low BN).toColSpec A8.toColW wr.heap.size)
      refine ⟨_,_,fJ w.heap.size kt ku kR wr.heap.size,fJ w.heap.size kt ku kRp wr.heap.size,fun q=>q=wr.heap.size∨kfp q,rfl,by rw[st];exact G8,⟨.slice none 0 0,kfp,heap_alloc_new wr _,World.ownsRow_nil _ _ _ _,?_,by simp[Value.ownBlock],fun h=>by have:=(AC _ h).2;omega,by simp[Value.ownBlock],fun q=>by simp[Value.ownBlock],?_⟩,?_⟩
      · exact A8.frame hR fun q hq=>Below.heap_alloc _ _ _ (AC q hq).2
      · rintro q (rfl|hq)
        · omega
        · exact (G5 q hq).1
      · exact (hb.trans (Bf.mono BN)).alloc (by omega) _
end Go.Proofs.YtcidlnjpabgioaaGreatDoor
