import Derived.Test.YtcidlnjpabgioaaGreatDoorUGEnc
import Derived.Test.YtcidlnjpabgioaaGreatDoorUShelf
set_option maxHeartbeats 2000000
set_option maxRecDepth 100000
namespace Go.Proofs.YtcidlnjpabgioaaGreatDoor
open Tryz List Go.RowKit
theorem dW {w w0 w1:World} {p i:Nat} {tc e:TypeId} {size n m:Nat} {xs ys:List Value} {cur:Array Value} {v v':Value}
 (hp:w.heap[p]?=some (.cells cur tc (0,0))) (_hown:w.ownsRow 0 e size v n xs) (Am:v.ownBlock≠some p) (h0:F0 w w0) (ha:dE w0 w1 e size v v' m ys) :
 (w1.setCell ⟨p,i,none⟩ v').heap[p]?=some (.cells (cur.setIfInBounds i v') tc (0,0))∧(w1.setCell ⟨p,i,none⟩ v').ownsRow 0 e size v' m ys∧v'.ownBlock≠some p∧(v'.ownBlock=v.ownBlock∨v'.ownBlock=some w0.heap.size) ∧
  Fr (fun k=>k=p∨v.ownBlock=some k) w (w1.setCell ⟨p,i,none⟩ v'):=by
 obtain ⟨h1,hg,h2⟩:=ha
 replace h2:=h2.imp id And.left
 have AZ:=aC hp;have II:=h0.size;have IP:w0.heap[p]?=some (.cells cur tc (0,0)):=(h0.block p AZ (fun h=>h)).trans hp;have DL:w1.heap[p]?=some (.cells cur tc (0,0)):=(hg.block p (by omega) (fun h=>Am h.symm)).trans IP
 have Eb:v'.ownBlock≠some p:=by
  rcases h2 with h2|h2<;>rw[h2]
  · exact Am
  · simp;omega
 refine ⟨?_,?_,Eb,h2,?_⟩
 · simp[World.setCell,Array.getElem?_modify,DL]
 · exact ((Fr.refl (fun k=>k=p) w1).setCell (.inl rfl) v').owns h1 (fun k hk e=>Eb (by rw[hk,e]))
 · exact ((h0.mono (fun k _ h=>h.elim)).grown hg (fun k hk=>.inl (.inr hk))).setCell (.inl (.inl rfl)) v'
theorem eP {w w0 w1:World} {p:Nat} {tc e:TypeId} {size m:Nat} {ys:List Value} {cur:Array Value} {v v':Value}
 (hp:w.heap[p]?=some (.cells cur tc (0,0))) (Am:v.ownBlock≠some p) (h0:F0 w w0) (ha:dE w0 w1 e size v v' m ys) :
 (∀ j,w1.cell? ⟨p,j,none⟩=cur[j]?)∧∀ j,w1.frozen? ⟨p,j,none⟩=false:=by
 obtain ⟨h1,hg,h2⟩:=ha
 replace h2:=h2.imp id And.left
 have AZ:=aC hp;have II:=h0.size;have DL:w1.heap[p]?=some (.cells cur tc (0,0)):=(hg.block p (by omega) (fun h=>Am h.symm)).trans ((h0.block p AZ (fun h=>h)).trans hp)
 exact ⟨fun j=>by rw[cell_of_row _ _ _ _ _ _ DL],fun j=>fzj _ DL⟩
def cat (cs:List Cell):List UInt8:=cs.flatMap fun c=>c.s.data.toList
def spans:Nat→List Cell→List Value
 | _,[]=>[]
 | n,c :: cs=>.int .i64 n :: .int .i64 (n+c.s.size:Nat) :: spans (n+c.s.size) cs
theorem iY (a b:List Cell):cat (a++b)=cat a++cat b:=by simp[cat]
theorem qF (c:Cell) (cs:List Cell):cat (c :: cs)=c.s.data.toList++cat cs:=rfl
theorem rV:∀ (a:List Cell) (n:Nat) (c:Cell),spans n (a++[c])=spans n a++[.int .i64 (n+(cat a).length:Nat),.int .i64 (n+(cat a).length+c.s.size:Nat)]
 | [],n,c=>by simp[spans,cat]
 | d :: a,n,c=>by
  have hs:d.s.data.toList.length=d.s.size:=Array.length_toList;rw[cons_append,spans,spans,rV a,qF,length_append,hs];simp[Nat.add_assoc]
theorem jL:∀ (a:List Cell),(cat a).length+a.length≤wts a
 | []=>by simp[cat]
 | c :: a=>by
  have:=jL a;have hs:c.s.data.toList.length=c.s.size:=Array.length_toList;rw[qF,length_append,hs,wts,Cell.nS,length_cons];omega
def iP (w:World) (p:Nat) (σ:List Cell) (fp:Nat→Prop):Prop :=
 ∃ v1 v2,w.heap[p]?=some (.cells #[v1,v2] 148 (0,0))∧w.ownsRow 0 5 1 v1 (cat σ).length (aN (cat σ))∧w.ownsRow 0 511 2 v2 σ.length (spans 0 σ) ∧
  v1.ownBlock≠some p∧v2.ownBlock≠some p∧(∀ k,v1.ownBlock=some k→v2.ownBlock≠some k)∧∀ k,fp k↔k=p∨v1.ownBlock=some k∨v2.ownBlock=some k
theorem tZ (s:ByteArray):byteCells s=aN s.data.toList:=rfl
theorem aPw:ElT Tryz.prog 146 511 (.agg #[.int .i64 0,.int .i64 0]) 2 16:=⟨underlying146,info_parts (by kernel_rfl),rfl⟩
theorem iP.aW {w w':World} {p:Nat} {σ:List Cell} {fp:Nat→Prop} (h:iP w p σ fp) (hk:∀ k,fp k→w'.heap[k]?=w.heap[k]?):iP w' p σ fp:=by
 obtain ⟨v1,v2,hp,h1,h2,n1,n2,n3,Aj⟩:=h
 have ow:∀ {e:TypeId} {size:Nat} {v:Value} {n:Nat} {xs:List Value},w.ownsRow 0 e size v n xs→(∀ k,v.ownBlock=some k→fp k)→w'.ownsRow 0 e size v n xs:=by
  intro e size v n xs ho hv
  refine ⟨ho.1,?_⟩;rcases ho.2 with h0|⟨g,cap,cur,rfl,hb,GX,rest⟩
  · exact .inl h0
  · exact .inr ⟨g,cap,cur,rfl,hb,(hk g (hv g rfl)).trans GX,rest⟩
 exact ⟨v1,v2,(hk p ((Aj p).2 (.inl rfl))).trans hp,ow h1 (fun k h=>(Aj k).2 (.inr (.inl h))),ow h2 (fun k h=>(Aj k).2 (.inr (.inr h))),n1,n2,n3,Aj⟩
theorem iP.lt {w:World} {p:Nat} {σ:List Cell} {fp:Nat→Prop} (h:iP w p σ fp):∀ k,fp k→k<w.heap.size:=by
 obtain ⟨v1,v2,hp,h1,h2,n1,n2,n3,Aj⟩:=h;intro k hk;rcases (Aj k).1 hk with rfl|hk|hk
 · exact aC hp
 · exact aO h1 hk
 · exact aO h2 hk
theorem zH (w:World) (p:Nat) (σ:List Cell) (fp:Nat→Prop) (h:iP w p σ fp) (c:Cell) (hc:c.s.size≤65536) (hn:(cat σ).length≤2147483648) (hm:σ.length<2147483648) :
 Calls Tryz.prog 287 #[.pointer (some ⟨p,0,none⟩),.string c.s] w fun e w'=>e=.returned (.tuple #[])∧(∃ fp',iP w' p (σ++[c]) fp'∧Grow w fp fp')∧Fr fp w w':=by
 obtain ⟨v1,v2,hp,h1,h2,n1,n2,n3,Aj⟩:=h;obtain ⟨a1,k1,rfl⟩:=ownsRow_shape h1;obtain ⟨a2,k2,rfl⟩:=ownsRow_shape h2;have AZ:=aC hp;have c0:w.cell? ⟨p,0,none⟩=some (.slice a1 (cat σ).length k1):=crw hp rfl;go_enter func287,ntmps287
 go_wp2_with (first
  | ((with_reducible show wpList _ _ _ (⟨some 17,_,_,_,_,_⟩ :: _) _ _);refine aP _ rfl gY _ _ rfl _ _ _ rfl h1 _ _ _ rfl (Src.ofString _ underlying9 c.s) ?_ ?_ ?_;(unfold maxLen;omega);omega;intro v' w1 ha;obtain ⟨a1',k1',rfl⟩:=ha.shape;obtain ⟨A8,FN⟩:=eP hp n1 (Fr.refl _ w) ha;have d0:w1.cell? ⟨p,0,none⟩=some (.slice a1 (cat σ).length k1):=A8 0;have d1:w1.cell? ⟨p,1,none⟩=some (.slice a2 σ.length k2):=A8 1;have f0:=FN 0;have f1:=FN 1;obtain ⟨KR,Gm,Eb,O6,JD⟩:=dW (i:=0) hp h1 n1 (Fr.refl _ w) ha;have UX:=JD.owns h2 (fun k hk h=>h.elim (fun e=>n2 (by rw[hk,e])) (fun e=>n3 k e hk)))
  | ((with_reducible show wpList _ _ _ (⟨some 34,_,_,_,_,_⟩ :: _) _ _);refine aP _ rfl aPw _ _ rfl _ _ _ rfl (UX.alloc _) _ _ _ rfl (Src.ofSlice _ underlying146 _ _ _ _ rfl (aBF (by simp[World.setCell]) [.int .i64 (cat σ).length,.int .i64 ((cat σ).length+c.s.size)] _) (by simp[Value.oneCell'])) ?_ ?_ ?_;(unfold maxLen;omega);omega;intro v2' w2 QL;obtain ⟨a2',k2',rfl⟩:=QL.shape;obtain ⟨IW,TA⟩:=eP KR n2 ((Fr.refl _ _).alloc _) QL;have d2:=IW 1;have f2:=TA 1;have hB:=dW (i:=1) KR UX n2 ((Fr.refl _ _).alloc _) QL))
 obtain ⟨GI,BR,Ic,Gg,BZ⟩:=hB;have BN:=JD.size;have EW:(w1.setCell ⟨p,0,none⟩ (Value.slice a1' ((cat σ).length+c.s.size) k1')).heap.size=w1.heap.size:=by simp[World.setCell]
 have BD:=tZ c.s;have hl:(cat (σ++[c])).length=(cat σ).length+c.s.size:=by rw[iY,length_append];congr 1;simp[cat]
 (try simp only[Exit.inBlock,Exit.then]);refine bodyPost_end (results_none rfl _ _ _) rfl ?_
 have Eo:∀ k,(Value.slice a1' ((cat σ).length+c.s.size) k1').ownBlock=some k→(Value.slice a2 σ.length k2).ownBlock≠some k:=by
  intro k hk h;rcases O6 with e|e
  · exact n3 k (by rw[← e,hk]) h
  · rw[e] at hk
    simp only[Option.some.injEq] at hk;have:=aO h2 h;omega
 refine ⟨rfl,⟨fun k=>k=p∨(Value.slice a1' ((cat σ).length+c.s.size) k1').ownBlock=some k∨(Value.slice a2' (σ.length+1) k2').ownBlock=some k,⟨_,_,GI,?_,?_,Eb,Ic,?_,fun k=>Iff.rfl⟩,?_⟩,?_⟩
 · rw[hl,iY,bC]
   have:=BZ.owns Gm (fun k hk h=>h.elim (fun e=>Eb (by rw[hk,e])) (fun e=>Eo k hk e));rw[BD] at this;have e:cat [c]=c.s.data.toList:=by simp[cat]
   rw[e]
   exact this
 · rw[rV,length_append,Nat.zero_add]
   exact BR
 · intro k hk h
   rcases Gg with e|e
   · exact Eo k hk (by rw[← h,e])
   · rw[e] at h
     simp only[Option.some.injEq] at h;have:=aO Gm hk;simp at h;omega
 · rintro k (rfl|hk|hk)
   · exact .inl ((Aj k).2 (.inl rfl))
   · rcases O6 with e|e
     · exact .inl ((Aj k).2 (.inr (.inl (by rw[← e,hk]))))
     · rw[e] at hk
       simp only[Option.some.injEq] at hk
       exact .inr (by omega)
   · rcases Gg with e|e
     · exact .inl ((Aj k).2 (.inr (.inr (by rw[← e,hk]))))
     · rw[e] at hk
       simp only[Option.some.injEq] at hk;simp at hk
       exact .inr (by omega)
 · exact (JD.mono (fun k _ h=>(Aj k).2 (h.elim .inl (fun h=>.inr (.inl h))))).trans BZ (fun k _ h=>(Aj k).2 (h.elim .inl (fun h=>.inr (.inr h))))
theorem aOh:ElT Tryz.prog 69 9 (.string ⟨#[]⟩) 1 16:=⟨underlying69,info_parts (by kernel_rfl),rfl⟩
theorem aCq (a:Addr) (w:World):(method mdp 145 (.pointer (some a)) "Append").run Tryz.prog w=.ok (287,.pointer (some a)) w:=by kernel_rfl
theorem wU (a:Addr) (w:World):(method mdp 145 (.pointer (some a)) "AppendArr").run Tryz.prog w=.ok (288,.pointer (some a)) w:=by kernel_rfl
theorem aMi (w:World) (r0 r1 r2 r3:Nat) (s:ByteArray) (null:Bool) (iv kv:Value) :
 Calls Tryz.prog 44 #[.agg #[.int .u64 r0,.int .u64 r1,.int .u64 r2,.int .u64 r3,.string s,.bool null,iv,kv]] w fun e w'=>e=.returned (.string s)∧F0 w w':=by
 go_enter func44,ntmps44;go_wp2;go_ret
 exact ⟨rfl,(Fr.refl _ w).alloc _⟩
theorem iP.shape {w:World} {p:Nat} {σ:List Cell} {fp:Nat→Prop} (h:iP w p σ fp):fp p:=by
 obtain ⟨v1,v2,hp,h1,h2,n1,n2,n3,Aj⟩:=h
 exact (Aj p).2 (.inl rfl)
theorem aAD (w:World) (p:Nat) (σ:List Cell) (fp:Nat→Prop) (h:iP w p σ fp) (cs:List Cell) (tv:Value) (Aa:w.ownsRow 0 9 1 tv cs.length (cs.map fun c=>.string c.s)) (hd:∀ k,tv.ownBlock=some k→¬ fp k)
 (A8:∀ c∈cs,c.s.size≤65536) (hn:(cat σ).length+(cat cs).length≤2147483648) (hm:σ.length+cs.length≤2147483648) :
 Calls Tryz.prog 288 #[.pointer (some ⟨p,0,none⟩),tv] w fun e w'=>e=.returned (.tuple #[])∧(∃ fp',iP w' p (σ++cs) fp'∧Grow w fp fp')∧Fr fp w w':=by
 obtain ⟨a,c,rfl⟩:=ownsRow_shape Aa;have AP:cs.length≤9223372036854775807:=by omega
 go_enter func288,ntmps288;go_wp2
 go_loopw [5,8] (fun _ i wr=>∃ (k:Nat) (fpk:Nat→Prop),k≤cs.length∧i=.int .i64 k∧iP wr p (σ++cs.take k) fpk∧Grow w fp fpk∧Fr fp w wr) (fun _ i _=>cs.length - (intOf i).toNat)
 case atStart=>exact ⟨0,fp,Nat.zero_le _,rfl,by simpa using h,fun k hk=>.inl hk,Fr.refl _ _⟩
 case round =>
  obtain ⟨k,fpk,hk,rfl,AL,hg,Ak⟩:=hrel
  by_cases Ar:k<cs.length
  · have Ap:=Ak.owns Aa hd
    rcases Ap.2 with ⟨hv,_⟩|⟨ga,capa,cura,hv,_⟩
    · simp only[Value.slice.injEq] at hv;omega
    · simp only[Value.slice.injEq] at hv
      obtain ⟨rfl,_,rfl⟩:=hv;have hx:=Ap.cells (g:=ga) rfl k (.string cs[k].s) (by simp[Ar]);have Dp:=A8 cs[k] (getElem_mem _);have Ah:=take_succ_eq_append_getElem Ar
      have Gl:(cat (σ++cs.take k)).length≤2147483648:=by
       have e:(cat cs).length=(cat (cs.take k)).length+(cat (cs.drop k)).length:=by rw[← length_append,← iY,take_append_drop]
       rw[iY,length_append];omega
      generalize cs[k]=cc at hx Dp Ah;rw[Addr.add_lit,Nat.zero_add] at hx;have Hz:=zH wr p _ fpk AL cc Dp Gl (by simp;omega)
      go_wp2_with (go_at_call 287;refine Hz.mono ?_;rintro e w1 ⟨rfl,⟨fp',FQ,I8⟩,JD⟩)
      go_roundw
      case rel =>
       refine ⟨k+1,fp',by omega,by go_num,?_,?_,?_⟩
       · rw[Ah,← append_assoc];exact FQ
       · exact fun q hq=>(I8 q hq).elim (hg q) (fun h=>.inr (Nat.le_trans Ak.size h))
       · exact Ak.trans JD (fun q hq h=>(hg q h).resolve_right (by omega))
      case measure=>simp[intOf];omega
  · have Bl:k=cs.length:=by omega
    subst Bl;rw[take_length] at AL;go_wp2;go_end0
    exact ⟨rfl,⟨fpk,AL,hg⟩,Ak⟩
theorem zI (w:World) (p:Nat) (σ:List Cell) (fp:Nat→Prop) (hc:iP w p σ fp) (c:Cell) (A8:c.s.size≤65536) (hn:(cat σ).length≤2147483648) (hm:σ.length<2147483648)
 (r0 r1 r2 r3:Nat) (null:Bool) (iv kv:Value) :
 Calls Tryz.prog 299 #[.agg #[.iface 145 (.pointer (some ⟨p,0,none⟩)),.func (.func 44) #[] #[],.func (.func 45) #[] #[]],.agg #[.int .u64 r0,.int .u64 r1,.int .u64 r2,.int .u64 r3,.string c.s,.bool null,iv,kv]] w fun e w' =>
  e=.returned (.tuple #[])∧(∃ fp',iP w' p (σ++[c]) fp'∧Grow w fp fp')∧Fr fp w w':=by
 go_enter func299,ntmps299
 go_wp2_with fail
 generalize hW:(w.alloc _).alloc _=W;have Af:F0 w W:=by subst hW;exact ((Fr.refl _ w).alloc _).alloc _
 have d0:W.cell? ⟨w.heap.size,0,none⟩=some (.iface 145 (.pointer (some ⟨p,0,none⟩))):=by subst hW;rw[ca (by simp),aB rfl];rfl
 have d1:W.cell? ⟨w.heap.size,1,none⟩=some (.func (.func 44) #[] #[]):=by subst hW;rw[ca (by simp),aB rfl];rfl
 have e0:W.cell? ⟨w.heap.size+1,0,none⟩=some (.int .u64 r0):=by subst hW;rw[aB (by simp)];rfl
 have e1:W.cell? ⟨w.heap.size+1,1,none⟩=some (.int .u64 r1):=by subst hW;rw[aB (by simp)];rfl
 have e2:W.cell? ⟨w.heap.size+1,2,none⟩=some (.int .u64 r2):=by subst hW;rw[aB (by simp)];rfl
 have e3:W.cell? ⟨w.heap.size+1,3,none⟩=some (.int .u64 r3):=by subst hW;rw[aB (by simp)];rfl
 have e4:W.cell? ⟨w.heap.size+1,4,none⟩=some (.string c.s):=by subst hW;rw[aB (by simp)];rfl
 have e5:W.cell? ⟨w.heap.size+1,5,none⟩=some (.bool null):=by subst hW;rw[aB (by simp)];rfl
 have e6:W.cell? ⟨w.heap.size+1,6,none⟩=some iv:=by subst hW;rw[aB (by simp)];rfl
 have e7:W.cell? ⟨w.heap.size+1,7,none⟩=some kv:=by subst hW;rw[aB (by simp)];rfl
 have BA:iP W p σ fp:=hc.aW fun k hk=>Af.block k (hc.lt k hk) (fun h=>h)
 have hN:¬ fp w.heap.size:=fun h=>by have:=hc.lt _ h;omega
 have AU:¬ fp (w.heap.size+1):=fun h=>by have:=hc.lt _ h;omega
 clear hW
 go_region_held3 (fun w'=>w'.cell? ⟨w.heap.size,0,none⟩=some (.iface 145 (.pointer (some ⟨p,0,none⟩)))∧w'.cell? ⟨w.heap.size,1,none⟩=some (.func (.func 44) #[] #[]) ∧
  w'.cell? ⟨w.heap.size+1,0,none⟩=some (.int .u64 r0)∧w'.cell? ⟨w.heap.size+1,1,none⟩=some (.int .u64 r1)∧w'.cell? ⟨w.heap.size+1,2,none⟩=some (.int .u64 r2)∧w'.cell? ⟨w.heap.size+1,3,none⟩=some (.int .u64 r3) ∧
  w'.cell? ⟨w.heap.size+1,4,none⟩=some (.string c.s)∧w'.cell? ⟨w.heap.size+1,5,none⟩=some (.bool null)∧w'.cell? ⟨w.heap.size+1,6,none⟩=some iv∧w'.cell? ⟨w.heap.size+1,7,none⟩=some kv)
  (first
   | exact ⟨d0,d1,e0,e1,e2,e3,e4,e5,e6,e7⟩
   | exact ⟨Ae.aA d0 hN,Ae.aA d1 hN,Ae.aA e0 AU,Ae.aA e1 AU,Ae.aA e2 AU,Ae.aA e3 AU,Ae.aA e4 AU,Ae.aA e5 AU,Ae.aA e6 AU,Ae.aA e7 AU⟩
   | exact ⟨Ad.aA d0 (fun h=>h),Ad.aA d1 (fun h=>h),Ad.aA e0 (fun h=>h),Ad.aA e1 (fun h=>h),Ad.aA e2 (fun h=>h),Ad.aA e3 (fun h=>h),Ad.aA e4 (fun h=>h),Ad.aA e5 (fun h=>h),Ad.aA e6 (fun h=>h),Ad.aA e7 (fun h=>h)⟩
   | assumption)
  (first
   | (go_at_call 44;refine (aMi _ r0 r1 r2 r3 c.s null iv kv).mono ?_;rintro e w1 ⟨rfl,Ad⟩)
   | (refine aK _ rfl ?_;refine bH _ _ _ _ _ rfl _ _ rfl (aF.of1 (aCq _ _) call287 (zH _ p σ fp (BA.aW fun k hk=>Ad.block k (BA.lt k hk) (fun h=>h)) c A8 hn hm)) rfl ?_;rintro e w2 ⟨rfl,Aq,Au⟩;have Ae:Fr fp W w2:=(Ad.aH.mono (fun _ _ h=>h.elim)).trans Au (fun _ _ h=>h);refine ⟨_,rfl,?_⟩))
 all_goals
  go_end0
  refine ⟨rfl,?_,(Af.mono (fun _ _ h=>h.elim)).trans Ae (fun _ _ h=>h)⟩;obtain ⟨fp',h1,h2⟩:=Aq
  exact ⟨fp',h1,fun k hk=>(h2 k hk).imp id (fun h=>Nat.le_trans (Nat.le_trans Af.size Ad.size) h)⟩
def oH (c:Cell):List Value:=[.string c.s]
theorem aAE (cs:List Cell):cs.flatMap oH=cs.map fun c=>.string c.s:=by induction cs with|nil=>rfl|cons c cs ih=>rw[flatMap_cons,map_cons,ih];rfl
theorem aGq (w:World) (B:Nat) (Bd:B≤w.heap.size) (cs:List Cell) (v:Value) (xs:List Value) (hs:Sl B w 8 v cs.length xs) (hc:aI B w cs xs) (hn:cs.length≤2147483648) :
 Calls Tryz.prog 302 #[v,.func (.func 44) #[] #[]] w fun e w'=>∃ tv,e=.returned tv∧w'.ownsRow 0 9 1 tv cs.length (cs.flatMap oH)∧(∀ q,tv.ownBlock=some q→w.heap.size≤q)∧F0 w w':=by
 have CB:=hs;obtain ⟨Dy,ao,cap,rfl,BF,AP,h0,ha⟩:=hs;unfold maxLen at AP;clear ha h0 Dy;go_enter func302,ntmps302;go_wp2
 go_loopw [5,10] (fun tv i wr=>∃ k:Nat,k≤cs.length∧i=.int .i64 k∧wr.ownsRow 0 9 1 tv k ((cs.take k).flatMap oH)∧(∀ q,tv.ownBlock=some q→w.heap.size≤q)∧F0 w wr) (fun _ i _=>cs.length - (intOf i).toNat)
 case atStart=>exact ⟨0,Nat.zero_le _,rfl,World.ownsRow_nil _ _ _ _,by simp[Value.ownBlock],Fr.refl _ _⟩
 case round =>
  obtain ⟨k,hk,rfl,Aa,Ai,Ak⟩:=hrel;have Bf:Below B w wr:=Ak.below Bd (fun _ _ h=>h);obtain ⟨a0,c0,rfl⟩:=ownsRow_shape Aa
  by_cases Ar:k<cs.length
  · obtain ⟨b,off,cap',hv,FT,vs,AQ,Ac⟩:=(CB.below Bf).row (aI.below Bf _ _ hc) Ar
    have Ah:=Lib.hid (bQ oH cs k Ar);generalize cs[k]=c at AQ Ah;obtain ⟨ia,il,ic,ka,kl,kc,rfl,h0,h1,h2,h3,h4⟩:=AQ.open;simp only[Value.slice.injEq] at hv;obtain ⟨rfl,_,rfl⟩:=hv;have d0:=Ac 0 _ rfl;have d1:=Ac 1 _ rfl;have d2:=Ac 2 _ rfl;have d3:=Ac 3 _ rfl;have d4:=Ac 4 _ rfl;have d5:=Ac 5 _ rfl;have d6:=Ac 6 _ rfl;have d7:=Ac 7 _ rfl;simp only[Nat.add_zero] at d0;have BM:F0 w (wr.alloc (.cells #[.int .u64 c.r0,.int .u64 c.r1,.int .u64 c.r2,.int .u64 c.r3,.string c.s,.bool c.null,.slice ia il ic,.slice ka kl kc] 35)):=Ak.alloc _;have EN:=aMi (wr.alloc (.cells #[.int .u64 c.r0,.int .u64 c.r1,.int .u64 c.r2,.int .u64 c.r3,.string c.s,.bool c.null,.slice ia il ic,.slice ka kl kc] 35)) c.r0 c.r1 c.r2 c.r3 c.s c.null (.slice ia il ic) (.slice ka kl kc);clear Ac AQ CB hc
    go_wp2_with (first|(go_at_call 44;refine EN.mono ?_;rintro e w1 ⟨rfl,Ad⟩;have Bv:F0 w w1:=BM.trans Ad (fun _ _ h=>h);have Ba:=Ad.owns ((Fr.refl (fun _=>False) wr).alloc _ |>.owns Aa (fun _ _ h=>h)) (fun _ _ h=>h))|((with_reducible show wpList _ _ _ (⟨some 19,_,_,_,_,_⟩ :: _) _ _);refine aP _ rfl aOh _ _ rfl _ _ _ rfl (Ba.alloc _) _ _ _ rfl (Src.ofSlice _ underlying69 _ _ _ _ rfl (bG _ [.string c.s] _) (by simp[Value.oneCell'])) ?_ ?_ ?_;(unfold maxLen;omega);omega;intro v' w2 ha;obtain ⟨a',c',rfl⟩:=ha.shape))
    go_roundw
    case rel=>exact ⟨k+1,by omega,by go_num,by rw[Ah.out];exact ha.1,(ha.since (Bv.alloc _) Ai).1,(ha.since (Bv.alloc _) Ai).2⟩
    case measure=>simp[intOf];omega
  · have Bl:k=cs.length:=by omega
    subst Bl;rw[take_length] at Aa;go_wp2;go_ret
    exact ⟨_,rfl,Aa,Ai,Ak⟩
theorem rY (w:World) (B p:Nat) (Bd:B≤w.heap.size) (σ:List Cell) (fp:Nat→Prop) (hc:iP w p σ fp)
 (cs:List Cell) (v:Value) (ys:List Value) (hs:Sl B w 8 v cs.length ys) (A8:aI B w cs ys) (hn:(cat σ).length+(cat cs).length≤2147483648) (hm:σ.length+cs.length≤2147483648) :
 Calls Tryz.prog 300 #[.agg #[.iface 145 (.pointer (some ⟨p,0,none⟩)),.func (.func 44) #[] #[],.func (.func 45) #[] #[]],v] w fun e w' =>
  e=.returned (.tuple #[])∧(∃ fp',iP w' p (σ++cs) fp'∧Grow w fp fp')∧Fr fp w w':=by
 go_enter func300,ntmps300
 go_wp2_with fail
 generalize hW:w.alloc _=W;have Af:F0 w W:=by subst hW;exact (Fr.refl _ w).alloc _
 have d0:W.cell? ⟨w.heap.size,0,none⟩=some (.iface 145 (.pointer (some ⟨p,0,none⟩))):=by subst hW;rw[aB rfl];rfl
 have d1:W.cell? ⟨w.heap.size,1,none⟩=some (.func (.func 44) #[] #[]):=by subst hW;rw[aB rfl];rfl
 have BA:iP W p σ fp:=hc.aW fun k hk=>Af.block k (hc.lt k hk) (fun h=>h)
 have hN:¬ fp w.heap.size:=fun h=>by have:=hc.lt _ h;omega
 have D6:=hs.fr Bd Af;have Cf:=aI.below (Af.below Bd (fun _ _ h=>h)) _ _ A8;have CZ:B≤W.heap.size:=Nat.le_trans Bd Af.size;have EX:=D6.fr CZ (Fr.refl (fun _=>False) W).drew;have Ce:=aI.below ((Below.refl B W).drew) _ _ Cf;have CE:=aI.small A8;clear hW hs A8
 go_region_held3 (fun w'=>w'.cell? ⟨w.heap.size,0,none⟩=some (.iface 145 (.pointer (some ⟨p,0,none⟩)))∧w'.cell? ⟨w.heap.size,1,none⟩=some (.func (.func 44) #[] #[]))
  (first
   | exact ⟨d0,d1⟩
   | exact ⟨Ae.aA d0 hN,Ae.aA d1 hN⟩
   | exact ⟨Ad.aA d0 (fun h=>h),Ad.aA d1 (fun h=>h)⟩
   | assumption)
  (first
   | (go_at_call 302;refine (aGq W.drew B CZ cs v ys EX Ce (by omega)).mono ?_;rintro e w1 ⟨tv,rfl,Aa,Ai,Ad⟩)
   | (refine aK _ rfl ?_;refine bH _ _ _ _ _ rfl _ _ rfl (aF.of1 (wU _ _) call288 (aAD _ p σ fp (BA.aW fun k hk=>Ad.block k (BA.lt k hk) (fun h=>h)) cs tv (by rw[← aAE];exact Aa) (fun k hk h=>Nat.lt_irrefl _ (Nat.lt_of_lt_of_le (BA.lt k h) (Ai k hk))) (fun c hc=>(CE c hc).2.2.2.2) hn hm)) rfl ?_;rintro e w2 ⟨rfl,Aq,Au⟩;have Ae:Fr fp W w2:=(Ad.aH.mono (fun _ _ h=>h.elim)).trans Au (fun _ _ h=>h);refine ⟨_,rfl,?_⟩))
 all_goals
  go_end0
  refine ⟨rfl,?_,(Af.mono (fun _ _ h=>h.elim)).trans Ae (fun _ _ h=>h)⟩;obtain ⟨fp',h1,h2⟩:=Aq
  exact ⟨fp',h1,fun k hk=>(h2 k hk).imp id (fun h=>Nat.le_trans (Nat.le_trans Af.size Ad.size) h)⟩
def dL (c:Cell):List UInt8:=Lib.uvarint c.s.size++c.s.data.toList
theorem mJ (cs:List Cell):enc .str cs=cs.flatMap dL:=by rw[enc];rfl
theorem rW:∀ (cs:List Cell) (n k:Nat) (h:k<cs.length),(spans n cs)[k*2]?=some (.int .i64 (n+(cat (cs.take k)).length:Nat))∧(spans n cs)[k*2+1]?=some (.int .i64 (n+(cat (cs.take k)).length+cs[k].s.size:Nat))
 | [],n,k,h=>by simp at h
 | c :: cs,n,0,h=>by
  rw[spans]
  exact ⟨by simp[cat],by simp[cat]⟩
 | c :: cs,n,k+1,h=>by
  have hs:c.s.data.toList.length=c.s.size:=Array.length_toList;obtain ⟨h1,h2⟩:=rW cs (n+c.s.size) k (by simpa using h);have e1:(k+1)*2=k*2+1+1:=by omega
  rw[e1,spans,take_succ_cons,qF,length_append,hs];simp only[getElem?_cons_succ,getElem_cons_succ];rw[h1,h2]
  exact ⟨by congr 3;omega,by congr 3;omega⟩
theorem kJ (cs:List Cell) (k:Nat) (h:k<cs.length):cat cs=cat (cs.take k)++(cs[k].s.data.toList++cat (cs.drop (k+1))):=by
 rw[← qF,← iY,getElem_cons_drop h,take_append_drop]
theorem jZ {α β:Type} (f:α→List β) (l:List α) (k:Nat):((l.take k).flatMap f).length≤(l.flatMap f).length:=by
 have:=congrArg List.length (flatMap_append (f:=f) (xs:=l.take k) (ys:=l.drop k));rw[take_append_drop,length_append] at this;omega
theorem aHx {w:World} {tx e':TypeId} {g o k n:Nat} {l:List UInt8} (hk:Tryz.prog.underlying tx=some (.slice e')) (hl:(aN l).length=n) (hs:∀ j u,(aN l)[j]?=some u→w.cell? ((⟨g,o,none⟩:Addr).add j)=some u) (hn:k=o→n=0) (c:Nat) :
 Src Tryz.prog 1 tx (.slice (if k=o then some ⟨g,0,none⟩ else some ⟨g,o,none⟩) n c) n (aN l) w:=by
 have h1:∀ u∈aN l,u.oneCell'=true:=by
  intro u hu;obtain ⟨c,_,rfl⟩:=mem_map.1 hu
  rfl
 by_cases h:k=o
 · have NH:=hn h
   subst NH;have hb:aN l=[]:=eq_nil_of_length_eq_zero hl;rw[hb,if_pos h]
   exact Src.ofSlice _ hk _ _ _ [] (by simp) (by simp) (by simp)
 · rw[if_neg h]
   exact Src.ofSlice _ hk _ _ _ _ (by rw[hl];omega) hs h1
theorem oU (l:List UInt8):∀ u∈aN l,u.oneCell'=true:=by
 intro u hu;obtain ⟨c,_,rfl⟩:=mem_map.1 hu
 rfl
theorem aGo (w:World) (b:Nat) (fb:Nat→Prop) (bs:List UInt8) (hb:Buf w b fb bs) (v1 v2:Value) (cs:List Cell) (h1:w.ownsRow 0 5 1 v1 (cat cs).length (aN (cat cs))) (h2:w.ownsRow 0 511 2 v2 cs.length (spans 0 cs))
 (KF:∀ k,v1.ownBlock=some k→¬ fb k) (QQ:∀ k,v2.ownBlock=some k→¬ fb k) (CE:∀ c∈cs,c.s.size≤65536) (hm:(cat cs).length≤2147483648) (hn:cs.length≤2147483648) (hl:bs.length+(cs.flatMap dL).length≤1099511627776) :
 Calls Tryz.prog 290 #[.agg #[v1,v2],.pointer (some ⟨b,0,none⟩)] w fun e w'=>e=.returned (.tuple #[])∧Fr fb w w'∧∃ fb',Buf w' b fb' (bs++cs.flatMap dL)∧Grow w fb fb':=by
 obtain ⟨a1,k1,rfl⟩:=ownsRow_shape h1;obtain ⟨a2,k2,rfl⟩:=ownsRow_shape h2;go_enter func290,ntmps290;go_wp2;generalize hW:(w.alloc _).alloc _=W;have Aw:F0 w W:=by subst hW;exact ((Fr.refl _ w).alloc _).alloc _
 have Fh:W.heap[w.heap.size]?=some (.cells #[.slice a1 (cat cs).length k1,.slice a2 cs.length k2] 148 (0,0)):=by subst hW;exact (Below.heap_alloc _ _ _ (by simp)).trans (heap_alloc_new w _)
 have CO:∃ (cur:Array Value) (t:TypeId),W.heap[w.heap.size+1]?=some (.cells cur t (0,0))∧cur.size=10:=by subst hW;exact ⟨_,_,Fr.made (Fr.refl _ _) (by simp),rfl⟩
 have La:W.heap.size=w.heap.size+2:=by subst hW;simp
 have KE:Buf W b fb bs:=aJ.aW hb fun k hk=>Aw.block k (aJ.lt hb k hk) (fun h=>h)
 have Df:∀ k,fb k→k<w.heap.size:=aJ.lt hb;have Zd:=Aw.owns h1 (fun _ _ h=>h);have UX:=Aw.owns h2 (fun _ _ h=>h);have KN:∀ k,(Value.slice a1 (cat cs).length k1).ownBlock=some k→k<w.heap.size:=fun k hk=>aO h1 hk
 have Xh:∀ k,(Value.slice a2 cs.length k2).ownBlock=some k→k<w.heap.size:=fun k hk=>aO h2 hk
 clear hW hb h1 h2
 go_loopw [6,7,8,12] (fun _ _ _ i wr=>∃ (k:Nat) (fbk:Nat→Prop),k≤cs.length∧i=.int .i64 k∧Buf wr b fbk (bs++(cs.take k).flatMap dL)∧Grow W fb fbk∧Fr (fun q=>fb q∨q=w.heap.size+1) W wr ∧
  ∃ (cur:Array Value) (t:TypeId),wr.heap[w.heap.size+1]?=some (.cells cur t (0,0))∧cur.size=10) (fun _ _ _ i _=>cs.length - (intOf i).toNat)
 case atStart=>exact ⟨0,fb,Nat.zero_le _,rfl,by simpa using KE,fun k hk=>.inl hk,Fr.refl _ _,CO⟩
 case round =>
  obtain ⟨k,fbk,hk,rfl,Dz,JU,AY,cur,tb,IU,H7⟩:=hrel
  by_cases Ar:k<cs.length
  · have VH:=AY.owns Zd (fun q hq h=>h.elim (KF q hq) (fun e=>by have:=KN q hq;omega))
    have Px:=AY.owns UX (fun q hq h=>h.elim (QQ q hq) (fun e=>by have:=Xh q hq;omega));rcases Px.2 with ⟨hv,_⟩|⟨ga,capa,cura,hv,_⟩
    · simp only[Value.slice.injEq] at hv;omega
    · simp only[Value.slice.injEq] at hv
      obtain ⟨rfl,_,rfl⟩:=hv;obtain ⟨II,BN⟩:=rW cs 0 k Ar;have FK:=Px.cells (g:=ga) rfl _ _ II;have F6:=Px.cells (g:=ga) rfl _ _ BN;rw[Addr.add_lit,Nat.zero_add,Nat.zero_add] at FK F6;have Dp:=CE cs[k] (getElem_mem _);have Ah:=bQ dL cs k Ar
      have BD:(cat (cs.take k)).length+cs[k].s.size≤(cat cs).length:=by
       have hs:cs[k].s.data.toList.length=cs[k].s.size:=Array.length_toList;rw[kJ cs k Ar,length_append,length_append,hs];omega
      have F9:∀ j u,(aN cs[k].s.data.toList)[j]?=some u→(aN (cat cs))[(cat (cs.take k)).length+j]?=some u:=by
       intro j u hj;rw[kJ cs k Ar,bC,getElem?_append_right (by rw[aZ];omega),aZ,Nat.add_sub_cancel_left,bC,getElem?_append_left (List.getElem?_eq_some_iff.1 hj).1]
       exact hj
      generalize cs[k]=cc at FK F6 Dp Ah BD F9;generalize (cat (cs.take k)).length=o at FK F6 BD F9;have hu10:(Lib.uvarint cc.s.size).length≤10:=Lib.uvarint_length64 (by omega);have hU:Lib.uvarint cc.s.size=Lib.uvarint cc.s.size:=rfl;have FZ:(wr.alloc (.cells #[.int .i64 o,.int .i64 (o+cc.s.size)] 511)).heap[w.heap.size+1]?=some (.cells cur tb (0,0)):=(Below.heap_alloc _ _ _ (aC IU)).trans IU;have AO:=Tryz.binary_PutUvarint (w.heap.size+1) 0 10 10 cc.s.size (by omega) (wr.alloc (.cells #[.int .i64 o,.int .i64 (o+cc.s.size)] 511)) hu10 (fun j hj=>⟨by rw[cell_of_row _ _ _ _ _ _ FZ];simp;omega,fzj _ FZ⟩);have hA:F0 wr (wr.alloc (.cells #[.int .i64 o,.int .i64 (o+cc.s.size)] 511)):=(Fr.refl _ wr).alloc _;have Ad:Fr (fun q=>q=w.heap.size+1) wr ((wr.alloc (.cells #[.int .i64 o,.int .i64 (o+cc.s.size)] 511)).setCells (w.heap.size+1) 0 (Lib.byteCells (Lib.uvarint cc.s.size))):=Fr.setCells (S:=fun q=>q=w.heap.size+1) (.inl rfl) _ _ _ (hA.mono (fun _ _ h=>h.elim));have hr1:=iT (w.heap.size+1) tb (Lib.byteCells (Lib.uvarint cc.s.size)) 0 _ cur FZ (by rw[Lib.byteCells_length];omega)
      have p0:((wr.alloc (.cells #[.int .i64 o,.int .i64 (o+cc.s.size)] 511)).setCells (w.heap.size+1) 0 (Lib.byteCells (Lib.uvarint cc.s.size))).cell? ⟨wr.heap.size,0,none⟩=some (.int .i64 o):=by
       rw[World.cell?_setCells_out _ _ _ _ _ (fun h=>by have:=AY.size;simp at h;omega),aB rfl];rfl
      have p1:((wr.alloc (.cells #[.int .i64 o,.int .i64 (o+cc.s.size)] 511)).setCells (w.heap.size+1) 0 (Lib.byteCells (Lib.uvarint cc.s.size))).cell? ⟨wr.heap.size,1,none⟩=some (.int .i64 (o+cc.s.size)):=by
       rw[World.cell?_setCells_out _ _ _ _ _ (fun h=>by have:=AY.size;simp at h;omega),aB rfl];rfl
      have FI:((wr.alloc (.cells #[.int .i64 o,.int .i64 (o+cc.s.size)] 511)).setCells (w.heap.size+1) 0 (Lib.byteCells (Lib.uvarint cc.s.size))).heap.size=wr.heap.size+1:=by rw[setCells_size];simp
      generalize JA:(wr.alloc (.cells #[.int .i64 o,.int .i64 (o+cc.s.size)] 511)).setCells (w.heap.size+1) 0 (Lib.byteCells (Lib.uvarint cc.s.size))=W1 at AO Ad hr1 p0 p1 FI;clear JA FZ hA hU
      have Jr:∀ j u,(aN (Lib.uvarint cc.s.size))[j]?=some u→W1.cell? ((⟨w.heap.size+1,0,none⟩:Addr).add j)=some u:=by
       intro j u hj;rw[Addr.add_lit,Nat.zero_add,cell_of_row _ _ _ _ _ _ hr1,getElem?_toArray,take_zero,nil_append,show Lib.byteCells (Lib.uvarint cc.s.size)=aN (Lib.uvarint cc.s.size) from rfl,getElem?_append_left (List.getElem?_eq_some_iff.1 hj).1]
       exact hj
      have L8:Buf W1 b fbk (bs++(cs.take k).flatMap dL):=aJ.aW Dz fun q hq=>Ad.block q (aJ.lt Dz q hq) (fun e=>by
       have:=JU q hq;rcases this with h|h
       · have:=Df q h;omega
       · omega)
      go_wp2_with (go_at_call 296;rw[show ((o:Int)+(cc.s.size:Int) - (o:Int))=(cc.s.size:Int) by omega];refine AO.mono ?_;rintro e w1 ⟨rfl,rfl⟩)
      have Pi:(aN (Lib.uvarint cc.s.size)).length=(Lib.uvarint cc.s.size).length:=aZ _;generalize hU:Lib.uvarint cc.s.size=U at hu10 Jr Pi
      have JX:(bs++(cs.take k).flatMap dL).length+U.length+cc.s.size≤1099511627776:=by
       have h3:=jZ dL cs (k+1);rw[Ah] at h3;have hs:cc.s.data.toList.length=cc.s.size:=Array.length_toList;simp only[length_append,dL,hU,hs] at h3 ⊢;omega
      generalize hL:bs++(cs.take k).flatMap dL=L at L8 JX;obtain ⟨vb,hp,Bh,Am,Aj⟩:=L8;obtain ⟨Ac,BH⟩:=aJ.cell hp;obtain ⟨a0,c0,rfl⟩:=ownsRow_shape Bh;have AZ:=aC hp;have s1:(0:Int)≤(U.length:Int):=by omega
      have s2:(U.length:Int)≤10:=by omega
      go_region_law (refine aK _ rfl ?_;refine dJ _ gY _ _ rfl _ _ _ rfl Bh _ _ _ rfl (Src.ofSlice _ underlying22 _ _ _ _ (by rw[Pi];omega) Jr (oU _)) ?_ ?_ ?_;(unfold maxLen;omega);omega;intro v' w2 ha;obtain ⟨a',c',rfl⟩:=ha.shape;have IV:w2.cell? ⟨b,0,none⟩=some (.slice a0 L.length c0):=ha.2.1.cell Ac (fun h=>Am h.symm);have Ae:w2.frozen? ⟨b,0,none⟩=false:=(World.frozen?_of_block (ha.2.1.block b AZ (fun h=>Am h.symm))).trans BH)
      all_goals
       obtain ⟨⟨fb2,JS,BJ⟩,BZ⟩:=aJ.appended hp Bh Am Aj ((Fr.refl _ w1).drew) ha;generalize w2.setCell ⟨b,0,none⟩ (Value.slice a' (L.length+U.length) c')=W3 at JS BZ ⊢;clear ha IV Ae
       have Xv:∀ q,q<W.heap.size→w.heap.size≤q→¬ fbk q:=fun q h1 h2 h=>by
        rcases JU q h with h|h
        · have:=Df q h;omega
        · omega
       have q0:=BZ.aA p0 (fun h=>by have:=aJ.lt Dz _ h;simp at this);have q1:=BZ.aA p1 (fun h=>by have:=aJ.lt Dz _ h;simp at this)
       have DY:w1.heap[w.heap.size]?=some (.cells #[.slice a1 (cat cs).length k1,.slice (some ⟨ga,0,none⟩) cs.length k2] 148 (0,0)) :=
        (Ad.block _ (by have:=AY.size;omega) (by show ¬ w.heap.size=w.heap.size+1;omega)).trans ((AY.block _ (by omega) (fun h=>h.elim (fun h=>by have:=Df _ h;omega) (fun h=>by omega))).trans Fh)
       have JQ:=(BZ.block _ (aC DY) (Xv _ (by omega) (Nat.le_refl _))).trans DY;have q2:W3.cell? ⟨w.heap.size,0,none⟩=some (.slice a1 (cat cs).length k1):=crw JQ rfl;have NM:=Ad.owns VH (fun q hq h=>by have:=KN q hq;omega)
       have Rx:=BZ.owns NM (fun q hq h=>by
        rcases JU q h with h|h
        · exact KF q hq h
        · have:=KN q hq;omega)
       have Nc:∀ (W5:World) (fb5:Nat→Prop),aJ W5 b 114 5 1 (L.length+U.length+cc.s.size) (aN L++aN U++aN cc.s.data.toList) fb5→Grow W3 fb2 fb5→Fr fb2 W3 W5 →
        ∃ (k':Nat) (fbk':Nat→Prop),k'≤cs.length∧Value.int .i64 ((k:Int)+1)=.int .i64 k'∧Buf W5 b fbk' (bs++(cs.take k').flatMap dL)∧Grow W fb fbk'∧Fr (fun q=>fb q∨q=w.heap.size+1) W W5 ∧
         ∃ (cur:Array Value) (t:TypeId),W5.heap[w.heap.size+1]?=some (.cells cur t (0,0))∧cur.size=10:=by
        intro W5 fb5 Wl KI BP;have z1:=AY.size;have z2:=Ad.size;have z3:=BZ.size;have hs:cc.s.data.toList.length=cc.s.size:=Array.length_toList;have D8:bs++(cs.take (k+1)).flatMap dL=L++U++cc.s.data.toList:=by rw[Ah,← append_assoc,hL,dL,hU,append_assoc]
        have JW:∀ q,q<w1.heap.size→fb2 q→fbk q:=fun q hq h=>(BJ q h).resolve_right (by omega)
        have D5:∀ q,q<W.heap.size→fbk q→fb q:=fun q hq h=>(JU q h).resolve_right (by omega)
        refine ⟨k+1,fb5,by omega,by go_num,?_,?_,?_,?_⟩
        · rw[D8]
          refine Buf.col.2 ?_
          rw[length_append,length_append,hs,bC,bC]
          exact Wl
        · intro q hq
          rcases KI q hq with h|h
          · rcases BJ q h with h|h
            · exact JU q h
            · exact .inr (by omega)
          · exact .inr (by omega)
        · refine ((AY.trans Ad (fun _ _ h=>.inr h)).trans BZ (fun q hq h=>.inl (D5 q hq h))).trans BP (fun q hq h=>.inl (D5 q hq (JW q (by omega) h)))
        · refine ⟨_,tb,(BP.block _ (by omega) (fun h=>?_)).trans ((BZ.block _ (by omega) (Xv _ (by omega) (by omega))).trans hr1),?_⟩
          · exact Xv _ (by omega) (by omega) (JW _ (by omega) h)
          · simp[Lib.byteCells_length,hU,H7]
            omega
       obtain ⟨v3,IC,MW,Jf,Tv⟩:=JS;obtain ⟨LG,TB⟩:=aJ.cell IC;obtain ⟨a3,c3,rfl⟩:=ownsRow_shape MW;have Ut:=aC IC;have r0:(0:Int)≤(o:Int):=by omega
       have r1:(o:Int)≤(o:Int)+(cc.s.size:Int):=by omega
       have r2:(0:Int)≤(o:Int)+(cc.s.size:Int):=by omega
       have r3:((o:Int)+(cc.s.size:Int)).toNat - o=cc.s.size:=by omega
       have Le:(aN cc.s.data.toList).length=cc.s.size:=by rw[aZ];exact Array.length_toList
       go_wp2;rcases Rx.2 with ⟨Eo,hz⟩|⟨g1,cap1,cur1,Eo,_,_,Ua,LJ,_⟩
       · simp only[Value.slice.injEq] at Eo
         obtain ⟨rfl,SX,rfl⟩:=Eo;have Pq:cc.s.size=0:=by omega
         have MV:o=0:=by omega
         have WG:cc.s.data.toList=[]:=eq_nil_of_length_eq_zero (by rw[Array.length_toList];exact Pq);clear SX hz
         go_region_law (refine aK _ rfl ?_;refine dJ _ gY _ _ rfl _ _ _ rfl MW _ _ _ rfl (Src.ofNil _ underlying22 0) ?_ ?_ ?_;(unfold maxLen;omega);omega;intro v4 w4 Jy;obtain ⟨a4,c4,rfl⟩:=Jy.shape;have Vh:w4.cell? ⟨b,0,none⟩=some (.slice a3 (L.length+U.length) c3):=Jy.2.1.cell LG (fun h=>Jf h.symm);have BU:w4.frozen? ⟨b,0,none⟩=false:=(World.frozen?_of_block (Jy.2.1.block b Ut (fun h=>Jf h.symm))).trans TB)
         all_goals
          obtain ⟨⟨fb5,LK,KI⟩,PP⟩:=aJ.appended IC MW Jf Tv ((Fr.refl _ W3).drew) Jy;go_wp2;go_roundw
          case rel=>exact Nc _ _ (by rw[WG,Pq];simpa [aN] using LK) KI PP
          case measure=>simp[intOf];omega
       · simp only[Value.slice.injEq] at Eo
         obtain ⟨rfl,_,rfl⟩:=Eo;unfold maxLen at LJ;have r4:(o:Int)+(cc.s.size:Int)≤(k1:Int):=by omega
         have U4:∀ j u,(aN cc.s.data.toList)[j]?=some u→W3.cell? ((⟨g1,o,none⟩:Addr).add j)=some u:=by
          intro j u hj;have:=Rx.cells (g:=g1) rfl _ _ (F9 j u hj);rw[Addr.add_lit,Nat.zero_add] at this;rw[Addr.add_lit]
          exact this
         have TR:k1=o→cc.s.size=0:=by intro h;subst h;omega
         have ZF:Src Tryz.prog 1 22 (.slice (if k1=o then some ⟨g1,0,none⟩ else some ⟨g1,o,none⟩) cc.s.size (k1 - o)) cc.s.size (aN cc.s.data.toList) W3.drew:=aHx (w:=W3.drew) underlying22 Le (fun j u hj=>U4 j u hj) TR _
         go_region_law (refine aK _ rfl ?_;refine dJ _ gY _ _ rfl _ _ _ rfl MW _ _ _ rfl ZF ?_ ?_ ?_;(unfold maxLen;omega);omega;intro v4 w4 Jy;obtain ⟨a4,c4,rfl⟩:=Jy.shape;have Vh:w4.cell? ⟨b,0,none⟩=some (.slice a3 (L.length+U.length) c3):=Jy.2.1.cell LG (fun h=>Jf h.symm);have BU:w4.frozen? ⟨b,0,none⟩=false:=(World.frozen?_of_block (Jy.2.1.block b Ut (fun h=>Jf h.symm))).trans TB)
         all_goals
          obtain ⟨⟨fb5,LK,KI⟩,PP⟩:=aJ.appended IC MW Jf Tv ((Fr.refl _ W3).drew) Jy;go_wp2;go_roundw
          case rel=>exact Nc _ _ LK KI PP
          case measure=>simp[intOf];omega
  · have Bl:k=cs.length:=by omega
    subst Bl;rw[take_length] at Dz;go_wp2;go_end0;have hf:=(Aw.mono (S':=fb) (fun _ _ h=>h.elim)).trans (AY.mono (S':=fun q=>fb q∨q=w.heap.size+1) (fun _ _ h=>h)) (fun q hq h=>h.elim (fun h=>h) (fun h=>by omega))
    exact ⟨rfl,hf,fbk,Dz,fun q hq=>(JU q hq).imp id (fun h=>by omega)⟩
theorem rH {P:Program} {w:World} {t:TypeId} {i:TypeInfo} {fs:Array Field} {a:Addr} {u v:Value} (hu:P.underlying t=some (.struct fs)) (hi:P.info? t=some i) (hs:i.size=2) (h0:w.cell? a=some u) (h1:w.cell? (a.add 1)=some v):(loadVar t a).run P w=.ok (.agg #[u,v]) w:=by
 have hg:(isAgg t).run P w=.ok true w:=by simp[isAgg,run_underlying hu]
 have Pv:w.cell? (a.add 0)=some u:=by cases a with|mk b o s=>cases s<;>simpa [Addr.add] using h0
 unfold loadVar;simp[Sem.run_bind,hg,sizeOf,typeInfo,hi,hs,loadCells,loadCellsFrom,Pv,h1]
theorem oC {w:World} {a:Addr} {u v:Value} (h0:w.cell? a=some u) (h1:w.cell? (a.add 1)=some v):(loadVar 148 a).run Tryz.prog w=.ok (.agg #[u,v]) w:=by
 have h:(Tryz.prog.info? 148).map (·.size)=some 2:=by kernel_rfl
 obtain ⟨i,hi,hs⟩:=Option.map_eq_some_iff.1 h
 exact rH underlying148 hi hs h0 h1
abbrev rX (q:Nat):Value:=.agg #[.iface 145 (.pointer (some ⟨q,0,none⟩)),.func (.func 44) #[] #[],.func (.func 45) #[] #[]]
theorem aBq (p:Nat) (w:World) (name:String) (f:FuncId) (h:(name,f)=("Append",299)∨(name,f)=("AppendArr",300)) :
 (method mdp 154 (.agg #[.iface 145 (.pointer (some ⟨p,0,none⟩)),.func (.func 44) #[] #[],.func (.func 45) #[] #[]]) name).run Tryz.prog w =
  .ok (f,.agg #[.iface 145 (.pointer (some ⟨p,0,none⟩)),.func (.func 44) #[] #[],.func (.func 45) #[] #[]]) w:=by
 rcases h with h|h<;>(simp only[Prod.mk.injEq] at h;obtain ⟨rfl,rfl⟩:=h;kernel_rfl)
theorem aGp (p:Nat) (w:World) (u v:Value) (h0:w.cell? ⟨p,0,none⟩=some u) (h1:w.cell? ⟨p,1,none⟩=some v) :
 (method mdp 154 (.agg #[.iface 145 (.pointer (some ⟨p,0,none⟩)),.func (.func 44) #[] #[],.func (.func 45) #[] #[]]) "Rows").run Tryz.prog w=.ok (293,.agg #[u,v]) w:=by
 obtain ⟨n,hn⟩:=fuel;rw[hn]
 refine (aX (n:=n+1) underlying154 rfl rfl (fun _=>by kernel_rfl) (by kernel_rfl) rfl).trans ?_
 exact aQ (n:=n) false (by kernel_rfl) (aU underlying145 (oC h0 (by simpa [Addr.add] using h1)))
theorem aJm (p:Nat) (w:World) (u v:Value) (h0:w.cell? ⟨p,0,none⟩=some u) (h1:w.cell? ⟨p,1,none⟩=some v) :
 (method mdp 154 (.agg #[.iface 145 (.pointer (some ⟨p,0,none⟩)),.func (.func 44) #[] #[],.func (.func 45) #[] #[]]) "EncodeColumn").run Tryz.prog w=.ok (290,.agg #[u,v]) w:=by
 obtain ⟨n,hn⟩:=fuel;rw[hn]
 refine (aX (n:=n+1) underlying154 rfl rfl (fun _=>by kernel_rfl) (by kernel_rfl) rfl).trans ?_
 exact aQ (n:=n) false (by kernel_rfl) (aU underlying145 (oC h0 (by simpa [Addr.add] using h1)))
theorem aMn (w:World) (v1:Value) (a:Option Addr) (n c:Nat):Calls Tryz.prog 293 #[.agg #[v1,.slice a n c]] w fun e w'=>e=.returned (.int .i64 n)∧F0 w w':=by
 go_enter func293,ntmps293;go_wp2;go_ret
 exact ⟨rfl,(Fr.refl _ w).alloc _⟩
def jY (B p:Nat) (w:World) (fp:Nat→Prop) (σ:List Cell):Prop:=iP w p σ fp∧(∀ k,fp k→B≤k)∧∀ c∈σ,c.small
theorem jY.after {B p:Nat} {w w':World} {fp:Nat→Prop} {σ τ:List Cell} (h:jY B p w fp σ) (hc:∃ fp',iP w' p τ fp'∧Grow w fp fp') (CE:∀ c∈τ,c.small):∃ fp',jY B p w' fp' τ∧Grow w fp fp':=by
 obtain ⟨fp',Aq,hg⟩:=hc;have hp:=h.2.1 p h.1.shape;have:=h.1.lt p h.1.shape
 exact ⟨fp',⟨Aq,fun k hk=>(hg k hk).elim (h.2.1 k) (fun h=>by omega),CE⟩,hg⟩
theorem kV (B p:Nat):ColSpec Tryz.prog B 154 (.agg #[.iface 145 (.pointer (some ⟨p,0,none⟩)),.func (.func 44) #[] #[],.func (.func 45) #[] #[]]) .str [] (jY B p) (jY B p) where
 lo:=fun h k hk=>⟨h.2.1 k hk,h.1.lt k hk⟩
 lo':=fun h k hk=>⟨h.2.1 k hk,h.1.lt k hk⟩
 frame:=fun h hk=>⟨h.1.aW hk,h.2⟩
 frame':=fun h hk=>⟨h.1.aW hk,h.2⟩
 append:=by
  intro w fp σ c vs h AQ hw;have A8:=AQ.small;obtain ⟨ia,il,ic,ka,kl,kc,rfl,h0,h1,h2,h3,h4⟩:=AQ.open;have AA:=jL (σ++[c]);have Ou:wts (σ++[c])≤2147483648:=hw;rw[iY,length_append,length_append,length_singleton] at AA
  refine aF.of1 (aBq p w _ _ (.inl rfl)) call299 ((zI w p σ fp h.1 c h4 (by omega) (by omega) c.r0 c.r1 c.r2 c.r3 c.null (.slice ia il ic) (.slice ka kl kc)).mono ?_);rintro e w' ⟨he,Aq,Ak⟩
  refine ⟨he,Ak,h.after Aq (fun d hd=>?_)⟩;rcases mem_append.1 hd with hd|hd
  · exact h.2.2 d hd
  · rw[mem_singleton.1 hd]
    exact A8
 appendArr:=by
  intro w fp σ cs v xs h hs A8 hw;have AA:=jL (σ++cs);have Ou:wts (σ++cs)≤2147483648:=hw;rw[iY,length_append,length_append] at AA
  have hB:B≤w.heap.size:=by
   have:=h.2.1 p h.1.shape;have:=h.1.lt p h.1.shape;omega
  refine aF.of1 (aBq p w _ _ (.inr rfl)) call300 ((rY w B p hB σ fp h.1 cs v xs hs A8 (by omega) (by omega)).mono ?_);rintro e w' ⟨he,Aq,Ak⟩
  refine ⟨he,Ak,h.after Aq (fun d hd=>?_)⟩;rcases mem_append.1 hd with hd|hd
  · exact h.2.2 d hd
  · exact aI.small A8 d hd
 rows:=by
  intro w fp σ h;obtain ⟨v1,v2,hp,h1,h2,_⟩:=h.1;obtain ⟨a,c,rfl⟩:=ownsRow_shape h2
  exact aF.of0 (aGp p w _ _ (crw hp rfl) (crw hp rfl)) call293 (aMn w v1 a _ c)
 flat:=by rintro w name (rfl|rfl|rfl) n m<;>exact fC underlying154 rfl rfl (fun _=>by kernel_rfl) (by kernel_rfl) rfl (by kernel_rfl) n m
 ahead:=fun w=>by kernel_rfl
 prepare:=⟨false,fun x w=>run_typeAssert_lacksB underlying102 (by kernel_rfl) (by kernel_rfl) _ x w,fun h=>by simpa using h⟩
 state:=⟨false,fun x w=>run_typeAssert_lacksB underlying172 (by kernel_rfl) (by kernel_rfl) _ x w,by simp⟩
 encode:=by
  intro w fp σ b fb bs h hw hb hd hl;obtain ⟨v1,v2,hp,h1,h2,n1,n2,n3,Aj⟩:=h.1;have AA:=jL σ;have Ou:wts σ≤2147483648:=hw;have hh:=aGo w b fb bs hb v1 v2 σ h1 h2 (fun k hk=>hd k ((Aj k).2 (.inr (.inl hk)))) (fun k hk=>hd k ((Aj k).2 (.inr (.inr hk)))) (fun c hc=>(h.2.2 c hc).2.2.2.2) (by omega) (by omega) (by rw[← mJ];exact hl);rw[mJ]
  exact aF.of1 (aJm p w _ _ (crw hp rfl) (crw hp rfl)) call290 hh
end Go.Proofs.YtcidlnjpabgioaaGreatDoor
