import Derived.ProofKit
import Derived.Test.YtcidlnjpabgioaaGreatDoorUGMap
set_option maxHeartbeats 1000000
set_option maxRecDepth 100000
namespace Go.Proofs.YtcidlnjpabgioaaGreatDoor
open Tryz Go
theorem rP {f:Nat→Bool} {a k:Nat} (h:(List.range' a k).all f=true) {i:Nat} (h1:a≤i) (h2:i<a+k):f i=true:=List.all_eq_true.1 h i (List.mem_range'_1.2 ⟨h1,h2⟩)
theorem types_size:Tryz.prog.types.size=683:=by kernel_rfl
theorem aPb:(List.range' 0 250).all (rowFine Tryz.prog)=true:=by kernel_rfl
theorem aPc:(List.range' 250 170).all (rowFine Tryz.prog)=true:=by kernel_rfl
theorem aPd:(List.range' 420 140).all (rowFine Tryz.prog)=true:=by kernel_rfl
theorem aPe:(List.range' 560 123).all (rowFine Tryz.prog)=true:=by kernel_rfl
theorem aMd:(List.range Tryz.prog.types.size).all (rowFine Tryz.prog)=true:=by
 rw[types_size,List.all_eq_true];intro i hi;have h:i<683:=List.mem_range.1 hi;rcases Nat.lt_or_ge i 250 with h1|h1
 · exact rP aPb (Nat.zero_le _) (by omega)
 · rcases Nat.lt_or_ge i 420 with h2|h2
   · exact rP aPc h1 (by omega)
   · rcases Nat.lt_or_ge i 560 with h3|h3
     · exact rP aPd h2 (by omega)
     · exact rP aPe h3 (by omega)
theorem aBM:Tryz.prog.globals.all (fun g=>decide (g.type<Tryz.prog.types.size))=true:=by kernel_rfl
theorem aEP:Tryz.prog.funcs.all (fun f=>f.params.all fun t=>decide (t<Tryz.prog.types.size))=true:=by kernel_rfl
theorem rE:laidOutB Tryz.prog=true:=by
 unfold laidOutB;rw[aMd,aBM,aEP]
 rfl
end Go.Proofs.YtcidlnjpabgioaaGreatDoor
namespace Go.Proofs.YtcidlnjpabgioaaGreatDoor
open Tryz List Go.RowKit Go.Maps
theorem aMf {α:Type} {P:List α→Prop} (h0:P []) (h1:∀ l a,P l→P (l++[a])) (l:List α):P l:=by
 rw[← reverse_reverse l]
 induction l.reverse with
 | nil=>exact h0
 | cons a l ih=>rw[reverse_cons];exact h1 _ _ ih
theorem lK (a b:Cell):fE a b=true↔a.r0=b.r0∧a.r1=b.r1∧a.r2=b.r2∧a.r3=b.r3∧a.s=b.s:=by
 unfold fE;simp only[Bool.and_eq_true,beq_iff_eq,and_assoc]
 constructor
 · rintro ⟨h0,h1,h2,h3,h4⟩
   refine ⟨h0,h1,h2,h3,?_⟩;have h:=Array.ext' h4
   cases ha:a.s
   cases hb:b.s
   rw[ha,hb] at h;simp only at h;rw[h]
 · rintro ⟨h0,h1,h2,h3,h4⟩
   exact ⟨h0,h1,h2,h3,by rw[h4]⟩
theorem yE (a b:Cell):fE a b.keyed=fE a b:=rfl
theorem aDn (a b:Cell):fE a.keyed b=fE a b:=rfl
theorem aBg (a:Cell):fE a a=true:=(lK a a).2 ⟨rfl,rfl,rfl,rfl,rfl⟩
theorem oP:∀ (acc a b:List Cell),aS acc (a++b)=aS (aS acc a) b
 | _,[],_=>rfl
 | acc,c :: a,b=>by rw[cons_append,aS,aS,oP _ a b]
theorem vP (a:List Cell) (c:Cell):aS [] (a++[c])=if (aS [] a).any (fE c) then aS [] a else aS [] a++[c.keyed]:=by
 rw[oP]
 rfl
theorem yJ:∀ (a acc:List Cell) (c:Cell),(c∈a∨acc.any (fE c)=true)→(aS acc a).any (fE c)=true
 | [],acc,c,h=>h.resolve_left (by simp)
 | d :: a,acc,c,h=>by
  rw[aS]
  refine yJ a _ c ?_
  rcases h with h|h
  · rcases mem_cons.1 h with rfl|h
    · right
      split
      · assumption
      · rw[any_append,Bool.or_eq_true]
        right
        simp[yE,aBg]
    · exact .inl h
  · right
    split
    · exact h
    · rw[any_append,h];rfl
theorem iZ:∀ (a acc:List Cell),wts (aS acc a)≤wts acc+wts a
 | [],acc=>by rw[aS];omega
 | d :: a,acc=>by
  rw[aS,wts];have h:=aDq d
  refine Nat.le_trans (iZ a _) ?_
  split
  · omega
  · rw[fG]
    simp only[wts];omega
theorem rM:∀ (a acc:List Cell),(∀ c∈a,c.small)→(∀ c∈acc,c.small)→∀ c∈aS acc a,c.small
 | [],acc,_,h,c,hc=>h c hc
 | d :: a,acc,ha,h,c,hc=>by
  rw[aS] at hc
  refine rM a _ (fun x hx=>ha x (by simp[hx])) (fun x hx=>?_) c hc
  split at hx
  · exact h x hx
  · rcases mem_append.1 hx with hx|hx
    · exact h x hx
    · rw[mem_singleton.1 hx]
      exact aDp (ha d (by simp))
def xI (l:List Cell):Prop:=l.Pairwise fun a b=>fE b a=false
theorem rJ:∀ (a acc:List Cell),xI acc→xI (aS acc a)
 | [],_,h=>h
 | d :: a,acc,h=>by
  rw[aS]
  refine rJ a _ ?_
  split
  · exact h
  · rename_i hn
    refine pairwise_append.2 ⟨h,pairwise_singleton _ _,fun x hx y hy=>?_⟩;rw[mem_singleton.1 hy,aDn];simp only[Bool.not_eq_true,any_eq_false] at hn
    simpa using hn x hx
theorem gK:∀ (a acc:List Cell),(aS acc a).length≤acc.length+a.length
 | [],acc=>by rw[aS];simp
 | d :: a,acc=>by
  rw[aS,length_cons]
  refine Nat.le_trans (gK a _) ?_
  split
  · omega
  · rw[length_append,length_singleton];omega
theorem vG {l m:List Cell} {c:Cell} (h:l.any (fE c)=true):(l++m).findIdx (fE c)=l.findIdx (fE c):=by
 rw[findIdx_append,if_pos];obtain ⟨x,hx,hk⟩:=any_eq_true.1 h
 exact findIdx_lt_length_of_exists ⟨x,hx,hk⟩
theorem aKp {l:List Cell} {c:Cell} (h:l.any (fE c)=false):(l++[c.keyed]).findIdx (fE c)=l.length:=by
 have h1:l.findIdx (fE c)=l.length:=findIdx_eq_length.2 (fun x hx=>by simpa using (any_eq_false.1 h) x hx);rw[findIdx_append,if_neg (by omega)];simp[findIdx_cons,yE,aBg]
def dA (idx σ:List Cell):List Nat:=σ.map fun c=>idx.findIdx (fE c)
theorem aCd (σ:List Cell) (k:Nat) (hk:k<σ.length) :
 dA (aS [] (σ.take (k+1))) (σ.take (k+1))=dA (aS [] (σ.take k)) (σ.take k)++[(aS [] (σ.take (k+1))).findIdx (fE σ[k])]:=by
 have BD:=take_succ_eq_append_getElem hk;unfold dA;rw[BD,map_append]
 congr 1
 refine map_congr_left fun c hc=>?_
 rw[vP]
 split
 · rfl
 · exact vG (yJ _ _ _ (.inl hc))
def kl (c:Cell):Lit:=.string (keyBytes [.int .u64 c.r0,.int .u64 c.r1,.int .u64 c.r2,.int .u64 c.r3,.string c.s.data.toList])
theorem aFw:∃ f0 f1:Field,Tryz.prog.underlying 84=some (.struct #[f0,f1])∧f0.type=33∧f0.offset=0∧f0.name≠ "_"∧f1.type=9∧f1.offset=4∧f1.name≠ "_":=⟨_,_,underlying84,rfl,rfl,by decide,rfl,rfl,by decide⟩
theorem aLz:Tryz.prog.keyType 84=true:=by kernel_rfl
theorem aBh:Tryz.prog.cellsOf 84=5:=by kernel_rfl
theorem aBn:Tryz.prog.cellsOf 33=4:=by kernel_rfl
theorem aGP:Tryz.prog.cellsOf 24=1:=by kernel_rfl
theorem aGn:Tryz.prog.cellsOf 9=1:=by kernel_rfl
theorem aGw:∃ m,Tryz.prog.types.size=m+2:=⟨Tryz.prog.types.size - 2,by kernel_rfl⟩
theorem aBY:Keyed Tryz.prog 84:=Keyed.of_law (deep_law_laid rE (m:=4) (by omega) (of_decide_eq_true (by kernel_rfl)) (by kernel_rfl) (by rw[underlying84]))
theorem aCB {n:Nat} (h:n<18446744073709551616):(Lit.int .u64 n).wf=true:=by
 simp only[Lit.wf,Bool.and_eq_true,decide_eq_true_eq];simp[IntKind.min,IntKind.max,IntKind.signed,IntKind.bits];omega
theorem nZ {c:Cell} (h:c.small):keyOf Tryz.prog 84 (.agg (bV c).toArray)=some (kl c):=by
 obtain ⟨f0,f1,hu,t0,o0,n0,t1,o1,n1⟩:=aFw;obtain ⟨m,hm⟩:=aGw;obtain ⟨h0,h1,h2,h3,h4⟩:=h;have hs:c.s.size≤maxLen:=by unfold maxLen;omega
 have w0:=aCB h0;have w1:=aCB h1;have w2:=aCB h2;have w3:=aCB h3;have hr:Tryz.prog.underlying 33=some (.array 4 24):=underlying33;have hw:Tryz.prog.underlying 24=some (.int .u64):=underlying24;have XC:Tryz.prog.underlying 9=some .string:=underlying9
 have Ag:Tryz.prog.keyLits (m+2) 33 [.int .u64 c.r0,.int .u64 c.r1,.int .u64 c.r2,.int .u64 c.r3]=some [.int .u64 c.r0,.int .u64 c.r1,.int .u64 c.r2,.int .u64 c.r3]:=by
  unfold Program.keyLits;simp only[hr];rw[if_pos (by rw[aBn];rfl),show List.range 4=[0,1,2,3] from rfl];simp[mapM_cons,aGP,Program.keyLits,hw,w0,w1,w2,w3]
 have BD:Tryz.prog.keyLits (m+2) 9 [.string c.s]=some [.string c.s.data.toList]:=by
  unfold Program.keyLits;simp[XC,hs]
 unfold keyOf;simp only[hu];rw[if_pos (by simp[aLz,Value.formed,hu,aBh,bV]),hm];unfold Program.keyLits;simp only[hu,Value.cells];rw[if_pos ⟨by rw[aBh];rfl,by simp[n0,n1]⟩];simp[mapM_cons,t0,t1,o0,o1,aBn,aGn,bV,Ag,BD,kl]
theorem aLF {c d:Cell} (hc:c.small) (hd:d.small):kl c=kl d↔fE c d=true:=by
 constructor
 · intro h
   have hv:=aBY.inj (nZ hc) (h▸nZ hd);simp only[bV,Value.agg.injEq] at hv;have hl:=congrArg Array.toList hv;simp only[List.cons.injEq,Value.int.injEq,true_and,Value.string.injEq,and_true] at hl;obtain ⟨h0,h1,h2,h3,h4⟩:=hl
   exact (lK c d).2 ⟨by omega,by omega,by omega,by omega,h4⟩
 · intro h
   obtain ⟨h0,h1,h2,h3,h4⟩:=(lK c d).1 h;unfold kl;rw[h0,h1,h2,h3,h4]
def aCc (idx:List Cell):DataW Unit:=idx.zipIdx.foldl (fun m ci=>m.put (kl ci.1) (.lit (.int .i64 ci.2))) (.map [])
theorem aBi (idx:List Cell) (c:Cell):aCc (idx++[c])=(aCc idx).put (kl c) (.lit (.int .i64 idx.length)):=by
 unfold aCc;rw[zipIdx_append,foldl_append];simp
theorem vH:∀ (l:List (Cell × Nat)) (D:DataW Unit),IsMap D→IsMap (l.foldl (fun m ci=>m.put (kl ci.1) (.lit (.int .i64 ci.2))) D)
 | [],_,h=>h
 | _ :: l,_,h=>vH l _ (h.put _ _)
theorem yI (idx:List Cell):IsMap (aCc idx):=vH _ _ isMap_empty
theorem aDs (c:Cell):WideAt.IsKeyLit (kl c):=by unfold kl;trivial
theorem aLI {c:Cell} (hc:c.small) (idx:List Cell):(∀ d∈idx,d.small)→xI idx→Maps.has (aCc idx) (kl c)=idx.any (fE c)∧(idx.any (fE c)=true→(aCc idx).atKey (kl c) (.lit (.int .i64 0))=.lit (.int .i64 (idx.findIdx (fE c):Nat))):=by
 refine aMf (P:=fun idx=>(∀ d∈idx,d.small)→xI idx→Maps.has (aCc idx) (kl c)=idx.any (fE c)∧(idx.any (fE c)=true→(aCc idx).atKey (kl c) (.lit (.int .i64 0))=.lit (.int .i64 (idx.findIdx (fE c):Nat)))) (fun _ _=>⟨rfl,fun h=>by simp at h⟩) (fun idx d ih=>?_) idx
 · intro hs ha
   obtain ⟨a1,-,a3⟩:=pairwise_append.1 ha;obtain ⟨i1,i2⟩:=ih (fun x hx=>hs x (by simp[hx])) a1;have hd:=hs d (by simp);rw[aBi,any_append]
   by_cases hk:fE c d=true
   · have e:=(aLF hc hd).2 hk
     rw[e]
     refine ⟨by rw[has_put_same (yI idx) (aDs d)];simp[hk],fun _=>?_⟩;rw[atKey_put_same (yI idx) (aDs d)]
     have hn:idx.any (fE c)=false:=any_eq_false.2 fun x hx=>by
      have h1:=a3 x hx d (by simp);obtain ⟨e0,e1,e2,e3,e4⟩:=(lK c d).1 hk;intro h2;obtain ⟨f0,f1,f2,f3,f4⟩:=(lK c x).1 h2;rw[(lK d x).2 ⟨e0▸f0,e1▸f1,e2▸f2,e3▸f3,e4▸f4⟩] at h1
      cases h1
     have h1:idx.findIdx (fE c)=idx.length:=findIdx_eq_length.2 (fun x hx=>by simpa using (any_eq_false.1 hn) x hx);rw[findIdx_append,if_neg (by omega)];simp[findIdx_cons,hk]
   · have Am:kl c≠kl d:=fun e=>hk ((aLF hc hd).1 e)
     have TN:fE c d=false:=by simpa using hk
     rw[has_put_other Am,atKey_put_other Am]
     refine ⟨by rw[i1];simp[TN],fun h=>?_⟩;have h':idx.any (fE c)=true:=by simpa [TN] using h
     rw[i2 h',vG h']
theorem aLf (w:World):(zeroValue 3).run Tryz.prog w=.ok (.int .i64 0) w:=by kernel_rfl
def iD (w:World) (mb:Nat) (idx:List Cell):Prop:=w.ownsMap Tryz.prog 84 (plainElem (H:=Unit) Tryz.prog 3) mb idx.length (aCc idx)
theorem iD.made (w:World):iD (w.alloc (.map #[] 0)) w.heap.size []:=World.ownsMap_made w _ _ _
theorem iD.fr {w w':World} {mb:Nat} {idx:List Cell} {S:Nat→Prop} (h:iD w mb idx) (hf:Fr S w w') (hn:¬ S mb):iD w' mb idx:=by
 have Ar:=h.lt;obtain ⟨es,clock,hb,F,hs,hD⟩:=h
 exact ⟨es,clock,(hf.block mb Ar hn).trans hb,F,hs,hD⟩
theorem iD.look {w:World} {mb:Nat} {idx:List Cell} (h:iD w mb idx) (hs:∀ d∈idx,d.small) (ha:xI idx) {c:Cell} (hc:c.small) :
 ∃ n:Int,(Instr.lookup 139 (.map (some mb)) (.agg (bV c).toArray) true).run Tryz.prog w=.ok (.tuple #[.int .i64 n,.bool (idx.any (fE c))]) w∧(idx.any (fE c)=true→n=(idx.findIdx (fE c):Nat)):=by
 obtain ⟨v,ps,KT,hv⟩:=World.ownsMap.look_ok h aBY underlying139 (aLf w) (plainElem_int underlying3 (a:=0) (by decide)) (nZ hc);obtain ⟨n,rfl,hn,Rn⟩:=plainElem_int_inv underlying3 hv;obtain ⟨h1,h2⟩:=aLI hc idx hs ha;rw[h1] at KT
 refine ⟨n,KT,fun h=>?_⟩;have:=h2 h;have QZ:=congrArg Prod.fst hn;simp only at QZ;rw[this] at QZ;simp only[DataW.lit.injEq,Lit.int.injEq,true_and] at QZ
 exact QZ.symm
theorem iD.put {w:World} {mb:Nat} {idx:List Cell} (h:iD w mb idx) (hl:idx.length≤2147483648) {c:Cell} (hc:c.small) :
 ∃ w',(Instr.mapUpdate 139 (.map (some mb)) (.agg (bV c).toArray) (.int .i64 idx.length)).run Tryz.prog w=.ok () w'∧iD w' mb (idx++[c.keyed])∧Fr (fun q=>q=mb) w w':=by
 obtain ⟨w',KT,Aa,hg⟩:=World.ownsMap.update h aBY underlying139 (by unfold maxLen;omega) (nZ hc) (plainElem_int underlying3 (a:=idx.length) (by simp only[Lit.wf,Bool.and_eq_true,decide_eq_true_eq];simp[IntKind.min,IntKind.max,IntKind.signed,IntKind.bits];omega))
 refine ⟨w',KT,?_,⟨hg.os,hg.tape,hg.output,hg.size,fun k hk hn=>hg.block k hk (fun e=>hn (Option.some.inj e))⟩⟩;unfold iD;rw[aBi,length_append]
 exact Aa
end Go.Proofs.YtcidlnjpabgioaaGreatDoor
namespace Go.Proofs.YtcidlnjpabgioaaGreatDoor
open Tryz List Go.RowKit
abbrev jW (q:Nat):Value:=.iface 86 (.agg #[.iface 154 (rX q)])
theorem bW (B q:Nat):iH Tryz.prog B 86 (.agg #[.iface 154 (rX q)]) .str [] (jY B q) (jY B q):=uJ (kV B q)
def iJ (B q p:Nat) (w:World) (fp:Nat→Prop) (σ:List Cell):Prop :=
 ∃ v fk,w.heap[p]?=some (.cells #[v,jW q,.int .u8 0,.slice none 0 0,.slice none 0 0,.slice none 0 0,.slice none 0 0,.map none,.slice none 0 0] 142 (0,0))∧w.ownsRow 0 84 5 v σ.length (σ.flatMap bV)∧jY B q w fk [] ∧
  v.ownBlock≠some p∧¬ fk p∧(∀ k,v.ownBlock=some k→¬ fk k)∧(∀ k,fp k↔k=p∨v.ownBlock=some k∨fk k)∧(∀ k,fp k→B≤k)∧(∀ c∈σ,c.small)∧wts σ≤2147483648
theorem iJ.lt {B q p:Nat} {w:World} {fp:Nat→Prop} {σ:List Cell} (h:iJ B q p w fp σ):∀ k,fp k→B≤k∧k<w.heap.size:=by
 obtain ⟨v,fk,hp,Aa,hR,n1,n2,n3,Aj,hB,hs⟩:=h;intro k hk
 refine ⟨hB k hk,?_⟩;rcases (Aj k).1 hk with rfl|hk|hk
 · exact aC hp
 · exact aO Aa hk
 · exact ((bW B q).lo hR k hk).2
theorem iJ.base {B q p:Nat} {w:World} {fp:Nat→Prop} {σ:List Cell} (h:iJ B q p w fp σ):B≤w.heap.size:=by
 have hl:=h.lt;obtain ⟨v,fk,hp,Aa,hR,n1,n2,n3,Aj,hB,hs⟩:=h;have:=hl p ((Aj p).2 (.inl rfl));omega
theorem iJ.aW {B q p:Nat} {w w':World} {fp:Nat→Prop} {σ:List Cell} (h:iJ B q p w fp σ) (hk:∀ k,fp k→w'.heap[k]?=w.heap[k]?):iJ B q p w' fp σ:=by
 obtain ⟨v,fk,hp,Aa,hR,n1,n2,n3,Aj,hB,hs⟩:=h
 refine ⟨v,fk,(hk p ((Aj p).2 (.inl rfl))).trans hp,⟨Aa.1,?_⟩,(bW B q).frame hR (fun k h=>hk k ((Aj k).2 (.inr (.inr h)))),n1,n2,n3,Aj,hB,hs⟩;rcases Aa.2 with h0|⟨g,cap,cur,rfl,hb,GX,rest⟩
 · exact .inl h0
 · exact .inr ⟨g,cap,cur,rfl,hb,(hk g ((Aj g).2 (.inr (.inl rfl)))).trans GX,rest⟩
theorem iJ.grown {B q p:Nat} {w w0 w1:World} {fp fk:Nat→Prop} {σ cs:List Cell} {v v':Value}
 (hp:w.heap[p]?=some (.cells #[v,jW q,.int .u8 0,.slice none 0 0,.slice none 0 0,.slice none 0 0,.slice none 0 0,.map none,.slice none 0 0] 142 (0,0))) (Aa:w.ownsRow 0 84 5 v σ.length (σ.flatMap bV)) (hR:jY B q w fk [])
 (n1:v.ownBlock≠some p) (n2:¬ fk p) (n3:∀ k,v.ownBlock=some k→¬ fk k) (Aj:∀ k,fp k↔k=p∨v.ownBlock=some k∨fk k) (hB:∀ k,fp k→B≤k) (hs:(∀ c∈σ,c.small)∧wts σ≤2147483648) (hc:∀ c∈cs,c.small) (hw:wts (σ++cs)≤2147483648)
 (h0:F0 w w0) (ha:dE w0 w1 84 5 v v' (σ.length+cs.length) (σ.flatMap bV++cs.flatMap bV)) :
 Fr fp w (w1.setCell ⟨p,0,none⟩ v')∧∃ fp',iJ B q p (w1.setCell ⟨p,0,none⟩ v') fp' (σ++cs)∧Grow w fp fp':=by
 have AZ:=aC hp;have II:=h0.size;obtain ⟨h1,h2,h3,h4,h5⟩:=dW (i:=0) hp Aa n1 h0 ha;have Ip:∀ k,fk k→k<w.heap.size:=fun k hk=>((bW B q).lo hR k hk).2
 have ER:B≤p:=hB p ((Aj p).2 (.inl rfl))
 have J6:∀ k,v'.ownBlock=some k→v.ownBlock=some k∨w.heap.size≤k:=fun k hk=>by
  rcases h4 with e|e
  · exact .inl (by rw[← e,hk])
  · rw[e] at hk
    simp only[Option.some.injEq] at hk
    exact .inr (by omega)
 refine ⟨h5.mono (fun k _ h=>(Aj k).2 (h.imp id .inl)),fun k=>k=p∨v'.ownBlock=some k∨fk k,⟨v',fk,h1,?_,(bW B q).frame hR (fun k hk=>h5.block k (Ip k hk) (fun e=>e.elim (fun e=>n2 (e▸hk)) (fun e=>n3 k e hk))),h3,n2,fun k hk h=>?_,fun k=>Iff.rfl,?_,?_,hw⟩,?_⟩
 · rw[length_append,flatMap_append]
   exact h2
 · rcases J6 k hk with h'|h'
   · exact n3 k h' h
   · have:=Ip k h;omega
 · rintro k (rfl|hk|hk)
   · exact ER
   · rcases J6 k hk with h|h
     · exact hB k ((Aj k).2 (.inr (.inl h)))
     · omega
   · exact hB k ((Aj k).2 (.inr (.inr hk)))
 · intro c hx
   rcases mem_append.1 hx with hx|hx
   · exact hs.1 c hx
   · exact hc c hx
 · rintro k (rfl|hk|hk)
   · exact .inl ((Aj k).2 (.inl rfl))
   · exact (J6 k hk).imp (fun h=>(Aj k).2 (.inr (.inl h))) id
   · exact .inl ((Aj k).2 (.inr (.inr hk)))
theorem aLy:ElT Tryz.prog 133 84 (.agg #[.int .u64 0,.int .u64 0,.int .u64 0,.int .u64 0,.string ⟨#[]⟩]) 5 48:=⟨underlying133,info_parts (by kernel_rfl),rfl⟩
theorem aFF (B q p:Nat) (w:World) (fp:Nat→Prop) (σ:List Cell) (h:iJ B q p w fp σ) (c:Cell) (hc:c.small) (hw:wts (σ++[c])≤2147483648) :
 Calls Tryz.prog 207 #[.pointer (some ⟨p,0,none⟩),.agg #[.int .u64 c.r0,.int .u64 c.r1,.int .u64 c.r2,.int .u64 c.r3,.string c.s]] w fun e w'=>e=.returned (.tuple #[])∧Fr fp w w'∧∃ fp',iJ B q p w' fp' (σ++[c])∧Grow w fp fp':=by
 have AC:=h.lt;obtain ⟨v,fk,hp,Aa,hR,n1,n2,n3,Aj,hB,hs⟩:=h;have AA:=bF (σ++[c]);rw[length_append,length_singleton] at AA;obtain ⟨a0,c0,rfl⟩:=ownsRow_shape Aa;go_enter func207,ntmps207
 go_wp2_with fail
 generalize hW:w.alloc _=W;have Af:F0 w W:=by subst hW;exact (Fr.refl _ w).alloc _
 have d0:W.cell? ⟨w.heap.size,0,none⟩=some (.int .u64 c.r0):=by subst hW;rw[aB rfl];rfl
 have d1:W.cell? ⟨w.heap.size,1,none⟩=some (.int .u64 c.r1):=by subst hW;rw[aB rfl];rfl
 have d2:W.cell? ⟨w.heap.size,2,none⟩=some (.int .u64 c.r2):=by subst hW;rw[aB rfl];rfl
 have d3:W.cell? ⟨w.heap.size,3,none⟩=some (.int .u64 c.r3):=by subst hW;rw[aB rfl];rfl
 have d4:W.cell? ⟨w.heap.size,4,none⟩=some (.string c.s):=by subst hW;rw[aB rfl];rfl
 have Ef:=(Af.block p (aC hp) (fun h=>h)).trans hp;have Bi:=Af.owns Aa (fun _ _ h=>h);have ZE:=(bW B q).frame (w':=W) hR (fun k hk=>Af.block k ((bW B q).lo hR k hk).2 (fun h=>h));have BA:W.cell? ⟨p,0,none⟩=some (.slice a0 σ.length c0):=crw Ef rfl;have ZP:∀ o,(W.alloc o).cell? ⟨p,0,none⟩=some (.slice a0 σ.length c0):=fun o=>(((Fr.refl (fun _=>False) W).alloc o).aA BA (fun h=>h))
 clear hW
 go_region_law (refine aK _ rfl ?_;refine dJ _ aLy _ _ rfl _ _ _ rfl (Bi.alloc _) _ _ _ rfl (Src.ofSlice _ underlying133 _ _ _ _ rfl (bG _ [.int .u64 c.r0,.int .u64 c.r1,.int .u64 c.r2,.int .u64 c.r3,.string c.s] _) (by simp[Value.oneCell'])) ?_ ?_ ?_;(unfold maxLen;omega);omega;intro v' w1 ha;obtain ⟨a',c',rfl⟩:=ha.shape;obtain ⟨Iz,I5⟩:=eP Ef n1 (((Fr.refl _ W).alloc _).drew) ha;have s0:w1.cell? ⟨p,0,none⟩=some (.slice a0 σ.length c0):=Iz 0;have g0:=I5 0)
 all_goals
  have Az:=iJ.grown (cs:=[c]) Ef Bi ZE n1 n2 n3 Aj hB hs (by simpa using hc) hw (((Fr.refl _ W).alloc _).drew) ha;go_end0;obtain ⟨h1,fp',h2,h3⟩:=Az
  exact ⟨rfl,(Af.mono (fun _ _ h=>h.elim)).trans h1 (fun _ _ h=>h),fp',h2,fun k hk=>(h3 k hk).imp id (fun h=>Nat.le_trans Af.size h)⟩
theorem aAy (B q p:Nat) (w:World) (fp:Nat→Prop) (σ:List Cell) (h:iJ B q p w fp σ) (cs:List Cell) (hc:∀ c∈cs,c.small) (sv:Value) (Be:Src Tryz.prog 5 133 sv cs.length (cs.flatMap bV) w) (hw:wts (σ++cs)≤2147483648) :
 Calls Tryz.prog 208 #[.pointer (some ⟨p,0,none⟩),sv] w fun e w'=>e=.returned (.tuple #[])∧Fr fp w w'∧∃ fp',iJ B q p w' fp' (σ++cs)∧Grow w fp fp':=by
 have AC:=h.lt;obtain ⟨v,fk,hp,Aa,hR,n1,n2,n3,Aj,hB,hs⟩:=h;have AA:=bF (σ++cs);rw[length_append] at AA;obtain ⟨a0,c0,rfl⟩:=ownsRow_shape Aa;have QO:w.cell? ⟨p,0,none⟩=some (.slice a0 σ.length c0):=crw hp rfl;go_enter func208,ntmps208
 go_wp2_with ((with_reducible show wpList _ _ _ (⟨some 10,_,_,_,_,_⟩ :: _) _ _);(refine aP _ rfl aLy _ _ rfl _ _ _ rfl Aa _ _ _ rfl Be ?_ ?_ ?_);(unfold maxLen;omega);omega;intro v' w1 ha;obtain ⟨a',c',rfl⟩:=ha.shape;obtain ⟨Iz,I5⟩:=eP hp n1 (Fr.refl _ w) ha;have s0:w1.cell? ⟨p,0,none⟩=some (.slice a0 σ.length c0):=Iz 0;have g0:=I5 0)
 go_end0
 exact ⟨rfl,iJ.grown hp Aa hR n1 n2 n3 Aj hB hs hc hw (Fr.refl _ w) ha⟩
theorem aFH (w:World) (B:Nat) (Bd:B≤w.heap.size) (cs:List Cell) (v:Value) (xs:List Value) (hs:Sl B w 8 v cs.length xs) (hc:aI B w cs xs) (hn:cs.length≤2147483648) :
 Calls Tryz.prog 245 #[v,.func (.func 241) #[] #[]] w fun e w'=>∃ tv,e=.returned tv∧w'.ownsRow 0 84 5 tv cs.length (cs.flatMap bV)∧F0 w w':=by
 have CB:=hs;obtain ⟨Dy,ao,cap,rfl,BF,AP,h0,ha⟩:=hs;unfold maxLen at AP;clear ha h0 Dy;go_enter func245,ntmps245;go_wp2
 go_loopw [5,10] (fun tv i wr=>∃ k:Nat,k≤cs.length∧i=.int .i64 k∧wr.ownsRow 0 84 5 tv k ((cs.take k).flatMap bV)∧(∀ q,tv.ownBlock=some q→w.heap.size≤q)∧F0 w wr) (fun _ i _=>cs.length - (intOf i).toNat)
 case atStart=>exact ⟨0,Nat.zero_le _,rfl,World.ownsRow_nil _ _ _ _,by simp[Value.ownBlock],Fr.refl _ _⟩
 case round =>
  obtain ⟨k,hk,rfl,Aa,Ai,Ak⟩:=hrel;have Bf:Below B w wr:=Ak.below Bd (fun _ _ h=>h);obtain ⟨a0,c0,rfl⟩:=ownsRow_shape Aa
  by_cases Ar:k<cs.length
  · obtain ⟨b,off,cap',hv,FT,vs,AQ,Ac⟩:=(CB.below Bf).row (aI.below Bf _ _ hc) Ar
    have Ah:=Lib.hid (bQ bV cs k Ar);generalize cs[k]=c at AQ Ah;obtain ⟨ia,il,ic,ka,kl,kc,rfl,h0,h1,h2,h3,h4⟩:=AQ.open;simp only[Value.slice.injEq] at hv;obtain ⟨rfl,_,rfl⟩:=hv;have d0:=Ac 0 _ rfl;have d1:=Ac 1 _ rfl;have d2:=Ac 2 _ rfl;have d3:=Ac 3 _ rfl;have d4:=Ac 4 _ rfl;have d5:=Ac 5 _ rfl;have d6:=Ac 6 _ rfl;have d7:=Ac 7 _ rfl;simp only[Nat.add_zero] at d0;have BM:F0 w (wr.alloc (.cells #[.int .u64 c.r0,.int .u64 c.r1,.int .u64 c.r2,.int .u64 c.r3,.string c.s,.bool c.null,.slice ia il ic,.slice ka kl kc] 35)):=Ak.alloc _;have EN:=nY (wr.alloc (.cells #[.int .u64 c.r0,.int .u64 c.r1,.int .u64 c.r2,.int .u64 c.r3,.string c.s,.bool c.null,.slice ia il ic,.slice ka kl kc] 35)) c.r0 c.r1 c.r2 c.r3 c.s c.null (.slice ia il ic) (.slice ka kl kc);clear Ac AQ CB hc
    go_wp2_with (first|((with_reducible show wpList _ _ _ (⟨some 17,_,_,_,_,_⟩ :: _) _ _);refine dG _ rfl _ _ _ rfl _ _ rfl (bM.func0 call241 EN) rfl ?_;rintro e w1 ⟨rfl,Ad⟩;refine ⟨_,rfl,?_⟩;have Bv:F0 w w1:=BM.trans Ad (fun _ _ h=>h);have Ba:=Ad.owns ((Fr.refl (fun _=>False) wr).alloc _ |>.owns Aa (fun _ _ h=>h)) (fun _ _ h=>h))|((with_reducible show wpList _ _ _ (⟨some 19,_,_,_,_,_⟩ :: _) _ _);refine aP _ rfl aLy _ _ rfl _ _ _ rfl (Ba.alloc _) _ _ _ rfl (Src.ofSlice _ underlying133 _ _ _ _ rfl (bG _ [.int .u64 c.r0,.int .u64 c.r1,.int .u64 c.r2,.int .u64 c.r3,.string c.s] _) (by simp[Value.oneCell'])) ?_ ?_ ?_;(unfold maxLen;omega);omega;intro v' w2 ha;obtain ⟨a',c',rfl⟩:=ha.shape))
    go_roundw
    case rel=>exact ⟨k+1,by omega,by go_num,by rw[Ah.out];exact ha.1,(ha.since (Bv.alloc _) Ai).1,(ha.since (Bv.alloc _) Ai).2⟩
    case measure=>simp[intOf];omega
  · have Bl:k=cs.length:=by omega
    subst Bl;rw[take_length] at Aa;go_wp2;go_ret
    exact ⟨_,rfl,Aa,Ak⟩
theorem aDo (cs:List Cell):∀ u∈cs.flatMap bV,u.oneCell'=true:=by
 intro u hu;obtain ⟨c,_,hc⟩:=mem_flatMap.1 hu;simp only[bV,mem_cons,not_mem_nil,or_false] at hc;rcases hc with rfl|rfl|rfl|rfl|rfl<;>rfl
theorem aCe (B q p:Nat) (w:World) (fp:Nat→Prop) (σ:List Cell) (h:iJ B q p w fp σ) (c:Cell) (ia:Option Addr) (il ic:Nat) (ka:Option Addr) (kl kc:Nat) (hc:c.small) (hw:wts (σ++[c])≤2147483648) :
 Calls Tryz.prog 242 #[.agg #[.pointer (some ⟨p,0,none⟩)],.agg #[.int .u64 c.r0,.int .u64 c.r1,.int .u64 c.r2,.int .u64 c.r3,.string c.s,.bool c.null,.slice ia il ic,.slice ka kl kc]] w fun e w'=>e=.returned (.tuple #[])∧Fr fp w w'∧∃ fp',iJ B q p w' fp' (σ++[c])∧Grow w fp fp':=by
 have AC:=h.lt;go_enter func242,ntmps242
 go_wp2_with fail
 generalize hW:(w.alloc _).alloc _=W;have Af:F0 w W:=by subst hW;exact ((Fr.refl _ w).alloc _).alloc _
 have d0:W.cell? ⟨w.heap.size,0,none⟩=some (.pointer (some ⟨p,0,none⟩)):=by subst hW;rw[ca (by simp),aB rfl];rfl
 have e0:W.cell? ⟨w.heap.size+1,0,none⟩=some (.int .u64 c.r0):=by subst hW;rw[aB (by simp)];rfl
 have e1:W.cell? ⟨w.heap.size+1,1,none⟩=some (.int .u64 c.r1):=by subst hW;rw[aB (by simp)];rfl
 have e2:W.cell? ⟨w.heap.size+1,2,none⟩=some (.int .u64 c.r2):=by subst hW;rw[aB (by simp)];rfl
 have e3:W.cell? ⟨w.heap.size+1,3,none⟩=some (.int .u64 c.r3):=by subst hW;rw[aB (by simp)];rfl
 have e4:W.cell? ⟨w.heap.size+1,4,none⟩=some (.string c.s):=by subst hW;rw[aB (by simp)];rfl
 have e5:W.cell? ⟨w.heap.size+1,5,none⟩=some (.bool c.null):=by subst hW;rw[aB (by simp)];rfl
 have e6:W.cell? ⟨w.heap.size+1,6,none⟩=some (.slice ia il ic):=by subst hW;rw[aB (by simp)];rfl
 have e7:W.cell? ⟨w.heap.size+1,7,none⟩=some (.slice ka kl kc):=by subst hW;rw[aB (by simp)];rfl
 have hN:¬ fp w.heap.size:=fun h=>by have:=AC _ h;omega
 have AU:¬ fp (w.heap.size+1):=fun h=>by have:=AC _ h;omega
 clear hW
 go_region_held3 (fun w'=>w'.cell? ⟨w.heap.size,0,none⟩=some (.pointer (some ⟨p,0,none⟩))∧w'.cell? ⟨w.heap.size+1,0,none⟩=some (.int .u64 c.r0)∧w'.cell? ⟨w.heap.size+1,1,none⟩=some (.int .u64 c.r1)∧w'.cell? ⟨w.heap.size+1,2,none⟩=some (.int .u64 c.r2)∧w'.cell? ⟨w.heap.size+1,3,none⟩=some (.int .u64 c.r3)∧w'.cell? ⟨w.heap.size+1,4,none⟩=some (.string c.s)∧w'.cell? ⟨w.heap.size+1,5,none⟩=some (.bool c.null)∧w'.cell? ⟨w.heap.size+1,6,none⟩=some (.slice ia il ic)∧w'.cell? ⟨w.heap.size+1,7,none⟩=some (.slice ka kl kc))
  (first
   | exact ⟨d0,e0,e1,e2,e3,e4,e5,e6,e7⟩
   | exact ⟨Ae.aA (Ad.aH.aA d0 (fun h=>h)) hN,Ae.aA (Ad.aH.aA e0 (fun h=>h)) AU,Ae.aA (Ad.aH.aA e1 (fun h=>h)) AU,Ae.aA (Ad.aH.aA e2 (fun h=>h)) AU,Ae.aA (Ad.aH.aA e3 (fun h=>h)) AU,Ae.aA (Ad.aH.aA e4 (fun h=>h)) AU,Ae.aA (Ad.aH.aA e5 (fun h=>h)) AU,Ae.aA (Ad.aH.aA e6 (fun h=>h)) AU,Ae.aA (Ad.aH.aA e7 (fun h=>h)) AU⟩
   | exact ⟨Ad.aH.aA d0 (fun h=>h),Ad.aH.aA e0 (fun h=>h),Ad.aH.aA e1 (fun h=>h),Ad.aH.aA e2 (fun h=>h),Ad.aH.aA e3 (fun h=>h),Ad.aH.aA e4 (fun h=>h),Ad.aH.aA e5 (fun h=>h),Ad.aH.aA e6 (fun h=>h),Ad.aH.aA e7 (fun h=>h)⟩
   | assumption)
  (first
   | (go_at_call 241;refine (nY _ c.r0 c.r1 c.r2 c.r3 c.s c.null (.slice ia il ic) (.slice ka kl kc)).mono ?_;rintro e w1 ⟨rfl,Ad⟩)
   | (go_at_call 207;refine (aFF B q p _ fp σ (h.aW fun k hk=>(Af.trans Ad.aH (fun _ _ h=>h)).block k (AC k hk).2 (fun h=>h)) c hc hw).mono ?_;rintro e w2 ⟨rfl,Ae,BV⟩))
 all_goals
  go_end0;obtain ⟨fp',h1,h2⟩:=BV;have BN:=(Af.trans Ad.aH (fun _ _ h=>h)).size
  exact ⟨rfl,((Af.trans Ad.aH (fun _ _ h=>h)).mono (fun _ _ h=>h.elim)).trans Ae (fun _ _ h=>h),fp',h1,fun k hk=>(h2 k hk).imp id (fun h=>by omega)⟩
theorem wR (B q p:Nat) (w:World) (fp:Nat→Prop) (σ:List Cell) (h:iJ B q p w fp σ) (cs:List Cell) (v:Value) (ys:List Value) (hs:Sl B w 8 v cs.length ys) (A8:aI B w cs ys) (hw:wts (σ++cs)≤2147483648) :
 Calls Tryz.prog 243 #[.agg #[.pointer (some ⟨p,0,none⟩)],v] w fun e w'=>e=.returned (.tuple #[])∧Fr fp w w'∧∃ fp',iJ B q p w' fp' (σ++cs)∧Grow w fp fp':=by
 have AC:=h.lt;have Bd:=h.base;have CE:=aI.small A8
 have hn:cs.length≤2147483648:=by
  have:=bF (σ++cs);rw[length_append] at this;omega
 go_enter func243,ntmps243
 go_wp2_with fail
 generalize hW:w.alloc _=W;have Af:F0 w W:=by subst hW;exact (Fr.refl _ w).alloc _
 have d0:W.cell? ⟨w.heap.size,0,none⟩=some (.pointer (some ⟨p,0,none⟩)):=by subst hW;rw[aB rfl];rfl
 have hN:¬ fp w.heap.size:=fun h=>by have:=AC _ h;omega
 have D6:=hs.fr Bd Af;have Cf:=aI.below (Af.below Bd (fun _ _ h=>h)) _ _ A8;have CZ:B≤W.heap.size:=Nat.le_trans Bd Af.size;have EX:=D6.fr CZ (Fr.refl (fun _=>False) W).drew;have Ce:=aI.below ((Below.refl B W).drew) _ _ Cf;clear hW hs A8
 go_region_held3 (fun w'=>w'.cell? ⟨w.heap.size,0,none⟩=some (.pointer (some ⟨p,0,none⟩)))
  (first
   | exact d0
   | exact Ae.aA (Ad.aH.aA d0 (fun h=>h)) hN
   | exact Ad.aH.aA d0 (fun h=>h)
   | assumption)
  (first
   | (go_at_call 245;refine (aFH W.drew B CZ cs v ys EX Ce hn).mono ?_;rintro e w1 ⟨tv,rfl,Aa,Ad⟩)
   | (go_at_call 208;refine (aAy B q p _ fp σ (h.aW fun k hk=>(Af.trans Ad.aH (fun _ _ h=>h)).block k (AC k hk).2 (fun h=>h)) cs CE tv (Src.kC underlying133 Aa (aDo cs)) hw).mono ?_;rintro e w2 ⟨rfl,Ae,BV⟩))
 all_goals
  go_end0;obtain ⟨fp',h1,h2⟩:=BV;have BN:=(Af.trans Ad.aH (fun _ _ h=>h)).size
  exact ⟨rfl,((Af.trans Ad.aH (fun _ _ h=>h)).mono (fun _ _ h=>h.elim)).trans Ae (fun _ _ h=>h),fp',h1,fun k hk=>(h2 k hk).imp id (fun h=>by omega)⟩
end Go.Proofs.YtcidlnjpabgioaaGreatDoor
