import Derived.Test.YtcidlnjpabgioaaGreatDoorUGByte
set_option maxHeartbeats 4000000
set_option maxRecDepth 100000
namespace Go.Proofs.YtcidlnjpabgioaaGreatDoor
open Tryz List Go.RowKit
def Ty.kids:Ty→List Ty
 | .nul t|.arr t=>[t]
 | .low=>[.str]
 | .map k v=>[k,v]
 | .tup ts=>ts
 | _=>[]
theorem Ty.aLM (T:Ty):T.lt=.mk T.nm T.sz (T.kids.map Ty.lt):=by
 cases T<;>simp[Ty.lt,Ty.nm,Ty.sz,Ty.kids,aHq]
def pre (nm:List UInt8):List (List UInt8)→List UInt8
 | []=>nm
 | l :: r=>nm++[40]++l++r.flatMap fun x=>[44,32]++x
theorem zA (nm x:List UInt8):∀ ls:List (List UInt8),pre nm (ls++[x])=(if ls=[] then nm++[40] else pre nm ls++[44,32])++x
 | []=>by simp[pre]
 | l :: r=>by simp[pre]
theorem texts_eq:∀ (ts:List Ty),ts≠[]→∀ nm:List UInt8,nm++[40]++texts ts=pre nm (ts.map text)
 | [],h,_=>absurd rfl h
 | [t],_,nm=>by simp[texts,pre]
 | t :: t' :: ts,_,nm=>by
  have h:=texts_eq (t' :: ts) (by simp) (nm++[40]++text t++[44]);rw[texts];simp only[map_cons,pre,flatMap_cons] at h ⊢;simp only[append_assoc] at h ⊢;have e:∀ a b:List UInt8,nm++([40]++(text t++([44]++([40]++a))))=nm++([40]++(text t++([44]++([40]++b))))→a=b:=fun a b h=>by simpa using h
  have:=e _ _ (by simpa using h);simp[this]
theorem text_eq (T:Ty) (hf:T.fine) (h:∀ n,T≠.fix n):text T=pre T.nm (T.kids.map text)++(if T.kids=[] then [] else [41]):=by
 cases T with
 | fix n=>exact absurd rfl (h n)
 | num k=>simp[text,Ty.nm,Ty.kids,pre]
 | str=>simp[text,Ty.nm,Ty.kids,pre]
 | nul t=>simp[text,Ty.nm,Ty.kids,pre]
 | low=>simp[text,Ty.nm,Ty.kids,pre]
 | arr t=>simp[text,Ty.nm,Ty.kids,pre]
 | map k v=>simp[text,Ty.nm,Ty.kids,pre]
 | tup ts =>
  rw[Ty.fine] at hf;rw[text,texts_eq ts hf.1];simp[Ty.nm,Ty.kids,hf.1]
theorem Sl.row3 {B:Nat} {w:World} {v:Value} {ts:List LT} {xs:List Value} (h:Sl B w 3 v ts.length xs) (hc:dZ B w ts xs) {k:Nat} (hk:k<ts.length) :
 ∃ b off cap,v=.slice (some ⟨b,off,none⟩) ts.length cap∧b<B∧∃ vs,jK B w ts[k] vs∧∀ j u,vs[j]?=some u→w.cell? ⟨b,off+k*3+j,none⟩=some u:=by
 obtain ⟨Dy,ao,cap,rfl,BF,AP,h0,ha⟩:=h
 cases ao with
 | none=>have:=h0 rfl;omega
 | some ad =>
  obtain ⟨hb,G8,Ac⟩:=ha ad rfl;obtain ⟨b,off,sp⟩:=ad;simp only at G8 hb;subst G8
  refine ⟨b,off,cap,rfl,hb,_,hc.at k ts[k] (by simp[hk]),fun j u hj=>?_⟩;rw[getElem?_take,getElem?_drop] at hj
  split at hj
  · have:=Ac _ _ hj
    rw[Addr.add_lit] at this;rw[Nat.add_assoc]
    exact this
  · cases hj
theorem jK.open {B:Nat} {w:World} {T:Ty} {vs:List Value} (h:jK B w T.lt vs):∃ (a:Option Addr) (c:Nat) (ixs:List Value),vs=[.string (bJ T.nm),.int .i64 T.sz,.slice a T.kids.length c]∧Sl B w 3 (.slice a T.kids.length c) (T.kids.map Ty.lt).length ixs∧dZ B w (T.kids.map Ty.lt) ixs:=by
 rw[Ty.aLM] at h;unfold jK at h;obtain ⟨ov,ixs,rfl,h1,h2⟩:=h;have YV:=h1;obtain ⟨_,a,c,rfl,_⟩:=YV;rw[length_map] at h1
 exact ⟨a,c,ixs,by rw[length_map],by rw[length_map];exact h1,h2⟩
def tN (T:Ty):Prop:=∀ (B:Nat) (w:World) (vs:List Value),jK B w T.lt vs→B≤w.heap.size→(text T).length≤900000 →
 Calls Tryz.prog 11 #[.agg vs.toArray] w fun e w'=>e=.returned (.string (bJ (text T)))∧F0 w w'
theorem aMo (n:Nat) (hn:n<100):tN (.fix n):=by
 intro B w vs h hB hl;obtain ⟨a,c,ixs,rfl,-,-⟩:=h.open;have e:text (.fix n)=[70,105,120,101,100,83,116,114,105,110,103,40]++digits n++[41]:=by rw[text];simp
 have hd:=fun W=>aEJ n hn W
 rw[e] at hl ⊢;have BN:(bJ (digits n)).size≤900000:=by rw[gW];simp at hl;omega
 have RV:(⟨#[70,105,120,101,100,83,116,114,105,110,103,40]⟩:ByteArray)++bJ (digits n)++⟨#[41]⟩=bJ ([70,105,120,101,100,83,116,114,105,110,103,40]++digits n++[41]):=by
  rw[show (⟨#[70,105,120,101,100,83,116,114,105,110,103,40]⟩:ByteArray)=bJ [70,105,120,101,100,83,116,114,105,110,103,40] from rfl,show (⟨#[41]⟩:ByteArray)=bJ [41] from rfl,fK,fK]
 rw[← RV];clear RV e hl;have He:(bJ (Ty.fix n).nm).toList=[70,105,120,101,100,83,116,114,105,110,103]:=cZ _;generalize bJ (digits n)=s at hd BN;generalize bJ (Ty.fix n).nm=nm at He;have DX:(Ty.fix n).sz=n:=rfl;rw[DX];go_enter func11,ntmps11
 go_wp2_with (go_at_call 25;refine (hd _).mono ?_;rintro e w2 ⟨rfl,hf⟩)
 go_ret
 exact ⟨rfl,((Fr.refl _ w).alloc _).trans hf (fun _ _ h=>h)⟩
theorem aGe (nm:List UInt8) (ls:List (List UInt8)) (k:Nat):(pre nm (ls.take k)).length≤(pre nm ls).length:=by
 cases ls with
 | nil=>simp
 | cons l r =>
  cases k with
  | zero=>simp[pre]
  | succ k =>
   have h:((r.take k).flatMap fun x=>[44,32]++x).length≤(r.flatMap fun x=>[44,32]++x).length:=by
    conv=>rhs;rw[← take_append_drop k r,flatMap_append,length_append]
    omega
   simp[pre] at h ⊢;omega
theorem jP (T:Ty) (hf:T.fine) (QR:∀ n,T≠.fix n) (D7:∀ t∈T.kids,tN t):tN T:=by
 intro B w vs h hB hl;obtain ⟨a,c,ixs,rfl,hs,EQ⟩:=h.open;rw[text_eq T hf QR] at hl ⊢
 have Xu:¬ (bJ T.nm).toList=[70,105,120,101,100,83,116,114,105,110,103]:=by
  rw[cZ]
  cases T<;>first|exact absurd rfl (QR _)|(simp[Ty.nm,Num.name];done)|(rename_i k;cases k<;>simp[Ty.nm,Num.name])
 have II:=hs;obtain ⟨-,_,_,hv,BF,AP,-,-⟩:=II;simp only[Value.slice.injEq] at hv;obtain ⟨rfl,-,rfl⟩:=hv;rw[length_map] at BF;unfold maxLen at AP;obtain ⟨LS,Hw⟩:∃ LS,Hid (LS=T.kids.map text):=⟨_,Lib.hid rfl⟩;rw[← Hw.out] at hl ⊢;have Ik:Hid (LS.length=T.kids.length):=Lib.hid (by rw[Hw.out,length_map]);have AZ:=aGe T.nm LS;have J3:(if T.kids=[] then ([]:List UInt8) else [41])=if LS=[] then [] else [41]:=by rw[Hw.out];simp
 rw[J3] at hl ⊢;rw[length_append] at hl;obtain ⟨KL,VO⟩:∃ KL,Hid (KL=T.kids):=⟨_,Lib.hid rfl⟩;rw[← VO.out] at hs EQ D7 BF ⊢;rw[← VO.out] at Hw Ik;obtain ⟨P,hP⟩:∃ P:Nat→ByteArray,Hid (∀ k,P k=bJ (pre T.nm (LS.take k))):=⟨_,Lib.hid fun k=>rfl⟩;have UZ:∀ k,(P k).size≤900000:=fun k=>by rw[hP.out,gW];have:=AZ k;omega
 have EL:bJ T.nm=P 0:=by rw[hP.out];simp[pre]
 have Ah:Hid (∀ k t,LS[k]?=some t→(k=0→P k++(⟨#[40]⟩:ByteArray)++bJ t=P (k+1))∧(k≠0→P k++(⟨#[44,32]⟩:ByteArray)++bJ t=P (k+1))):=Lib.hid fun k t ht=>by
  have Ar:k<LS.length:=(List.getElem?_eq_some_iff.1 ht).1;have Rl:LS.take (k+1)=LS.take k++[t]:=by rw[take_add_one,ht];rfl
  refine ⟨fun h0=>?_,fun h0=>?_⟩
  · subst h0
    rw[hP.out,hP.out,show (⟨#[40]⟩:ByteArray)=bJ [40] from rfl,fK,fK,Rl,zA];simp[pre]
  · rw[hP.out,hP.out,show (⟨#[44,32]⟩:ByteArray)=bJ [44,32] from rfl,fK,fK,Rl,zA,if_neg (by
     intro h;have:=congrArg List.length h;simp only[length_take,length_nil] at this
     omega)]
 have FU:Hid (bJ (pre T.nm LS++if LS=[] then [] else [41])=if LS.length=0 then P 0 else P LS.length++(⟨#[41]⟩:ByteArray)):=Lib.hid (by
  rw[hP.out,hP.out,show (⟨#[41]⟩:ByteArray)=bJ [41] from rfl,fK,take_length]
  cases LS with
  | nil=>simp[pre]
  | cons=>simp)
 have DX:∀ k t,LS[k]?=some t→(bJ t).size≤900000:=fun k t ht=>by
  have h1:(pre T.nm (LS.take (k+1))).length≤900000:=by have:=AZ (k+1);omega
  have Rl:LS.take (k+1)=LS.take k++[t]:=by rw[take_add_one,ht];rfl
  rw[Rl,zA,length_append] at h1;rw[gW];omega
 obtain ⟨FIN,NP⟩:∃ FIN,Hid (FIN=bJ (pre T.nm LS++if LS=[] then [] else [41])):=⟨_,Lib.hid rfl⟩;rw[FU.out] at NP;rw[FU.out,← NP.out];rw[EL] at Xu ⊢;have iy:((P 0).toList == [70,105,120,101,100,83,116,114,105,110,103])=false:=by simpa using Xu
 clear hl AZ EL Xu hP FU J3 h VO;go_enter func11,ntmps11;go_wp2;generalize hW:w.alloc _=W;have Aw:F0 w W:=by subst hW;exact (Fr.refl _ w).alloc _
 have d2:W.cell? ⟨w.heap.size,2,none⟩=some (.slice a KL.length c):=by subst hW;rw[aB rfl];rfl
 have D6:=hs.below (Aw.below hB (fun _ _ h=>h));have UB:=dZ.below (Aw.below hB (fun _ _ h=>h)) _ _ EQ;have CZ:B≤W.heap.size:=Nat.le_trans hB Aw.size;clear hW hs EQ
 go_loopw [3,19] (fun s i wr=>∃ k:Nat,k≤KL.length∧i=.int .i64 k∧s=.string (P k)∧F0 W wr) (fun _ i _=>KL.length - (intOf i).toNat)
 case atStart=>exact ⟨0,Nat.zero_le _,rfl,rfl,Fr.refl _ _⟩
 case round =>
  obtain ⟨k,hk,rfl,rfl,Ak⟩:=hrel;have Bf:Below B W wr:=Ak.below CZ (fun _ _ h=>h)
  by_cases Ar:k<KL.length
  · obtain ⟨b,off,cap',hv,FT,vs,AQ,Ac⟩:=(D6.below Bf).row3 (dZ.below Bf _ _ UB) (k:=k) (by simpa using Ar)
    simp only[Value.slice.injEq] at hv;obtain ⟨rfl,-,rfl⟩:=hv;rw[getElem_map] at AQ;have Dj:KL[k]∈KL:=getElem_mem _;have Ij:LS[k]?=some (text KL[k]):=by rw[Hw.out,getElem?_map,getElem?_eq_getElem Ar];rfl
    generalize KL[k]=tk at AQ Dj Ij;have BD:=Lib.hid (Ah.out k _ Ij);have Q3:=DX k _ Ij;have XE:(text tk).length≤900000:=by rw[← gW];exact Q3
    have ZB:=UZ k;obtain ⟨a',c',ixs',rfl,-,-⟩:=AQ.open;have c0:=Ac 0 _ rfl;have c1:=Ac 1 _ rfl;have c2:=Ac 2 _ rfl;simp only[Nat.add_zero] at c0;have Bg:=fun W' (hb:Below B wr W')=>D7 tk Dj B W' _ (jK.below hb _ _ AQ) (Nat.le_trans CZ (Nat.le_trans Ak.size hb.size)) XE
    generalize bJ (text tk)=st at BD Q3 Bg;clear Ac AQ Ij Dj DX UZ
    by_cases h0:k=0
    · have FH:=Lib.hid (BD.out.1 h0)
      have Jz:((k:Int) == 0)=true:=by simp[h0]
      clear BD h0
      go_wp2_with (go_at_call 11;refine (Bg _ (((Below.refl B wr)).alloc (Nat.le_trans CZ Ak.size) _)).mono ?_;rintro e w2 ⟨rfl,hf⟩)
      go_roundw
      case rel=>exact ⟨k+1,by omega,by go_num,by rw[FH.out],(Ak.alloc _).trans hf (fun _ _ h=>h)⟩
      case measure=>simp[intOf];omega
    · have FH:=Lib.hid (BD.out.2 h0)
      have Jz:((k:Int) == 0)=false:=by simpa using h0
      clear BD h0
      go_wp2_with (go_at_call 11;refine (Bg _ (((Below.refl B wr)).alloc (Nat.le_trans CZ Ak.size) _)).mono ?_;rintro e w2 ⟨rfl,hf⟩)
      go_roundw
      case rel=>exact ⟨k+1,by omega,by go_num,by rw[FH.out],(Ak.alloc _).trans hf (fun _ _ h=>h)⟩
      case measure=>simp[intOf];omega
  · have Bl:k=KL.length:=by omega
    subst Bl;have d2':=Ak.aA d2 (fun h=>h);have ZB:=UZ KL.length;have Py:=Ik.out;clear D6 UB Ah UZ DX d2 D7 Bf
    by_cases h0:0<KL.length
    · have hi:FIN=P KL.length++(⟨#[41]⟩:ByteArray):=by rw[NP.out,if_neg (by omega),Py]
      have WU:=Lib.hid hi;have Pv:(0:Int)<KL.length:=by omega
      clear hi Py;go_wp2;go_ret
      exact ⟨by rw[WU.out];rfl,Aw.trans Ak (fun _ _ h=>h)⟩
    · have NH:KL.length=0:=by omega
      have hi:FIN=P KL.length:=by rw[NP.out,if_pos (by omega),NH]
      have WU:=Lib.hid hi;have Pv:¬ (0:Int)<KL.length:=by omega
      clear hi Py NH;go_wp2;go_ret
      exact ⟨by rw[WU.out];rfl,Aw.trans Ak (fun _ _ h=>h)⟩
theorem pO (T:Ty) (h:T.dU):tN T:=by
 cases T with
 | fix n=>exact aMo n (by have:n=5∨n=16:=h;omega)
 | num k=>exact jP _ trivial (by simp) (by simp[Ty.kids])
 | str=>exact jP _ trivial (by simp) (by simp[Ty.kids])
 | _=>exact h.elim
def Cell.fM (c:Cell):List Value:=[.int .u64 c.r0,.int .u64 c.r1,.int .u64 c.r2,.int .u64 c.r3,.string c.s,.bool c.null,.slice none 0 0,.slice none 0 0]
def Flat:Ty→Cell→Prop
 | .num k,c=>c.s=⟨#[]⟩∧c.null=false∧c.items=[]∧c.keys=[]∧c.r0<256 ^ min 8 k.size∧c.r1<256 ^ min 8 (k.size - 8)∧c.r2<256 ^ min 8 (k.size - 16)∧c.r3<256 ^ min 8 (k.size - 24)
 | .str,c=>c.s.size≤4∧c.null=false∧c.items=[]∧c.keys=[]∧c.r0=0∧c.r1=0∧c.r2=0∧c.r3=0
 | .fix n,c=>c.s.size=n∧c.null=false∧c.items=[]∧c.keys=[]∧c.r0=0∧c.r1=0∧c.r2=0∧c.r3=0
 | _,_=>False
def kM (T:Ty):Prop:=∀ (B:Nat) (w:World) (p:Nat),bT B w p→p<w.heap.size →
 Calls Tryz.prog 9 #[.pointer (some ⟨p,0,none⟩),.agg T.cells3.toArray] w fun e w'=>∃ c,Flat T c∧e=.returned (.agg c.fM.toArray)∧bT B w' p∧Fr (fun q=>q=p) w w'
def cO (r0 r1 r2 r3:Int) (s:ByteArray):Array Value:=#[.int .u64 r0,.int .u64 r1,.int .u64 r2,.int .u64 r3,.string s,.bool false,.slice none 0 0,.slice none 0 0]
theorem letter (b:Nat):∃ c:UInt8,(97:Int)+(b:Int) % 6=c.toNat:=⟨(97+b % 6).toUInt8,by simp[Nat.toUInt8,UInt8.toNat_ofNat'];omega⟩
theorem aJl {wr w2:World} {p X b:Nat} {s:ByteArray} (hp:X≠p) (Ag:wr.heap[X]?=some (.cells (cO 0 0 0 0 s) 35 (0,0))) (hf:Fr (fun q=>q=p) wr w2) (_hb:b<256) (hs:s.size≤4) :
 ∃ (c:ByteArray),c.size=1∧¬ (9223372036854775807<s.size+c.size)∧(b:Int).tmod 6=(b:Int) % 6∧IntKind.i64.wrap (97+(b:Int) % 6)=97+(b:Int) % 6∧IntKind.u8.wrap (97+(b:Int) % 6)=97+(b:Int) % 6 ∧
  (convert 22 9 (.slice (some ⟨w2.heap.size,0,none⟩) 1 1)).run Tryz.prog (w2.alloc (.cells #[.int .u8 (97+(b:Int) % 6)] 5))=.ok (.string c) (w2.alloc (.cells #[.int .u8 (97+(b:Int) % 6)] 5)) ∧
  w2.heap[X]?=some (.cells (cO 0 0 0 0 s) 35 (0,0))∧w2.cell? ⟨X,4,none⟩=some (.string s)∧(∀ o,(w2.alloc o).cell? ⟨X,4,none⟩=some (.string s))∧∀ o,(w2.alloc o).frozen? ⟨X,4,none⟩=false:=by
 obtain ⟨c,hc⟩:=letter b;have BI:=(hf.block X (aC Ag) hp).trans Ag
 refine ⟨bJ [c],gW [c],by rw[gW];simp;omega,Int.tmod_eq_emod_of_nonneg (by omega),by rw[IntKind.wrap_i64];omega,by rw[IntKind.wrap_u8'];omega,qI w2 _ c hc,BI,crw BI rfl,fun o=>?_,fun o=>?_⟩
 · rw[ca (aC BI),cell_of_row _ _ _ _ _ _ BI];rfl
 · rw[World.frozen?_alloc_old _ _ _ (Nat.ne_of_lt (aC BI))];exact fzj _ BI
theorem nX {w:World} {X:Nat} {r0 r1 r2 r3:Int} {s:ByteArray} (h:w.heap[X]?=some (.cells (cO r0 r1 r2 r3 s) 35 (0,0))) (x:ByteArray):(w.setCell ⟨X,4,none⟩ (.string x)).heap[X]?=some (.cells (cO r0 r1 r2 r3 x) 35 (0,0)):=by
 simp[World.setCell,Array.getElem?_modify,h,cO]
structure mV (w W:World) (a:Array Value):Prop where
 box:W.heap[w.heap.size]?=some (.cells a 29 (0,0))
 fr:F0 w W
 size:W.heap.size=w.heap.size+3
 res:W.heap[w.heap.size+1]?=some (.cells (cO 0 0 0 0 ⟨#[]⟩) 35 (0,0))
 row:W.heap[w.heap.size+1+1]?=some (.cells (cO 0 0 0 0 ⟨#[]⟩) 35 (0,0))
theorem mV.of (w:World) (a:Array Value):mV w (((w.alloc (.cells a 29)).alloc (.cells (cO 0 0 0 0 ⟨#[]⟩) 35)).alloc (.cells (cO 0 0 0 0 ⟨#[]⟩) 35)) a where
 box:=by rw[Below.heap_alloc _ _ _ (by simp;omega),Below.heap_alloc _ _ _ (by simp)];exact heap_alloc_new w _
 fr:=(((Fr.refl _ w).alloc _).alloc _).alloc _
 size:=by simp
 res:=by rw[Below.heap_alloc _ _ _ (by simp)];exact kP (by simp)
 row:=kP (by simp)
theorem aCp {w W wr:World} {a:Array Value} (hW:mV w W a) {p:Nat} (CW:p<w.heap.size) (Ak:Fr (fun q=>q=p∨q=w.heap.size+1+1) W wr):wr.heap[w.heap.size+1]?=some (.cells (cO 0 0 0 0 ⟨#[]⟩) 35 (0,0)) :=
 (Ak.block _ (by rw[hW.size];omega) (by show ¬ (w.heap.size+1=p∨w.heap.size+1=w.heap.size+1+1);omega)).trans hW.res
def lN:Cell:=.mk 0 0 0 0 ⟨#[]⟩ true [] []
theorem aCo {w wr:World} (S:Nat→Prop) (hS:S (w.heap.size+1)) (a b c d e f g h:Value):Fr S wr ((((((((wr.setCell ⟨w.heap.size+1,0,none⟩ a).setCell ⟨w.heap.size+1,1,none⟩ b).setCell ⟨w.heap.size+1,2,none⟩ c).setCell ⟨w.heap.size+1,3,none⟩ d).setCell ⟨w.heap.size+1,4,none⟩ e).setCell ⟨w.heap.size+1,5,none⟩ f).setCell ⟨w.heap.size+1,6,none⟩ g).setCell ⟨w.heap.size+1,7,none⟩ h) :=
 ((((((((Fr.refl S wr).setCell (.inl hS) _).setCell (.inl hS) _).setCell (.inl hS) _).setCell (.inl hS) _).setCell (.inl hS) _).setCell (.inl hS) _).setCell (.inl hS) _).setCell (.inl hS) _
theorem zC {w wr:World} {S:Nat→Prop} (hf:Fr S w wr) (a b c d e f g h:Value):Fr S w ((((((((wr.setCell ⟨w.heap.size+1,0,none⟩ a).setCell ⟨w.heap.size+1,1,none⟩ b).setCell ⟨w.heap.size+1,2,none⟩ c).setCell ⟨w.heap.size+1,3,none⟩ d).setCell ⟨w.heap.size+1,4,none⟩ e).setCell ⟨w.heap.size+1,5,none⟩ f).setCell ⟨w.heap.size+1,6,none⟩ g).setCell ⟨w.heap.size+1,7,none⟩ h) :=
 ((((((((hf).setCell (.inr (by show w.heap.size≤w.heap.size+1;omega)) _).setCell (.inr (by show w.heap.size≤w.heap.size+1;omega)) _).setCell (.inr (by show w.heap.size≤w.heap.size+1;omega)) _).setCell (.inr (by show w.heap.size≤w.heap.size+1;omega)) _).setCell (.inr (by show w.heap.size≤w.heap.size+1;omega)) _).setCell (.inr (by show w.heap.size≤w.heap.size+1;omega)) _).setCell (.inr (by show w.heap.size≤w.heap.size+1;omega)) _).setCell (.inr (by show w.heap.size≤w.heap.size+1;omega)) _
structure pY (w wr:World):Prop where
 g0:wr.cell? ⟨w.heap.size+1,0,none⟩=some (.int .u64 0)
 g1:wr.cell? ⟨w.heap.size+1,1,none⟩=some (.int .u64 0)
 g2:wr.cell? ⟨w.heap.size+1,2,none⟩=some (.int .u64 0)
 g3:wr.cell? ⟨w.heap.size+1,3,none⟩=some (.int .u64 0)
 g4:wr.cell? ⟨w.heap.size+1,4,none⟩=some (.string ⟨#[]⟩)
 g5:wr.cell? ⟨w.heap.size+1,5,none⟩=some (.bool false)
 g6:wr.cell? ⟨w.heap.size+1,6,none⟩=some (.slice none 0 0)
 g7:wr.cell? ⟨w.heap.size+1,7,none⟩=some (.slice none 0 0)
 z0:wr.frozen? ⟨w.heap.size+1,0,none⟩=false
 z1:wr.frozen? ⟨w.heap.size+1,1,none⟩=false
 z2:wr.frozen? ⟨w.heap.size+1,2,none⟩=false
 z3:wr.frozen? ⟨w.heap.size+1,3,none⟩=false
 z4:wr.frozen? ⟨w.heap.size+1,4,none⟩=false
 z5:wr.frozen? ⟨w.heap.size+1,5,none⟩=false
 z6:wr.frozen? ⟨w.heap.size+1,6,none⟩=false
 z7:wr.frozen? ⟨w.heap.size+1,7,none⟩=false
theorem pY.of {w wr:World} (Az:wr.heap[w.heap.size+1]?=some (.cells (cO 0 0 0 0 ⟨#[]⟩) 35 (0,0))):pY w wr where
 g0:=crw Az rfl
 g1:=crw Az rfl
 g2:=crw Az rfl
 g3:=crw Az rfl
 g4:=crw Az rfl
 g5:=crw Az rfl
 g6:=crw Az rfl
 g7:=crw Az rfl
 z0:=fzj _ Az
 z1:=fzj _ Az
 z2:=fzj _ Az
 z3:=fzj _ Az
 z4:=fzj _ Az
 z5:=fzj _ Az
 z6:=fzj _ Az
 z7:=fzj _ Az
theorem aKj (T:Ty) (hT:kM T) (B:Nat) (w:World) (p:Nat) (h:bT B w p) (CW:p<w.heap.size) (q o c:Nat) (hq:q≠p) (hc:1≤c∧c≤9223372036854775807) (CQ:∀ j u,T.cells3[j]?=some u→w.cell? ⟨q,o+j,none⟩=some u) :
 Calls Tryz.prog 9 #[.pointer (some ⟨p,0,none⟩),.agg #[.string (bJ [78,117,108,108,97,98,108,101]),.int .i64 (0:Nat),.slice (some ⟨q,o,none⟩) 1 c]] w fun e w' =>
  ∃ x,(x=lN∨Flat T x)∧e=.returned (.agg x.fM.toArray)∧bT B w' p∧Fr (fun k=>k=p) w w':=by
 have He:(bJ [78,117,108,108,97,98,108,101]).toList=[78,117,108,108,97,98,108,101]:=cZ _;have ER:=h.1;have k0:=CQ 0 _ rfl;have k1:=CQ 1 _ rfl;have k2:=CQ 2 _ rfl;simp only[Nat.add_zero] at k0;obtain ⟨Cj,IV⟩:=hc;generalize bJ [78,117,108,108,97,98,108,101]=nm at He;go_enter func9,ntmps9
 go_wp2_with fail
 have hW:=mV.of w #[.string nm,.int .i64 0,.slice (some ⟨q,o,none⟩) 1 c];unfold cO at hW;generalize ((w.alloc _).alloc _).alloc _=W at hW ⊢;have BA:bT B W p:=h.fr hW.fr (fun h=>h) (fun _ _ h=>h);have Ef:p<W.heap.size:=by rw[hW.size];omega
 have Fh:W.cell? ⟨w.heap.size,2,none⟩=some (.slice (some ⟨q,o,none⟩) 1 c):=by rw[cell_of_row _ _ _ _ _ _ hW.box];rfl
 have RP:∀ W',bT B W' p→p<W'.heap.size→Calls Tryz.prog 9 #[.pointer (some ⟨p,0,none⟩),.agg #[.string (bJ T.nm),.int .i64 T.sz,.slice none 0 0]] W' fun e w'=>∃ c,Flat T c∧e=.returned (.agg c.fM.toArray)∧bT B w' p∧Fr (fun q=>q=p) W' w':=fun W' h1 h2=>hT B W' p h1 h2
 have kW0:=hW.fr.aA k0 (fun h=>h);have kW1:=hW.fr.aA k1 (fun h=>h);have kW2:=hW.fr.aA k2 (fun h=>h);have Az:∀ w',Fr (fun k=>k=p) W w'→pY w w':=fun w' hf=>pY.of ((hf.block _ (by rw[hW.size];omega) (by show ¬ w.heap.size+1=p;omega)).trans hW.res)
 have Ku:=Lib.hid Az;have Vj:=Lib.hid CQ;clear CQ hT Az k0 k1 k2
 go_wp2_with (first
  | (go_at_call 20;refine (fZ B _ p BA).mono ?_;rintro e w1 ⟨b0,Jz,rfl,Eg,Ad⟩;have l0:=Ad.aA kW0 hq;have l1:=Ad.aA kW1 hq;have l2:=Ad.aA kW2 hq;have DY:=Ad.aA Fh (by show ¬ w.heap.size=p;omega);obtain ⟨g0,g1,g2,g3,g4,g5,g6,g7,z0,z1,z2,z3,z4,z5,z6,z7⟩:=Ku.out w1 Ad)
  | (go_at_call 9;refine (RP _ Eg (Nat.lt_of_lt_of_le Ef Ad.size)).mono ?_;rintro e w2 ⟨x,hx,rfl,DZ,Ae⟩;have FC:Fr (fun k=>k=p) W w2:=Ad.trans Ae (fun _ _ h=>h);clear g0 z0 g1 z1 g2 z2 g3 z3 g4 z4 g5 z5 g6 z6 g7 z7;obtain ⟨g0,g1,g2,g3,g4,g5,g6,g7,z0,z1,z2,z3,z4,z5,z6,z7⟩:=Ku.out w2 FC;unfold Cell.fM))
 · refine bodyPost_ret (by simp[results,results9,go_sem,g0,g1,g2,g3,g4,g5,g6,g7];try rfl) rfl ?_
   have Rn:Fr (fun k=>k=p) w w1:=(hW.fr.mono (S':=fun k=>k=p) (fun _ _ h=>h.elim)).trans Ad (fun _ _ h=>h)
   exact ⟨lN,.inl rfl,rfl,Eg.fr (aCo (w:=w) (wr:=w1) (fun k=>k=w.heap.size+1) rfl _ _ _ _ _ _ _ _) (by show ¬ p=w.heap.size+1;omega) (fun k hk=>by show ¬ k=w.heap.size+1;omega),zC Rn _ _ _ _ _ _ _ _⟩
 · refine bodyPost_ret (by simp[results,results9,go_sem,g0,g1,g2,g3,g4,g5,g6,g7];try rfl) rfl ?_
   have Rn:Fr (fun k=>k=p) w w2:=(hW.fr.mono (S':=fun k=>k=p) (fun _ _ h=>h.elim)).trans FC (fun _ _ h=>h)
   exact ⟨x,.inr hx,rfl,DZ.fr (aCo (w:=w) (wr:=w2) (fun k=>k=w.heap.size+1) rfl _ _ _ _ _ _ _ _) (by show ¬ p=w.heap.size+1;omega) (fun k hk=>by show ¬ k=w.heap.size+1;omega),zC Rn _ _ _ _ _ _ _ _⟩
end Go.Proofs.YtcidlnjpabgioaaGreatDoor
