import Derived.Test.YtcidlnjpabgioaaGreatDoorUShelf
import Derived.Test.YtcidlnjpabgioaaGreatDoorUGWa
set_option maxHeartbeats 6000000
set_option maxRecDepth 100000
namespace Go.Proofs.YtcidlnjpabgioaaGreatDoor
open Tryz List
def digits (n:Nat):List UInt8:=if h:n<10 then [(48+n).toUInt8] else digits (n / 10)++[(48+n % 10).toUInt8]
termination_by n
decreasing_by omega
mutual
def text:Ty→List UInt8
 | .num k=>k.name
 | .str=>[83,116,114,105,110,103]
 | .fix n=>[70,105,120,101,100,83,116,114,105,110,103]++[40]++digits n++[41]
 | .nul t=>[78,117,108,108,97,98,108,101]++[40]++text t++[41]
 | .low=>[76,111,119,67,97,114,100,105,110,97,108,105,116,121]++[40]++[83,116,114,105,110,103]++[41]
 | .arr t=>[65,114,114,97,121]++[40]++text t++[41]
 | .map k v=>[77,97,112]++[40]++(text k++[44,32]++text v)++[41]
 | .tup ts=>[84,117,112,108,101]++[40]++texts ts++[41]
def texts:List Ty→List UInt8
 | []=>[]
 | [t]=>text t
 | t :: t' :: ts=>text t++[44,32]++texts (t' :: ts)
end
def gG:Nat→List UInt8→Option Nat
 | d,[]=>some d
 | d,c :: l=>if c=40 then gG (d+1) l else if c=41 then (if 0<d then gG (d - 1) l else none) else if d=0∧c=44 then none else gG d l
def parts (trim:List UInt8→List UInt8):List UInt8→List UInt8→Nat→List (List UInt8)
 | [],_,_=>[]
 | c :: rest,cur,d =>
  if c=40 then parts trim rest (cur++[c]) (d+1)
  else if c=41∧0<d then parts trim rest (cur++[c]) (d - 1)
  else if d=0∧(c=44∨rest=[]) then trim cur :: parts trim rest [] d
  else parts trim rest (cur++[c]) d
theorem aGa (trim:List UInt8→List UInt8) (c:UInt8) (rest cur:List UInt8) (d:Nat) :
 (c.toNat=40→parts trim (c :: rest) cur d=parts trim rest (cur++[c]) (d+1)) ∧
 (c.toNat=41→0<d→parts trim (c :: rest) cur d=parts trim rest (cur++[c]) (d - 1)) ∧
 (c.toNat≠40→d=0→(c.toNat=44∨rest=[])→parts trim (c :: rest) cur d=trim cur :: parts trim rest [] 0) ∧
 (c.toNat≠40→¬ (c.toNat=41∧0<d)→¬ (d=0∧(c.toNat=44∨rest=[]))→parts trim (c :: rest) cur d=parts trim rest (cur++[c]) d):=by
 have Zp:c.toNat=40↔c=40:=⟨fun h=>UInt8.toNat.inj h,fun h=>by rw[h];rfl⟩;have Zq:c.toNat=41↔c=41:=⟨fun h=>UInt8.toNat.inj h,fun h=>by rw[h];rfl⟩;have Zr:c.toNat=44↔c=44:=⟨fun h=>UInt8.toNat.inj h,fun h=>by rw[h];rfl⟩;simp only[ne_eq,Zp,Zq,Zr]
 refine ⟨fun h=>by rw[parts,if_pos h],fun h hd=>?_,fun h hd hh=>?_,fun h h1 h2=>by rw[parts,if_neg h,if_neg h1,if_neg h2]⟩
 · rw[parts,if_neg (by rw[h];decide),if_pos ⟨h,hd⟩]
 · subst hd
   rw[parts,if_neg h,if_neg (fun hc=>Nat.lt_irrefl _ hc.2),if_pos ⟨rfl,hh⟩]
theorem eY:∀ (a b:List UInt8) (d:Nat),gG d (a++b)=(gG d a).bind fun e=>gG e b
 | [],b,d=>rfl
 | c :: a,b,d=>by
  simp only[cons_append,gG]
  split
  · exact eY a b _
  · split
    · split
      · exact eY a b _
      · rfl
    · split
      · rfl
      · exact eY a b _
theorem iC:∀ (a:List UInt8) (d e n:Nat),gG d a=some e→gG (d+n) a=some (e+n)
 | [],d,e,n,h=>by
  simp only[gG,Option.some.injEq] at h ⊢;omega
 | c :: a,d,e,n,h=>by
  simp only[gG] at h ⊢
  split at h
  · rw[if_pos (by assumption),show d+n+1=d+1+n by omega]
    exact iC a _ _ n h
  · rw[if_neg (by assumption)]
    split at h
    · rw[if_pos (by assumption)]
      split at h
      · rw[if_pos (by omega),show d+n - 1=d - 1+n by omega]
        exact iC a _ _ n h
      · cases h
    · rw[if_neg (by assumption)]
      split at h
      · cases h
      · rw[if_neg (by rename_i hh;intro ⟨h1,h2⟩;exact hh ⟨by omega,h2⟩)]
        exact iC a _ _ n h
theorem kU (trim:List UInt8→List UInt8):∀ (a rest cur:List UInt8) (d e:Nat),rest≠[]→gG d a=some e→parts trim (a++rest) cur d=parts trim rest (cur++a) e
 | [],rest,cur,d,e,_,h=>by
  simp only[gG,Option.some.injEq] at h;subst h;simp
 | c :: a,rest,cur,d,e,hr,h=>by
  have Am:a++rest≠[]:=by simp[hr]
  simp only[gG] at h;rw[cons_append,parts,show cur++c :: a=(cur++[c])++a by simp]
  split at h
  · rw[if_pos (by assumption)]
    exact kU trim a rest _ _ _ hr h
  · rw[if_neg (by assumption)]
    split at h
    · split at h
      · rw[if_pos ⟨by assumption,by assumption⟩]
        exact kU trim a rest _ _ _ hr h
      · cases h
    · rw[if_neg (by rename_i hh;intro ⟨h1,_⟩;exact hh h1)]
      split at h
      · cases h
      · rw[if_neg (by rename_i hh;intro ⟨h1,h2⟩;rcases h2 with h2|h2;exact hh ⟨h1,h2⟩;exact Am h2)]
        exact kU trim a rest _ _ _ hr h
theorem yV (trim:List UInt8→List UInt8) (a:List UInt8) (h:gG 0 a=some 0):parts trim (a++[41]) [] 0=[trim a]:=by
 rw[kU trim a [41] [] 0 0 (by simp) h];simp[parts]
theorem pM (trim:List UInt8→List UInt8) (a b:List UInt8) (h:gG 0 a=some 0):parts trim (a++([44]++b)) [] 0=trim a :: parts trim b [] 0:=by
 rw[kU trim a ([44]++b) [] 0 0 (by simp) h];simp[parts]
structure jJ (l:List UInt8):Prop where
 walk:gG 0 l=some 0
 head:∃ c m,l=c :: m∧Lib.isSp c=false
 last:∃ m c,l=m++[c]∧Lib.isSp c=false
 ascii:∀ c∈l,c.toNat<128
theorem mZ {c:UInt8} {m:List UInt8} (h:Lib.isSp c=false):(c :: m).dropWhile Lib.isSp=c :: m:=by simp[List.dropWhile,h]
theorem jJ.trim {l:List UInt8} (h:jJ l):Lib.trimSpace l=l:=by
 obtain ⟨c,m,rfl,hc⟩:=h.head;obtain ⟨m',c',he,ZN⟩:=h.last;unfold Lib.trimSpace;rw[mZ hc,he,reverse_append,reverse_singleton,singleton_append,mZ ZN];simp
theorem jJ.aOC {l:List UInt8} (h:jJ l):Lib.trimSpace (32 :: l)=l:=by
 have e:Lib.trimSpace (32 :: l)=Lib.trimSpace l:=by
  unfold Lib.trimSpace;rw[show (32 :: l).dropWhile Lib.isSp=l.dropWhile Lib.isSp by simp[List.dropWhile,Lib.isSp]]
 rw[e,h.trim]
def gI (l:List UInt8):Prop:=∀ c∈l,c≠40∧c≠41∧c≠44∧Lib.isSp c=false∧c.toNat<128
theorem nR:∀ (l:List UInt8) (d:Nat),gI l→gG d l=some d
 | [],_,_=>rfl
 | c :: l,d,h=>by
  obtain ⟨h1,h2,h3,_⟩:=h c (by simp);rw[gG,if_neg h1,if_neg h2,if_neg (fun hh=>h3 hh.2)]
  exact nR l d (fun x hx=>h x (by simp[hx]))
theorem iM {l:List UInt8} (h:gI l) (Am:l≠[]):jJ l:=by
 refine ⟨nR l 0 h,?_,?_,fun c hc=>(h c hc).2.2.2.2⟩
 · cases l with
   | nil=>exact absurd rfl Am
   | cons c m=>exact ⟨c,m,rfl,(h c (by simp)).2.2.2.1⟩
 · refine ⟨l.dropLast,l.getLast Am,(dropLast_concat_getLast Am).symm,(h _ (getLast_mem Am)).2.2.2.1⟩
theorem yQ (k:Num):gI k.name:=by
 cases k<;>(unfold gI Num.name;decide)
theorem kE:∀ n:Nat,gI (digits n)∧digits n≠[]
 | n=>by
  rw[digits]
  have hd:∀ k,k<10→gI [(48+k).toUInt8]:=by
   intro k hk;have:k=0∨k=1∨k=2∨k=3∨k=4∨k=5∨k=6∨k=7∨k=8∨k=9:=by omega
   rcases this with h|h|h|h|h|h|h|h|h|h<;>subst h<;>(unfold gI;decide)
  split
  · exact ⟨hd n (by assumption),by simp⟩
  · refine ⟨fun c hc=>?_,by simp⟩
    rcases mem_append.1 hc with hc|hc
    · exact (kE (n / 10)).1 c hc
    · exact hd (n % 10) (by omega) c hc
termination_by n=>n
decreasing_by omega
theorem aNp {a b:List UInt8} (ha:jJ a) (hb:gG 0 b=some 0):gG 1 (a++[44,32]++b)=some 1:=by
 rw[eY,eY,iC a 0 0 1 ha.walk];simp only[Option.bind_some];rw[show gG (0+1) [44,32]=some 1 from rfl];simp only[Option.bind_some]
 exact iC b 0 0 1 hb
theorem kN {nm inner:List UInt8} (h:gI nm) (Am:nm≠[]) (hw:gG 1 inner=some 1) (ha:∀ c∈inner,c.toNat<128):jJ (nm++[40]++inner++[41]):=by
 have hn:=iM h Am
 refine ⟨?_,?_,⟨_,41,rfl,by decide⟩,?_⟩
 · rw[eY,eY,eY,nR nm 0 h]
   simp only[Option.bind_some];rw[show gG 0 [40]=some 1 from rfl];simp only[Option.bind_some];rw[hw]
   rfl
 · obtain ⟨c,m,rfl,hc⟩:=hn.head
   exact ⟨c,m++40 :: (inner++[41]),by simp,hc⟩
 · intro c hc
   simp only[mem_append,mem_singleton] at hc;rcases hc with ((hc|rfl)|hc)|rfl
   · exact (h c hc).2.2.2.2
   · decide
   · exact ha c hc
   · decide
theorem jR {nm inner:List UInt8} (h:gI nm) (Am:nm≠[]) (hi:jJ inner):jJ (nm++[40]++inner++[41]) :=
 kN h Am (iC inner 0 0 1 hi.walk) hi.ascii
mutual
def Ty.fine:Ty→Prop
 | .num _|.str|.fix _|.low=>True
 | .nul t|.arr t=>t.fine
 | .map k v=>k.fine∧v.fine
 | .tup ts=>ts≠[]∧oM ts
def oM:List Ty→Prop
 | []=>True
 | t :: ts=>t.fine∧oM ts
end
mutual
theorem fF:∀ (t:Ty),t.fine→jJ (text t)
 | .num k,_=>by
  rw[text]
  exact iM (yQ k) (by cases k<;>simp[Num.name])
 | .str,_=>by
  rw[text]
  exact iM (by unfold gI;decide) (by simp)
 | .fix n,_=>by
  rw[text]
  exact jR (by unfold gI;decide) (by simp) (iM (kE n).1 (kE n).2)
 | .nul t,h=>by
  rw[Ty.fine] at h;rw[text]
  exact jR (by unfold gI;decide) (by simp) (fF t h)
 | .low,_=>by
  rw[text]
  exact jR (by unfold gI;decide) (by simp) (iM (by unfold gI;decide) (by simp))
 | .arr t,h=>by
  rw[Ty.fine] at h;rw[text]
  exact jR (by unfold gI;decide) (by simp) (fF t h)
 | .map k v,h=>by
  rw[Ty.fine] at h;have hk:=fF k h.1;have hv:=fF v h.2;rw[text]
  refine kN (by unfold gI;decide) (by simp) (aNp hk hv.walk) (fun c hc=>?_);simp only[mem_append,mem_cons,not_mem_nil,or_false] at hc;rcases hc with (hc|(rfl|rfl))|hc
  · exact hk.ascii c hc
  · decide
  · decide
  · exact hv.ascii c hc
 | .tup ts,h=>by
  rw[Ty.fine] at h;have ht:=nM ts h.2 h.1;rw[text]
  exact kN (by unfold gI;decide) (by simp) ht.1 ht.2
theorem nM:∀ (ts:List Ty),oM ts→ts≠[]→gG 1 (texts ts)=some 1∧∀ c∈texts ts,c.toNat<128
 | [],_,h=>absurd rfl h
 | [t],h,_=>by
  rw[oM] at h;have ht:=fF t h.1;rw[texts]
  exact ⟨iC _ 0 0 1 ht.walk,ht.ascii⟩
 | t :: t' :: ts,h,_=>by
  rw[oM] at h;have ht:=fF t h.1;have hs:=nM (t' :: ts) h.2 (by simp);rw[texts]
  refine ⟨?_,fun c hc=>?_⟩
  · rw[eY,eY,iC (text t) 0 0 1 ht.walk]
    simp only[Option.bind_some];rw[show gG (0+1) [44,32]=some 1 from rfl]
    exact hs.1
  · simp only[mem_append,mem_cons,not_mem_nil,or_false] at hc
    rcases hc with (hc|(rfl|rfl))|hc
    · exact ht.ascii c hc
    · decide
    · decide
    · exact hs.2 c hc
end
theorem wH (b:List UInt8) (d:Nat):gG d (32 :: b)=gG d b:=by simp[gG]
theorem lS {a:List UInt8} (h:jJ a):parts Lib.trimSpace (a++[41]) [] 0=[a]:=by rw[yV _ _ h.walk,h.trim]
theorem yX {a:List UInt8} (h:jJ a):parts Lib.trimSpace (32 :: a++[41]) [] 0=[a]:=by
 rw[yV _ _ (by rw[wH];exact h.walk),h.aOC]
theorem aIW {a b:List UInt8} (ha:jJ a) (hb:jJ b):parts Lib.trimSpace (a++[44,32]++b++[41]) [] 0=[a,b]:=by
 have e:a++[44,32]++b++[41]=a++([44]++(32 :: b++[41])):=by simp
 rw[e,pM _ _ _ ha.walk,ha.trim,yX hb]
theorem vY:∀ (ts:List Ty),oM ts→ts≠[]→parts Lib.trimSpace (texts ts++[41]) [] 0=ts.map text∧parts Lib.trimSpace (32 :: texts ts++[41]) [] 0=ts.map text
 | [],_,h=>absurd rfl h
 | [t],h,_=>by
  rw[oM] at h;have ht:=fF t h.1;rw[texts]
  exact ⟨lS ht,yX ht⟩
 | t :: t' :: ts,h,_=>by
  rw[oM] at h;have ht:=fF t h.1;have hs:=(vY (t' :: ts) h.2 (by simp)).2;rw[texts];have e:∀ a:List UInt8,a++[44,32]++texts (t' :: ts)++[41]=a++([44]++(32 :: texts (t' :: ts)++[41])):=fun a=>by simp
  have e1:32 :: (text t++[44,32]++texts (t' :: ts))++[41]=(32 :: text t)++([44]++(32 :: texts (t' :: ts)++[41])):=by simp
  refine ⟨?_,?_⟩
  · rw[e,pM _ _ _ ht.walk,ht.trim,hs]
    rfl
  · rw[e1,pM _ _ _ (by rw[wH];exact ht.walk),ht.aOC,hs]
    rfl
theorem oN:∀ (nm rest:List UInt8),gI nm→Lib.indexByte (nm++40 :: rest) 40=nm.length
 | [],rest,_=>by simp[Lib.indexByte]
 | c :: nm,rest,h=>by
  have ih:=oN nm rest (fun x hx=>h x (by simp[hx]));have hc:(c == 40)=false:=by simpa using (h c (by simp)).1
  rw[cons_append,Lib.indexByte,hc,ih];have:(((nm.length:Int) == -1))=false:=by simp
  rw[this];simp
theorem index_none:∀ (l:List UInt8),gI l→Lib.indexByte l 40=-1
 | [],_=>rfl
 | c :: l,h=>by
  have ih:=index_none l (fun x hx=>h x (by simp[hx]));have hc:(c == 40)=false:=by simpa using (h c (by simp)).1
  rw[Lib.indexByte,hc,ih]
  rfl
end Go.Proofs.YtcidlnjpabgioaaGreatDoor
namespace Go.Proofs.YtcidlnjpabgioaaGreatDoor
open Tryz List Go.RowKit
theorem rU (w:World) (txt:ByteArray) (h:Lib.indexByte txt.data.toList 40=-1) :
 Calls Tryz.prog 31 #[.string txt] w fun e w'=>e=.returned (.tuple #[.string txt,.slice none 0 0])∧w'=w:=by
 have Vp:=Tryz.strings_IndexByte txt 40 w;rw[show ((40:Int).toNat.toUInt8)=40 from rfl,h] at Vp;go_enter func31,ntmps31
 go_wp2_with (go_at_call 42;refine Vp.mono ?_;rintro e w1 ⟨rfl,rfl⟩)
 go_ret2
 exact ⟨rfl,rfl⟩
theorem aAc {P:Program} {w w':World} (hb:Below w.heap.size w w') {n:String} {cs:Array Value} (h:w.var? P n=some cs):w'.var? P n=some cs:=by
 unfold World.var? at h ⊢
 cases hg:P.globalNamed n with
 | none=>simp[hg] at h
 | some g =>
  simp only[hg,Option.bind_some] at h ⊢
  have Ar:g<w.heap.size:=by
   rcases Nat.lt_or_ge g w.heap.size with h'|h'
   · exact h'
   · simp[Array.getElem?_eq_none h'] at h
  rw[hb.block g Ar]
  exact h
theorem Fr.bytes (w:World) (e:TypeId) (s:ByteArray):F0 w (Lib.bytesWorld w e s) :=
 ⟨rfl,rfl,rfl,by simp[Lib.bytesWorld,World.freeze],fun k hk _=>Lib.bytesWorld_at_old w e s k hk⟩
theorem lV (s:ByteArray) (a b:Nat):(s.extract a b).data.toList=(s.data.toList.take b).drop a:=by
 rw[ByteArray.data_extract,Array.toList_extract,extract_eq_drop_take',drop_take]
theorem aMh:ElT Tryz.prog 69 9 (.string ⟨#[]⟩) 1 16:=⟨underlying69,info_parts (by kernel_rfl),rfl⟩
def Strs (w:World) (lo:Nat) (v:Value) (ls:List (List UInt8)):Prop :=
 w.ownsRow 0 9 1 v ls.length (ls.map fun l=>.string ⟨l.toArray⟩)∧∀ q,v.ownBlock=some q→lo≤q
theorem yU (w:World) (txt:ByteArray) (nm rest:List UInt8) (Ph:txt.data.toList=nm++40 :: (rest++[41])) (Vp:Lib.indexByte txt.data.toList 40=nm.length) (DX:txt.size≤1000000)
 (Iw:∀ c∈txt.data.toList,c.toNat<128) (Dk:Lib.TabIs Tryz.prog w "strings.asciiSpace" .u8 Lib.asciiSpaceTab) :
 Calls Tryz.prog 31 #[.string txt] w fun e w'=>∃ v,e=.returned (.tuple #[.string ⟨nm.toArray⟩,v])∧Strs w' w.heap.size v (parts Lib.trimSpace (rest++[41]) [] 0)∧Below w.heap.size w w':=by
 have Yx:=Tryz.strings_IndexByte txt 40 w;rw[show ((40:Int).toNat.toUInt8)=40 from rfl,Vp] at Yx;have AA:txt.data.toList.length=txt.size:=Array.length_toList;have Rf:txt.size=nm.length+1+(rest.length+1):=by rw[← AA,Ph];simp;omega
 have FI:(1:Int)≤(txt.size:Int)∧(txt.size:Int) - 1<(txt.size:Int):=by omega
 have D8:∀ h,(txt[txt.size - 1]'h).toNat=41:=by
  intro h;have e:txt[txt.size - 1]'h=txt.data.toList[txt.size - 1]'(by omega):=by simp[ByteArray.getElem_eq_getElem_data]
  rw[e]
  have:txt.data.toList[txt.size - 1]?=some 41:=by
   rw[Ph,getElem?_append_right (by omega),show txt.size - 1 - nm.length=rest.length+1 by omega,getElem?_cons_succ,getElem?_append_right (Nat.le_refl _)];simp
  rw[getElem?_eq_getElem (by omega)] at this;simp only[Option.some.injEq] at this;rw[this]
  rfl
 have He:nm.length+2≤txt.size:=by omega
 have gz:=Lib.hid Rf;have UC:=Lib.hid Ph;clear Rf AA Ph;go_enter func31,ntmps31
 go_wp2_with (go_at_call 42;refine Yx.mono ?_;rintro e w1 ⟨rfl,CG⟩;subst CG)
 go_loopw [5,6,7,8] (fun out at_ d k wr=>∃ (K A D:Nat) (os:List (List UInt8)),K≤txt.size∧A≤K∧D≤K∧at_=.int .i64 A∧d=.int .i64 D∧k=.int .i64 K∧Strs wr w1.heap.size out os∧os.length≤K ∧
  os++parts Lib.trimSpace (txt.data.toList.drop K) ((txt.data.toList.take K).drop A) D=parts Lib.trimSpace (rest++[41]) [] 0∧Below w1.heap.size w1 wr) (fun _ _ _ k _=>txt.size - (intOf k).toNat)
 case atStart =>
  have hd:txt.data.toList.drop (nm.length+1)=rest++[41]:=by
   rw[UC.out,show nm++40 :: (rest++[41])=(nm++[40])++(rest++[41]) by simp,show nm.length+1=(nm++[40]).length by simp,drop_left]
  have QP:(txt.data.toList.take (nm.length+1)).drop (nm.length+1)=[]:=drop_eq_nil_of_le (by rw[length_take];omega)
  exact ⟨nm.length+1,nm.length+1,0,[],by have:=gz.out;omega,Nat.le_refl _,by omega,by go_num,by go_num,by go_num,⟨World.ownsRow_nil _ _ _ _,by simp[Value.ownBlock]⟩,by simp,by rw[hd,QP];rfl,Below.refl _ _⟩
 case round =>
  obtain ⟨K,A,D,os,hK,hA,hD,rfl,rfl,rfl,Y7,KQ,hp,hb⟩:=hrel
  by_cases Ar:K<txt.size
  · have UA:Lib.TabIs Tryz.prog wr "strings.asciiSpace" .u8 Lib.asciiSpaceTab:=aAc hb Dk
    have EQ:=Tryz.strings_TrimSpace (txt.extract A K) wr (by rw[ByteArray.size_extract];omega) (fun j b hj=>by
     rw[lV] at hj
     exact Iw b (mem_of_mem_take (mem_of_mem_drop (mem_of_getElem? hj)))) UA
    obtain ⟨TS,Yb⟩:∃ TS,RowKit.Hid (TS=Lib.trimSpace (txt.extract A K).data.toList):=⟨_,Lib.hid rfl⟩;rw[← Yb.out] at EQ;obtain ⟨Aa,Ai⟩:=Y7;obtain ⟨a0,c0,rfl⟩:=ownsRow_shape Aa;have Uj:=(Fr.bytes wr 5 (txt.extract A K)).owns Aa (fun _ _ h=>h)
    have O7:txt.data.toList.drop K=txt[K] :: txt.data.toList.drop (K+1):=by
     rw[drop_eq_getElem_cons (by rw[Array.length_toList];exact Ar)]
     rfl
    have H7:(txt.data.toList.take K).drop A++[txt[K]]=(txt.data.toList.take (K+1)).drop A:=by
     rw[take_succ_eq_append_getElem (by rw[Array.length_toList];exact Ar),drop_append_of_le_length (by rw[length_take,Array.length_toList];show A≤min K txt.size;omega)]
     rfl
    have Jh:(txt.data.toList.take (K+1)).drop (K+1)=[]:=drop_eq_nil_of_le (by rw[length_take];omega)
    have Kv:txt.data.toList.drop (K+1)=[]↔K=txt.size - 1:=by
     rw[drop_eq_nil_iff,Array.length_toList];show txt.size≤K+1↔_;omega
    have BD:=Lib.hid (aGa Lib.trimSpace txt[K] (txt.data.toList.drop (K+1)) ((txt.data.toList.take K).drop A) D);rw[O7] at hp;have KR:=Lib.hid hp;have IX:=Lib.hid H7;have MS:=Lib.hid Jh;have IG:=Lib.hid Kv;have P8:RowKit.Hid (TS=Lib.trimSpace ((txt.data.toList.take K).drop A)):=by rw[← lV];exact Yb
    clear O7 hp H7 Jh Kv
    go_wp2_with (first
     | (go_at_call 43;refine EQ.mono ?_;rintro e w2 ⟨rfl,rfl⟩)
     | ((with_reducible show wpList _ _ _ (⟨some 73,_,_,_,_,_⟩ :: _) _ _);refine aP _ rfl aMh _ _ rfl _ _ _ rfl (Uj.alloc _) _ _ _ rfl (Src.ofSlice _ underlying69 _ _ _ _ rfl (bG _ [.string ⟨TS.toArray⟩] _) (by simp[Value.oneCell'])) ?_ ?_ ?_;(unfold maxLen;omega);omega;intro v' w3 ha;obtain ⟨a',c',rfl⟩:=ha.shape))
    all_goals go_roundw
    · rename_i h1
      refine ⟨K+1,A,D+1,os,by omega,by omega,by omega,rfl,by go_num,by go_num,⟨Aa,Ai⟩,by omega,?_,hb⟩;rw[← KR.out,BD.out.1 (by simp at h1;omega),IX.out]
    · simp[intOf];omega
    · rename_i h1 h2 h3
      refine ⟨K+1,A,D - 1,os,by omega,by omega,by omega,rfl,by go_num,by go_num,⟨Aa,Ai⟩,by omega,?_,hb⟩;rw[← KR.out,BD.out.2.1 (by omega) h3,IX.out]
    · simp[intOf];omega
    · rename_i h1 h2 h3 h4 h5
      refine ⟨K+1,K+1,0,os++[TS],by omega,Nat.le_refl _,by omega,by go_num,by go_num,by go_num,⟨?_,?_⟩,by simp;omega,?_,?_⟩
      · rw[length_append,map_append]
        exact ha.1
      · intro q hq
        rcases ha.2.2 with e|⟨e,-⟩
        · exact Ai q (by rw[← hq,e];rfl)
        · rw[e] at hq
          simp only[Option.some.injEq] at hq;have h1:=(Fr.bytes wr 5 (txt.extract A K)).size;have h2:=hb.size;simp at hq;omega
      · rw[append_assoc,MS.out,← KR.out,BD.out.2.2.1 (by omega) (by omega) (by exact .inr (IG.out.2 (by simp at h5;omega))),P8.out]
        rfl
      · exact hb.trans ((((Fr.bytes wr 5 (txt.extract A K)).alloc _).mono (S':=fun q=>w1.heap.size≤q) (fun _ _ h=>h.elim)).grown ha.2.1 (fun q hq=>.inl (Ai q hq)) |>.below hb.size (fun q hq h=>by omega))
    · simp[intOf];omega
    · rename_i h1 h2 h3 h4 h5
      refine ⟨K+1,A,D,os,by omega,by omega,by omega,rfl,by go_num,by go_num,⟨Aa,Ai⟩,by omega,?_,hb⟩;rw[← KR.out,BD.out.2.2.2 (by omega) (fun h=>h3 h.2) (fun h=>h.2.elim (by omega) (fun h=>by have:=IG.out.1 h;simp at h5;omega)),IX.out]
    · simp[intOf];omega
    · rename_i h1 h2 h3 h4
      refine ⟨K+1,K+1,0,os++[TS],by omega,Nat.le_refl _,by omega,by go_num,by go_num,by go_num,⟨?_,?_⟩,by simp;omega,?_,?_⟩
      · rw[length_append,map_append]
        exact ha.1
      · intro q hq
        rcases ha.2.2 with e|⟨e,-⟩
        · exact Ai q (by rw[← hq,e];rfl)
        · rw[e] at hq
          simp only[Option.some.injEq] at hq;have h1:=(Fr.bytes wr 5 (txt.extract A K)).size;have h2:=hb.size;simp at hq;omega
      · rw[append_assoc,MS.out,← KR.out,BD.out.2.2.1 (by simp at h1;omega) (by omega) (by exact .inl (by omega)),P8.out]
        rfl
      · exact hb.trans ((((Fr.bytes wr 5 (txt.extract A K)).alloc _).mono (S':=fun q=>w1.heap.size≤q) (fun _ _ h=>h.elim)).grown ha.2.1 (fun q hq=>.inl (Ai q hq)) |>.below hb.size (fun q hq h=>by omega))
    · simp[intOf];omega
    · rename_i h1 h2 h3 h4 h5
      refine ⟨K+1,K+1,0,os++[TS],by omega,Nat.le_refl _,by omega,by go_num,by go_num,by go_num,⟨?_,?_⟩,by simp;omega,?_,?_⟩
      · rw[length_append,map_append]
        exact ha.1
      · intro q hq
        rcases ha.2.2 with e|⟨e,-⟩
        · exact Ai q (by rw[← hq,e];rfl)
        · rw[e] at hq
          simp only[Option.some.injEq] at hq;have h1:=(Fr.bytes wr 5 (txt.extract A K)).size;have h2:=hb.size;simp at hq;omega
      · rw[append_assoc,MS.out,← KR.out,BD.out.2.2.1 (by simp at h1;omega) (by omega) (by simp at h5;exact .inr (IG.out.2 (by omega))),P8.out]
        rfl
      · exact hb.trans ((((Fr.bytes wr 5 (txt.extract A K)).alloc _).mono (S':=fun q=>w1.heap.size≤q) (fun _ _ h=>h.elim)).grown ha.2.1 (fun q hq=>.inl (Ai q hq)) |>.below hb.size (fun q hq h=>by omega))
    · simp[intOf];omega
    · rename_i h1 h2 h3 h4 h5
      refine ⟨K+1,A,D,os,by omega,by omega,by omega,rfl,by go_num,by go_num,⟨Aa,Ai⟩,by omega,?_,hb⟩;rw[← KR.out,BD.out.2.2.2 (by simp at h1;omega) (fun h=>by omega) (fun h=>h.2.elim (by omega) (fun h=>by have:=IG.out.1 h;simp at h5;omega)),IX.out]
    · simp[intOf];omega
    · rename_i h1 h2 h3
      refine ⟨K+1,A,D,os,by omega,by omega,by omega,rfl,by go_num,by go_num,⟨Aa,Ai⟩,by omega,?_,hb⟩;rw[← KR.out,BD.out.2.2.2 (by simp at h1;omega) (fun h=>by omega) (fun h=>h3 h.1),IX.out]
    · simp[intOf];omega
  · have Jh:txt.data.toList.drop K=[]:=drop_eq_nil_of_le (by rw[Array.length_toList];show txt.size≤K;omega)
    rw[Jh] at hp;simp only[parts,append_nil] at hp;subst hp
    have hx:txt.extract 0 nm.length=⟨nm.toArray⟩:=by
     have e:(txt.extract 0 nm.length).data.toList=nm:=by
      rw[lV,UC.out,drop_zero,take_left]
     have e2:(txt.extract 0 nm.length).data=nm.toArray:=Array.ext' (by rw[e]);rw[← e2]
    clear Jh Dk Iw D8;go_wp2
    go_ret2
    exact ⟨_,rfl,Y7,hb⟩
def bJ (l:List UInt8):ByteArray:=⟨l.toArray⟩
theorem cZ (l:List UInt8):(bJ l).toList=l:=by
 rw[Go.ByteArray.toList_eq]
 rfl
def kinds:List (List UInt8):=[[],Num.i8.name,Num.i16.name,Num.i32.name,Num.i64.name,Num.i128.name,[73,110,116,50,53,54],Num.u8.name,Num.u16.name,Num.u32.name,Num.u64.name,[85,73,110,116,49,50,56],Num.u256.name,
 [70,108,111,97,116,51,50],[70,108,111,97,116,54,52],[66,70,108,111,97,116,49,54],[66,111,111,108],Num.ip4.name,Num.ip6.name,[85,85,73,68]]
def fB (w:World):Prop:=∃ b o c,w.cell? ⟨0,0,none⟩=some (.slice (some ⟨b,o,none⟩) 20 c)∧∀ i,i<20→w.cell? ⟨b,o+i,none⟩=some (.string (bJ (kinds.getD i [])))
theorem fB.below {w w':World} (h:fB w) (hb:Below w.heap.size w w'):fB w':=by
 obtain ⟨b,o,c,h1,h2⟩:=h
 exact ⟨b,o,c,(hb.cell (p:=⟨_,0,none⟩) (World.block_lt_of_cell? w _ h1)).trans h1,fun i hi=>(hb.cell (p:=⟨b,o+i,none⟩) (World.block_lt_of_cell? w _ (h2 i hi))).trans (h2 i hi)⟩
theorem fP {T:Ty} {st:List UInt8} (w:World) (hk:fB w) (L:List UInt8) (nm:ByteArray) (hl:nm.toList=L) (hs:¬ L=[83,116,114,105,110,103]) (hf:¬ L=[70,105,120,101,100,83,116,114,105,110,103])
 (idx:Nat) (h1:1≤idx) (XR:idx<20) (Am:∀ K,1≤K→K<idx→¬ (kinds.getD K [])=L) (PN:kinds.getD idx []=L) (R:Ending→World→Prop)
 (Aq:Calls Tryz.prog 50 #[.int .i64 idx] w fun e w1=>∃ t u,e=.returned (.iface t u)∧aF Tryz.prog (.iface t u) "given.example/pub-bradawl/impl.cells" #[] w1 R)
 (hR:∀ e w',R e w'→∃ v,e=.returned v∧dH T st w (.returned v) w') :
 Calls Tryz.prog 36 #[.string nm,.slice none 0 0] w (dH T st w):=by
 obtain ⟨b,o,c,hg,hc⟩:=hk;go_enter func36,ntmps36;go_wp2
 go_loop [7] (fun i=>∃ K:Nat,1≤K∧K≤idx∧i=.int .i64 K) (fun i=>20 - (intOf i).toNat)
 case atStart=>exact ⟨1,Nat.le_refl _,h1,rfl⟩
 case round =>
  obtain ⟨K,Zz,hK,rfl⟩:=hrel;have pg:=hc K (by omega);have Ar:K<20:=by omega
  have G8:kinds.getD K []=kinds[K]?.getD []:=by rw[getD_eq_getElem?_getD]
  have NT:((bJ (kinds[K]?.getD [])).toList == L)=(kinds.getD K [] == L):=by rw[cZ,G8]
  by_cases Ar:K=idx
  · subst Ar
    have hd:((bJ (kinds[K]?.getD [])).toList == L)=true:=by rw[NT,PN];simp
    clear NT PN Am G8 hs hf
    go_wp2_with (first|(go_at_call 50;refine Aq.mono ?_;rintro e w1 ⟨t,u,rfl,WX⟩)|((with_reducible show wpList _ _ _ (⟨some 69,_,_,_,_,_⟩ :: _) _ _);refine aT _ rfl _ _ _ _ rfl _ _ rfl WX rfl ?_;rintro e w2 hr;obtain ⟨v,rfl,ht⟩:=hR e w2 hr;refine ⟨_,rfl,?_⟩))
    go_ret
    exact ht
  · have hd:((bJ (kinds[K]?.getD [])).toList == L)=false:=by rw[NT];simpa using Am K Zz (by omega)
    clear NT G8 hs hf Am PN;go_wp2
    go_round
    case rel=>exact ⟨K+1,by omega,by omega,by go_num⟩
    case measure=>simp[intOf];omega
end Go.Proofs.YtcidlnjpabgioaaGreatDoor
