import Derived.Test.YtcidlnjpabgioaaGreatDoorUGWs
import Derived.Test.YtcidlnjpabgioaaGreatDoorUGWf
import Derived.Test.YtcidlnjpabgioaaGreatDoorUGNul
set_option maxHeartbeats 2000000
namespace Go.Proofs.YtcidlnjpabgioaaGreatDoor
open Tryz List Go.RowKit
theorem ColSpec.low {P:Program} {B B':Nat} {t:TypeId} {u:Value} {T:Ty} {st:List UInt8} {R Rp:World→(Nat→Prop)→List Cell→Prop} (h:ColSpec P B t u T st R Rp) (hB:B'≤B):ColSpec P B' t u T st R Rp where
 lo:=fun hR k hk=>⟨Nat.le_trans hB (h.lo hR k hk).1,(h.lo hR k hk).2⟩
 lo':=fun hR k hk=>⟨Nat.le_trans hB (h.lo' hR k hk).1,(h.lo' hR k hk).2⟩
 frame:=h.frame
 frame':=h.frame'
 append:=fun hR hc=>h.append hR (hc.mono hB)
 appendArr:=fun hR hs hc=>h.appendArr hR (hs.mono hB) (aI.mono hB _ _ hc)
 rows:=h.rows
 flat:=h.flat
 ahead:=h.ahead
 prepare:=h.prepare
 state:=h.state
 encode:=h.encode
theorem pW.low {P:Program} {B B':Nat} {t:TypeId} {u:Value} {T:Ty} {st:List UInt8} {R Rp:World→(Nat→Prop)→List Cell→Prop} (h:pW P B t u T st R Rp) (hB:B'≤B):pW P B' t u T st R Rp:=⟨h.toColSpec.low hB,h.toColW⟩
theorem aJd (w:World) (nm:ByteArray) (hl:nm.toList=[83,116,114,105,110,103]):Calls Tryz.prog 36 #[.string nm,.slice none 0 0] w (dH .str [] w):=by
 go_enter func36,ntmps36;go_wp2;go_ret
 refine ⟨_,_,_,_,fun k=>k=w.heap.size,rfl,⟨kV w.heap.size w.heap.size,aDQ _ _⟩,⟨⟨.slice none 0 0,.slice none 0 0,heap_alloc_new w _,World.ownsRow_nil _ _ _ _,World.ownsRow_nil _ _ _ _,by simp[Value.ownBlock],by simp[Value.ownBlock],by simp[Value.ownBlock],fun k=>by simp[Value.ownBlock]⟩,fun k hk=>by omega,by simp⟩,(Below.refl _ w).alloc (Nat.le_refl _) _⟩
theorem aCS:digits 5=[53]:=by rw[digits];rfl
theorem aAX:digits 16=[49,54]:=by rw[digits,dif_neg (by omega),digits];rfl
theorem aCP {n:Nat} (h:n=5∨n=16):Lib.atoi (digits n)=some (n:Int)∧(digits n).length≤18:=by
 rcases h with rfl|rfl
 · rw[aCS];exact ⟨by decide,by decide⟩
 · rw[aAX];exact ⟨by decide,by decide⟩
theorem aIX (n:Nat) (hn:n=5∨n=16) (w:World) (nm:ByteArray) (hl:nm.toList=[70,105,120,101,100,83,116,114,105,110,103]) (lo:Nat) (v:Value) (hv:Strs w lo v [digits n]) :
 Calls Tryz.prog 36 #[.string nm,v] w (dH (.fix n) [] w):=by
 obtain ⟨RV,QL⟩:=aCP hn
 have AL:∀ w,Calls Tryz.prog 46 #[.string ⟨(digits n).toArray⟩] w fun e w'=>e=.returned (.tuple #[.int .i64 n,.nilIface])∧F0 w w':=fun w =>
  (Tryz.strconv_Atoi ⟨(digits n).toArray⟩ n (by show (digits n).toArray.size≤18;simpa using QL) (by simpa using RV) w).mono fun e w' ⟨he,t,ht⟩=>⟨he,by subst ht;exact Fr.bytes w _ t⟩
 obtain ⟨Aa,-⟩:=hv;rcases Aa.2 with ⟨-,h0⟩|⟨g,cap,cur,rfl,_,hg,BF,AP,_⟩
 · simp at h0
 have hc:=Aa.cells (g:=g) rfl 0 _ rfl;simp only[Addr.add_lit,Nat.add_zero] at hc;simp only[length_singleton] at BF AP;unfold maxLen at AP;have JY:(1:Int)≤(n:Int)∧(n:Int)≤1000:=by omega
 clear hn RV QL Aa;go_enter func36,ntmps36
 go_wp2_with (go_at_call 46;refine (AL _).mono ?_;rintro e w1 ⟨rfl,Ak⟩)
 go_ret;have hs:=Ak.size
 refine ⟨_,_,_,_,fun k=>k=w1.heap.size+1∨k=w1.heap.size,rfl,⟨aKw w.heap.size (w1.heap.size+1) w1.heap.size n (by omega),aKq _ _ _ n (by omega)⟩,⟨fun k=>k=w1.heap.size+1,⟨.slice none 0 0,?_,?_,by simp[Value.ownBlock],fun k=>by simp[Value.ownBlock]⟩,?_,fun k=>Iff.rfl,fun k hk=>by omega,by omega,by simp⟩,?_⟩
 · have h:=heap_alloc_new (w1.alloc (.cells #[.int .i64 n] 3)) (.cells #[.slice none 0 0,.int .i64 n] 159)
   simpa using h
 · exact World.ownsRow_nil _ _ _ _
 · rw[ca (by simp),aB rfl];rfl
 · exact ((Ak.below (Nat.le_refl _) (fun _ _ h=>h)).alloc hs _).alloc (by simp;omega) _
mutual
def st:Ty→List UInt8
 | .num _|.str|.fix _=>[]
 | .nul t|.arr t=>st t
 | .low=>[1,0,0,0,0,0,0,0]
 | .map k v=>st k++st v
 | .tup ts=>sts ts
def sts:List Ty→List UInt8
 | []=>[]
 | t :: ts=>st t++sts ts
end
structure Tabs (w:World):Prop where
 asc:Lib.TabIs Tryz.prog w "strings.asciiSpace" .u8 Lib.asciiSpaceTab
 kinds:fB w
theorem Tabs.below {w w':World} (h:Tabs w) (hb:Below w.heap.size w w'):Tabs w':=⟨aAc hb h.asc,h.kinds.below hb⟩
def iE (T:Ty):Prop:=∀ w,Tabs w→Calls Tryz.prog 23 #[.string (bJ (text T))] w (dH T (st T) w)
structure Kid where
 t:TypeId
 u:Value
 T:Ty
 R:World→(Nat→Prop)→List Cell→Prop
 Rp:World→(Nat→Prop)→List Cell→Prop
 fp:Nat→Prop
def Kid.v (k:Kid):Value:=.iface k.t k.u
def Kids (B:Nat) (w:World) (ks:List Kid):Prop :=
 (∀ k∈ks,pW Tryz.prog B k.t k.u k.T (st k.T) k.R k.Rp∧k.R w k.fp [])∧ks.Pairwise fun a b=>∀ q,a.fp q→¬ b.fp q
theorem Kids.nil (B:Nat) (w:World):Kids B w []:=⟨by simp,List.Pairwise.nil⟩
theorem Kids.below {B:Nat} {w w':World} {ks:List Kid} (h:Kids B w ks) (hb:Below w.heap.size w w'):Kids B w' ks :=
 ⟨fun k hk=>⟨(h.1 k hk).1,(h.1 k hk).1.frame (h.1 k hk).2 fun q hq=>hb.block q ((h.1 k hk).1.lo (h.1 k hk).2 q hq).2⟩,h.2⟩
theorem Kids.snoc {B:Nat} {w w':World} {ks:List Kid} (h:Kids B w ks) (hB:B≤w.heap.size) (hb:Below w.heap.size w w') {k:Kid} (hk:pW Tryz.prog w.heap.size k.t k.u k.T (st k.T) k.R k.Rp) (hR:k.R w' k.fp []):Kids B w' (ks++[k]):=by
 refine ⟨fun x hx=>?_,?_⟩
 · rcases mem_append.1 hx with hx|hx
   · exact (h.below hb).1 x hx
   · rw[mem_singleton.1 hx]
     exact ⟨hk.low hB,hR⟩
 · refine pairwise_append.2 ⟨h.2,pairwise_singleton _ _,fun a ha b Yj q hq OX=>?_⟩
   rw[mem_singleton.1 Yj] at OX;have h1:=((h.1 a ha).1.lo (h.1 a ha).2 q hq).2;have h2:=(hk.lo hR q OX).1;omega
theorem qH:ElT Tryz.prog 72 59 .nilIface 1 16:=⟨underlying72,info_parts (by kernel_rfl),rfl⟩
def lT (L:List UInt8) (ls:List (List UInt8)) (w:World) (e:Ending) (w':World):Prop :=
 ∃ nm v,e=.returned (.tuple #[.string nm,v])∧nm.toList=L∧Strs w' w.heap.size v ls∧Below w.heap.size w w'
theorem lJ (l:List UInt8):(bJ l).data.toList=l:=rfl
theorem dH.ret {T:Ty} {st:List UInt8} {w:World}:∀ e w',dH T st w e w'→∃ v,e=.returned v∧dH T st w (.returned v) w':=by
 rintro e w' ⟨t,u,R,Rp,fp,rfl,h⟩
 exact ⟨_,rfl,t,u,R,Rp,fp,rfl,h⟩
theorem jF (w:World) (ht:Tabs w) (nm inner:List UInt8) (ls:List (List UInt8)) (hw:gI nm) (hn:nm.length+inner.length≤999998) (ha:∀ c∈inner,c.toNat<128) (Xg:parts Lib.trimSpace (inner++[41]) [] 0=ls) :
 Calls Tryz.prog 31 #[.string (bJ (nm++[40]++inner++[41]))] w (lT nm ls w):=by
 have e:nm++[40]++inner++[41]=nm++40 :: (inner++[41]):=by simp
 rw[e]
 refine (yU w (bJ (nm++40 :: (inner++[41]))) nm inner (lJ _) (by rw[lJ];exact oN nm _ hw) ?_ (fun c hc=>?_) ht.asc).mono ?_
 · show (nm++40 :: (inner++[41])).toArray.size≤1000000
   simp;omega
 · rw[lJ] at hc
   simp only[mem_append,mem_cons,not_mem_nil,or_false] at hc;rcases hc with hc|rfl|hc|rfl
   · exact (hw c hc).2.2.2.2
   · decide
   · exact ha c hc
   · decide
 · rintro e w' ⟨v,rfl,hv,hb⟩
   rw[Xg] at hv
   exact ⟨_,v,rfl,cZ nm,hv,hb⟩
theorem dH.later {T:Ty} {s:List UInt8} {w w1:World} (hb:Below w.heap.size w w1) {e:Ending} {w':World} (h:dH T s w1 e w'):dH T s w e w':=by
 obtain ⟨t,u,R,Rp,fp,rfl,cs,hR,Ei⟩:=h
 exact ⟨t,u,R,Rp,fp,rfl,cs.low hb.size,hR,hb.trans (Ei.mono hb.size)⟩
theorem Below.fr {w w':World} (hb:Below w.heap.size w w'):F0 w w':=⟨hb.os,hb.tape,hb.output,hb.size,fun k hk _=>hb.block k hk⟩
theorem Kids.keep {B:Nat} {w w':World} {ks:List Kid} (h:Kids B w ks) (hb:∀ k∈ks,∀ q,k.fp q→w'.heap[q]?=w.heap[q]?):Kids B w' ks :=
 ⟨fun k hk=>⟨(h.1 k hk).1,(h.1 k hk).1.frame (h.1 k hk).2 (hb k hk)⟩,h.2⟩
theorem Kids.lt {B:Nat} {w:World} {ks:List Kid} (h:Kids B w ks) {k:Kid} (hk:k∈ks) {q:Nat} (hq:k.fp q):B≤q∧q<w.heap.size:=(h.1 k hk).1.lo (h.1 k hk).2 q hq
def Apart (l:Value) (ks:List Kid):Prop:=∀ k∈ks,∀ q,k.fp q→l.ownBlock≠some q
theorem Kids.more {B:Nat} {wr w2 w3:World} {ks:List Kid} (h:Kids B wr ks) (hB:B≤wr.heap.size) (hb:Below wr.heap.size wr w2) {k:Kid} (hk:pW Tryz.prog wr.heap.size k.t k.u k.T (st k.T) k.R k.Rp) (hR:k.R w2 k.fp [])
 {l l':Value} (hl:∀ q,l.ownBlock=some q→q<wr.heap.size) (ha:Apart l ks) {o:Obj} {n:Nat} {xs:List Value} (RX:dE (w2.alloc o) w3 59 1 l l' n xs):Kids B w3 (ks++[k])∧Apart l' (ks++[k]):=by
 have h2:=h.snoc hB hb hk hR;have DX:=hb.size
 have RY:∀ x∈ks++[k],∀ q,x.fp q→l.ownBlock≠some q∧q<w2.heap.size:=by
  intro x hx q hq
  refine ⟨?_,(h2.lt hx hq).2⟩;rcases mem_append.1 hx with hx|hx
  · exact ha x hx q hq
  · rw[mem_singleton.1 hx] at hq
    have:=(hk.lo hR q hq).1;intro he;have:=hl q he;omega
 refine ⟨h2.keep fun x hx q hq=>?_,fun x hx q hq=>?_⟩
 · obtain ⟨h1,h3⟩:=RY x hx q hq
   exact (RX.2.1.block q (by simp;omega) (fun e=>h1 e.symm)).trans (Below.heap_alloc _ _ _ h3)
 · obtain ⟨h1,h3⟩:=RY x hx q hq
   rcases RX.2.2 with e|⟨e,-⟩
   · rw[e];exact h1
   · rw[e];simp;omega
theorem aFT (t:TypeId) (u:Value) (w:World):Calls Tryz.prog 33 #[.iface t u] w fun e w'=>e=.returned (.pointer (some ⟨w.heap.size,0,none⟩))∧w'=w.alloc (.cells #[.slice none 0 0,.iface t u] 130):=by
 go_enter func33,ntmps33;go_wp2;go_ret
 exact ⟨rfl,rfl⟩
theorem zK (T:Ty) (w:World) (L:List UInt8) (hi:Lib.indexByte L 40=-1) (h1:¬ L=[70,105,120,101,100,83,116,114,105,110,103]) (h2:¬ L=[65,114,114,97,121]) (h3:¬ L=[78,117,108,108,97,98,108,101])
 (h4:¬ L=[76,111,119,67,97,114,100,105,110,97,108,105,116,121]) (h5:¬ L=[77,97,112]) (h6:¬ L=[84,117,112,108,101])
 (hp:Calls Tryz.prog 36 #[.string (bJ L),.slice none 0 0] w (dH T (st T) w)) :
 Calls Tryz.prog 23 #[.string (bJ L)] w (dH T (st T) w):=by
 have Hf:=rU w (bJ L) (by rw[lJ];exact hi);have hl:=cZ L;generalize bJ L=nm at Hf hl hp;have n1:(!(L == [70,105,120,101,100,83,116,114,105,110,103]))=true:=by simpa using h1
 go_enter func23,ntmps23
 go_wp2_with (go_at_call 31;refine Hf.mono ?_;rintro e w1 ⟨rfl,rfl⟩)
 go_loop [21] (fun i=>i=.int .i64 0) (fun _=>0)
 case atStart=>exact rfl
 case round =>
  subst hrel
  go_wp2_with (go_at_call 36;refine hp.mono ?_;rintro e w2 EQ;obtain ⟨v,rfl,EQ⟩:=dH.ret e w2 EQ)
  go_ret
  exact EQ
theorem aMu (n:Nat) (hn:n=5∨n=16):iE (.fix n):=by
 intro w Dk
 have Hf:Calls Tryz.prog 31 #[.string (bJ (text (.fix n)))] w (lT [70,105,120,101,100,83,116,114,105,110,103] [digits n] w):=by
  rw[text];have hd:=kE n;have hs:=iM hd.1 hd.2
  exact jF w Dk [70,105,120,101,100,83,116,114,105,110,103] (digits n) [digits n] (by unfold gI;decide) (by have:=(aCP hn).2;simp;omega) hs.ascii (lS hs)
 generalize bJ (text (.fix n))=txt at Hf;go_enter func23,ntmps23
 go_wp2_with (first
  | (go_at_call 31;refine Hf.mono ?_;rintro e w1 ⟨nm,v,rfl,hl,hv,hb⟩;have AZ:=aIX n hn w1 nm hl _ v hv)
  | (go_at_call 36;refine AZ.mono ?_;rintro e w2 EQ;obtain ⟨v,rfl,EQ⟩:=dH.ret e w2 EQ))
 go_ret;rw[st]
 exact dH.later hb EQ
theorem aMy (k:Num) (hp:∀ (w:World),fB w→∀ nm:ByteArray,nm.toList=k.name→Calls Tryz.prog 36 #[.string nm,.slice none 0 0] w (dH (.num k) [] w)):iE (.num k):=by
 intro w Dk;have h:=hp w Dk.kinds (bJ k.name) (cZ _);rw[text]
 refine zK (.num k) w k.name (index_none _ (yQ k)) ?_ ?_ ?_ ?_ ?_ ?_ (by rw[st];exact h)<;>(cases k<;>decide)
theorem aMz:iE .str:=by
 intro w Dk;have h:=aJd w (bJ [83,116,114,105,110,103]) (cZ _);rw[text]
 exact zK .str w [83,116,114,105,110,103] (index_none _ (by unfold gI;decide)) (by decide) (by decide) (by decide) (by decide) (by decide) (by decide) (by rw[st];exact h)
end Go.Proofs.YtcidlnjpabgioaaGreatDoor
