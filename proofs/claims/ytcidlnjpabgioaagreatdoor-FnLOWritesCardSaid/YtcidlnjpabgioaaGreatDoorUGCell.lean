import Derived.Test.YtcidlnjpabgioaaGreatDoorUGCellB
import Derived.Test.YtcidlnjpabgioaaGreatDoorUGTreeN
set_option maxHeartbeats 4000000
set_option maxRecDepth 100000
namespace Go.Proofs.YtcidlnjpabgioaaGreatDoor
open Tryz List Go.RowKit
def aMg (w:World) (X:Nat):Nat:=match w.cell? ⟨X,4,none⟩ with
 | some (.string s)=>s.size
 | _=>0
theorem aBp {w:World} {X:Nat} {r0 r1 r2 r3:Int} {s:ByteArray} (h:w.heap[X]?=some (.cells (cO r0 r1 r2 r3 s) 35 (0,0))):aMg w X=s.size:=by
 have:w.cell? ⟨X,4,none⟩=some (.string s):=crw h rfl;unfold aMg;rw[this]
theorem aHS {wr w2:World} {p X b:Nat} {s:ByteArray} (hp:X≠p) (Ag:wr.heap[X]?=some (.cells (cO 0 0 0 0 s) 35 (0,0))) (hf:Fr (fun q=>q=p) wr w2) (hb:b<256) (hs:s.size≤1000) :
 ∃ (c:ByteArray),c.size=1∧¬ (9223372036854775807<s.size+c.size)∧IntKind.u8.wrap (b:Int)=(b:Int) ∧
  (convert 22 9 (.slice (some ⟨w2.heap.size,0,none⟩) 1 1)).run Tryz.prog (w2.alloc (.cells #[.int .u8 (b:Int)] 5))=.ok (.string c) (w2.alloc (.cells #[.int .u8 (b:Int)] 5)) ∧
  w2.heap[X]?=some (.cells (cO 0 0 0 0 s) 35 (0,0))∧w2.cell? ⟨X,4,none⟩=some (.string s)∧(∀ o,(w2.alloc o).cell? ⟨X,4,none⟩=some (.string s))∧∀ o,(w2.alloc o).frozen? ⟨X,4,none⟩=false:=by
 have BI:=(hf.block X (aC Ag) hp).trans Ag
 refine ⟨bJ [b.toUInt8],gW _,by rw[gW];simp;omega,by rw[IntKind.wrap_u8'];omega,qI w2 _ b.toUInt8 (by simp[Nat.toUInt8,UInt8.toNat_ofNat'];omega),BI,crw BI rfl,fun o=>?_,fun o=>?_⟩
 · rw[ca (aC BI),cell_of_row _ _ _ _ _ _ BI];rfl
 · rw[World.frozen?_alloc_old _ _ _ (Nat.ne_of_lt (aC BI))];exact fzj _ BI
theorem aKg (n:Nat) (hn:n≤1000):kM (.fix n):=by
 intro B w p h CW;have He:(bJ (Ty.fix n).nm).toList=[70,105,120,101,100,83,116,114,105,110,103]:=cZ _;have ER:=h.1;show Calls _ _ #[_,.agg #[.string (bJ (Ty.fix n).nm),.int .i64 n,.slice none 0 0]] _ _;generalize bJ (Ty.fix n).nm=nm at He;go_enter func9,ntmps9
 go_wp2_with fail
 have hW:=mV.of w #[.string nm,.int .i64 n,.slice none 0 0];unfold cO at hW;generalize ((w.alloc _).alloc _).alloc _=W at hW ⊢;have BA:bT B W p:=h.fr hW.fr (fun h=>h) (fun _ _ h=>h);have Ef:p<W.heap.size:=by rw[hW.size];omega
 have U3:=hW.row;have DY:W.cell? ⟨w.heap.size,1,none⟩=some (.int .i64 n):=by rw[cell_of_row _ _ _ _ _ _ hW.box];rfl
 go_wp2_with fail
 go_loopw [167] (fun _ wr=>∃ (s:ByteArray),s.size≤n∧wr.heap[w.heap.size+1+1]?=some (.cells (cO 0 0 0 0 s) 35 (0,0))∧bT B wr p∧Fr (fun q=>q=p∨q=w.heap.size+1+1) W wr) (fun _ wr=>n - aMg wr (w.heap.size+1+1))
 case atStart=>exact ⟨⟨#[]⟩,Nat.zero_le _,U3,BA,Fr.refl _ _⟩
 case round =>
  obtain ⟨s,hk,Ag,Bc,Ak⟩:=hrel;have VS:wr.cell? ⟨w.heap.size+1+1,4,none⟩=some (.string s):=crw Ag rfl;have VV:=fzj 4 Ag;have ED:=Ak.aA DY (by show ¬ (w.heap.size=p∨w.heap.size=w.heap.size+1+1);omega)
  by_cases Ar:s.size<n
  · have FW:(s.size:Int)<n:=by omega
    have QN:bT B wr.drew p:=Bc.fr ((Fr.refl (fun _=>False) wr).drew) (fun h=>h) (fun _ _ h=>h);have Rj:s.size≤1000:=by omega
    have Am:w.heap.size+1+1≠p:=by omega
    go_wp2_with fail
    go_region_with (first
     | (go_at_call 20;refine (fZ B _ p QN).mono ?_;rintro e w2 ⟨b,hb,rfl,IV,Ae⟩;obtain ⟨c,A8,U6,q3,hB,BI,VR,VU⟩:=aHS Am Ag Ae.aH hb Rj))
    all_goals
     go_wp2;go_roundw
     case rel =>
      have BK:=(Below.heap_alloc w2 (.cells #[.int .u8 (b:Int)] 5) _ (aC BI)).trans BI;have Fp:Fr (fun q=>q=p∨q=w.heap.size+1+1) W w2:=Ak.trans (Ae.aH) (fun _ _ h=>.inl h)
      refine ⟨s++c,by rw[ByteArray.size_append];omega,nX BK _,IV.fr (((Fr.refl (fun q=>q=w.heap.size+1+1) w2).alloc _).setCell (.inl rfl) _) (by show ¬ p=w.heap.size+1+1;omega) (fun q hq=>by show ¬ q=w.heap.size+1+1;omega),(Fp.alloc _).setCell (.inl (.inr rfl)) _⟩
     case measure =>
      have BK:=(Below.heap_alloc w2 (.cells #[.int .u8 (b:Int)] 5) _ (aC BI)).trans BI;rw[aBp Ag,aBp (nX BK _),ByteArray.size_append];omega
  · have J3:¬ (s.size:Int)<n:=by omega
    have Az:=aCp hW CW Ak;have x0:wr.cell? ⟨w.heap.size+1+1,0,none⟩=some (.int .u64 0):=crw Ag rfl;have x1:wr.cell? ⟨w.heap.size+1+1,1,none⟩=some (.int .u64 0):=crw Ag rfl;have x2:wr.cell? ⟨w.heap.size+1+1,2,none⟩=some (.int .u64 0):=crw Ag rfl;have x3:wr.cell? ⟨w.heap.size+1+1,3,none⟩=some (.int .u64 0):=crw Ag rfl;have x4:wr.cell? ⟨w.heap.size+1+1,4,none⟩=some (.string s):=crw Ag rfl;have x5:wr.cell? ⟨w.heap.size+1+1,5,none⟩=some (.bool false):=crw Ag rfl;have x6:wr.cell? ⟨w.heap.size+1+1,6,none⟩=some (.slice none 0 0):=crw Ag rfl;have x7:wr.cell? ⟨w.heap.size+1+1,7,none⟩=some (.slice none 0 0):=crw Ag rfl;have r0:wr.cell? ⟨w.heap.size+1,0,none⟩=some (.int .u64 0):=crw Az rfl;have r1:wr.cell? ⟨w.heap.size+1,1,none⟩=some (.int .u64 0):=crw Az rfl;have r2:wr.cell? ⟨w.heap.size+1,2,none⟩=some (.int .u64 0):=crw Az rfl;have r3:wr.cell? ⟨w.heap.size+1,3,none⟩=some (.int .u64 0):=crw Az rfl;have r4:wr.cell? ⟨w.heap.size+1,4,none⟩=some (.string ⟨#[]⟩):=crw Az rfl;have r5:wr.cell? ⟨w.heap.size+1,5,none⟩=some (.bool false):=crw Az rfl;have r6:wr.cell? ⟨w.heap.size+1,6,none⟩=some (.slice none 0 0):=crw Az rfl;have r7:wr.cell? ⟨w.heap.size+1,7,none⟩=some (.slice none 0 0):=crw Az rfl;have z0:wr.frozen? ⟨w.heap.size+1,0,none⟩=false:=fzj _ Az;have z1:wr.frozen? ⟨w.heap.size+1,1,none⟩=false:=fzj _ Az;have z2:wr.frozen? ⟨w.heap.size+1,2,none⟩=false:=fzj _ Az;have z3:wr.frozen? ⟨w.heap.size+1,3,none⟩=false:=fzj _ Az;have z4:wr.frozen? ⟨w.heap.size+1,4,none⟩=false:=fzj _ Az;have z5:wr.frozen? ⟨w.heap.size+1,5,none⟩=false:=fzj _ Az;have z6:wr.frozen? ⟨w.heap.size+1,6,none⟩=false:=fzj _ Az;have z7:wr.frozen? ⟨w.heap.size+1,7,none⟩=false:=fzj _ Az;clear VS VV;go_wp2
    refine bodyPost_ret (by simp[results,results9,go_sem,r0,r1,r2,r3,r4,r5,r6,r7];try rfl) rfl ?_
    have h8:=fun (a b c d e f g h:Value)=>((((((((Fr.refl (fun q=>q=w.heap.size+1) wr).setCell (p:=⟨w.heap.size+1,0,none⟩) (.inl rfl) a).setCell (p:=⟨w.heap.size+1,1,none⟩) (.inl rfl) b).setCell (p:=⟨w.heap.size+1,2,none⟩) (.inl rfl) c).setCell (p:=⟨w.heap.size+1,3,none⟩) (.inl rfl) d).setCell (p:=⟨w.heap.size+1,4,none⟩) (.inl rfl) e).setCell (p:=⟨w.heap.size+1,5,none⟩) (.inl rfl) f).setCell (p:=⟨w.heap.size+1,6,none⟩) (.inl rfl) g).setCell (p:=⟨w.heap.size+1,7,none⟩) (.inl rfl) h
    have h9:∀ (a b c d e f g h:Value),Fr (fun q=>q=p) w _:=fun (a b c d e f g h:Value)=>(((((((((hW.fr.mono (S':=fun q=>q=p) (fun _ _ h=>h.elim)).trans Ak (fun q hq h=>h.resolve_right (by omega))).setCell (p:=⟨w.heap.size+1,0,none⟩) (.inr (by show w.heap.size≤w.heap.size+1;omega)) a).setCell (p:=⟨w.heap.size+1,1,none⟩) (.inr (by show w.heap.size≤w.heap.size+1;omega)) b).setCell (p:=⟨w.heap.size+1,2,none⟩) (.inr (by show w.heap.size≤w.heap.size+1;omega)) c).setCell (p:=⟨w.heap.size+1,3,none⟩) (.inr (by show w.heap.size≤w.heap.size+1;omega)) d).setCell (p:=⟨w.heap.size+1,4,none⟩) (.inr (by show w.heap.size≤w.heap.size+1;omega)) e).setCell (p:=⟨w.heap.size+1,5,none⟩) (.inr (by show w.heap.size≤w.heap.size+1;omega)) f).setCell (p:=⟨w.heap.size+1,6,none⟩) (.inr (by show w.heap.size≤w.heap.size+1;omega)) g).setCell (p:=⟨w.heap.size+1,7,none⟩) (.inr (by show w.heap.size≤w.heap.size+1;omega)) h
    exact ⟨.mk 0 0 0 0 s false [] [],⟨by show s.size=n;omega,rfl,rfl,rfl,rfl,rfl,rfl,rfl⟩,rfl,Bc.fr (h8 _ _ _ _ _ _ _ _) (by show ¬ p=w.heap.size+1;omega) (fun q hq=>by show ¬ q=w.heap.size+1;omega),h9 _ _ _ _ _ _ _ _⟩
def xE (B:Nat) (w:World) (v:Value) (n:Nat):Prop:=∃ a c,v=.slice a n c∧n≤c∧c≤maxLen∧(a=none→n=0) ∧
 ∀ ad,a=some ad→ad.block<B∧ad.spot=none∧∀ j,j<n→∃ b:UInt8,w.cell? (ad.add j)=some (.int .u8 b.toNat)
theorem aLG {w:World} {v:Value} {n:Nat} (h:xE w.heap.size w v n):bT w.heap.size (w.alloc (.cells #[v,.int .u64 0] 26)) w.heap.size:=by
 obtain ⟨a,c,rfl,h1,h2,h3,h4⟩:=h
 refine ⟨Nat.le_refl _,a,n,c,0,heap_alloc_new w _,by omega,by omega,h1,h2,h3,fun ad D9=>?_⟩;obtain ⟨h5,h6,h7⟩:=h4 ad D9
 refine ⟨h5,h6,fun j hj=>?_⟩;obtain ⟨b,hb⟩:=h7 j hj
 exact ⟨b,((Fr.refl (fun _=>False) w).alloc _).aA hb (fun h=>h)⟩
def aEL:Ty→Nat
 | .fix n=>n
 | _=>0
def aNv (T:Ty):ByteArray:=bJ (List.replicate (aEL T) 0)
def valOf (T:Ty) (c:Cell):Cell:=if c.null then .mk 0 0 0 0 (aNv T) false [] [] else c
def aFO (c:Cell):UInt8:=if c.null then 1 else 0
def aNx (T:Ty) (B:Nat) (W1 wr:World) (rv vv mk i:Value):Prop:=∃ (k:Nat) (σ:List Cell),i=.int .i64 k∧σ.length+k≤30∧mk=.string (bJ (σ.map aFO))∧(∀ c∈σ,c=lN∨Flat T c)∧Two W1.heap.size wr 35 8 rv vv σ.length (σ.flatMap Cell.fM) ((σ.map (valOf T)).flatMap Cell.fM)∧bT B wr B∧Fr (fun q=>q=B) W1 wr
theorem aNx.start {T:Ty} {B:Nat} {W1:World} {k:Nat} {i:Value} (hi:i=.int .i64 k) (hk:k≤30) (hc:bT B W1 B):aNx T B W1 W1 (.slice none 0 0) (.slice none 0 0) (.string ⟨#[]⟩) i :=
 ⟨k,[],hi,by simpa using hk,rfl,by simp,⟨World.ownsRow_nil _ _ _ _,World.ownsRow_nil _ _ _ _,by simp[Value.ownBlock],by simp[Value.ownBlock],by simp[Value.ownBlock]⟩,hc,Fr.refl _ _⟩
theorem aNx.next {T:Ty} {B:Nat} {W1 W2 u1 u2 u3 u4:World} {rv vv rv' vv':Value} {k:Nat} {σ:List Cell} {x:Cell} {b:UInt8} {X Y:List Value} {i mk:Value} (CZ:B<W1.heap.size)
 (hk:σ.length+k≤30) (Ar:0<k) (hσ:∀ c∈σ,c=lN∨Flat T c) (hx:x=lN∨Flat T x) (XG:Two W1.heap.size W2 35 8 rv vv σ.length (σ.flatMap Cell.fM) ((σ.map (valOf T)).flatMap Cell.fM))
 (hW:Fr (fun q=>q=B) W1 W2) (Bc:bT B W2 B)
 (f1:F0 W2 u1) (h5:dE u1 u2 35 8 rv rv' (σ.length+1) (σ.flatMap Cell.fM++X)) (f2:F0 u2 u3) (h9:dE u3 u4 35 8 vv vv' (σ.length+1) ((σ.map (valOf T)).flatMap Cell.fM++Y))
 (hX:X=x.fM) (hY:Y=(valOf T x).fM) (G7:mk=.string (bJ (σ.map aFO)++⟨#[b]⟩)) (hb:aFO x=b) (hi:i=.int .i64 ((k:Int) - 1)):aNx T B W1 u4 rv' vv' mk i:=by
 obtain ⟨h1,h2⟩:=Two.done hW.size XG f1 h5 f2 h9;have AC:∀ q,(rv.ownBlock=some q∨vv.ownBlock=some q)→W1.heap.size≤q:=fun q h=>h.elim (XG.la q) (XG.lb q)
 refine ⟨k - 1,σ++[x],by rw[hi,Int.natCast_sub Ar];rfl,by simp;omega,?_,?_,?_,Bc.fr h2 (fun h=>absurd (AC _ h) (by omega)) (fun q hq h=>absurd (AC _ h) (by omega)),hW.trans h2 (fun q hq h=>absurd (AC _ h) (by omega))⟩
 · rw[G7,map_append,show (⟨#[b]⟩:ByteArray)=bJ [b] from rfl,fK,← hb];rfl
 · intro c hc
   rcases mem_append.1 hc with h|h
   · exact hσ c h
   · rw[mem_singleton.1 h];exact hx
 · rw[length_append,map_append,flatMap_append,flatMap_append,map_singleton,flatMap_singleton,flatMap_singleton,← hX,← hY]
   exact h1
def aPq (T:Ty) (Y:Nat) (W2 wi:World):Prop:=∃ j,j≤aEL T∧wi.heap.size=W2.heap.size∧wi.heap[Y]?=some (.cells (cO 0 0 0 0 (bJ (List.replicate j 0))) 35 (0,0))∧Fr (fun q=>q=Y) W2 wi
theorem aPq.next {T:Ty} {Y j:Nat} {W2 wi:World} (h:j<aEL T) (hs:wi.heap.size=W2.heap.size) (hr:wi.heap[Y]?=some (.cells (cO 0 0 0 0 (bJ (List.replicate j 0))) 35 (0,0))) (hf:Fr (fun q=>q=Y) W2 wi) :
 aPq T Y W2 (wi.setCell ⟨Y,4,none⟩ (.string (bJ (List.replicate j 0)++⟨#[0]⟩))):=by
 refine ⟨j+1,h,by rw[World.size_setCell];exact hs,?_,hf.setCell (.inl rfl) _⟩;rw[show (⟨#[0]⟩:ByteArray)=bJ [0] from rfl,fK,show List.replicate j (0:UInt8)++[0]=List.replicate (j+1) 0 from (replicate_succ' ..).symm]
 exact nX hr _
theorem aKl:kM .str:=by
 intro B w p h CW;have He:(bJ Ty.str.nm).toList=[83,116,114,105,110,103]:=cZ _;have ER:=h.1;show Calls _ _ #[_,.agg #[.string (bJ Ty.str.nm),.int .i64 (0:Nat),.slice none 0 0]] _ _;generalize bJ Ty.str.nm=nm at He;go_enter func9,ntmps9
 go_wp2_with fail
 have hW:=mV.of w #[.string nm,.int .i64 0,.slice none 0 0];unfold cO at hW;generalize ((w.alloc _).alloc _).alloc _=W at hW ⊢;have BA:bT B W p:=h.fr hW.fr (fun h=>h) (fun _ _ h=>h);have Ef:p<W.heap.size:=by rw[hW.size];omega
 go_wp2_with (go_at_call 20;refine (fZ B _ p BA).mono ?_;rintro e w1 ⟨b0,Jz,rfl,Cj,Ad⟩)
 have Di:(0:Int)≤(b0:Int) % 5∧(b0:Int) % 5≤4:=by omega
 have En:w1.heap[w.heap.size+1+1]?=some (.cells (cO 0 0 0 0 ⟨#[]⟩) 35 (0,0)):=(Ad.block _ (by rw[hW.size];omega) (by show ¬ w.heap.size+1+1=p;omega)).trans hW.row
 go_loopw [11] (fun m wr=>∃ (k:Nat) (s:ByteArray),m=.int .i64 k∧s.size+k≤4∧wr.heap[w.heap.size+1+1]?=some (.cells (cO 0 0 0 0 s) 35 (0,0))∧bT B wr p∧Fr (fun q=>q=p∨q=w.heap.size+1+1) W wr) (fun m _=>(intOf m).toNat)
 case atStart=>exact ⟨b0 % 5,⟨#[]⟩,by go_num,by show 0+b0 % 5≤4;omega,En,Cj,Ad.mono (fun _ _ h=>.inl h)⟩
 case round =>
  obtain ⟨k,s,rfl,hk,Ag,Bc,Ak⟩:=hrel;have VS:wr.cell? ⟨w.heap.size+1+1,4,none⟩=some (.string s):=crw Ag rfl;have VV:=fzj 4 Ag
  by_cases Ar:0<k
  · have FW:(0:Int)<k:=by omega
    have QN:bT B wr.drew p:=Bc.fr ((Fr.refl (fun _=>False) wr).drew) (fun h=>h) (fun _ _ h=>h);have Rj:s.size≤4:=by omega
    have Am:w.heap.size+1+1≠p:=by omega
    go_wp2_with fail
    go_region_with (first
     | (go_at_call 20;refine (fZ B _ p QN).mono ?_;rintro e w2 ⟨b,hb,rfl,IV,Ae⟩;obtain ⟨c,A8,U6,q1,q2,q3,hB,BI,VR,VU⟩:=aJl Am Ag Ae.aH hb Rj))
    all_goals
     go_wp2;go_roundw
     case rel =>
      have BK:=(Below.heap_alloc w2 (.cells #[.int .u8 (97+(b:Int) % 6)] 5) _ (aC BI)).trans BI;have Fp:Fr (fun q=>q=p∨q=w.heap.size+1+1) W w2:=Ak.trans (Ae.aH) (fun _ _ h=>.inl h)
      refine ⟨k - 1,s++c,by go_num,by rw[ByteArray.size_append];omega,nX BK _,IV.fr (((Fr.refl (fun q=>q=w.heap.size+1+1) w2).alloc _).setCell (.inl rfl) _) (by show ¬ p=w.heap.size+1+1;omega) (fun q hq=>by show ¬ q=w.heap.size+1+1;omega),(Fp.alloc _).setCell (.inl (.inr rfl)) _⟩
     case measure=>simp[intOf];omega
  · have J3:¬ (0:Int)<k:=by omega
    have Az:=aCp hW CW Ak;have x0:wr.cell? ⟨w.heap.size+1+1,0,none⟩=some (.int .u64 0):=crw Ag rfl;have x1:wr.cell? ⟨w.heap.size+1+1,1,none⟩=some (.int .u64 0):=crw Ag rfl;have x2:wr.cell? ⟨w.heap.size+1+1,2,none⟩=some (.int .u64 0):=crw Ag rfl;have x3:wr.cell? ⟨w.heap.size+1+1,3,none⟩=some (.int .u64 0):=crw Ag rfl;have x4:wr.cell? ⟨w.heap.size+1+1,4,none⟩=some (.string s):=crw Ag rfl;have x5:wr.cell? ⟨w.heap.size+1+1,5,none⟩=some (.bool false):=crw Ag rfl;have x6:wr.cell? ⟨w.heap.size+1+1,6,none⟩=some (.slice none 0 0):=crw Ag rfl;have x7:wr.cell? ⟨w.heap.size+1+1,7,none⟩=some (.slice none 0 0):=crw Ag rfl;have r0:wr.cell? ⟨w.heap.size+1,0,none⟩=some (.int .u64 0):=crw Az rfl;have r1:wr.cell? ⟨w.heap.size+1,1,none⟩=some (.int .u64 0):=crw Az rfl;have r2:wr.cell? ⟨w.heap.size+1,2,none⟩=some (.int .u64 0):=crw Az rfl;have r3:wr.cell? ⟨w.heap.size+1,3,none⟩=some (.int .u64 0):=crw Az rfl;have r4:wr.cell? ⟨w.heap.size+1,4,none⟩=some (.string ⟨#[]⟩):=crw Az rfl;have r5:wr.cell? ⟨w.heap.size+1,5,none⟩=some (.bool false):=crw Az rfl;have r6:wr.cell? ⟨w.heap.size+1,6,none⟩=some (.slice none 0 0):=crw Az rfl;have r7:wr.cell? ⟨w.heap.size+1,7,none⟩=some (.slice none 0 0):=crw Az rfl;have z0:wr.frozen? ⟨w.heap.size+1,0,none⟩=false:=fzj _ Az;have z1:wr.frozen? ⟨w.heap.size+1,1,none⟩=false:=fzj _ Az;have z2:wr.frozen? ⟨w.heap.size+1,2,none⟩=false:=fzj _ Az;have z3:wr.frozen? ⟨w.heap.size+1,3,none⟩=false:=fzj _ Az;have z4:wr.frozen? ⟨w.heap.size+1,4,none⟩=false:=fzj _ Az;have z5:wr.frozen? ⟨w.heap.size+1,5,none⟩=false:=fzj _ Az;have z6:wr.frozen? ⟨w.heap.size+1,6,none⟩=false:=fzj _ Az;have z7:wr.frozen? ⟨w.heap.size+1,7,none⟩=false:=fzj _ Az;clear VS VV;go_wp2
    refine bodyPost_ret (by simp[results,results9,go_sem,r0,r1,r2,r3,r4,r5,r6,r7];try rfl) rfl ?_
    have h8:=fun (a b c d e f g h:Value)=>((((((((Fr.refl (fun q=>q=w.heap.size+1) wr).setCell (p:=⟨w.heap.size+1,0,none⟩) (.inl rfl) a).setCell (p:=⟨w.heap.size+1,1,none⟩) (.inl rfl) b).setCell (p:=⟨w.heap.size+1,2,none⟩) (.inl rfl) c).setCell (p:=⟨w.heap.size+1,3,none⟩) (.inl rfl) d).setCell (p:=⟨w.heap.size+1,4,none⟩) (.inl rfl) e).setCell (p:=⟨w.heap.size+1,5,none⟩) (.inl rfl) f).setCell (p:=⟨w.heap.size+1,6,none⟩) (.inl rfl) g).setCell (p:=⟨w.heap.size+1,7,none⟩) (.inl rfl) h
    have h9:∀ (a b c d e f g h:Value),Fr (fun q=>q=p) w _:=fun (a b c d e f g h:Value)=>(((((((((hW.fr.mono (S':=fun q=>q=p) (fun _ _ h=>h.elim)).trans Ak (fun q hq h=>h.resolve_right (by omega))).setCell (p:=⟨w.heap.size+1,0,none⟩) (.inr (by show w.heap.size≤w.heap.size+1;omega)) a).setCell (p:=⟨w.heap.size+1,1,none⟩) (.inr (by show w.heap.size≤w.heap.size+1;omega)) b).setCell (p:=⟨w.heap.size+1,2,none⟩) (.inr (by show w.heap.size≤w.heap.size+1;omega)) c).setCell (p:=⟨w.heap.size+1,3,none⟩) (.inr (by show w.heap.size≤w.heap.size+1;omega)) d).setCell (p:=⟨w.heap.size+1,4,none⟩) (.inr (by show w.heap.size≤w.heap.size+1;omega)) e).setCell (p:=⟨w.heap.size+1,5,none⟩) (.inr (by show w.heap.size≤w.heap.size+1;omega)) f).setCell (p:=⟨w.heap.size+1,6,none⟩) (.inr (by show w.heap.size≤w.heap.size+1;omega)) g).setCell (p:=⟨w.heap.size+1,7,none⟩) (.inr (by show w.heap.size≤w.heap.size+1;omega)) h
    exact ⟨.mk 0 0 0 0 s false [] [],⟨by show s.size≤4;omega,rfl,rfl,rfl,rfl,rfl,rfl,rfl⟩,rfl,Bc.fr (h8 _ _ _ _ _ _ _ _) (by show ¬ p=w.heap.size+1;omega) (fun q hq=>by show ¬ q=w.heap.size+1;omega),h9 _ _ _ _ _ _ _ _⟩
def Words (k r0 r1 r2 r3:Nat):Prop:=r0<256 ^ min 8 k∧r1<256 ^ min 8 (k - 8)∧r2<256 ^ min 8 (k - 16)∧r3<256 ^ min 8 (k - 24)
theorem nU (m R b:Nat) (hR:R<256 ^ m) (hb:b<256):R+b*256 ^ m<256 ^ (m+1):=by
 rw[Nat.pow_succ];have h1:b*256 ^ m≤255*256 ^ m:=Nat.mul_le_mul_right _ (by omega);omega
theorem aHu (R b k:Nat) (hR:R<256 ^ (k % 8)) (hb:b<256):bits BinOp.or IntKind.u64 (R:Int) (IntKind.u64.wrap (IntKind.u64.wrap (b:Int)*2 ^ (8*((k:Int) % 8)).toNat))=((R+b*256 ^ (k % 8):Nat):Int):=by
 have e1:(8*((k:Int) % 8)).toNat=8*(k % 8):=by omega
 have e2:IntKind.u64.wrap (b:Int)=b:=by rw[IntKind.wrap_u64];omega
 have hm:k % 8<8:=Nat.mod_lt _ (by omega);rw[e1,e2];generalize k % 8=m at hm hR;have e3:(2:Int) ^ (8*m)=((256 ^ m:Nat):Int):=by rw[Int.natCast_pow,Int.pow_mul];rfl
 have hp:256 ^ m≤72057594037927936:=Nat.le_trans (Nat.pow_le_pow_right (by omega) (by omega:m≤7)) (by decide);have Yj:b*256 ^ m≤255*72057594037927936:=Nat.mul_le_mul (by omega) hp;rw[e3]
 have e4:IntKind.u64.wrap ((b:Int)*((256 ^ m:Nat):Int))=((b*256 ^ m:Nat):Int):=by
  rw[← Int.natCast_mul,IntKind.wrap_u64];omega
 rw[e4];have h:=bits_join_low .u64 64 (by decide) wraps_u64 (8*m) (R:Int) ((b*256 ^ m:Nat):Int) (by omega) (by rw[e3];omega) (by omega) (by omega) (by rw[e3];exact_mod_cast Nat.mul_mod_left b (256 ^ m)) (by omega);rw[h];omega
theorem aNu {k n r0 r1 r2 r3:Nat} (h:Words k r0 r1 r2 r3) (hk:k≤n):Words n r0 r1 r2 r3 :=
 ⟨Nat.lt_of_lt_of_le h.1 (Nat.pow_le_pow_right (by omega) (by omega)),Nat.lt_of_lt_of_le h.2.1 (Nat.pow_le_pow_right (by omega) (by omega)),
  Nat.lt_of_lt_of_le h.2.2.1 (Nat.pow_le_pow_right (by omega) (by omega)),Nat.lt_of_lt_of_le h.2.2.2 (Nat.pow_le_pow_right (by omega) (by omega))⟩
theorem aLW {wr:World} {X k r0 r1 r2 r3:Nat} {s:ByteArray} (hk:k<32) (Ag:wr.heap[X]?=some (.cells (cO r0 r1 r2 r3 s) 35 (0,0))) (hw:Words k r0 r1 r2 r3) :
 ∃ R:Nat,R<256 ^ (k % 8)∧wr.cell? ⟨X,k / 8,none⟩=some (.int .u64 R)∧∀ w2:World,w2.heap[X]?=some (.cells (cO r0 r1 r2 r3 s) 35 (0,0))→∀ b:Nat,b<256 →
  ∃ r0' r1' r2' r3':Nat,(w2.setCell ⟨X,k / 8,none⟩ (.int .u64 (R+b*256 ^ (k % 8):Nat))).heap[X]?=some (.cells (cO r0' r1' r2' r3' s) 35 (0,0))∧Words (k+1) r0' r1' r2' r3':=by
 obtain ⟨h0,h1,h2,h3⟩:=hw;have hc:=cell_of_row wr X (k / 8) _ _ _ Ag;have:k / 8=0∨k / 8=1∨k / 8=2∨k / 8=3:=by omega
 rcases this with hj|hj|hj|hj<;>rw[hj] at hc ⊢
 · have e:min 8 k=k % 8:=by omega
   rw[e] at h0
   refine ⟨r0,h0,hc,fun w2 h b hb=>⟨r0+b*256 ^ (k % 8),r1,r2,r3,by simp[World.setCell,Array.getElem?_modify,h,cO],?_,?_,?_,?_⟩⟩
   · rw[show min 8 (k+1)=k % 8+1 by omega];exact nU _ _ _ h0 hb
   · rw[show min 8 (k+1 - 8)=min 8 (k - 8) by omega];exact h1
   · rw[show min 8 (k+1 - 16)=min 8 (k - 16) by omega];exact h2
   · rw[show min 8 (k+1 - 24)=min 8 (k - 24) by omega];exact h3
 · have e:min 8 (k - 8)=k % 8:=by omega
   rw[e] at h1
   refine ⟨r1,h1,hc,fun w2 h b hb=>⟨r0,r1+b*256 ^ (k % 8),r2,r3,by simp[World.setCell,Array.getElem?_modify,h,cO],?_,?_,?_,?_⟩⟩
   · rw[show min 8 (k+1)=min 8 k by omega];exact h0
   · rw[show min 8 (k+1 - 8)=k % 8+1 by omega];exact nU _ _ _ h1 hb
   · rw[show min 8 (k+1 - 16)=min 8 (k - 16) by omega];exact h2
   · rw[show min 8 (k+1 - 24)=min 8 (k - 24) by omega];exact h3
 · have e:min 8 (k - 16)=k % 8:=by omega
   rw[e] at h2
   refine ⟨r2,h2,hc,fun w2 h b hb=>⟨r0,r1,r2+b*256 ^ (k % 8),r3,by simp[World.setCell,Array.getElem?_modify,h,cO],?_,?_,?_,?_⟩⟩
   · rw[show min 8 (k+1)=min 8 k by omega];exact h0
   · rw[show min 8 (k+1 - 8)=min 8 (k - 8) by omega];exact h1
   · rw[show min 8 (k+1 - 16)=k % 8+1 by omega];exact nU _ _ _ h2 hb
   · rw[show min 8 (k+1 - 24)=min 8 (k - 24) by omega];exact h3
 · have e:min 8 (k - 24)=k % 8:=by omega
   rw[e] at h3
   refine ⟨r3,h3,hc,fun w2 h b hb=>⟨r0,r1,r2,r3+b*256 ^ (k % 8),by simp[World.setCell,Array.getElem?_modify,h,cO],?_,?_,?_,?_⟩⟩
   · rw[show min 8 (k+1)=min 8 k by omega];exact h0
   · rw[show min 8 (k+1 - 8)=min 8 (k - 8) by omega];exact h1
   · rw[show min 8 (k+1 - 16)=min 8 (k - 16) by omega];exact h2
   · rw[show min 8 (k+1 - 24)=k % 8+1 by omega];exact nU _ _ _ h3 hb
theorem aKk (kk:Num):kM (.num kk):=by
 intro B w p h CW;have n0:((bJ (Ty.num kk).nm).toList == [78,117,108,108,97,98,108,101])=false:=by rw[cZ];cases kk<;>decide
 have n1:((bJ (Ty.num kk).nm).toList == [76,111,119,67,97,114,100,105,110,97,108,105,116,121])=false:=by rw[cZ];cases kk<;>decide
 have n2:((bJ (Ty.num kk).nm).toList == [65,114,114,97,121])=false:=by rw[cZ];cases kk<;>decide
 have n3:((bJ (Ty.num kk).nm).toList == [84,117,112,108,101])=false:=by rw[cZ];cases kk<;>decide
 have n4:((bJ (Ty.num kk).nm).toList == [77,97,112])=false:=by rw[cZ];cases kk<;>decide
 have n5:((bJ (Ty.num kk).nm).toList == [83,116,114,105,110,103])=false:=by rw[cZ];cases kk<;>decide
 have n6:((bJ (Ty.num kk).nm).toList == [70,105,120,101,100,83,116,114,105,110,103])=false:=by rw[cZ];cases kk<;>decide
 have ER:=h.1;obtain ⟨n,hn⟩:∃ n,Hid (n=kk.size):=⟨_,Lib.hid rfl⟩;have ig:n≤32:=by rw[hn.out];cases kk<;>decide
 show Calls _ _ #[_,.agg #[.string (bJ (Ty.num kk).nm),.int .i64 (kk.size:Nat),.slice none 0 0]] _ _;rw[← hn.out];generalize bJ (Ty.num kk).nm=nm at n0 n1 n2 n3 n4 n5 n6 ⊢;go_enter func9,ntmps9
 go_wp2_with fail
 have hW:=mV.of w #[.string nm,.int .i64 n,.slice none 0 0];unfold cO at hW;generalize ((w.alloc _).alloc _).alloc _=W at hW ⊢;have BA:bT B W p:=h.fr hW.fr (fun h=>h) (fun _ _ h=>h);have Ef:p<W.heap.size:=by rw[hW.size];omega
 have DY:W.cell? ⟨w.heap.size,1,none⟩=some (.int .i64 n):=by rw[cell_of_row _ _ _ _ _ _ hW.box];rfl
 go_wp2_with (go_at_call 20;refine (fZ B _ p BA).mono ?_;rintro e w1 ⟨b0,Jz,rfl,Cj,Ad⟩)
 have En:w1.heap[w.heap.size+1+1]?=some (.cells (cO 0 0 0 0 ⟨#[]⟩) 35 (0,0)):=(Ad.block _ (by rw[hW.size];omega) (by show ¬ w.heap.size+1+1=p;omega)).trans hW.row;generalize ((b0:Int) % 2 == 0)=sm
 go_loopw [13] (fun i wr=>∃ k r0 r1 r2 r3:Nat,i=.int .i64 k∧k≤n∧wr.heap[w.heap.size+1+1]?=some (.cells (cO r0 r1 r2 r3 ⟨#[]⟩) 35 (0,0))∧Words k r0 r1 r2 r3∧bT B wr p∧Fr (fun q=>q=p∨q=w.heap.size+1+1) W wr) (fun i _=>n - (intOf i).toNat)
 case atStart=>exact ⟨0,0,0,0,0,rfl,Nat.zero_le _,En,⟨by decide,by decide,by decide,by decide⟩,Cj,Ad.mono (fun _ _ h=>.inl h)⟩
 case round =>
  obtain ⟨k,r0,r1,r2,r3,rfl,hk,Ag,YR,Bc,Ak⟩:=hrel;have ED:=Ak.aA DY (by show ¬ (w.heap.size=p∨w.heap.size=w.heap.size+1+1);omega)
  by_cases PQ:k<n∧(sm=false∨k=0)
  · have Ar:(k:Int)<n:=by omega
    have QN:bT B wr.drew p:=Bc.fr ((Fr.refl (fun _=>False) wr).drew) (fun h=>h) (fun _ _ h=>h);have Am:w.heap.size+1+1≠p:=by omega
    obtain ⟨R,hR,Ym,BD⟩:=aLW (by omega) Ag YR;have hZ:=fzj (k / 8) Ag
    cases sm with
    | true =>
     have J3:k=0:=by simpa using PQ.2
     have t2:((k:Int) == 0)=true:=by simp[J3]
     clear J3 PQ;have q0:0≤(k:Int) / 8:=by omega
     have q0':(k:Int) / 8<4:=by omega
     have q1:IntKind.i64.wrap ((k:Int) / 8)=(k:Int) / 8:=by rw[IntKind.wrap_i64];omega
     have q2:(k:Int).tmod 8=(k:Int) % 8:=Int.tmod_eq_emod_of_nonneg (by omega);have q3:IntKind.i64.wrap (8*((k:Int) % 8))=8*((k:Int) % 8):=by rw[IntKind.wrap_i64];omega
     have q4:IntKind.u64.wrap (8*((k:Int) % 8))=8*((k:Int) % 8):=by rw[IntKind.wrap_u64];omega
     have q5:((k:Int) / 8).toNat=k / 8:=by omega
     go_wp2_with fail
     go_region_with (first
      | (go_at_call 20;refine (fZ B _ p QN).mono ?_;rintro e w2 ⟨b,hb,rfl,IV,Ae⟩;have BI:=(Ae.aH.block _ (aC Ag) Am).trans Ag;have Wp:=Ae.aH.aA Ym Am;have VU:=fzj (k / 8) BI))
     all_goals
      rw[aHu R b k hR hb];obtain ⟨r0',r1',r2',r3',BK,QA⟩:=BD w2 BI b hb;have XA:=Lib.hid BD;clear BD;generalize (R+b*256 ^ (k % 8):Nat)=V at BK ⊢;clear q0 q0' q1 q2 q3 q4 q5;go_wp2;go_roundw
      case rel =>
       have Fp:Fr (fun q=>q=p∨q=w.heap.size+1+1) W w2:=Ak.trans (Ae.aH) (fun _ _ h=>.inl h)
       exact ⟨k+1,r0',r1',r2',r3',by go_num,by omega,BK,QA,IV.fr ((Fr.refl (fun q=>q=w.heap.size+1+1) w2).setCell (.inl rfl) _) (by show ¬ p=w.heap.size+1+1;omega) (fun q hq=>by show ¬ q=w.heap.size+1+1;omega),Fp.setCell (.inl (.inr rfl)) _⟩
      case measure=>simp[intOf];omega
    | false =>
     clear PQ;have q0:0≤(k:Int) / 8:=by omega
     have q0':(k:Int) / 8<4:=by omega
     have q1:IntKind.i64.wrap ((k:Int) / 8)=(k:Int) / 8:=by rw[IntKind.wrap_i64];omega
     have q2:(k:Int).tmod 8=(k:Int) % 8:=Int.tmod_eq_emod_of_nonneg (by omega);have q3:IntKind.i64.wrap (8*((k:Int) % 8))=8*((k:Int) % 8):=by rw[IntKind.wrap_i64];omega
     have q4:IntKind.u64.wrap (8*((k:Int) % 8))=8*((k:Int) % 8):=by rw[IntKind.wrap_u64];omega
     have q5:((k:Int) / 8).toNat=k / 8:=by omega
     go_wp2_with fail
     go_region_with (first
      | (go_at_call 20;refine (fZ B _ p QN).mono ?_;rintro e w2 ⟨b,hb,rfl,IV,Ae⟩;have BI:=(Ae.aH.block _ (aC Ag) Am).trans Ag;have Wp:=Ae.aH.aA Ym Am;have VU:=fzj (k / 8) BI))
     all_goals
      rw[aHu R b k hR hb];obtain ⟨r0',r1',r2',r3',BK,QA⟩:=BD w2 BI b hb;have XA:=Lib.hid BD;clear BD;generalize (R+b*256 ^ (k % 8):Nat)=V at BK ⊢;clear q0 q0' q1 q2 q3 q4 q5;go_wp2;go_roundw
      case rel =>
       have Fp:Fr (fun q=>q=p∨q=w.heap.size+1+1) W w2:=Ak.trans (Ae.aH) (fun _ _ h=>.inl h)
       exact ⟨k+1,r0',r1',r2',r3',by go_num,by omega,BK,QA,IV.fr ((Fr.refl (fun q=>q=w.heap.size+1+1) w2).setCell (.inl rfl) _) (by show ¬ p=w.heap.size+1+1;omega) (fun q hq=>by show ¬ q=w.heap.size+1+1;omega),Fp.setCell (.inl (.inr rfl)) _⟩
      case measure=>simp[intOf];omega
  · have Az:=aCp hW CW Ak
    have x0:wr.cell? ⟨w.heap.size+1+1,0,none⟩=some (.int .u64 r0):=crw Ag rfl;have x1:wr.cell? ⟨w.heap.size+1+1,1,none⟩=some (.int .u64 r1):=crw Ag rfl;have x2:wr.cell? ⟨w.heap.size+1+1,2,none⟩=some (.int .u64 r2):=crw Ag rfl;have x3:wr.cell? ⟨w.heap.size+1+1,3,none⟩=some (.int .u64 r3):=crw Ag rfl;have x4:wr.cell? ⟨w.heap.size+1+1,4,none⟩=some (.string ⟨#[]⟩):=crw Ag rfl;have x5:wr.cell? ⟨w.heap.size+1+1,5,none⟩=some (.bool false):=crw Ag rfl;have x6:wr.cell? ⟨w.heap.size+1+1,6,none⟩=some (.slice none 0 0):=crw Ag rfl;have x7:wr.cell? ⟨w.heap.size+1+1,7,none⟩=some (.slice none 0 0):=crw Ag rfl;have g0:wr.cell? ⟨w.heap.size+1,0,none⟩=some (.int .u64 0):=crw Az rfl;have g1:wr.cell? ⟨w.heap.size+1,1,none⟩=some (.int .u64 0):=crw Az rfl;have g2:wr.cell? ⟨w.heap.size+1,2,none⟩=some (.int .u64 0):=crw Az rfl;have g3:wr.cell? ⟨w.heap.size+1,3,none⟩=some (.int .u64 0):=crw Az rfl;have g4:wr.cell? ⟨w.heap.size+1,4,none⟩=some (.string ⟨#[]⟩):=crw Az rfl;have g5:wr.cell? ⟨w.heap.size+1,5,none⟩=some (.bool false):=crw Az rfl;have g6:wr.cell? ⟨w.heap.size+1,6,none⟩=some (.slice none 0 0):=crw Az rfl;have g7:wr.cell? ⟨w.heap.size+1,7,none⟩=some (.slice none 0 0):=crw Az rfl;have z0:wr.frozen? ⟨w.heap.size+1,0,none⟩=false:=fzj _ Az;have z1:wr.frozen? ⟨w.heap.size+1,1,none⟩=false:=fzj _ Az;have z2:wr.frozen? ⟨w.heap.size+1,2,none⟩=false:=fzj _ Az;have z3:wr.frozen? ⟨w.heap.size+1,3,none⟩=false:=fzj _ Az;have z4:wr.frozen? ⟨w.heap.size+1,4,none⟩=false:=fzj _ Az;have z5:wr.frozen? ⟨w.heap.size+1,5,none⟩=false:=fzj _ Az;have z6:wr.frozen? ⟨w.heap.size+1,6,none⟩=false:=fzj _ Az;have z7:wr.frozen? ⟨w.heap.size+1,7,none⟩=false:=fzj _ Az;have Pn:=aNu YR hk
    by_cases QX:k<n
    · have Ar:(k:Int)<n:=by omega
      cases sm with
      | false=>exact absurd ⟨QX,.inl rfl⟩ PQ
      | true =>
       have t2:((k:Int) == 0)=false:=by
        have:k≠0:=fun h=>PQ ⟨QX,.inr h⟩
        simp;omega
       clear PQ;go_wp2
       refine bodyPost_ret (by simp[results,results9,go_sem,g0,g1,g2,g3,g4,g5,g6,g7];try rfl) rfl ?_
       have h8:=fun (a b c d e f g h:Value)=>((((((((Fr.refl (fun q=>q=w.heap.size+1) wr).setCell (p:=⟨w.heap.size+1,0,none⟩) (.inl rfl) a).setCell (p:=⟨w.heap.size+1,1,none⟩) (.inl rfl) b).setCell (p:=⟨w.heap.size+1,2,none⟩) (.inl rfl) c).setCell (p:=⟨w.heap.size+1,3,none⟩) (.inl rfl) d).setCell (p:=⟨w.heap.size+1,4,none⟩) (.inl rfl) e).setCell (p:=⟨w.heap.size+1,5,none⟩) (.inl rfl) f).setCell (p:=⟨w.heap.size+1,6,none⟩) (.inl rfl) g).setCell (p:=⟨w.heap.size+1,7,none⟩) (.inl rfl) h
       have h9:∀ (a b c d e f g h:Value),Fr (fun q=>q=p) w _:=fun (a b c d e f g h:Value)=>(((((((((hW.fr.mono (S':=fun q=>q=p) (fun _ _ h=>h.elim)).trans Ak (fun q hq h=>h.resolve_right (by omega))).setCell (p:=⟨w.heap.size+1,0,none⟩) (.inr (by show w.heap.size≤w.heap.size+1;omega)) a).setCell (p:=⟨w.heap.size+1,1,none⟩) (.inr (by show w.heap.size≤w.heap.size+1;omega)) b).setCell (p:=⟨w.heap.size+1,2,none⟩) (.inr (by show w.heap.size≤w.heap.size+1;omega)) c).setCell (p:=⟨w.heap.size+1,3,none⟩) (.inr (by show w.heap.size≤w.heap.size+1;omega)) d).setCell (p:=⟨w.heap.size+1,4,none⟩) (.inr (by show w.heap.size≤w.heap.size+1;omega)) e).setCell (p:=⟨w.heap.size+1,5,none⟩) (.inr (by show w.heap.size≤w.heap.size+1;omega)) f).setCell (p:=⟨w.heap.size+1,6,none⟩) (.inr (by show w.heap.size≤w.heap.size+1;omega)) g).setCell (p:=⟨w.heap.size+1,7,none⟩) (.inr (by show w.heap.size≤w.heap.size+1;omega)) h
       exact ⟨.mk r0 r1 r2 r3 ⟨#[]⟩ false [] [],⟨rfl,rfl,rfl,rfl,by rw[← hn.out];exact Pn.1,by rw[← hn.out];exact Pn.2.1,by rw[← hn.out];exact Pn.2.2.1,by rw[← hn.out];exact Pn.2.2.2⟩,rfl,Bc.fr (h8 _ _ _ _ _ _ _ _) (by show ¬ p=w.heap.size+1;omega) (fun q hq=>by show ¬ q=w.heap.size+1;omega),h9 _ _ _ _ _ _ _ _⟩
    · have QS:¬ (k:Int)<n:=by omega
      clear PQ;go_wp2
      refine bodyPost_ret (by simp[results,results9,go_sem,g0,g1,g2,g3,g4,g5,g6,g7];try rfl) rfl ?_
      have h8:=fun (a b c d e f g h:Value)=>((((((((Fr.refl (fun q=>q=w.heap.size+1) wr).setCell (p:=⟨w.heap.size+1,0,none⟩) (.inl rfl) a).setCell (p:=⟨w.heap.size+1,1,none⟩) (.inl rfl) b).setCell (p:=⟨w.heap.size+1,2,none⟩) (.inl rfl) c).setCell (p:=⟨w.heap.size+1,3,none⟩) (.inl rfl) d).setCell (p:=⟨w.heap.size+1,4,none⟩) (.inl rfl) e).setCell (p:=⟨w.heap.size+1,5,none⟩) (.inl rfl) f).setCell (p:=⟨w.heap.size+1,6,none⟩) (.inl rfl) g).setCell (p:=⟨w.heap.size+1,7,none⟩) (.inl rfl) h
      have h9:∀ (a b c d e f g h:Value),Fr (fun q=>q=p) w _:=fun (a b c d e f g h:Value)=>(((((((((hW.fr.mono (S':=fun q=>q=p) (fun _ _ h=>h.elim)).trans Ak (fun q hq h=>h.resolve_right (by omega))).setCell (p:=⟨w.heap.size+1,0,none⟩) (.inr (by show w.heap.size≤w.heap.size+1;omega)) a).setCell (p:=⟨w.heap.size+1,1,none⟩) (.inr (by show w.heap.size≤w.heap.size+1;omega)) b).setCell (p:=⟨w.heap.size+1,2,none⟩) (.inr (by show w.heap.size≤w.heap.size+1;omega)) c).setCell (p:=⟨w.heap.size+1,3,none⟩) (.inr (by show w.heap.size≤w.heap.size+1;omega)) d).setCell (p:=⟨w.heap.size+1,4,none⟩) (.inr (by show w.heap.size≤w.heap.size+1;omega)) e).setCell (p:=⟨w.heap.size+1,5,none⟩) (.inr (by show w.heap.size≤w.heap.size+1;omega)) f).setCell (p:=⟨w.heap.size+1,6,none⟩) (.inr (by show w.heap.size≤w.heap.size+1;omega)) g).setCell (p:=⟨w.heap.size+1,7,none⟩) (.inr (by show w.heap.size≤w.heap.size+1;omega)) h
      exact ⟨.mk r0 r1 r2 r3 ⟨#[]⟩ false [] [],⟨rfl,rfl,rfl,rfl,by rw[← hn.out];exact Pn.1,by rw[← hn.out];exact Pn.2.1,by rw[← hn.out];exact Pn.2.2.1,by rw[← hn.out];exact Pn.2.2.2⟩,rfl,Bc.fr (h8 _ _ _ _ _ _ _ _) (by show ¬ p=w.heap.size+1;omega) (fun q hq=>by show ¬ q=w.heap.size+1;omega),h9 _ _ _ _ _ _ _ _⟩
end Go.Proofs.YtcidlnjpabgioaaGreatDoor
