import Derived.Test.YtcidlnjpabgioaaGreatDoorUGArr
import Derived.DeepKeys4
set_option maxHeartbeats 4000000
set_option maxRecDepth 100000
namespace Go.Proofs.YtcidlnjpabgioaaGreatDoor
open Tryz List Go.RowKit
mutual
def nK:Cell→Cell→Bool
 | .mk a0 a1 a2 a3 at' an ai ak,.mk b0 b1 b2 b3 bt bn bi bk=>((((a0:Int) == b0 && (a1:Int) == b1 && (a2:Int) == b2 && (a3:Int) == b3) && (at'.toList == bt.toList)) && (an == bn)) && allB ai bi && allB ak bk
def allB:List Cell→List Cell→Bool
 | [],[]=>true
 | a :: l,b :: m=>nK a b && allB l m
 | [],_ :: _=>false
 | _ :: _,[]=>false
end
theorem aMe (a b:Cell):nK a b=(((((a.r0:Int) == b.r0 && (a.r1:Int) == b.r1 && (a.r2:Int) == b.r2 && (a.r3:Int) == b.r3) && (a.s.toList == b.s.toList)) && (a.null == b.null)) && allB a.items b.items && allB a.keys b.keys):=by
 cases a
 cases b
 unfold nK
 rfl
mutual
theorem aGi:∀ c,nK c c=true
 | .mk a0 a1 a2 a3 at' an ai ak=>by
  unfold nK;rw[nT ai,nT ak];simp
theorem nT:∀ cs,allB cs cs=true
 | []=>by unfold allB;rfl
 | c :: cs=>by
  unfold allB;rw[aGi c,nT cs]
  rfl
end
theorem aCK:∀ (l m:List Cell),allB l m=true→l.length=m.length
 | [],[],_=>rfl
 | a :: l,b :: m,h=>by
  unfold allB at h;rw[Bool.and_eq_true] at h;rw[length_cons,length_cons,aCK l m h.2]
 | [],_ :: _,h=>by unfold allB at h;cases h
 | _ :: _,[],h=>by unfold allB at h;cases h
theorem aAU:∀ (l m:List Cell) (k:Nat) (hk:k<l.length) (hm:k<m.length),allB (l.take k) (m.take k)=true→allB (l.take (k+1)) (m.take (k+1))=nK l[k] m[k]∧(nK l[k] m[k]=false→allB l m=false)
 | [],_,_,hk,_,_=>by simp at hk
 | _ :: _,[],_,_,hm,_=>by simp at hm
 | a :: l,b :: m,0,_,_,_=>by
  refine ⟨by simp[allB],fun h=>?_⟩;unfold allB;simp only[getElem_cons_zero] at h;rw[h]
  rfl
 | a :: l,b :: m,k+1,hk,hm,h=>by
  rw[take_succ_cons,take_succ_cons] at h;unfold allB at h;rw[Bool.and_eq_true] at h;obtain ⟨h1,h2⟩:=aAU l m k (by simpa using hk) (by simpa using hm) h.2;rw[take_succ_cons,take_succ_cons];simp only[getElem_cons_succ]
  refine ⟨?_,fun hs=>?_⟩
  · conv=>lhs;unfold allB
    rw[h.1,h1]
    rfl
  · unfold allB
    rw[h.1,h2 hs]
    rfl
theorem aOJ (w:World) (a0 a1 a2 a3 b0 b1 b2 b3:Int) :
 (Op.equalIn 10000 33 (.agg #[.int .u64 a0,.int .u64 a1,.int .u64 a2,.int .u64 a3]) (.agg #[.int .u64 b0,.int .u64 b1,.int .u64 b2,.int .u64 b3])).run Tryz.prog w=.ok (a0 == b0 && a1 == b1 && a2 == b2 && a3 == b3) w:=by
 have hu:Tryz.prog.underlying 24=some (.int .u64):=underlying24;obtain ⟨i,hi,-⟩:∃ i,Tryz.prog.info? 24=some i∧i.zero=some (.int .u64 0)∧i.size=1∧i.bytes=8:=info_parts (by kernel_rfl);have hc:Tryz.prog.cellsOf 24=1:=by kernel_rfl
 have e:∀ d (x y:Int) (w:World),(Op.equalIn (d+1) 24 (.int .u64 x) (.int .u64 y)).run Tryz.prog w=.ok (x == y) w:=fun d x y w=>by simp[Op.equalIn,run_underlying hu]
 rw[show (10000:Nat)=9999+1 from rfl,run_equalIn_array w 9999 _ _ underlying33 hi,hc];simp only[show List.range 4=[0,1,2,3] from rfl];have NE:∀ w:World,(isAgg 24).run Tryz.prog w=.ok false w:=fun w=>by simp[isAgg,run_underlying hu]
 have hp:∀ (xs:Array Value) (i:Nat) (v:Value) (w:World),xs[i]?=some v→(part 24 xs i).run Tryz.prog w=.ok v w:=fun xs i v w h=>by simp[part,NE,h]
 have step:∀ (xs ys:Array Value) (i:Nat) (is:List Nat) (x y:Int),xs[i]?=some (.int .u64 x)→ys[i]?=some (.int .u64 y)→(Op.eqItems 9999 24 1 xs ys (i :: is)).run Tryz.prog w=if x == y then (Op.eqItems 9999 24 1 xs ys is).run Tryz.prog w else .ok false w:=fun xs ys i is x y hx hy=>by
  simp only[Op.eqItems,Sem.run_bind,Nat.mul_one];rw[hp _ i _ w hx];simp only[Result.andThen_ok];rw[hp _ i _ w hy];simp only[Result.andThen_ok,e]
  cases x == y<;>simp
 rw[step _ _ 0 _ a0 b0 rfl rfl,step _ _ 1 _ a1 b1 rfl rfl,step _ _ 2 _ a2 b2 rfl rfl,step _ _ 3 _ a3 b3 rfl rfl]
 cases a0 == b0<;>cases a1 == b1<;>cases a2 == b2<;>cases a3 == b3<;>simp[Op.eqItems]
def aBB (a:Cell):Prop:=∀ (B:Nat) (w:World) (b:Cell) (xs ys:List Value),bP B w a xs→bP B w b ys→B≤w.heap.size →
 Calls Tryz.prog 30 #[.agg xs.toArray,.agg ys.toArray] w fun e w'=>e=.returned (.bool (nK a b))∧F0 w w'
def aGY (l:List Cell):Prop:=∀ (B:Nat) (w:World) (m:List Cell) (u v:Value) (xs ys:List Value),Sl B w 8 u l.length xs→aI B w l xs→Sl B w 8 v m.length ys→aI B w m ys→B≤w.heap.size →
 Calls Tryz.prog 19 #[u,v] w fun e w'=>e=.returned (.bool (allB l m))∧F0 w w'
theorem aBr {w w1:World} {xs ys:Array Value} {t u:TypeId} (hf:F0 ((w.alloc (.cells xs t)).alloc (.cells ys u)) w1):(∀ j,w1.cell? ⟨w.heap.size,j,none⟩=xs[j]?)∧∀ j,w1.cell? ⟨w.heap.size+1,j,none⟩=ys[j]?:=by
 have h1:w1.heap[w.heap.size]?=some (.cells xs t (0,0)):=(hf.block _ (by simp;omega) (fun h=>h)).trans ((Below.heap_alloc _ _ _ (by simp)).trans (heap_alloc_new w _));have h2:w1.heap[w.heap.size+1]?=some (.cells ys u (0,0)):=(hf.block _ (by simp) (fun h=>h)).trans (by rw[show w.heap.size+1=(w.alloc (.cells xs t)).heap.size by simp];exact heap_alloc_new _ _)
 exact ⟨fun j=>by rw[cell_of_row _ _ _ _ _ _ h1],fun j=>by rw[cell_of_row _ _ _ _ _ _ h2]⟩
theorem aOg (a:Cell) (hi:aGY a.items) (hk:aGY a.keys):aBB a:=by
 intro B w b xs ys ha hb hB;obtain ⟨ia,ic,ka,kc,ixs,kxs,rfl,Hr,F7,Eh,Dp⟩:=ha.full;obtain ⟨ja,jc,la,lc,jxs,lxs,rfl,Yy,Yo,Ar,Le⟩:=hb.full;have Om:=Lib.hid (aMe a b);have hI:=fun W (hf:F0 w W)=>hi B W b.items _ _ _ _ (Hr.below (hf.below hB (fun _ _ h=>h))) (aI.below (hf.below hB (fun _ _ h=>h)) _ _ F7) (Yy.below (hf.below hB (fun _ _ h=>h))) (aI.below (hf.below hB (fun _ _ h=>h)) _ _ Yo) (Nat.le_trans hB hf.size)
 have hK:=fun W (hf:F0 w W)=>hk B W b.keys _ _ _ _ (Eh.below (hf.below hB (fun _ _ h=>h))) (aI.below (hf.below hB (fun _ _ h=>h)) _ _ Dp) (Ar.below (hf.below hB (fun _ _ h=>h))) (aI.below (hf.below hB (fun _ _ h=>h)) _ _ Le) (Nat.le_trans hB hf.size)
 generalize a.items.length=il at hI;generalize b.items.length=jl at hI;generalize a.keys.length=kl at hK;generalize b.keys.length=ll at hK;clear Hr F7 Eh Dp Yy Yo Ar Le ha hb;have Ag:=fun W:World=>aOJ W a.r0 a.r1 a.r2 a.r3 b.r0 b.r1 b.r2 b.r3
 generalize ((a.r0:Int) == b.r0 && (a.r1:Int) == b.r1 && (a.r2:Int) == b.r2 && (a.r3:Int) == b.r3)=rb at Ag Om;generalize allB a.items b.items=ib at hI Om;generalize allB a.keys b.keys=kb at hK Om;generalize nK a b=sb at Om ⊢;generalize (a.r0:Int)=a0 at Ag ⊢;generalize (a.r1:Int)=a1 at Ag ⊢;generalize (a.r2:Int)=a2 at Ag ⊢;generalize (a.r3:Int)=a3 at Ag ⊢;generalize (b.r0:Int)=b0 at Ag ⊢;generalize (b.r1:Int)=b1 at Ag ⊢;generalize (b.r2:Int)=b2 at Ag ⊢;generalize (b.r3:Int)=b3 at Ag ⊢;go_enter func30,ntmps30
 go_wp2_with (first
  | (go_at_call 19;refine (hK _ CX).mono ?_;rintro e w2 ⟨rfl,Ae⟩)
  | (go_at_call 19;refine (hI _ (((Fr.refl (fun _=>False) w).alloc _).alloc _)).mono ?_;rintro e w1 ⟨rfl,Ad⟩;have CX:F0 w w1:=(((Fr.refl (fun _=>False) w).alloc _).alloc _).trans Ad (fun _ _ h=>h);have m6:w1.cell? ⟨w.heap.size,7,none⟩=some (.slice ka kl kc):=(aBr Ad).1 7;have m7:w1.cell? ⟨w.heap.size+1,7,none⟩=some (.slice la ll lc):=(aBr Ad).2 7))
 all_goals go_ret
 all_goals rw[Om.out]
 all_goals clear Ag hI hK Om
 · exact ⟨congrArg (fun z=>Ending.returned (.bool z)) (by simp[*]),CX.trans Ae (fun _ _ h=>h)⟩
 · exact ⟨congrArg (fun z=>Ending.returned (.bool z)) (by simp[*]),CX⟩
 all_goals exact ⟨congrArg (fun z=>Ending.returned (.bool z)) (by simp[*]),((Fr.refl (fun _=>False) w).alloc _).alloc _⟩
theorem aEv (l:List Cell) (h:∀ a∈l,aBB a):aGY l:=by
 intro B w m u v xs ys hu SV hv PK hB;have Q5:=hu;have J6:=hv;obtain ⟨Dy,ua,uc,rfl,Q8,Q7,-,-⟩:=Q5;obtain ⟨og,va,vc,rfl,XO,XL,-,-⟩:=J6;have AA:=aCK l m;obtain ⟨n,hn⟩:∃ n,Hid (l.length=n):=⟨_,Lib.hid rfl⟩;obtain ⟨k,hk⟩:∃ k,Hid (m.length=k):=⟨_,Lib.hid rfl⟩;rw[hn.out] at Q8;rw[hk.out] at XO;unfold maxLen at Q7 XL;have Iq:=Lib.hid AA;clear AA Dy og;go_enter func19,ntmps19;rw[hn.out,hk.out]
 by_cases Y4:n=k
 · subst Y4
   go_wp2_with fail
   go_loopw [13] (fun i wr=>∃ j:Nat,j≤n∧i=.int .i64 j∧allB (l.take j) (m.take j)=true∧F0 w wr) (fun i _=>n - (intOf i).toNat)
   case atStart=>exact ⟨0,Nat.zero_le _,rfl,by simp[allB],Fr.refl _ _⟩
   case round =>
    obtain ⟨j,hj,rfl,Dv,Ak⟩:=hrel
    by_cases QW:j<n
    · have hb:=Ak.below hB (fun _ _ h=>h)
      have MG:j<l.length:=by rw[hn.out];exact QW
      have Xa:j<m.length:=by rw[hk.out];exact QW
      obtain ⟨b1,o1,cp1,Eo,VX,vs1,Ii,BO⟩:=(hu.below hb).row (aI.below hb _ _ SV) MG;obtain ⟨b2,o2,cp2,JM,L6,vs2,IL,Dq⟩:=(hv.below hb).row (aI.below hb _ _ PK) Xa;have Jq:=h l[j] (getElem_mem _) B wr.drew m[j] vs1 vs2 (bP.below (Below.refl B wr).drew _ _ Ii) (bP.below (Below.refl B wr).drew _ _ IL) (Nat.le_trans hB Ak.size);obtain ⟨V9,VA⟩:=aAU l m j MG Xa Dv
      replace V9:=Lib.hid V9
      replace VA:=Lib.hid VA
      generalize nK l[j] m[j]=sb at Jq V9 VA;obtain ⟨a0,a1,a2,a3,at',an,ia,il,ic,ka,kl,kc,rfl⟩:=Ii.spelled;obtain ⟨d0,d1,d2,d3,dt,dn,ja,jl,jc,la,ll,lc,rfl⟩:=IL.spelled;simp only[Value.slice.injEq] at Eo JM;obtain ⟨rfl,_,rfl⟩:=Eo;obtain ⟨rfl,_,rfl⟩:=JM;have c0:=BO 0 _ rfl;have c1:=BO 1 _ rfl;have c2:=BO 2 _ rfl;have c3:=BO 3 _ rfl;have c4:=BO 4 _ rfl;have c5:=BO 5 _ rfl;have c6:=BO 6 _ rfl;have c7:=BO 7 _ rfl;have e0:=Dq 0 _ rfl;have e1:=Dq 1 _ rfl;have e2:=Dq 2 _ rfl;have e3:=Dq 3 _ rfl;have e4:=Dq 4 _ rfl;have e5:=Dq 5 _ rfl;have e6:=Dq 6 _ rfl;have e7:=Dq 7 _ rfl;simp only[Nat.add_zero] at c0 e0;have Vt:=hn.out;clear BO Dq Ii IL hu hv SV PK h MG Xa
      go_wp2_with fail
      go_region_law (go_simp;go_at_call 30;refine Jq.mono ?_;rintro e w2 ⟨rfl,Ae⟩)
      all_goals
       have Au:=Ae.aH;go_wp2
       · rename_i hx
         go_ret
         exact ⟨congrArg (fun z=>Ending.returned (.bool z)) (VA.out (by simpa using hx)).symm,Ak.trans Au (fun _ _ h=>h)⟩
       · rename_i hx
         go_roundw
         case rel=>exact ⟨j+1,by omega,by go_num,by rw[V9.out];simpa using hx,Ak.trans Au (fun _ _ h=>h)⟩
         case measure=>simp[intOf];omega
    · have WZ:j=n:=by omega
      subst WZ;rw[take_of_length_le (by rw[hn.out];exact Nat.le_refl _),take_of_length_le (by rw[hk.out];exact Nat.le_refl _)] at Dv;go_wp2;go_ret
      exact ⟨congrArg (fun z=>Ending.returned (.bool z)) Dv.symm,Ak⟩
 · have Am:¬ (n:Int)=k:=by omega
   go_wp2;go_ret
   refine ⟨congrArg (fun z=>Ending.returned (.bool z)) ?_,Fr.refl _ _⟩
   cases ZK:allB l m with
   | false=>rfl
   | true=>exact absurd ((hn.out.symm.trans (Iq.out ZK)).trans hk.out) Y4
mutual
theorem zD:∀ a,aBB a
 | .mk a0 a1 a2 a3 t n is ks=>aOg (.mk a0 a1 a2 a3 t n is ks) (aEv is (uQ is)) (aEv ks (uQ ks))
theorem uQ:∀ (l:List Cell),∀ a∈l,aBB a
 | [],a,h=>by simp at h
 | b :: l,a,h=>by
  rcases mem_cons.1 h with h|h
  · rw[h];exact zD b
  · exact uQ l a h
end
theorem aNz (l:List Cell):aGY l:=aEv l fun a _=>zD a
theorem aJq (l:List Cell) (x:Cell) (B:Nat) (w:World) (u:Value) (xs vs:List Value) (hu:Sl B w 8 u l.length xs) (SV:aI B w l xs) (hx:bP B w x vs) (hB:B≤w.heap.size) :
 Calls Tryz.prog 21 #[u,.agg vs.toArray] w fun e w'=>∃ b,e=.returned (.bool b)∧F0 w w':=by
 have Q5:=hu;obtain ⟨Dy,ua,uc,rfl,Q8,Q7,-,-⟩:=Q5;obtain ⟨n,hn⟩:∃ n,Hid (l.length=n):=⟨_,Lib.hid rfl⟩;rw[hn.out] at Q8;unfold maxLen at Q7;have UT:=hx;obtain ⟨x0,x1,x2,x3,xt,xn,ia,il,ic,ka,kl,kc,rfl⟩:=hx.spelled;clear Dy hx;go_enter func21,ntmps21;rw[hn.out]
 go_wp2_with fail
 go_loopw [9] (fun i wr=>∃ j:Nat,j≤n∧i=.int .i64 j∧F0 (w.alloc (.cells #[.int .u64 x0,.int .u64 x1,.int .u64 x2,.int .u64 x3,.string xt,.bool xn,.slice ia il ic,.slice ka kl kc] 35)) wr) (fun i _=>n - (intOf i).toNat)
 case atStart=>exact ⟨0,Nat.zero_le _,rfl,Fr.refl _ _⟩
 case round =>
  obtain ⟨j,hj,rfl,Ak⟩:=hrel;have Fj:F0 w wr:=((Fr.refl (fun _=>False) w).alloc _).trans Ak (fun _ _ h=>h)
  by_cases QW:j<n
  · have hb:=Fj.below hB (fun _ _ h=>h)
    have MG:j<l.length:=by rw[hn.out];exact QW
    obtain ⟨b1,o1,cp1,Eo,VX,vs1,Ii,BO⟩:=(hu.below hb).row (aI.below hb _ _ SV) MG;have II:=Fj.size;have Jq:=fun (o:Obj)=>zD x B (wr.alloc o) l[j] _ vs1 (bP.below (hb.alloc (by omega) o) _ _ UT) (bP.below ((Below.refl B wr).alloc (by omega) o) _ _ Ii) (by simp;omega)
    generalize nK x l[j]=sb at Jq;obtain ⟨a0,a1,a2,a3,at',an,ja,jl,jc,la,ll,lc,rfl⟩:=Ii.spelled;simp only[Value.slice.injEq] at Eo;obtain ⟨rfl,_,rfl⟩:=Eo;have c0:=BO 0 _ rfl;have c1:=BO 1 _ rfl;have c2:=BO 2 _ rfl;have c3:=BO 3 _ rfl;have c4:=BO 4 _ rfl;have c5:=BO 5 _ rfl;have c6:=BO 6 _ rfl;have c7:=BO 7 _ rfl;simp only[Nat.add_zero] at c0;have Jv:wr.heap[w.heap.size]?=some (.cells #[.int .u64 x0,.int .u64 x1,.int .u64 x2,.int .u64 x3,.string xt,.bool xn,.slice ia il ic,.slice ka kl kc] 35 (0,0)):=(Ak.block _ (by simp) (fun h=>h)).trans (heap_alloc_new w _);have mr:=aC Jv;have F8:=fun (o:Obj)=>bD.eight (bD.of_block (xs:=[.int .u64 x0,.int .u64 x1,.int .u64 x2,.int .u64 x3,.string xt,.bool xn,.slice ia il ic,.slice ka kl kc]) ((Below.heap_alloc wr o _ mr).trans Jv))
    have g0:=fun o=>(F8 o).1
    have g1:=fun o=>(F8 o).2.1
    have g2:=fun o=>(F8 o).2.2.1
    have g3:=fun o=>(F8 o).2.2.2.1
    have g4:=fun o=>(F8 o).2.2.2.2.1
    have g5:=fun o=>(F8 o).2.2.2.2.2.1
    have g6:=fun o=>(F8 o).2.2.2.2.2.2.1
    have g7:=fun o=>(F8 o).2.2.2.2.2.2.2
    clear BO Ii hu SV MG F8 Jv UT
    go_wp2_with (go_at_call 30;refine (Jq _).mono ?_;rintro e w2 ⟨rfl,Ae⟩)
    all_goals have Au:F0 wr w2:=((Fr.refl (fun _=>False) wr).alloc _).trans Ae (fun _ _ h=>h)
    · go_ret
      exact ⟨true,rfl,Fj.trans Au (fun _ _ h=>h)⟩
    · go_roundw
      case rel=>exact ⟨j+1,by omega,by go_num,Ak.trans Au (fun _ _ h=>h)⟩
      case measure=>simp[intOf];omega
  · go_wp2
    go_ret
    exact ⟨false,rfl,Fj⟩
end Go.Proofs.YtcidlnjpabgioaaGreatDoor
