import Derived.Test.YtcidlnjpabgioaaGreatDoorUGWide
import Derived.Laws.CopyOwn
import Derived.Test.YtcidlnjpabgioaaGreatDoorUGWs
set_option maxHeartbeats 20000000
set_option maxRecDepth 100000
namespace Go.Proofs.YtcidlnjpabgioaaGreatDoor
open Tryz List Go.RowKit
theorem jS {w:World} {o:Obj} {n:Nat} (h:n=w.heap.size):(w.alloc o).heap[n]?=some o:=by
 subst h
 exact heap_alloc_new w o
def ipb (r0 r1:Nat) (i:Nat):Int:=((if i<8 then r0 else r1:Nat):Int) / 2 ^ (8*(i % 8)) % 256
def iW (r0 r1:Nat) (k:Nat):List Value:=(List.range 16).map fun i=>if i<k then .int .u8 (ipb r0 r1 i) else .int .u8 0
theorem yD (r0 r1 k i:Nat) (h:i<16):(iW r0 r1 k)[i]?=some (if i<k then .int .u8 (ipb r0 r1 i) else .int .u8 0):=by
 simp[iW,h]
theorem aBX (r0 r1 k:Nat) (h:k<16):(iW r0 r1 k).set k (.int .u8 (ipb r0 r1 k))=iW r0 r1 (k+1):=by
 apply ext_getElem?
 intro i
 by_cases hi:i<16
 · rw[yD _ _ _ _ hi,getElem?_set]
   split
   · subst_vars
     rw[if_pos (by simp[iW];omega),if_pos (by omega)]
   · rw[yD _ _ _ _ hi]
     by_cases h2:i<k
     · rw[if_pos h2,if_pos (by omega)]
     · rw[if_neg h2,if_neg (by omega)]
 · rw[getElem?_eq_none (by simp[iW];omega),getElem?_eq_none (by simp[iW];omega)]
theorem aCQ (w:World) (r0 r1 r2 r3:Nat) (h0:r0<18446744073709551616) (h1:r1<18446744073709551616):Calls Tryz.prog 109 #[.agg #[.int .u64 r0,.int .u64 r1,.int .u64 r2,.int .u64 r3]] w fun e w'=>e=.returned (.agg (iW r0 r1 16).toArray)∧F0 w w':=by
 go_enter func109,ntmps109;go_wp2;generalize hW:((w.alloc _).alloc _).alloc _=W;have Aw:F0 w W:=by subst hW;exact (((Fr.refl _ w).alloc _).alloc _).alloc _
 have e0:W.cell? ⟨w.heap.size,0,none⟩=some (.int .u64 r0):=by subst hW;rw[ca (by simp;omega),ca (by simp),aB rfl];rfl
 have e1:W.cell? ⟨w.heap.size,1,none⟩=some (.int .u64 r1):=by subst hW;rw[ca (by simp;omega),ca (by simp),aB rfl];rfl
 have eR:W.heap[w.heap.size+1]?=some (.cells #[.int .u8 0,.int .u8 0,.int .u8 0,.int .u8 0,.int .u8 0,.int .u8 0,.int .u8 0,.int .u8 0,.int .u8 0,.int .u8 0,.int .u8 0,.int .u8 0,.int .u8 0,.int .u8 0,.int .u8 0,.int .u8 0] 350 (0,0)):=by subst hW;rw[Below.heap_alloc _ _ _ (by simp)];exact jS (by simp)
 have eB:W.heap[w.heap.size+1+1]?=some (.cells (iW r0 r1 0).toArray 350 (0,0)):=by subst hW;exact jS (by simp)
 have DX:W.heap.size=w.heap.size+3:=by subst hW;simp
 clear hW
 go_loopw [5] (fun i wr=>∃ k:Nat,k≤16∧i=.int .i64 k∧wr.heap[w.heap.size+1+1]?=some (.cells (iW r0 r1 k).toArray 350 (0,0))∧Fr (fun q=>q=w.heap.size+1+1) W wr) (fun i _=>16 - (intOf i).toNat)
 case atStart=>exact ⟨0,by omega,rfl,eB,Fr.refl _ _⟩
 case round =>
  obtain ⟨k,hk,rfl,Ag,Ak⟩:=hrel
  by_cases Ar:k<16
  · have q1:0≤(k:Int) / 8:=by omega
    have q2:(k:Int) / 8<4:=by omega
    have q3:0≤(k:Int) % 8:=by omega
    have q4:(k:Int) % 8<8:=by omega
    have c0:=Ak.aA e0 (by show ¬ w.heap.size=w.heap.size+1+1;omega);have c1:=Ak.aA e1 (by show ¬ w.heap.size=w.heap.size+1+1;omega)
    obtain ⟨R,hR,o7,cK⟩:∃ R:Nat,Hid (R=if k<8 then r0 else r1)∧R<18446744073709551616∧wr.cell? ⟨w.heap.size,k / 8,none⟩=some (.int .u64 R):=by
     by_cases h8:k<8
     · exact ⟨r0,Lib.hid (by rw[if_pos h8]),h0,by rw[show k / 8=0 by omega];exact c0⟩
     · exact ⟨r1,Lib.hid (by rw[if_neg h8]),h1,by rw[show k / 8=1 by omega];exact c1⟩
    have BH:=fzj k Ag;have Le:=cell_of_row wr (w.heap.size+1+1) k _ _ _ Ag
    have ZQ:wr.cell? ⟨w.heap.size+1+1,k,none⟩=some (.int .u8 0):=by
     rw[Le];simp[iW,Ar]
    clear Le e0 e1 eR eB c0 c1;go_wp2;go_roundw
    case rel =>
     have hv:(R:Int) / 2 ^ (8*(k % 8)) % 256=ipb r0 r1 k:=by rw[ipb,hR.out]
     refine ⟨k+1,by omega,by go_num,?_,Ak.setCell (.inl rfl) _⟩;rw[hv];simp[World.setCell,Array.getElem?_modify,Ag,aBX r0 r1 k Ar]
    case measure=>simp[intOf];omega
  · have Bl:k=16:=by omega
    subst Bl
    have AL:∀ i,i<16→wr.cell? ⟨w.heap.size+1+1,i,none⟩=some (.int .u8 (ipb r0 r1 i)):=by
     intro i hi;rw[cell_of_row wr (w.heap.size+1+1) i _ _ _ Ag];simp[iW,hi]
    have hR:=(Ak.block (w.heap.size+1) (by omega) (by show ¬ w.heap.size+1=w.heap.size+1+1;omega)).trans eR;have a0:=AL 0 (by omega);have a1:=AL 1 (by omega);have a2:=AL 2 (by omega);have a3:=AL 3 (by omega);have a4:=AL 4 (by omega);have a5:=AL 5 (by omega);have a6:=AL 6 (by omega);have a7:=AL 7 (by omega);have a8:=AL 8 (by omega);have a9:=AL 9 (by omega);have a10:=AL 10 (by omega);have a11:=AL 11 (by omega);have a12:=AL 12 (by omega);have a13:=AL 13 (by omega);have a14:=AL 14 (by omega);have a15:=AL 15 (by omega);have b0:wr.cell? ⟨w.heap.size+1,0,none⟩=some (.int .u8 0):=by rw[cell_of_row wr _ _ _ _ _ hR];rfl
    have b1:wr.cell? ⟨w.heap.size+1,1,none⟩=some (.int .u8 0):=by rw[cell_of_row wr _ _ _ _ _ hR];rfl
    have b2:wr.cell? ⟨w.heap.size+1,2,none⟩=some (.int .u8 0):=by rw[cell_of_row wr _ _ _ _ _ hR];rfl
    have b3:wr.cell? ⟨w.heap.size+1,3,none⟩=some (.int .u8 0):=by rw[cell_of_row wr _ _ _ _ _ hR];rfl
    have b4:wr.cell? ⟨w.heap.size+1,4,none⟩=some (.int .u8 0):=by rw[cell_of_row wr _ _ _ _ _ hR];rfl
    have b5:wr.cell? ⟨w.heap.size+1,5,none⟩=some (.int .u8 0):=by rw[cell_of_row wr _ _ _ _ _ hR];rfl
    have b6:wr.cell? ⟨w.heap.size+1,6,none⟩=some (.int .u8 0):=by rw[cell_of_row wr _ _ _ _ _ hR];rfl
    have b7:wr.cell? ⟨w.heap.size+1,7,none⟩=some (.int .u8 0):=by rw[cell_of_row wr _ _ _ _ _ hR];rfl
    have b8:wr.cell? ⟨w.heap.size+1,8,none⟩=some (.int .u8 0):=by rw[cell_of_row wr _ _ _ _ _ hR];rfl
    have b9:wr.cell? ⟨w.heap.size+1,9,none⟩=some (.int .u8 0):=by rw[cell_of_row wr _ _ _ _ _ hR];rfl
    have b10:wr.cell? ⟨w.heap.size+1,10,none⟩=some (.int .u8 0):=by rw[cell_of_row wr _ _ _ _ _ hR];rfl
    have b11:wr.cell? ⟨w.heap.size+1,11,none⟩=some (.int .u8 0):=by rw[cell_of_row wr _ _ _ _ _ hR];rfl
    have b12:wr.cell? ⟨w.heap.size+1,12,none⟩=some (.int .u8 0):=by rw[cell_of_row wr _ _ _ _ _ hR];rfl
    have b13:wr.cell? ⟨w.heap.size+1,13,none⟩=some (.int .u8 0):=by rw[cell_of_row wr _ _ _ _ _ hR];rfl
    have b14:wr.cell? ⟨w.heap.size+1,14,none⟩=some (.int .u8 0):=by rw[cell_of_row wr _ _ _ _ _ hR];rfl
    have b15:wr.cell? ⟨w.heap.size+1,15,none⟩=some (.int .u8 0):=by rw[cell_of_row wr _ _ _ _ _ hR];rfl
    have c0:wr.frozen? ⟨w.heap.size+1,0,none⟩=false:=fzj _ hR;have c1:wr.frozen? ⟨w.heap.size+1,1,none⟩=false:=fzj _ hR;have c2:wr.frozen? ⟨w.heap.size+1,2,none⟩=false:=fzj _ hR;have c3:wr.frozen? ⟨w.heap.size+1,3,none⟩=false:=fzj _ hR;have c4:wr.frozen? ⟨w.heap.size+1,4,none⟩=false:=fzj _ hR;have c5:wr.frozen? ⟨w.heap.size+1,5,none⟩=false:=fzj _ hR;have c6:wr.frozen? ⟨w.heap.size+1,6,none⟩=false:=fzj _ hR;have c7:wr.frozen? ⟨w.heap.size+1,7,none⟩=false:=fzj _ hR;have c8:wr.frozen? ⟨w.heap.size+1,8,none⟩=false:=fzj _ hR;have c9:wr.frozen? ⟨w.heap.size+1,9,none⟩=false:=fzj _ hR;have c10:wr.frozen? ⟨w.heap.size+1,10,none⟩=false:=fzj _ hR;have c11:wr.frozen? ⟨w.heap.size+1,11,none⟩=false:=fzj _ hR;have c12:wr.frozen? ⟨w.heap.size+1,12,none⟩=false:=fzj _ hR;have c13:wr.frozen? ⟨w.heap.size+1,13,none⟩=false:=fzj _ hR;have c14:wr.frozen? ⟨w.heap.size+1,14,none⟩=false:=fzj _ hR;have c15:wr.frozen? ⟨w.heap.size+1,15,none⟩=false:=fzj _ hR;clear AL hR Ag e0 e1 eR eB;go_wp2
    refine bodyPost_ret (by simp[results,results109,go_sem,b0,b1,b2,b3,b4,b5,b6,b7,b8,b9,b10,b11,b12,b13,b14,b15];try rfl) rfl ?_
    refine ⟨rfl,?_⟩;have Ae:F0 w wr:=Aw.trans Ak (fun q hq h=>by omega)
    exact ((((((((((((((((Ae).setCell (.inr (by simp)) _).setCell (.inr (by simp)) _).setCell (.inr (by simp)) _).setCell (.inr (by simp)) _).setCell (.inr (by simp)) _).setCell (.inr (by simp)) _).setCell (.inr (by simp)) _).setCell (.inr (by simp)) _).setCell (.inr (by simp)) _).setCell (.inr (by simp)) _).setCell (.inr (by simp)) _).setCell (.inr (by simp)) _).setCell (.inr (by simp)) _).setCell (.inr (by simp)) _).setCell (.inr (by simp)) _).setCell (.inr (by simp)) _
theorem Hot.setRow {w:World} {b g N cap:Nat} {A olds C:List Value} {cur:Array Value} (h:Hot w b g N cap (A++olds++C)) (hg:w.heap[g]?=some (.cells cur 5 (0,0))) (news:List Value) (hn:news.length=olds.length) {o:Nat} (ho:o=A.length) :
 Hot (w.setRow g (cur.toList.take o++(news++cur.toList.drop (o+news.length))).toArray) b g N cap (A++news++C):=by
 subst ho;obtain ⟨hb,own,ne⟩:=h;obtain ⟨hl,hv⟩:=own;rcases hv with ⟨hv,_⟩|⟨g',cap',cur',hv,Ei,I8,BF,AP,A8,Dv⟩
 · cases hv
 · simp only[Value.slice.injEq,Option.some.injEq,Addr.mk.injEq] at hv
   obtain ⟨⟨rfl,_⟩,_,rfl⟩:=hv;rw[hg] at I8;simp only[Option.some.injEq,Obj.cells.injEq] at I8;obtain ⟨rfl,_⟩:=I8
   have hD:cur.toList=A++olds++C++cur.toList.drop (N*1):=by
    conv=>lhs;rw[← take_append_drop (N*1) cur.toList,Dv]
   generalize cur.toList.drop (N*1)=D at hD;have e1:cur.toList.take A.length=A:=by rw[hD];simp[append_assoc]
   have e2:cur.toList.drop (A.length+news.length)=C++D:=by
    rw[hD,hn,← length_append,append_assoc,drop_left]
   have AA:(A++news++C).length=N*1:=by rw[← hl];simp[hn]
   rw[e1,e2]
   refine ⟨(setRow_other w g b _ (fun e=>ne e.symm)).trans hb,⟨AA,.inr ⟨g,cap,_,rfl,Ei,setRow_heap w g cur _ _ _ hg,BF,AP,?_,?_⟩⟩,ne⟩
   · rw[← A8,← Array.length_toList (xs:=cur),hD]
     simp[hn]
   · rw[← AA]
     simp only[← append_assoc]
     exact take_left
theorem aMc (w:World) (b g N cap:Nat) (A C o1:List Value) (hot:Hot w b g N cap (A++o1++C)) (h1:o1.length=16) (x0 x1 x2 x3 x4 x5 x6 x7 x8 x9 x10 x11 x12 x13 x14 x15:Int) (o c:Nat) (ho:o=A.length) (_hc:16≤c) :
 Calls Tryz.prog 559 #[.slice (some ⟨g,o,none⟩) 16 c,.agg #[.int .u8 x0,.int .u8 x1,.int .u8 x2,.int .u8 x3,.int .u8 x4,.int .u8 x5,.int .u8 x6,.int .u8 x7,.int .u8 x8,.int .u8 x9,.int .u8 x10,.int .u8 x11,.int .u8 x12,.int .u8 x13,.int .u8 x14,.int .u8 x15]] w fun e w'=>e=.returned (.tuple #[])∧Fr (fun k=>k=g) w w'∧Hot w' b g N cap (A++[.int .u8 x0,.int .u8 x1,.int .u8 x2,.int .u8 x3,.int .u8 x4,.int .u8 x5,.int .u8 x6,.int .u8 x7,.int .u8 x8,.int .u8 x9,.int .u8 x10,.int .u8 x11,.int .u8 x12,.int .u8 x13,.int .u8 x14,.int .u8 x15]++C):=by
 have Ak:=(Fr.refl (fun k=>k=g) w).alloc (.cells #[.int .u8 x0,.int .u8 x1,.int .u8 x2,.int .u8 x3,.int .u8 x4,.int .u8 x5,.int .u8 x6,.int .u8 x7,.int .u8 x8,.int .u8 x9,.int .u8 x10,.int .u8 x11,.int .u8 x12,.int .u8 x13,.int .u8 x14,.int .u8 x15] 351);have IB:=hot.alloc (.cells #[.int .u8 x0,.int .u8 x1,.int .u8 x2,.int .u8 x3,.int .u8 x4,.int .u8 x5,.int .u8 x6,.int .u8 x7,.int .u8 x8,.int .u8 x9,.int .u8 x10,.int .u8 x11,.int .u8 x12,.int .u8 x13,.int .u8 x14,.int .u8 x15] 351);have Be:=bG w [.int .u8 x0,.int .u8 x1,.int .u8 x2,.int .u8 x3,.int .u8 x4,.int .u8 x5,.int .u8 x6,.int .u8 x7,.int .u8 x8,.int .u8 x9,.int .u8 x10,.int .u8 x11,.int .u8 x12,.int .u8 x13,.int .u8 x14,.int .u8 x15] 351;have TE:=IB.glt;obtain ⟨cur,hg,hN,Lr,AP⟩:=IB.row;have AA:=hot.own.1;simp only[length_append,h1] at AA;obtain ⟨i,hi,hz,DX,Iy⟩:=gY.info;go_enter func559,ntmps559
 go_wp2_with ((with_reducible show wpList _ _ _ (⟨some 6,_,_,_,_,_⟩ :: _) _ _);refine wpList_copy_own rfl _ _ _ _ rfl _ gY.ht (by rw[hi];simp[DX]) g o 16 c ⟨w.heap.size,0,none⟩ 16 16 rfl rfl cur _ hg [.int .u8 x0,.int .u8 x1,.int .u8 x2,.int .u8 x3,.int .u8 x4,.int .u8 x5,.int .u8 x6,.int .u8 x7,.int .u8 x8,.int .u8 x9,.int .u8 x10,.int .u8 x11,.int .u8 x12,.int .u8 x13,.int .u8 x14,.int .u8 x15] rfl Be (by simp;omega) (by simp[Value.oneCell']) ?_;generalize hW:World.setRow _ _ _=W)
 go_end0;subst hW
 refine ⟨rfl,Ak.trans (S':=fun k=>k=g) ⟨rfl,rfl,rfl,by simp[World.setRow],fun k _ hk=>setRow_other _ g k _ hk⟩ (fun _ _ h=>h),?_⟩
 simpa [append_assoc] using IB.setRow hg [.int .u8 x0,.int .u8 x1,.int .u8 x2,.int .u8 x3,.int .u8 x4,.int .u8 x5,.int .u8 x6,.int .u8 x7,.int .u8 x8,.int .u8 x9,.int .u8 x10,.int .u8 x11,.int .u8 x12,.int .u8 x13,.int .u8 x14,.int .u8 x15] (by rw[h1];rfl) ho
theorem pI:∀ (k v i:Nat),i<k→(Lib.leBytes k v)[i]?=some ((v / 256 ^ i % 256).toUInt8)
 | 0,v,i,h=>by omega
 | k+1,v,0,h=>by simp[Lib.leBytes]
 | k+1,v,i+1,h=>by
  rw[Lib.leBytes,getElem?_cons_succ,pI k (v / 256) i (by omega),Nat.div_div_eq_div_mul,Nat.pow_succ,Nat.mul_comm]
theorem oD (n:Nat):(256:Nat) ^ n=2 ^ (8*n):=by
 rw[Nat.pow_mul]
theorem aDM (c:Cell) (i:Nat) (hi:i<16):(aN (aG 16 c))[i]?=some (.int .u8 (ipb c.r0 c.r1 i)):=by
 rw[vX,aN,getElem?_map]
 by_cases h:i<8
 · rw[getElem?_append_left (by rw[Lib.leBytes_length];exact h),pI 8 _ i h,Option.map_some,Lib.toUInt8_mod,ipb,if_pos h,oD,Nat.mod_eq_of_lt h]
   simp
 · rw[getElem?_append_right (by rw[Lib.leBytes_length];omega),Lib.leBytes_length,pI 8 _ _ (by omega),Option.map_some,Lib.toUInt8_mod,ipb,if_neg h,oD,show i - 8=i % 8 by omega]
   simp
theorem aIB (c:Cell):[.int .u8 (ipb c.r0 c.r1 0),.int .u8 (ipb c.r0 c.r1 1),.int .u8 (ipb c.r0 c.r1 2),.int .u8 (ipb c.r0 c.r1 3),.int .u8 (ipb c.r0 c.r1 4),.int .u8 (ipb c.r0 c.r1 5),.int .u8 (ipb c.r0 c.r1 6),.int .u8 (ipb c.r0 c.r1 7),.int .u8 (ipb c.r0 c.r1 8),.int .u8 (ipb c.r0 c.r1 9),.int .u8 (ipb c.r0 c.r1 10),.int .u8 (ipb c.r0 c.r1 11),.int .u8 (ipb c.r0 c.r1 12),.int .u8 (ipb c.r0 c.r1 13),.int .u8 (ipb c.r0 c.r1 14),.int .u8 (ipb c.r0 c.r1 15)]=aN (aG 16 c):=by
 apply ext_getElem?
 intro i
 by_cases hi:i<16
 · rw[aDM c i hi]
   have:i=0∨i=1∨i=2∨i=3∨i=4∨i=5∨i=6∨i=7∨i=8∨i=9∨i=10∨i=11∨i=12∨i=13∨i=14∨i=15:=by omega
   rcases this with h|h|h|h|h|h|h|h|h|h|h|h|h|h|h|h<;>subst h<;>rfl
 · rw[getElem?_eq_none (by simp;omega),getElem?_eq_none (by rw[aZ,aV 16 (by omega)];omega)]
theorem aLp:ElT Tryz.prog 349 351 (.agg #[.int .u8 0,.int .u8 0,.int .u8 0,.int .u8 0,.int .u8 0,.int .u8 0,.int .u8 0,.int .u8 0,.int .u8 0,.int .u8 0,.int .u8 0,.int .u8 0,.int .u8 0,.int .u8 0,.int .u8 0,.int .u8 0]) 16 16:=⟨underlying349,info_parts (by kernel_rfl),rfl⟩
theorem aNV:ElT Tryz.prog 348 351 (.agg #[.int .u8 0,.int .u8 0,.int .u8 0,.int .u8 0,.int .u8 0,.int .u8 0,.int .u8 0,.int .u8 0,.int .u8 0,.int .u8 0,.int .u8 0,.int .u8 0,.int .u8 0,.int .u8 0,.int .u8 0,.int .u8 0]) 16 16:=⟨underlying348,info_parts (by kernel_rfl),rfl⟩
theorem aFr (w:World) (p:Nat) (n:Nat) (xs:List Value) (fp:Nat→Prop) (hc:aJ w p 349 351 16 n xs fp) (hn:n<2147483648) (x0 x1 x2 x3 x4 x5 x6 x7 x8 x9 x10 x11 x12 x13 x14 x15:Int) :
 Calls Tryz.prog 550 #[.pointer (some ⟨p,0,none⟩),.agg #[.int .u8 x0,.int .u8 x1,.int .u8 x2,.int .u8 x3,.int .u8 x4,.int .u8 x5,.int .u8 x6,.int .u8 x7,.int .u8 x8,.int .u8 x9,.int .u8 x10,.int .u8 x11,.int .u8 x12,.int .u8 x13,.int .u8 x14,.int .u8 x15]] w fun e w'=>e=.returned (.tuple #[])∧(∃ fp',aJ w' p 349 351 16 (n+1) (xs++[.int .u8 x0,.int .u8 x1,.int .u8 x2,.int .u8 x3,.int .u8 x4,.int .u8 x5,.int .u8 x6,.int .u8 x7,.int .u8 x8,.int .u8 x9,.int .u8 x10,.int .u8 x11,.int .u8 x12,.int .u8 x13,.int .u8 x14,.int .u8 x15]) fp'∧Grow w fp fp')∧Fr fp w w':=by
 obtain ⟨v,hp,Aa,Am,Aj⟩:=hc;obtain ⟨Ac,BH⟩:=aJ.cell hp;obtain ⟨a0,c0,rfl⟩:=ownsRow_shape Aa;have AZ:=aC hp;go_enter func550,ntmps550
 go_wp2_with fail
 generalize hW:w.alloc _=W;have Af:F0 w W:=by subst hW;exact (Fr.refl _ w).alloc _
 have d0:W.cell? ⟨w.heap.size,0,none⟩=some (.int .u8 x0):=by subst hW;rw[aB rfl];rfl
 have d1:W.cell? ⟨w.heap.size,1,none⟩=some (.int .u8 x1):=by subst hW;rw[aB rfl];rfl
 have d2:W.cell? ⟨w.heap.size,2,none⟩=some (.int .u8 x2):=by subst hW;rw[aB rfl];rfl
 have d3:W.cell? ⟨w.heap.size,3,none⟩=some (.int .u8 x3):=by subst hW;rw[aB rfl];rfl
 have d4:W.cell? ⟨w.heap.size,4,none⟩=some (.int .u8 x4):=by subst hW;rw[aB rfl];rfl
 have d5:W.cell? ⟨w.heap.size,5,none⟩=some (.int .u8 x5):=by subst hW;rw[aB rfl];rfl
 have d6:W.cell? ⟨w.heap.size,6,none⟩=some (.int .u8 x6):=by subst hW;rw[aB rfl];rfl
 have d7:W.cell? ⟨w.heap.size,7,none⟩=some (.int .u8 x7):=by subst hW;rw[aB rfl];rfl
 have d8:W.cell? ⟨w.heap.size,8,none⟩=some (.int .u8 x8):=by subst hW;rw[aB rfl];rfl
 have d9:W.cell? ⟨w.heap.size,9,none⟩=some (.int .u8 x9):=by subst hW;rw[aB rfl];rfl
 have d10:W.cell? ⟨w.heap.size,10,none⟩=some (.int .u8 x10):=by subst hW;rw[aB rfl];rfl
 have d11:W.cell? ⟨w.heap.size,11,none⟩=some (.int .u8 x11):=by subst hW;rw[aB rfl];rfl
 have d12:W.cell? ⟨w.heap.size,12,none⟩=some (.int .u8 x12):=by subst hW;rw[aB rfl];rfl
 have d13:W.cell? ⟨w.heap.size,13,none⟩=some (.int .u8 x13):=by subst hW;rw[aB rfl];rfl
 have d14:W.cell? ⟨w.heap.size,14,none⟩=some (.int .u8 x14):=by subst hW;rw[aB rfl];rfl
 have d15:W.cell? ⟨w.heap.size,15,none⟩=some (.int .u8 x15):=by subst hW;rw[aB rfl];rfl
 have Ef:W.heap[p]?=some (.cells #[.slice a0 n c0] 349 (0,0)):=(Af.block p AZ (fun h=>h)).trans hp;have Bi:=Af.owns Aa (fun _ _ h=>h);obtain ⟨EE,LZ⟩:=aJ.cell Ef;have Na:=aC Ef;clear hW;have Un:∀ o,(W.alloc o).cell? ⟨p,0,none⟩=some (.slice a0 n c0):=fun o=>(World.cell?_alloc_lt W o _ Na).trans EE
 go_region_law (refine aK _ rfl ?_;refine dJ _ aLp _ _ rfl _ _ _ rfl (Bi.alloc _) _ _ _ rfl (Src.ofSlice _ underlying349 _ _ _ _ rfl (bG _ [.int .u8 x0,.int .u8 x1,.int .u8 x2,.int .u8 x3,.int .u8 x4,.int .u8 x5,.int .u8 x6,.int .u8 x7,.int .u8 x8,.int .u8 x9,.int .u8 x10,.int .u8 x11,.int .u8 x12,.int .u8 x13,.int .u8 x14,.int .u8 x15] _) (by simp[Value.oneCell'])) ?_ ?_ ?_;(unfold maxLen;omega);omega;intro v' w1 ha;obtain ⟨a',c',rfl⟩:=ha.shape;have Cj:w1.cell? ⟨p,0,none⟩=some (.slice a0 n c0):=ha.2.1.cell ((((Fr.refl (fun _=>False) W).alloc _).drew).aA EE (fun h=>h)) (fun h=>Am h.symm);have Ad:w1.frozen? ⟨p,0,none⟩=false:=(World.frozen?_of_block (ha.2.1.block p (by simp;omega) (fun h=>Am h.symm))).trans (by show (W.alloc _).frozen? _=_;rw[World.frozen?_alloc_old _ _ _ (by simp;omega)];exact LZ))
 all_goals
  go_end0;have Az:=aJ.appended Ef Bi Am Aj (((Fr.refl _ W).alloc _).drew) ha;obtain ⟨⟨fp',h1,h2⟩,h3⟩:=Az
  exact ⟨rfl,⟨fp',h1,fun k hk=>(h2 k hk).imp id (fun h=>Nat.le_trans Af.size h)⟩,(Af.mono (fun _ _ h=>h.elim)).trans h3 (fun _ _ h=>h)⟩
theorem aAv (w:World) (p:Nat) (n:Nat) (xs:List Value) (fp:Nat→Prop) (hc:aJ w p 349 351 16 n xs fp) (m:Nat) (sv:Value) (news:List Value) (Be:Src Tryz.prog 16 348 sv m news w) (hn:n+m≤2147483648) :
 Calls Tryz.prog 551 #[.pointer (some ⟨p,0,none⟩),sv] w fun e w'=>e=.returned (.tuple #[])∧(∃ fp',aJ w' p 349 351 16 (n+m) (xs++news) fp'∧Grow w fp fp')∧Fr fp w w':=by
 obtain ⟨v,hp,Aa,Am,Aj⟩:=hc;obtain ⟨Ac,BH⟩:=aJ.cell hp;obtain ⟨a0,c0,rfl⟩:=ownsRow_shape Aa;go_enter func551,ntmps551
 go_wp2_with ((with_reducible show wpList _ _ _ (⟨some 9,_,_,_,_,_⟩ :: _) _ _);(refine aP _ rfl aLp _ _ rfl _ _ _ rfl Aa _ _ _ rfl Be ?_ ?_ ?_);(unfold maxLen;omega);omega;intro v' w1 ha;obtain ⟨a',c',rfl⟩:=ha.shape;have Cj:w1.cell? ⟨p,0,none⟩=some (.slice a0 n c0):=ha.2.1.cell Ac (fun h=>Am h.symm);have Ad:w1.frozen? ⟨p,0,none⟩=false:=(World.frozen?_of_block (ha.2.1.block p (aC hp) (fun h=>Am h.symm))).trans BH)
 go_end0
 exact ⟨rfl,aJ.appended hp Aa Am Aj (Fr.refl _ w) ha⟩
theorem aNW (w:World) (r0 r1 r2 r3:Nat) (h0:r0<18446744073709551616∧r1<18446744073709551616):Calls Tryz.prog 108 #[.agg #[.int .u64 r0,.int .u64 r1,.int .u64 r2,.int .u64 r3]] w fun e w'=>e=.returned (.agg #[.int .u8 (ipb r0 r1 0),.int .u8 (ipb r0 r1 1),.int .u8 (ipb r0 r1 2),.int .u8 (ipb r0 r1 3),.int .u8 (ipb r0 r1 4),.int .u8 (ipb r0 r1 5),.int .u8 (ipb r0 r1 6),.int .u8 (ipb r0 r1 7),.int .u8 (ipb r0 r1 8),.int .u8 (ipb r0 r1 9),.int .u8 (ipb r0 r1 10),.int .u8 (ipb r0 r1 11),.int .u8 (ipb r0 r1 12),.int .u8 (ipb r0 r1 13),.int .u8 (ipb r0 r1 14),.int .u8 (ipb r0 r1 15)])∧F0 w w':=by
 have hb:∀ w,Calls Tryz.prog 109 #[.agg #[.int .u64 r0,.int .u64 r1,.int .u64 r2,.int .u64 r3]] w fun e w'=>e=.returned (.agg #[.int .u8 (ipb r0 r1 0),.int .u8 (ipb r0 r1 1),.int .u8 (ipb r0 r1 2),.int .u8 (ipb r0 r1 3),.int .u8 (ipb r0 r1 4),.int .u8 (ipb r0 r1 5),.int .u8 (ipb r0 r1 6),.int .u8 (ipb r0 r1 7),.int .u8 (ipb r0 r1 8),.int .u8 (ipb r0 r1 9),.int .u8 (ipb r0 r1 10),.int .u8 (ipb r0 r1 11),.int .u8 (ipb r0 r1 12),.int .u8 (ipb r0 r1 13),.int .u8 (ipb r0 r1 14),.int .u8 (ipb r0 r1 15)])∧F0 w w':=fun w=>aCQ w r0 r1 r2 r3 h0.1 h0.2
 go_enter func108,ntmps108
 go_wp2_with (go_at_call 109;refine (hb _).mono ?_;rintro e w1 ⟨rfl,Ad⟩;have hm:w1.heap[w.heap.size+1]?=some (.cells #[.int .u8 0,.int .u8 0,.int .u8 0,.int .u8 0,.int .u8 0,.int .u8 0,.int .u8 0,.int .u8 0,.int .u8 0,.int .u8 0,.int .u8 0,.int .u8 0,.int .u8 0,.int .u8 0,.int .u8 0,.int .u8 0] 351 (0,0)):=Ad.made (by simp);have q0:w1.cell? ⟨w.heap.size+1,0,none⟩=some (.int .u8 0):=(crw hm rfl);have q1:w1.cell? ⟨w.heap.size+1,1,none⟩=some (.int .u8 0):=(crw hm rfl);have q2:w1.cell? ⟨w.heap.size+1,2,none⟩=some (.int .u8 0):=(crw hm rfl);have q3:w1.cell? ⟨w.heap.size+1,3,none⟩=some (.int .u8 0):=(crw hm rfl);have q4:w1.cell? ⟨w.heap.size+1,4,none⟩=some (.int .u8 0):=(crw hm rfl);have q5:w1.cell? ⟨w.heap.size+1,5,none⟩=some (.int .u8 0):=(crw hm rfl);have q6:w1.cell? ⟨w.heap.size+1,6,none⟩=some (.int .u8 0):=(crw hm rfl);have q7:w1.cell? ⟨w.heap.size+1,7,none⟩=some (.int .u8 0):=(crw hm rfl);have q8:w1.cell? ⟨w.heap.size+1,8,none⟩=some (.int .u8 0):=(crw hm rfl);have q9:w1.cell? ⟨w.heap.size+1,9,none⟩=some (.int .u8 0):=(crw hm rfl);have q10:w1.cell? ⟨w.heap.size+1,10,none⟩=some (.int .u8 0):=(crw hm rfl);have q11:w1.cell? ⟨w.heap.size+1,11,none⟩=some (.int .u8 0):=(crw hm rfl);have q12:w1.cell? ⟨w.heap.size+1,12,none⟩=some (.int .u8 0):=(crw hm rfl);have q13:w1.cell? ⟨w.heap.size+1,13,none⟩=some (.int .u8 0):=(crw hm rfl);have q14:w1.cell? ⟨w.heap.size+1,14,none⟩=some (.int .u8 0):=(crw hm rfl);have q15:w1.cell? ⟨w.heap.size+1,15,none⟩=some (.int .u8 0):=(crw hm rfl);have z0:w1.frozen? ⟨w.heap.size+1,0,none⟩=false:=fzj _ hm;have z1:w1.frozen? ⟨w.heap.size+1,1,none⟩=false:=fzj _ hm;have z2:w1.frozen? ⟨w.heap.size+1,2,none⟩=false:=fzj _ hm;have z3:w1.frozen? ⟨w.heap.size+1,3,none⟩=false:=fzj _ hm;have z4:w1.frozen? ⟨w.heap.size+1,4,none⟩=false:=fzj _ hm;have z5:w1.frozen? ⟨w.heap.size+1,5,none⟩=false:=fzj _ hm;have z6:w1.frozen? ⟨w.heap.size+1,6,none⟩=false:=fzj _ hm;have z7:w1.frozen? ⟨w.heap.size+1,7,none⟩=false:=fzj _ hm;have z8:w1.frozen? ⟨w.heap.size+1,8,none⟩=false:=fzj _ hm;have z9:w1.frozen? ⟨w.heap.size+1,9,none⟩=false:=fzj _ hm;have z10:w1.frozen? ⟨w.heap.size+1,10,none⟩=false:=fzj _ hm;have z11:w1.frozen? ⟨w.heap.size+1,11,none⟩=false:=fzj _ hm;have z12:w1.frozen? ⟨w.heap.size+1,12,none⟩=false:=fzj _ hm;have z13:w1.frozen? ⟨w.heap.size+1,13,none⟩=false:=fzj _ hm;have z14:w1.frozen? ⟨w.heap.size+1,14,none⟩=false:=fzj _ hm;have z15:w1.frozen? ⟨w.heap.size+1,15,none⟩=false:=fzj _ hm)
 refine bodyPost_ret (by simp[results,results108,go_sem,q0,q1,q2,q3,q4,q5,q6,q7,q8,q9,q10,q11,q12,q13,q14,q15];try rfl) rfl ?_
 exact ⟨rfl,(((((((((((((((((((Fr.refl (fun _=>False) w).alloc _).alloc _).trans Ad (fun _ _ h=>h)).setCell (.inr (by simp)) _).setCell (.inr (by simp)) _).setCell (.inr (by simp)) _).setCell (.inr (by simp)) _).setCell (.inr (by simp)) _).setCell (.inr (by simp)) _).setCell (.inr (by simp)) _).setCell (.inr (by simp)) _).setCell (.inr (by simp)) _).setCell (.inr (by simp)) _).setCell (.inr (by simp)) _).setCell (.inr (by simp)) _).setCell (.inr (by simp)) _).setCell (.inr (by simp)) _).setCell (.inr (by simp)) _).setCell (.inr (by simp)) _⟩
theorem aLq (w:World) (nb:Nat) (r0 r1 r2 r3:Nat) (h0:r0<18446744073709551616∧r1<18446744073709551616) (s:ByteArray) (null:Bool) (iv kv:Value) (hf:w.cell? ⟨nb,1,none⟩=some (.func (.func 108) #[] #[])) :
 Calls Tryz.prog 564 #[.agg #[.int .u64 r0,.int .u64 r1,.int .u64 r2,.int .u64 r3,.string s,.bool null,iv,kv],.pointer (some ⟨nb,0,none⟩)] w fun e w'=>e=.returned (.agg #[.int .u8 (ipb r0 r1 0),.int .u8 (ipb r0 r1 1),.int .u8 (ipb r0 r1 2),.int .u8 (ipb r0 r1 3),.int .u8 (ipb r0 r1 4),.int .u8 (ipb r0 r1 5),.int .u8 (ipb r0 r1 6),.int .u8 (ipb r0 r1 7),.int .u8 (ipb r0 r1 8),.int .u8 (ipb r0 r1 9),.int .u8 (ipb r0 r1 10),.int .u8 (ipb r0 r1 11),.int .u8 (ipb r0 r1 12),.int .u8 (ipb r0 r1 13),.int .u8 (ipb r0 r1 14),.int .u8 (ipb r0 r1 15)])∧F0 w w':=by
 have Ey:∀ o,(w.alloc o).cell? ⟨nb,1,none⟩=some (.func (.func 108) #[] #[]):=fun o=>(World.cell?_alloc_lt w o _ (World.block_lt_of_cell? w _ hf)).trans hf
 have Ae:∀ o o',((w.alloc o).alloc o').cell? ⟨nb,1,none⟩=some (.func (.func 108) #[] #[]):=fun o o'=>(World.cell?_alloc_lt (w.alloc o) o' _ (World.block_lt_of_cell? _ _ (Ey o))).trans (Ey o)
 go_enter func564,ntmps564
 go_wp2_with (go_at_call 108;refine (aNW _ r0 r1 r2 r3 h0).mono ?_;rintro e w1 ⟨rfl,Ad⟩;have hm:w1.heap[w.heap.size+1]?=some (.cells #[.int .u8 0,.int .u8 0,.int .u8 0,.int .u8 0,.int .u8 0,.int .u8 0,.int .u8 0,.int .u8 0,.int .u8 0,.int .u8 0,.int .u8 0,.int .u8 0,.int .u8 0,.int .u8 0,.int .u8 0,.int .u8 0] 351 (0,0)):=Ad.made (by simp);have q0:w1.cell? ⟨w.heap.size+1,0,none⟩=some (.int .u8 0):=(crw hm rfl);have q1:w1.cell? ⟨w.heap.size+1,1,none⟩=some (.int .u8 0):=(crw hm rfl);have q2:w1.cell? ⟨w.heap.size+1,2,none⟩=some (.int .u8 0):=(crw hm rfl);have q3:w1.cell? ⟨w.heap.size+1,3,none⟩=some (.int .u8 0):=(crw hm rfl);have q4:w1.cell? ⟨w.heap.size+1,4,none⟩=some (.int .u8 0):=(crw hm rfl);have q5:w1.cell? ⟨w.heap.size+1,5,none⟩=some (.int .u8 0):=(crw hm rfl);have q6:w1.cell? ⟨w.heap.size+1,6,none⟩=some (.int .u8 0):=(crw hm rfl);have q7:w1.cell? ⟨w.heap.size+1,7,none⟩=some (.int .u8 0):=(crw hm rfl);have q8:w1.cell? ⟨w.heap.size+1,8,none⟩=some (.int .u8 0):=(crw hm rfl);have q9:w1.cell? ⟨w.heap.size+1,9,none⟩=some (.int .u8 0):=(crw hm rfl);have q10:w1.cell? ⟨w.heap.size+1,10,none⟩=some (.int .u8 0):=(crw hm rfl);have q11:w1.cell? ⟨w.heap.size+1,11,none⟩=some (.int .u8 0):=(crw hm rfl);have q12:w1.cell? ⟨w.heap.size+1,12,none⟩=some (.int .u8 0):=(crw hm rfl);have q13:w1.cell? ⟨w.heap.size+1,13,none⟩=some (.int .u8 0):=(crw hm rfl);have q14:w1.cell? ⟨w.heap.size+1,14,none⟩=some (.int .u8 0):=(crw hm rfl);have q15:w1.cell? ⟨w.heap.size+1,15,none⟩=some (.int .u8 0):=(crw hm rfl);have z0:w1.frozen? ⟨w.heap.size+1,0,none⟩=false:=fzj _ hm;have z1:w1.frozen? ⟨w.heap.size+1,1,none⟩=false:=fzj _ hm;have z2:w1.frozen? ⟨w.heap.size+1,2,none⟩=false:=fzj _ hm;have z3:w1.frozen? ⟨w.heap.size+1,3,none⟩=false:=fzj _ hm;have z4:w1.frozen? ⟨w.heap.size+1,4,none⟩=false:=fzj _ hm;have z5:w1.frozen? ⟨w.heap.size+1,5,none⟩=false:=fzj _ hm;have z6:w1.frozen? ⟨w.heap.size+1,6,none⟩=false:=fzj _ hm;have z7:w1.frozen? ⟨w.heap.size+1,7,none⟩=false:=fzj _ hm;have z8:w1.frozen? ⟨w.heap.size+1,8,none⟩=false:=fzj _ hm;have z9:w1.frozen? ⟨w.heap.size+1,9,none⟩=false:=fzj _ hm;have z10:w1.frozen? ⟨w.heap.size+1,10,none⟩=false:=fzj _ hm;have z11:w1.frozen? ⟨w.heap.size+1,11,none⟩=false:=fzj _ hm;have z12:w1.frozen? ⟨w.heap.size+1,12,none⟩=false:=fzj _ hm;have z13:w1.frozen? ⟨w.heap.size+1,13,none⟩=false:=fzj _ hm;have z14:w1.frozen? ⟨w.heap.size+1,14,none⟩=false:=fzj _ hm;have z15:w1.frozen? ⟨w.heap.size+1,15,none⟩=false:=fzj _ hm)
 refine bodyPost_ret (by simp[results,results564,go_sem,q0,q1,q2,q3,q4,q5,q6,q7,q8,q9,q10,q11,q12,q13,q14,q15];try rfl) rfl ?_
 exact ⟨rfl,(((((((((((((((((((Fr.refl (fun _=>False) w).alloc _).alloc _).trans Ad (fun _ _ h=>h)).setCell (.inr (by simp)) _).setCell (.inr (by simp)) _).setCell (.inr (by simp)) _).setCell (.inr (by simp)) _).setCell (.inr (by simp)) _).setCell (.inr (by simp)) _).setCell (.inr (by simp)) _).setCell (.inr (by simp)) _).setCell (.inr (by simp)) _).setCell (.inr (by simp)) _).setCell (.inr (by simp)) _).setCell (.inr (by simp)) _).setCell (.inr (by simp)) _).setCell (.inr (by simp)) _).setCell (.inr (by simp)) _).setCell (.inr (by simp)) _⟩
theorem aBW (a:Addr) (w:World):(method mdp 347 (.pointer (some a)) "Append").run Tryz.prog w=.ok (550,.pointer (some a)) w:=by kernel_rfl
theorem wQ (a:Addr) (w:World):(method mdp 347 (.pointer (some a)) "AppendArr").run Tryz.prog w=.ok (551,.pointer (some a)) w:=by kernel_rfl
theorem yC (w:World) (p nb:Nat) (n:Nat) (xs:List Value) (fp:Nat→Prop) (hc:aJ w p 349 351 16 n xs fp) (hn:n<2147483648) (hf:w.cell? ⟨nb,1,none⟩=some (.func (.func 108) #[] #[]))
 (r0 r1 r2 r3:Nat) (h0:r0<18446744073709551616∧r1<18446744073709551616) (s:ByteArray) (null:Bool) (iv kv:Value) :
 Calls Tryz.prog 682 #[.agg #[.iface 347 (.pointer (some ⟨p,0,none⟩)),.func (.func 564) #[] #[.pointer (some ⟨nb,0,none⟩)],.func (.func 565) #[] #[.pointer (some ⟨nb,0,none⟩)]],.agg #[.int .u64 r0,.int .u64 r1,.int .u64 r2,.int .u64 r3,.string s,.bool null,iv,kv]] w fun e w' =>
  e=.returned (.tuple #[])∧(∃ fp',aJ w' p 349 351 16 (n+1) (xs++[.int .u8 (ipb r0 r1 0),.int .u8 (ipb r0 r1 1),.int .u8 (ipb r0 r1 2),.int .u8 (ipb r0 r1 3),.int .u8 (ipb r0 r1 4),.int .u8 (ipb r0 r1 5),.int .u8 (ipb r0 r1 6),.int .u8 (ipb r0 r1 7),.int .u8 (ipb r0 r1 8),.int .u8 (ipb r0 r1 9),.int .u8 (ipb r0 r1 10),.int .u8 (ipb r0 r1 11),.int .u8 (ipb r0 r1 12),.int .u8 (ipb r0 r1 13),.int .u8 (ipb r0 r1 14),.int .u8 (ipb r0 r1 15)]) fp'∧Grow w fp fp')∧Fr fp w w':=by
 go_enter func682,ntmps682
 go_wp2_with fail
 generalize hW:(w.alloc _).alloc _=W;have Af:F0 w W:=by subst hW;exact ((Fr.refl _ w).alloc _).alloc _
 have d0:W.cell? ⟨w.heap.size,0,none⟩=some (.iface 347 (.pointer (some ⟨p,0,none⟩))):=by subst hW;rw[ca (by simp),aB rfl];rfl
 have d1:W.cell? ⟨w.heap.size,1,none⟩=some (.func (.func 564) #[] #[.pointer (some ⟨nb,0,none⟩)]):=by subst hW;rw[ca (by simp),aB rfl];rfl
 have e0:W.cell? ⟨w.heap.size+1,0,none⟩=some (.int .u64 r0):=by subst hW;rw[aB (by simp)];rfl
 have e1:W.cell? ⟨w.heap.size+1,1,none⟩=some (.int .u64 r1):=by subst hW;rw[aB (by simp)];rfl
 have e2:W.cell? ⟨w.heap.size+1,2,none⟩=some (.int .u64 r2):=by subst hW;rw[aB (by simp)];rfl
 have e3:W.cell? ⟨w.heap.size+1,3,none⟩=some (.int .u64 r3):=by subst hW;rw[aB (by simp)];rfl
 have e4:W.cell? ⟨w.heap.size+1,4,none⟩=some (.string s):=by subst hW;rw[aB (by simp)];rfl
 have e5:W.cell? ⟨w.heap.size+1,5,none⟩=some (.bool null):=by subst hW;rw[aB (by simp)];rfl
 have e6:W.cell? ⟨w.heap.size+1,6,none⟩=some iv:=by subst hW;rw[aB (by simp)];rfl
 have e7:W.cell? ⟨w.heap.size+1,7,none⟩=some kv:=by subst hW;rw[aB (by simp)];rfl
 have BA:aJ W p 349 351 16 n xs fp:=hc.aW fun k hk=>Af.block k (hc.lt k hk) (fun h=>h)
 have Aw:W.cell? ⟨nb,1,none⟩=some (.func (.func 108) #[] #[]):=Af.aA hf (fun h=>h);have hN:¬ fp w.heap.size:=fun h=>by have:=hc.lt _ h;omega
 have AU:¬ fp (w.heap.size+1):=fun h=>by have:=hc.lt _ h;omega
 clear hW
 go_region_held3 (fun w'=>w'.cell? ⟨w.heap.size,0,none⟩=some (.iface 347 (.pointer (some ⟨p,0,none⟩)))∧w'.cell? ⟨w.heap.size,1,none⟩=some (.func (.func 564) #[] #[.pointer (some ⟨nb,0,none⟩)]) ∧
  w'.cell? ⟨w.heap.size+1,0,none⟩=some (.int .u64 r0)∧w'.cell? ⟨w.heap.size+1,1,none⟩=some (.int .u64 r1)∧w'.cell? ⟨w.heap.size+1,2,none⟩=some (.int .u64 r2)∧w'.cell? ⟨w.heap.size+1,3,none⟩=some (.int .u64 r3) ∧
  w'.cell? ⟨w.heap.size+1,4,none⟩=some (.string s)∧w'.cell? ⟨w.heap.size+1,5,none⟩=some (.bool null)∧w'.cell? ⟨w.heap.size+1,6,none⟩=some iv∧w'.cell? ⟨w.heap.size+1,7,none⟩=some kv)
  (first
   | exact ⟨d0,d1,e0,e1,e2,e3,e4,e5,e6,e7⟩
   | exact ⟨Ae.aA d0 hN,Ae.aA d1 hN,Ae.aA e0 AU,Ae.aA e1 AU,Ae.aA e2 AU,Ae.aA e3 AU,Ae.aA e4 AU,Ae.aA e5 AU,Ae.aA e6 AU,Ae.aA e7 AU⟩
   | exact ⟨Ad.aA d0 (fun h=>h),Ad.aA d1 (fun h=>h),Ad.aA e0 (fun h=>h),Ad.aA e1 (fun h=>h),Ad.aA e2 (fun h=>h),Ad.aA e3 (fun h=>h),Ad.aA e4 (fun h=>h),Ad.aA e5 (fun h=>h),Ad.aA e6 (fun h=>h),Ad.aA e7 (fun h=>h)⟩
   | assumption)
  (first
   | (refine aK _ rfl ?_;refine dI _ _ _ _ rfl _ _ rfl (bM.func1 call564 (aLq _ nb r0 r1 r2 r3 h0 s null iv kv Aw)) rfl ?_;rintro e w1 ⟨rfl,Ad⟩;refine ⟨_,rfl,?_⟩)
   | (refine aK _ rfl ?_;refine bH _ _ _ _ _ rfl _ _ rfl (aF.of1 (aBW _ _) call550 (aFr _ p n xs fp (BA.aW fun k hk=>Ad.block k (BA.lt k hk) (fun h=>h)) hn (ipb r0 r1 0) (ipb r0 r1 1) (ipb r0 r1 2) (ipb r0 r1 3) (ipb r0 r1 4) (ipb r0 r1 5) (ipb r0 r1 6) (ipb r0 r1 7) (ipb r0 r1 8) (ipb r0 r1 9) (ipb r0 r1 10) (ipb r0 r1 11) (ipb r0 r1 12) (ipb r0 r1 13) (ipb r0 r1 14) (ipb r0 r1 15))) rfl ?_;rintro e w2 ⟨rfl,Aq,Au⟩;have Ae:Fr fp W w2:=(Ad.aH.mono (fun _ _ h=>h.elim)).trans Au (fun _ _ h=>h);refine ⟨_,rfl,?_⟩))
 all_goals
  go_end0
  refine ⟨rfl,?_,(Af.mono (fun _ _ h=>h.elim)).trans Ae (fun _ _ h=>h)⟩;obtain ⟨fp',h1,h2⟩:=Aq
  exact ⟨fp',h1,fun k hk=>(h2 k hk).imp id (fun h=>Nat.le_trans (Nat.le_trans Af.size Ad.size) h)⟩
def eQ (c:Cell):List Value:=[.int .u8 (ipb c.r0 c.r1 0),.int .u8 (ipb c.r0 c.r1 1),.int .u8 (ipb c.r0 c.r1 2),.int .u8 (ipb c.r0 c.r1 3),.int .u8 (ipb c.r0 c.r1 4),.int .u8 (ipb c.r0 c.r1 5),.int .u8 (ipb c.r0 c.r1 6),.int .u8 (ipb c.r0 c.r1 7),.int .u8 (ipb c.r0 c.r1 8),.int .u8 (ipb c.r0 c.r1 9),.int .u8 (ipb c.r0 c.r1 10),.int .u8 (ipb c.r0 c.r1 11),.int .u8 (ipb c.r0 c.r1 12),.int .u8 (ipb c.r0 c.r1 13),.int .u8 (ipb c.r0 c.r1 14),.int .u8 (ipb c.r0 c.r1 15)]
theorem aFv (w:World) (B nb:Nat) (Bd:B≤w.heap.size) (hf:w.cell? ⟨nb,1,none⟩=some (.func (.func 108) #[] #[])) (cs:List Cell) (v:Value) (xs:List Value) (hs:Sl B w 8 v cs.length xs) (hc:aI B w cs xs) (hn:cs.length≤2147483648) :
 Calls Tryz.prog 685 #[v,.func (.func 564) #[] #[.pointer (some ⟨nb,0,none⟩)]] w fun e w'=>∃ tv,e=.returned tv∧w'.ownsRow 0 351 16 tv cs.length (cs.flatMap eQ)∧F0 w w':=by
 have CB:=hs;obtain ⟨Dy,ao,cap,rfl,BF,AP,h0,ha⟩:=hs;unfold maxLen at AP;clear ha h0 Dy;go_enter func685,ntmps685;go_wp2
 go_loopw [5,10] (fun tv i wr=>∃ k:Nat,k≤cs.length∧i=.int .i64 k∧wr.ownsRow 0 351 16 tv k ((cs.take k).flatMap eQ)∧(∀ q,tv.ownBlock=some q→w.heap.size≤q)∧F0 w wr) (fun _ i _=>cs.length - (intOf i).toNat)
 case atStart=>exact ⟨0,Nat.zero_le _,rfl,World.ownsRow_nil _ _ _ _,by simp[Value.ownBlock],Fr.refl _ _⟩
 case round =>
  obtain ⟨k,hk,rfl,Aa,Ai,Ak⟩:=hrel;have Bf:Below B w wr:=Ak.below Bd (fun _ _ h=>h);obtain ⟨a0,c0,rfl⟩:=ownsRow_shape Aa
  by_cases Ar:k<cs.length
  · obtain ⟨b,off,cap',hv,FT,vs,AQ,Ac⟩:=(CB.below Bf).row (aI.below Bf _ _ hc) Ar
    have Ah:=Lib.hid (bQ eQ cs k Ar);generalize cs[k]=c at AQ Ah;obtain ⟨ia,il,ic,ka,kl,kc,rfl,h0,h1,h2,h3,h4⟩:=AQ.open;simp only[Value.slice.injEq] at hv;obtain ⟨rfl,_,rfl⟩:=hv;have d0:=Ac 0 _ rfl;have d1:=Ac 1 _ rfl;have d2:=Ac 2 _ rfl;have d3:=Ac 3 _ rfl;have d4:=Ac 4 _ rfl;have d5:=Ac 5 _ rfl;have d6:=Ac 6 _ rfl;have d7:=Ac 7 _ rfl;simp only[Nat.add_zero] at d0;have BM:F0 w (wr.alloc (.cells #[.int .u64 c.r0,.int .u64 c.r1,.int .u64 c.r2,.int .u64 c.r3,.string c.s,.bool c.null,.slice ia il ic,.slice ka kl kc] 35)):=Ak.alloc _;have EN:=aLq _ nb c.r0 c.r1 c.r2 c.r3 ⟨h0,h1⟩ c.s c.null (.slice ia il ic) (.slice ka kl kc) (BM.aA hf (fun h=>h));clear Ac AQ CB hc
    go_wp2_with (first|((with_reducible show wpList _ _ _ (⟨some 17,_,_,_,_,_⟩ :: _) _ _);refine dG _ rfl _ _ _ rfl _ _ rfl (bM.func1 call564 EN) rfl ?_;rintro e w1 ⟨rfl,Ad⟩;refine ⟨_,rfl,?_⟩;have Bv:F0 w w1:=BM.trans Ad (fun _ _ h=>h);have Ba:=Ad.owns ((Fr.refl (fun _=>False) wr).alloc _ |>.owns Aa (fun _ _ h=>h)) (fun _ _ h=>h))|((with_reducible show wpList _ _ _ (⟨some 19,_,_,_,_,_⟩ :: _) _ _);refine aP _ rfl aNV _ _ rfl _ _ _ rfl (Ba.alloc _) _ _ _ rfl (Src.ofSlice _ underlying348 _ _ _ _ rfl (bG _ [.int .u8 (ipb c.r0 c.r1 0),.int .u8 (ipb c.r0 c.r1 1),.int .u8 (ipb c.r0 c.r1 2),.int .u8 (ipb c.r0 c.r1 3),.int .u8 (ipb c.r0 c.r1 4),.int .u8 (ipb c.r0 c.r1 5),.int .u8 (ipb c.r0 c.r1 6),.int .u8 (ipb c.r0 c.r1 7),.int .u8 (ipb c.r0 c.r1 8),.int .u8 (ipb c.r0 c.r1 9),.int .u8 (ipb c.r0 c.r1 10),.int .u8 (ipb c.r0 c.r1 11),.int .u8 (ipb c.r0 c.r1 12),.int .u8 (ipb c.r0 c.r1 13),.int .u8 (ipb c.r0 c.r1 14),.int .u8 (ipb c.r0 c.r1 15)] _) (by simp[Value.oneCell'])) ?_ ?_ ?_;(unfold maxLen;omega);omega;intro v' w2 ha;obtain ⟨a',c',rfl⟩:=ha.shape))
    go_roundw
    case rel=>exact ⟨k+1,by omega,by go_num,by rw[Ah.out];exact ha.1,(ha.since (Bv.alloc _) Ai).1,(ha.since (Bv.alloc _) Ai).2⟩
    case measure=>simp[intOf];omega
  · have Bl:k=cs.length:=by omega
    subst Bl;rw[take_length] at Aa;go_wp2;go_ret
    exact ⟨_,rfl,Aa,Ak⟩
theorem aAw (cs:List Cell):∀ u∈cs.flatMap eQ,u.oneCell'=true:=by
 intro u hu;obtain ⟨c,_,hc⟩:=mem_flatMap.1 hu;simp only[eQ,mem_cons,not_mem_nil,or_false] at hc;rcases hc with rfl|rfl|rfl|rfl|rfl|rfl|rfl|rfl|rfl|rfl|rfl|rfl|rfl|rfl|rfl|rfl<;>rfl
theorem rC (w:World) (B p nb:Nat) (Bd:B≤w.heap.size) (n:Nat) (xs:List Value) (fp:Nat→Prop) (hc:aJ w p 349 351 16 n xs fp) (hf:w.cell? ⟨nb,1,none⟩=some (.func (.func 108) #[] #[]))
 (cs:List Cell) (v:Value) (ys:List Value) (hs:Sl B w 8 v cs.length ys) (A8:aI B w cs ys) (hn:n+cs.length≤2147483648) :
 Calls Tryz.prog 683 #[.agg #[.iface 347 (.pointer (some ⟨p,0,none⟩)),.func (.func 564) #[] #[.pointer (some ⟨nb,0,none⟩)],.func (.func 565) #[] #[.pointer (some ⟨nb,0,none⟩)]],v] w fun e w' =>
  e=.returned (.tuple #[])∧(∃ fp',aJ w' p 349 351 16 (n+cs.length) (xs++cs.flatMap eQ) fp'∧Grow w fp fp')∧Fr fp w w':=by
 go_enter func683,ntmps683
 go_wp2_with fail
 generalize hW:w.alloc _=W;have Af:F0 w W:=by subst hW;exact (Fr.refl _ w).alloc _
 have d0:W.cell? ⟨w.heap.size,0,none⟩=some (.iface 347 (.pointer (some ⟨p,0,none⟩))):=by subst hW;rw[aB rfl];rfl
 have d1:W.cell? ⟨w.heap.size,1,none⟩=some (.func (.func 564) #[] #[.pointer (some ⟨nb,0,none⟩)]):=by subst hW;rw[aB rfl];rfl
 have BA:aJ W p 349 351 16 n xs fp:=hc.aW fun k hk=>Af.block k (hc.lt k hk) (fun h=>h)
 have Aw:W.cell? ⟨nb,1,none⟩=some (.func (.func 108) #[] #[]):=Af.aA hf (fun h=>h);have hN:¬ fp w.heap.size:=fun h=>by have:=hc.lt _ h;omega
 have D6:=hs.fr Bd Af;have Cf:=aI.below (Af.below Bd (fun _ _ h=>h)) _ _ A8;have CZ:B≤W.heap.size:=Nat.le_trans Bd Af.size;have EX:=D6.fr CZ (Fr.refl (fun _=>False) W).drew;have Ce:=aI.below ((Below.refl B W).drew) _ _ Cf;clear hW hs A8
 go_region_held3 (fun w'=>w'.cell? ⟨w.heap.size,0,none⟩=some (.iface 347 (.pointer (some ⟨p,0,none⟩)))∧w'.cell? ⟨w.heap.size,1,none⟩=some (.func (.func 564) #[] #[.pointer (some ⟨nb,0,none⟩)]))
  (first
   | exact ⟨d0,d1⟩
   | exact ⟨Ae.aA d0 hN,Ae.aA d1 hN⟩
   | exact ⟨Ad.aA d0 (fun h=>h),Ad.aA d1 (fun h=>h)⟩
   | assumption)
  (first
   | (go_at_call 685;refine (aFv W.drew B nb CZ Aw cs v ys EX Ce (by omega)).mono ?_;rintro e w1 ⟨tv,rfl,Aa,Ad⟩)
   | (refine aK _ rfl ?_;refine bH _ _ _ _ _ rfl _ _ rfl (aF.of1 (wQ _ _) call551 (aAv _ p n xs fp (BA.aW fun k hk=>Ad.block k (BA.lt k hk) (fun h=>h)) _ _ _ (Src.kC underlying348 Aa (aAw cs)) hn)) rfl ?_;rintro e w2 ⟨rfl,Aq,Au⟩;have Ae:Fr fp W w2:=(Ad.aH.mono (fun _ _ h=>h.elim)).trans Au (fun _ _ h=>h);refine ⟨_,rfl,?_⟩))
 all_goals
  go_end0
  refine ⟨rfl,?_,(Af.mono (fun _ _ h=>h.elim)).trans Ae (fun _ _ h=>h)⟩;obtain ⟨fp',h1,h2⟩:=Aq
  exact ⟨fp',h1,fun k hk=>(h2 k hk).imp id (fun h=>Nat.le_trans (Nat.le_trans Af.size Ad.size) h)⟩
theorem aLw (w:World) (a:Option Addr) (n c:Nat):Calls Tryz.prog 556 #[.slice a n c] w fun e w'=>e=.returned (.int .i64 n)∧F0 w w':=by
 go_enter func556,ntmps556;go_wp2;go_ret
 exact ⟨rfl,Fr.refl _ _⟩
theorem vO (w:World) (b:Nat) (fb:Nat→Prop) (bs:List UInt8) (hb:Buf w b fb bs) (a:Option Addr) (c:Nat) (cs:List Cell) (Aa:w.ownsRow 0 351 16 (.slice a cs.length c) cs.length (cs.flatMap eQ))
 (hd:∀ k,(Value.slice a cs.length c).ownBlock=some k→¬ fb k) (hc:∀ c∈cs,c.small) (hl:bs.length+16*cs.length≤1099511627776) :
 Calls Tryz.prog 553 #[.slice a cs.length c,.pointer (some ⟨b,0,none⟩)] w fun e w'=>e=.returned (.tuple #[])∧Fr fb w w'∧∃ fb',Buf w' b fb' (bs++cs.flatMap (aG 16))∧Grow w fb fb'∧Kept w w' b bs.length:=by
 by_cases h0:cs.length=0
 · have A8:cs=[]:=eq_nil_of_length_eq_zero (by omega)
   subst A8;go_enter func553,ntmps553;go_wp2
   try simp only[Exit.inBlock,Exit.then]
   refine bodyPost_ret (results_none rfl _ _ _) rfl ?_
   exact ⟨rfl,Fr.refl _ _,fb,by simpa using hb,fun k hk=>.inl hk,Kept.refl _ _ _⟩
 · have Ei:=hb
   obtain ⟨v,hp,Bh,Am,Aj⟩:=Ei;obtain ⟨Ac,BH⟩:=aJ.cell hp;obtain ⟨a0,c0,rfl⟩:=ownsRow_shape Bh;have AZ:=aC hp;have AP:cs.length≤9223372036854775807:=by omega
   go_enter func553,ntmps553
   go_wp2_with ((with_reducible show wpList _ _ _ (⟨some 25,_,_,_,_,_⟩ :: _) _ _);(refine dB _ rfl gY underlying3 _ _ rfl _ _ _ rfl Bh _ (16*cs.length) rfl ?_ ?_ ?_ ?_);go_num;omega;omega;intro v' w1 ha;obtain ⟨a',c',rfl⟩:=ha.shape;have Cj:w1.cell? ⟨b,0,none⟩=some (.slice a0 bs.length c0):=ha.2.1.cell Ac (fun h=>Am h.symm);have Ad:w1.frozen? ⟨b,0,none⟩=false:=(World.frozen?_of_block (ha.2.1.block b AZ (fun h=>Am h.symm))).trans BH)
   obtain ⟨⟨fb',Aq,AX⟩,Ak⟩:=aJ.appended hp Bh Am Aj (Fr.refl _ w) ha;have D5:=Kept.appended hp Bh Am (Fr.refl _ w) ha;generalize w1.setCell ⟨b,0,none⟩ (Value.slice a' (bs.length+16*cs.length) c')=W at Aq Ak D5 ⊢;obtain ⟨g,cap,hot,BC⟩:=Hot.of Aq (by omega);have Bi:=Ak.owns Aa hd
   have DF:∀ k,(Value.slice a cs.length c).ownBlock=some k→k≠b∧k≠g:=fun k hk=>⟨fun e=>hd k hk ((Aj k).2 (.inl e)),fun e=>by
    subst e;rcases AX k ((BC k).2 (.inr rfl)) with h|h
    · exact hd k hk h
    · have:=aO Aa hk;omega⟩
   have hS:∀ k,k<w.heap.size→(k=b∨k=g)→fb k:=fun k hk hh=>(AX k ((BC k).2 hh)).resolve_right (by omega)
   have Ie:=Lib.hid hp;have DV:=Lib.hid Bh;have DU:=Lib.hid Am;have DR:=Lib.hid D5;clear ha Aq hp Bh Ac BH Cj Ad Am hb D5
   go_loopw [5,7,30] (fun off _ i wr=>∃ k:Nat,k≤cs.length∧i=.int .i64 k∧off=.int .i64 (bs.length+16*k:Nat)∧Hot wr b g (bs.length+16*cs.length) cap (aN (bs++(cs.take k).flatMap (aG 16))++List.replicate (16*(cs.length - k)) (.int .u8 0))∧Fr (fun k=>k=b∨k=g) W wr) (fun _ _ i _=>cs.length - (intOf i).toNat)
   case atStart=>exact ⟨0,Nat.zero_le _,rfl,by simp,by simpa using hot,Fr.refl _ _⟩
   case round =>
    obtain ⟨k,hk,rfl,rfl,A7,AY⟩:=hrel
    by_cases Ar:k<cs.length
    · have Ap:=AY.owns Bi (fun k hk h=>by have:=DF k hk;omega)
      rcases Ap.2 with ⟨hv,_⟩|⟨ga,capa,cura,hv,_⟩
      · simp only[Value.slice.injEq] at hv;omega
      · simp only[Value.slice.injEq] at hv
        obtain ⟨rfl,_,rfl⟩:=hv;have Dp:=hc cs[k] (getElem_mem _);have Ah:=bQ (aG 16) cs k Ar;have AL:=fun j hj=>gJ eQ 16 (fun _=>rfl) cs k j Ar hj
        generalize cs[k]=cc at Dp Ah AL;obtain ⟨b0,b1,b2,b3,_⟩:=Dp;have FK:=Ap.cells (g:=ga) rfl (k*16+0) _ (AL 0 (by omega));rw[Addr.add_lit,Nat.zero_add] at FK;have F6:=Ap.cells (g:=ga) rfl (k*16+1) _ (AL 1 (by omega));rw[Addr.add_lit,Nat.zero_add] at F6;have Ky:=Ap.cells (g:=ga) rfl (k*16+2) _ (AL 2 (by omega));rw[Addr.add_lit,Nat.zero_add] at Ky;have N9:=Ap.cells (g:=ga) rfl (k*16+3) _ (AL 3 (by omega));rw[Addr.add_lit,Nat.zero_add] at N9;have QF:=Ap.cells (g:=ga) rfl (k*16+4) _ (AL 4 (by omega));rw[Addr.add_lit,Nat.zero_add] at QF;have UL:=Ap.cells (g:=ga) rfl (k*16+5) _ (AL 5 (by omega));rw[Addr.add_lit,Nat.zero_add] at UL;have UM:=Ap.cells (g:=ga) rfl (k*16+6) _ (AL 6 (by omega));rw[Addr.add_lit,Nat.zero_add] at UM;have UN:=Ap.cells (g:=ga) rfl (k*16+7) _ (AL 7 (by omega));rw[Addr.add_lit,Nat.zero_add] at UN;have UO:=Ap.cells (g:=ga) rfl (k*16+8) _ (AL 8 (by omega));rw[Addr.add_lit,Nat.zero_add] at UO;have UQ:=Ap.cells (g:=ga) rfl (k*16+9) _ (AL 9 (by omega));rw[Addr.add_lit,Nat.zero_add] at UQ;have Nv:=Ap.cells (g:=ga) rfl (k*16+10) _ (AL 10 (by omega));rw[Addr.add_lit,Nat.zero_add] at Nv;have Nw:=Ap.cells (g:=ga) rfl (k*16+11) _ (AL 11 (by omega));rw[Addr.add_lit,Nat.zero_add] at Nw;have Ny:=Ap.cells (g:=ga) rfl (k*16+12) _ (AL 12 (by omega));rw[Addr.add_lit,Nat.zero_add] at Ny;have Nz:=Ap.cells (g:=ga) rfl (k*16+13) _ (AL 13 (by omega));rw[Addr.add_lit,Nat.zero_add] at Nz;have N7:=Ap.cells (g:=ga) rfl (k*16+14) _ (AL 14 (by omega));rw[Addr.add_lit,Nat.zero_add] at N7;have N8:=Ap.cells (g:=ga) rfl (k*16+15) _ (AL 15 (by omega));rw[Addr.add_lit,Nat.zero_add] at N8;simp only[Nat.add_zero] at FK;have H5:=A7.cell;have H9:=A7.row;obtain ⟨_,_,_,Lr,Cm⟩:=H9;unfold maxLen at Cm;have AA:(bs++(cs.take k).flatMap (aG 16)).length=bs.length+16*k:=by rw[length_append,aY _ 16 (aV 16 (by omega)),length_take];congr 2;omega
        have Jj:=Lib.hid (aIB cc)
        have UV:aN (bs++(cs.take k).flatMap (aG 16))++List.replicate (16*(cs.length - k)) (.int .u8 0)=aN (bs++(cs.take k).flatMap (aG 16))++(List.replicate 16 (Value.int .u8 0))++List.replicate (16*(cs.length - (k+1))) (.int .u8 0):=by
         simp only[append_assoc,replicate_append_replicate]
         congr 2
         omega
        rw[UV] at A7;have DK:bs.length+16*k=(aN (bs++(cs.take k).flatMap (aG 16))).length:=by rw[aZ,AA]
        have AO:=aMc ((wr.alloc (.cells #[.int .u8 (ipb cc.r0 cc.r1 0),.int .u8 (ipb cc.r0 cc.r1 1),.int .u8 (ipb cc.r0 cc.r1 2),.int .u8 (ipb cc.r0 cc.r1 3),.int .u8 (ipb cc.r0 cc.r1 4),.int .u8 (ipb cc.r0 cc.r1 5),.int .u8 (ipb cc.r0 cc.r1 6),.int .u8 (ipb cc.r0 cc.r1 7),.int .u8 (ipb cc.r0 cc.r1 8),.int .u8 (ipb cc.r0 cc.r1 9),.int .u8 (ipb cc.r0 cc.r1 10),.int .u8 (ipb cc.r0 cc.r1 11),.int .u8 (ipb cc.r0 cc.r1 12),.int .u8 (ipb cc.r0 cc.r1 13),.int .u8 (ipb cc.r0 cc.r1 14),.int .u8 (ipb cc.r0 cc.r1 15)] 351)).drew) b g _ cap _ _ (List.replicate 16 (Value.int .u8 0)) ((A7.alloc _).drew) (by simp) (ipb cc.r0 cc.r1 0) (ipb cc.r0 cc.r1 1) (ipb cc.r0 cc.r1 2) (ipb cc.r0 cc.r1 3) (ipb cc.r0 cc.r1 4) (ipb cc.r0 cc.r1 5) (ipb cc.r0 cc.r1 6) (ipb cc.r0 cc.r1 7) (ipb cc.r0 cc.r1 8) (ipb cc.r0 cc.r1 9) (ipb cc.r0 cc.r1 10) (ipb cc.r0 cc.r1 11) (ipb cc.r0 cc.r1 12) (ipb cc.r0 cc.r1 13) (ipb cc.r0 cc.r1 14) (ipb cc.r0 cc.r1 15)  (bs.length+16*k) (cap - (bs.length+16*k)) DK (by omega);have BM:Fr (fun k=>k=b∨k=g) W ((wr.alloc (.cells #[.int .u8 (ipb cc.r0 cc.r1 0),.int .u8 (ipb cc.r0 cc.r1 1),.int .u8 (ipb cc.r0 cc.r1 2),.int .u8 (ipb cc.r0 cc.r1 3),.int .u8 (ipb cc.r0 cc.r1 4),.int .u8 (ipb cc.r0 cc.r1 5),.int .u8 (ipb cc.r0 cc.r1 6),.int .u8 (ipb cc.r0 cc.r1 7),.int .u8 (ipb cc.r0 cc.r1 8),.int .u8 (ipb cc.r0 cc.r1 9),.int .u8 (ipb cc.r0 cc.r1 10),.int .u8 (ipb cc.r0 cc.r1 11),.int .u8 (ipb cc.r0 cc.r1 12),.int .u8 (ipb cc.r0 cc.r1 13),.int .u8 (ipb cc.r0 cc.r1 14),.int .u8 (ipb cc.r0 cc.r1 15)] 351)).drew):=(AY.alloc _).drew
        have hr:(wr.alloc (.cells #[.int .u8 (ipb cc.r0 cc.r1 0),.int .u8 (ipb cc.r0 cc.r1 1),.int .u8 (ipb cc.r0 cc.r1 2),.int .u8 (ipb cc.r0 cc.r1 3),.int .u8 (ipb cc.r0 cc.r1 4),.int .u8 (ipb cc.r0 cc.r1 5),.int .u8 (ipb cc.r0 cc.r1 6),.int .u8 (ipb cc.r0 cc.r1 7),.int .u8 (ipb cc.r0 cc.r1 8),.int .u8 (ipb cc.r0 cc.r1 9),.int .u8 (ipb cc.r0 cc.r1 10),.int .u8 (ipb cc.r0 cc.r1 11),.int .u8 (ipb cc.r0 cc.r1 12),.int .u8 (ipb cc.r0 cc.r1 13),.int .u8 (ipb cc.r0 cc.r1 14),.int .u8 (ipb cc.r0 cc.r1 15)] 351)).rangeAt wr.heap.size 0 [.int .u8 (ipb cc.r0 cc.r1 0),.int .u8 (ipb cc.r0 cc.r1 1),.int .u8 (ipb cc.r0 cc.r1 2),.int .u8 (ipb cc.r0 cc.r1 3),.int .u8 (ipb cc.r0 cc.r1 4),.int .u8 (ipb cc.r0 cc.r1 5),.int .u8 (ipb cc.r0 cc.r1 6),.int .u8 (ipb cc.r0 cc.r1 7),.int .u8 (ipb cc.r0 cc.r1 8),.int .u8 (ipb cc.r0 cc.r1 9),.int .u8 (ipb cc.r0 cc.r1 10),.int .u8 (ipb cc.r0 cc.r1 11),.int .u8 (ipb cc.r0 cc.r1 12),.int .u8 (ipb cc.r0 cc.r1 13),.int .u8 (ipb cc.r0 cc.r1 14),.int .u8 (ipb cc.r0 cc.r1 15)]:=fun j v hv=>by
         have:=bG wr [.int .u8 (ipb cc.r0 cc.r1 0),.int .u8 (ipb cc.r0 cc.r1 1),.int .u8 (ipb cc.r0 cc.r1 2),.int .u8 (ipb cc.r0 cc.r1 3),.int .u8 (ipb cc.r0 cc.r1 4),.int .u8 (ipb cc.r0 cc.r1 5),.int .u8 (ipb cc.r0 cc.r1 6),.int .u8 (ipb cc.r0 cc.r1 7),.int .u8 (ipb cc.r0 cc.r1 8),.int .u8 (ipb cc.r0 cc.r1 9),.int .u8 (ipb cc.r0 cc.r1 10),.int .u8 (ipb cc.r0 cc.r1 11),.int .u8 (ipb cc.r0 cc.r1 12),.int .u8 (ipb cc.r0 cc.r1 13),.int .u8 (ipb cc.r0 cc.r1 14),.int .u8 (ipb cc.r0 cc.r1 15)] 351 j v hv
         rwa [Addr.add_lit] at this
        have hu6:Tryz.prog.underlying 351=some (.array 16 5):=underlying351;have qo:(Tryz.prog.info? 351).map (·.size)=some ([.int .u8 (ipb cc.r0 cc.r1 0),.int .u8 (ipb cc.r0 cc.r1 1),.int .u8 (ipb cc.r0 cc.r1 2),.int .u8 (ipb cc.r0 cc.r1 3),.int .u8 (ipb cc.r0 cc.r1 4),.int .u8 (ipb cc.r0 cc.r1 5),.int .u8 (ipb cc.r0 cc.r1 6),.int .u8 (ipb cc.r0 cc.r1 7),.int .u8 (ipb cc.r0 cc.r1 8),.int .u8 (ipb cc.r0 cc.r1 9),.int .u8 (ipb cc.r0 cc.r1 10),.int .u8 (ipb cc.r0 cc.r1 11),.int .u8 (ipb cc.r0 cc.r1 12),.int .u8 (ipb cc.r0 cc.r1 13),.int .u8 (ipb cc.r0 cc.r1 14),.int .u8 (ipb cc.r0 cc.r1 15)]:List Value).length:=by kernel_rfl
        have IR:(wr.alloc (.cells #[.int .u8 (ipb cc.r0 cc.r1 0),.int .u8 (ipb cc.r0 cc.r1 1),.int .u8 (ipb cc.r0 cc.r1 2),.int .u8 (ipb cc.r0 cc.r1 3),.int .u8 (ipb cc.r0 cc.r1 4),.int .u8 (ipb cc.r0 cc.r1 5),.int .u8 (ipb cc.r0 cc.r1 6),.int .u8 (ipb cc.r0 cc.r1 7),.int .u8 (ipb cc.r0 cc.r1 8),.int .u8 (ipb cc.r0 cc.r1 9),.int .u8 (ipb cc.r0 cc.r1 10),.int .u8 (ipb cc.r0 cc.r1 11),.int .u8 (ipb cc.r0 cc.r1 12),.int .u8 (ipb cc.r0 cc.r1 13),.int .u8 (ipb cc.r0 cc.r1 14),.int .u8 (ipb cc.r0 cc.r1 15)] 351)).cell? ⟨b,0,none⟩=some (.slice (some ⟨g,0,none⟩) (bs.length+16*cs.length) cap):=((Fr.refl (fun _=>False) wr).alloc _).aA H5 (fun h=>h);have Yv:=A7.glt;clear AL A7;have ho:bs.length+16*k+16≤cap:=by omega
        generalize Jk:bs.length+16*k=o at ho AO ⊢;have s0:(0:Int)≤↑o:=by omega
        have s1:IntKind.i64.wrap ((o:Int)+16)=(o:Int)+16:=by rw[IntKind.wrap_i64];omega
        have s2:(o:Int)≤(o:Int)+16:=by omega
        have s3:(o:Int)+16≤(cap:Int):=by omega
        have s4:(0:Int)≤(o:Int)+16:=by omega
        have s5:¬ cap=o:=by omega
        have s6:((o:Int)+16).toNat - o=16:=by omega
        go_wp2;generalize RU:wr.alloc (.cells #[.int .u8 (ipb cc.r0 cc.r1 0),.int .u8 (ipb cc.r0 cc.r1 1),.int .u8 (ipb cc.r0 cc.r1 2),.int .u8 (ipb cc.r0 cc.r1 3),.int .u8 (ipb cc.r0 cc.r1 4),.int .u8 (ipb cc.r0 cc.r1 5),.int .u8 (ipb cc.r0 cc.r1 6),.int .u8 (ipb cc.r0 cc.r1 7),.int .u8 (ipb cc.r0 cc.r1 8),.int .u8 (ipb cc.r0 cc.r1 9),.int .u8 (ipb cc.r0 cc.r1 10),.int .u8 (ipb cc.r0 cc.r1 11),.int .u8 (ipb cc.r0 cc.r1 12),.int .u8 (ipb cc.r0 cc.r1 13),.int .u8 (ipb cc.r0 cc.r1 14),.int .u8 (ipb cc.r0 cc.r1 15)] 351)=Wa at AO BM IR hr ⊢;clear RU
        go_region_held3 (fun w'=>w'.cell? ⟨b,0,none⟩=some (.slice (some ⟨g,0,none⟩) (bs.length+16*cs.length) cap)∧w'.rangeAt wr.heap.size 0 [.int .u8 (ipb cc.r0 cc.r1 0),.int .u8 (ipb cc.r0 cc.r1 1),.int .u8 (ipb cc.r0 cc.r1 2),.int .u8 (ipb cc.r0 cc.r1 3),.int .u8 (ipb cc.r0 cc.r1 4),.int .u8 (ipb cc.r0 cc.r1 5),.int .u8 (ipb cc.r0 cc.r1 6),.int .u8 (ipb cc.r0 cc.r1 7),.int .u8 (ipb cc.r0 cc.r1 8),.int .u8 (ipb cc.r0 cc.r1 9),.int .u8 (ipb cc.r0 cc.r1 10),.int .u8 (ipb cc.r0 cc.r1 11),.int .u8 (ipb cc.r0 cc.r1 12),.int .u8 (ipb cc.r0 cc.r1 13),.int .u8 (ipb cc.r0 cc.r1 14),.int .u8 (ipb cc.r0 cc.r1 15)])
         (first
          | exact ⟨IR,hr⟩
          | exact ⟨Bz.cell,fun j v hv=>Ad.aA (hr j v hv) (by show ¬ wr.heap.size=g;omega)⟩
          | assumption)
         (first
          | (go_at_call 559;refine AO.mono ?_;rintro e w1 ⟨rfl,Ad,Bz⟩;rw[Jj.out] at Bz;simp only[← bC,append_assoc] at Bz;rw[← Ah] at Bz))
        all_goals
         go_wp2;go_roundw
         case rel=>exact ⟨k+1,by omega,by go_num,by subst Jk;go_num,Bz,BM.trans Ad (fun _ _ h=>.inr h)⟩
         case measure=>simp[intOf];omega
    · have Bl:k=cs.length:=by omega
      subst Bl;go_wp2;go_end0;rw[take_length,Nat.sub_self,Nat.mul_zero,replicate_zero,append_nil] at A7;have CO:=fun CJ=>Hot.buf (bs:=bs++cs.flatMap (aG 16)) (cap:=cap) (N:=bs.length+16*cs.length) A7 (fb:=fun k=>k=b∨k=g) CJ
      have C9:=Kept.hot (l:=aN (cs.flatMap (aG 16))) Ie.out DV.out DU.out DR.out AY (by rw[← bC];exact A7)
      exact ⟨rfl,Ak.trans AY hS,_,CO (fun k=>Iff.rfl),fun k hk=>AX k ((BC k).2 hk),C9⟩
def aOX:Nat→Nat→Nat→World→(Nat→Prop)→List Cell→Prop:=gZ 349 351 16 eQ (.func (.func 108) #[] #[]) (.func (.func 110) #[] #[])
theorem aBe (p nb:Nat) (w:World) (name:String) (f:FuncId) (h:(name,f)=("Append",682)∨(name,f)=("AppendArr",683)):(method mdp 635 (.agg #[.iface 347 (.pointer (some ⟨p,0,none⟩)),.func (.func 564) #[] #[.pointer (some ⟨nb,0,none⟩)],.func (.func 565) #[] #[.pointer (some ⟨nb,0,none⟩)]]) name).run Tryz.prog w=.ok (f,.agg #[.iface 347 (.pointer (some ⟨p,0,none⟩)),.func (.func 564) #[] #[.pointer (some ⟨nb,0,none⟩)],.func (.func 565) #[] #[.pointer (some ⟨nb,0,none⟩)]]) w:=by
 rcases h with h|h<;>(simp only[Prod.mk.injEq] at h;obtain ⟨rfl,rfl⟩:=h;kernel_rfl)
theorem aFt (p nb:Nat) (w:World) (v:Value) (hv:w.cell? ⟨p,0,none⟩=some v):(method mdp 635 (.agg #[.iface 347 (.pointer (some ⟨p,0,none⟩)),.func (.func 564) #[] #[.pointer (some ⟨nb,0,none⟩)],.func (.func 565) #[] #[.pointer (some ⟨nb,0,none⟩)]]) "Rows").run Tryz.prog w=.ok (556,v) w:=by
 obtain ⟨n,hn⟩:=fuel;rw[hn]
 refine (aX (n:=n+1) underlying635 rfl rfl (fun _=>by kernel_rfl) (by kernel_rfl) rfl).trans ?_
 exact aQ (n:=n) false (by kernel_rfl) (aU underlying347 (bI underlying349 hv))
theorem aID (p nb:Nat) (w:World) (v:Value) (hv:w.cell? ⟨p,0,none⟩=some v):(method mdp 635 (.agg #[.iface 347 (.pointer (some ⟨p,0,none⟩)),.func (.func 564) #[] #[.pointer (some ⟨nb,0,none⟩)],.func (.func 565) #[] #[.pointer (some ⟨nb,0,none⟩)]]) "EncodeColumn").run Tryz.prog w=.ok (553,v) w:=by
 obtain ⟨n,hn⟩:=fuel;rw[hn]
 refine (aX (n:=n+1) underlying635 rfl rfl (fun _=>by kernel_rfl) (by kernel_rfl) rfl).trans ?_
 exact aQ (n:=n) false (by kernel_rfl) (aU underlying347 (bI underlying349 hv))
theorem aLr (p nb:Nat):iI Tryz.prog 349 351 635 16 eQ (.func (.func 108) #[] #[]) p nb (.agg #[.iface 347 (.pointer (some ⟨p,0,none⟩)),.func (.func 564) #[] #[.pointer (some ⟨nb,0,none⟩)],.func (.func 565) #[] #[.pointer (some ⟨nb,0,none⟩)]]) (.num .ip6) where
 append:=fun w n xs fp hc hn hf c iv kv hs=>aF.of1 (aBe p nb w _ _ (.inl rfl)) call682 (yC w p nb n xs fp hc hn hf c.r0 c.r1 c.r2 c.r3 ⟨hs.1,hs.2.1⟩ c.s c.null iv kv)
 appendArr:=fun w B n xs fp hB hc hf cs v ys hs A8 hn=>aF.of1 (aBe p nb w _ _ (.inr rfl)) call683 (rC w B p nb hB n xs fp hc hf cs v ys hs A8 hn)
 rows:=fun w a n c hp=>aF.of0 (aFt p nb w _ hp) call556 (aLw w a n c)
 flat:=by rintro w name (rfl|rfl|rfl) n m<;>exact fC underlying635 rfl rfl (fun _=>by kernel_rfl) (by kernel_rfl) rfl (by kernel_rfl) n m
 ahead:=fun w=>by kernel_rfl
 prep:=fun x w=>run_typeAssert_lacksB underlying102 (by kernel_rfl) (by kernel_rfl) _ x w
 stat:=fun x w=>run_typeAssert_lacksB underlying172 (by kernel_rfl) (by kernel_rfl) _ x w
 encode:=fun w b fb bs a c cs hb hp Aa hd hs hl=>aF.of1 (aID p nb w _ hp) call553 (vO w b fb bs hb a c cs Aa hd hs
  (by have GH:(enc (.num .ip6) cs).length=16*cs.length:=aY _ 16 (aV 16 (by omega)) cs;omega))
theorem aLx (B p nb:Nat):ColSpec Tryz.prog B 635 (.agg #[.iface 347 (.pointer (some ⟨p,0,none⟩)),.func (.func 564) #[] #[.pointer (some ⟨nb,0,none⟩)],.func (.func 565) #[] #[.pointer (some ⟨nb,0,none⟩)]]) (.num .ip6) [] (aOX B p nb) (aOX B p nb):=(aLr p nb).spec
theorem aFs (w:World):Calls Tryz.prog 50 #[.int .i64 18] w fun e w'=>e=.returned (.iface 359 (.agg #[.iface 347 (.pointer (some ⟨w.heap.size,0,none⟩)),.func (.func 108) #[] #[],.func (.func 110) #[] #[]]))∧w'=w.alloc (.cells #[.slice none 0 0] 349):=by
 have h:Calls Tryz.prog 83 #[.int .i64 18] w fun e w'=>e=.returned (.iface 359 (.agg #[.iface 347 (.pointer (some ⟨w.heap.size,0,none⟩)),.func (.func 108) #[] #[],.func (.func 110) #[] #[]]))∧w'=w.alloc (.cells #[.slice none 0 0] 349):=by
  go_enter func83,ntmps83;go_wp2;go_ret
  exact ⟨rfl,rfl⟩
 go_enter func50,ntmps50
 go_wp2_with (go_at_call 83;refine h.mono ?_;rintro e w1 ⟨rfl,rfl⟩)
 go_ret
 exact ⟨rfl,rfl⟩
theorem aDm (w:World) (p:Nat):(method mdp 359 (.agg #[.iface 347 (.pointer (some ⟨p,0,none⟩)),.func (.func 108) #[] #[],.func (.func 110) #[] #[]]) "given.example/pub-bradawl/impl.cells").run Tryz.prog w =
 .ok (563,.agg #[.iface 347 (.pointer (some ⟨p,0,none⟩)),.func (.func 108) #[] #[],.func (.func 110) #[] #[]]) w:=by
 obtain ⟨n,hn⟩:=fuel;rw[hn]
 exact aQ (n:=n+1) false (by kernel_rfl) (dM underlying359 rfl)
theorem aLu (w:World) (p B:Nat) (hB:B≤p) (hp:w.heap[p]?=some (.cells #[.slice none 0 0] 349 (0,0))) :
 Calls Tryz.prog 563 #[.agg #[.iface 347 (.pointer (some ⟨p,0,none⟩)),.func (.func 108) #[] #[],.func (.func 110) #[] #[]]] w fun e w' =>
  ∃ nb fp,e=.returned (.iface 635 (.agg #[.iface 347 (.pointer (some ⟨p,0,none⟩)),.func (.func 564) #[] #[.pointer (some ⟨nb,0,none⟩)],.func (.func 565) #[] #[.pointer (some ⟨nb,0,none⟩)]]))∧aOX B p nb w' fp []∧F0 w w':=by
 have AZ:=aC hp;go_enter func563,ntmps563;go_wp2;go_ret
 refine ⟨w.heap.size,fun k=>k=p∨k=w.heap.size,rfl,⟨fun k=>k=p,⟨.slice none 0 0,(Below.heap_alloc _ _ _ AZ).trans hp,World.ownsRow_nil _ _ _ _,by simp[Value.ownBlock],fun k=>by simp[Value.ownBlock]⟩,⟨by rw[aB rfl];rfl,by rw[aB rfl];rfl⟩,fun k=>Iff.rfl,?_,by omega,by simp⟩,(Fr.refl _ w).alloc _⟩;rintro k (rfl|rfl)<;>omega
abbrev ipL (r0 r1:Nat):Array Value:=#[.int .u8 (ipb r0 r1 0),.int .u8 (ipb r0 r1 1),.int .u8 (ipb r0 r1 2),.int .u8 (ipb r0 r1 3),.int .u8 (ipb r0 r1 4),.int .u8 (ipb r0 r1 5),.int .u8 (ipb r0 r1 6),.int .u8 (ipb r0 r1 7),.int .u8 (ipb r0 r1 8),.int .u8 (ipb r0 r1 9),.int .u8 (ipb r0 r1 10),.int .u8 (ipb r0 r1 11),.int .u8 (ipb r0 r1 12),.int .u8 (ipb r0 r1 13),.int .u8 (ipb r0 r1 14),.int .u8 (ipb r0 r1 15)]
theorem aOZ (r0 r1 k:Nat) (h:k<16) (w:World):(Instr.index 350 (.agg (ipL r0 r1)) (.int .i64 k)).run Tryz.prog w=.ok (.int .u8 (ipb r0 r1 k)) w:=by
 rcases k with _|_|_|_|_|_|_|_|_|_|_|_|_|_|_|_|k<;>first|omega|kernel_rfl
theorem aHp (r j:Nat):(r:Int) / 2 ^ (8*j) % 256=((r / 256 ^ j % 256:Nat):Int):=by
 rw[oD,Int.natCast_emod,Int.natCast_ediv,Int.natCast_pow]
 rfl
theorem aOe (r j:Nat) (hj:j<8):bits .or .u64 ((r % 256 ^ j:Nat):Int) ((r / 256 ^ j % 256*2 ^ (8*j):Nat):Int)=((r % 256 ^ (j+1):Nat):Int):=by
 have hp:0<256 ^ j:=Nat.pow_pos (by omega);have h7:256 ^ j≤72057594037927936:=by rcases j with _|_|_|_|_|_|_|_|j<;>first|omega|decide
 have hR:r % 256 ^ j<256 ^ j:=Nat.mod_lt _ hp;have hX:r / 256 ^ j % 256<256:=Nat.mod_lt _ (by omega);rw[← oD,Nat.pow_succ,Nat.mod_mul,Nat.mul_comm (r / 256 ^ j % 256)];have VR:=Nat.mul_le_mul h7 (Nat.le_of_lt_succ hX);rw[bits_or_u64_nat _ _ (by omega) (by omega),Nat.or_comm,oD,← Nat.two_pow_add_eq_or_of_lt (by rw[← oD];exact hR),Nat.add_comm]
set_option linter.unusedSimpArgs false in
theorem aJj (w:World) (r0 r1:Nat) (h0:r0<18446744073709551616) (h1:r1<18446744073709551616):Calls Tryz.prog 111 #[.agg (ipL r0 r1)] w fun e w'=>e=.returned (.agg #[.int .u64 r0,.int .u64 r1,.int .u64 0,.int .u64 0])∧F0 w w':=by
 go_enter func111,ntmps111;go_wp2;generalize hW:((w.alloc _).alloc _).alloc _=W;have Aw:F0 w W:=by subst hW;exact (((Fr.refl _ w).alloc _).alloc _).alloc _
 have eR:W.heap[w.heap.size+1]?=some (.cells #[.int .u64 0,.int .u64 0,.int .u64 0,.int .u64 0] 33 (0,0)):=by subst hW;rw[Below.heap_alloc _ _ _ (by simp)];exact jS (by simp)
 have eB:W.heap[w.heap.size+1+1]?=some (.cells #[.int .u64 0,.int .u64 0,.int .u64 0,.int .u64 0] 33 (0,0)):=by subst hW;exact jS (by simp)
 have DX:W.heap.size=w.heap.size+3:=by subst hW;simp
 clear hW
 go_loopw [7] (fun i wr=>∃ k:Nat,k≤16∧i=.int .i64 k∧wr.heap[w.heap.size+1+1]?=some (.cells #[.int .u64 (r0 % 256 ^ (min k 8):Nat),.int .u64 (r1 % 256 ^ (k - 8):Nat),.int .u64 0,.int .u64 0] 33 (0,0))∧Fr (fun q=>q=w.heap.size+1+1) W wr) (fun i _=>16 - (intOf i).toNat)
 case atStart=>exact ⟨0,by omega,rfl,by rw[eB];simp[Nat.mod_one],Fr.refl _ _⟩
 case round =>
  obtain ⟨k,hk,rfl,Ag,Ak⟩:=hrel
  by_cases Ar:k<16
  · obtain ⟨r,hr,YH,cK⟩:∃ r:Nat,Hid (r=if k<8 then r0 else r1)∧ipb r0 r1 k=(r / 256 ^ (k % 8) % 256:Nat)∧wr.cell? ⟨w.heap.size+1+1,k / 8,none⟩=some (.int .u64 (r % 256 ^ (k % 8):Nat)):=by
     by_cases h8:k<8
     · exact ⟨r0,Lib.hid (by rw[if_pos h8]),by rw[ipb,if_pos h8,aHp],by rw[cell_of_row _ _ _ _ _ _ Ag,show k / 8=0 by omega,Nat.min_eq_left (by omega),show k % 8=k by omega];rfl⟩
     · exact ⟨r1,Lib.hid (by rw[if_neg h8]),by rw[ipb,if_neg h8,aHp],by rw[cell_of_row _ _ _ _ _ _ Ag,show k / 8=1 by omega,show k % 8=k - 8 by omega];rfl⟩
    have Vx:=aOe r (k % 8) (by omega);have q0:=aOZ r0 r1 k Ar;rw[YH] at q0;have F6:r / 256 ^ (k % 8) % 256<256:=Nat.mod_lt _ (by omega);clear YH;have e1:IntKind.i64.wrap ((k:Int) / 8)=(k:Int) / 8:=by rw[IntKind.wrap_i64];omega
    have e3:IntKind.i64.wrap (8*((k:Int) % 8))=8*((k:Int) % 8):=by rw[IntKind.wrap_i64];omega
    generalize r / 256 ^ (k % 8) % 256=x at q0 Vx F6
    have hy1:IntKind.u64.wrap (IntKind.u64.wrap (x:Int)*2 ^ (8*((k:Int) % 8)).toNat)=((x*2 ^ (8*(k % 8)):Nat):Int):=by
     rw[IntKind.wrap_u64,IntKind.wrap_u64,show (8*((k:Int) % 8)).toNat=8*(k % 8) by omega,Int.emod_eq_of_lt (by omega:(0:Int)≤x) (by omega)];have h8:k % 8<8:=by omega
     generalize k % 8=j at h8 ⊢;have hb:x*2 ^ (8*j)<18446744073709551616:=Nat.lt_of_lt_of_le (Nat.mul_lt_mul_of_pos_right F6 (Nat.two_pow_pos _)) (by rcases j with _|_|_|_|_|_|_|_|j<;>first|omega|decide);have hc:((x:Int)*2 ^ (8*j))=((x*2 ^ (8*j):Nat):Int):=by push_cast;rfl
     rw[hc];omega
    generalize x*2 ^ (8*(k % 8))=y at hy1 Vx;generalize hZ:r % 256 ^ (k % 8+1)=Z at Vx;generalize r % 256 ^ (k % 8)=R at cK Vx;have hZ:=Lib.hid hZ;have BH:=fzj (k / 8) Ag;have Gz:(k:Int)<16:=by omega
    have q1:0≤(k:Int) / 8:=by omega
    have q2:(k:Int) / 8<4:=by omega
    have q3:0≤(k:Int) % 8:=by omega
    have q4:(k:Int) % 8<8:=by omega
    have WN:=Lib.hid Ak;have Bq:=Lib.hid Ag;clear Ak Ag hk h0 h1 DX;clear eR eB;have BD:Fr (fun q=>q=w.heap.size+1+1) wr wr.drew:=(Fr.refl _ wr).drew;have XD:wr.drew.cell? ⟨w.heap.size+1+1,k / 8,none⟩=some (.int .u64 R)∧wr.drew.frozen? ⟨w.heap.size+1+1,k / 8,none⟩=false:=⟨cK,BH⟩;have JI:=Lib.hid XD;have Kw:=Lib.hid BD;have XD:=Lib.hid XD;clear BD;go_wp2
    refine Goes.region (T:=fun v=>Fr (fun q=>q=w.heap.size+1+1) wr v) (S:=fun v=>v.cell? ⟨w.heap.size+1+1,k / 8,none⟩=some (.int .u64 R)∧v.frozen? ⟨w.heap.size+1+1,k / 8,none⟩=false) (z:=12) (by kernel_rfl) ?_
    refine Goes.fA (i:=0) (u:=?hu0) rfl (by kernel_rfl) (by kernel_rfl) (by kernel_rfl) (by kernel_rfl) (fun _ _ _ h=>h) (by rfl) Kw.out (fun _=>JI.out) ?hy0 ?hr0
    case hy0 =>
     intro wq EM;go_simp
     rfl
    try simp only[gg,Act.put]
    refine Goes.fA (i:=1) (u:=.int .i64 (k / 8:Nat)) rfl (by kernel_rfl) (by kernel_rfl) (by kernel_rfl) (by kernel_rfl) (fun _ _ _ h=>h) (by rfl) Kw.out (fun _=>JI.out) ?hy1 ?hr1
    case hy1 =>
     intro wq EM;go_simp
    try simp only[gg,Act.put]
    refine Goes.fA (i:=2) (u:=.pointer (some ⟨w.heap.size+1+1,k / 8,none⟩)) rfl (by kernel_rfl) (by kernel_rfl) (by kernel_rfl) (by kernel_rfl) (fun _ _ _ h=>h) (by rfl) Kw.out (fun _=>JI.out) ?hy2 ?hr2
    case hy2 =>
     intro wq EM;go_simp
    try simp only[gg,Act.put]
    refine Goes.aDS (i:=3) (u:=?hu3) rfl (by kernel_rfl) rfl (by kernel_rfl) (by kernel_rfl) (by kernel_rfl) (by kernel_rfl) (by kernel_rfl) (fun _ _ _ h=>h) (by rfl) Kw.out JI.out ?hy3 ?hr3
    case hy3 =>
     intro wq EM;obtain ⟨-,e0,e1⟩:=EM;go_simp
     rfl
    try simp only[gg,Act.put]
    refine Goes.fA (i:=4) (u:=?hu4) rfl (by kernel_rfl) (by kernel_rfl) (by kernel_rfl) (by kernel_rfl) (fun _ _ _ h=>h) (by rfl) Kw.out (fun _=>JI.out) ?hy4 ?hr4
    case hy4 =>
     intro wq EM;go_simp
     rfl
    try simp only[gg,Act.put]
    refine Goes.fA (i:=5) (u:=?hu5) rfl (by kernel_rfl) (by kernel_rfl) (by kernel_rfl) (by kernel_rfl) (fun _ _ _ h=>h) (by rfl) Kw.out (fun _=>JI.out) ?hy5 ?hr5
    case hy5 =>
     intro wq EM;go_simp
     rfl
    try simp only[gg,Act.put]
    refine Goes.fA (i:=6) (u:=?hu6) rfl (by kernel_rfl) (by kernel_rfl) (by kernel_rfl) (by kernel_rfl) (fun _ _ _ h=>h) (by rfl) Kw.out (fun _=>JI.out) ?hy6 ?hr6
    case hy6 =>
     intro wq EM;go_simp
     rfl
    try simp only[gg,Act.put]
    refine Goes.fA (i:=7) (u:=.int .i64 (k % 8:Nat)) rfl (by kernel_rfl) (by kernel_rfl) (by kernel_rfl) (by kernel_rfl) (fun _ _ _ h=>h) (by rfl) Kw.out (fun _=>JI.out) ?hy7 ?hr7
    case hy7 =>
     intro wq EM;go_simp
     exact Int.tmod_eq_emod_of_nonneg (by omega)
    try simp only[gg,Act.put]
    refine Goes.fA (i:=8) (u:=.int .i64 (8*(k % 8):Nat)) rfl (by kernel_rfl) (by kernel_rfl) (by kernel_rfl) (by kernel_rfl) (fun _ _ _ h=>h) (by rfl) Kw.out (fun _=>JI.out) ?hy8 ?hr8
    case hy8 =>
     intro wq EM;go_simp
    try simp only[gg,Act.put]
    refine Goes.fA (i:=9) (u:=.int .u64 y) rfl (by kernel_rfl) (by kernel_rfl) (by kernel_rfl) (by kernel_rfl) (fun _ _ _ h=>h) (by rfl) Kw.out (fun _=>JI.out) ?hy9 ?hr9
    case hy9 =>
     intro wq EM;go_simp
    try simp only[gg,Act.put]
    refine Goes.fA (i:=10) (u:=.int .u64 Z) rfl (by kernel_rfl) (by kernel_rfl) (by kernel_rfl) (by kernel_rfl) (fun _ _ _ h=>h) (by rfl) Kw.out (fun _=>JI.out) ?hy10 ?hr10
    case hy10 =>
     intro wq EM;go_simp
    try simp only[gg,Act.put]
    refine Goes.fA (i:=11) (u:=.pointer (some ⟨w.heap.size+1+1,k / 8,none⟩)) rfl (by kernel_rfl) (by kernel_rfl) (by kernel_rfl) (by kernel_rfl) (fun _ _ _ h=>h) (by rfl) Kw.out (fun _=>JI.out) ?hy11 ?hr11
    case hy11 =>
     intro wq EM;go_simp
    try simp only[gg,Act.put]
    refine Goes.one (i:=12) (by kernel_rfl) rfl (fun K' hK=>?_)
    try simp only[gg,Act.put]
    have cK2:=JI.out.1;have Ae:=JI.out.2;rw[if_pos (by rfl)];go_simp
    refine hK.out _ _ (Kw.out.setCell (.inl rfl) _) (fun h=>by cases h) ?_
    clear hK K'
    try simp only[gg,Act.put]
    refine Goes.done (by kernel_rfl) ?_
    refine (‹∀ (a:Act) (w:World),Code.wp _ _ _ a w→_› _ _ ?_);go_wp2;go_roundw
    case rel =>
     refine ⟨k+1,by omega,by go_num,?_,WN.out.trans (Kw.out.setCell (.inl rfl) _) (fun _ _ h=>h)⟩;have Ag:=Bq.out;show (World.setCell wr ⟨w.heap.size+1+1,k / 8,none⟩ (.int .u64 Z)).heap[w.heap.size+1+1]?=_;simp only[World.setCell,Array.getElem?_modify,if_true,Ag]
     by_cases h8:k<8
     · have e:=hr.out
       rw[if_pos h8] at e;subst e;rw[← hZ.out,show k / 8=0 by omega,show k % 8=k by omega,show min (k+1) 8=k+1 by omega,show k+1 - 8=k - 8 by omega]
       rfl
     · have e:=hr.out
       rw[if_neg h8] at e;subst e;rw[← hZ.out,show k / 8=1 by omega,show k % 8+1=k+1 - 8 by omega,show min (k+1) 8=min k 8 by omega]
       rfl
    case measure=>simp[intOf];omega
  · have Bl:k=16:=by omega
    subst Bl;have Di:r0 % 256 ^ 8=r0:=Nat.mod_eq_of_lt h0;have E5:r1 % 256 ^ 8=r1:=Nat.mod_eq_of_lt h1;have hR:=(Ak.block (w.heap.size+1) (by omega) (by show ¬ w.heap.size+1=w.heap.size+1+1;omega)).trans eR;rw[show min 16 8=8 by rfl,show 16 - 8=8 by rfl,Di,E5] at Ag;have a0:=cell_of_row wr (w.heap.size+1+1) 0 _ _ _ Ag;have a1:=cell_of_row wr (w.heap.size+1+1) 1 _ _ _ Ag;have a2:=cell_of_row wr (w.heap.size+1+1) 2 _ _ _ Ag;have a3:=cell_of_row wr (w.heap.size+1+1) 3 _ _ _ Ag;have b0:=cell_of_row wr (w.heap.size+1) 0 _ _ _ hR;have b1:=cell_of_row wr (w.heap.size+1) 1 _ _ _ hR;have b2:=cell_of_row wr (w.heap.size+1) 2 _ _ _ hR;have b3:=cell_of_row wr (w.heap.size+1) 3 _ _ _ hR;simp only[getElem?_toArray,getElem?_cons_zero,getElem?_cons_succ] at a0 a1 a2 a3 b0 b1 b2 b3;have c0:=fzj 0 hR;have c1:=fzj 1 hR;have c2:=fzj 2 hR;have c3:=fzj 3 hR;clear hR Ag eR eB;go_wp2
    refine bodyPost_ret (by simp[results,results111,go_sem,b0,b1,b2,b3];try rfl) rfl ?_
    have Ae:F0 w wr:=Aw.trans Ak (fun q hq h=>by omega)
    exact ⟨rfl,(((Ae.setCell (.inr (by simp)) _).setCell (.inr (by simp)) _).setCell (.inr (by simp)) _).setCell (.inr (by simp)) _⟩
theorem aIF {conn:Value} {ps pw:Nat} {w:World} {fw:Nat→Prop} {n:Nat} {out:List UInt8} (h:eG conn ps pw w fw n out) (a:Option Addr) (c:Nat) (cs:List Cell) (Aa:w.ownsRow 0 351 16 (.slice a cs.length c) cs.length (cs.flatMap eQ))
 (hd:∀ k,(Value.slice a cs.length c).ownBlock=some k→¬ fw k) (hs:∀ c∈cs,c.small) (hl:out.length+(cs.flatMap (aG 16)).length≤1099511627776) :
 Calls Tryz.prog 558 #[.slice a cs.length c,.pointer (some ⟨pw,0,none⟩)] w fun e w'=>e=.returned (.tuple #[])∧Fr fw w w'∧∃ fw',eG conn ps pw w' fw' n (out++cs.flatMap (aG 16))∧Grow w fw fw':=by
 have GH:=aY _ 16 (aV 16 (by omega)) cs;have Gw:=h.chain (l:=cs.flatMap (aG 16)) (cb:=.func (.func 553) #[.slice a cs.length c] #[]) fun b fb bs hb CJ Gf=>bM.bound call553 (vO w b fb bs hb a c cs Aa (fun k hk e=>hd k hk (CJ k e)) hs (by omega))
 go_enter func558,ntmps558
 go_wp2_with (go_at_call 176;refine Gw.mono ?_;rintro e w1 ⟨rfl,h1,h2⟩)
 go_end0
 exact ⟨rfl,h1,h2⟩
theorem aFu (w:World) (r0 r1:Nat) (h0:r0<18446744073709551616) (h1:r1<18446744073709551616):Calls Tryz.prog 110 #[.agg (ipL r0 r1)] w fun e w'=>e=.returned (.agg #[.int .u64 r0,.int .u64 r1,.int .u64 0,.int .u64 0])∧F0 w w':=by
 go_enter func110,ntmps110
 go_wp2_with (go_at_call 111;refine (aJj _ r0 r1 h0 h1).mono ?_;rintro e w1 ⟨rfl,Ad⟩;have hm:w1.heap[w.heap.size+1]?=some (.cells #[.int .u64 0,.int .u64 0,.int .u64 0,.int .u64 0] 33 (0,0)):=Ad.made (by simp);have q0:w1.cell? ⟨w.heap.size+1,0,none⟩=some (.int .u64 0):=(crw hm rfl);have z0:=fzj 0 hm;have q1:w1.cell? ⟨w.heap.size+1,1,none⟩=some (.int .u64 0):=(crw hm rfl);have z1:=fzj 1 hm;have q2:w1.cell? ⟨w.heap.size+1,2,none⟩=some (.int .u64 0):=(crw hm rfl);have z2:=fzj 2 hm;have q3:w1.cell? ⟨w.heap.size+1,3,none⟩=some (.int .u64 0):=(crw hm rfl);have z3:=fzj 3 hm)
 refine bodyPost_ret (by simp[results,results110,go_sem,q0,q1,q2,q3];try rfl) rfl ?_
 have hb:∀ i,(False∨w.heap.size≤(⟨w.heap.size+1,i,none⟩:Addr).block):=fun _=>.inr (Nat.le_succ _)
 exact ⟨rfl,(((((((Fr.refl _ w).alloc _).alloc _).trans Ad (fun _ _ h=>h)).setCell (hb 0) _).setCell (hb 1) _).setCell (hb 2) _).setCell (hb 3) _⟩
theorem aOY (w:World) (a:Option Addr) (k c:Nat) (cs:List Cell) (hk:k<cs.length) (Aa:w.ownsRow 0 351 16 (.slice a cs.length c) cs.length (cs.flatMap eQ)) :
 Calls Tryz.prog 555 #[.slice a cs.length c,.int .i64 k] w fun e w'=>e=.returned (.agg (ipL cs[k].r0 cs[k].r1))∧F0 w w':=by
 rcases Aa.2 with ⟨hv,_⟩|⟨ga,capa,cura,hv,_⟩
 · simp only[Value.slice.injEq] at hv;omega
 · simp only[Value.slice.injEq] at hv
   obtain ⟨rfl,_,rfl⟩:=hv;have AL:=fun j hj=>gJ eQ 16 (fun _=>rfl) cs k j hk hj
   have FK:=Aa.cells (g:=ga) rfl (k*16+0) _ (AL 0 (by omega));rw[Addr.add_lit,Nat.zero_add] at FK;have F6:=Aa.cells (g:=ga) rfl (k*16+1) _ (AL 1 (by omega));rw[Addr.add_lit,Nat.zero_add] at F6;have Ky:=Aa.cells (g:=ga) rfl (k*16+2) _ (AL 2 (by omega));rw[Addr.add_lit,Nat.zero_add] at Ky;have N9:=Aa.cells (g:=ga) rfl (k*16+3) _ (AL 3 (by omega));rw[Addr.add_lit,Nat.zero_add] at N9;have QF:=Aa.cells (g:=ga) rfl (k*16+4) _ (AL 4 (by omega));rw[Addr.add_lit,Nat.zero_add] at QF;have UL:=Aa.cells (g:=ga) rfl (k*16+5) _ (AL 5 (by omega));rw[Addr.add_lit,Nat.zero_add] at UL;have UM:=Aa.cells (g:=ga) rfl (k*16+6) _ (AL 6 (by omega));rw[Addr.add_lit,Nat.zero_add] at UM;have UN:=Aa.cells (g:=ga) rfl (k*16+7) _ (AL 7 (by omega));rw[Addr.add_lit,Nat.zero_add] at UN;have UO:=Aa.cells (g:=ga) rfl (k*16+8) _ (AL 8 (by omega));rw[Addr.add_lit,Nat.zero_add] at UO;have UQ:=Aa.cells (g:=ga) rfl (k*16+9) _ (AL 9 (by omega));rw[Addr.add_lit,Nat.zero_add] at UQ;have Nv:=Aa.cells (g:=ga) rfl (k*16+10) _ (AL 10 (by omega));rw[Addr.add_lit,Nat.zero_add] at Nv;have Nw:=Aa.cells (g:=ga) rfl (k*16+11) _ (AL 11 (by omega));rw[Addr.add_lit,Nat.zero_add] at Nw;have Ny:=Aa.cells (g:=ga) rfl (k*16+12) _ (AL 12 (by omega));rw[Addr.add_lit,Nat.zero_add] at Ny;have Nz:=Aa.cells (g:=ga) rfl (k*16+13) _ (AL 13 (by omega));rw[Addr.add_lit,Nat.zero_add] at Nz;have N7:=Aa.cells (g:=ga) rfl (k*16+14) _ (AL 14 (by omega));rw[Addr.add_lit,Nat.zero_add] at N7;have N8:=Aa.cells (g:=ga) rfl (k*16+15) _ (AL 15 (by omega));rw[Addr.add_lit,Nat.zero_add] at N8;simp only[Nat.add_zero] at FK;have hy0:=fun o=>(World.cell?_alloc_lt w o _ (World.block_lt_of_cell? w _ FK)).trans FK
   have hy1:=fun o=>(World.cell?_alloc_lt w o _ (World.block_lt_of_cell? w _ F6)).trans F6
   have hy2:=fun o=>(World.cell?_alloc_lt w o _ (World.block_lt_of_cell? w _ Ky)).trans Ky
   have hy3:=fun o=>(World.cell?_alloc_lt w o _ (World.block_lt_of_cell? w _ N9)).trans N9
   have hy4:=fun o=>(World.cell?_alloc_lt w o _ (World.block_lt_of_cell? w _ QF)).trans QF
   have hy5:=fun o=>(World.cell?_alloc_lt w o _ (World.block_lt_of_cell? w _ UL)).trans UL
   have hy6:=fun o=>(World.cell?_alloc_lt w o _ (World.block_lt_of_cell? w _ UM)).trans UM
   have hy7:=fun o=>(World.cell?_alloc_lt w o _ (World.block_lt_of_cell? w _ UN)).trans UN
   have hy8:=fun o=>(World.cell?_alloc_lt w o _ (World.block_lt_of_cell? w _ UO)).trans UO
   have hy9:=fun o=>(World.cell?_alloc_lt w o _ (World.block_lt_of_cell? w _ UQ)).trans UQ
   have hy10:=fun o=>(World.cell?_alloc_lt w o _ (World.block_lt_of_cell? w _ Nv)).trans Nv
   have hy11:=fun o=>(World.cell?_alloc_lt w o _ (World.block_lt_of_cell? w _ Nw)).trans Nw
   have hy12:=fun o=>(World.cell?_alloc_lt w o _ (World.block_lt_of_cell? w _ Ny)).trans Ny
   have hy13:=fun o=>(World.cell?_alloc_lt w o _ (World.block_lt_of_cell? w _ Nz)).trans Nz
   have hy14:=fun o=>(World.cell?_alloc_lt w o _ (World.block_lt_of_cell? w _ N7)).trans N7
   have hy15:=fun o=>(World.cell?_alloc_lt w o _ (World.block_lt_of_cell? w _ N8)).trans N8
   clear AL;have Gz:(k:Int)<cs.length:=by omega
   go_enter func555,ntmps555;go_wp2
   refine bodyPost_ret (by simp[results,results555,go_sem];try rfl) rfl ?_
   exact ⟨rfl,((Fr.refl _ w).alloc _)⟩
theorem aLv (w:World) (nb r0 r1:Nat) (h0:r0<18446744073709551616) (h1:r1<18446744073709551616) (hf:w.cell? ⟨nb,2,none⟩=some (.func (.func 110) #[] #[])) :
 Calls Tryz.prog 565 #[.agg (ipL r0 r1),.pointer (some ⟨nb,0,none⟩)] w fun e w'=>e=.returned (.agg #[.int .u64 r0,.int .u64 r1,.int .u64 0,.int .u64 0,.string ⟨#[]⟩,.bool false,.slice none 0 0,.slice none 0 0])∧F0 w w':=by
 have Ey:∀ o,(w.alloc o).cell? ⟨nb,2,none⟩=some (.func (.func 110) #[] #[]):=fun o=>(World.cell?_alloc_lt w o _ (World.block_lt_of_cell? w _ hf)).trans hf
 have Ti:∀ o o',((w.alloc o).alloc o').cell? ⟨nb,2,none⟩=some (.func (.func 110) #[] #[]):=fun o o'=>(World.cell?_alloc_lt _ o' _ (World.block_lt_of_cell? _ _ (Ey o))).trans (Ey o)
 go_enter func565,ntmps565
 go_wp2_with (go_at_call 110;refine (aFu _ r0 r1 h0 h1).mono ?_;rintro e w1 ⟨rfl,Ad⟩;have hm:=Ad.made (n:=w.heap.size+1) (by simp);obtain ⟨c0,c1,c2,c3,c4,c5,c6,c7⟩:=bD.eight (bD.of_block hm);have z0:=fzj 0 hm;have z1:=fzj 1 hm;have z2:=fzj 2 hm;have z3:=fzj 3 hm;have z4:=fzj 4 hm;have z5:=fzj 5 hm;have z6:=fzj 6 hm;have z7:=fzj 7 hm)
 refine bodyPost_ret (by simp[results,results565,go_sem,c0,c1,c2,c3,c4,c5,c6,c7];try rfl) rfl ?_
 have Ez:=(((Fr.refl (fun _=>False) w).alloc _).alloc _).trans Ad (fun _ _ h=>h);have hb:∀ i,(False∨w.heap.size≤(⟨w.heap.size+1,i,none⟩:Addr).block):=fun _=>.inr (Nat.le_succ _)
 exact ⟨rfl,(((((((Ez.setCell (hb 0) _).setCell (hb 1) _).setCell (hb 2) _).setCell (hb 3) _).setCell (hb 4) _).setCell (hb 5) _).setCell (hb 6) _).setCell (hb 7) _⟩
theorem aLs (a:Addr) (w:World) {b:Option Addr} {n c:Nat} (hv:w.cell? a=some (.slice b n c)):(method mdp 347 (.pointer (some a)) "Row").run Tryz.prog w=.ok (555,.slice b n c) w:=by
 obtain ⟨n,hn⟩:=fuel;rw[hn]
 exact aQ (n:=n+1) false (by kernel_rfl) (aU underlying347 (bI underlying349 hv))
theorem aDl (w:World) (p nb:Nat) (a:Option Addr) (k c:Nat) (cs:List Cell) (hk:k<cs.length) (hs:cs[k].r0<18446744073709551616∧cs[k].r1<18446744073709551616) (hp:w.cell? ⟨p,0,none⟩=some (.slice a cs.length c)) (Aa:w.ownsRow 0 351 16 (.slice a cs.length c) cs.length (cs.flatMap eQ))
 (hf:w.cell? ⟨nb,2,none⟩=some (.func (.func 110) #[] #[])) :
 Calls Tryz.prog 684 #[.agg #[.iface 347 (.pointer (some ⟨p,0,none⟩)),.func (.func 564) #[] #[.pointer (some ⟨nb,0,none⟩)],.func (.func 565) #[] #[.pointer (some ⟨nb,0,none⟩)]],.int .i64 k] w fun e w' =>
  e=.returned (.agg #[.int .u64 cs[k].r0,.int .u64 cs[k].r1,.int .u64 0,.int .u64 0,.string ⟨#[]⟩,.bool false,.slice none 0 0,.slice none 0 0])∧F0 w w':=by
 have Ag:=fun W (Aw:F0 w W)=>aF.of1 (name:= "Row") (aLs ⟨p,0,none⟩ W.drew (Aw.drew.aA hp (fun h=>h))) call555 (aOY W.drew a k c cs hk (Aw.drew.owns Aa (fun _ _ h=>h)))
 generalize cs[k].r0=r0 at Ag hs ⊢;generalize cs[k].r1=r1 at Ag hs ⊢;clear hp Aa hk;have Ag:=Lib.hid Ag;go_enter func684,ntmps684
 go_wp2_with fail
 generalize hW:(w.alloc _).alloc _=W;have Af:F0 w W:=by subst hW;exact ((Fr.refl _ w).alloc _).alloc _
 have d0:W.cell? ⟨w.heap.size,0,none⟩=some (.iface 347 (.pointer (some ⟨p,0,none⟩))):=by subst hW;rw[ca (by simp),aB rfl];rfl
 have d2:W.cell? ⟨w.heap.size,2,none⟩=some (.func (.func 565) #[] #[.pointer (some ⟨nb,0,none⟩)]):=by subst hW;rw[ca (by simp),aB rfl];rfl
 have Di:W.heap[w.heap.size+1]?=some (.cells #[.int .u64 0,.int .u64 0,.int .u64 0,.int .u64 0,.string ⟨#[]⟩,.bool false,.slice none 0 0,.slice none 0 0] 35 (0,0)):=by subst hW;exact Fr.made (Fr.refl _ _) (by simp)
 have Aw:=Af.aA hf (fun h=>h);clear hW
 go_region_law
  (first
   | (refine aK _ rfl ?_;refine bH _ _ _ _ _ rfl _ _ rfl (Ag.out W Af) rfl ?_;rintro e w1 ⟨rfl,BL⟩;have Ad:=BL.aH;have d2':=Ad.aA d2 (fun h=>h);refine ⟨_,rfl,?_⟩)
   | (refine aK _ rfl ?_;refine dI _ _ _ _ rfl _ _ rfl (bM.func1 call565 (aLv _ nb r0 r1 hs.1 hs.2 (Ad.aA Aw (fun h=>h)))) rfl ?_;rintro e w2 ⟨rfl,Au⟩;have Ae:F0 W w2:=Ad.trans Au (fun _ _ h=>h);have AB:=(Ae.block _ (aC Di) (fun h=>h)).trans Di;obtain ⟨c0,c1,c2,c3,c4,c5,c6,c7⟩:=bD.eight (bD.of_block AB);have z0:=fzj 0 AB;have z1:=fzj 1 AB;have z2:=fzj 2 AB;have z3:=fzj 3 AB;have z4:=fzj 4 AB;have z5:=fzj 5 AB;have z6:=fzj 6 AB;have z7:=fzj 7 AB;refine ⟨_,rfl,?_⟩))
 all_goals (try simp only[Exit.then])
 all_goals
  refine (‹∀ (a:Act) (w:World),Code.wp _ Code.ret _ a w→_› _ _ ?_)
  refine wp_ret ?_
  show bodyPost _ _ _ _ _ _
  refine bodyPost_ret (by simp[results,results684,go_sem,c0,c1,c2,c3,c4,c5,c6,c7];try rfl) rfl ?_
  have hb:∀ i,(False∨w.heap.size≤(⟨w.heap.size+1,i,none⟩:Addr).block):=fun _=>.inr (Nat.le_succ _)
  exact ⟨rfl,(((((((((Af.trans Ae (fun _ _ h=>h)).setCell (hb 0) _).setCell (hb 1) _).setCell (hb 2) _).setCell (hb 3) _).setCell (hb 4) _).setCell (hb 5) _).setCell (hb 6) _).setCell (hb 7) _)⟩
abbrev aHo (p nb:Nat):Value:=.agg #[.iface 347 (.pointer (some ⟨p,0,none⟩)),.func (.func 564) #[] #[.pointer (some ⟨nb,0,none⟩)],.func (.func 565) #[] #[.pointer (some ⟨nb,0,none⟩)]]
theorem aIE (p nb:Nat) (w:World):(method mdp 635 (aHo p nb) "Row").run Tryz.prog w=.ok (684,aHo p nb) w:=by kernel_rfl
theorem aLt (p nb:Nat) (w:World) (v:Value) (hv:w.cell? ⟨p,0,none⟩=some v):(method mdp 635 (aHo p nb) "WriteColumn").run Tryz.prog w=.ok (558,v) w:=by
 obtain ⟨n,hn⟩:=fuel;rw[hn]
 refine (aX (n:=n+1) underlying635 rfl rfl (fun _=>by kernel_rfl) (by kernel_rfl) rfl).trans ?_
 exact aQ (n:=n) false (by kernel_rfl) (aU underlying347 (bI underlying349 hv))
theorem aIC (p nb:Nat):fU Tryz.prog 349 351 635 16 eQ (.func (.func 110) #[] #[]) p nb (aHo p nb) (.num .ip6) where
 write:=fun hp Aa hs CY hd hl hn=>(aF.of1 (aLt p nb _ _ hp) call558 (aIF CY _ _ _ Aa (fun k hk=>(hd k hk).1) hs hl)).mono fun e w' ⟨h1,h2,fw',h3,h4⟩=>⟨h1,h2,fw',h3.more (Nat.le_add_right _ _),h4⟩
 row:=fun {w a c k cs} hk hp Aa hs hf=>(aF.of1 (aIE p nb w) call684 (aDl w p nb a k c cs hk ⟨(hs _ (getElem_mem hk)).1,(hs _ (getElem_mem hk)).2.1⟩ hp Aa hf)).mono fun e w' ⟨h1,h2⟩=>⟨.mk cs[k].r0 cs[k].r1 0 0 ⟨#[]⟩ false [] [],⟨(hs _ (getElem_mem hk)).1,(hs _ (getElem_mem hk)).2.1,Nat.zero_lt_succ _,Nat.zero_lt_succ _,Nat.zero_le _⟩,h1,h2,aDC rfl⟩
end Go.Proofs.YtcidlnjpabgioaaGreatDoor
