import Derived.Deep.RegionLaw
import Derived.Test.YtcidlnjpabgioaaGreatDoorUGWa
set_option maxHeartbeats 1000000
set_option maxRecDepth 100000
namespace Go.Proofs.YtcidlnjpabgioaaGreatDoor
open Tryz List Go.RowKit
theorem aOz:ElT Tryz.prog 186 187 (.int .i8 0) 1 1:=⟨underlying186,info_parts (by kernel_rfl),rfl⟩
theorem aOS:ElT Tryz.prog 185 187 (.int .i8 0) 1 1:=⟨underlying185,info_parts (by kernel_rfl),rfl⟩
theorem aIs (w:World) (p:Nat) (n:Nat) (xs:List Value) (fp:Nat→Prop) (hc:aJ w p 186 187 1 n xs fp) (hn:n<2147483648) (x:Int) :
 Calls Tryz.prog 316 #[.pointer (some ⟨p,0,none⟩),.int .i8 x] w fun e w'=>e=.returned (.tuple #[])∧(∃ fp',aJ w' p 186 187 1 (n+1) (xs++[.int .i8 x]) fp'∧Grow w fp fp')∧Fr fp w w':=by
 obtain ⟨v,hp,Aa,Am,Aj⟩:=hc;obtain ⟨Ac,BH⟩:=aJ.cell hp;obtain ⟨a0,c0,rfl⟩:=ownsRow_shape Aa;have AZ:=aC hp
 have Be:Src Tryz.prog 1 186 (.slice (some ⟨w.heap.size,0,none⟩) 1 1) 1 [.int .i8 x] (w.alloc (.cells [.int .i8 x].toArray 187)) :=
  Src.ofSlice _ underlying186 _ _ _ _ rfl (bG _ _ _) (by simp[Value.oneCell'])
 go_enter func316,ntmps316
 go_wp2_with ((with_reducible show wpList _ _ _ (⟨some 10,_,_,_,_,_⟩ :: _) _ _);(refine aP _ rfl aOz _ _ rfl _ _ _ rfl (Aa.alloc _) _ _ _ rfl Be ?_ ?_ ?_);(unfold maxLen;omega);omega;intro v' w1 ha;obtain ⟨a',c',rfl⟩:=ha.shape;have Cj:w1.cell? ⟨p,0,none⟩=some (.slice a0 n c0):=ha.2.1.cell (by simpa using (World.cell?_alloc_lt w _ _ AZ).trans Ac) (fun h=>Am h.symm);have Ad:w1.frozen? ⟨p,0,none⟩=false:=(World.frozen?_of_block (ha.2.1.block p (by simp;omega) (fun h=>Am h.symm))).trans (by rw[World.frozen?_alloc_old _ _ _ (by simp;omega)];exact BH))
 go_end0
 exact ⟨rfl,aJ.appended hp Aa Am Aj ((Fr.refl _ w).alloc _) ha⟩
theorem aBT (w:World) (p:Nat) (n:Nat) (xs:List Value) (fp:Nat→Prop) (hc:aJ w p 186 187 1 n xs fp) (m:Nat) (sv:Value) (news:List Value) (Be:Src Tryz.prog 1 185 sv m news w) (hn:n+m≤2147483648) :
 Calls Tryz.prog 317 #[.pointer (some ⟨p,0,none⟩),sv] w fun e w'=>e=.returned (.tuple #[])∧(∃ fp',aJ w' p 186 187 1 (n+m) (xs++news) fp'∧Grow w fp fp')∧Fr fp w w':=by
 obtain ⟨v,hp,Aa,Am,Aj⟩:=hc;obtain ⟨Ac,BH⟩:=aJ.cell hp;obtain ⟨a0,c0,rfl⟩:=ownsRow_shape Aa;go_enter func317,ntmps317
 go_wp2_with ((with_reducible show wpList _ _ _ (⟨some 9,_,_,_,_,_⟩ :: _) _ _);(refine aP _ rfl aOz _ _ rfl _ _ _ rfl Aa _ _ _ rfl Be ?_ ?_ ?_);(unfold maxLen;omega);omega;intro v' w1 ha;obtain ⟨a',c',rfl⟩:=ha.shape;have Cj:w1.cell? ⟨p,0,none⟩=some (.slice a0 n c0):=ha.2.1.cell Ac (fun h=>Am h.symm);have Ad:w1.frozen? ⟨p,0,none⟩=false:=(World.frozen?_of_block (ha.2.1.block p (aC hp) (fun h=>Am h.symm))).trans BH)
 go_end0
 exact ⟨rfl,aJ.appended hp Aa Am Aj (Fr.refl _ w) ha⟩
theorem aOT (w:World) (r0 r1 r2 r3:Nat) (_h0:r0<18446744073709551616):Calls Tryz.prog 60 #[.agg #[.int .u64 r0,.int .u64 r1,.int .u64 r2,.int .u64 r3]] w fun e w'=>e=.returned (.int .i8 (IntKind.i8.wrap r0))∧F0 w w':=by
 go_enter func60,ntmps60;go_wp2;go_ret
 exact ⟨rfl,(Fr.refl _ w).alloc _⟩
theorem i8_in (w:World) (nb:Nat) (r0 r1 r2 r3:Nat) (h0:r0<18446744073709551616) (s:ByteArray) (null:Bool) (iv kv:Value) (hf:w.cell? ⟨nb,1,none⟩=some (.func (.func 60) #[] #[])) :
 Calls Tryz.prog 329 #[.agg #[.int .u64 r0,.int .u64 r1,.int .u64 r2,.int .u64 r3,.string s,.bool null,iv,kv],.pointer (some ⟨nb,0,none⟩)] w fun e w'=>e=.returned (.int .i8 (IntKind.i8.wrap r0))∧F0 w w':=by
 have Ey:∀ o,(w.alloc o).cell? ⟨nb,1,none⟩=some (.func (.func 60) #[] #[]):=fun o=>(World.cell?_alloc_lt w o _ (World.block_lt_of_cell? w _ hf)).trans hf
 have Ed:=aOT (w.alloc (.cells #[.int .u64 r0,.int .u64 r1,.int .u64 r2,.int .u64 r3,.string s,.bool null,iv,kv] 35)) r0 r1 r2 r3 h0;go_enter func329,ntmps329
 go_wp2_with (go_at_call 60;refine Ed.mono ?_;rintro e w' ⟨rfl,Ak⟩)
 go_ret
 exact ⟨rfl,((Fr.refl _ w).alloc _).trans Ak (fun _ _ h=>h)⟩
theorem aDg (a:Addr) (w:World):(method mdp 184 (.pointer (some a)) "Append").run Tryz.prog w=.ok (316,.pointer (some a)) w:=by kernel_rfl
theorem yA (a:Addr) (w:World):(method mdp 184 (.pointer (some a)) "AppendArr").run Tryz.prog w=.ok (317,.pointer (some a)) w:=by kernel_rfl
theorem aAs (w:World) (p nb:Nat) (n:Nat) (xs:List Value) (fp:Nat→Prop) (hc:aJ w p 186 187 1 n xs fp) (hn:n<2147483648) (hf:w.cell? ⟨nb,1,none⟩=some (.func (.func 60) #[] #[]))
 (r0 r1 r2 r3:Nat) (h0:r0<18446744073709551616) (s:ByteArray) (null:Bool) (iv kv:Value) :
 Calls Tryz.prog 618 #[.agg #[.iface 184 (.pointer (some ⟨p,0,none⟩)),.func (.func 329) #[] #[.pointer (some ⟨nb,0,none⟩)],.func (.func 330) #[] #[.pointer (some ⟨nb,0,none⟩)]],.agg #[.int .u64 r0,.int .u64 r1,.int .u64 r2,.int .u64 r3,.string s,.bool null,iv,kv]] w fun e w' =>
  e=.returned (.tuple #[])∧(∃ fp',aJ w' p 186 187 1 (n+1) (xs++[.int .i8 (IntKind.i8.wrap r0)]) fp'∧Grow w fp fp')∧Fr fp w w':=by
 go_enter func618,ntmps618
 go_wp2_with fail
 generalize hW:(w.alloc _).alloc _=W;have Af:F0 w W:=by subst hW;exact ((Fr.refl _ w).alloc _).alloc _
 have d0:W.cell? ⟨w.heap.size,0,none⟩=some (.iface 184 (.pointer (some ⟨p,0,none⟩))):=by subst hW;rw[ca (by simp),aB rfl];rfl
 have d1:W.cell? ⟨w.heap.size,1,none⟩=some (.func (.func 329) #[] #[.pointer (some ⟨nb,0,none⟩)]):=by subst hW;rw[ca (by simp),aB rfl];rfl
 have e0:W.cell? ⟨w.heap.size+1,0,none⟩=some (.int .u64 r0):=by subst hW;rw[aB (by simp)];rfl
 have e1:W.cell? ⟨w.heap.size+1,1,none⟩=some (.int .u64 r1):=by subst hW;rw[aB (by simp)];rfl
 have e2:W.cell? ⟨w.heap.size+1,2,none⟩=some (.int .u64 r2):=by subst hW;rw[aB (by simp)];rfl
 have e3:W.cell? ⟨w.heap.size+1,3,none⟩=some (.int .u64 r3):=by subst hW;rw[aB (by simp)];rfl
 have e4:W.cell? ⟨w.heap.size+1,4,none⟩=some (.string s):=by subst hW;rw[aB (by simp)];rfl
 have e5:W.cell? ⟨w.heap.size+1,5,none⟩=some (.bool null):=by subst hW;rw[aB (by simp)];rfl
 have e6:W.cell? ⟨w.heap.size+1,6,none⟩=some iv:=by subst hW;rw[aB (by simp)];rfl
 have e7:W.cell? ⟨w.heap.size+1,7,none⟩=some kv:=by subst hW;rw[aB (by simp)];rfl
 have BA:aJ W p 186 187 1 n xs fp:=hc.aW fun k hk=>Af.block k (hc.lt k hk) (fun h=>h)
 have Aw:W.cell? ⟨nb,1,none⟩=some (.func (.func 60) #[] #[]):=Af.aA hf (fun h=>h);have hN:¬ fp w.heap.size:=fun h=>by have:=hc.lt _ h;omega
 have AU:¬ fp (w.heap.size+1):=fun h=>by have:=hc.lt _ h;omega
 clear hW
 go_region_held3 (fun w'=>w'.cell? ⟨w.heap.size,0,none⟩=some (.iface 184 (.pointer (some ⟨p,0,none⟩)))∧w'.cell? ⟨w.heap.size,1,none⟩=some (.func (.func 329) #[] #[.pointer (some ⟨nb,0,none⟩)]) ∧
  w'.cell? ⟨w.heap.size+1,0,none⟩=some (.int .u64 r0)∧w'.cell? ⟨w.heap.size+1,1,none⟩=some (.int .u64 r1)∧w'.cell? ⟨w.heap.size+1,2,none⟩=some (.int .u64 r2)∧w'.cell? ⟨w.heap.size+1,3,none⟩=some (.int .u64 r3) ∧
  w'.cell? ⟨w.heap.size+1,4,none⟩=some (.string s)∧w'.cell? ⟨w.heap.size+1,5,none⟩=some (.bool null)∧w'.cell? ⟨w.heap.size+1,6,none⟩=some iv∧w'.cell? ⟨w.heap.size+1,7,none⟩=some kv)
  (first
   | exact ⟨d0,d1,e0,e1,e2,e3,e4,e5,e6,e7⟩
   | exact ⟨Ae.aA d0 hN,Ae.aA d1 hN,Ae.aA e0 AU,Ae.aA e1 AU,Ae.aA e2 AU,Ae.aA e3 AU,Ae.aA e4 AU,Ae.aA e5 AU,Ae.aA e6 AU,Ae.aA e7 AU⟩
   | exact ⟨Ad.aA d0 (fun h=>h),Ad.aA d1 (fun h=>h),Ad.aA e0 (fun h=>h),Ad.aA e1 (fun h=>h),Ad.aA e2 (fun h=>h),Ad.aA e3 (fun h=>h),Ad.aA e4 (fun h=>h),Ad.aA e5 (fun h=>h),Ad.aA e6 (fun h=>h),Ad.aA e7 (fun h=>h)⟩
   | assumption)
  (first
   | (refine aK _ rfl ?_;refine dI _ _ _ _ rfl _ _ rfl (bM.func1 call329 (i8_in _ nb r0 r1 r2 r3 h0 s null iv kv Aw)) rfl ?_;rintro e w1 ⟨rfl,Ad⟩;refine ⟨_,rfl,?_⟩)
   | (refine aK _ rfl ?_;refine bH _ _ _ _ _ rfl _ _ rfl (aF.of1 (aDg _ _) call316 (aIs _ p n xs fp (BA.aW fun k hk=>Ad.block k (BA.lt k hk) (fun h=>h)) hn (IntKind.i8.wrap r0))) rfl ?_;rintro e w2 ⟨rfl,Aq,Au⟩;have Ae:Fr fp W w2:=(Ad.aH.mono (fun _ _ h=>h.elim)).trans Au (fun _ _ h=>h);refine ⟨_,rfl,?_⟩))
 all_goals
  go_end0
  refine ⟨rfl,?_,(Af.mono (fun _ _ h=>h.elim)).trans Ae (fun _ _ h=>h)⟩;obtain ⟨fp',h1,h2⟩:=Aq
  exact ⟨fp',h1,fun k hk=>(h2 k hk).imp id (fun h=>Nat.le_trans (Nat.le_trans Af.size Ad.size) h)⟩
def eH (c:Cell):List Value:=[.int .i8 (IntKind.i8.wrap c.r0)]
theorem aIw (w:World) (B nb:Nat) (Bd:B≤w.heap.size) (hf:w.cell? ⟨nb,1,none⟩=some (.func (.func 60) #[] #[])) (cs:List Cell) (v:Value) (xs:List Value) (hs:Sl B w 8 v cs.length xs) (hc:aI B w cs xs) (hn:cs.length≤2147483648) :
 Calls Tryz.prog 621 #[v,.func (.func 329) #[] #[.pointer (some ⟨nb,0,none⟩)]] w fun e w'=>∃ tv,e=.returned tv∧w'.ownsRow 0 187 1 tv cs.length (cs.flatMap eH)∧F0 w w':=by
 have CB:=hs;obtain ⟨Dy,ao,cap,rfl,BF,AP,h0,ha⟩:=hs;unfold maxLen at AP;clear ha h0 Dy;go_enter func621,ntmps621;go_wp2
 go_loopw [5,10] (fun tv i wr=>∃ k:Nat,k≤cs.length∧i=.int .i64 k∧wr.ownsRow 0 187 1 tv k ((cs.take k).flatMap eH)∧(∀ q,tv.ownBlock=some q→w.heap.size≤q)∧F0 w wr) (fun _ i _=>cs.length - (intOf i).toNat)
 case atStart=>exact ⟨0,Nat.zero_le _,rfl,World.ownsRow_nil _ _ _ _,by simp[Value.ownBlock],Fr.refl _ _⟩
 case round =>
  obtain ⟨k,hk,rfl,Aa,Ai,Ak⟩:=hrel;have Bf:Below B w wr:=Ak.below Bd (fun _ _ h=>h);obtain ⟨a0,c0,rfl⟩:=ownsRow_shape Aa
  by_cases Ar:k<cs.length
  · obtain ⟨b,off,cap',hv,FT,vs,AQ,Ac⟩:=(CB.below Bf).row (aI.below Bf _ _ hc) Ar
    have Ah:=Lib.hid (bQ eH cs k Ar);generalize cs[k]=c at AQ Ah;obtain ⟨ia,il,ic,ka,kl,kc,rfl,h0,h1,h2,h3,h4⟩:=AQ.open;simp only[Value.slice.injEq] at hv;obtain ⟨rfl,_,rfl⟩:=hv;have d0:=Ac 0 _ rfl;have d1:=Ac 1 _ rfl;have d2:=Ac 2 _ rfl;have d3:=Ac 3 _ rfl;have d4:=Ac 4 _ rfl;have d5:=Ac 5 _ rfl;have d6:=Ac 6 _ rfl;have d7:=Ac 7 _ rfl;simp only[Nat.add_zero] at d0;have BM:F0 w (wr.alloc (.cells #[.int .u64 c.r0,.int .u64 c.r1,.int .u64 c.r2,.int .u64 c.r3,.string c.s,.bool c.null,.slice ia il ic,.slice ka kl kc] 35)):=Ak.alloc _;have EN:=i8_in _ nb c.r0 c.r1 c.r2 c.r3 h0 c.s c.null (.slice ia il ic) (.slice ka kl kc) (BM.aA hf (fun h=>h));clear Ac AQ CB hc
    go_wp2_with (first|((with_reducible show wpList _ _ _ (⟨some 17,_,_,_,_,_⟩ :: _) _ _);refine dG _ rfl _ _ _ rfl _ _ rfl (bM.func1 call329 EN) rfl ?_;rintro e w1 ⟨rfl,Ad⟩;refine ⟨_,rfl,?_⟩;have Bv:F0 w w1:=BM.trans Ad (fun _ _ h=>h);have Ba:=Ad.owns ((Fr.refl (fun _=>False) wr).alloc _ |>.owns Aa (fun _ _ h=>h)) (fun _ _ h=>h))|((with_reducible show wpList _ _ _ (⟨some 19,_,_,_,_,_⟩ :: _) _ _);refine aP _ rfl aOS _ _ rfl _ _ _ rfl (Ba.alloc _) _ _ _ rfl (Src.ofSlice _ underlying185 _ _ _ _ rfl (bG _ [.int .i8 (IntKind.i8.wrap c.r0)] _) (by simp[Value.oneCell'])) ?_ ?_ ?_;(unfold maxLen;omega);omega;intro v' w2 ha;obtain ⟨a',c',rfl⟩:=ha.shape))
    go_roundw
    case rel=>exact ⟨k+1,by omega,by go_num,by rw[Ah.out];exact ha.1,(ha.since (Bv.alloc _) Ai).1,(ha.since (Bv.alloc _) Ai).2⟩
    case measure=>simp[intOf];omega
  · have Bl:k=cs.length:=by omega
    subst Bl;rw[take_length] at Aa;go_wp2;go_ret
    exact ⟨_,rfl,Aa,Ak⟩
theorem aBU (cs:List Cell):∀ u∈cs.flatMap eH,u.oneCell'=true:=by
 intro u hu;obtain ⟨c,_,hc⟩:=mem_flatMap.1 hu;simp only[eH,mem_cons,not_mem_nil,or_false] at hc;subst hc;rfl
theorem uH (w:World) (B p nb:Nat) (Bd:B≤w.heap.size) (n:Nat) (xs:List Value) (fp:Nat→Prop) (hc:aJ w p 186 187 1 n xs fp) (hf:w.cell? ⟨nb,1,none⟩=some (.func (.func 60) #[] #[]))
 (cs:List Cell) (v:Value) (ys:List Value) (hs:Sl B w 8 v cs.length ys) (A8:aI B w cs ys) (hn:n+cs.length≤2147483648) :
 Calls Tryz.prog 619 #[.agg #[.iface 184 (.pointer (some ⟨p,0,none⟩)),.func (.func 329) #[] #[.pointer (some ⟨nb,0,none⟩)],.func (.func 330) #[] #[.pointer (some ⟨nb,0,none⟩)]],v] w fun e w' =>
  e=.returned (.tuple #[])∧(∃ fp',aJ w' p 186 187 1 (n+cs.length) (xs++cs.flatMap eH) fp'∧Grow w fp fp')∧Fr fp w w':=by
 go_enter func619,ntmps619
 go_wp2_with fail
 generalize hW:w.alloc _=W;have Af:F0 w W:=by subst hW;exact (Fr.refl _ w).alloc _
 have d0:W.cell? ⟨w.heap.size,0,none⟩=some (.iface 184 (.pointer (some ⟨p,0,none⟩))):=by subst hW;rw[aB rfl];rfl
 have d1:W.cell? ⟨w.heap.size,1,none⟩=some (.func (.func 329) #[] #[.pointer (some ⟨nb,0,none⟩)]):=by subst hW;rw[aB rfl];rfl
 have BA:aJ W p 186 187 1 n xs fp:=hc.aW fun k hk=>Af.block k (hc.lt k hk) (fun h=>h)
 have Aw:W.cell? ⟨nb,1,none⟩=some (.func (.func 60) #[] #[]):=Af.aA hf (fun h=>h);have hN:¬ fp w.heap.size:=fun h=>by have:=hc.lt _ h;omega
 have D6:=hs.fr Bd Af;have Cf:=aI.below (Af.below Bd (fun _ _ h=>h)) _ _ A8;have CZ:B≤W.heap.size:=Nat.le_trans Bd Af.size;have EX:=D6.fr CZ (Fr.refl (fun _=>False) W).drew;have Ce:=aI.below ((Below.refl B W).drew) _ _ Cf;clear hW hs A8
 go_region_held3 (fun w'=>w'.cell? ⟨w.heap.size,0,none⟩=some (.iface 184 (.pointer (some ⟨p,0,none⟩)))∧w'.cell? ⟨w.heap.size,1,none⟩=some (.func (.func 329) #[] #[.pointer (some ⟨nb,0,none⟩)]))
  (first
   | exact ⟨d0,d1⟩
   | exact ⟨Ae.aA d0 hN,Ae.aA d1 hN⟩
   | exact ⟨Ad.aA d0 (fun h=>h),Ad.aA d1 (fun h=>h)⟩
   | assumption)
  (first
   | (go_at_call 621;refine (aIw W.drew B nb CZ Aw cs v ys EX Ce (by omega)).mono ?_;rintro e w1 ⟨tv,rfl,Aa,Ad⟩)
   | (refine aK _ rfl ?_;refine bH _ _ _ _ _ rfl _ _ rfl (aF.of1 (yA _ _) call317 (aBT _ p n xs fp (BA.aW fun k hk=>Ad.block k (BA.lt k hk) (fun h=>h)) _ _ _ (Src.kC underlying185 Aa (aBU cs)) hn)) rfl ?_;rintro e w2 ⟨rfl,Aq,Au⟩;have Ae:Fr fp W w2:=(Ad.aH.mono (fun _ _ h=>h.elim)).trans Au (fun _ _ h=>h);refine ⟨_,rfl,?_⟩))
 all_goals
  go_end0
  refine ⟨rfl,?_,(Af.mono (fun _ _ h=>h.elim)).trans Ae (fun _ _ h=>h)⟩;obtain ⟨fp',h1,h2⟩:=Aq
  exact ⟨fp',h1,fun k hk=>(h2 k hk).imp id (fun h=>Nat.le_trans (Nat.le_trans Af.size Ad.size) h)⟩
theorem aNQ (w:World) (a:Option Addr) (n c:Nat):Calls Tryz.prog 322 #[.slice a n c] w fun e w'=>e=.returned (.int .i64 n)∧F0 w w':=by
 go_enter func322,ntmps322;go_wp2;go_ret
 exact ⟨rfl,Fr.refl _ _⟩
theorem vM (cs:List Cell) (k:Nat) (h:k<cs.length):(cs.flatMap eH)[k]?=some (eH cs[k]).head!:=by
 have:∀ cs:List Cell,cs.flatMap eH=cs.map fun c=>(eH c).head!:=fun cs=>by induction cs with|nil=>rfl|cons c cs ih=>rw[flatMap_cons,map_cons,ih];rfl
 rw[this,getElem?_map,getElem?_eq_getElem h]
 rfl
theorem xZ (w:World) (b:Nat) (fb:Nat→Prop) (bs:List UInt8) (hb:Buf w b fb bs) (a:Option Addr) (c:Nat) (cs:List Cell) (Aa:w.ownsRow 0 187 1 (.slice a cs.length c) cs.length (cs.flatMap eH))
 (hd:∀ k,(Value.slice a cs.length c).ownBlock=some k→¬ fb k) (hc:∀ c∈cs,c.r0<18446744073709551616) (hl:bs.length+1*cs.length≤1099511627776) :
 Calls Tryz.prog 319 #[.slice a cs.length c,.pointer (some ⟨b,0,none⟩)] w fun e w'=>e=.returned (.tuple #[])∧Fr fb w w'∧∃ fb',Buf w' b fb' (bs++cs.flatMap (aG 1))∧Grow w fb fb'∧Kept w w' b bs.length:=by
 by_cases h0:cs.length=0
 · have A8:cs=[]:=eq_nil_of_length_eq_zero (by omega)
   subst A8;go_enter func319,ntmps319;go_wp2
   try simp only[Exit.inBlock,Exit.then]
   refine bodyPost_ret (results_none rfl _ _ _) rfl ?_
   exact ⟨rfl,Fr.refl _ _,fb,by simpa using hb,fun k hk=>.inl hk,Kept.refl _ _ _⟩
 · have Ei:=hb
   obtain ⟨v,hp,Bh,Am,Aj⟩:=Ei;obtain ⟨Ac,BH⟩:=aJ.cell hp;obtain ⟨a0,c0,rfl⟩:=ownsRow_shape Bh;have AZ:=aC hp;have AP:cs.length≤9223372036854775807:=by omega
   go_enter func319,ntmps319
   go_wp2_with ((with_reducible show wpList _ _ _ (⟨some 23,_,_,_,_,_⟩ :: _) _ _);(refine dB _ rfl gY underlying3 _ _ rfl _ _ _ rfl Bh _ (cs.length) rfl ?_ ?_ ?_ ?_);go_num;omega;omega;intro v' w1 ha;obtain ⟨a',c',rfl⟩:=ha.shape;have Cj:w1.cell? ⟨b,0,none⟩=some (.slice a0 bs.length c0):=ha.2.1.cell Ac (fun h=>Am h.symm);have Ad:w1.frozen? ⟨b,0,none⟩=false:=(World.frozen?_of_block (ha.2.1.block b AZ (fun h=>Am h.symm))).trans BH)
   obtain ⟨⟨fb',Aq,AX⟩,Ak⟩:=aJ.appended hp Bh Am Aj (Fr.refl _ w) ha;have D5:=Kept.appended hp Bh Am (Fr.refl _ w) ha;generalize w1.setCell ⟨b,0,none⟩ (Value.slice a' (bs.length+cs.length) c')=W at Aq Ak D5 ⊢;obtain ⟨g,cap,hot,BC⟩:=Hot.of Aq (by omega);have Bi:=Ak.owns Aa hd
   have DF:∀ k,(Value.slice a cs.length c).ownBlock=some k→k≠b∧k≠g:=fun k hk=>⟨fun e=>hd k hk ((Aj k).2 (.inl e)),fun e=>by
    subst e;rcases AX k ((BC k).2 (.inr rfl)) with h|h
    · exact hd k hk h
    · have:=aO Aa hk;omega⟩
   have hS:∀ k,k<w.heap.size→(k=b∨k=g)→fb k:=fun k hk hh=>(AX k ((BC k).2 hh)).resolve_right (by omega)
   have Ie:=Lib.hid hp;have DV:=Lib.hid Bh;have DU:=Lib.hid Am;have DR:=Lib.hid D5;clear ha Aq hp Bh Ac BH Cj Ad Am hb D5
   go_loopw [6,28] (fun _ i wr=>∃ k:Nat,k≤cs.length∧i=.int .i64 k∧Hot wr b g (bs.length+cs.length) cap (aN (bs++(cs.take k).flatMap (aG 1))++List.replicate ((cs.length - k)) (.int .u8 0))∧Fr (fun k=>k=b∨k=g) W wr) (fun _ i _=>cs.length - (intOf i).toNat)
   case atStart=>exact ⟨0,Nat.zero_le _,rfl,by simpa using hot,Fr.refl _ _⟩
   case round =>
    obtain ⟨k,hk,rfl,A7,AY⟩:=hrel
    by_cases Ar:k<cs.length
    · have Ap:=AY.owns Bi (fun k hk h=>by have:=DF k hk;omega)
      rcases Ap.2 with ⟨hv,_⟩|⟨ga,capa,cura,hv,_⟩
      · simp only[Value.slice.injEq] at hv;omega
      · simp only[Value.slice.injEq] at hv
        obtain ⟨rfl,_,rfl⟩:=hv;have hx:=Ap.cells (g:=ga) rfl k _ (vM cs k Ar);have Dp:=hc cs[k] (getElem_mem _);have Ah:=bQ (aG 1) cs k Ar;generalize cs[k]=cc at hx Dp Ah;simp only[eH,List.head!] at hx;rw[Addr.add_lit,Nat.zero_add] at hx;have H5:=A7.cell;have H9:=A7.row;obtain ⟨_,_,_,Lr,Cm⟩:=H9;unfold maxLen at Cm;have AA:(bs++(cs.take k).flatMap (aG 1)).length=bs.length+k:=by rw[length_append,aY _ 1 (aV 1 (by omega)),length_take];omega
        have Bz:=A7.drew.put (A:=aN (bs++(cs.take k).flatMap (aG 1))) (olds:=List.replicate 1 (.int .u8 0)) (C:=List.replicate ((cs.length - (k+1))) (.int .u8 0)) (by rw[append_assoc,replicate_append_replicate];congr 2;omega) (aN (aG 1 cc)) (by simp[aZ,aV]) (o:=k+bs.length) (by rw[aZ,AA];omega);rw[← bC,append_assoc,← Ah] at Bz;have Dx:Fr (fun k=>k=b∨k=g) W (wr.drew.setCells g (k+bs.length) (aN (aG 1 cc))):=Fr.setCells (.inl (.inr rfl)) _ _ _ AY.drew;have Dw:=Bz.cell
        have hv:aN (aG 1 cc)=[.int .u8 ((cc.r0:Int) % 256)]:=by
         rw[dO 1 (by omega)];simp only[aN,Lib.leBytes,List.map,Lib.toUInt8_mod];rw[Int.natCast_emod]
         rfl
        rw[hv] at Bz Dx Dw;simp only[World.setCells] at Bz Dx Dw;have WR:ga≠g:=(DF ga rfl).2;have Ky:=((Fr.refl (fun k=>k=g) wr.drew).setCell (p:=⟨g,k+bs.length,none⟩) (.inl rfl) (.int .u8 ((cc.r0:Int) % 256))).aA hx WR;obtain ⟨u0,hu0⟩:=A7.drew.there (o:=k+bs.length) (m:=1) (by omega) 0 (by omega);have ag:=A7.drew.cold (k+bs.length);rw[Nat.add_zero] at hu0;have ho:k+bs.length<bs.length+cs.length:=by omega
        have s0:(0:Int)≤(k:Int)+↑bs.length:=by omega
        have s1:IntKind.i64.wrap ((k:Int)+↑bs.length)=(k:Int)+↑bs.length:=by rw[IntKind.wrap_i64];omega
        have s2:(k:Int)+↑bs.length<(bs.length:Int)+↑cs.length:=by omega
        have s3:((k:Int)+↑bs.length).toNat=k+bs.length:=by omega
        have s4:(k:Int)<(cs.length:Int):=by omega
        have s7:IntKind.u8.wrap (IntKind.i8.wrap ↑cc.r0)=(cc.r0:Int) % 256:=aNo _;go_wp2
        go_region_held3 (fun w'=>w'.cell? ⟨b,0,none⟩=some (.slice (some ⟨g,0,none⟩) (bs.length+cs.length) cap)∧w'.cell? ⟨ga,k,none⟩=some (.int .i8 (IntKind.i8.wrap cc.r0)))
         (first
          | exact ⟨H5,hx⟩
          | exact ⟨Dw,Ky⟩
          | assumption)
         (fail)
        all_goals
         go_wp2;go_roundw
         case rel=>exact ⟨k+1,by omega,by go_num,Bz,Dx⟩
         case measure=>simp[intOf];omega
    · have Bl:k=cs.length:=by omega
      subst Bl;go_wp2;go_end0;rw[take_length,Nat.sub_self,replicate_zero,append_nil] at A7;have CO:=fun CJ=>Hot.buf (bs:=bs++cs.flatMap (aG 1)) (cap:=cap) (N:=bs.length+cs.length) A7 (fb:=fun k=>k=b∨k=g) CJ
      have C9:=Kept.hot (l:=aN (cs.flatMap (aG 1))) Ie.out DV.out DU.out DR.out AY (by rw[← bC];exact A7)
      exact ⟨rfl,Ak.trans AY hS,_,CO (fun k=>Iff.rfl),fun k hk=>AX k ((BC k).2 hk),C9⟩
def i8R:Nat→Nat→Nat→World→(Nat→Prop)→List Cell→Prop:=gZ 186 187 1 eH (.func (.func 60) #[] #[]) (.func (.func 61) #[] #[])
theorem aDh (p nb:Nat) (w:World) (name:String) (f:FuncId) (h:(name,f)=("Append",618)∨(name,f)=("AppendArr",619)):(method mdp 526 (.agg #[.iface 184 (.pointer (some ⟨p,0,none⟩)),.func (.func 329) #[] #[.pointer (some ⟨nb,0,none⟩)],.func (.func 330) #[] #[.pointer (some ⟨nb,0,none⟩)]]) name).run Tryz.prog w=.ok (f,.agg #[.iface 184 (.pointer (some ⟨p,0,none⟩)),.func (.func 329) #[] #[.pointer (some ⟨nb,0,none⟩)],.func (.func 330) #[] #[.pointer (some ⟨nb,0,none⟩)]]) w:=by
 rcases h with h|h<;>(simp only[Prod.mk.injEq] at h;obtain ⟨rfl,rfl⟩:=h;kernel_rfl)
theorem aIu (p nb:Nat) (w:World) (v:Value) (hv:w.cell? ⟨p,0,none⟩=some v):(method mdp 526 (.agg #[.iface 184 (.pointer (some ⟨p,0,none⟩)),.func (.func 329) #[] #[.pointer (some ⟨nb,0,none⟩)],.func (.func 330) #[] #[.pointer (some ⟨nb,0,none⟩)]]) "Rows").run Tryz.prog w=.ok (322,v) w:=by
 obtain ⟨n,hn⟩:=fuel;rw[hn]
 refine (aX (n:=n+1) underlying526 rfl rfl (fun _=>by kernel_rfl) (by kernel_rfl) rfl).trans ?_
 exact aQ (n:=n) false (by kernel_rfl) (aU underlying184 (bI underlying186 hv))
theorem aLb (p nb:Nat) (w:World) (v:Value) (hv:w.cell? ⟨p,0,none⟩=some v):(method mdp 526 (.agg #[.iface 184 (.pointer (some ⟨p,0,none⟩)),.func (.func 329) #[] #[.pointer (some ⟨nb,0,none⟩)],.func (.func 330) #[] #[.pointer (some ⟨nb,0,none⟩)]]) "EncodeColumn").run Tryz.prog w=.ok (319,v) w:=by
 obtain ⟨n,hn⟩:=fuel;rw[hn]
 refine (aX (n:=n+1) underlying526 rfl rfl (fun _=>by kernel_rfl) (by kernel_rfl) rfl).trans ?_
 exact aQ (n:=n) false (by kernel_rfl) (aU underlying184 (bI underlying186 hv))
theorem aNL (p nb:Nat):iI Tryz.prog 186 187 526 1 eH (.func (.func 60) #[] #[]) p nb (.agg #[.iface 184 (.pointer (some ⟨p,0,none⟩)),.func (.func 329) #[] #[.pointer (some ⟨nb,0,none⟩)],.func (.func 330) #[] #[.pointer (some ⟨nb,0,none⟩)]]) (.num .i8) where
 append:=fun w n xs fp hc hn hf c iv kv hs=>aF.of1 (aDh p nb w _ _ (.inl rfl)) call618 (aAs w p nb n xs fp hc hn hf c.r0 c.r1 c.r2 c.r3 hs.1 c.s c.null iv kv)
 appendArr:=fun w B n xs fp hB hc hf cs v ys hs A8 hn=>aF.of1 (aDh p nb w _ _ (.inr rfl)) call619 (uH w B p nb hB n xs fp hc hf cs v ys hs A8 hn)
 rows:=fun w a n c hp=>aF.of0 (aIu p nb w _ hp) call322 (aNQ w a n c)
 flat:=by rintro w name (rfl|rfl|rfl) n m<;>exact fC underlying526 rfl rfl (fun _=>by kernel_rfl) (by kernel_rfl) rfl (by kernel_rfl) n m
 ahead:=fun w=>by kernel_rfl
 prep:=fun x w=>run_typeAssert_lacksB underlying102 (by kernel_rfl) (by kernel_rfl) _ x w
 stat:=fun x w=>run_typeAssert_lacksB underlying172 (by kernel_rfl) (by kernel_rfl) _ x w
 encode:=fun w b fb bs a c cs hb hp Aa hd hs hl=>aF.of1 (aLb p nb w _ hp) call319 (xZ w b fb bs hb a c cs Aa hd (fun c hc=>(hs c hc).1)
  (by have GH:(enc (.num .i8) cs).length=1*cs.length:=aY _ 1 (aV 1 (by omega)) cs;omega))
theorem aNR (B p nb:Nat):ColSpec Tryz.prog B 526 (.agg #[.iface 184 (.pointer (some ⟨p,0,none⟩)),.func (.func 329) #[] #[.pointer (some ⟨nb,0,none⟩)],.func (.func 330) #[] #[.pointer (some ⟨nb,0,none⟩)]]) (.num .i8) [] (i8R B p nb) (i8R B p nb):=(aNL p nb).spec
theorem aIt (w:World):Calls Tryz.prog 50 #[.int .i64 1] w fun e w'=>e=.returned (.iface 193 (.agg #[.iface 184 (.pointer (some ⟨w.heap.size,0,none⟩)),.func (.func 60) #[] #[],.func (.func 61) #[] #[]]))∧w'=w.alloc (.cells #[.slice none 0 0] 186):=by
 go_enter func50,ntmps50;go_wp2;go_ret
 exact ⟨rfl,rfl⟩
theorem aFl (w:World) (p:Nat):(method mdp 193 (.agg #[.iface 184 (.pointer (some ⟨p,0,none⟩)),.func (.func 60) #[] #[],.func (.func 61) #[] #[]]) "given.example/pub-bradawl/impl.cells").run Tryz.prog w =
 .ok (328,.agg #[.iface 184 (.pointer (some ⟨p,0,none⟩)),.func (.func 60) #[] #[],.func (.func 61) #[] #[]]) w:=by
 obtain ⟨n,hn⟩:=fuel;rw[hn]
 exact aQ (n:=n+1) false (by kernel_rfl) (dM underlying193 rfl)
theorem aNO (w:World) (p B:Nat) (hB:B≤p) (hp:w.heap[p]?=some (.cells #[.slice none 0 0] 186 (0,0))) :
 Calls Tryz.prog 328 #[.agg #[.iface 184 (.pointer (some ⟨p,0,none⟩)),.func (.func 60) #[] #[],.func (.func 61) #[] #[]]] w fun e w' =>
  ∃ nb fp,e=.returned (.iface 526 (.agg #[.iface 184 (.pointer (some ⟨p,0,none⟩)),.func (.func 329) #[] #[.pointer (some ⟨nb,0,none⟩)],.func (.func 330) #[] #[.pointer (some ⟨nb,0,none⟩)]]))∧i8R B p nb w' fp []∧F0 w w':=by
 have AZ:=aC hp;go_enter func328,ntmps328;go_wp2;go_ret
 refine ⟨w.heap.size,fun k=>k=p∨k=w.heap.size,rfl,⟨fun k=>k=p,⟨.slice none 0 0,(Below.heap_alloc _ _ _ AZ).trans hp,World.ownsRow_nil _ _ _ _,by simp[Value.ownBlock],fun k=>by simp[Value.ownBlock]⟩,⟨by rw[aB rfl];rfl,by rw[aB rfl];rfl⟩,fun k=>Iff.rfl,?_,by omega,by simp⟩,(Fr.refl _ w).alloc _⟩;rintro k (rfl|rfl)<;>omega
theorem aLd {conn:Value} {ps pw:Nat} {w:World} {fw:Nat→Prop} {n:Nat} {out:List UInt8} (h:eG conn ps pw w fw n out) (a:Option Addr) (c:Nat) (cs:List Cell) (Aa:w.ownsRow 0 187 1 (.slice a cs.length c) cs.length (cs.flatMap eH))
 (hd:∀ k,(Value.slice a cs.length c).ownBlock=some k→¬ fw k) (hs:∀ c∈cs,c.r0<18446744073709551616) (hl:out.length+(cs.flatMap (aG 1)).length≤1099511627776) :
 Calls Tryz.prog 324 #[.slice a cs.length c,.pointer (some ⟨pw,0,none⟩)] w fun e w'=>e=.returned (.tuple #[])∧Fr fw w w'∧∃ fw',eG conn ps pw w' fw' n (out++cs.flatMap (aG 1))∧Grow w fw fw':=by
 have GH:=aY _ 1 (aV 1 (by omega)) cs;have Gw:=h.chain (l:=cs.flatMap (aG 1)) (cb:=.func (.func 319) #[.slice a cs.length c] #[]) fun b fb bs hb CJ Gf=>bM.bound call319 (xZ w b fb bs hb a c cs Aa (fun k hk e=>hd k hk (CJ k e)) hs (by omega))
 go_enter func324,ntmps324
 go_wp2_with (go_at_call 176;refine Gw.mono ?_;rintro e w1 ⟨rfl,h1,h2⟩)
 go_end0
 exact ⟨rfl,h1,h2⟩
theorem aIv (w:World) (r0:Nat):Calls Tryz.prog 61 #[.int .i8 (IntKind.i8.wrap r0)] w fun e w'=>e=.returned (.agg #[.int .u64 (r0 % 256:Nat),.int .u64 0,.int .u64 0,.int .u64 0])∧F0 w w':=by
 have hw:IntKind.i8.wrap r0 % 256=((r0 % 256:Nat):Int):=by rw[aHI];omega
 go_enter func61,ntmps61;go_wp2
 refine bodyPost_ret (by simp[results,results61,go_sem];try rfl) rfl ?_
 exact ⟨by rw[Int.natCast_emod];rfl,(Fr.refl _ w).alloc _⟩
theorem aPr (w:World) (a:Option Addr) (k c:Nat) (cs:List Cell) (hk:k<cs.length) (Aa:w.ownsRow 0 187 1 (.slice a cs.length c) cs.length (cs.flatMap eH)) :
 Calls Tryz.prog 321 #[.slice a cs.length c,.int .i64 k] w fun e w'=>e=.returned (.int .i8 (IntKind.i8.wrap cs[k].r0))∧F0 w w':=by
 rcases Aa.2 with ⟨hv,_⟩|⟨ga,capa,cura,hv,_⟩
 · simp only[Value.slice.injEq] at hv;omega
 · simp only[Value.slice.injEq] at hv
   obtain ⟨rfl,_,rfl⟩:=hv;have hx:=Aa.cells (g:=ga) rfl k _ (vM cs k hk);simp only[eH,List.head!] at hx;rw[Addr.add_lit,Nat.zero_add] at hx;have Gz:(k:Int)<cs.length:=by omega
   go_enter func321,ntmps321;go_wp2;go_ret
   exact ⟨rfl,Fr.refl _ _⟩
theorem aNP (w:World) (nb r0:Nat) (hf:w.cell? ⟨nb,2,none⟩=some (.func (.func 61) #[] #[])) :
 Calls Tryz.prog 330 #[.int .i8 (IntKind.i8.wrap r0),.pointer (some ⟨nb,0,none⟩)] w fun e w'=>e=.returned (.agg #[.int .u64 (r0 % 256:Nat),.int .u64 0,.int .u64 0,.int .u64 0,.string ⟨#[]⟩,.bool false,.slice none 0 0,.slice none 0 0])∧F0 w w':=by
 have Ey:∀ o,(w.alloc o).cell? ⟨nb,2,none⟩=some (.func (.func 61) #[] #[]):=fun o=>(World.cell?_alloc_lt w o _ (World.block_lt_of_cell? w _ hf)).trans hf
 go_enter func330,ntmps330
 go_wp2_with (go_at_call 61;refine (aIv _ r0).mono ?_;rintro e w1 ⟨rfl,Ad⟩;have hm:=Ad.made (n:=w.heap.size) rfl;obtain ⟨c0,c1,c2,c3,c4,c5,c6,c7⟩:=bD.eight (bD.of_block hm);have z0:=fzj 0 hm;have z1:=fzj 1 hm;have z2:=fzj 2 hm;have z3:=fzj 3 hm;have z4:=fzj 4 hm;have z5:=fzj 5 hm;have z6:=fzj 6 hm;have z7:=fzj 7 hm)
 refine bodyPost_ret (by simp[results,results330,go_sem,c0,c1,c2,c3,c4,c5,c6,c7];try rfl) rfl ?_
 have Ez:=((Fr.refl (fun _=>False) w).alloc (.cells #[.int .u64 0,.int .u64 0,.int .u64 0,.int .u64 0,.string ⟨#[]⟩,.bool false,.slice none 0 0,.slice none 0 0] 35)).trans Ad (fun _ _ h=>h);have hb:∀ i,(False∨w.heap.size≤(⟨w.heap.size,i,none⟩:Addr).block):=fun _=>.inr (Nat.le_refl _)
 exact ⟨by rw[Int.natCast_emod];rfl,(((((((Ez.setCell (hb 0) _).setCell (hb 1) _).setCell (hb 2) _).setCell (hb 3) _).setCell (hb 4) _).setCell (hb 5) _).setCell (hb 6) _).setCell (hb 7) _⟩
theorem aNM (a:Addr) (w:World) {b:Option Addr} {n c:Nat} (hv:w.cell? a=some (.slice b n c)):(method mdp 184 (.pointer (some a)) "Row").run Tryz.prog w=.ok (321,.slice b n c) w:=by
 obtain ⟨n,hn⟩:=fuel;rw[hn]
 exact aQ (n:=n+1) false (by kernel_rfl) (aU underlying184 (bI underlying186 hv))
theorem aFk (w:World) (p nb:Nat) (a:Option Addr) (k c:Nat) (cs:List Cell) (hk:k<cs.length) (hp:w.cell? ⟨p,0,none⟩=some (.slice a cs.length c)) (Aa:w.ownsRow 0 187 1 (.slice a cs.length c) cs.length (cs.flatMap eH))
 (hf:w.cell? ⟨nb,2,none⟩=some (.func (.func 61) #[] #[])) :
 Calls Tryz.prog 620 #[.agg #[.iface 184 (.pointer (some ⟨p,0,none⟩)),.func (.func 329) #[] #[.pointer (some ⟨nb,0,none⟩)],.func (.func 330) #[] #[.pointer (some ⟨nb,0,none⟩)]],.int .i64 k] w fun e w' =>
  e=.returned (.agg #[.int .u64 (cs[k].r0 % 256:Nat),.int .u64 0,.int .u64 0,.int .u64 0,.string ⟨#[]⟩,.bool false,.slice none 0 0,.slice none 0 0])∧F0 w w':=by
 have Ag:=fun W (Aw:F0 w W)=>aF.of1 (name:= "Row") (aNM ⟨p,0,none⟩ W.drew (Aw.drew.aA hp (fun h=>h))) call321 (aPr W.drew a k c cs hk (Aw.drew.owns Aa (fun _ _ h=>h)))
 generalize cs[k].r0=r0 at Ag ⊢;clear hp Aa hk;have Ag:=Lib.hid Ag;go_enter func620,ntmps620
 go_wp2_with fail
 generalize hW:(w.alloc _).alloc _=W;have Af:F0 w W:=by subst hW;exact ((Fr.refl _ w).alloc _).alloc _
 have d0:W.cell? ⟨w.heap.size,0,none⟩=some (.iface 184 (.pointer (some ⟨p,0,none⟩))):=by subst hW;rw[ca (by simp),aB rfl];rfl
 have d2:W.cell? ⟨w.heap.size,2,none⟩=some (.func (.func 330) #[] #[.pointer (some ⟨nb,0,none⟩)]):=by subst hW;rw[ca (by simp),aB rfl];rfl
 have Di:W.heap[w.heap.size+1]?=some (.cells #[.int .u64 0,.int .u64 0,.int .u64 0,.int .u64 0,.string ⟨#[]⟩,.bool false,.slice none 0 0,.slice none 0 0] 35 (0,0)):=by subst hW;exact Fr.made (Fr.refl _ _) (by simp)
 have Aw:=Af.aA hf (fun h=>h);clear hW
 go_region_law
  (first
   | (refine aK _ rfl ?_;refine bH _ _ _ _ _ rfl _ _ rfl (Ag.out W Af) rfl ?_;rintro e w1 ⟨rfl,BL⟩;have Ad:=BL.aH;have d2':=Ad.aA d2 (fun h=>h);refine ⟨_,rfl,?_⟩)
   | (refine aK _ rfl ?_;refine dI _ _ _ _ rfl _ _ rfl (bM.func1 call330 (aNP _ nb r0 (Ad.aA Aw (fun h=>h)))) rfl ?_;rintro e w2 ⟨rfl,Au⟩;have Ae:F0 W w2:=Ad.trans Au (fun _ _ h=>h);have AB:=(Ae.block _ (aC Di) (fun h=>h)).trans Di;obtain ⟨c0,c1,c2,c3,c4,c5,c6,c7⟩:=bD.eight (bD.of_block AB);have z0:=fzj 0 AB;have z1:=fzj 1 AB;have z2:=fzj 2 AB;have z3:=fzj 3 AB;have z4:=fzj 4 AB;have z5:=fzj 5 AB;have z6:=fzj 6 AB;have z7:=fzj 7 AB;refine ⟨_,rfl,?_⟩))
 all_goals (try simp only[Exit.then])
 all_goals
  refine (‹∀ (a:Act) (w:World),Code.wp _ Code.ret _ a w→_› _ _ ?_)
  refine wp_ret ?_
  show bodyPost _ _ _ _ _ _
  refine bodyPost_ret (by simp[results,results620,go_sem,c0,c1,c2,c3,c4,c5,c6,c7];try rfl) rfl ?_
  have hb:∀ i,(False∨w.heap.size≤(⟨w.heap.size+1,i,none⟩:Addr).block):=fun _=>.inr (Nat.le_succ _)
  exact ⟨by rw[Int.natCast_emod];rfl,(((((((((Af.trans Ae (fun _ _ h=>h)).setCell (hb 0) _).setCell (hb 1) _).setCell (hb 2) _).setCell (hb 3) _).setCell (hb 4) _).setCell (hb 5) _).setCell (hb 6) _).setCell (hb 7) _)⟩
abbrev aNS (p nb:Nat):Value:=.agg #[.iface 184 (.pointer (some ⟨p,0,none⟩)),.func (.func 329) #[] #[.pointer (some ⟨nb,0,none⟩)],.func (.func 330) #[] #[.pointer (some ⟨nb,0,none⟩)]]
theorem aLc (p nb:Nat) (w:World):(method mdp 526 (aNS p nb) "Row").run Tryz.prog w=.ok (620,aNS p nb) w:=by kernel_rfl
theorem aNN (p nb:Nat) (w:World) (v:Value) (hv:w.cell? ⟨p,0,none⟩=some v):(method mdp 526 (aNS p nb) "WriteColumn").run Tryz.prog w=.ok (324,v) w:=by
 obtain ⟨n,hn⟩:=fuel;rw[hn]
 refine (aX (n:=n+1) underlying526 rfl rfl (fun _=>by kernel_rfl) (by kernel_rfl) rfl).trans ?_
 exact aQ (n:=n) false (by kernel_rfl) (aU underlying184 (bI underlying186 hv))
theorem aLa (p nb:Nat):fU Tryz.prog 186 187 526 1 eH (.func (.func 61) #[] #[]) p nb (aNS p nb) (.num .i8) where
 write:=fun hp Aa hs CY hd hl hn=>(aF.of1 (aNN p nb _ _ hp) call324 (aLd CY _ _ _ Aa (fun k hk=>(hd k hk).1) (fun c hc=>(hs c hc).1) hl)).mono fun e w' ⟨h1,h2,fw',h3,h4⟩=>⟨h1,h2,fw',h3.more (Nat.le_add_right _ _),h4⟩
 row:=fun {w a c k cs} hk hp Aa hs hf=>(aF.of1 (aLc p nb w) call620 (aFk w p nb a k c cs hk hp Aa hf)).mono fun e w' ⟨h1,h2⟩=>⟨.mk (cs[k].r0 % 256) 0 0 0 ⟨#[]⟩ false [] [],iF (by omega),h1,h2,iO rfl (by decide) rfl⟩
theorem aKC:ElT Tryz.prog 196 197 (.int .i16 0) 1 2:=⟨underlying196,info_parts (by kernel_rfl),rfl⟩
theorem aNF:ElT Tryz.prog 195 197 (.int .i16 0) 1 2:=⟨underlying195,info_parts (by kernel_rfl),rfl⟩
theorem aEV (w:World) (p:Nat) (n:Nat) (xs:List Value) (fp:Nat→Prop) (hc:aJ w p 196 197 1 n xs fp) (hn:n<2147483648) (x:Int) :
 Calls Tryz.prog 331 #[.pointer (some ⟨p,0,none⟩),.int .i16 x] w fun e w'=>e=.returned (.tuple #[])∧(∃ fp',aJ w' p 196 197 1 (n+1) (xs++[.int .i16 x]) fp'∧Grow w fp fp')∧Fr fp w w':=by
 obtain ⟨v,hp,Aa,Am,Aj⟩:=hc;obtain ⟨Ac,BH⟩:=aJ.cell hp;obtain ⟨a0,c0,rfl⟩:=ownsRow_shape Aa;have AZ:=aC hp
 have Be:Src Tryz.prog 1 196 (.slice (some ⟨w.heap.size,0,none⟩) 1 1) 1 [.int .i16 x] (w.alloc (.cells [.int .i16 x].toArray 197)) :=
  Src.ofSlice _ underlying196 _ _ _ _ rfl (bG _ _ _) (by simp[Value.oneCell'])
 go_enter func331,ntmps331
 go_wp2_with ((with_reducible show wpList _ _ _ (⟨some 10,_,_,_,_,_⟩ :: _) _ _);(refine aP _ rfl aKC _ _ rfl _ _ _ rfl (Aa.alloc _) _ _ _ rfl Be ?_ ?_ ?_);(unfold maxLen;omega);omega;intro v' w1 ha;obtain ⟨a',c',rfl⟩:=ha.shape;have Cj:w1.cell? ⟨p,0,none⟩=some (.slice a0 n c0):=ha.2.1.cell (by simpa using (World.cell?_alloc_lt w _ _ AZ).trans Ac) (fun h=>Am h.symm);have Ad:w1.frozen? ⟨p,0,none⟩=false:=(World.frozen?_of_block (ha.2.1.block p (by simp;omega) (fun h=>Am h.symm))).trans (by rw[World.frozen?_alloc_old _ _ _ (by simp;omega)];exact BH))
 go_end0
 exact ⟨rfl,aJ.appended hp Aa Am Aj ((Fr.refl _ w).alloc _) ha⟩
theorem aAm (w:World) (p:Nat) (n:Nat) (xs:List Value) (fp:Nat→Prop) (hc:aJ w p 196 197 1 n xs fp) (m:Nat) (sv:Value) (news:List Value) (Be:Src Tryz.prog 1 195 sv m news w) (hn:n+m≤2147483648) :
 Calls Tryz.prog 332 #[.pointer (some ⟨p,0,none⟩),sv] w fun e w'=>e=.returned (.tuple #[])∧(∃ fp',aJ w' p 196 197 1 (n+m) (xs++news) fp'∧Grow w fp fp')∧Fr fp w w':=by
 obtain ⟨v,hp,Aa,Am,Aj⟩:=hc;obtain ⟨Ac,BH⟩:=aJ.cell hp;obtain ⟨a0,c0,rfl⟩:=ownsRow_shape Aa;go_enter func332,ntmps332
 go_wp2_with ((with_reducible show wpList _ _ _ (⟨some 9,_,_,_,_,_⟩ :: _) _ _);(refine aP _ rfl aKC _ _ rfl _ _ _ rfl Aa _ _ _ rfl Be ?_ ?_ ?_);(unfold maxLen;omega);omega;intro v' w1 ha;obtain ⟨a',c',rfl⟩:=ha.shape;have Cj:w1.cell? ⟨p,0,none⟩=some (.slice a0 n c0):=ha.2.1.cell Ac (fun h=>Am h.symm);have Ad:w1.frozen? ⟨p,0,none⟩=false:=(World.frozen?_of_block (ha.2.1.block p (aC hp) (fun h=>Am h.symm))).trans BH)
 go_end0
 exact ⟨rfl,aJ.appended hp Aa Am Aj (Fr.refl _ w) ha⟩
theorem aNG (w:World) (r0 r1 r2 r3:Nat) (_h0:r0<18446744073709551616):Calls Tryz.prog 62 #[.agg #[.int .u64 r0,.int .u64 r1,.int .u64 r2,.int .u64 r3]] w fun e w'=>e=.returned (.int .i16 (IntKind.i16.wrap r0))∧F0 w w':=by
 go_enter func62,ntmps62;go_wp2;go_ret
 exact ⟨rfl,(Fr.refl _ w).alloc _⟩
theorem i16_in (w:World) (nb:Nat) (r0 r1 r2 r3:Nat) (h0:r0<18446744073709551616) (s:ByteArray) (null:Bool) (iv kv:Value) (hf:w.cell? ⟨nb,1,none⟩=some (.func (.func 62) #[] #[])) :
 Calls Tryz.prog 344 #[.agg #[.int .u64 r0,.int .u64 r1,.int .u64 r2,.int .u64 r3,.string s,.bool null,iv,kv],.pointer (some ⟨nb,0,none⟩)] w fun e w'=>e=.returned (.int .i16 (IntKind.i16.wrap r0))∧F0 w w':=by
 have Ey:∀ o,(w.alloc o).cell? ⟨nb,1,none⟩=some (.func (.func 62) #[] #[]):=fun o=>(World.cell?_alloc_lt w o _ (World.block_lt_of_cell? w _ hf)).trans hf
 have Ed:=aNG (w.alloc (.cells #[.int .u64 r0,.int .u64 r1,.int .u64 r2,.int .u64 r3,.string s,.bool null,iv,kv] 35)) r0 r1 r2 r3 h0;go_enter func344,ntmps344
 go_wp2_with (go_at_call 62;refine Ed.mono ?_;rintro e w' ⟨rfl,Ak⟩)
 go_ret
 exact ⟨rfl,((Fr.refl _ w).alloc _).trans Ak (fun _ _ h=>h)⟩
theorem aBQ (a:Addr) (w:World):(method mdp 194 (.pointer (some a)) "Append").run Tryz.prog w=.ok (331,.pointer (some a)) w:=by kernel_rfl
theorem wL (a:Addr) (w:World):(method mdp 194 (.pointer (some a)) "AppendArr").run Tryz.prog w=.ok (332,.pointer (some a)) w:=by kernel_rfl
theorem xW (w:World) (p nb:Nat) (n:Nat) (xs:List Value) (fp:Nat→Prop) (hc:aJ w p 196 197 1 n xs fp) (hn:n<2147483648) (hf:w.cell? ⟨nb,1,none⟩=some (.func (.func 62) #[] #[]))
 (r0 r1 r2 r3:Nat) (h0:r0<18446744073709551616) (s:ByteArray) (null:Bool) (iv kv:Value) :
 Calls Tryz.prog 622 #[.agg #[.iface 194 (.pointer (some ⟨p,0,none⟩)),.func (.func 344) #[] #[.pointer (some ⟨nb,0,none⟩)],.func (.func 345) #[] #[.pointer (some ⟨nb,0,none⟩)]],.agg #[.int .u64 r0,.int .u64 r1,.int .u64 r2,.int .u64 r3,.string s,.bool null,iv,kv]] w fun e w' =>
  e=.returned (.tuple #[])∧(∃ fp',aJ w' p 196 197 1 (n+1) (xs++[.int .i16 (IntKind.i16.wrap r0)]) fp'∧Grow w fp fp')∧Fr fp w w':=by
 go_enter func622,ntmps622
 go_wp2_with fail
 generalize hW:(w.alloc _).alloc _=W;have Af:F0 w W:=by subst hW;exact ((Fr.refl _ w).alloc _).alloc _
 have d0:W.cell? ⟨w.heap.size,0,none⟩=some (.iface 194 (.pointer (some ⟨p,0,none⟩))):=by subst hW;rw[ca (by simp),aB rfl];rfl
 have d1:W.cell? ⟨w.heap.size,1,none⟩=some (.func (.func 344) #[] #[.pointer (some ⟨nb,0,none⟩)]):=by subst hW;rw[ca (by simp),aB rfl];rfl
 have e0:W.cell? ⟨w.heap.size+1,0,none⟩=some (.int .u64 r0):=by subst hW;rw[aB (by simp)];rfl
 have e1:W.cell? ⟨w.heap.size+1,1,none⟩=some (.int .u64 r1):=by subst hW;rw[aB (by simp)];rfl
 have e2:W.cell? ⟨w.heap.size+1,2,none⟩=some (.int .u64 r2):=by subst hW;rw[aB (by simp)];rfl
 have e3:W.cell? ⟨w.heap.size+1,3,none⟩=some (.int .u64 r3):=by subst hW;rw[aB (by simp)];rfl
 have e4:W.cell? ⟨w.heap.size+1,4,none⟩=some (.string s):=by subst hW;rw[aB (by simp)];rfl
 have e5:W.cell? ⟨w.heap.size+1,5,none⟩=some (.bool null):=by subst hW;rw[aB (by simp)];rfl
 have e6:W.cell? ⟨w.heap.size+1,6,none⟩=some iv:=by subst hW;rw[aB (by simp)];rfl
 have e7:W.cell? ⟨w.heap.size+1,7,none⟩=some kv:=by subst hW;rw[aB (by simp)];rfl
 have BA:aJ W p 196 197 1 n xs fp:=hc.aW fun k hk=>Af.block k (hc.lt k hk) (fun h=>h)
 have Aw:W.cell? ⟨nb,1,none⟩=some (.func (.func 62) #[] #[]):=Af.aA hf (fun h=>h);have hN:¬ fp w.heap.size:=fun h=>by have:=hc.lt _ h;omega
 have AU:¬ fp (w.heap.size+1):=fun h=>by have:=hc.lt _ h;omega
 clear hW
 go_region_held3 (fun w'=>w'.cell? ⟨w.heap.size,0,none⟩=some (.iface 194 (.pointer (some ⟨p,0,none⟩)))∧w'.cell? ⟨w.heap.size,1,none⟩=some (.func (.func 344) #[] #[.pointer (some ⟨nb,0,none⟩)]) ∧
  w'.cell? ⟨w.heap.size+1,0,none⟩=some (.int .u64 r0)∧w'.cell? ⟨w.heap.size+1,1,none⟩=some (.int .u64 r1)∧w'.cell? ⟨w.heap.size+1,2,none⟩=some (.int .u64 r2)∧w'.cell? ⟨w.heap.size+1,3,none⟩=some (.int .u64 r3) ∧
  w'.cell? ⟨w.heap.size+1,4,none⟩=some (.string s)∧w'.cell? ⟨w.heap.size+1,5,none⟩=some (.bool null)∧w'.cell? ⟨w.heap.size+1,6,none⟩=some iv∧w'.cell? ⟨w.heap.size+1,7,none⟩=some kv)
  (first
   | exact ⟨d0,d1,e0,e1,e2,e3,e4,e5,e6,e7⟩
   | exact ⟨Ae.aA d0 hN,Ae.aA d1 hN,Ae.aA e0 AU,Ae.aA e1 AU,Ae.aA e2 AU,Ae.aA e3 AU,Ae.aA e4 AU,Ae.aA e5 AU,Ae.aA e6 AU,Ae.aA e7 AU⟩
   | exact ⟨Ad.aA d0 (fun h=>h),Ad.aA d1 (fun h=>h),Ad.aA e0 (fun h=>h),Ad.aA e1 (fun h=>h),Ad.aA e2 (fun h=>h),Ad.aA e3 (fun h=>h),Ad.aA e4 (fun h=>h),Ad.aA e5 (fun h=>h),Ad.aA e6 (fun h=>h),Ad.aA e7 (fun h=>h)⟩
   | assumption)
  (first
   | (refine aK _ rfl ?_;refine dI _ _ _ _ rfl _ _ rfl (bM.func1 call344 (i16_in _ nb r0 r1 r2 r3 h0 s null iv kv Aw)) rfl ?_;rintro e w1 ⟨rfl,Ad⟩;refine ⟨_,rfl,?_⟩)
   | (refine aK _ rfl ?_;refine bH _ _ _ _ _ rfl _ _ rfl (aF.of1 (aBQ _ _) call331 (aEV _ p n xs fp (BA.aW fun k hk=>Ad.block k (BA.lt k hk) (fun h=>h)) hn (IntKind.i16.wrap r0))) rfl ?_;rintro e w2 ⟨rfl,Aq,Au⟩;have Ae:Fr fp W w2:=(Ad.aH.mono (fun _ _ h=>h.elim)).trans Au (fun _ _ h=>h);refine ⟨_,rfl,?_⟩))
 all_goals
  go_end0
  refine ⟨rfl,?_,(Af.mono (fun _ _ h=>h.elim)).trans Ae (fun _ _ h=>h)⟩;obtain ⟨fp',h1,h2⟩:=Aq
  exact ⟨fp',h1,fun k hk=>(h2 k hk).imp id (fun h=>Nat.le_trans (Nat.le_trans Af.size Ad.size) h)⟩
def dP (c:Cell):List Value:=[.int .i16 (IntKind.i16.wrap c.r0)]
theorem aEZ (w:World) (B nb:Nat) (Bd:B≤w.heap.size) (hf:w.cell? ⟨nb,1,none⟩=some (.func (.func 62) #[] #[])) (cs:List Cell) (v:Value) (xs:List Value) (hs:Sl B w 8 v cs.length xs) (hc:aI B w cs xs) (hn:cs.length≤2147483648) :
 Calls Tryz.prog 625 #[v,.func (.func 344) #[] #[.pointer (some ⟨nb,0,none⟩)]] w fun e w'=>∃ tv,e=.returned tv∧w'.ownsRow 0 197 1 tv cs.length (cs.flatMap dP)∧F0 w w':=by
 have CB:=hs;obtain ⟨Dy,ao,cap,rfl,BF,AP,h0,ha⟩:=hs;unfold maxLen at AP;clear ha h0 Dy;go_enter func625,ntmps625;go_wp2
 go_loopw [5,10] (fun tv i wr=>∃ k:Nat,k≤cs.length∧i=.int .i64 k∧wr.ownsRow 0 197 1 tv k ((cs.take k).flatMap dP)∧(∀ q,tv.ownBlock=some q→w.heap.size≤q)∧F0 w wr) (fun _ i _=>cs.length - (intOf i).toNat)
 case atStart=>exact ⟨0,Nat.zero_le _,rfl,World.ownsRow_nil _ _ _ _,by simp[Value.ownBlock],Fr.refl _ _⟩
 case round =>
  obtain ⟨k,hk,rfl,Aa,Ai,Ak⟩:=hrel;have Bf:Below B w wr:=Ak.below Bd (fun _ _ h=>h);obtain ⟨a0,c0,rfl⟩:=ownsRow_shape Aa
  by_cases Ar:k<cs.length
  · obtain ⟨b,off,cap',hv,FT,vs,AQ,Ac⟩:=(CB.below Bf).row (aI.below Bf _ _ hc) Ar
    have Ah:=Lib.hid (bQ dP cs k Ar);generalize cs[k]=c at AQ Ah;obtain ⟨ia,il,ic,ka,kl,kc,rfl,h0,h1,h2,h3,h4⟩:=AQ.open;simp only[Value.slice.injEq] at hv;obtain ⟨rfl,_,rfl⟩:=hv;have d0:=Ac 0 _ rfl;have d1:=Ac 1 _ rfl;have d2:=Ac 2 _ rfl;have d3:=Ac 3 _ rfl;have d4:=Ac 4 _ rfl;have d5:=Ac 5 _ rfl;have d6:=Ac 6 _ rfl;have d7:=Ac 7 _ rfl;simp only[Nat.add_zero] at d0;have BM:F0 w (wr.alloc (.cells #[.int .u64 c.r0,.int .u64 c.r1,.int .u64 c.r2,.int .u64 c.r3,.string c.s,.bool c.null,.slice ia il ic,.slice ka kl kc] 35)):=Ak.alloc _;have EN:=i16_in _ nb c.r0 c.r1 c.r2 c.r3 h0 c.s c.null (.slice ia il ic) (.slice ka kl kc) (BM.aA hf (fun h=>h));clear Ac AQ CB hc
    go_wp2_with (first|((with_reducible show wpList _ _ _ (⟨some 17,_,_,_,_,_⟩ :: _) _ _);refine dG _ rfl _ _ _ rfl _ _ rfl (bM.func1 call344 EN) rfl ?_;rintro e w1 ⟨rfl,Ad⟩;refine ⟨_,rfl,?_⟩;have Bv:F0 w w1:=BM.trans Ad (fun _ _ h=>h);have Ba:=Ad.owns ((Fr.refl (fun _=>False) wr).alloc _ |>.owns Aa (fun _ _ h=>h)) (fun _ _ h=>h))|((with_reducible show wpList _ _ _ (⟨some 19,_,_,_,_,_⟩ :: _) _ _);refine aP _ rfl aNF _ _ rfl _ _ _ rfl (Ba.alloc _) _ _ _ rfl (Src.ofSlice _ underlying195 _ _ _ _ rfl (bG _ [.int .i16 (IntKind.i16.wrap c.r0)] _) (by simp[Value.oneCell'])) ?_ ?_ ?_;(unfold maxLen;omega);omega;intro v' w2 ha;obtain ⟨a',c',rfl⟩:=ha.shape))
    go_roundw
    case rel=>exact ⟨k+1,by omega,by go_num,by rw[Ah.out];exact ha.1,(ha.since (Bv.alloc _) Ai).1,(ha.since (Bv.alloc _) Ai).2⟩
    case measure=>simp[intOf];omega
  · have Bl:k=cs.length:=by omega
    subst Bl;rw[take_length] at Aa;go_wp2;go_ret
    exact ⟨_,rfl,Aa,Ak⟩
theorem aAn (cs:List Cell):∀ u∈cs.flatMap dP,u.oneCell'=true:=by
 intro u hu;obtain ⟨c,_,hc⟩:=mem_flatMap.1 hu;simp only[dP,mem_cons,not_mem_nil,or_false] at hc;subst hc;rfl
theorem qR (w:World) (B p nb:Nat) (Bd:B≤w.heap.size) (n:Nat) (xs:List Value) (fp:Nat→Prop) (hc:aJ w p 196 197 1 n xs fp) (hf:w.cell? ⟨nb,1,none⟩=some (.func (.func 62) #[] #[]))
 (cs:List Cell) (v:Value) (ys:List Value) (hs:Sl B w 8 v cs.length ys) (A8:aI B w cs ys) (hn:n+cs.length≤2147483648) :
 Calls Tryz.prog 623 #[.agg #[.iface 194 (.pointer (some ⟨p,0,none⟩)),.func (.func 344) #[] #[.pointer (some ⟨nb,0,none⟩)],.func (.func 345) #[] #[.pointer (some ⟨nb,0,none⟩)]],v] w fun e w' =>
  e=.returned (.tuple #[])∧(∃ fp',aJ w' p 196 197 1 (n+cs.length) (xs++cs.flatMap dP) fp'∧Grow w fp fp')∧Fr fp w w':=by
 go_enter func623,ntmps623
 go_wp2_with fail
 generalize hW:w.alloc _=W;have Af:F0 w W:=by subst hW;exact (Fr.refl _ w).alloc _
 have d0:W.cell? ⟨w.heap.size,0,none⟩=some (.iface 194 (.pointer (some ⟨p,0,none⟩))):=by subst hW;rw[aB rfl];rfl
 have d1:W.cell? ⟨w.heap.size,1,none⟩=some (.func (.func 344) #[] #[.pointer (some ⟨nb,0,none⟩)]):=by subst hW;rw[aB rfl];rfl
 have BA:aJ W p 196 197 1 n xs fp:=hc.aW fun k hk=>Af.block k (hc.lt k hk) (fun h=>h)
 have Aw:W.cell? ⟨nb,1,none⟩=some (.func (.func 62) #[] #[]):=Af.aA hf (fun h=>h);have hN:¬ fp w.heap.size:=fun h=>by have:=hc.lt _ h;omega
 have D6:=hs.fr Bd Af;have Cf:=aI.below (Af.below Bd (fun _ _ h=>h)) _ _ A8;have CZ:B≤W.heap.size:=Nat.le_trans Bd Af.size;have EX:=D6.fr CZ (Fr.refl (fun _=>False) W).drew;have Ce:=aI.below ((Below.refl B W).drew) _ _ Cf;clear hW hs A8
 go_region_held3 (fun w'=>w'.cell? ⟨w.heap.size,0,none⟩=some (.iface 194 (.pointer (some ⟨p,0,none⟩)))∧w'.cell? ⟨w.heap.size,1,none⟩=some (.func (.func 344) #[] #[.pointer (some ⟨nb,0,none⟩)]))
  (first
   | exact ⟨d0,d1⟩
   | exact ⟨Ae.aA d0 hN,Ae.aA d1 hN⟩
   | exact ⟨Ad.aA d0 (fun h=>h),Ad.aA d1 (fun h=>h)⟩
   | assumption)
  (first
   | (go_at_call 625;refine (aEZ W.drew B nb CZ Aw cs v ys EX Ce (by omega)).mono ?_;rintro e w1 ⟨tv,rfl,Aa,Ad⟩)
   | (refine aK _ rfl ?_;refine bH _ _ _ _ _ rfl _ _ rfl (aF.of1 (wL _ _) call332 (aAm _ p n xs fp (BA.aW fun k hk=>Ad.block k (BA.lt k hk) (fun h=>h)) _ _ _ (Src.kC underlying195 Aa (aAn cs)) hn)) rfl ?_;rintro e w2 ⟨rfl,Aq,Au⟩;have Ae:Fr fp W w2:=(Ad.aH.mono (fun _ _ h=>h.elim)).trans Au (fun _ _ h=>h);refine ⟨_,rfl,?_⟩))
 all_goals
  go_end0
  refine ⟨rfl,?_,(Af.mono (fun _ _ h=>h.elim)).trans Ae (fun _ _ h=>h)⟩;obtain ⟨fp',h1,h2⟩:=Aq
  exact ⟨fp',h1,fun k hk=>(h2 k hk).imp id (fun h=>Nat.le_trans (Nat.le_trans Af.size Ad.size) h)⟩
theorem aKI (w:World) (a:Option Addr) (n c:Nat):Calls Tryz.prog 337 #[.slice a n c] w fun e w'=>e=.returned (.int .i64 n)∧F0 w w':=by
 go_enter func337,ntmps337;go_wp2;go_ret
 exact ⟨rfl,Fr.refl _ _⟩
theorem qQ (cs:List Cell) (k:Nat) (h:k<cs.length):(cs.flatMap dP)[k]?=some (dP cs[k]).head!:=by
 have:∀ cs:List Cell,cs.flatMap dP=cs.map fun c=>(dP c).head!:=fun cs=>by induction cs with|nil=>rfl|cons c cs ih=>rw[flatMap_cons,map_cons,ih];rfl
 rw[this,getElem?_map,getElem?_eq_getElem h]
 rfl
theorem vI (w:World) (b:Nat) (fb:Nat→Prop) (bs:List UInt8) (hb:Buf w b fb bs) (a:Option Addr) (c:Nat) (cs:List Cell) (Aa:w.ownsRow 0 197 1 (.slice a cs.length c) cs.length (cs.flatMap dP))
 (hd:∀ k,(Value.slice a cs.length c).ownBlock=some k→¬ fb k) (hc:∀ c∈cs,c.r0<18446744073709551616) (hl:bs.length+2*cs.length≤1099511627776) :
 Calls Tryz.prog 334 #[.slice a cs.length c,.pointer (some ⟨b,0,none⟩)] w fun e w'=>e=.returned (.tuple #[])∧Fr fb w w'∧∃ fb',Buf w' b fb' (bs++cs.flatMap (aG 2))∧Grow w fb fb'∧Kept w w' b bs.length:=by
 by_cases h0:cs.length=0
 · have A8:cs=[]:=eq_nil_of_length_eq_zero (by omega)
   subst A8;go_enter func334,ntmps334;go_wp2
   try simp only[Exit.inBlock,Exit.then]
   refine bodyPost_ret (results_none rfl _ _ _) rfl ?_
   exact ⟨rfl,Fr.refl _ _,fb,by simpa using hb,fun k hk=>.inl hk,Kept.refl _ _ _⟩
 · have Ei:=hb
   obtain ⟨v,hp,Bh,Am,Aj⟩:=Ei;obtain ⟨Ac,BH⟩:=aJ.cell hp;obtain ⟨a0,c0,rfl⟩:=ownsRow_shape Bh;have AZ:=aC hp;have AP:cs.length≤9223372036854775807:=by omega
   go_enter func334,ntmps334
   go_wp2_with ((with_reducible show wpList _ _ _ (⟨some 25,_,_,_,_,_⟩ :: _) _ _);(refine dB _ rfl gY underlying3 _ _ rfl _ _ _ rfl Bh _ (2*cs.length) rfl ?_ ?_ ?_ ?_);go_num;omega;omega;intro v' w1 ha;obtain ⟨a',c',rfl⟩:=ha.shape;have Cj:w1.cell? ⟨b,0,none⟩=some (.slice a0 bs.length c0):=ha.2.1.cell Ac (fun h=>Am h.symm);have Ad:w1.frozen? ⟨b,0,none⟩=false:=(World.frozen?_of_block (ha.2.1.block b AZ (fun h=>Am h.symm))).trans BH)
   obtain ⟨⟨fb',Aq,AX⟩,Ak⟩:=aJ.appended hp Bh Am Aj (Fr.refl _ w) ha;have D5:=Kept.appended hp Bh Am (Fr.refl _ w) ha;generalize w1.setCell ⟨b,0,none⟩ (Value.slice a' (bs.length+2*cs.length) c')=W at Aq Ak D5 ⊢;obtain ⟨g,cap,hot,BC⟩:=Hot.of Aq (by omega);have Bi:=Ak.owns Aa hd
   have DF:∀ k,(Value.slice a cs.length c).ownBlock=some k→k≠b∧k≠g:=fun k hk=>⟨fun e=>hd k hk ((Aj k).2 (.inl e)),fun e=>by
    subst e;rcases AX k ((BC k).2 (.inr rfl)) with h|h
    · exact hd k hk h
    · have:=aO Aa hk;omega⟩
   have hS:∀ k,k<w.heap.size→(k=b∨k=g)→fb k:=fun k hk hh=>(AX k ((BC k).2 hh)).resolve_right (by omega)
   have Ie:=Lib.hid hp;have DV:=Lib.hid Bh;have DU:=Lib.hid Am;have DR:=Lib.hid D5;clear ha Aq hp Bh Ac BH Cj Ad Am hb D5
   go_loopw [5,7,30] (fun off _ i wr=>∃ k:Nat,k≤cs.length∧i=.int .i64 k∧off=.int .i64 (bs.length+2*k:Nat)∧Hot wr b g (bs.length+2*cs.length) cap (aN (bs++(cs.take k).flatMap (aG 2))++List.replicate (2*(cs.length - k)) (.int .u8 0))∧Fr (fun k=>k=b∨k=g) W wr) (fun _ _ i _=>cs.length - (intOf i).toNat)
   case atStart=>exact ⟨0,Nat.zero_le _,rfl,by simp,by simpa using hot,Fr.refl _ _⟩
   case round =>
    obtain ⟨k,hk,rfl,rfl,A7,AY⟩:=hrel
    by_cases Ar:k<cs.length
    · have Ap:=AY.owns Bi (fun k hk h=>by have:=DF k hk;omega)
      rcases Ap.2 with ⟨hv,_⟩|⟨ga,capa,cura,hv,_⟩
      · simp only[Value.slice.injEq] at hv;omega
      · simp only[Value.slice.injEq] at hv
        obtain ⟨rfl,_,rfl⟩:=hv;have hx:=Ap.cells (g:=ga) rfl k _ (qQ cs k Ar);have Dp:=hc cs[k] (getElem_mem _);have Ah:=bQ (aG 2) cs k Ar;generalize cs[k]=cc at hx Dp Ah;simp only[dP,List.head!] at hx;rw[Addr.add_lit,Nat.zero_add] at hx;have H5:=A7.cell;have H9:=A7.row;obtain ⟨_,_,_,Lr,Cm⟩:=H9;unfold maxLen at Cm;have AO:=aBk g (bs.length+2*k) 2 (cap - (bs.length+2*k)) (cc.r0 % 65536) (by omega) wr.drew (by omega) (A7.drew.there (by omega)) A7.drew.cold;have AA:(bs++(cs.take k).flatMap (aG 2)).length=bs.length+2*k:=by rw[length_append,aY _ 2 (aV 2 (by omega)),length_take];congr 2;omega
        have Bz:=(A7.drew.alloc (.cells #[] 454)).put (A:=aN (bs++(cs.take k).flatMap (aG 2))) (olds:=List.replicate 2 (.int .u8 0)) (C:=List.replicate (2*(cs.length - (k+1))) (.int .u8 0)) (by rw[append_assoc,replicate_append_replicate];congr 2;omega) (aN (Lib.leBytes 2 (cc.r0 % 65536))) (by simp[aZ,Lib.leBytes_length]) (o:=bs.length+2*k) (by rw[aZ,AA]);have Gs:Lib.leBytes 2 (cc.r0 % 65536)=aG 2 cc:=by rw[dO 2 (by omega)];exact iK 2 cc.r0
        rw[Gs,← bC,append_assoc,← Ah] at Bz;rw[Gs] at AO;have Dx:Fr (fun k=>k=b∨k=g) W ((wr.drew.alloc (.cells #[] 454)).setCells g (bs.length+2*k) (aN (aG 2 cc))):=Fr.setCells (.inl (.inr rfl)) _ _ _ (AY.drew.alloc _);have Dw:=Bz.cell;generalize KA:(wr.drew.alloc (.cells #[] 454)).setCells g (bs.length+2*k) (aN (aG 2 cc))=Wn at AO Bz Dx Dw;clear KA;have ho:bs.length+2*k+2≤cap:=by omega
        generalize DK:bs.length+2*k=o at ho AO ⊢;rw[Int.natCast_emod] at AO;have s0:(0:Int)≤↑o:=by omega
        have s1:IntKind.i64.wrap ((o:Int)+2)=(o:Int)+2:=by rw[IntKind.wrap_i64];omega
        have s2:(o:Int)≤(o:Int)+2:=by omega
        have s3:(o:Int)+2≤(cap:Int):=by omega
        have s4:(0:Int)≤(o:Int)+2:=by omega
        have s5:¬ cap=o:=by omega
        have s6:((o:Int)+2).toNat - o=2:=by omega
        have s7:(IntKind.u16.wrap (IntKind.i16.wrap ↑cc.r0))=(cc.r0:Int) % 65536:=by rw[IntKind.wrap_u16,aEm];omega
        go_wp2
        go_region_held3 (fun w'=>w'.cell? ⟨b,0,none⟩=some (.slice (some ⟨g,0,none⟩) (bs.length+2*cs.length) cap))
         (first
          | exact H5
          | exact Dw
          | assumption)
         (first
          | (go_at_call 232;refine AO.mono ?_;rintro e w1 ⟨rfl,rfl⟩))
        all_goals
         go_wp2;go_roundw
         case rel=>exact ⟨k+1,by omega,by go_num,by subst DK;go_num,Bz,Dx⟩
         case measure=>simp[intOf];omega
    · have Bl:k=cs.length:=by omega
      subst Bl;go_wp2;go_end0;rw[take_length,Nat.sub_self,Nat.mul_zero,replicate_zero,append_nil] at A7;have CO:=fun CJ=>Hot.buf (bs:=bs++cs.flatMap (aG 2)) (cap:=cap) (N:=bs.length+2*cs.length) A7 (fb:=fun k=>k=b∨k=g) CJ
      have C9:=Kept.hot (l:=aN (cs.flatMap (aG 2))) Ie.out DV.out DU.out DR.out AY (by rw[← bC];exact A7)
      exact ⟨rfl,Ak.trans AY hS,_,CO (fun k=>Iff.rfl),fun k hk=>AX k ((BC k).2 hk),C9⟩
def aOM:Nat→Nat→Nat→World→(Nat→Prop)→List Cell→Prop:=gZ 196 197 1 dP (.func (.func 62) #[] #[]) (.func (.func 63) #[] #[])
theorem aBa (p nb:Nat) (w:World) (name:String) (f:FuncId) (h:(name,f)=("Append",622)∨(name,f)=("AppendArr",623)):(method mdp 533 (.agg #[.iface 194 (.pointer (some ⟨p,0,none⟩)),.func (.func 344) #[] #[.pointer (some ⟨nb,0,none⟩)],.func (.func 345) #[] #[.pointer (some ⟨nb,0,none⟩)]]) name).run Tryz.prog w=.ok (f,.agg #[.iface 194 (.pointer (some ⟨p,0,none⟩)),.func (.func 344) #[] #[.pointer (some ⟨nb,0,none⟩)],.func (.func 345) #[] #[.pointer (some ⟨nb,0,none⟩)]]) w:=by
 rcases h with h|h<;>(simp only[Prod.mk.injEq] at h;obtain ⟨rfl,rfl⟩:=h;kernel_rfl)
theorem aEX (p nb:Nat) (w:World) (v:Value) (hv:w.cell? ⟨p,0,none⟩=some v):(method mdp 533 (.agg #[.iface 194 (.pointer (some ⟨p,0,none⟩)),.func (.func 344) #[] #[.pointer (some ⟨nb,0,none⟩)],.func (.func 345) #[] #[.pointer (some ⟨nb,0,none⟩)]]) "Rows").run Tryz.prog w=.ok (337,v) w:=by
 obtain ⟨n,hn⟩:=fuel;rw[hn]
 refine (aX (n:=n+1) underlying533 rfl rfl (fun _=>by kernel_rfl) (by kernel_rfl) rfl).trans ?_
 exact aQ (n:=n) false (by kernel_rfl) (aU underlying194 (bI underlying196 hv))
theorem aIh (p nb:Nat) (w:World) (v:Value) (hv:w.cell? ⟨p,0,none⟩=some v):(method mdp 533 (.agg #[.iface 194 (.pointer (some ⟨p,0,none⟩)),.func (.func 344) #[] #[.pointer (some ⟨nb,0,none⟩)],.func (.func 345) #[] #[.pointer (some ⟨nb,0,none⟩)]]) "EncodeColumn").run Tryz.prog w=.ok (334,v) w:=by
 obtain ⟨n,hn⟩:=fuel;rw[hn]
 refine (aX (n:=n+1) underlying533 rfl rfl (fun _=>by kernel_rfl) (by kernel_rfl) rfl).trans ?_
 exact aQ (n:=n) false (by kernel_rfl) (aU underlying194 (bI underlying196 hv))
theorem aKD (p nb:Nat):iI Tryz.prog 196 197 533 1 dP (.func (.func 62) #[] #[]) p nb (.agg #[.iface 194 (.pointer (some ⟨p,0,none⟩)),.func (.func 344) #[] #[.pointer (some ⟨nb,0,none⟩)],.func (.func 345) #[] #[.pointer (some ⟨nb,0,none⟩)]]) (.num .i16) where
 append:=fun w n xs fp hc hn hf c iv kv hs=>aF.of1 (aBa p nb w _ _ (.inl rfl)) call622 (xW w p nb n xs fp hc hn hf c.r0 c.r1 c.r2 c.r3 hs.1 c.s c.null iv kv)
 appendArr:=fun w B n xs fp hB hc hf cs v ys hs A8 hn=>aF.of1 (aBa p nb w _ _ (.inr rfl)) call623 (qR w B p nb hB n xs fp hc hf cs v ys hs A8 hn)
 rows:=fun w a n c hp=>aF.of0 (aEX p nb w _ hp) call337 (aKI w a n c)
 flat:=by rintro w name (rfl|rfl|rfl) n m<;>exact fC underlying533 rfl rfl (fun _=>by kernel_rfl) (by kernel_rfl) rfl (by kernel_rfl) n m
 ahead:=fun w=>by kernel_rfl
 prep:=fun x w=>run_typeAssert_lacksB underlying102 (by kernel_rfl) (by kernel_rfl) _ x w
 stat:=fun x w=>run_typeAssert_lacksB underlying172 (by kernel_rfl) (by kernel_rfl) _ x w
 encode:=fun w b fb bs a c cs hb hp Aa hd hs hl=>aF.of1 (aIh p nb w _ hp) call334 (vI w b fb bs hb a c cs Aa hd (fun c hc=>(hs c hc).1)
  (by have GH:(enc (.num .i16) cs).length=2*cs.length:=aY _ 2 (aV 2 (by omega)) cs;omega))
theorem aKJ (B p nb:Nat):ColSpec Tryz.prog B 533 (.agg #[.iface 194 (.pointer (some ⟨p,0,none⟩)),.func (.func 344) #[] #[.pointer (some ⟨nb,0,none⟩)],.func (.func 345) #[] #[.pointer (some ⟨nb,0,none⟩)]]) (.num .i16) [] (aOM B p nb) (aOM B p nb):=(aKD p nb).spec
theorem aEW (w:World):Calls Tryz.prog 50 #[.int .i64 2] w fun e w'=>e=.returned (.iface 204 (.agg #[.iface 194 (.pointer (some ⟨w.heap.size,0,none⟩)),.func (.func 62) #[] #[],.func (.func 63) #[] #[]]))∧w'=w.alloc (.cells #[.slice none 0 0] 196):=by
 go_enter func50,ntmps50;go_wp2;go_ret
 exact ⟨rfl,rfl⟩
theorem aDb (w:World) (p:Nat):(method mdp 204 (.agg #[.iface 194 (.pointer (some ⟨p,0,none⟩)),.func (.func 62) #[] #[],.func (.func 63) #[] #[]]) "given.example/pub-bradawl/impl.cells").run Tryz.prog w =
 .ok (343,.agg #[.iface 194 (.pointer (some ⟨p,0,none⟩)),.func (.func 62) #[] #[],.func (.func 63) #[] #[]]) w:=by
 obtain ⟨n,hn⟩:=fuel;rw[hn]
 exact aQ (n:=n+1) false (by kernel_rfl) (dM underlying204 rfl)
theorem aKG (w:World) (p B:Nat) (hB:B≤p) (hp:w.heap[p]?=some (.cells #[.slice none 0 0] 196 (0,0))) :
 Calls Tryz.prog 343 #[.agg #[.iface 194 (.pointer (some ⟨p,0,none⟩)),.func (.func 62) #[] #[],.func (.func 63) #[] #[]]] w fun e w' =>
  ∃ nb fp,e=.returned (.iface 533 (.agg #[.iface 194 (.pointer (some ⟨p,0,none⟩)),.func (.func 344) #[] #[.pointer (some ⟨nb,0,none⟩)],.func (.func 345) #[] #[.pointer (some ⟨nb,0,none⟩)]]))∧aOM B p nb w' fp []∧F0 w w':=by
 have AZ:=aC hp;go_enter func343,ntmps343;go_wp2;go_ret
 refine ⟨w.heap.size,fun k=>k=p∨k=w.heap.size,rfl,⟨fun k=>k=p,⟨.slice none 0 0,(Below.heap_alloc _ _ _ AZ).trans hp,World.ownsRow_nil _ _ _ _,by simp[Value.ownBlock],fun k=>by simp[Value.ownBlock]⟩,⟨by rw[aB rfl];rfl,by rw[aB rfl];rfl⟩,fun k=>Iff.rfl,?_,by omega,by simp⟩,(Fr.refl _ w).alloc _⟩;rintro k (rfl|rfl)<;>omega
theorem aIj {conn:Value} {ps pw:Nat} {w:World} {fw:Nat→Prop} {n:Nat} {out:List UInt8} (h:eG conn ps pw w fw n out) (a:Option Addr) (c:Nat) (cs:List Cell) (Aa:w.ownsRow 0 197 1 (.slice a cs.length c) cs.length (cs.flatMap dP))
 (hd:∀ k,(Value.slice a cs.length c).ownBlock=some k→¬ fw k) (hs:∀ c∈cs,c.r0<18446744073709551616) (hl:out.length+(cs.flatMap (aG 2)).length≤1099511627776) :
 Calls Tryz.prog 339 #[.slice a cs.length c,.pointer (some ⟨pw,0,none⟩)] w fun e w'=>e=.returned (.tuple #[])∧Fr fw w w'∧∃ fw',eG conn ps pw w' fw' n (out++cs.flatMap (aG 2))∧Grow w fw fw':=by
 have GH:=aY _ 2 (aV 2 (by omega)) cs;have Gw:=h.chain (l:=cs.flatMap (aG 2)) (cb:=.func (.func 334) #[.slice a cs.length c] #[]) fun b fb bs hb CJ Gf=>bM.bound call334 (vI w b fb bs hb a c cs Aa (fun k hk e=>hd k hk (CJ k e)) hs (by omega))
 go_enter func339,ntmps339
 go_wp2_with (go_at_call 176;refine Gw.mono ?_;rintro e w1 ⟨rfl,h1,h2⟩)
 go_end0
 exact ⟨rfl,h1,h2⟩
theorem aEY (w:World) (r0:Nat):Calls Tryz.prog 63 #[.int .i16 (IntKind.i16.wrap r0)] w fun e w'=>e=.returned (.agg #[.int .u64 (r0 % 65536:Nat),.int .u64 0,.int .u64 0,.int .u64 0])∧F0 w w':=by
 have hw:IntKind.u64.wrap (IntKind.u16.wrap (IntKind.i16.wrap r0))=((r0 % 65536:Nat):Int):=by rw[IntKind.wrap_u64,IntKind.wrap_u16,aEm];omega
 go_enter func63,ntmps63;go_wp2
 refine bodyPost_ret (by simp[results,results63,go_sem];try rfl) rfl ?_
 exact ⟨by rw[Int.natCast_emod];rfl,(Fr.refl _ w).alloc _⟩
theorem aON (w:World) (a:Option Addr) (k c:Nat) (cs:List Cell) (hk:k<cs.length) (Aa:w.ownsRow 0 197 1 (.slice a cs.length c) cs.length (cs.flatMap dP)) :
 Calls Tryz.prog 336 #[.slice a cs.length c,.int .i64 k] w fun e w'=>e=.returned (.int .i16 (IntKind.i16.wrap cs[k].r0))∧F0 w w':=by
 rcases Aa.2 with ⟨hv,_⟩|⟨ga,capa,cura,hv,_⟩
 · simp only[Value.slice.injEq] at hv;omega
 · simp only[Value.slice.injEq] at hv
   obtain ⟨rfl,_,rfl⟩:=hv;have hx:=Aa.cells (g:=ga) rfl k _ (qQ cs k hk);simp only[dP,List.head!] at hx;rw[Addr.add_lit,Nat.zero_add] at hx;have Gz:(k:Int)<cs.length:=by omega
   go_enter func336,ntmps336;go_wp2;go_ret
   exact ⟨rfl,Fr.refl _ _⟩
theorem aKH (w:World) (nb r0:Nat) (hf:w.cell? ⟨nb,2,none⟩=some (.func (.func 63) #[] #[])) :
 Calls Tryz.prog 345 #[.int .i16 (IntKind.i16.wrap r0),.pointer (some ⟨nb,0,none⟩)] w fun e w'=>e=.returned (.agg #[.int .u64 (r0 % 65536:Nat),.int .u64 0,.int .u64 0,.int .u64 0,.string ⟨#[]⟩,.bool false,.slice none 0 0,.slice none 0 0])∧F0 w w':=by
 have Ey:∀ o,(w.alloc o).cell? ⟨nb,2,none⟩=some (.func (.func 63) #[] #[]):=fun o=>(World.cell?_alloc_lt w o _ (World.block_lt_of_cell? w _ hf)).trans hf
 go_enter func345,ntmps345
 go_wp2_with (go_at_call 63;refine (aEY _ r0).mono ?_;rintro e w1 ⟨rfl,Ad⟩;have hm:=Ad.made (n:=w.heap.size) rfl;obtain ⟨c0,c1,c2,c3,c4,c5,c6,c7⟩:=bD.eight (bD.of_block hm);have z0:=fzj 0 hm;have z1:=fzj 1 hm;have z2:=fzj 2 hm;have z3:=fzj 3 hm;have z4:=fzj 4 hm;have z5:=fzj 5 hm;have z6:=fzj 6 hm;have z7:=fzj 7 hm)
 refine bodyPost_ret (by simp[results,results345,go_sem,c0,c1,c2,c3,c4,c5,c6,c7];try rfl) rfl ?_
 have Ez:=((Fr.refl (fun _=>False) w).alloc (.cells #[.int .u64 0,.int .u64 0,.int .u64 0,.int .u64 0,.string ⟨#[]⟩,.bool false,.slice none 0 0,.slice none 0 0] 35)).trans Ad (fun _ _ h=>h);have hb:∀ i,(False∨w.heap.size≤(⟨w.heap.size,i,none⟩:Addr).block):=fun _=>.inr (Nat.le_refl _)
 exact ⟨by rw[Int.natCast_emod];rfl,(((((((Ez.setCell (hb 0) _).setCell (hb 1) _).setCell (hb 2) _).setCell (hb 3) _).setCell (hb 4) _).setCell (hb 5) _).setCell (hb 6) _).setCell (hb 7) _⟩
theorem aKE (a:Addr) (w:World) {b:Option Addr} {n c:Nat} (hv:w.cell? a=some (.slice b n c)):(method mdp 194 (.pointer (some a)) "Row").run Tryz.prog w=.ok (336,.slice b n c) w:=by
 obtain ⟨n,hn⟩:=fuel;rw[hn]
 exact aQ (n:=n+1) false (by kernel_rfl) (aU underlying194 (bI underlying196 hv))
theorem aDa (w:World) (p nb:Nat) (a:Option Addr) (k c:Nat) (cs:List Cell) (hk:k<cs.length) (hp:w.cell? ⟨p,0,none⟩=some (.slice a cs.length c)) (Aa:w.ownsRow 0 197 1 (.slice a cs.length c) cs.length (cs.flatMap dP))
 (hf:w.cell? ⟨nb,2,none⟩=some (.func (.func 63) #[] #[])) :
 Calls Tryz.prog 624 #[.agg #[.iface 194 (.pointer (some ⟨p,0,none⟩)),.func (.func 344) #[] #[.pointer (some ⟨nb,0,none⟩)],.func (.func 345) #[] #[.pointer (some ⟨nb,0,none⟩)]],.int .i64 k] w fun e w' =>
  e=.returned (.agg #[.int .u64 (cs[k].r0 % 65536:Nat),.int .u64 0,.int .u64 0,.int .u64 0,.string ⟨#[]⟩,.bool false,.slice none 0 0,.slice none 0 0])∧F0 w w':=by
 have Ag:=fun W (Aw:F0 w W)=>aF.of1 (name:= "Row") (aKE ⟨p,0,none⟩ W.drew (Aw.drew.aA hp (fun h=>h))) call336 (aON W.drew a k c cs hk (Aw.drew.owns Aa (fun _ _ h=>h)))
 generalize cs[k].r0=r0 at Ag ⊢;clear hp Aa hk;have Ag:=Lib.hid Ag;go_enter func624,ntmps624
 go_wp2_with fail
 generalize hW:(w.alloc _).alloc _=W;have Af:F0 w W:=by subst hW;exact ((Fr.refl _ w).alloc _).alloc _
 have d0:W.cell? ⟨w.heap.size,0,none⟩=some (.iface 194 (.pointer (some ⟨p,0,none⟩))):=by subst hW;rw[ca (by simp),aB rfl];rfl
 have d2:W.cell? ⟨w.heap.size,2,none⟩=some (.func (.func 345) #[] #[.pointer (some ⟨nb,0,none⟩)]):=by subst hW;rw[ca (by simp),aB rfl];rfl
 have Di:W.heap[w.heap.size+1]?=some (.cells #[.int .u64 0,.int .u64 0,.int .u64 0,.int .u64 0,.string ⟨#[]⟩,.bool false,.slice none 0 0,.slice none 0 0] 35 (0,0)):=by subst hW;exact Fr.made (Fr.refl _ _) (by simp)
 have Aw:=Af.aA hf (fun h=>h);clear hW
 go_region_law
  (first
   | (refine aK _ rfl ?_;refine bH _ _ _ _ _ rfl _ _ rfl (Ag.out W Af) rfl ?_;rintro e w1 ⟨rfl,BL⟩;have Ad:=BL.aH;have d2':=Ad.aA d2 (fun h=>h);refine ⟨_,rfl,?_⟩)
   | (refine aK _ rfl ?_;refine dI _ _ _ _ rfl _ _ rfl (bM.func1 call345 (aKH _ nb r0 (Ad.aA Aw (fun h=>h)))) rfl ?_;rintro e w2 ⟨rfl,Au⟩;have Ae:F0 W w2:=Ad.trans Au (fun _ _ h=>h);have AB:=(Ae.block _ (aC Di) (fun h=>h)).trans Di;obtain ⟨c0,c1,c2,c3,c4,c5,c6,c7⟩:=bD.eight (bD.of_block AB);have z0:=fzj 0 AB;have z1:=fzj 1 AB;have z2:=fzj 2 AB;have z3:=fzj 3 AB;have z4:=fzj 4 AB;have z5:=fzj 5 AB;have z6:=fzj 6 AB;have z7:=fzj 7 AB;refine ⟨_,rfl,?_⟩))
 all_goals (try simp only[Exit.then])
 all_goals
  refine (‹∀ (a:Act) (w:World),Code.wp _ Code.ret _ a w→_› _ _ ?_)
  refine wp_ret ?_
  show bodyPost _ _ _ _ _ _
  refine bodyPost_ret (by simp[results,results624,go_sem,c0,c1,c2,c3,c4,c5,c6,c7];try rfl) rfl ?_
  have hb:∀ i,(False∨w.heap.size≤(⟨w.heap.size+1,i,none⟩:Addr).block):=fun _=>.inr (Nat.le_succ _)
  exact ⟨by rw[Int.natCast_emod];rfl,(((((((((Af.trans Ae (fun _ _ h=>h)).setCell (hb 0) _).setCell (hb 1) _).setCell (hb 2) _).setCell (hb 3) _).setCell (hb 4) _).setCell (hb 5) _).setCell (hb 6) _).setCell (hb 7) _)⟩
abbrev aHk (p nb:Nat):Value:=.agg #[.iface 194 (.pointer (some ⟨p,0,none⟩)),.func (.func 344) #[] #[.pointer (some ⟨nb,0,none⟩)],.func (.func 345) #[] #[.pointer (some ⟨nb,0,none⟩)]]
theorem aIi (p nb:Nat) (w:World):(method mdp 533 (aHk p nb) "Row").run Tryz.prog w=.ok (624,aHk p nb) w:=by kernel_rfl
theorem aKF (p nb:Nat) (w:World) (v:Value) (hv:w.cell? ⟨p,0,none⟩=some v):(method mdp 533 (aHk p nb) "WriteColumn").run Tryz.prog w=.ok (339,v) w:=by
 obtain ⟨n,hn⟩:=fuel;rw[hn]
 refine (aX (n:=n+1) underlying533 rfl rfl (fun _=>by kernel_rfl) (by kernel_rfl) rfl).trans ?_
 exact aQ (n:=n) false (by kernel_rfl) (aU underlying194 (bI underlying196 hv))
theorem aIg (p nb:Nat):fU Tryz.prog 196 197 533 1 dP (.func (.func 63) #[] #[]) p nb (aHk p nb) (.num .i16) where
 write:=fun hp Aa hs CY hd hl hn=>(aF.of1 (aKF p nb _ _ hp) call339 (aIj CY _ _ _ Aa (fun k hk=>(hd k hk).1) (fun c hc=>(hs c hc).1) hl)).mono fun e w' ⟨h1,h2,fw',h3,h4⟩=>⟨h1,h2,fw',h3.more (Nat.le_add_right _ _),h4⟩
 row:=fun {w a c k cs} hk hp Aa hs hf=>(aF.of1 (aIi p nb w) call624 (aDa w p nb a k c cs hk hp Aa hf)).mono fun e w' ⟨h1,h2⟩=>⟨.mk (cs[k].r0 % 65536) 0 0 0 ⟨#[]⟩ false [] [],iF (by omega),h1,h2,iO rfl (by decide) rfl⟩
end Go.Proofs.YtcidlnjpabgioaaGreatDoor
