import Derived.Deep.RegionLaw
import Derived.Test.YtcidlnjpabgioaaGreatDoorUGWa
set_option maxHeartbeats 1000000
set_option maxRecDepth 100000
namespace Go.Proofs.YtcidlnjpabgioaaGreatDoor
open Tryz List Go.RowKit
theorem aKK:ElT Tryz.prog 207 21 (.int .i32 0) 1 4:=⟨underlying207,info_parts (by kernel_rfl),rfl⟩
theorem aNH:ElT Tryz.prog 206 21 (.int .i32 0) 1 4:=⟨underlying206,info_parts (by kernel_rfl),rfl⟩
theorem aFa (w:World) (p:Nat) (n:Nat) (xs:List Value) (fp:Nat→Prop) (hc:aJ w p 207 21 1 n xs fp) (hn:n<2147483648) (x:Int) :
 Calls Tryz.prog 346 #[.pointer (some ⟨p,0,none⟩),.int .i32 x] w fun e w'=>e=.returned (.tuple #[])∧(∃ fp',aJ w' p 207 21 1 (n+1) (xs++[.int .i32 x]) fp'∧Grow w fp fp')∧Fr fp w w':=by
 obtain ⟨v,hp,Aa,Am,Aj⟩:=hc;obtain ⟨Ac,BH⟩:=aJ.cell hp;obtain ⟨a0,c0,rfl⟩:=ownsRow_shape Aa;have AZ:=aC hp
 have Be:Src Tryz.prog 1 207 (.slice (some ⟨w.heap.size,0,none⟩) 1 1) 1 [.int .i32 x] (w.alloc (.cells [.int .i32 x].toArray 21)) :=
  Src.ofSlice _ underlying207 _ _ _ _ rfl (bG _ _ _) (by simp[Value.oneCell'])
 go_enter func346,ntmps346
 go_wp2_with ((with_reducible show wpList _ _ _ (⟨some 10,_,_,_,_,_⟩ :: _) _ _);(refine aP _ rfl aKK _ _ rfl _ _ _ rfl (Aa.alloc _) _ _ _ rfl Be ?_ ?_ ?_);(unfold maxLen;omega);omega;intro v' w1 ha;obtain ⟨a',c',rfl⟩:=ha.shape;have Cj:w1.cell? ⟨p,0,none⟩=some (.slice a0 n c0):=ha.2.1.cell (by simpa using (World.cell?_alloc_lt w _ _ AZ).trans Ac) (fun h=>Am h.symm);have Ad:w1.frozen? ⟨p,0,none⟩=false:=(World.frozen?_of_block (ha.2.1.block p (by simp;omega) (fun h=>Am h.symm))).trans (by rw[World.frozen?_alloc_old _ _ _ (by simp;omega)];exact BH))
 go_end0
 exact ⟨rfl,aJ.appended hp Aa Am Aj ((Fr.refl _ w).alloc _) ha⟩
theorem aAo (w:World) (p:Nat) (n:Nat) (xs:List Value) (fp:Nat→Prop) (hc:aJ w p 207 21 1 n xs fp) (m:Nat) (sv:Value) (news:List Value) (Be:Src Tryz.prog 1 206 sv m news w) (hn:n+m≤2147483648) :
 Calls Tryz.prog 347 #[.pointer (some ⟨p,0,none⟩),sv] w fun e w'=>e=.returned (.tuple #[])∧(∃ fp',aJ w' p 207 21 1 (n+m) (xs++news) fp'∧Grow w fp fp')∧Fr fp w w':=by
 obtain ⟨v,hp,Aa,Am,Aj⟩:=hc;obtain ⟨Ac,BH⟩:=aJ.cell hp;obtain ⟨a0,c0,rfl⟩:=ownsRow_shape Aa;go_enter func347,ntmps347
 go_wp2_with ((with_reducible show wpList _ _ _ (⟨some 9,_,_,_,_,_⟩ :: _) _ _);(refine aP _ rfl aKK _ _ rfl _ _ _ rfl Aa _ _ _ rfl Be ?_ ?_ ?_);(unfold maxLen;omega);omega;intro v' w1 ha;obtain ⟨a',c',rfl⟩:=ha.shape;have Cj:w1.cell? ⟨p,0,none⟩=some (.slice a0 n c0):=ha.2.1.cell Ac (fun h=>Am h.symm);have Ad:w1.frozen? ⟨p,0,none⟩=false:=(World.frozen?_of_block (ha.2.1.block p (aC hp) (fun h=>Am h.symm))).trans BH)
 go_end0
 exact ⟨rfl,aJ.appended hp Aa Am Aj (Fr.refl _ w) ha⟩
theorem aNI (w:World) (r0 r1 r2 r3:Nat) (_h0:r0<18446744073709551616):Calls Tryz.prog 64 #[.agg #[.int .u64 r0,.int .u64 r1,.int .u64 r2,.int .u64 r3]] w fun e w'=>e=.returned (.int .i32 (wrap32 r0))∧F0 w w':=by
 go_enter func64,ntmps64;go_wp2;go_ret
 exact ⟨rfl,(Fr.refl _ w).alloc _⟩
theorem i32_in (w:World) (nb:Nat) (r0 r1 r2 r3:Nat) (h0:r0<18446744073709551616) (s:ByteArray) (null:Bool) (iv kv:Value) (hf:w.cell? ⟨nb,1,none⟩=some (.func (.func 64) #[] #[])) :
 Calls Tryz.prog 359 #[.agg #[.int .u64 r0,.int .u64 r1,.int .u64 r2,.int .u64 r3,.string s,.bool null,iv,kv],.pointer (some ⟨nb,0,none⟩)] w fun e w'=>e=.returned (.int .i32 (wrap32 r0))∧F0 w w':=by
 have Ey:∀ o,(w.alloc o).cell? ⟨nb,1,none⟩=some (.func (.func 64) #[] #[]):=fun o=>(World.cell?_alloc_lt w o _ (World.block_lt_of_cell? w _ hf)).trans hf
 have Ed:=aNI (w.alloc (.cells #[.int .u64 r0,.int .u64 r1,.int .u64 r2,.int .u64 r3,.string s,.bool null,iv,kv] 35)) r0 r1 r2 r3 h0;go_enter func359,ntmps359
 go_wp2_with (go_at_call 64;refine Ed.mono ?_;rintro e w' ⟨rfl,Ak⟩)
 go_ret
 exact ⟨rfl,((Fr.refl _ w).alloc _).trans Ak (fun _ _ h=>h)⟩
theorem aBR (a:Addr) (w:World):(method mdp 205 (.pointer (some a)) "Append").run Tryz.prog w=.ok (346,.pointer (some a)) w:=by kernel_rfl
theorem wM (a:Addr) (w:World):(method mdp 205 (.pointer (some a)) "AppendArr").run Tryz.prog w=.ok (347,.pointer (some a)) w:=by kernel_rfl
theorem xX (w:World) (p nb:Nat) (n:Nat) (xs:List Value) (fp:Nat→Prop) (hc:aJ w p 207 21 1 n xs fp) (hn:n<2147483648) (hf:w.cell? ⟨nb,1,none⟩=some (.func (.func 64) #[] #[]))
 (r0 r1 r2 r3:Nat) (h0:r0<18446744073709551616) (s:ByteArray) (null:Bool) (iv kv:Value) :
 Calls Tryz.prog 626 #[.agg #[.iface 205 (.pointer (some ⟨p,0,none⟩)),.func (.func 359) #[] #[.pointer (some ⟨nb,0,none⟩)],.func (.func 360) #[] #[.pointer (some ⟨nb,0,none⟩)]],.agg #[.int .u64 r0,.int .u64 r1,.int .u64 r2,.int .u64 r3,.string s,.bool null,iv,kv]] w fun e w' =>
  e=.returned (.tuple #[])∧(∃ fp',aJ w' p 207 21 1 (n+1) (xs++[.int .i32 (wrap32 r0)]) fp'∧Grow w fp fp')∧Fr fp w w':=by
 go_enter func626,ntmps626
 go_wp2_with fail
 generalize hW:(w.alloc _).alloc _=W;have Af:F0 w W:=by subst hW;exact ((Fr.refl _ w).alloc _).alloc _
 have d0:W.cell? ⟨w.heap.size,0,none⟩=some (.iface 205 (.pointer (some ⟨p,0,none⟩))):=by subst hW;rw[ca (by simp),aB rfl];rfl
 have d1:W.cell? ⟨w.heap.size,1,none⟩=some (.func (.func 359) #[] #[.pointer (some ⟨nb,0,none⟩)]):=by subst hW;rw[ca (by simp),aB rfl];rfl
 have e0:W.cell? ⟨w.heap.size+1,0,none⟩=some (.int .u64 r0):=by subst hW;rw[aB (by simp)];rfl
 have e1:W.cell? ⟨w.heap.size+1,1,none⟩=some (.int .u64 r1):=by subst hW;rw[aB (by simp)];rfl
 have e2:W.cell? ⟨w.heap.size+1,2,none⟩=some (.int .u64 r2):=by subst hW;rw[aB (by simp)];rfl
 have e3:W.cell? ⟨w.heap.size+1,3,none⟩=some (.int .u64 r3):=by subst hW;rw[aB (by simp)];rfl
 have e4:W.cell? ⟨w.heap.size+1,4,none⟩=some (.string s):=by subst hW;rw[aB (by simp)];rfl
 have e5:W.cell? ⟨w.heap.size+1,5,none⟩=some (.bool null):=by subst hW;rw[aB (by simp)];rfl
 have e6:W.cell? ⟨w.heap.size+1,6,none⟩=some iv:=by subst hW;rw[aB (by simp)];rfl
 have e7:W.cell? ⟨w.heap.size+1,7,none⟩=some kv:=by subst hW;rw[aB (by simp)];rfl
 have BA:aJ W p 207 21 1 n xs fp:=hc.aW fun k hk=>Af.block k (hc.lt k hk) (fun h=>h)
 have Aw:W.cell? ⟨nb,1,none⟩=some (.func (.func 64) #[] #[]):=Af.aA hf (fun h=>h);have hN:¬ fp w.heap.size:=fun h=>by have:=hc.lt _ h;omega
 have AU:¬ fp (w.heap.size+1):=fun h=>by have:=hc.lt _ h;omega
 clear hW
 go_region_held3 (fun w'=>w'.cell? ⟨w.heap.size,0,none⟩=some (.iface 205 (.pointer (some ⟨p,0,none⟩)))∧w'.cell? ⟨w.heap.size,1,none⟩=some (.func (.func 359) #[] #[.pointer (some ⟨nb,0,none⟩)]) ∧
  w'.cell? ⟨w.heap.size+1,0,none⟩=some (.int .u64 r0)∧w'.cell? ⟨w.heap.size+1,1,none⟩=some (.int .u64 r1)∧w'.cell? ⟨w.heap.size+1,2,none⟩=some (.int .u64 r2)∧w'.cell? ⟨w.heap.size+1,3,none⟩=some (.int .u64 r3) ∧
  w'.cell? ⟨w.heap.size+1,4,none⟩=some (.string s)∧w'.cell? ⟨w.heap.size+1,5,none⟩=some (.bool null)∧w'.cell? ⟨w.heap.size+1,6,none⟩=some iv∧w'.cell? ⟨w.heap.size+1,7,none⟩=some kv)
  (first
   | exact ⟨d0,d1,e0,e1,e2,e3,e4,e5,e6,e7⟩
   | exact ⟨Ae.aA d0 hN,Ae.aA d1 hN,Ae.aA e0 AU,Ae.aA e1 AU,Ae.aA e2 AU,Ae.aA e3 AU,Ae.aA e4 AU,Ae.aA e5 AU,Ae.aA e6 AU,Ae.aA e7 AU⟩
   | exact ⟨Ad.aA d0 (fun h=>h),Ad.aA d1 (fun h=>h),Ad.aA e0 (fun h=>h),Ad.aA e1 (fun h=>h),Ad.aA e2 (fun h=>h),Ad.aA e3 (fun h=>h),Ad.aA e4 (fun h=>h),Ad.aA e5 (fun h=>h),Ad.aA e6 (fun h=>h),Ad.aA e7 (fun h=>h)⟩
   | assumption)
  (first
   | (refine aK _ rfl ?_;refine dI _ _ _ _ rfl _ _ rfl (bM.func1 call359 (i32_in _ nb r0 r1 r2 r3 h0 s null iv kv Aw)) rfl ?_;rintro e w1 ⟨rfl,Ad⟩;refine ⟨_,rfl,?_⟩)
   | (refine aK _ rfl ?_;refine bH _ _ _ _ _ rfl _ _ rfl (aF.of1 (aBR _ _) call346 (aFa _ p n xs fp (BA.aW fun k hk=>Ad.block k (BA.lt k hk) (fun h=>h)) hn (wrap32 r0))) rfl ?_;rintro e w2 ⟨rfl,Aq,Au⟩;have Ae:Fr fp W w2:=(Ad.aH.mono (fun _ _ h=>h.elim)).trans Au (fun _ _ h=>h);refine ⟨_,rfl,?_⟩))
 all_goals
  go_end0
  refine ⟨rfl,?_,(Af.mono (fun _ _ h=>h.elim)).trans Ae (fun _ _ h=>h)⟩;obtain ⟨fp',h1,h2⟩:=Aq
  exact ⟨fp',h1,fun k hk=>(h2 k hk).imp id (fun h=>Nat.le_trans (Nat.le_trans Af.size Ad.size) h)⟩
def dQ (c:Cell):List Value:=[.int .i32 (wrap32 c.r0)]
theorem aFe (w:World) (B nb:Nat) (Bd:B≤w.heap.size) (hf:w.cell? ⟨nb,1,none⟩=some (.func (.func 64) #[] #[])) (cs:List Cell) (v:Value) (xs:List Value) (hs:Sl B w 8 v cs.length xs) (hc:aI B w cs xs) (hn:cs.length≤2147483648) :
 Calls Tryz.prog 629 #[v,.func (.func 359) #[] #[.pointer (some ⟨nb,0,none⟩)]] w fun e w'=>∃ tv,e=.returned tv∧w'.ownsRow 0 21 1 tv cs.length (cs.flatMap dQ)∧F0 w w':=by
 have CB:=hs;obtain ⟨Dy,ao,cap,rfl,BF,AP,h0,ha⟩:=hs;unfold maxLen at AP;clear ha h0 Dy;go_enter func629,ntmps629;go_wp2
 go_loopw [5,10] (fun tv i wr=>∃ k:Nat,k≤cs.length∧i=.int .i64 k∧wr.ownsRow 0 21 1 tv k ((cs.take k).flatMap dQ)∧(∀ q,tv.ownBlock=some q→w.heap.size≤q)∧F0 w wr) (fun _ i _=>cs.length - (intOf i).toNat)
 case atStart=>exact ⟨0,Nat.zero_le _,rfl,World.ownsRow_nil _ _ _ _,by simp[Value.ownBlock],Fr.refl _ _⟩
 case round =>
  obtain ⟨k,hk,rfl,Aa,Ai,Ak⟩:=hrel;have Bf:Below B w wr:=Ak.below Bd (fun _ _ h=>h);obtain ⟨a0,c0,rfl⟩:=ownsRow_shape Aa
  by_cases Ar:k<cs.length
  · obtain ⟨b,off,cap',hv,FT,vs,AQ,Ac⟩:=(CB.below Bf).row (aI.below Bf _ _ hc) Ar
    have Ah:=Lib.hid (bQ dQ cs k Ar);generalize cs[k]=c at AQ Ah;obtain ⟨ia,il,ic,ka,kl,kc,rfl,h0,h1,h2,h3,h4⟩:=AQ.open;simp only[Value.slice.injEq] at hv;obtain ⟨rfl,_,rfl⟩:=hv;have d0:=Ac 0 _ rfl;have d1:=Ac 1 _ rfl;have d2:=Ac 2 _ rfl;have d3:=Ac 3 _ rfl;have d4:=Ac 4 _ rfl;have d5:=Ac 5 _ rfl;have d6:=Ac 6 _ rfl;have d7:=Ac 7 _ rfl;simp only[Nat.add_zero] at d0;have BM:F0 w (wr.alloc (.cells #[.int .u64 c.r0,.int .u64 c.r1,.int .u64 c.r2,.int .u64 c.r3,.string c.s,.bool c.null,.slice ia il ic,.slice ka kl kc] 35)):=Ak.alloc _;have EN:=i32_in _ nb c.r0 c.r1 c.r2 c.r3 h0 c.s c.null (.slice ia il ic) (.slice ka kl kc) (BM.aA hf (fun h=>h));clear Ac AQ CB hc
    go_wp2_with (first|((with_reducible show wpList _ _ _ (⟨some 17,_,_,_,_,_⟩ :: _) _ _);refine dG _ rfl _ _ _ rfl _ _ rfl (bM.func1 call359 EN) rfl ?_;rintro e w1 ⟨rfl,Ad⟩;refine ⟨_,rfl,?_⟩;have Bv:F0 w w1:=BM.trans Ad (fun _ _ h=>h);have Ba:=Ad.owns ((Fr.refl (fun _=>False) wr).alloc _ |>.owns Aa (fun _ _ h=>h)) (fun _ _ h=>h))|((with_reducible show wpList _ _ _ (⟨some 19,_,_,_,_,_⟩ :: _) _ _);refine aP _ rfl aNH _ _ rfl _ _ _ rfl (Ba.alloc _) _ _ _ rfl (Src.ofSlice _ underlying206 _ _ _ _ rfl (bG _ [.int .i32 (wrap32 c.r0)] _) (by simp[Value.oneCell'])) ?_ ?_ ?_;(unfold maxLen;omega);omega;intro v' w2 ha;obtain ⟨a',c',rfl⟩:=ha.shape))
    go_roundw
    case rel=>exact ⟨k+1,by omega,by go_num,by rw[Ah.out];exact ha.1,(ha.since (Bv.alloc _) Ai).1,(ha.since (Bv.alloc _) Ai).2⟩
    case measure=>simp[intOf];omega
  · have Bl:k=cs.length:=by omega
    subst Bl;rw[take_length] at Aa;go_wp2;go_ret
    exact ⟨_,rfl,Aa,Ak⟩
theorem aAp (cs:List Cell):∀ u∈cs.flatMap dQ,u.oneCell'=true:=by
 intro u hu;obtain ⟨c,_,hc⟩:=mem_flatMap.1 hu;simp only[dQ,mem_cons,not_mem_nil,or_false] at hc;subst hc;rfl
theorem qV (w:World) (B p nb:Nat) (Bd:B≤w.heap.size) (n:Nat) (xs:List Value) (fp:Nat→Prop) (hc:aJ w p 207 21 1 n xs fp) (hf:w.cell? ⟨nb,1,none⟩=some (.func (.func 64) #[] #[]))
 (cs:List Cell) (v:Value) (ys:List Value) (hs:Sl B w 8 v cs.length ys) (A8:aI B w cs ys) (hn:n+cs.length≤2147483648) :
 Calls Tryz.prog 627 #[.agg #[.iface 205 (.pointer (some ⟨p,0,none⟩)),.func (.func 359) #[] #[.pointer (some ⟨nb,0,none⟩)],.func (.func 360) #[] #[.pointer (some ⟨nb,0,none⟩)]],v] w fun e w' =>
  e=.returned (.tuple #[])∧(∃ fp',aJ w' p 207 21 1 (n+cs.length) (xs++cs.flatMap dQ) fp'∧Grow w fp fp')∧Fr fp w w':=by
 go_enter func627,ntmps627
 go_wp2_with fail
 generalize hW:w.alloc _=W;have Af:F0 w W:=by subst hW;exact (Fr.refl _ w).alloc _
 have d0:W.cell? ⟨w.heap.size,0,none⟩=some (.iface 205 (.pointer (some ⟨p,0,none⟩))):=by subst hW;rw[aB rfl];rfl
 have d1:W.cell? ⟨w.heap.size,1,none⟩=some (.func (.func 359) #[] #[.pointer (some ⟨nb,0,none⟩)]):=by subst hW;rw[aB rfl];rfl
 have BA:aJ W p 207 21 1 n xs fp:=hc.aW fun k hk=>Af.block k (hc.lt k hk) (fun h=>h)
 have Aw:W.cell? ⟨nb,1,none⟩=some (.func (.func 64) #[] #[]):=Af.aA hf (fun h=>h);have hN:¬ fp w.heap.size:=fun h=>by have:=hc.lt _ h;omega
 have D6:=hs.fr Bd Af;have Cf:=aI.below (Af.below Bd (fun _ _ h=>h)) _ _ A8;have CZ:B≤W.heap.size:=Nat.le_trans Bd Af.size;have EX:=D6.fr CZ (Fr.refl (fun _=>False) W).drew;have Ce:=aI.below ((Below.refl B W).drew) _ _ Cf;clear hW hs A8
 go_region_held3 (fun w'=>w'.cell? ⟨w.heap.size,0,none⟩=some (.iface 205 (.pointer (some ⟨p,0,none⟩)))∧w'.cell? ⟨w.heap.size,1,none⟩=some (.func (.func 359) #[] #[.pointer (some ⟨nb,0,none⟩)]))
  (first
   | exact ⟨d0,d1⟩
   | exact ⟨Ae.aA d0 hN,Ae.aA d1 hN⟩
   | exact ⟨Ad.aA d0 (fun h=>h),Ad.aA d1 (fun h=>h)⟩
   | assumption)
  (first
   | (go_at_call 629;refine (aFe W.drew B nb CZ Aw cs v ys EX Ce (by omega)).mono ?_;rintro e w1 ⟨tv,rfl,Aa,Ad⟩)
   | (refine aK _ rfl ?_;refine bH _ _ _ _ _ rfl _ _ rfl (aF.of1 (wM _ _) call347 (aAo _ p n xs fp (BA.aW fun k hk=>Ad.block k (BA.lt k hk) (fun h=>h)) _ _ _ (Src.kC underlying206 Aa (aAp cs)) hn)) rfl ?_;rintro e w2 ⟨rfl,Aq,Au⟩;have Ae:Fr fp W w2:=(Ad.aH.mono (fun _ _ h=>h.elim)).trans Au (fun _ _ h=>h);refine ⟨_,rfl,?_⟩))
 all_goals
  go_end0
  refine ⟨rfl,?_,(Af.mono (fun _ _ h=>h.elim)).trans Ae (fun _ _ h=>h)⟩;obtain ⟨fp',h1,h2⟩:=Aq
  exact ⟨fp',h1,fun k hk=>(h2 k hk).imp id (fun h=>Nat.le_trans (Nat.le_trans Af.size Ad.size) h)⟩
theorem aKQ (w:World) (a:Option Addr) (n c:Nat):Calls Tryz.prog 352 #[.slice a n c] w fun e w'=>e=.returned (.int .i64 n)∧F0 w w':=by
 go_enter func352,ntmps352;go_wp2;go_ret
 exact ⟨rfl,Fr.refl _ _⟩
theorem qU (cs:List Cell) (k:Nat) (h:k<cs.length):(cs.flatMap dQ)[k]?=some (dQ cs[k]).head!:=by
 have:∀ cs:List Cell,cs.flatMap dQ=cs.map fun c=>(dQ c).head!:=fun cs=>by induction cs with|nil=>rfl|cons c cs ih=>rw[flatMap_cons,map_cons,ih];rfl
 rw[this,getElem?_map,getElem?_eq_getElem h]
 rfl
theorem vJ (w:World) (b:Nat) (fb:Nat→Prop) (bs:List UInt8) (hb:Buf w b fb bs) (a:Option Addr) (c:Nat) (cs:List Cell) (Aa:w.ownsRow 0 21 1 (.slice a cs.length c) cs.length (cs.flatMap dQ))
 (hd:∀ k,(Value.slice a cs.length c).ownBlock=some k→¬ fb k) (hc:∀ c∈cs,c.r0<18446744073709551616) (hl:bs.length+4*cs.length≤1099511627776) :
 Calls Tryz.prog 349 #[.slice a cs.length c,.pointer (some ⟨b,0,none⟩)] w fun e w'=>e=.returned (.tuple #[])∧Fr fb w w'∧∃ fb',Buf w' b fb' (bs++cs.flatMap (aG 4))∧Grow w fb fb'∧Kept w w' b bs.length:=by
 by_cases h0:cs.length=0
 · have A8:cs=[]:=eq_nil_of_length_eq_zero (by omega)
   subst A8;go_enter func349,ntmps349;go_wp2
   try simp only[Exit.inBlock,Exit.then]
   refine bodyPost_ret (results_none rfl _ _ _) rfl ?_
   exact ⟨rfl,Fr.refl _ _,fb,by simpa using hb,fun k hk=>.inl hk,Kept.refl _ _ _⟩
 · have Ei:=hb
   obtain ⟨v,hp,Bh,Am,Aj⟩:=Ei;obtain ⟨Ac,BH⟩:=aJ.cell hp;obtain ⟨a0,c0,rfl⟩:=ownsRow_shape Bh;have AZ:=aC hp;have AP:cs.length≤9223372036854775807:=by omega
   go_enter func349,ntmps349
   go_wp2_with ((with_reducible show wpList _ _ _ (⟨some 25,_,_,_,_,_⟩ :: _) _ _);(refine dB _ rfl gY underlying3 _ _ rfl _ _ _ rfl Bh _ (4*cs.length) rfl ?_ ?_ ?_ ?_);go_num;omega;omega;intro v' w1 ha;obtain ⟨a',c',rfl⟩:=ha.shape;have Cj:w1.cell? ⟨b,0,none⟩=some (.slice a0 bs.length c0):=ha.2.1.cell Ac (fun h=>Am h.symm);have Ad:w1.frozen? ⟨b,0,none⟩=false:=(World.frozen?_of_block (ha.2.1.block b AZ (fun h=>Am h.symm))).trans BH)
   obtain ⟨⟨fb',Aq,AX⟩,Ak⟩:=aJ.appended hp Bh Am Aj (Fr.refl _ w) ha;have D5:=Kept.appended hp Bh Am (Fr.refl _ w) ha;generalize w1.setCell ⟨b,0,none⟩ (Value.slice a' (bs.length+4*cs.length) c')=W at Aq Ak D5 ⊢;obtain ⟨g,cap,hot,BC⟩:=Hot.of Aq (by omega);have Bi:=Ak.owns Aa hd
   have DF:∀ k,(Value.slice a cs.length c).ownBlock=some k→k≠b∧k≠g:=fun k hk=>⟨fun e=>hd k hk ((Aj k).2 (.inl e)),fun e=>by
    subst e;rcases AX k ((BC k).2 (.inr rfl)) with h|h
    · exact hd k hk h
    · have:=aO Aa hk;omega⟩
   have hS:∀ k,k<w.heap.size→(k=b∨k=g)→fb k:=fun k hk hh=>(AX k ((BC k).2 hh)).resolve_right (by omega)
   have Ie:=Lib.hid hp;have DV:=Lib.hid Bh;have DU:=Lib.hid Am;have DR:=Lib.hid D5;clear ha Aq hp Bh Ac BH Cj Ad Am hb D5
   go_loopw [5,7,30] (fun off _ i wr=>∃ k:Nat,k≤cs.length∧i=.int .i64 k∧off=.int .i64 (bs.length+4*k:Nat)∧Hot wr b g (bs.length+4*cs.length) cap (aN (bs++(cs.take k).flatMap (aG 4))++List.replicate (4*(cs.length - k)) (.int .u8 0))∧Fr (fun k=>k=b∨k=g) W wr) (fun _ _ i _=>cs.length - (intOf i).toNat)
   case atStart=>exact ⟨0,Nat.zero_le _,rfl,by simp,by simpa using hot,Fr.refl _ _⟩
   case round =>
    obtain ⟨k,hk,rfl,rfl,A7,AY⟩:=hrel
    by_cases Ar:k<cs.length
    · have Ap:=AY.owns Bi (fun k hk h=>by have:=DF k hk;omega)
      rcases Ap.2 with ⟨hv,_⟩|⟨ga,capa,cura,hv,_⟩
      · simp only[Value.slice.injEq] at hv;omega
      · simp only[Value.slice.injEq] at hv
        obtain ⟨rfl,_,rfl⟩:=hv;have hx:=Ap.cells (g:=ga) rfl k _ (qU cs k Ar);have Dp:=hc cs[k] (getElem_mem _);have Ah:=bQ (aG 4) cs k Ar;generalize cs[k]=cc at hx Dp Ah;simp only[dQ,List.head!] at hx;rw[Addr.add_lit,Nat.zero_add] at hx;have H5:=A7.cell;have H9:=A7.row;obtain ⟨_,_,_,Lr,Cm⟩:=H9;unfold maxLen at Cm;have AO:=uO g (bs.length+4*k) 4 (cap - (bs.length+4*k)) (cc.r0 % 4294967296) (by omega) wr.drew (by omega) (A7.drew.there (by omega)) A7.drew.cold;have AA:(bs++(cs.take k).flatMap (aG 4)).length=bs.length+4*k:=by rw[length_append,aY _ 4 (aV 4 (by omega)),length_take];congr 2;omega
        have Bz:=(A7.drew.alloc (.cells #[] 454)).put (A:=aN (bs++(cs.take k).flatMap (aG 4))) (olds:=List.replicate 4 (.int .u8 0)) (C:=List.replicate (4*(cs.length - (k+1))) (.int .u8 0)) (by rw[append_assoc,replicate_append_replicate];congr 2;omega) (aN (Lib.leBytes 4 (cc.r0 % 4294967296))) (by simp[aZ,Lib.leBytes_length]) (o:=bs.length+4*k) (by rw[aZ,AA]);have Gs:Lib.leBytes 4 (cc.r0 % 4294967296)=aG 4 cc:=by rw[dO 4 (by omega)];exact iK 4 cc.r0
        rw[Gs,← bC,append_assoc,← Ah] at Bz;rw[Gs] at AO;have Dx:Fr (fun k=>k=b∨k=g) W ((wr.drew.alloc (.cells #[] 454)).setCells g (bs.length+4*k) (aN (aG 4 cc))):=Fr.setCells (.inl (.inr rfl)) _ _ _ (AY.drew.alloc _);have Dw:=Bz.cell;generalize KA:(wr.drew.alloc (.cells #[] 454)).setCells g (bs.length+4*k) (aN (aG 4 cc))=Wn at AO Bz Dx Dw;clear KA;have ho:bs.length+4*k+4≤cap:=by omega
        generalize DK:bs.length+4*k=o at ho AO ⊢;rw[Int.natCast_emod] at AO;have s0:(0:Int)≤↑o:=by omega
        have s1:IntKind.i64.wrap ((o:Int)+4)=(o:Int)+4:=by rw[IntKind.wrap_i64];omega
        have s2:(o:Int)≤(o:Int)+4:=by omega
        have s3:(o:Int)+4≤(cap:Int):=by omega
        have s4:(0:Int)≤(o:Int)+4:=by omega
        have s5:¬ cap=o:=by omega
        have s6:((o:Int)+4).toNat - o=4:=by omega
        have s7:(IntKind.u32.wrap (wrap32 ↑cc.r0))=(cc.r0:Int) % 4294967296:=by exact aGN _
        go_wp2
        go_region_held3 (fun w'=>w'.cell? ⟨b,0,none⟩=some (.slice (some ⟨g,0,none⟩) (bs.length+4*cs.length) cap))
         (first
          | exact H5
          | exact Dw
          | assumption)
         (first
          | (go_at_call 233;refine AO.mono ?_;rintro e w1 ⟨rfl,rfl⟩))
        all_goals
         go_wp2;go_roundw
         case rel=>exact ⟨k+1,by omega,by go_num,by subst DK;go_num,Bz,Dx⟩
         case measure=>simp[intOf];omega
    · have Bl:k=cs.length:=by omega
      subst Bl;go_wp2;go_end0;rw[take_length,Nat.sub_self,Nat.mul_zero,replicate_zero,append_nil] at A7;have CO:=fun CJ=>Hot.buf (bs:=bs++cs.flatMap (aG 4)) (cap:=cap) (N:=bs.length+4*cs.length) A7 (fb:=fun k=>k=b∨k=g) CJ
      have C9:=Kept.hot (l:=aN (cs.flatMap (aG 4))) Ie.out DV.out DU.out DR.out AY (by rw[← bC];exact A7)
      exact ⟨rfl,Ak.trans AY hS,_,CO (fun k=>Iff.rfl),fun k hk=>AX k ((BC k).2 hk),C9⟩
def aOO:Nat→Nat→Nat→World→(Nat→Prop)→List Cell→Prop:=gZ 207 21 1 dQ (.func (.func 64) #[] #[]) (.func (.func 65) #[] #[])
theorem aBb (p nb:Nat) (w:World) (name:String) (f:FuncId) (h:(name,f)=("Append",626)∨(name,f)=("AppendArr",627)):(method mdp 540 (.agg #[.iface 205 (.pointer (some ⟨p,0,none⟩)),.func (.func 359) #[] #[.pointer (some ⟨nb,0,none⟩)],.func (.func 360) #[] #[.pointer (some ⟨nb,0,none⟩)]]) name).run Tryz.prog w=.ok (f,.agg #[.iface 205 (.pointer (some ⟨p,0,none⟩)),.func (.func 359) #[] #[.pointer (some ⟨nb,0,none⟩)],.func (.func 360) #[] #[.pointer (some ⟨nb,0,none⟩)]]) w:=by
 rcases h with h|h<;>(simp only[Prod.mk.injEq] at h;obtain ⟨rfl,rfl⟩:=h;kernel_rfl)
theorem aFc (p nb:Nat) (w:World) (v:Value) (hv:w.cell? ⟨p,0,none⟩=some v):(method mdp 540 (.agg #[.iface 205 (.pointer (some ⟨p,0,none⟩)),.func (.func 359) #[] #[.pointer (some ⟨nb,0,none⟩)],.func (.func 360) #[] #[.pointer (some ⟨nb,0,none⟩)]]) "Rows").run Tryz.prog w=.ok (352,v) w:=by
 obtain ⟨n,hn⟩:=fuel;rw[hn]
 refine (aX (n:=n+1) underlying540 rfl rfl (fun _=>by kernel_rfl) (by kernel_rfl) rfl).trans ?_
 exact aQ (n:=n) false (by kernel_rfl) (aU underlying205 (bI underlying207 hv))
theorem aIl (p nb:Nat) (w:World) (v:Value) (hv:w.cell? ⟨p,0,none⟩=some v):(method mdp 540 (.agg #[.iface 205 (.pointer (some ⟨p,0,none⟩)),.func (.func 359) #[] #[.pointer (some ⟨nb,0,none⟩)],.func (.func 360) #[] #[.pointer (some ⟨nb,0,none⟩)]]) "EncodeColumn").run Tryz.prog w=.ok (349,v) w:=by
 obtain ⟨n,hn⟩:=fuel;rw[hn]
 refine (aX (n:=n+1) underlying540 rfl rfl (fun _=>by kernel_rfl) (by kernel_rfl) rfl).trans ?_
 exact aQ (n:=n) false (by kernel_rfl) (aU underlying205 (bI underlying207 hv))
theorem aKL (p nb:Nat):iI Tryz.prog 207 21 540 1 dQ (.func (.func 64) #[] #[]) p nb (.agg #[.iface 205 (.pointer (some ⟨p,0,none⟩)),.func (.func 359) #[] #[.pointer (some ⟨nb,0,none⟩)],.func (.func 360) #[] #[.pointer (some ⟨nb,0,none⟩)]]) (.num .i32) where
 append:=fun w n xs fp hc hn hf c iv kv hs=>aF.of1 (aBb p nb w _ _ (.inl rfl)) call626 (xX w p nb n xs fp hc hn hf c.r0 c.r1 c.r2 c.r3 hs.1 c.s c.null iv kv)
 appendArr:=fun w B n xs fp hB hc hf cs v ys hs A8 hn=>aF.of1 (aBb p nb w _ _ (.inr rfl)) call627 (qV w B p nb hB n xs fp hc hf cs v ys hs A8 hn)
 rows:=fun w a n c hp=>aF.of0 (aFc p nb w _ hp) call352 (aKQ w a n c)
 flat:=by rintro w name (rfl|rfl|rfl) n m<;>exact fC underlying540 rfl rfl (fun _=>by kernel_rfl) (by kernel_rfl) rfl (by kernel_rfl) n m
 ahead:=fun w=>by kernel_rfl
 prep:=fun x w=>run_typeAssert_lacksB underlying102 (by kernel_rfl) (by kernel_rfl) _ x w
 stat:=fun x w=>run_typeAssert_lacksB underlying172 (by kernel_rfl) (by kernel_rfl) _ x w
 encode:=fun w b fb bs a c cs hb hp Aa hd hs hl=>aF.of1 (aIl p nb w _ hp) call349 (vJ w b fb bs hb a c cs Aa hd (fun c hc=>(hs c hc).1)
  (by have GH:(enc (.num .i32) cs).length=4*cs.length:=aY _ 4 (aV 4 (by omega)) cs;omega))
theorem aKR (B p nb:Nat):ColSpec Tryz.prog B 540 (.agg #[.iface 205 (.pointer (some ⟨p,0,none⟩)),.func (.func 359) #[] #[.pointer (some ⟨nb,0,none⟩)],.func (.func 360) #[] #[.pointer (some ⟨nb,0,none⟩)]]) (.num .i32) [] (aOO B p nb) (aOO B p nb):=(aKL p nb).spec
theorem aFb (w:World):Calls Tryz.prog 50 #[.int .i64 3] w fun e w'=>e=.returned (.iface 214 (.agg #[.iface 205 (.pointer (some ⟨w.heap.size,0,none⟩)),.func (.func 64) #[] #[],.func (.func 65) #[] #[]]))∧w'=w.alloc (.cells #[.slice none 0 0] 207):=by
 go_enter func50,ntmps50;go_wp2;go_ret
 exact ⟨rfl,rfl⟩
theorem aDd (w:World) (p:Nat):(method mdp 214 (.agg #[.iface 205 (.pointer (some ⟨p,0,none⟩)),.func (.func 64) #[] #[],.func (.func 65) #[] #[]]) "given.example/pub-bradawl/impl.cells").run Tryz.prog w =
 .ok (358,.agg #[.iface 205 (.pointer (some ⟨p,0,none⟩)),.func (.func 64) #[] #[],.func (.func 65) #[] #[]]) w:=by
 obtain ⟨n,hn⟩:=fuel;rw[hn]
 exact aQ (n:=n+1) false (by kernel_rfl) (dM underlying214 rfl)
theorem aKO (w:World) (p B:Nat) (hB:B≤p) (hp:w.heap[p]?=some (.cells #[.slice none 0 0] 207 (0,0))) :
 Calls Tryz.prog 358 #[.agg #[.iface 205 (.pointer (some ⟨p,0,none⟩)),.func (.func 64) #[] #[],.func (.func 65) #[] #[]]] w fun e w' =>
  ∃ nb fp,e=.returned (.iface 540 (.agg #[.iface 205 (.pointer (some ⟨p,0,none⟩)),.func (.func 359) #[] #[.pointer (some ⟨nb,0,none⟩)],.func (.func 360) #[] #[.pointer (some ⟨nb,0,none⟩)]]))∧aOO B p nb w' fp []∧F0 w w':=by
 have AZ:=aC hp;go_enter func358,ntmps358;go_wp2;go_ret
 refine ⟨w.heap.size,fun k=>k=p∨k=w.heap.size,rfl,⟨fun k=>k=p,⟨.slice none 0 0,(Below.heap_alloc _ _ _ AZ).trans hp,World.ownsRow_nil _ _ _ _,by simp[Value.ownBlock],fun k=>by simp[Value.ownBlock]⟩,⟨by rw[aB rfl];rfl,by rw[aB rfl];rfl⟩,fun k=>Iff.rfl,?_,by omega,by simp⟩,(Fr.refl _ w).alloc _⟩;rintro k (rfl|rfl)<;>omega
theorem aIn {conn:Value} {ps pw:Nat} {w:World} {fw:Nat→Prop} {n:Nat} {out:List UInt8} (h:eG conn ps pw w fw n out) (a:Option Addr) (c:Nat) (cs:List Cell) (Aa:w.ownsRow 0 21 1 (.slice a cs.length c) cs.length (cs.flatMap dQ))
 (hd:∀ k,(Value.slice a cs.length c).ownBlock=some k→¬ fw k) (hs:∀ c∈cs,c.r0<18446744073709551616) (hl:out.length+(cs.flatMap (aG 4)).length≤1099511627776) :
 Calls Tryz.prog 354 #[.slice a cs.length c,.pointer (some ⟨pw,0,none⟩)] w fun e w'=>e=.returned (.tuple #[])∧Fr fw w w'∧∃ fw',eG conn ps pw w' fw' n (out++cs.flatMap (aG 4))∧Grow w fw fw':=by
 have GH:=aY _ 4 (aV 4 (by omega)) cs;have Gw:=h.chain (l:=cs.flatMap (aG 4)) (cb:=.func (.func 349) #[.slice a cs.length c] #[]) fun b fb bs hb CJ Gf=>bM.bound call349 (vJ w b fb bs hb a c cs Aa (fun k hk e=>hd k hk (CJ k e)) hs (by omega))
 go_enter func354,ntmps354
 go_wp2_with (go_at_call 176;refine Gw.mono ?_;rintro e w1 ⟨rfl,h1,h2⟩)
 go_end0
 exact ⟨rfl,h1,h2⟩
theorem aFd (w:World) (r0:Nat):Calls Tryz.prog 65 #[.int .i32 (wrap32 r0)] w fun e w'=>e=.returned (.agg #[.int .u64 (r0 % 4294967296:Nat),.int .u64 0,.int .u64 0,.int .u64 0])∧F0 w w':=by
 have hw:wrap32 r0 % 4294967296=((r0 % 4294967296:Nat):Int):=by rw[wrap32];omega
 go_enter func65,ntmps65;go_wp2
 refine bodyPost_ret (by simp[results,results65,go_sem];try rfl) rfl ?_
 exact ⟨by rw[Int.natCast_emod];rfl,(Fr.refl _ w).alloc _⟩
theorem aOP (w:World) (a:Option Addr) (k c:Nat) (cs:List Cell) (hk:k<cs.length) (Aa:w.ownsRow 0 21 1 (.slice a cs.length c) cs.length (cs.flatMap dQ)) :
 Calls Tryz.prog 351 #[.slice a cs.length c,.int .i64 k] w fun e w'=>e=.returned (.int .i32 (wrap32 cs[k].r0))∧F0 w w':=by
 rcases Aa.2 with ⟨hv,_⟩|⟨ga,capa,cura,hv,_⟩
 · simp only[Value.slice.injEq] at hv;omega
 · simp only[Value.slice.injEq] at hv
   obtain ⟨rfl,_,rfl⟩:=hv;have hx:=Aa.cells (g:=ga) rfl k _ (qU cs k hk);simp only[dQ,List.head!] at hx;rw[Addr.add_lit,Nat.zero_add] at hx;have Gz:(k:Int)<cs.length:=by omega
   go_enter func351,ntmps351;go_wp2;go_ret
   exact ⟨rfl,Fr.refl _ _⟩
theorem aKP (w:World) (nb r0:Nat) (hf:w.cell? ⟨nb,2,none⟩=some (.func (.func 65) #[] #[])) :
 Calls Tryz.prog 360 #[.int .i32 (wrap32 r0),.pointer (some ⟨nb,0,none⟩)] w fun e w'=>e=.returned (.agg #[.int .u64 (r0 % 4294967296:Nat),.int .u64 0,.int .u64 0,.int .u64 0,.string ⟨#[]⟩,.bool false,.slice none 0 0,.slice none 0 0])∧F0 w w':=by
 have Ey:∀ o,(w.alloc o).cell? ⟨nb,2,none⟩=some (.func (.func 65) #[] #[]):=fun o=>(World.cell?_alloc_lt w o _ (World.block_lt_of_cell? w _ hf)).trans hf
 go_enter func360,ntmps360
 go_wp2_with (go_at_call 65;refine (aFd _ r0).mono ?_;rintro e w1 ⟨rfl,Ad⟩;have hm:=Ad.made (n:=w.heap.size) rfl;obtain ⟨c0,c1,c2,c3,c4,c5,c6,c7⟩:=bD.eight (bD.of_block hm);have z0:=fzj 0 hm;have z1:=fzj 1 hm;have z2:=fzj 2 hm;have z3:=fzj 3 hm;have z4:=fzj 4 hm;have z5:=fzj 5 hm;have z6:=fzj 6 hm;have z7:=fzj 7 hm)
 refine bodyPost_ret (by simp[results,results360,go_sem,c0,c1,c2,c3,c4,c5,c6,c7];try rfl) rfl ?_
 have Ez:=((Fr.refl (fun _=>False) w).alloc (.cells #[.int .u64 0,.int .u64 0,.int .u64 0,.int .u64 0,.string ⟨#[]⟩,.bool false,.slice none 0 0,.slice none 0 0] 35)).trans Ad (fun _ _ h=>h);have hb:∀ i,(False∨w.heap.size≤(⟨w.heap.size,i,none⟩:Addr).block):=fun _=>.inr (Nat.le_refl _)
 exact ⟨by rw[Int.natCast_emod];rfl,(((((((Ez.setCell (hb 0) _).setCell (hb 1) _).setCell (hb 2) _).setCell (hb 3) _).setCell (hb 4) _).setCell (hb 5) _).setCell (hb 6) _).setCell (hb 7) _⟩
theorem aKM (a:Addr) (w:World) {b:Option Addr} {n c:Nat} (hv:w.cell? a=some (.slice b n c)):(method mdp 205 (.pointer (some a)) "Row").run Tryz.prog w=.ok (351,.slice b n c) w:=by
 obtain ⟨n,hn⟩:=fuel;rw[hn]
 exact aQ (n:=n+1) false (by kernel_rfl) (aU underlying205 (bI underlying207 hv))
theorem aDc (w:World) (p nb:Nat) (a:Option Addr) (k c:Nat) (cs:List Cell) (hk:k<cs.length) (hp:w.cell? ⟨p,0,none⟩=some (.slice a cs.length c)) (Aa:w.ownsRow 0 21 1 (.slice a cs.length c) cs.length (cs.flatMap dQ))
 (hf:w.cell? ⟨nb,2,none⟩=some (.func (.func 65) #[] #[])) :
 Calls Tryz.prog 628 #[.agg #[.iface 205 (.pointer (some ⟨p,0,none⟩)),.func (.func 359) #[] #[.pointer (some ⟨nb,0,none⟩)],.func (.func 360) #[] #[.pointer (some ⟨nb,0,none⟩)]],.int .i64 k] w fun e w' =>
  e=.returned (.agg #[.int .u64 (cs[k].r0 % 4294967296:Nat),.int .u64 0,.int .u64 0,.int .u64 0,.string ⟨#[]⟩,.bool false,.slice none 0 0,.slice none 0 0])∧F0 w w':=by
 have Ag:=fun W (Aw:F0 w W)=>aF.of1 (name:= "Row") (aKM ⟨p,0,none⟩ W.drew (Aw.drew.aA hp (fun h=>h))) call351 (aOP W.drew a k c cs hk (Aw.drew.owns Aa (fun _ _ h=>h)))
 generalize cs[k].r0=r0 at Ag ⊢;clear hp Aa hk;have Ag:=Lib.hid Ag;go_enter func628,ntmps628
 go_wp2_with fail
 generalize hW:(w.alloc _).alloc _=W;have Af:F0 w W:=by subst hW;exact ((Fr.refl _ w).alloc _).alloc _
 have d0:W.cell? ⟨w.heap.size,0,none⟩=some (.iface 205 (.pointer (some ⟨p,0,none⟩))):=by subst hW;rw[ca (by simp),aB rfl];rfl
 have d2:W.cell? ⟨w.heap.size,2,none⟩=some (.func (.func 360) #[] #[.pointer (some ⟨nb,0,none⟩)]):=by subst hW;rw[ca (by simp),aB rfl];rfl
 have Di:W.heap[w.heap.size+1]?=some (.cells #[.int .u64 0,.int .u64 0,.int .u64 0,.int .u64 0,.string ⟨#[]⟩,.bool false,.slice none 0 0,.slice none 0 0] 35 (0,0)):=by subst hW;exact Fr.made (Fr.refl _ _) (by simp)
 have Aw:=Af.aA hf (fun h=>h);clear hW
 go_region_law
  (first
   | (refine aK _ rfl ?_;refine bH _ _ _ _ _ rfl _ _ rfl (Ag.out W Af) rfl ?_;rintro e w1 ⟨rfl,BL⟩;have Ad:=BL.aH;have d2':=Ad.aA d2 (fun h=>h);refine ⟨_,rfl,?_⟩)
   | (refine aK _ rfl ?_;refine dI _ _ _ _ rfl _ _ rfl (bM.func1 call360 (aKP _ nb r0 (Ad.aA Aw (fun h=>h)))) rfl ?_;rintro e w2 ⟨rfl,Au⟩;have Ae:F0 W w2:=Ad.trans Au (fun _ _ h=>h);have AB:=(Ae.block _ (aC Di) (fun h=>h)).trans Di;obtain ⟨c0,c1,c2,c3,c4,c5,c6,c7⟩:=bD.eight (bD.of_block AB);have z0:=fzj 0 AB;have z1:=fzj 1 AB;have z2:=fzj 2 AB;have z3:=fzj 3 AB;have z4:=fzj 4 AB;have z5:=fzj 5 AB;have z6:=fzj 6 AB;have z7:=fzj 7 AB;refine ⟨_,rfl,?_⟩))
 all_goals (try simp only[Exit.then])
 all_goals
  refine (‹∀ (a:Act) (w:World),Code.wp _ Code.ret _ a w→_› _ _ ?_)
  refine wp_ret ?_
  show bodyPost _ _ _ _ _ _
  refine bodyPost_ret (by simp[results,results628,go_sem,c0,c1,c2,c3,c4,c5,c6,c7];try rfl) rfl ?_
  have hb:∀ i,(False∨w.heap.size≤(⟨w.heap.size+1,i,none⟩:Addr).block):=fun _=>.inr (Nat.le_succ _)
  exact ⟨by rw[Int.natCast_emod];rfl,(((((((((Af.trans Ae (fun _ _ h=>h)).setCell (hb 0) _).setCell (hb 1) _).setCell (hb 2) _).setCell (hb 3) _).setCell (hb 4) _).setCell (hb 5) _).setCell (hb 6) _).setCell (hb 7) _)⟩
abbrev aHl (p nb:Nat):Value:=.agg #[.iface 205 (.pointer (some ⟨p,0,none⟩)),.func (.func 359) #[] #[.pointer (some ⟨nb,0,none⟩)],.func (.func 360) #[] #[.pointer (some ⟨nb,0,none⟩)]]
theorem aIm (p nb:Nat) (w:World):(method mdp 540 (aHl p nb) "Row").run Tryz.prog w=.ok (628,aHl p nb) w:=by kernel_rfl
theorem aKN (p nb:Nat) (w:World) (v:Value) (hv:w.cell? ⟨p,0,none⟩=some v):(method mdp 540 (aHl p nb) "WriteColumn").run Tryz.prog w=.ok (354,v) w:=by
 obtain ⟨n,hn⟩:=fuel;rw[hn]
 refine (aX (n:=n+1) underlying540 rfl rfl (fun _=>by kernel_rfl) (by kernel_rfl) rfl).trans ?_
 exact aQ (n:=n) false (by kernel_rfl) (aU underlying205 (bI underlying207 hv))
theorem aIk (p nb:Nat):fU Tryz.prog 207 21 540 1 dQ (.func (.func 65) #[] #[]) p nb (aHl p nb) (.num .i32) where
 write:=fun hp Aa hs CY hd hl hn=>(aF.of1 (aKN p nb _ _ hp) call354 (aIn CY _ _ _ Aa (fun k hk=>(hd k hk).1) (fun c hc=>(hs c hc).1) hl)).mono fun e w' ⟨h1,h2,fw',h3,h4⟩=>⟨h1,h2,fw',h3.more (Nat.le_add_right _ _),h4⟩
 row:=fun {w a c k cs} hk hp Aa hs hf=>(aF.of1 (aIm p nb w) call628 (aDc w p nb a k c cs hk hp Aa hf)).mono fun e w' ⟨h1,h2⟩=>⟨.mk (cs[k].r0 % 4294967296) 0 0 0 ⟨#[]⟩ false [] [],iF (by omega),h1,h2,iO rfl (by decide) rfl⟩
theorem aKS:ElT Tryz.prog 217 2 (.int .i64 0) 1 8:=⟨underlying217,info_parts (by kernel_rfl),rfl⟩
theorem aNJ:ElT Tryz.prog 216 2 (.int .i64 0) 1 8:=⟨underlying216,info_parts (by kernel_rfl),rfl⟩
theorem aFf (w:World) (p:Nat) (n:Nat) (xs:List Value) (fp:Nat→Prop) (hc:aJ w p 217 2 1 n xs fp) (hn:n<2147483648) (x:Int) :
 Calls Tryz.prog 361 #[.pointer (some ⟨p,0,none⟩),.int .i64 x] w fun e w'=>e=.returned (.tuple #[])∧(∃ fp',aJ w' p 217 2 1 (n+1) (xs++[.int .i64 x]) fp'∧Grow w fp fp')∧Fr fp w w':=by
 obtain ⟨v,hp,Aa,Am,Aj⟩:=hc;obtain ⟨Ac,BH⟩:=aJ.cell hp;obtain ⟨a0,c0,rfl⟩:=ownsRow_shape Aa;have AZ:=aC hp
 have Be:Src Tryz.prog 1 217 (.slice (some ⟨w.heap.size,0,none⟩) 1 1) 1 [.int .i64 x] (w.alloc (.cells [.int .i64 x].toArray 2)) :=
  Src.ofSlice _ underlying217 _ _ _ _ rfl (bG _ _ _) (by simp[Value.oneCell'])
 go_enter func361,ntmps361
 go_wp2_with ((with_reducible show wpList _ _ _ (⟨some 10,_,_,_,_,_⟩ :: _) _ _);(refine aP _ rfl aKS _ _ rfl _ _ _ rfl (Aa.alloc _) _ _ _ rfl Be ?_ ?_ ?_);(unfold maxLen;omega);omega;intro v' w1 ha;obtain ⟨a',c',rfl⟩:=ha.shape;have Cj:w1.cell? ⟨p,0,none⟩=some (.slice a0 n c0):=ha.2.1.cell (by simpa using (World.cell?_alloc_lt w _ _ AZ).trans Ac) (fun h=>Am h.symm);have Ad:w1.frozen? ⟨p,0,none⟩=false:=(World.frozen?_of_block (ha.2.1.block p (by simp;omega) (fun h=>Am h.symm))).trans (by rw[World.frozen?_alloc_old _ _ _ (by simp;omega)];exact BH))
 go_end0
 exact ⟨rfl,aJ.appended hp Aa Am Aj ((Fr.refl _ w).alloc _) ha⟩
theorem aAq (w:World) (p:Nat) (n:Nat) (xs:List Value) (fp:Nat→Prop) (hc:aJ w p 217 2 1 n xs fp) (m:Nat) (sv:Value) (news:List Value) (Be:Src Tryz.prog 1 216 sv m news w) (hn:n+m≤2147483648) :
 Calls Tryz.prog 362 #[.pointer (some ⟨p,0,none⟩),sv] w fun e w'=>e=.returned (.tuple #[])∧(∃ fp',aJ w' p 217 2 1 (n+m) (xs++news) fp'∧Grow w fp fp')∧Fr fp w w':=by
 obtain ⟨v,hp,Aa,Am,Aj⟩:=hc;obtain ⟨Ac,BH⟩:=aJ.cell hp;obtain ⟨a0,c0,rfl⟩:=ownsRow_shape Aa;go_enter func362,ntmps362
 go_wp2_with ((with_reducible show wpList _ _ _ (⟨some 9,_,_,_,_,_⟩ :: _) _ _);(refine aP _ rfl aKS _ _ rfl _ _ _ rfl Aa _ _ _ rfl Be ?_ ?_ ?_);(unfold maxLen;omega);omega;intro v' w1 ha;obtain ⟨a',c',rfl⟩:=ha.shape;have Cj:w1.cell? ⟨p,0,none⟩=some (.slice a0 n c0):=ha.2.1.cell Ac (fun h=>Am h.symm);have Ad:w1.frozen? ⟨p,0,none⟩=false:=(World.frozen?_of_block (ha.2.1.block p (aC hp) (fun h=>Am h.symm))).trans BH)
 go_end0
 exact ⟨rfl,aJ.appended hp Aa Am Aj (Fr.refl _ w) ha⟩
theorem aNK (w:World) (r0 r1 r2 r3:Nat) (_h0:r0<18446744073709551616):Calls Tryz.prog 66 #[.agg #[.int .u64 r0,.int .u64 r1,.int .u64 r2,.int .u64 r3]] w fun e w'=>e=.returned (.int .i64 (wrap64 r0))∧F0 w w':=by
 go_enter func66,ntmps66;go_wp2;go_ret
 exact ⟨rfl,(Fr.refl _ w).alloc _⟩
theorem i64_in (w:World) (nb:Nat) (r0 r1 r2 r3:Nat) (h0:r0<18446744073709551616) (s:ByteArray) (null:Bool) (iv kv:Value) (hf:w.cell? ⟨nb,1,none⟩=some (.func (.func 66) #[] #[])) :
 Calls Tryz.prog 374 #[.agg #[.int .u64 r0,.int .u64 r1,.int .u64 r2,.int .u64 r3,.string s,.bool null,iv,kv],.pointer (some ⟨nb,0,none⟩)] w fun e w'=>e=.returned (.int .i64 (wrap64 r0))∧F0 w w':=by
 have Ey:∀ o,(w.alloc o).cell? ⟨nb,1,none⟩=some (.func (.func 66) #[] #[]):=fun o=>(World.cell?_alloc_lt w o _ (World.block_lt_of_cell? w _ hf)).trans hf
 have Ed:=aNK (w.alloc (.cells #[.int .u64 r0,.int .u64 r1,.int .u64 r2,.int .u64 r3,.string s,.bool null,iv,kv] 35)) r0 r1 r2 r3 h0;go_enter func374,ntmps374
 go_wp2_with (go_at_call 66;refine Ed.mono ?_;rintro e w' ⟨rfl,Ak⟩)
 go_ret
 exact ⟨rfl,((Fr.refl _ w).alloc _).trans Ak (fun _ _ h=>h)⟩
theorem aBS (a:Addr) (w:World):(method mdp 215 (.pointer (some a)) "Append").run Tryz.prog w=.ok (361,.pointer (some a)) w:=by kernel_rfl
theorem wO (a:Addr) (w:World):(method mdp 215 (.pointer (some a)) "AppendArr").run Tryz.prog w=.ok (362,.pointer (some a)) w:=by kernel_rfl
theorem xY (w:World) (p nb:Nat) (n:Nat) (xs:List Value) (fp:Nat→Prop) (hc:aJ w p 217 2 1 n xs fp) (hn:n<2147483648) (hf:w.cell? ⟨nb,1,none⟩=some (.func (.func 66) #[] #[]))
 (r0 r1 r2 r3:Nat) (h0:r0<18446744073709551616) (s:ByteArray) (null:Bool) (iv kv:Value) :
 Calls Tryz.prog 630 #[.agg #[.iface 215 (.pointer (some ⟨p,0,none⟩)),.func (.func 374) #[] #[.pointer (some ⟨nb,0,none⟩)],.func (.func 375) #[] #[.pointer (some ⟨nb,0,none⟩)]],.agg #[.int .u64 r0,.int .u64 r1,.int .u64 r2,.int .u64 r3,.string s,.bool null,iv,kv]] w fun e w' =>
  e=.returned (.tuple #[])∧(∃ fp',aJ w' p 217 2 1 (n+1) (xs++[.int .i64 (wrap64 r0)]) fp'∧Grow w fp fp')∧Fr fp w w':=by
 go_enter func630,ntmps630
 go_wp2_with fail
 generalize hW:(w.alloc _).alloc _=W;have Af:F0 w W:=by subst hW;exact ((Fr.refl _ w).alloc _).alloc _
 have d0:W.cell? ⟨w.heap.size,0,none⟩=some (.iface 215 (.pointer (some ⟨p,0,none⟩))):=by subst hW;rw[ca (by simp),aB rfl];rfl
 have d1:W.cell? ⟨w.heap.size,1,none⟩=some (.func (.func 374) #[] #[.pointer (some ⟨nb,0,none⟩)]):=by subst hW;rw[ca (by simp),aB rfl];rfl
 have e0:W.cell? ⟨w.heap.size+1,0,none⟩=some (.int .u64 r0):=by subst hW;rw[aB (by simp)];rfl
 have e1:W.cell? ⟨w.heap.size+1,1,none⟩=some (.int .u64 r1):=by subst hW;rw[aB (by simp)];rfl
 have e2:W.cell? ⟨w.heap.size+1,2,none⟩=some (.int .u64 r2):=by subst hW;rw[aB (by simp)];rfl
 have e3:W.cell? ⟨w.heap.size+1,3,none⟩=some (.int .u64 r3):=by subst hW;rw[aB (by simp)];rfl
 have e4:W.cell? ⟨w.heap.size+1,4,none⟩=some (.string s):=by subst hW;rw[aB (by simp)];rfl
 have e5:W.cell? ⟨w.heap.size+1,5,none⟩=some (.bool null):=by subst hW;rw[aB (by simp)];rfl
 have e6:W.cell? ⟨w.heap.size+1,6,none⟩=some iv:=by subst hW;rw[aB (by simp)];rfl
 have e7:W.cell? ⟨w.heap.size+1,7,none⟩=some kv:=by subst hW;rw[aB (by simp)];rfl
 have BA:aJ W p 217 2 1 n xs fp:=hc.aW fun k hk=>Af.block k (hc.lt k hk) (fun h=>h)
 have Aw:W.cell? ⟨nb,1,none⟩=some (.func (.func 66) #[] #[]):=Af.aA hf (fun h=>h);have hN:¬ fp w.heap.size:=fun h=>by have:=hc.lt _ h;omega
 have AU:¬ fp (w.heap.size+1):=fun h=>by have:=hc.lt _ h;omega
 clear hW
 go_region_held3 (fun w'=>w'.cell? ⟨w.heap.size,0,none⟩=some (.iface 215 (.pointer (some ⟨p,0,none⟩)))∧w'.cell? ⟨w.heap.size,1,none⟩=some (.func (.func 374) #[] #[.pointer (some ⟨nb,0,none⟩)]) ∧
  w'.cell? ⟨w.heap.size+1,0,none⟩=some (.int .u64 r0)∧w'.cell? ⟨w.heap.size+1,1,none⟩=some (.int .u64 r1)∧w'.cell? ⟨w.heap.size+1,2,none⟩=some (.int .u64 r2)∧w'.cell? ⟨w.heap.size+1,3,none⟩=some (.int .u64 r3) ∧
  w'.cell? ⟨w.heap.size+1,4,none⟩=some (.string s)∧w'.cell? ⟨w.heap.size+1,5,none⟩=some (.bool null)∧w'.cell? ⟨w.heap.size+1,6,none⟩=some iv∧w'.cell? ⟨w.heap.size+1,7,none⟩=some kv)
  (first
   | exact ⟨d0,d1,e0,e1,e2,e3,e4,e5,e6,e7⟩
   | exact ⟨Ae.aA d0 hN,Ae.aA d1 hN,Ae.aA e0 AU,Ae.aA e1 AU,Ae.aA e2 AU,Ae.aA e3 AU,Ae.aA e4 AU,Ae.aA e5 AU,Ae.aA e6 AU,Ae.aA e7 AU⟩
   | exact ⟨Ad.aA d0 (fun h=>h),Ad.aA d1 (fun h=>h),Ad.aA e0 (fun h=>h),Ad.aA e1 (fun h=>h),Ad.aA e2 (fun h=>h),Ad.aA e3 (fun h=>h),Ad.aA e4 (fun h=>h),Ad.aA e5 (fun h=>h),Ad.aA e6 (fun h=>h),Ad.aA e7 (fun h=>h)⟩
   | assumption)
  (first
   | (refine aK _ rfl ?_;refine dI _ _ _ _ rfl _ _ rfl (bM.func1 call374 (i64_in _ nb r0 r1 r2 r3 h0 s null iv kv Aw)) rfl ?_;rintro e w1 ⟨rfl,Ad⟩;refine ⟨_,rfl,?_⟩)
   | (refine aK _ rfl ?_;refine bH _ _ _ _ _ rfl _ _ rfl (aF.of1 (aBS _ _) call361 (aFf _ p n xs fp (BA.aW fun k hk=>Ad.block k (BA.lt k hk) (fun h=>h)) hn (wrap64 r0))) rfl ?_;rintro e w2 ⟨rfl,Aq,Au⟩;have Ae:Fr fp W w2:=(Ad.aH.mono (fun _ _ h=>h.elim)).trans Au (fun _ _ h=>h);refine ⟨_,rfl,?_⟩))
 all_goals
  go_end0
  refine ⟨rfl,?_,(Af.mono (fun _ _ h=>h.elim)).trans Ae (fun _ _ h=>h)⟩;obtain ⟨fp',h1,h2⟩:=Aq
  exact ⟨fp',h1,fun k hk=>(h2 k hk).imp id (fun h=>Nat.le_trans (Nat.le_trans Af.size Ad.size) h)⟩
def dR (c:Cell):List Value:=[.int .i64 (wrap64 c.r0)]
theorem aFj (w:World) (B nb:Nat) (Bd:B≤w.heap.size) (hf:w.cell? ⟨nb,1,none⟩=some (.func (.func 66) #[] #[])) (cs:List Cell) (v:Value) (xs:List Value) (hs:Sl B w 8 v cs.length xs) (hc:aI B w cs xs) (hn:cs.length≤2147483648) :
 Calls Tryz.prog 633 #[v,.func (.func 374) #[] #[.pointer (some ⟨nb,0,none⟩)]] w fun e w'=>∃ tv,e=.returned tv∧w'.ownsRow 0 2 1 tv cs.length (cs.flatMap dR)∧F0 w w':=by
 have CB:=hs;obtain ⟨Dy,ao,cap,rfl,BF,AP,h0,ha⟩:=hs;unfold maxLen at AP;clear ha h0 Dy;go_enter func633,ntmps633;go_wp2
 go_loopw [5,10] (fun tv i wr=>∃ k:Nat,k≤cs.length∧i=.int .i64 k∧wr.ownsRow 0 2 1 tv k ((cs.take k).flatMap dR)∧(∀ q,tv.ownBlock=some q→w.heap.size≤q)∧F0 w wr) (fun _ i _=>cs.length - (intOf i).toNat)
 case atStart=>exact ⟨0,Nat.zero_le _,rfl,World.ownsRow_nil _ _ _ _,by simp[Value.ownBlock],Fr.refl _ _⟩
 case round =>
  obtain ⟨k,hk,rfl,Aa,Ai,Ak⟩:=hrel;have Bf:Below B w wr:=Ak.below Bd (fun _ _ h=>h);obtain ⟨a0,c0,rfl⟩:=ownsRow_shape Aa
  by_cases Ar:k<cs.length
  · obtain ⟨b,off,cap',hv,FT,vs,AQ,Ac⟩:=(CB.below Bf).row (aI.below Bf _ _ hc) Ar
    have Ah:=Lib.hid (bQ dR cs k Ar);generalize cs[k]=c at AQ Ah;obtain ⟨ia,il,ic,ka,kl,kc,rfl,h0,h1,h2,h3,h4⟩:=AQ.open;simp only[Value.slice.injEq] at hv;obtain ⟨rfl,_,rfl⟩:=hv;have d0:=Ac 0 _ rfl;have d1:=Ac 1 _ rfl;have d2:=Ac 2 _ rfl;have d3:=Ac 3 _ rfl;have d4:=Ac 4 _ rfl;have d5:=Ac 5 _ rfl;have d6:=Ac 6 _ rfl;have d7:=Ac 7 _ rfl;simp only[Nat.add_zero] at d0;have BM:F0 w (wr.alloc (.cells #[.int .u64 c.r0,.int .u64 c.r1,.int .u64 c.r2,.int .u64 c.r3,.string c.s,.bool c.null,.slice ia il ic,.slice ka kl kc] 35)):=Ak.alloc _;have EN:=i64_in _ nb c.r0 c.r1 c.r2 c.r3 h0 c.s c.null (.slice ia il ic) (.slice ka kl kc) (BM.aA hf (fun h=>h));clear Ac AQ CB hc
    go_wp2_with (first|((with_reducible show wpList _ _ _ (⟨some 17,_,_,_,_,_⟩ :: _) _ _);refine dG _ rfl _ _ _ rfl _ _ rfl (bM.func1 call374 EN) rfl ?_;rintro e w1 ⟨rfl,Ad⟩;refine ⟨_,rfl,?_⟩;have Bv:F0 w w1:=BM.trans Ad (fun _ _ h=>h);have Ba:=Ad.owns ((Fr.refl (fun _=>False) wr).alloc _ |>.owns Aa (fun _ _ h=>h)) (fun _ _ h=>h))|((with_reducible show wpList _ _ _ (⟨some 19,_,_,_,_,_⟩ :: _) _ _);refine aP _ rfl aNJ _ _ rfl _ _ _ rfl (Ba.alloc _) _ _ _ rfl (Src.ofSlice _ underlying216 _ _ _ _ rfl (bG _ [.int .i64 (wrap64 c.r0)] _) (by simp[Value.oneCell'])) ?_ ?_ ?_;(unfold maxLen;omega);omega;intro v' w2 ha;obtain ⟨a',c',rfl⟩:=ha.shape))
    go_roundw
    case rel=>exact ⟨k+1,by omega,by go_num,by rw[Ah.out];exact ha.1,(ha.since (Bv.alloc _) Ai).1,(ha.since (Bv.alloc _) Ai).2⟩
    case measure=>simp[intOf];omega
  · have Bl:k=cs.length:=by omega
    subst Bl;rw[take_length] at Aa;go_wp2;go_ret
    exact ⟨_,rfl,Aa,Ak⟩
theorem aAr (cs:List Cell):∀ u∈cs.flatMap dR,u.oneCell'=true:=by
 intro u hu;obtain ⟨c,_,hc⟩:=mem_flatMap.1 hu;simp only[dR,mem_cons,not_mem_nil,or_false] at hc;subst hc;rfl
theorem qX (w:World) (B p nb:Nat) (Bd:B≤w.heap.size) (n:Nat) (xs:List Value) (fp:Nat→Prop) (hc:aJ w p 217 2 1 n xs fp) (hf:w.cell? ⟨nb,1,none⟩=some (.func (.func 66) #[] #[]))
 (cs:List Cell) (v:Value) (ys:List Value) (hs:Sl B w 8 v cs.length ys) (A8:aI B w cs ys) (hn:n+cs.length≤2147483648) :
 Calls Tryz.prog 631 #[.agg #[.iface 215 (.pointer (some ⟨p,0,none⟩)),.func (.func 374) #[] #[.pointer (some ⟨nb,0,none⟩)],.func (.func 375) #[] #[.pointer (some ⟨nb,0,none⟩)]],v] w fun e w' =>
  e=.returned (.tuple #[])∧(∃ fp',aJ w' p 217 2 1 (n+cs.length) (xs++cs.flatMap dR) fp'∧Grow w fp fp')∧Fr fp w w':=by
 go_enter func631,ntmps631
 go_wp2_with fail
 generalize hW:w.alloc _=W;have Af:F0 w W:=by subst hW;exact (Fr.refl _ w).alloc _
 have d0:W.cell? ⟨w.heap.size,0,none⟩=some (.iface 215 (.pointer (some ⟨p,0,none⟩))):=by subst hW;rw[aB rfl];rfl
 have d1:W.cell? ⟨w.heap.size,1,none⟩=some (.func (.func 374) #[] #[.pointer (some ⟨nb,0,none⟩)]):=by subst hW;rw[aB rfl];rfl
 have BA:aJ W p 217 2 1 n xs fp:=hc.aW fun k hk=>Af.block k (hc.lt k hk) (fun h=>h)
 have Aw:W.cell? ⟨nb,1,none⟩=some (.func (.func 66) #[] #[]):=Af.aA hf (fun h=>h);have hN:¬ fp w.heap.size:=fun h=>by have:=hc.lt _ h;omega
 have D6:=hs.fr Bd Af;have Cf:=aI.below (Af.below Bd (fun _ _ h=>h)) _ _ A8;have CZ:B≤W.heap.size:=Nat.le_trans Bd Af.size;have EX:=D6.fr CZ (Fr.refl (fun _=>False) W).drew;have Ce:=aI.below ((Below.refl B W).drew) _ _ Cf;clear hW hs A8
 go_region_held3 (fun w'=>w'.cell? ⟨w.heap.size,0,none⟩=some (.iface 215 (.pointer (some ⟨p,0,none⟩)))∧w'.cell? ⟨w.heap.size,1,none⟩=some (.func (.func 374) #[] #[.pointer (some ⟨nb,0,none⟩)]))
  (first
   | exact ⟨d0,d1⟩
   | exact ⟨Ae.aA d0 hN,Ae.aA d1 hN⟩
   | exact ⟨Ad.aA d0 (fun h=>h),Ad.aA d1 (fun h=>h)⟩
   | assumption)
  (first
   | (go_at_call 633;refine (aFj W.drew B nb CZ Aw cs v ys EX Ce (by omega)).mono ?_;rintro e w1 ⟨tv,rfl,Aa,Ad⟩)
   | (refine aK _ rfl ?_;refine bH _ _ _ _ _ rfl _ _ rfl (aF.of1 (wO _ _) call362 (aAq _ p n xs fp (BA.aW fun k hk=>Ad.block k (BA.lt k hk) (fun h=>h)) _ _ _ (Src.kC underlying216 Aa (aAr cs)) hn)) rfl ?_;rintro e w2 ⟨rfl,Aq,Au⟩;have Ae:Fr fp W w2:=(Ad.aH.mono (fun _ _ h=>h.elim)).trans Au (fun _ _ h=>h);refine ⟨_,rfl,?_⟩))
 all_goals
  go_end0
  refine ⟨rfl,?_,(Af.mono (fun _ _ h=>h.elim)).trans Ae (fun _ _ h=>h)⟩;obtain ⟨fp',h1,h2⟩:=Aq
  exact ⟨fp',h1,fun k hk=>(h2 k hk).imp id (fun h=>Nat.le_trans (Nat.le_trans Af.size Ad.size) h)⟩
theorem aKY (w:World) (a:Option Addr) (n c:Nat):Calls Tryz.prog 367 #[.slice a n c] w fun e w'=>e=.returned (.int .i64 n)∧F0 w w':=by
 go_enter func367,ntmps367;go_wp2;go_ret
 exact ⟨rfl,Fr.refl _ _⟩
theorem qW (cs:List Cell) (k:Nat) (h:k<cs.length):(cs.flatMap dR)[k]?=some (dR cs[k]).head!:=by
 have:∀ cs:List Cell,cs.flatMap dR=cs.map fun c=>(dR c).head!:=fun cs=>by induction cs with|nil=>rfl|cons c cs ih=>rw[flatMap_cons,map_cons,ih];rfl
 rw[this,getElem?_map,getElem?_eq_getElem h]
 rfl
theorem vK (w:World) (b:Nat) (fb:Nat→Prop) (bs:List UInt8) (hb:Buf w b fb bs) (a:Option Addr) (c:Nat) (cs:List Cell) (Aa:w.ownsRow 0 2 1 (.slice a cs.length c) cs.length (cs.flatMap dR))
 (hd:∀ k,(Value.slice a cs.length c).ownBlock=some k→¬ fb k) (hc:∀ c∈cs,c.r0<18446744073709551616) (hl:bs.length+8*cs.length≤1099511627776) :
 Calls Tryz.prog 364 #[.slice a cs.length c,.pointer (some ⟨b,0,none⟩)] w fun e w'=>e=.returned (.tuple #[])∧Fr fb w w'∧∃ fb',Buf w' b fb' (bs++cs.flatMap (aG 8))∧Grow w fb fb'∧Kept w w' b bs.length:=by
 by_cases h0:cs.length=0
 · have A8:cs=[]:=eq_nil_of_length_eq_zero (by omega)
   subst A8;go_enter func364,ntmps364;go_wp2
   try simp only[Exit.inBlock,Exit.then]
   refine bodyPost_ret (results_none rfl _ _ _) rfl ?_
   exact ⟨rfl,Fr.refl _ _,fb,by simpa using hb,fun k hk=>.inl hk,Kept.refl _ _ _⟩
 · have Ei:=hb
   obtain ⟨v,hp,Bh,Am,Aj⟩:=Ei;obtain ⟨Ac,BH⟩:=aJ.cell hp;obtain ⟨a0,c0,rfl⟩:=ownsRow_shape Bh;have AZ:=aC hp;have AP:cs.length≤9223372036854775807:=by omega
   go_enter func364,ntmps364
   go_wp2_with ((with_reducible show wpList _ _ _ (⟨some 25,_,_,_,_,_⟩ :: _) _ _);(refine dB _ rfl gY underlying3 _ _ rfl _ _ _ rfl Bh _ (8*cs.length) rfl ?_ ?_ ?_ ?_);go_num;omega;omega;intro v' w1 ha;obtain ⟨a',c',rfl⟩:=ha.shape;have Cj:w1.cell? ⟨b,0,none⟩=some (.slice a0 bs.length c0):=ha.2.1.cell Ac (fun h=>Am h.symm);have Ad:w1.frozen? ⟨b,0,none⟩=false:=(World.frozen?_of_block (ha.2.1.block b AZ (fun h=>Am h.symm))).trans BH)
   obtain ⟨⟨fb',Aq,AX⟩,Ak⟩:=aJ.appended hp Bh Am Aj (Fr.refl _ w) ha;have D5:=Kept.appended hp Bh Am (Fr.refl _ w) ha;generalize w1.setCell ⟨b,0,none⟩ (Value.slice a' (bs.length+8*cs.length) c')=W at Aq Ak D5 ⊢;obtain ⟨g,cap,hot,BC⟩:=Hot.of Aq (by omega);have Bi:=Ak.owns Aa hd
   have DF:∀ k,(Value.slice a cs.length c).ownBlock=some k→k≠b∧k≠g:=fun k hk=>⟨fun e=>hd k hk ((Aj k).2 (.inl e)),fun e=>by
    subst e;rcases AX k ((BC k).2 (.inr rfl)) with h|h
    · exact hd k hk h
    · have:=aO Aa hk;omega⟩
   have hS:∀ k,k<w.heap.size→(k=b∨k=g)→fb k:=fun k hk hh=>(AX k ((BC k).2 hh)).resolve_right (by omega)
   have Ie:=Lib.hid hp;have DV:=Lib.hid Bh;have DU:=Lib.hid Am;have DR:=Lib.hid D5;clear ha Aq hp Bh Ac BH Cj Ad Am hb D5
   go_loopw [5,7,30] (fun off _ i wr=>∃ k:Nat,k≤cs.length∧i=.int .i64 k∧off=.int .i64 (bs.length+8*k:Nat)∧Hot wr b g (bs.length+8*cs.length) cap (aN (bs++(cs.take k).flatMap (aG 8))++List.replicate (8*(cs.length - k)) (.int .u8 0))∧Fr (fun k=>k=b∨k=g) W wr) (fun _ _ i _=>cs.length - (intOf i).toNat)
   case atStart=>exact ⟨0,Nat.zero_le _,rfl,by simp,by simpa using hot,Fr.refl _ _⟩
   case round =>
    obtain ⟨k,hk,rfl,rfl,A7,AY⟩:=hrel
    by_cases Ar:k<cs.length
    · have Ap:=AY.owns Bi (fun k hk h=>by have:=DF k hk;omega)
      rcases Ap.2 with ⟨hv,_⟩|⟨ga,capa,cura,hv,_⟩
      · simp only[Value.slice.injEq] at hv;omega
      · simp only[Value.slice.injEq] at hv
        obtain ⟨rfl,_,rfl⟩:=hv;have hx:=Ap.cells (g:=ga) rfl k _ (qW cs k Ar);have Dp:=hc cs[k] (getElem_mem _);have Ah:=bQ (aG 8) cs k Ar;generalize cs[k]=cc at hx Dp Ah;simp only[dR,List.head!] at hx;rw[Addr.add_lit,Nat.zero_add] at hx;have H5:=A7.cell;have H9:=A7.row;obtain ⟨_,_,_,Lr,Cm⟩:=H9;unfold maxLen at Cm;have AO:=oG g (bs.length+8*k) 8 (cap - (bs.length+8*k)) (cc.r0 % 18446744073709551616) (by omega) wr.drew (by omega) (A7.drew.there (by omega)) A7.drew.cold;have AA:(bs++(cs.take k).flatMap (aG 8)).length=bs.length+8*k:=by rw[length_append,aY _ 8 (aV 8 (by omega)),length_take];congr 2;omega
        have Bz:=(A7.drew.alloc (.cells #[] 454)).put (A:=aN (bs++(cs.take k).flatMap (aG 8))) (olds:=List.replicate 8 (.int .u8 0)) (C:=List.replicate (8*(cs.length - (k+1))) (.int .u8 0)) (by rw[append_assoc,replicate_append_replicate];congr 2;omega) (aN (Lib.leBytes 8 (cc.r0 % 18446744073709551616))) (by simp[aZ,Lib.leBytes_length]) (o:=bs.length+8*k) (by rw[aZ,AA]);have Gs:Lib.leBytes 8 (cc.r0 % 18446744073709551616)=aG 8 cc:=by rw[dO 8 (by omega)];exact iK 8 cc.r0
        rw[Gs,← bC,append_assoc,← Ah] at Bz;rw[Gs] at AO;have Dx:Fr (fun k=>k=b∨k=g) W ((wr.drew.alloc (.cells #[] 454)).setCells g (bs.length+8*k) (aN (aG 8 cc))):=Fr.setCells (.inl (.inr rfl)) _ _ _ (AY.drew.alloc _);have Dw:=Bz.cell;generalize KA:(wr.drew.alloc (.cells #[] 454)).setCells g (bs.length+8*k) (aN (aG 8 cc))=Wn at AO Bz Dx Dw;clear KA;have ho:bs.length+8*k+8≤cap:=by omega
        generalize DK:bs.length+8*k=o at ho AO ⊢;rw[Int.natCast_emod] at AO;have s0:(0:Int)≤↑o:=by omega
        have s1:IntKind.i64.wrap ((o:Int)+8)=(o:Int)+8:=by rw[IntKind.wrap_i64];omega
        have s2:(o:Int)≤(o:Int)+8:=by omega
        have s3:(o:Int)+8≤(cap:Int):=by omega
        have s4:(0:Int)≤(o:Int)+8:=by omega
        have s5:¬ cap=o:=by omega
        have s6:((o:Int)+8).toNat - o=8:=by omega
        have s7:(IntKind.u64.wrap (wrap64 ↑cc.r0))=(cc.r0:Int) % 18446744073709551616:=by exact zX _
        go_wp2
        go_region_held3 (fun w'=>w'.cell? ⟨b,0,none⟩=some (.slice (some ⟨g,0,none⟩) (bs.length+8*cs.length) cap))
         (first
          | exact H5
          | exact Dw
          | assumption)
         (first
          | (go_at_call 175;refine AO.mono ?_;rintro e w1 ⟨rfl,rfl⟩))
        all_goals
         go_wp2;go_roundw
         case rel=>exact ⟨k+1,by omega,by go_num,by subst DK;go_num,Bz,Dx⟩
         case measure=>simp[intOf];omega
    · have Bl:k=cs.length:=by omega
      subst Bl;go_wp2;go_end0;rw[take_length,Nat.sub_self,Nat.mul_zero,replicate_zero,append_nil] at A7;have CO:=fun CJ=>Hot.buf (bs:=bs++cs.flatMap (aG 8)) (cap:=cap) (N:=bs.length+8*cs.length) A7 (fb:=fun k=>k=b∨k=g) CJ
      have C9:=Kept.hot (l:=aN (cs.flatMap (aG 8))) Ie.out DV.out DU.out DR.out AY (by rw[← bC];exact A7)
      exact ⟨rfl,Ak.trans AY hS,_,CO (fun k=>Iff.rfl),fun k hk=>AX k ((BC k).2 hk),C9⟩
def aOQ:Nat→Nat→Nat→World→(Nat→Prop)→List Cell→Prop:=gZ 217 2 1 dR (.func (.func 66) #[] #[]) (.func (.func 67) #[] #[])
theorem aBc (p nb:Nat) (w:World) (name:String) (f:FuncId) (h:(name,f)=("Append",630)∨(name,f)=("AppendArr",631)):(method mdp 546 (.agg #[.iface 215 (.pointer (some ⟨p,0,none⟩)),.func (.func 374) #[] #[.pointer (some ⟨nb,0,none⟩)],.func (.func 375) #[] #[.pointer (some ⟨nb,0,none⟩)]]) name).run Tryz.prog w=.ok (f,.agg #[.iface 215 (.pointer (some ⟨p,0,none⟩)),.func (.func 374) #[] #[.pointer (some ⟨nb,0,none⟩)],.func (.func 375) #[] #[.pointer (some ⟨nb,0,none⟩)]]) w:=by
 rcases h with h|h<;>(simp only[Prod.mk.injEq] at h;obtain ⟨rfl,rfl⟩:=h;kernel_rfl)
theorem aFh (p nb:Nat) (w:World) (v:Value) (hv:w.cell? ⟨p,0,none⟩=some v):(method mdp 546 (.agg #[.iface 215 (.pointer (some ⟨p,0,none⟩)),.func (.func 374) #[] #[.pointer (some ⟨nb,0,none⟩)],.func (.func 375) #[] #[.pointer (some ⟨nb,0,none⟩)]]) "Rows").run Tryz.prog w=.ok (367,v) w:=by
 obtain ⟨n,hn⟩:=fuel;rw[hn]
 refine (aX (n:=n+1) underlying546 rfl rfl (fun _=>by kernel_rfl) (by kernel_rfl) rfl).trans ?_
 exact aQ (n:=n) false (by kernel_rfl) (aU underlying215 (bI underlying217 hv))
theorem aIp (p nb:Nat) (w:World) (v:Value) (hv:w.cell? ⟨p,0,none⟩=some v):(method mdp 546 (.agg #[.iface 215 (.pointer (some ⟨p,0,none⟩)),.func (.func 374) #[] #[.pointer (some ⟨nb,0,none⟩)],.func (.func 375) #[] #[.pointer (some ⟨nb,0,none⟩)]]) "EncodeColumn").run Tryz.prog w=.ok (364,v) w:=by
 obtain ⟨n,hn⟩:=fuel;rw[hn]
 refine (aX (n:=n+1) underlying546 rfl rfl (fun _=>by kernel_rfl) (by kernel_rfl) rfl).trans ?_
 exact aQ (n:=n) false (by kernel_rfl) (aU underlying215 (bI underlying217 hv))
theorem aKT (p nb:Nat):iI Tryz.prog 217 2 546 1 dR (.func (.func 66) #[] #[]) p nb (.agg #[.iface 215 (.pointer (some ⟨p,0,none⟩)),.func (.func 374) #[] #[.pointer (some ⟨nb,0,none⟩)],.func (.func 375) #[] #[.pointer (some ⟨nb,0,none⟩)]]) (.num .i64) where
 append:=fun w n xs fp hc hn hf c iv kv hs=>aF.of1 (aBc p nb w _ _ (.inl rfl)) call630 (xY w p nb n xs fp hc hn hf c.r0 c.r1 c.r2 c.r3 hs.1 c.s c.null iv kv)
 appendArr:=fun w B n xs fp hB hc hf cs v ys hs A8 hn=>aF.of1 (aBc p nb w _ _ (.inr rfl)) call631 (qX w B p nb hB n xs fp hc hf cs v ys hs A8 hn)
 rows:=fun w a n c hp=>aF.of0 (aFh p nb w _ hp) call367 (aKY w a n c)
 flat:=by rintro w name (rfl|rfl|rfl) n m<;>exact fC underlying546 rfl rfl (fun _=>by kernel_rfl) (by kernel_rfl) rfl (by kernel_rfl) n m
 ahead:=fun w=>by kernel_rfl
 prep:=fun x w=>run_typeAssert_lacksB underlying102 (by kernel_rfl) (by kernel_rfl) _ x w
 stat:=fun x w=>run_typeAssert_lacksB underlying172 (by kernel_rfl) (by kernel_rfl) _ x w
 encode:=fun w b fb bs a c cs hb hp Aa hd hs hl=>aF.of1 (aIp p nb w _ hp) call364 (vK w b fb bs hb a c cs Aa hd (fun c hc=>(hs c hc).1)
  (by have GH:(enc (.num .i64) cs).length=8*cs.length:=aY _ 8 (aV 8 (by omega)) cs;omega))
theorem aKZ (B p nb:Nat):ColSpec Tryz.prog B 546 (.agg #[.iface 215 (.pointer (some ⟨p,0,none⟩)),.func (.func 374) #[] #[.pointer (some ⟨nb,0,none⟩)],.func (.func 375) #[] #[.pointer (some ⟨nb,0,none⟩)]]) (.num .i64) [] (aOQ B p nb) (aOQ B p nb):=(aKT p nb).spec
theorem aFg (w:World):Calls Tryz.prog 50 #[.int .i64 4] w fun e w'=>e=.returned (.iface 223 (.agg #[.iface 215 (.pointer (some ⟨w.heap.size,0,none⟩)),.func (.func 66) #[] #[],.func (.func 67) #[] #[]]))∧w'=w.alloc (.cells #[.slice none 0 0] 217):=by
 go_enter func50,ntmps50;go_wp2;go_ret
 exact ⟨rfl,rfl⟩
theorem aDf (w:World) (p:Nat):(method mdp 223 (.agg #[.iface 215 (.pointer (some ⟨p,0,none⟩)),.func (.func 66) #[] #[],.func (.func 67) #[] #[]]) "given.example/pub-bradawl/impl.cells").run Tryz.prog w =
 .ok (373,.agg #[.iface 215 (.pointer (some ⟨p,0,none⟩)),.func (.func 66) #[] #[],.func (.func 67) #[] #[]]) w:=by
 obtain ⟨n,hn⟩:=fuel;rw[hn]
 exact aQ (n:=n+1) false (by kernel_rfl) (dM underlying223 rfl)
theorem aKW (w:World) (p B:Nat) (hB:B≤p) (hp:w.heap[p]?=some (.cells #[.slice none 0 0] 217 (0,0))) :
 Calls Tryz.prog 373 #[.agg #[.iface 215 (.pointer (some ⟨p,0,none⟩)),.func (.func 66) #[] #[],.func (.func 67) #[] #[]]] w fun e w' =>
  ∃ nb fp,e=.returned (.iface 546 (.agg #[.iface 215 (.pointer (some ⟨p,0,none⟩)),.func (.func 374) #[] #[.pointer (some ⟨nb,0,none⟩)],.func (.func 375) #[] #[.pointer (some ⟨nb,0,none⟩)]]))∧aOQ B p nb w' fp []∧F0 w w':=by
 have AZ:=aC hp;go_enter func373,ntmps373;go_wp2;go_ret
 refine ⟨w.heap.size,fun k=>k=p∨k=w.heap.size,rfl,⟨fun k=>k=p,⟨.slice none 0 0,(Below.heap_alloc _ _ _ AZ).trans hp,World.ownsRow_nil _ _ _ _,by simp[Value.ownBlock],fun k=>by simp[Value.ownBlock]⟩,⟨by rw[aB rfl];rfl,by rw[aB rfl];rfl⟩,fun k=>Iff.rfl,?_,by omega,by simp⟩,(Fr.refl _ w).alloc _⟩;rintro k (rfl|rfl)<;>omega
theorem aIr {conn:Value} {ps pw:Nat} {w:World} {fw:Nat→Prop} {n:Nat} {out:List UInt8} (h:eG conn ps pw w fw n out) (a:Option Addr) (c:Nat) (cs:List Cell) (Aa:w.ownsRow 0 2 1 (.slice a cs.length c) cs.length (cs.flatMap dR))
 (hd:∀ k,(Value.slice a cs.length c).ownBlock=some k→¬ fw k) (hs:∀ c∈cs,c.r0<18446744073709551616) (hl:out.length+(cs.flatMap (aG 8)).length≤1099511627776) :
 Calls Tryz.prog 369 #[.slice a cs.length c,.pointer (some ⟨pw,0,none⟩)] w fun e w'=>e=.returned (.tuple #[])∧Fr fw w w'∧∃ fw',eG conn ps pw w' fw' n (out++cs.flatMap (aG 8))∧Grow w fw fw':=by
 have GH:=aY _ 8 (aV 8 (by omega)) cs;have Gw:=h.chain (l:=cs.flatMap (aG 8)) (cb:=.func (.func 364) #[.slice a cs.length c] #[]) fun b fb bs hb CJ Gf=>bM.bound call364 (vK w b fb bs hb a c cs Aa (fun k hk e=>hd k hk (CJ k e)) hs (by omega))
 go_enter func369,ntmps369
 go_wp2_with (go_at_call 176;refine Gw.mono ?_;rintro e w1 ⟨rfl,h1,h2⟩)
 go_end0
 exact ⟨rfl,h1,h2⟩
theorem aFi (w:World) (r0:Nat):Calls Tryz.prog 67 #[.int .i64 (wrap64 r0)] w fun e w'=>e=.returned (.agg #[.int .u64 (r0 % 18446744073709551616:Nat),.int .u64 0,.int .u64 0,.int .u64 0])∧F0 w w':=by
 have hw:IntKind.u64.wrap (wrap64 r0)=((r0 % 18446744073709551616:Nat):Int):=by exact (zX _).trans (by omega)
 go_enter func67,ntmps67;go_wp2
 refine bodyPost_ret (by simp[results,results67,go_sem];try rfl) rfl ?_
 exact ⟨by rw[Int.natCast_emod];rfl,(Fr.refl _ w).alloc _⟩
theorem aOR (w:World) (a:Option Addr) (k c:Nat) (cs:List Cell) (hk:k<cs.length) (Aa:w.ownsRow 0 2 1 (.slice a cs.length c) cs.length (cs.flatMap dR)) :
 Calls Tryz.prog 366 #[.slice a cs.length c,.int .i64 k] w fun e w'=>e=.returned (.int .i64 (wrap64 cs[k].r0))∧F0 w w':=by
 rcases Aa.2 with ⟨hv,_⟩|⟨ga,capa,cura,hv,_⟩
 · simp only[Value.slice.injEq] at hv;omega
 · simp only[Value.slice.injEq] at hv
   obtain ⟨rfl,_,rfl⟩:=hv;have hx:=Aa.cells (g:=ga) rfl k _ (qW cs k hk);simp only[dR,List.head!] at hx;rw[Addr.add_lit,Nat.zero_add] at hx;have Gz:(k:Int)<cs.length:=by omega
   go_enter func366,ntmps366;go_wp2;go_ret
   exact ⟨rfl,Fr.refl _ _⟩
theorem aKX (w:World) (nb r0:Nat) (hf:w.cell? ⟨nb,2,none⟩=some (.func (.func 67) #[] #[])) :
 Calls Tryz.prog 375 #[.int .i64 (wrap64 r0),.pointer (some ⟨nb,0,none⟩)] w fun e w'=>e=.returned (.agg #[.int .u64 (r0 % 18446744073709551616:Nat),.int .u64 0,.int .u64 0,.int .u64 0,.string ⟨#[]⟩,.bool false,.slice none 0 0,.slice none 0 0])∧F0 w w':=by
 have Ey:∀ o,(w.alloc o).cell? ⟨nb,2,none⟩=some (.func (.func 67) #[] #[]):=fun o=>(World.cell?_alloc_lt w o _ (World.block_lt_of_cell? w _ hf)).trans hf
 go_enter func375,ntmps375
 go_wp2_with (go_at_call 67;refine (aFi _ r0).mono ?_;rintro e w1 ⟨rfl,Ad⟩;have hm:=Ad.made (n:=w.heap.size) rfl;obtain ⟨c0,c1,c2,c3,c4,c5,c6,c7⟩:=bD.eight (bD.of_block hm);have z0:=fzj 0 hm;have z1:=fzj 1 hm;have z2:=fzj 2 hm;have z3:=fzj 3 hm;have z4:=fzj 4 hm;have z5:=fzj 5 hm;have z6:=fzj 6 hm;have z7:=fzj 7 hm)
 refine bodyPost_ret (by simp[results,results375,go_sem,c0,c1,c2,c3,c4,c5,c6,c7];try rfl) rfl ?_
 have Ez:=((Fr.refl (fun _=>False) w).alloc (.cells #[.int .u64 0,.int .u64 0,.int .u64 0,.int .u64 0,.string ⟨#[]⟩,.bool false,.slice none 0 0,.slice none 0 0] 35)).trans Ad (fun _ _ h=>h);have hb:∀ i,(False∨w.heap.size≤(⟨w.heap.size,i,none⟩:Addr).block):=fun _=>.inr (Nat.le_refl _)
 exact ⟨by rw[Int.natCast_emod];rfl,(((((((Ez.setCell (hb 0) _).setCell (hb 1) _).setCell (hb 2) _).setCell (hb 3) _).setCell (hb 4) _).setCell (hb 5) _).setCell (hb 6) _).setCell (hb 7) _⟩
theorem aKU (a:Addr) (w:World) {b:Option Addr} {n c:Nat} (hv:w.cell? a=some (.slice b n c)):(method mdp 215 (.pointer (some a)) "Row").run Tryz.prog w=.ok (366,.slice b n c) w:=by
 obtain ⟨n,hn⟩:=fuel;rw[hn]
 exact aQ (n:=n+1) false (by kernel_rfl) (aU underlying215 (bI underlying217 hv))
theorem aDe (w:World) (p nb:Nat) (a:Option Addr) (k c:Nat) (cs:List Cell) (hk:k<cs.length) (hp:w.cell? ⟨p,0,none⟩=some (.slice a cs.length c)) (Aa:w.ownsRow 0 2 1 (.slice a cs.length c) cs.length (cs.flatMap dR))
 (hf:w.cell? ⟨nb,2,none⟩=some (.func (.func 67) #[] #[])) :
 Calls Tryz.prog 632 #[.agg #[.iface 215 (.pointer (some ⟨p,0,none⟩)),.func (.func 374) #[] #[.pointer (some ⟨nb,0,none⟩)],.func (.func 375) #[] #[.pointer (some ⟨nb,0,none⟩)]],.int .i64 k] w fun e w' =>
  e=.returned (.agg #[.int .u64 (cs[k].r0 % 18446744073709551616:Nat),.int .u64 0,.int .u64 0,.int .u64 0,.string ⟨#[]⟩,.bool false,.slice none 0 0,.slice none 0 0])∧F0 w w':=by
 have Ag:=fun W (Aw:F0 w W)=>aF.of1 (name:= "Row") (aKU ⟨p,0,none⟩ W.drew (Aw.drew.aA hp (fun h=>h))) call366 (aOR W.drew a k c cs hk (Aw.drew.owns Aa (fun _ _ h=>h)))
 generalize cs[k].r0=r0 at Ag ⊢;clear hp Aa hk;have Ag:=Lib.hid Ag;go_enter func632,ntmps632
 go_wp2_with fail
 generalize hW:(w.alloc _).alloc _=W;have Af:F0 w W:=by subst hW;exact ((Fr.refl _ w).alloc _).alloc _
 have d0:W.cell? ⟨w.heap.size,0,none⟩=some (.iface 215 (.pointer (some ⟨p,0,none⟩))):=by subst hW;rw[ca (by simp),aB rfl];rfl
 have d2:W.cell? ⟨w.heap.size,2,none⟩=some (.func (.func 375) #[] #[.pointer (some ⟨nb,0,none⟩)]):=by subst hW;rw[ca (by simp),aB rfl];rfl
 have Di:W.heap[w.heap.size+1]?=some (.cells #[.int .u64 0,.int .u64 0,.int .u64 0,.int .u64 0,.string ⟨#[]⟩,.bool false,.slice none 0 0,.slice none 0 0] 35 (0,0)):=by subst hW;exact Fr.made (Fr.refl _ _) (by simp)
 have Aw:=Af.aA hf (fun h=>h);clear hW
 go_region_law
  (first
   | (refine aK _ rfl ?_;refine bH _ _ _ _ _ rfl _ _ rfl (Ag.out W Af) rfl ?_;rintro e w1 ⟨rfl,BL⟩;have Ad:=BL.aH;have d2':=Ad.aA d2 (fun h=>h);refine ⟨_,rfl,?_⟩)
   | (refine aK _ rfl ?_;refine dI _ _ _ _ rfl _ _ rfl (bM.func1 call375 (aKX _ nb r0 (Ad.aA Aw (fun h=>h)))) rfl ?_;rintro e w2 ⟨rfl,Au⟩;have Ae:F0 W w2:=Ad.trans Au (fun _ _ h=>h);have AB:=(Ae.block _ (aC Di) (fun h=>h)).trans Di;obtain ⟨c0,c1,c2,c3,c4,c5,c6,c7⟩:=bD.eight (bD.of_block AB);have z0:=fzj 0 AB;have z1:=fzj 1 AB;have z2:=fzj 2 AB;have z3:=fzj 3 AB;have z4:=fzj 4 AB;have z5:=fzj 5 AB;have z6:=fzj 6 AB;have z7:=fzj 7 AB;refine ⟨_,rfl,?_⟩))
 all_goals (try simp only[Exit.then])
 all_goals
  refine (‹∀ (a:Act) (w:World),Code.wp _ Code.ret _ a w→_› _ _ ?_)
  refine wp_ret ?_
  show bodyPost _ _ _ _ _ _
  refine bodyPost_ret (by simp[results,results632,go_sem,c0,c1,c2,c3,c4,c5,c6,c7];try rfl) rfl ?_
  have hb:∀ i,(False∨w.heap.size≤(⟨w.heap.size+1,i,none⟩:Addr).block):=fun _=>.inr (Nat.le_succ _)
  exact ⟨by rw[Int.natCast_emod];rfl,(((((((((Af.trans Ae (fun _ _ h=>h)).setCell (hb 0) _).setCell (hb 1) _).setCell (hb 2) _).setCell (hb 3) _).setCell (hb 4) _).setCell (hb 5) _).setCell (hb 6) _).setCell (hb 7) _)⟩
abbrev aHm (p nb:Nat):Value:=.agg #[.iface 215 (.pointer (some ⟨p,0,none⟩)),.func (.func 374) #[] #[.pointer (some ⟨nb,0,none⟩)],.func (.func 375) #[] #[.pointer (some ⟨nb,0,none⟩)]]
theorem aIq (p nb:Nat) (w:World):(method mdp 546 (aHm p nb) "Row").run Tryz.prog w=.ok (632,aHm p nb) w:=by kernel_rfl
theorem aKV (p nb:Nat) (w:World) (v:Value) (hv:w.cell? ⟨p,0,none⟩=some v):(method mdp 546 (aHm p nb) "WriteColumn").run Tryz.prog w=.ok (369,v) w:=by
 obtain ⟨n,hn⟩:=fuel;rw[hn]
 refine (aX (n:=n+1) underlying546 rfl rfl (fun _=>by kernel_rfl) (by kernel_rfl) rfl).trans ?_
 exact aQ (n:=n) false (by kernel_rfl) (aU underlying215 (bI underlying217 hv))
theorem aIo (p nb:Nat):fU Tryz.prog 217 2 546 1 dR (.func (.func 67) #[] #[]) p nb (aHm p nb) (.num .i64) where
 write:=fun hp Aa hs CY hd hl hn=>(aF.of1 (aKV p nb _ _ hp) call369 (aIr CY _ _ _ Aa (fun k hk=>(hd k hk).1) (fun c hc=>(hs c hc).1) hl)).mono fun e w' ⟨h1,h2,fw',h3,h4⟩=>⟨h1,h2,fw',h3.more (Nat.le_add_right _ _),h4⟩
 row:=fun {w a c k cs} hk hp Aa hs hf=>(aF.of1 (aIq p nb w) call632 (aDe w p nb a k c cs hk hp Aa hf)).mono fun e w' ⟨h1,h2⟩=>⟨.mk (cs[k].r0 % 18446744073709551616) 0 0 0 ⟨#[]⟩ false [] [],iF (by omega),h1,h2,iO rfl (by decide) rfl⟩
end Go.Proofs.YtcidlnjpabgioaaGreatDoor
