import Derived.Deep.RegionLaw
import Derived.Test.YtcidlnjpabgioaaGreatDoorUGWa
set_option maxHeartbeats 1000000
set_option maxRecDepth 100000
namespace Go.Proofs.YtcidlnjpabgioaaGreatDoor
open Tryz List Go.RowKit
theorem aMG:ElT Tryz.prog 136 199 (.int .u16 0) 1 2:=⟨underlying136,info_parts (by kernel_rfl),rfl⟩
theorem aHA:ElT Tryz.prog 135 199 (.int .u16 0) 1 2:=⟨underlying135,info_parts (by kernel_rfl),rfl⟩
theorem aGx (w:World) (p:Nat) (n:Nat) (xs:List Value) (fp:Nat→Prop) (hc:aJ w p 136 199 1 n xs fp) (hn:n<2147483648) (x:Int) :
 Calls Tryz.prog 418 #[.pointer (some ⟨p,0,none⟩),.int .u16 x] w fun e w'=>e=.returned (.tuple #[])∧(∃ fp',aJ w' p 136 199 1 (n+1) (xs++[.int .u16 x]) fp'∧Grow w fp fp')∧Fr fp w w':=by
 obtain ⟨v,hp,Aa,Am,Aj⟩:=hc;obtain ⟨Ac,BH⟩:=aJ.cell hp;obtain ⟨a0,c0,rfl⟩:=ownsRow_shape Aa;have AZ:=aC hp
 have Be:Src Tryz.prog 1 136 (.slice (some ⟨w.heap.size,0,none⟩) 1 1) 1 [.int .u16 x] (w.alloc (.cells [.int .u16 x].toArray 199)) :=
  Src.ofSlice _ underlying136 _ _ _ _ rfl (bG _ _ _) (by simp[Value.oneCell'])
 go_enter func418,ntmps418
 go_wp2_with ((with_reducible show wpList _ _ _ (⟨some 10,_,_,_,_,_⟩ :: _) _ _);(refine aP _ rfl aMG _ _ rfl _ _ _ rfl (Aa.alloc _) _ _ _ rfl Be ?_ ?_ ?_);(unfold maxLen;omega);omega;intro v' w1 ha;obtain ⟨a',c',rfl⟩:=ha.shape;have Cj:w1.cell? ⟨p,0,none⟩=some (.slice a0 n c0):=ha.2.1.cell (by simpa using (World.cell?_alloc_lt w _ _ AZ).trans Ac) (fun h=>Am h.symm);have Ad:w1.frozen? ⟨p,0,none⟩=false:=(World.frozen?_of_block (ha.2.1.block p (by simp;omega) (fun h=>Am h.symm))).trans (by rw[World.frozen?_alloc_old _ _ _ (by simp;omega)];exact BH))
 go_end0
 exact ⟨rfl,aJ.appended hp Aa Am Aj ((Fr.refl _ w).alloc _) ha⟩
theorem aAH (w:World) (p:Nat) (n:Nat) (xs:List Value) (fp:Nat→Prop) (hc:aJ w p 136 199 1 n xs fp) (m:Nat) (sv:Value) (news:List Value) (Be:Src Tryz.prog 1 135 sv m news w) (hn:n+m≤2147483648) :
 Calls Tryz.prog 419 #[.pointer (some ⟨p,0,none⟩),sv] w fun e w'=>e=.returned (.tuple #[])∧(∃ fp',aJ w' p 136 199 1 (n+m) (xs++news) fp'∧Grow w fp fp')∧Fr fp w w':=by
 obtain ⟨v,hp,Aa,Am,Aj⟩:=hc;obtain ⟨Ac,BH⟩:=aJ.cell hp;obtain ⟨a0,c0,rfl⟩:=ownsRow_shape Aa;go_enter func419,ntmps419
 go_wp2_with ((with_reducible show wpList _ _ _ (⟨some 9,_,_,_,_,_⟩ :: _) _ _);(refine aP _ rfl aMG _ _ rfl _ _ _ rfl Aa _ _ _ rfl Be ?_ ?_ ?_);(unfold maxLen;omega);omega;intro v' w1 ha;obtain ⟨a',c',rfl⟩:=ha.shape;have Cj:w1.cell? ⟨p,0,none⟩=some (.slice a0 n c0):=ha.2.1.cell Ac (fun h=>Am h.symm);have Ad:w1.frozen? ⟨p,0,none⟩=false:=(World.frozen?_of_block (ha.2.1.block p (aC hp) (fun h=>Am h.symm))).trans BH)
 go_end0
 exact ⟨rfl,aJ.appended hp Aa Am Aj (Fr.refl _ w) ha⟩
theorem aOl (w:World) (r0 r1 r2 r3:Nat) (_h0:r0<18446744073709551616):Calls Tryz.prog 77 #[.agg #[.int .u64 r0,.int .u64 r1,.int .u64 r2,.int .u64 r3]] w fun e w'=>e=.returned (.int .u16 (IntKind.u16.wrap r0))∧F0 w w':=by
 go_enter func77,ntmps77;go_wp2;go_ret
 exact ⟨rfl,(Fr.refl _ w).alloc _⟩
theorem u16_in (w:World) (nb:Nat) (r0 r1 r2 r3:Nat) (h0:r0<18446744073709551616) (s:ByteArray) (null:Bool) (iv kv:Value) (hf:w.cell? ⟨nb,1,none⟩=some (.func (.func 77) #[] #[])) :
 Calls Tryz.prog 426 #[.agg #[.int .u64 r0,.int .u64 r1,.int .u64 r2,.int .u64 r3,.string s,.bool null,iv,kv],.pointer (some ⟨nb,0,none⟩)] w fun e w'=>e=.returned (.int .u16 (IntKind.u16.wrap r0))∧F0 w w':=by
 have Ey:∀ o,(w.alloc o).cell? ⟨nb,1,none⟩=some (.func (.func 77) #[] #[]):=fun o=>(World.cell?_alloc_lt w o _ (World.block_lt_of_cell? w _ hf)).trans hf
 have Ed:=aOl (w.alloc (.cells #[.int .u64 r0,.int .u64 r1,.int .u64 r2,.int .u64 r3,.string s,.bool null,iv,kv] 35)) r0 r1 r2 r3 h0;go_enter func426,ntmps426
 go_wp2_with (go_at_call 77;refine Ed.mono ?_;rintro e w' ⟨rfl,Ak⟩)
 go_ret
 exact ⟨rfl,((Fr.refl _ w).alloc _).trans Ak (fun _ _ h=>h)⟩
theorem aCv (a:Addr) (w:World):(method mdp 256 (.pointer (some a)) "Append").run Tryz.prog w=.ok (418,.pointer (some a)) w:=by kernel_rfl
theorem wV (a:Addr) (w:World):(method mdp 256 (.pointer (some a)) "AppendArr").run Tryz.prog w=.ok (419,.pointer (some a)) w:=by kernel_rfl
theorem zM (w:World) (p nb:Nat) (n:Nat) (xs:List Value) (fp:Nat→Prop) (hc:aJ w p 136 199 1 n xs fp) (hn:n<2147483648) (hf:w.cell? ⟨nb,1,none⟩=some (.func (.func 77) #[] #[]))
 (r0 r1 r2 r3:Nat) (h0:r0<18446744073709551616) (s:ByteArray) (null:Bool) (iv kv:Value) :
 Calls Tryz.prog 646 #[.agg #[.iface 256 (.pointer (some ⟨p,0,none⟩)),.func (.func 426) #[] #[.pointer (some ⟨nb,0,none⟩)],.func (.func 427) #[] #[.pointer (some ⟨nb,0,none⟩)]],.agg #[.int .u64 r0,.int .u64 r1,.int .u64 r2,.int .u64 r3,.string s,.bool null,iv,kv]] w fun e w' =>
  e=.returned (.tuple #[])∧(∃ fp',aJ w' p 136 199 1 (n+1) (xs++[.int .u16 (IntKind.u16.wrap r0)]) fp'∧Grow w fp fp')∧Fr fp w w':=by
 go_enter func646,ntmps646
 go_wp2_with fail
 generalize hW:(w.alloc _).alloc _=W;have Af:F0 w W:=by subst hW;exact ((Fr.refl _ w).alloc _).alloc _
 have d0:W.cell? ⟨w.heap.size,0,none⟩=some (.iface 256 (.pointer (some ⟨p,0,none⟩))):=by subst hW;rw[ca (by simp),aB rfl];rfl
 have d1:W.cell? ⟨w.heap.size,1,none⟩=some (.func (.func 426) #[] #[.pointer (some ⟨nb,0,none⟩)]):=by subst hW;rw[ca (by simp),aB rfl];rfl
 have e0:W.cell? ⟨w.heap.size+1,0,none⟩=some (.int .u64 r0):=by subst hW;rw[aB (by simp)];rfl
 have e1:W.cell? ⟨w.heap.size+1,1,none⟩=some (.int .u64 r1):=by subst hW;rw[aB (by simp)];rfl
 have e2:W.cell? ⟨w.heap.size+1,2,none⟩=some (.int .u64 r2):=by subst hW;rw[aB (by simp)];rfl
 have e3:W.cell? ⟨w.heap.size+1,3,none⟩=some (.int .u64 r3):=by subst hW;rw[aB (by simp)];rfl
 have e4:W.cell? ⟨w.heap.size+1,4,none⟩=some (.string s):=by subst hW;rw[aB (by simp)];rfl
 have e5:W.cell? ⟨w.heap.size+1,5,none⟩=some (.bool null):=by subst hW;rw[aB (by simp)];rfl
 have e6:W.cell? ⟨w.heap.size+1,6,none⟩=some iv:=by subst hW;rw[aB (by simp)];rfl
 have e7:W.cell? ⟨w.heap.size+1,7,none⟩=some kv:=by subst hW;rw[aB (by simp)];rfl
 have BA:aJ W p 136 199 1 n xs fp:=hc.aW fun k hk=>Af.block k (hc.lt k hk) (fun h=>h)
 have Aw:W.cell? ⟨nb,1,none⟩=some (.func (.func 77) #[] #[]):=Af.aA hf (fun h=>h);have hN:¬ fp w.heap.size:=fun h=>by have:=hc.lt _ h;omega
 have AU:¬ fp (w.heap.size+1):=fun h=>by have:=hc.lt _ h;omega
 clear hW
 go_region_held3 (fun w'=>w'.cell? ⟨w.heap.size,0,none⟩=some (.iface 256 (.pointer (some ⟨p,0,none⟩)))∧w'.cell? ⟨w.heap.size,1,none⟩=some (.func (.func 426) #[] #[.pointer (some ⟨nb,0,none⟩)]) ∧
  w'.cell? ⟨w.heap.size+1,0,none⟩=some (.int .u64 r0)∧w'.cell? ⟨w.heap.size+1,1,none⟩=some (.int .u64 r1)∧w'.cell? ⟨w.heap.size+1,2,none⟩=some (.int .u64 r2)∧w'.cell? ⟨w.heap.size+1,3,none⟩=some (.int .u64 r3) ∧
  w'.cell? ⟨w.heap.size+1,4,none⟩=some (.string s)∧w'.cell? ⟨w.heap.size+1,5,none⟩=some (.bool null)∧w'.cell? ⟨w.heap.size+1,6,none⟩=some iv∧w'.cell? ⟨w.heap.size+1,7,none⟩=some kv)
  (first
   | exact ⟨d0,d1,e0,e1,e2,e3,e4,e5,e6,e7⟩
   | exact ⟨Ae.aA d0 hN,Ae.aA d1 hN,Ae.aA e0 AU,Ae.aA e1 AU,Ae.aA e2 AU,Ae.aA e3 AU,Ae.aA e4 AU,Ae.aA e5 AU,Ae.aA e6 AU,Ae.aA e7 AU⟩
   | exact ⟨Ad.aA d0 (fun h=>h),Ad.aA d1 (fun h=>h),Ad.aA e0 (fun h=>h),Ad.aA e1 (fun h=>h),Ad.aA e2 (fun h=>h),Ad.aA e3 (fun h=>h),Ad.aA e4 (fun h=>h),Ad.aA e5 (fun h=>h),Ad.aA e6 (fun h=>h),Ad.aA e7 (fun h=>h)⟩
   | assumption)
  (first
   | (refine aK _ rfl ?_;refine dI _ _ _ _ rfl _ _ rfl (bM.func1 call426 (u16_in _ nb r0 r1 r2 r3 h0 s null iv kv Aw)) rfl ?_;rintro e w1 ⟨rfl,Ad⟩;refine ⟨_,rfl,?_⟩)
   | (refine aK _ rfl ?_;refine bH _ _ _ _ _ rfl _ _ rfl (aF.of1 (aCv _ _) call418 (aGx _ p n xs fp (BA.aW fun k hk=>Ad.block k (BA.lt k hk) (fun h=>h)) hn (IntKind.u16.wrap r0))) rfl ?_;rintro e w2 ⟨rfl,Aq,Au⟩;have Ae:Fr fp W w2:=(Ad.aH.mono (fun _ _ h=>h.elim)).trans Au (fun _ _ h=>h);refine ⟨_,rfl,?_⟩))
 all_goals
  go_end0
  refine ⟨rfl,?_,(Af.mono (fun _ _ h=>h.elim)).trans Ae (fun _ _ h=>h)⟩;obtain ⟨fp',h1,h2⟩:=Aq
  exact ⟨fp',h1,fun k hk=>(h2 k hk).imp id (fun h=>Nat.le_trans (Nat.le_trans Af.size Ad.size) h)⟩
def dC (c:Cell):List Value:=[.int .u16 (IntKind.u16.wrap c.r0)]
theorem aGC (w:World) (B nb:Nat) (Bd:B≤w.heap.size) (hf:w.cell? ⟨nb,1,none⟩=some (.func (.func 77) #[] #[])) (cs:List Cell) (v:Value) (xs:List Value) (hs:Sl B w 8 v cs.length xs) (hc:aI B w cs xs) (hn:cs.length≤2147483648) :
 Calls Tryz.prog 649 #[v,.func (.func 426) #[] #[.pointer (some ⟨nb,0,none⟩)]] w fun e w'=>∃ tv,e=.returned tv∧w'.ownsRow 0 199 1 tv cs.length (cs.flatMap dC)∧F0 w w':=by
 have CB:=hs;obtain ⟨Dy,ao,cap,rfl,BF,AP,h0,ha⟩:=hs;unfold maxLen at AP;clear ha h0 Dy;go_enter func649,ntmps649;go_wp2
 go_loopw [5,10] (fun tv i wr=>∃ k:Nat,k≤cs.length∧i=.int .i64 k∧wr.ownsRow 0 199 1 tv k ((cs.take k).flatMap dC)∧(∀ q,tv.ownBlock=some q→w.heap.size≤q)∧F0 w wr) (fun _ i _=>cs.length - (intOf i).toNat)
 case atStart=>exact ⟨0,Nat.zero_le _,rfl,World.ownsRow_nil _ _ _ _,by simp[Value.ownBlock],Fr.refl _ _⟩
 case round =>
  obtain ⟨k,hk,rfl,Aa,Ai,Ak⟩:=hrel;have Bf:Below B w wr:=Ak.below Bd (fun _ _ h=>h);obtain ⟨a0,c0,rfl⟩:=ownsRow_shape Aa
  by_cases Ar:k<cs.length
  · obtain ⟨b,off,cap',hv,FT,vs,AQ,Ac⟩:=(CB.below Bf).row (aI.below Bf _ _ hc) Ar
    have Ah:=Lib.hid (bQ dC cs k Ar);generalize cs[k]=c at AQ Ah;obtain ⟨ia,il,ic,ka,kl,kc,rfl,h0,h1,h2,h3,h4⟩:=AQ.open;simp only[Value.slice.injEq] at hv;obtain ⟨rfl,_,rfl⟩:=hv;have d0:=Ac 0 _ rfl;have d1:=Ac 1 _ rfl;have d2:=Ac 2 _ rfl;have d3:=Ac 3 _ rfl;have d4:=Ac 4 _ rfl;have d5:=Ac 5 _ rfl;have d6:=Ac 6 _ rfl;have d7:=Ac 7 _ rfl;simp only[Nat.add_zero] at d0;have BM:F0 w (wr.alloc (.cells #[.int .u64 c.r0,.int .u64 c.r1,.int .u64 c.r2,.int .u64 c.r3,.string c.s,.bool c.null,.slice ia il ic,.slice ka kl kc] 35)):=Ak.alloc _;have EN:=u16_in _ nb c.r0 c.r1 c.r2 c.r3 h0 c.s c.null (.slice ia il ic) (.slice ka kl kc) (BM.aA hf (fun h=>h));clear Ac AQ CB hc
    go_wp2_with (first|((with_reducible show wpList _ _ _ (⟨some 17,_,_,_,_,_⟩ :: _) _ _);refine dG _ rfl _ _ _ rfl _ _ rfl (bM.func1 call426 EN) rfl ?_;rintro e w1 ⟨rfl,Ad⟩;refine ⟨_,rfl,?_⟩;have Bv:F0 w w1:=BM.trans Ad (fun _ _ h=>h);have Ba:=Ad.owns ((Fr.refl (fun _=>False) wr).alloc _ |>.owns Aa (fun _ _ h=>h)) (fun _ _ h=>h))|((with_reducible show wpList _ _ _ (⟨some 19,_,_,_,_,_⟩ :: _) _ _);refine aP _ rfl aHA _ _ rfl _ _ _ rfl (Ba.alloc _) _ _ _ rfl (Src.ofSlice _ underlying135 _ _ _ _ rfl (bG _ [.int .u16 (IntKind.u16.wrap c.r0)] _) (by simp[Value.oneCell'])) ?_ ?_ ?_;(unfold maxLen;omega);omega;intro v' w2 ha;obtain ⟨a',c',rfl⟩:=ha.shape))
    go_roundw
    case rel=>exact ⟨k+1,by omega,by go_num,by rw[Ah.out];exact ha.1,(ha.since (Bv.alloc _) Ai).1,(ha.since (Bv.alloc _) Ai).2⟩
    case measure=>simp[intOf];omega
  · have Bl:k=cs.length:=by omega
    subst Bl;rw[take_length] at Aa;go_wp2;go_ret
    exact ⟨_,rfl,Aa,Ak⟩
theorem aAI (cs:List Cell):∀ u∈cs.flatMap dC,u.oneCell'=true:=by
 intro u hu;obtain ⟨c,_,hc⟩:=mem_flatMap.1 hu;simp only[dC,mem_cons,not_mem_nil,or_false] at hc;subst hc;rfl
theorem sQ (w:World) (B p nb:Nat) (Bd:B≤w.heap.size) (n:Nat) (xs:List Value) (fp:Nat→Prop) (hc:aJ w p 136 199 1 n xs fp) (hf:w.cell? ⟨nb,1,none⟩=some (.func (.func 77) #[] #[]))
 (cs:List Cell) (v:Value) (ys:List Value) (hs:Sl B w 8 v cs.length ys) (A8:aI B w cs ys) (hn:n+cs.length≤2147483648) :
 Calls Tryz.prog 647 #[.agg #[.iface 256 (.pointer (some ⟨p,0,none⟩)),.func (.func 426) #[] #[.pointer (some ⟨nb,0,none⟩)],.func (.func 427) #[] #[.pointer (some ⟨nb,0,none⟩)]],v] w fun e w' =>
  e=.returned (.tuple #[])∧(∃ fp',aJ w' p 136 199 1 (n+cs.length) (xs++cs.flatMap dC) fp'∧Grow w fp fp')∧Fr fp w w':=by
 go_enter func647,ntmps647
 go_wp2_with fail
 generalize hW:w.alloc _=W;have Af:F0 w W:=by subst hW;exact (Fr.refl _ w).alloc _
 have d0:W.cell? ⟨w.heap.size,0,none⟩=some (.iface 256 (.pointer (some ⟨p,0,none⟩))):=by subst hW;rw[aB rfl];rfl
 have d1:W.cell? ⟨w.heap.size,1,none⟩=some (.func (.func 426) #[] #[.pointer (some ⟨nb,0,none⟩)]):=by subst hW;rw[aB rfl];rfl
 have BA:aJ W p 136 199 1 n xs fp:=hc.aW fun k hk=>Af.block k (hc.lt k hk) (fun h=>h)
 have Aw:W.cell? ⟨nb,1,none⟩=some (.func (.func 77) #[] #[]):=Af.aA hf (fun h=>h);have hN:¬ fp w.heap.size:=fun h=>by have:=hc.lt _ h;omega
 have D6:=hs.fr Bd Af;have Cf:=aI.below (Af.below Bd (fun _ _ h=>h)) _ _ A8;have CZ:B≤W.heap.size:=Nat.le_trans Bd Af.size;have EX:=D6.fr CZ (Fr.refl (fun _=>False) W).drew;have Ce:=aI.below ((Below.refl B W).drew) _ _ Cf;clear hW hs A8
 go_region_held3 (fun w'=>w'.cell? ⟨w.heap.size,0,none⟩=some (.iface 256 (.pointer (some ⟨p,0,none⟩)))∧w'.cell? ⟨w.heap.size,1,none⟩=some (.func (.func 426) #[] #[.pointer (some ⟨nb,0,none⟩)]))
  (first
   | exact ⟨d0,d1⟩
   | exact ⟨Ae.aA d0 hN,Ae.aA d1 hN⟩
   | exact ⟨Ad.aA d0 (fun h=>h),Ad.aA d1 (fun h=>h)⟩
   | assumption)
  (first
   | (go_at_call 649;refine (aGC W.drew B nb CZ Aw cs v ys EX Ce (by omega)).mono ?_;rintro e w1 ⟨tv,rfl,Aa,Ad⟩)
   | (refine aK _ rfl ?_;refine bH _ _ _ _ _ rfl _ _ rfl (aF.of1 (wV _ _) call419 (aAH _ p n xs fp (BA.aW fun k hk=>Ad.block k (BA.lt k hk) (fun h=>h)) _ _ _ (Src.kC underlying135 Aa (aAI cs)) hn)) rfl ?_;rintro e w2 ⟨rfl,Aq,Au⟩;have Ae:Fr fp W w2:=(Ad.aH.mono (fun _ _ h=>h.elim)).trans Au (fun _ _ h=>h);refine ⟨_,rfl,?_⟩))
 all_goals
  go_end0
  refine ⟨rfl,?_,(Af.mono (fun _ _ h=>h.elim)).trans Ae (fun _ _ h=>h)⟩;obtain ⟨fp',h1,h2⟩:=Aq
  exact ⟨fp',h1,fun k hk=>(h2 k hk).imp id (fun h=>Nat.le_trans (Nat.le_trans Af.size Ad.size) h)⟩
theorem aMN (w:World) (a:Option Addr) (n c:Nat):Calls Tryz.prog 282 #[.slice a n c] w fun e w'=>e=.returned (.int .i64 n)∧F0 w w':=by
 go_enter func282,ntmps282;go_wp2;go_ret
 exact ⟨rfl,Fr.refl _ _⟩
theorem sO (cs:List Cell) (k:Nat) (h:k<cs.length):(cs.flatMap dC)[k]?=some (dC cs[k]).head!:=by
 have:∀ cs:List Cell,cs.flatMap dC=cs.map fun c=>(dC c).head!:=fun cs=>by induction cs with|nil=>rfl|cons c cs ih=>rw[flatMap_cons,map_cons,ih];rfl
 rw[this,getElem?_map,getElem?_eq_getElem h]
 rfl
theorem nN (w:World) (b:Nat) (fb:Nat→Prop) (bs:List UInt8) (hb:Buf w b fb bs) (a:Option Addr) (c:Nat) (cs:List Cell) (Aa:w.ownsRow 0 199 1 (.slice a cs.length c) cs.length (cs.flatMap dC))
 (hd:∀ k,(Value.slice a cs.length c).ownBlock=some k→¬ fb k) (hc:∀ c∈cs,c.r0<18446744073709551616) (hl:bs.length+2*cs.length≤1099511627776) :
 Calls Tryz.prog 219 #[.slice a cs.length c,.pointer (some ⟨b,0,none⟩)] w fun e w'=>e=.returned (.tuple #[])∧Fr fb w w'∧∃ fb',Buf w' b fb' (bs++cs.flatMap (aG 2))∧Grow w fb fb'∧Kept w w' b bs.length:=by
 by_cases h0:cs.length=0
 · have A8:cs=[]:=eq_nil_of_length_eq_zero (by omega)
   subst A8;go_enter func219,ntmps219;go_wp2
   try simp only[Exit.inBlock,Exit.then]
   refine bodyPost_ret (results_none rfl _ _ _) rfl ?_
   exact ⟨rfl,Fr.refl _ _,fb,by simpa using hb,fun k hk=>.inl hk,Kept.refl _ _ _⟩
 · have Ei:=hb
   obtain ⟨v,hp,Bh,Am,Aj⟩:=Ei;obtain ⟨Ac,BH⟩:=aJ.cell hp;obtain ⟨a0,c0,rfl⟩:=ownsRow_shape Bh;have AZ:=aC hp;have AP:cs.length≤9223372036854775807:=by omega
   go_enter func219,ntmps219
   go_wp2_with ((with_reducible show wpList _ _ _ (⟨some 25,_,_,_,_,_⟩ :: _) _ _);(refine dB _ rfl gY underlying3 _ _ rfl _ _ _ rfl Bh _ (2*cs.length) rfl ?_ ?_ ?_ ?_);go_num;omega;omega;intro v' w1 ha;obtain ⟨a',c',rfl⟩:=ha.shape;have Cj:w1.cell? ⟨b,0,none⟩=some (.slice a0 bs.length c0):=ha.2.1.cell Ac (fun h=>Am h.symm);have Ad:w1.frozen? ⟨b,0,none⟩=false:=(World.frozen?_of_block (ha.2.1.block b AZ (fun h=>Am h.symm))).trans BH)
   obtain ⟨⟨fb',Aq,AX⟩,Ak⟩:=aJ.appended hp Bh Am Aj (Fr.refl _ w) ha;have D5:=Kept.appended hp Bh Am (Fr.refl _ w) ha;generalize w1.setCell ⟨b,0,none⟩ (Value.slice a' (bs.length+2*cs.length) c')=W at Aq Ak D5 ⊢;obtain ⟨g,cap,hot,BC⟩:=Hot.of Aq (by omega);have Bi:=Ak.owns Aa hd
   have DF:∀ k,(Value.slice a cs.length c).ownBlock=some k→k≠b∧k≠g:=fun k hk=>⟨fun e=>hd k hk ((Aj k).2 (.inl e)),fun e=>by
    subst e;rcases AX k ((BC k).2 (.inr rfl)) with h|h
    · exact hd k hk h
    · have:=aO Aa hk;omega⟩
   have hS:∀ k,k<w.heap.size→(k=b∨k=g)→fb k:=fun k hk hh=>(AX k ((BC k).2 hh)).resolve_right (by omega)
   have Ie:=Lib.hid hp;have DV:=Lib.hid Bh;have DU:=Lib.hid Am;have DR:=Lib.hid D5;clear ha Aq hp Bh Ac BH Cj Ad Am hb D5
   go_loopw [5,7,30] (fun off _ i wr=>∃ k:Nat,k≤cs.length∧i=.int .i64 k∧off=.int .i64 (bs.length+2*k:Nat)∧Hot wr b g (bs.length+2*cs.length) cap (aN (bs++(cs.take k).flatMap (aG 2))++List.replicate (2*(cs.length - k)) (.int .u8 0))∧Fr (fun k=>k=b∨k=g) W wr) (fun _ _ i _=>cs.length - (intOf i).toNat)
   case atStart=>exact ⟨0,Nat.zero_le _,rfl,by simp,by simpa using hot,Fr.refl _ _⟩
   case round =>
    obtain ⟨k,hk,rfl,rfl,A7,AY⟩:=hrel
    by_cases Ar:k<cs.length
    · have Ap:=AY.owns Bi (fun k hk h=>by have:=DF k hk;omega)
      rcases Ap.2 with ⟨hv,_⟩|⟨ga,capa,cura,hv,_⟩
      · simp only[Value.slice.injEq] at hv;omega
      · simp only[Value.slice.injEq] at hv
        obtain ⟨rfl,_,rfl⟩:=hv;have hx:=Ap.cells (g:=ga) rfl k _ (sO cs k Ar);have Dp:=hc cs[k] (getElem_mem _);have Ah:=bQ (aG 2) cs k Ar;generalize cs[k]=cc at hx Dp Ah;simp only[dC,List.head!] at hx;rw[Addr.add_lit,Nat.zero_add] at hx;have H5:=A7.cell;have H9:=A7.row;obtain ⟨_,_,_,Lr,Cm⟩:=H9;unfold maxLen at Cm;have AO:=aBk g (bs.length+2*k) 2 (cap - (bs.length+2*k)) (cc.r0 % 65536) (by omega) wr.drew (by omega) (A7.drew.there (by omega)) A7.drew.cold;have AA:(bs++(cs.take k).flatMap (aG 2)).length=bs.length+2*k:=by rw[length_append,aY _ 2 (aV 2 (by omega)),length_take];congr 2;omega
        have Bz:=(A7.drew.alloc (.cells #[] 454)).put (A:=aN (bs++(cs.take k).flatMap (aG 2))) (olds:=List.replicate 2 (.int .u8 0)) (C:=List.replicate (2*(cs.length - (k+1))) (.int .u8 0)) (by rw[append_assoc,replicate_append_replicate];congr 2;omega) (aN (Lib.leBytes 2 (cc.r0 % 65536))) (by simp[aZ,Lib.leBytes_length]) (o:=bs.length+2*k) (by rw[aZ,AA]);have Gs:Lib.leBytes 2 (cc.r0 % 65536)=aG 2 cc:=by rw[dO 2 (by omega)];exact iK 2 cc.r0
        rw[Gs,← bC,append_assoc,← Ah] at Bz;rw[Gs] at AO;have Dx:Fr (fun k=>k=b∨k=g) W ((wr.drew.alloc (.cells #[] 454)).setCells g (bs.length+2*k) (aN (aG 2 cc))):=Fr.setCells (.inl (.inr rfl)) _ _ _ (AY.drew.alloc _);have Dw:=Bz.cell;generalize KA:(wr.drew.alloc (.cells #[] 454)).setCells g (bs.length+2*k) (aN (aG 2 cc))=Wn at AO Bz Dx Dw;clear KA;have ho:bs.length+2*k+2≤cap:=by omega
        generalize DK:bs.length+2*k=o at ho AO ⊢;rw[Int.natCast_emod] at AO;have s0:(0:Int)≤↑o:=by omega
        have s1:IntKind.i64.wrap ((o:Int)+2)=(o:Int)+2:=by rw[IntKind.wrap_i64];omega
        have s2:(o:Int)≤(o:Int)+2:=by omega
        have s3:(o:Int)+2≤(cap:Int):=by omega
        have s4:(0:Int)≤(o:Int)+2:=by omega
        have s5:¬ cap=o:=by omega
        have s6:((o:Int)+2).toNat - o=2:=by omega
        have s7:(IntKind.u16.wrap ↑cc.r0)=(cc.r0:Int) % 65536:=by rw[IntKind.wrap_u16]
        go_wp2
        go_region_held3 (fun w'=>w'.cell? ⟨b,0,none⟩=some (.slice (some ⟨g,0,none⟩) (bs.length+2*cs.length) cap))
         (first
          | exact H5
          | exact Dw
          | assumption)
         (first
          | (go_at_call 232;refine AO.mono ?_;rintro e w1 ⟨rfl,rfl⟩))
        all_goals
         go_wp2;go_roundw
         case rel=>exact ⟨k+1,by omega,by go_num,by subst DK;go_num,Bz,Dx⟩
         case measure=>simp[intOf];omega
    · have Bl:k=cs.length:=by omega
      subst Bl;go_wp2;go_end0;rw[take_length,Nat.sub_self,Nat.mul_zero,replicate_zero,append_nil] at A7;have CO:=fun CJ=>Hot.buf (bs:=bs++cs.flatMap (aG 2)) (cap:=cap) (N:=bs.length+2*cs.length) A7 (fb:=fun k=>k=b∨k=g) CJ
      have C9:=Kept.hot (l:=aN (cs.flatMap (aG 2))) Ie.out DV.out DU.out DR.out AY (by rw[← bC];exact A7)
      exact ⟨rfl,Ak.trans AY hS,_,CO (fun k=>Iff.rfl),fun k hk=>AX k ((BC k).2 hk),C9⟩
theorem aGz (w:World) (b:Nat) (fb:Nat→Prop) (bs:List UInt8) (hb:Buf w b fb bs) (a:Option Addr) (c:Nat) (cs:List Cell) (Aa:w.ownsRow 0 199 1 (.slice a cs.length c) cs.length (cs.flatMap dC))
 (hd:∀ k,(Value.slice a cs.length c).ownBlock=some k→¬ fb k) (hc:∀ c∈cs,c.r0<18446744073709551616) (hl:bs.length+2*cs.length≤1099511627776) :
 Calls Tryz.prog 219 #[.slice a cs.length c,.pointer (some ⟨b,0,none⟩)] w fun e w'=>e=.returned (.tuple #[])∧Fr fb w w'∧∃ fb',Buf w' b fb' (bs++cs.flatMap (aG 2))∧Grow w fb fb' :=
 (nN w b fb bs hb a c cs Aa hd hc hl).mono fun _ _ ⟨h1,h2,fb',h3,h4,_⟩=>⟨h1,h2,fb',h3,h4⟩
def aPj:Nat→Nat→Nat→World→(Nat→Prop)→List Cell→Prop:=gZ 136 199 1 dC (.func (.func 77) #[] #[]) (.func (.func 78) #[] #[])
theorem aBs (p nb:Nat) (w:World) (name:String) (f:FuncId) (h:(name,f)=("Append",646)∨(name,f)=("AppendArr",647)):(method mdp 572 (.agg #[.iface 256 (.pointer (some ⟨p,0,none⟩)),.func (.func 426) #[] #[.pointer (some ⟨nb,0,none⟩)],.func (.func 427) #[] #[.pointer (some ⟨nb,0,none⟩)]]) name).run Tryz.prog w=.ok (f,.agg #[.iface 256 (.pointer (some ⟨p,0,none⟩)),.func (.func 426) #[] #[.pointer (some ⟨nb,0,none⟩)],.func (.func 427) #[] #[.pointer (some ⟨nb,0,none⟩)]]) w:=by
 rcases h with h|h<;>(simp only[Prod.mk.injEq] at h;obtain ⟨rfl,rfl⟩:=h;kernel_rfl)
theorem aGA (p nb:Nat) (w:World) (v:Value) (hv:w.cell? ⟨p,0,none⟩=some v):(method mdp 572 (.agg #[.iface 256 (.pointer (some ⟨p,0,none⟩)),.func (.func 426) #[] #[.pointer (some ⟨nb,0,none⟩)],.func (.func 427) #[] #[.pointer (some ⟨nb,0,none⟩)]]) "Rows").run Tryz.prog w=.ok (282,v) w:=by
 obtain ⟨n,hn⟩:=fuel;rw[hn]
 refine (aX (n:=n+1) underlying572 rfl rfl (fun _=>by kernel_rfl) (by kernel_rfl) rfl).trans ?_
 exact aQ (n:=n) false (by kernel_rfl) (aU underlying256 (bI underlying136 hv))
theorem aJC (p nb:Nat) (w:World) (v:Value) (hv:w.cell? ⟨p,0,none⟩=some v):(method mdp 572 (.agg #[.iface 256 (.pointer (some ⟨p,0,none⟩)),.func (.func 426) #[] #[.pointer (some ⟨nb,0,none⟩)],.func (.func 427) #[] #[.pointer (some ⟨nb,0,none⟩)]]) "EncodeColumn").run Tryz.prog w=.ok (219,v) w:=by
 obtain ⟨n,hn⟩:=fuel;rw[hn]
 refine (aX (n:=n+1) underlying572 rfl rfl (fun _=>by kernel_rfl) (by kernel_rfl) rfl).trans ?_
 exact aQ (n:=n) false (by kernel_rfl) (aU underlying256 (bI underlying136 hv))
theorem aMI (p nb:Nat):iI Tryz.prog 136 199 572 1 dC (.func (.func 77) #[] #[]) p nb (.agg #[.iface 256 (.pointer (some ⟨p,0,none⟩)),.func (.func 426) #[] #[.pointer (some ⟨nb,0,none⟩)],.func (.func 427) #[] #[.pointer (some ⟨nb,0,none⟩)]]) (.num .u16) where
 append:=fun w n xs fp hc hn hf c iv kv hs=>aF.of1 (aBs p nb w _ _ (.inl rfl)) call646 (zM w p nb n xs fp hc hn hf c.r0 c.r1 c.r2 c.r3 hs.1 c.s c.null iv kv)
 appendArr:=fun w B n xs fp hB hc hf cs v ys hs A8 hn=>aF.of1 (aBs p nb w _ _ (.inr rfl)) call647 (sQ w B p nb hB n xs fp hc hf cs v ys hs A8 hn)
 rows:=fun w a n c hp=>aF.of0 (aGA p nb w _ hp) call282 (aMN w a n c)
 flat:=by rintro w name (rfl|rfl|rfl) n m<;>exact fC underlying572 rfl rfl (fun _=>by kernel_rfl) (by kernel_rfl) rfl (by kernel_rfl) n m
 ahead:=fun w=>by kernel_rfl
 prep:=fun x w=>run_typeAssert_lacksB underlying102 (by kernel_rfl) (by kernel_rfl) _ x w
 stat:=fun x w=>run_typeAssert_lacksB underlying172 (by kernel_rfl) (by kernel_rfl) _ x w
 encode:=fun w b fb bs a c cs hb hp Aa hd hs hl=>aF.of1 (aJC p nb w _ hp) call219 (nN w b fb bs hb a c cs Aa hd (fun c hc=>(hs c hc).1)
  (by have GH:(enc (.num .u16) cs).length=2*cs.length:=aY _ 2 (aV 2 (by omega)) cs;omega))
theorem aMO (B p nb:Nat):ColSpec Tryz.prog B 572 (.agg #[.iface 256 (.pointer (some ⟨p,0,none⟩)),.func (.func 426) #[] #[.pointer (some ⟨nb,0,none⟩)],.func (.func 427) #[] #[.pointer (some ⟨nb,0,none⟩)]]) (.num .u16) [] (aPj B p nb) (aPj B p nb):=(aMI p nb).spec
theorem aGy (w:World):Calls Tryz.prog 50 #[.int .i64 8] w fun e w'=>e=.returned (.iface 262 (.agg #[.iface 256 (.pointer (some ⟨w.heap.size,0,none⟩)),.func (.func 77) #[] #[],.func (.func 78) #[] #[]]))∧w'=w.alloc (.cells #[.slice none 0 0] 136):=by
 go_enter func50,ntmps50;go_wp2;go_ret
 exact ⟨rfl,rfl⟩
theorem aDY (w:World) (p:Nat):(method mdp 262 (.agg #[.iface 256 (.pointer (some ⟨p,0,none⟩)),.func (.func 77) #[] #[],.func (.func 78) #[] #[]]) "given.example/pub-bradawl/impl.cells").run Tryz.prog w =
 .ok (425,.agg #[.iface 256 (.pointer (some ⟨p,0,none⟩)),.func (.func 77) #[] #[],.func (.func 78) #[] #[]]) w:=by
 obtain ⟨n,hn⟩:=fuel;rw[hn]
 exact aQ (n:=n+1) false (by kernel_rfl) (dM underlying262 rfl)
theorem aML (w:World) (p B:Nat) (hB:B≤p) (hp:w.heap[p]?=some (.cells #[.slice none 0 0] 136 (0,0))) :
 Calls Tryz.prog 425 #[.agg #[.iface 256 (.pointer (some ⟨p,0,none⟩)),.func (.func 77) #[] #[],.func (.func 78) #[] #[]]] w fun e w' =>
  ∃ nb fp,e=.returned (.iface 572 (.agg #[.iface 256 (.pointer (some ⟨p,0,none⟩)),.func (.func 426) #[] #[.pointer (some ⟨nb,0,none⟩)],.func (.func 427) #[] #[.pointer (some ⟨nb,0,none⟩)]]))∧aPj B p nb w' fp []∧F0 w w':=by
 have AZ:=aC hp;go_enter func425,ntmps425;go_wp2;go_ret
 refine ⟨w.heap.size,fun k=>k=p∨k=w.heap.size,rfl,⟨fun k=>k=p,⟨.slice none 0 0,(Below.heap_alloc _ _ _ AZ).trans hp,World.ownsRow_nil _ _ _ _,by simp[Value.ownBlock],fun k=>by simp[Value.ownBlock]⟩,⟨by rw[aB rfl];rfl,by rw[aB rfl];rfl⟩,fun k=>Iff.rfl,?_,by omega,by simp⟩,(Fr.refl _ w).alloc _⟩;rintro k (rfl|rfl)<;>omega
theorem aMT:ElT Tryz.prog 138 209 (.int .u32 0) 1 4:=⟨underlying138,info_parts (by kernel_rfl),rfl⟩
theorem aHE:ElT Tryz.prog 137 209 (.int .u32 0) 1 4:=⟨underlying137,info_parts (by kernel_rfl),rfl⟩
theorem aGH (w:World) (p:Nat) (n:Nat) (xs:List Value) (fp:Nat→Prop) (hc:aJ w p 138 209 1 n xs fp) (hn:n<2147483648) (x:Int) :
 Calls Tryz.prog 428 #[.pointer (some ⟨p,0,none⟩),.int .u32 x] w fun e w'=>e=.returned (.tuple #[])∧(∃ fp',aJ w' p 138 209 1 (n+1) (xs++[.int .u32 x]) fp'∧Grow w fp fp')∧Fr fp w w':=by
 obtain ⟨v,hp,Aa,Am,Aj⟩:=hc;obtain ⟨Ac,BH⟩:=aJ.cell hp;obtain ⟨a0,c0,rfl⟩:=ownsRow_shape Aa;have AZ:=aC hp
 have Be:Src Tryz.prog 1 138 (.slice (some ⟨w.heap.size,0,none⟩) 1 1) 1 [.int .u32 x] (w.alloc (.cells [.int .u32 x].toArray 209)) :=
  Src.ofSlice _ underlying138 _ _ _ _ rfl (bG _ _ _) (by simp[Value.oneCell'])
 go_enter func428,ntmps428
 go_wp2_with ((with_reducible show wpList _ _ _ (⟨some 10,_,_,_,_,_⟩ :: _) _ _);(refine aP _ rfl aMT _ _ rfl _ _ _ rfl (Aa.alloc _) _ _ _ rfl Be ?_ ?_ ?_);(unfold maxLen;omega);omega;intro v' w1 ha;obtain ⟨a',c',rfl⟩:=ha.shape;have Cj:w1.cell? ⟨p,0,none⟩=some (.slice a0 n c0):=ha.2.1.cell (by simpa using (World.cell?_alloc_lt w _ _ AZ).trans Ac) (fun h=>Am h.symm);have Ad:w1.frozen? ⟨p,0,none⟩=false:=(World.frozen?_of_block (ha.2.1.block p (by simp;omega) (fun h=>Am h.symm))).trans (by rw[World.frozen?_alloc_old _ _ _ (by simp;omega)];exact BH))
 go_end0
 exact ⟨rfl,aJ.appended hp Aa Am Aj ((Fr.refl _ w).alloc _) ha⟩
theorem aAK (w:World) (p:Nat) (n:Nat) (xs:List Value) (fp:Nat→Prop) (hc:aJ w p 138 209 1 n xs fp) (m:Nat) (sv:Value) (news:List Value) (Be:Src Tryz.prog 1 137 sv m news w) (hn:n+m≤2147483648) :
 Calls Tryz.prog 429 #[.pointer (some ⟨p,0,none⟩),sv] w fun e w'=>e=.returned (.tuple #[])∧(∃ fp',aJ w' p 138 209 1 (n+m) (xs++news) fp'∧Grow w fp fp')∧Fr fp w w':=by
 obtain ⟨v,hp,Aa,Am,Aj⟩:=hc;obtain ⟨Ac,BH⟩:=aJ.cell hp;obtain ⟨a0,c0,rfl⟩:=ownsRow_shape Aa;go_enter func429,ntmps429
 go_wp2_with ((with_reducible show wpList _ _ _ (⟨some 9,_,_,_,_,_⟩ :: _) _ _);(refine aP _ rfl aMT _ _ rfl _ _ _ rfl Aa _ _ _ rfl Be ?_ ?_ ?_);(unfold maxLen;omega);omega;intro v' w1 ha;obtain ⟨a',c',rfl⟩:=ha.shape;have Cj:w1.cell? ⟨p,0,none⟩=some (.slice a0 n c0):=ha.2.1.cell Ac (fun h=>Am h.symm);have Ad:w1.frozen? ⟨p,0,none⟩=false:=(World.frozen?_of_block (ha.2.1.block p (aC hp) (fun h=>Am h.symm))).trans BH)
 go_end0
 exact ⟨rfl,aJ.appended hp Aa Am Aj (Fr.refl _ w) ha⟩
theorem aOn (w:World) (r0 r1 r2 r3:Nat) (_h0:r0<18446744073709551616):Calls Tryz.prog 79 #[.agg #[.int .u64 r0,.int .u64 r1,.int .u64 r2,.int .u64 r3]] w fun e w'=>e=.returned (.int .u32 (IntKind.u32.wrap r0))∧F0 w w':=by
 go_enter func79,ntmps79;go_wp2;go_ret
 exact ⟨rfl,(Fr.refl _ w).alloc _⟩
theorem u32_in (w:World) (nb:Nat) (r0 r1 r2 r3:Nat) (h0:r0<18446744073709551616) (s:ByteArray) (null:Bool) (iv kv:Value) (hf:w.cell? ⟨nb,1,none⟩=some (.func (.func 79) #[] #[])) :
 Calls Tryz.prog 436 #[.agg #[.int .u64 r0,.int .u64 r1,.int .u64 r2,.int .u64 r3,.string s,.bool null,iv,kv],.pointer (some ⟨nb,0,none⟩)] w fun e w'=>e=.returned (.int .u32 (IntKind.u32.wrap r0))∧F0 w w':=by
 have Ey:∀ o,(w.alloc o).cell? ⟨nb,1,none⟩=some (.func (.func 79) #[] #[]):=fun o=>(World.cell?_alloc_lt w o _ (World.block_lt_of_cell? w _ hf)).trans hf
 have Ed:=aOn (w.alloc (.cells #[.int .u64 r0,.int .u64 r1,.int .u64 r2,.int .u64 r3,.string s,.bool null,iv,kv] 35)) r0 r1 r2 r3 h0;go_enter func436,ntmps436
 go_wp2_with (go_at_call 79;refine Ed.mono ?_;rintro e w' ⟨rfl,Ak⟩)
 go_ret
 exact ⟨rfl,((Fr.refl _ w).alloc _).trans Ak (fun _ _ h=>h)⟩
theorem aCz (a:Addr) (w:World):(method mdp 263 (.pointer (some a)) "Append").run Tryz.prog w=.ok (428,.pointer (some a)) w:=by kernel_rfl
theorem wX (a:Addr) (w:World):(method mdp 263 (.pointer (some a)) "AppendArr").run Tryz.prog w=.ok (429,.pointer (some a)) w:=by kernel_rfl
theorem zS (w:World) (p nb:Nat) (n:Nat) (xs:List Value) (fp:Nat→Prop) (hc:aJ w p 138 209 1 n xs fp) (hn:n<2147483648) (hf:w.cell? ⟨nb,1,none⟩=some (.func (.func 79) #[] #[]))
 (r0 r1 r2 r3:Nat) (h0:r0<18446744073709551616) (s:ByteArray) (null:Bool) (iv kv:Value) :
 Calls Tryz.prog 650 #[.agg #[.iface 263 (.pointer (some ⟨p,0,none⟩)),.func (.func 436) #[] #[.pointer (some ⟨nb,0,none⟩)],.func (.func 437) #[] #[.pointer (some ⟨nb,0,none⟩)]],.agg #[.int .u64 r0,.int .u64 r1,.int .u64 r2,.int .u64 r3,.string s,.bool null,iv,kv]] w fun e w' =>
  e=.returned (.tuple #[])∧(∃ fp',aJ w' p 138 209 1 (n+1) (xs++[.int .u32 (IntKind.u32.wrap r0)]) fp'∧Grow w fp fp')∧Fr fp w w':=by
 go_enter func650,ntmps650
 go_wp2_with fail
 generalize hW:(w.alloc _).alloc _=W;have Af:F0 w W:=by subst hW;exact ((Fr.refl _ w).alloc _).alloc _
 have d0:W.cell? ⟨w.heap.size,0,none⟩=some (.iface 263 (.pointer (some ⟨p,0,none⟩))):=by subst hW;rw[ca (by simp),aB rfl];rfl
 have d1:W.cell? ⟨w.heap.size,1,none⟩=some (.func (.func 436) #[] #[.pointer (some ⟨nb,0,none⟩)]):=by subst hW;rw[ca (by simp),aB rfl];rfl
 have e0:W.cell? ⟨w.heap.size+1,0,none⟩=some (.int .u64 r0):=by subst hW;rw[aB (by simp)];rfl
 have e1:W.cell? ⟨w.heap.size+1,1,none⟩=some (.int .u64 r1):=by subst hW;rw[aB (by simp)];rfl
 have e2:W.cell? ⟨w.heap.size+1,2,none⟩=some (.int .u64 r2):=by subst hW;rw[aB (by simp)];rfl
 have e3:W.cell? ⟨w.heap.size+1,3,none⟩=some (.int .u64 r3):=by subst hW;rw[aB (by simp)];rfl
 have e4:W.cell? ⟨w.heap.size+1,4,none⟩=some (.string s):=by subst hW;rw[aB (by simp)];rfl
 have e5:W.cell? ⟨w.heap.size+1,5,none⟩=some (.bool null):=by subst hW;rw[aB (by simp)];rfl
 have e6:W.cell? ⟨w.heap.size+1,6,none⟩=some iv:=by subst hW;rw[aB (by simp)];rfl
 have e7:W.cell? ⟨w.heap.size+1,7,none⟩=some kv:=by subst hW;rw[aB (by simp)];rfl
 have BA:aJ W p 138 209 1 n xs fp:=hc.aW fun k hk=>Af.block k (hc.lt k hk) (fun h=>h)
 have Aw:W.cell? ⟨nb,1,none⟩=some (.func (.func 79) #[] #[]):=Af.aA hf (fun h=>h);have hN:¬ fp w.heap.size:=fun h=>by have:=hc.lt _ h;omega
 have AU:¬ fp (w.heap.size+1):=fun h=>by have:=hc.lt _ h;omega
 clear hW
 go_region_held3 (fun w'=>w'.cell? ⟨w.heap.size,0,none⟩=some (.iface 263 (.pointer (some ⟨p,0,none⟩)))∧w'.cell? ⟨w.heap.size,1,none⟩=some (.func (.func 436) #[] #[.pointer (some ⟨nb,0,none⟩)]) ∧
  w'.cell? ⟨w.heap.size+1,0,none⟩=some (.int .u64 r0)∧w'.cell? ⟨w.heap.size+1,1,none⟩=some (.int .u64 r1)∧w'.cell? ⟨w.heap.size+1,2,none⟩=some (.int .u64 r2)∧w'.cell? ⟨w.heap.size+1,3,none⟩=some (.int .u64 r3) ∧
  w'.cell? ⟨w.heap.size+1,4,none⟩=some (.string s)∧w'.cell? ⟨w.heap.size+1,5,none⟩=some (.bool null)∧w'.cell? ⟨w.heap.size+1,6,none⟩=some iv∧w'.cell? ⟨w.heap.size+1,7,none⟩=some kv)
  (first
   | exact ⟨d0,d1,e0,e1,e2,e3,e4,e5,e6,e7⟩
   | exact ⟨Ae.aA d0 hN,Ae.aA d1 hN,Ae.aA e0 AU,Ae.aA e1 AU,Ae.aA e2 AU,Ae.aA e3 AU,Ae.aA e4 AU,Ae.aA e5 AU,Ae.aA e6 AU,Ae.aA e7 AU⟩
   | exact ⟨Ad.aA d0 (fun h=>h),Ad.aA d1 (fun h=>h),Ad.aA e0 (fun h=>h),Ad.aA e1 (fun h=>h),Ad.aA e2 (fun h=>h),Ad.aA e3 (fun h=>h),Ad.aA e4 (fun h=>h),Ad.aA e5 (fun h=>h),Ad.aA e6 (fun h=>h),Ad.aA e7 (fun h=>h)⟩
   | assumption)
  (first
   | (refine aK _ rfl ?_;refine dI _ _ _ _ rfl _ _ rfl (bM.func1 call436 (u32_in _ nb r0 r1 r2 r3 h0 s null iv kv Aw)) rfl ?_;rintro e w1 ⟨rfl,Ad⟩;refine ⟨_,rfl,?_⟩)
   | (refine aK _ rfl ?_;refine bH _ _ _ _ _ rfl _ _ rfl (aF.of1 (aCz _ _) call428 (aGH _ p n xs fp (BA.aW fun k hk=>Ad.block k (BA.lt k hk) (fun h=>h)) hn (IntKind.u32.wrap r0))) rfl ?_;rintro e w2 ⟨rfl,Aq,Au⟩;have Ae:Fr fp W w2:=(Ad.aH.mono (fun _ _ h=>h.elim)).trans Au (fun _ _ h=>h);refine ⟨_,rfl,?_⟩))
 all_goals
  go_end0
  refine ⟨rfl,?_,(Af.mono (fun _ _ h=>h.elim)).trans Ae (fun _ _ h=>h)⟩;obtain ⟨fp',h1,h2⟩:=Aq
  exact ⟨fp',h1,fun k hk=>(h2 k hk).imp id (fun h=>Nat.le_trans (Nat.le_trans Af.size Ad.size) h)⟩
def dD (c:Cell):List Value:=[.int .u32 (IntKind.u32.wrap c.r0)]
theorem aGM (w:World) (B nb:Nat) (Bd:B≤w.heap.size) (hf:w.cell? ⟨nb,1,none⟩=some (.func (.func 79) #[] #[])) (cs:List Cell) (v:Value) (xs:List Value) (hs:Sl B w 8 v cs.length xs) (hc:aI B w cs xs) (hn:cs.length≤2147483648) :
 Calls Tryz.prog 653 #[v,.func (.func 436) #[] #[.pointer (some ⟨nb,0,none⟩)]] w fun e w'=>∃ tv,e=.returned tv∧w'.ownsRow 0 209 1 tv cs.length (cs.flatMap dD)∧F0 w w':=by
 have CB:=hs;obtain ⟨Dy,ao,cap,rfl,BF,AP,h0,ha⟩:=hs;unfold maxLen at AP;clear ha h0 Dy;go_enter func653,ntmps653;go_wp2
 go_loopw [5,10] (fun tv i wr=>∃ k:Nat,k≤cs.length∧i=.int .i64 k∧wr.ownsRow 0 209 1 tv k ((cs.take k).flatMap dD)∧(∀ q,tv.ownBlock=some q→w.heap.size≤q)∧F0 w wr) (fun _ i _=>cs.length - (intOf i).toNat)
 case atStart=>exact ⟨0,Nat.zero_le _,rfl,World.ownsRow_nil _ _ _ _,by simp[Value.ownBlock],Fr.refl _ _⟩
 case round =>
  obtain ⟨k,hk,rfl,Aa,Ai,Ak⟩:=hrel;have Bf:Below B w wr:=Ak.below Bd (fun _ _ h=>h);obtain ⟨a0,c0,rfl⟩:=ownsRow_shape Aa
  by_cases Ar:k<cs.length
  · obtain ⟨b,off,cap',hv,FT,vs,AQ,Ac⟩:=(CB.below Bf).row (aI.below Bf _ _ hc) Ar
    have Ah:=Lib.hid (bQ dD cs k Ar);generalize cs[k]=c at AQ Ah;obtain ⟨ia,il,ic,ka,kl,kc,rfl,h0,h1,h2,h3,h4⟩:=AQ.open;simp only[Value.slice.injEq] at hv;obtain ⟨rfl,_,rfl⟩:=hv;have d0:=Ac 0 _ rfl;have d1:=Ac 1 _ rfl;have d2:=Ac 2 _ rfl;have d3:=Ac 3 _ rfl;have d4:=Ac 4 _ rfl;have d5:=Ac 5 _ rfl;have d6:=Ac 6 _ rfl;have d7:=Ac 7 _ rfl;simp only[Nat.add_zero] at d0;have BM:F0 w (wr.alloc (.cells #[.int .u64 c.r0,.int .u64 c.r1,.int .u64 c.r2,.int .u64 c.r3,.string c.s,.bool c.null,.slice ia il ic,.slice ka kl kc] 35)):=Ak.alloc _;have EN:=u32_in _ nb c.r0 c.r1 c.r2 c.r3 h0 c.s c.null (.slice ia il ic) (.slice ka kl kc) (BM.aA hf (fun h=>h));clear Ac AQ CB hc
    go_wp2_with (first|((with_reducible show wpList _ _ _ (⟨some 17,_,_,_,_,_⟩ :: _) _ _);refine dG _ rfl _ _ _ rfl _ _ rfl (bM.func1 call436 EN) rfl ?_;rintro e w1 ⟨rfl,Ad⟩;refine ⟨_,rfl,?_⟩;have Bv:F0 w w1:=BM.trans Ad (fun _ _ h=>h);have Ba:=Ad.owns ((Fr.refl (fun _=>False) wr).alloc _ |>.owns Aa (fun _ _ h=>h)) (fun _ _ h=>h))|((with_reducible show wpList _ _ _ (⟨some 19,_,_,_,_,_⟩ :: _) _ _);refine aP _ rfl aHE _ _ rfl _ _ _ rfl (Ba.alloc _) _ _ _ rfl (Src.ofSlice _ underlying137 _ _ _ _ rfl (bG _ [.int .u32 (IntKind.u32.wrap c.r0)] _) (by simp[Value.oneCell'])) ?_ ?_ ?_;(unfold maxLen;omega);omega;intro v' w2 ha;obtain ⟨a',c',rfl⟩:=ha.shape))
    go_roundw
    case rel=>exact ⟨k+1,by omega,by go_num,by rw[Ah.out];exact ha.1,(ha.since (Bv.alloc _) Ai).1,(ha.since (Bv.alloc _) Ai).2⟩
    case measure=>simp[intOf];omega
  · have Bl:k=cs.length:=by omega
    subst Bl;rw[take_length] at Aa;go_wp2;go_ret
    exact ⟨_,rfl,Aa,Ak⟩
theorem aAL (cs:List Cell):∀ u∈cs.flatMap dD,u.oneCell'=true:=by
 intro u hu;obtain ⟨c,_,hc⟩:=mem_flatMap.1 hu;simp only[dD,mem_cons,not_mem_nil,or_false] at hc;subst hc;rfl
theorem sV (w:World) (B p nb:Nat) (Bd:B≤w.heap.size) (n:Nat) (xs:List Value) (fp:Nat→Prop) (hc:aJ w p 138 209 1 n xs fp) (hf:w.cell? ⟨nb,1,none⟩=some (.func (.func 79) #[] #[]))
 (cs:List Cell) (v:Value) (ys:List Value) (hs:Sl B w 8 v cs.length ys) (A8:aI B w cs ys) (hn:n+cs.length≤2147483648) :
 Calls Tryz.prog 651 #[.agg #[.iface 263 (.pointer (some ⟨p,0,none⟩)),.func (.func 436) #[] #[.pointer (some ⟨nb,0,none⟩)],.func (.func 437) #[] #[.pointer (some ⟨nb,0,none⟩)]],v] w fun e w' =>
  e=.returned (.tuple #[])∧(∃ fp',aJ w' p 138 209 1 (n+cs.length) (xs++cs.flatMap dD) fp'∧Grow w fp fp')∧Fr fp w w':=by
 go_enter func651,ntmps651
 go_wp2_with fail
 generalize hW:w.alloc _=W;have Af:F0 w W:=by subst hW;exact (Fr.refl _ w).alloc _
 have d0:W.cell? ⟨w.heap.size,0,none⟩=some (.iface 263 (.pointer (some ⟨p,0,none⟩))):=by subst hW;rw[aB rfl];rfl
 have d1:W.cell? ⟨w.heap.size,1,none⟩=some (.func (.func 436) #[] #[.pointer (some ⟨nb,0,none⟩)]):=by subst hW;rw[aB rfl];rfl
 have BA:aJ W p 138 209 1 n xs fp:=hc.aW fun k hk=>Af.block k (hc.lt k hk) (fun h=>h)
 have Aw:W.cell? ⟨nb,1,none⟩=some (.func (.func 79) #[] #[]):=Af.aA hf (fun h=>h);have hN:¬ fp w.heap.size:=fun h=>by have:=hc.lt _ h;omega
 have D6:=hs.fr Bd Af;have Cf:=aI.below (Af.below Bd (fun _ _ h=>h)) _ _ A8;have CZ:B≤W.heap.size:=Nat.le_trans Bd Af.size;have EX:=D6.fr CZ (Fr.refl (fun _=>False) W).drew;have Ce:=aI.below ((Below.refl B W).drew) _ _ Cf;clear hW hs A8
 go_region_held3 (fun w'=>w'.cell? ⟨w.heap.size,0,none⟩=some (.iface 263 (.pointer (some ⟨p,0,none⟩)))∧w'.cell? ⟨w.heap.size,1,none⟩=some (.func (.func 436) #[] #[.pointer (some ⟨nb,0,none⟩)]))
  (first
   | exact ⟨d0,d1⟩
   | exact ⟨Ae.aA d0 hN,Ae.aA d1 hN⟩
   | exact ⟨Ad.aA d0 (fun h=>h),Ad.aA d1 (fun h=>h)⟩
   | assumption)
  (first
   | (go_at_call 653;refine (aGM W.drew B nb CZ Aw cs v ys EX Ce (by omega)).mono ?_;rintro e w1 ⟨tv,rfl,Aa,Ad⟩)
   | (refine aK _ rfl ?_;refine bH _ _ _ _ _ rfl _ _ rfl (aF.of1 (wX _ _) call429 (aAK _ p n xs fp (BA.aW fun k hk=>Ad.block k (BA.lt k hk) (fun h=>h)) _ _ _ (Src.kC underlying137 Aa (aAL cs)) hn)) rfl ?_;rintro e w2 ⟨rfl,Aq,Au⟩;have Ae:Fr fp W w2:=(Ad.aH.mono (fun _ _ h=>h.elim)).trans Au (fun _ _ h=>h);refine ⟨_,rfl,?_⟩))
 all_goals
  go_end0
  refine ⟨rfl,?_,(Af.mono (fun _ _ h=>h.elim)).trans Ae (fun _ _ h=>h)⟩;obtain ⟨fp',h1,h2⟩:=Aq
  exact ⟨fp',h1,fun k hk=>(h2 k hk).imp id (fun h=>Nat.le_trans (Nat.le_trans Af.size Ad.size) h)⟩
theorem aNa (w:World) (a:Option Addr) (n c:Nat):Calls Tryz.prog 285 #[.slice a n c] w fun e w'=>e=.returned (.int .i64 n)∧F0 w w':=by
 go_enter func285,ntmps285;go_wp2;go_ret
 exact ⟨rfl,Fr.refl _ _⟩
theorem sU (cs:List Cell) (k:Nat) (h:k<cs.length):(cs.flatMap dD)[k]?=some (dD cs[k]).head!:=by
 have:∀ cs:List Cell,cs.flatMap dD=cs.map fun c=>(dD c).head!:=fun cs=>by induction cs with|nil=>rfl|cons c cs ih=>rw[flatMap_cons,map_cons,ih];rfl
 rw[this,getElem?_map,getElem?_eq_getElem h]
 rfl
theorem nO (w:World) (b:Nat) (fb:Nat→Prop) (bs:List UInt8) (hb:Buf w b fb bs) (a:Option Addr) (c:Nat) (cs:List Cell) (Aa:w.ownsRow 0 209 1 (.slice a cs.length c) cs.length (cs.flatMap dD))
 (hd:∀ k,(Value.slice a cs.length c).ownBlock=some k→¬ fb k) (hc:∀ c∈cs,c.r0<18446744073709551616) (hl:bs.length+4*cs.length≤1099511627776) :
 Calls Tryz.prog 220 #[.slice a cs.length c,.pointer (some ⟨b,0,none⟩)] w fun e w'=>e=.returned (.tuple #[])∧Fr fb w w'∧∃ fb',Buf w' b fb' (bs++cs.flatMap (aG 4))∧Grow w fb fb'∧Kept w w' b bs.length:=by
 by_cases h0:cs.length=0
 · have A8:cs=[]:=eq_nil_of_length_eq_zero (by omega)
   subst A8;go_enter func220,ntmps220;go_wp2
   try simp only[Exit.inBlock,Exit.then]
   refine bodyPost_ret (results_none rfl _ _ _) rfl ?_
   exact ⟨rfl,Fr.refl _ _,fb,by simpa using hb,fun k hk=>.inl hk,Kept.refl _ _ _⟩
 · have Ei:=hb
   obtain ⟨v,hp,Bh,Am,Aj⟩:=Ei;obtain ⟨Ac,BH⟩:=aJ.cell hp;obtain ⟨a0,c0,rfl⟩:=ownsRow_shape Bh;have AZ:=aC hp;have AP:cs.length≤9223372036854775807:=by omega
   go_enter func220,ntmps220
   go_wp2_with ((with_reducible show wpList _ _ _ (⟨some 25,_,_,_,_,_⟩ :: _) _ _);(refine dB _ rfl gY underlying3 _ _ rfl _ _ _ rfl Bh _ (4*cs.length) rfl ?_ ?_ ?_ ?_);go_num;omega;omega;intro v' w1 ha;obtain ⟨a',c',rfl⟩:=ha.shape;have Cj:w1.cell? ⟨b,0,none⟩=some (.slice a0 bs.length c0):=ha.2.1.cell Ac (fun h=>Am h.symm);have Ad:w1.frozen? ⟨b,0,none⟩=false:=(World.frozen?_of_block (ha.2.1.block b AZ (fun h=>Am h.symm))).trans BH)
   obtain ⟨⟨fb',Aq,AX⟩,Ak⟩:=aJ.appended hp Bh Am Aj (Fr.refl _ w) ha;have D5:=Kept.appended hp Bh Am (Fr.refl _ w) ha;generalize w1.setCell ⟨b,0,none⟩ (Value.slice a' (bs.length+4*cs.length) c')=W at Aq Ak D5 ⊢;obtain ⟨g,cap,hot,BC⟩:=Hot.of Aq (by omega);have Bi:=Ak.owns Aa hd
   have DF:∀ k,(Value.slice a cs.length c).ownBlock=some k→k≠b∧k≠g:=fun k hk=>⟨fun e=>hd k hk ((Aj k).2 (.inl e)),fun e=>by
    subst e;rcases AX k ((BC k).2 (.inr rfl)) with h|h
    · exact hd k hk h
    · have:=aO Aa hk;omega⟩
   have hS:∀ k,k<w.heap.size→(k=b∨k=g)→fb k:=fun k hk hh=>(AX k ((BC k).2 hh)).resolve_right (by omega)
   have Ie:=Lib.hid hp;have DV:=Lib.hid Bh;have DU:=Lib.hid Am;have DR:=Lib.hid D5;clear ha Aq hp Bh Ac BH Cj Ad Am hb D5
   go_loopw [5,7,30] (fun off _ i wr=>∃ k:Nat,k≤cs.length∧i=.int .i64 k∧off=.int .i64 (bs.length+4*k:Nat)∧Hot wr b g (bs.length+4*cs.length) cap (aN (bs++(cs.take k).flatMap (aG 4))++List.replicate (4*(cs.length - k)) (.int .u8 0))∧Fr (fun k=>k=b∨k=g) W wr) (fun _ _ i _=>cs.length - (intOf i).toNat)
   case atStart=>exact ⟨0,Nat.zero_le _,rfl,by simp,by simpa using hot,Fr.refl _ _⟩
   case round =>
    obtain ⟨k,hk,rfl,rfl,A7,AY⟩:=hrel
    by_cases Ar:k<cs.length
    · have Ap:=AY.owns Bi (fun k hk h=>by have:=DF k hk;omega)
      rcases Ap.2 with ⟨hv,_⟩|⟨ga,capa,cura,hv,_⟩
      · simp only[Value.slice.injEq] at hv;omega
      · simp only[Value.slice.injEq] at hv
        obtain ⟨rfl,_,rfl⟩:=hv;have hx:=Ap.cells (g:=ga) rfl k _ (sU cs k Ar);have Dp:=hc cs[k] (getElem_mem _);have Ah:=bQ (aG 4) cs k Ar;generalize cs[k]=cc at hx Dp Ah;simp only[dD,List.head!] at hx;rw[Addr.add_lit,Nat.zero_add] at hx;have H5:=A7.cell;have H9:=A7.row;obtain ⟨_,_,_,Lr,Cm⟩:=H9;unfold maxLen at Cm;have AO:=uO g (bs.length+4*k) 4 (cap - (bs.length+4*k)) (cc.r0 % 4294967296) (by omega) wr.drew (by omega) (A7.drew.there (by omega)) A7.drew.cold;have AA:(bs++(cs.take k).flatMap (aG 4)).length=bs.length+4*k:=by rw[length_append,aY _ 4 (aV 4 (by omega)),length_take];congr 2;omega
        have Bz:=(A7.drew.alloc (.cells #[] 454)).put (A:=aN (bs++(cs.take k).flatMap (aG 4))) (olds:=List.replicate 4 (.int .u8 0)) (C:=List.replicate (4*(cs.length - (k+1))) (.int .u8 0)) (by rw[append_assoc,replicate_append_replicate];congr 2;omega) (aN (Lib.leBytes 4 (cc.r0 % 4294967296))) (by simp[aZ,Lib.leBytes_length]) (o:=bs.length+4*k) (by rw[aZ,AA]);have Gs:Lib.leBytes 4 (cc.r0 % 4294967296)=aG 4 cc:=by rw[dO 4 (by omega)];exact iK 4 cc.r0
        rw[Gs,← bC,append_assoc,← Ah] at Bz;rw[Gs] at AO;have Dx:Fr (fun k=>k=b∨k=g) W ((wr.drew.alloc (.cells #[] 454)).setCells g (bs.length+4*k) (aN (aG 4 cc))):=Fr.setCells (.inl (.inr rfl)) _ _ _ (AY.drew.alloc _);have Dw:=Bz.cell;generalize KA:(wr.drew.alloc (.cells #[] 454)).setCells g (bs.length+4*k) (aN (aG 4 cc))=Wn at AO Bz Dx Dw;clear KA;have ho:bs.length+4*k+4≤cap:=by omega
        generalize DK:bs.length+4*k=o at ho AO ⊢;rw[Int.natCast_emod] at AO;have s0:(0:Int)≤↑o:=by omega
        have s1:IntKind.i64.wrap ((o:Int)+4)=(o:Int)+4:=by rw[IntKind.wrap_i64];omega
        have s2:(o:Int)≤(o:Int)+4:=by omega
        have s3:(o:Int)+4≤(cap:Int):=by omega
        have s4:(0:Int)≤(o:Int)+4:=by omega
        have s5:¬ cap=o:=by omega
        have s6:((o:Int)+4).toNat - o=4:=by omega
        have s7:(IntKind.u32.wrap ↑cc.r0)=(cc.r0:Int) % 4294967296:=by rw[IntKind.wrap_u32]
        go_wp2
        go_region_held3 (fun w'=>w'.cell? ⟨b,0,none⟩=some (.slice (some ⟨g,0,none⟩) (bs.length+4*cs.length) cap))
         (first
          | exact H5
          | exact Dw
          | assumption)
         (first
          | (go_at_call 233;refine AO.mono ?_;rintro e w1 ⟨rfl,rfl⟩))
        all_goals
         go_wp2;go_roundw
         case rel=>exact ⟨k+1,by omega,by go_num,by subst DK;go_num,Bz,Dx⟩
         case measure=>simp[intOf];omega
    · have Bl:k=cs.length:=by omega
      subst Bl;go_wp2;go_end0;rw[take_length,Nat.sub_self,Nat.mul_zero,replicate_zero,append_nil] at A7;have CO:=fun CJ=>Hot.buf (bs:=bs++cs.flatMap (aG 4)) (cap:=cap) (N:=bs.length+4*cs.length) A7 (fb:=fun k=>k=b∨k=g) CJ
      have C9:=Kept.hot (l:=aN (cs.flatMap (aG 4))) Ie.out DV.out DU.out DR.out AY (by rw[← bC];exact A7)
      exact ⟨rfl,Ak.trans AY hS,_,CO (fun k=>Iff.rfl),fun k hk=>AX k ((BC k).2 hk),C9⟩
theorem aGJ (w:World) (b:Nat) (fb:Nat→Prop) (bs:List UInt8) (hb:Buf w b fb bs) (a:Option Addr) (c:Nat) (cs:List Cell) (Aa:w.ownsRow 0 209 1 (.slice a cs.length c) cs.length (cs.flatMap dD))
 (hd:∀ k,(Value.slice a cs.length c).ownBlock=some k→¬ fb k) (hc:∀ c∈cs,c.r0<18446744073709551616) (hl:bs.length+4*cs.length≤1099511627776) :
 Calls Tryz.prog 220 #[.slice a cs.length c,.pointer (some ⟨b,0,none⟩)] w fun e w'=>e=.returned (.tuple #[])∧Fr fb w w'∧∃ fb',Buf w' b fb' (bs++cs.flatMap (aG 4))∧Grow w fb fb' :=
 (nO w b fb bs hb a c cs Aa hd hc hl).mono fun _ _ ⟨h1,h2,fb',h3,h4,_⟩=>⟨h1,h2,fb',h3,h4⟩
def aPl:Nat→Nat→Nat→World→(Nat→Prop)→List Cell→Prop:=gZ 138 209 1 dD (.func (.func 79) #[] #[]) (.func (.func 80) #[] #[])
theorem aBu (p nb:Nat) (w:World) (name:String) (f:FuncId) (h:(name,f)=("Append",650)∨(name,f)=("AppendArr",651)):(method mdp 578 (.agg #[.iface 263 (.pointer (some ⟨p,0,none⟩)),.func (.func 436) #[] #[.pointer (some ⟨nb,0,none⟩)],.func (.func 437) #[] #[.pointer (some ⟨nb,0,none⟩)]]) name).run Tryz.prog w=.ok (f,.agg #[.iface 263 (.pointer (some ⟨p,0,none⟩)),.func (.func 436) #[] #[.pointer (some ⟨nb,0,none⟩)],.func (.func 437) #[] #[.pointer (some ⟨nb,0,none⟩)]]) w:=by
 rcases h with h|h<;>(simp only[Prod.mk.injEq] at h;obtain ⟨rfl,rfl⟩:=h;kernel_rfl)
theorem aGK (p nb:Nat) (w:World) (v:Value) (hv:w.cell? ⟨p,0,none⟩=some v):(method mdp 578 (.agg #[.iface 263 (.pointer (some ⟨p,0,none⟩)),.func (.func 436) #[] #[.pointer (some ⟨nb,0,none⟩)],.func (.func 437) #[] #[.pointer (some ⟨nb,0,none⟩)]]) "Rows").run Tryz.prog w=.ok (285,v) w:=by
 obtain ⟨n,hn⟩:=fuel;rw[hn]
 refine (aX (n:=n+1) underlying578 rfl rfl (fun _=>by kernel_rfl) (by kernel_rfl) rfl).trans ?_
 exact aQ (n:=n) false (by kernel_rfl) (aU underlying263 (bI underlying138 hv))
theorem aJN (p nb:Nat) (w:World) (v:Value) (hv:w.cell? ⟨p,0,none⟩=some v):(method mdp 578 (.agg #[.iface 263 (.pointer (some ⟨p,0,none⟩)),.func (.func 436) #[] #[.pointer (some ⟨nb,0,none⟩)],.func (.func 437) #[] #[.pointer (some ⟨nb,0,none⟩)]]) "EncodeColumn").run Tryz.prog w=.ok (220,v) w:=by
 obtain ⟨n,hn⟩:=fuel;rw[hn]
 refine (aX (n:=n+1) underlying578 rfl rfl (fun _=>by kernel_rfl) (by kernel_rfl) rfl).trans ?_
 exact aQ (n:=n) false (by kernel_rfl) (aU underlying263 (bI underlying138 hv))
theorem aMV (p nb:Nat):iI Tryz.prog 138 209 578 1 dD (.func (.func 79) #[] #[]) p nb (.agg #[.iface 263 (.pointer (some ⟨p,0,none⟩)),.func (.func 436) #[] #[.pointer (some ⟨nb,0,none⟩)],.func (.func 437) #[] #[.pointer (some ⟨nb,0,none⟩)]]) (.num .u32) where
 append:=fun w n xs fp hc hn hf c iv kv hs=>aF.of1 (aBu p nb w _ _ (.inl rfl)) call650 (zS w p nb n xs fp hc hn hf c.r0 c.r1 c.r2 c.r3 hs.1 c.s c.null iv kv)
 appendArr:=fun w B n xs fp hB hc hf cs v ys hs A8 hn=>aF.of1 (aBu p nb w _ _ (.inr rfl)) call651 (sV w B p nb hB n xs fp hc hf cs v ys hs A8 hn)
 rows:=fun w a n c hp=>aF.of0 (aGK p nb w _ hp) call285 (aNa w a n c)
 flat:=by rintro w name (rfl|rfl|rfl) n m<;>exact fC underlying578 rfl rfl (fun _=>by kernel_rfl) (by kernel_rfl) rfl (by kernel_rfl) n m
 ahead:=fun w=>by kernel_rfl
 prep:=fun x w=>run_typeAssert_lacksB underlying102 (by kernel_rfl) (by kernel_rfl) _ x w
 stat:=fun x w=>run_typeAssert_lacksB underlying172 (by kernel_rfl) (by kernel_rfl) _ x w
 encode:=fun w b fb bs a c cs hb hp Aa hd hs hl=>aF.of1 (aJN p nb w _ hp) call220 (nO w b fb bs hb a c cs Aa hd (fun c hc=>(hs c hc).1)
  (by have GH:(enc (.num .u32) cs).length=4*cs.length:=aY _ 4 (aV 4 (by omega)) cs;omega))
theorem aNb (B p nb:Nat):ColSpec Tryz.prog B 578 (.agg #[.iface 263 (.pointer (some ⟨p,0,none⟩)),.func (.func 436) #[] #[.pointer (some ⟨nb,0,none⟩)],.func (.func 437) #[] #[.pointer (some ⟨nb,0,none⟩)]]) (.num .u32) [] (aPl B p nb) (aPl B p nb):=(aMV p nb).spec
theorem aGI (w:World):Calls Tryz.prog 50 #[.int .i64 9] w fun e w'=>e=.returned (.iface 269 (.agg #[.iface 263 (.pointer (some ⟨w.heap.size,0,none⟩)),.func (.func 79) #[] #[],.func (.func 80) #[] #[]]))∧w'=w.alloc (.cells #[.slice none 0 0] 138):=by
 go_enter func50,ntmps50;go_wp2;go_ret
 exact ⟨rfl,rfl⟩
theorem aEf (w:World) (p:Nat):(method mdp 269 (.agg #[.iface 263 (.pointer (some ⟨p,0,none⟩)),.func (.func 79) #[] #[],.func (.func 80) #[] #[]]) "given.example/pub-bradawl/impl.cells").run Tryz.prog w =
 .ok (435,.agg #[.iface 263 (.pointer (some ⟨p,0,none⟩)),.func (.func 79) #[] #[],.func (.func 80) #[] #[]]) w:=by
 obtain ⟨n,hn⟩:=fuel;rw[hn]
 exact aQ (n:=n+1) false (by kernel_rfl) (dM underlying269 rfl)
theorem aMY (w:World) (p B:Nat) (hB:B≤p) (hp:w.heap[p]?=some (.cells #[.slice none 0 0] 138 (0,0))) :
 Calls Tryz.prog 435 #[.agg #[.iface 263 (.pointer (some ⟨p,0,none⟩)),.func (.func 79) #[] #[],.func (.func 80) #[] #[]]] w fun e w' =>
  ∃ nb fp,e=.returned (.iface 578 (.agg #[.iface 263 (.pointer (some ⟨p,0,none⟩)),.func (.func 436) #[] #[.pointer (some ⟨nb,0,none⟩)],.func (.func 437) #[] #[.pointer (some ⟨nb,0,none⟩)]]))∧aPl B p nb w' fp []∧F0 w w':=by
 have AZ:=aC hp;go_enter func435,ntmps435;go_wp2;go_ret
 refine ⟨w.heap.size,fun k=>k=p∨k=w.heap.size,rfl,⟨fun k=>k=p,⟨.slice none 0 0,(Below.heap_alloc _ _ _ AZ).trans hp,World.ownsRow_nil _ _ _ _,by simp[Value.ownBlock],fun k=>by simp[Value.ownBlock]⟩,⟨by rw[aB rfl];rfl,by rw[aB rfl];rfl⟩,fun k=>Iff.rfl,?_,by omega,by simp⟩,(Fr.refl _ w).alloc _⟩;rintro k (rfl|rfl)<;>omega
theorem aBt {conn:Value} {ps pw:Nat} {w:World} {fw:Nat→Prop} {n:Nat} {out:List UInt8} (h:eG conn ps pw w fw n out) (a:Option Addr) (c:Nat) (cs:List Cell) (Aa:w.ownsRow 0 199 1 (.slice a cs.length c) cs.length (cs.flatMap dC))
 (hd:∀ k,(Value.slice a cs.length c).ownBlock=some k→¬ fw k) (hs:∀ c∈cs,c.r0<18446744073709551616) (hl:out.length+(cs.flatMap (aG 2)).length≤1099511627776) :
 Calls Tryz.prog 229 #[.slice a cs.length c,.pointer (some ⟨pw,0,none⟩)] w fun e w'=>e=.returned (.tuple #[])∧Fr fw w w'∧∃ fw',eG conn ps pw w' fw' n (out++cs.flatMap (aG 2))∧Grow w fw fw':=by
 have GH:=aY _ 2 (aV 2 (by omega)) cs;have Gw:=h.chain (l:=cs.flatMap (aG 2)) (cb:=.func (.func 219) #[.slice a cs.length c] #[]) fun b fb bs hb CJ Gf=>bM.bound call219 (nN w b fb bs hb a c cs Aa (fun k hk e=>hd k hk (CJ k e)) hs (by omega))
 go_enter func229,ntmps229
 go_wp2_with (go_at_call 176;refine Gw.mono ?_;rintro e w1 ⟨rfl,h1,h2⟩)
 go_end0
 exact ⟨rfl,h1,h2⟩
theorem aGB (w:World) (r0:Nat):Calls Tryz.prog 78 #[.int .u16 (IntKind.u16.wrap r0)] w fun e w'=>e=.returned (.agg #[.int .u64 (r0 % 65536:Nat),.int .u64 0,.int .u64 0,.int .u64 0])∧F0 w w':=by
 have hw:IntKind.u64.wrap (IntKind.u16.wrap r0)=((r0 % 65536:Nat):Int):=by rw[IntKind.wrap_u64,IntKind.wrap_u16];omega
 go_enter func78,ntmps78;go_wp2
 refine bodyPost_ret (by simp[results,results78,go_sem];try rfl) rfl ?_
 exact ⟨by rw[Int.natCast_emod];rfl,(Fr.refl _ w).alloc _⟩
theorem aPk (w:World) (a:Option Addr) (k c:Nat) (cs:List Cell) (hk:k<cs.length) (Aa:w.ownsRow 0 199 1 (.slice a cs.length c) cs.length (cs.flatMap dC)) :
 Calls Tryz.prog 281 #[.slice a cs.length c,.int .i64 k] w fun e w'=>e=.returned (.int .u16 (IntKind.u16.wrap cs[k].r0))∧F0 w w':=by
 rcases Aa.2 with ⟨hv,_⟩|⟨ga,capa,cura,hv,_⟩
 · simp only[Value.slice.injEq] at hv;omega
 · simp only[Value.slice.injEq] at hv
   obtain ⟨rfl,_,rfl⟩:=hv;have hx:=Aa.cells (g:=ga) rfl k _ (sO cs k hk);simp only[dC,List.head!] at hx;rw[Addr.add_lit,Nat.zero_add] at hx;have Gz:(k:Int)<cs.length:=by omega
   go_enter func281,ntmps281;go_wp2;go_ret
   exact ⟨rfl,Fr.refl _ _⟩
theorem aMM (w:World) (nb r0:Nat) (hf:w.cell? ⟨nb,2,none⟩=some (.func (.func 78) #[] #[])) :
 Calls Tryz.prog 427 #[.int .u16 (IntKind.u16.wrap r0),.pointer (some ⟨nb,0,none⟩)] w fun e w'=>e=.returned (.agg #[.int .u64 (r0 % 65536:Nat),.int .u64 0,.int .u64 0,.int .u64 0,.string ⟨#[]⟩,.bool false,.slice none 0 0,.slice none 0 0])∧F0 w w':=by
 have Ey:∀ o,(w.alloc o).cell? ⟨nb,2,none⟩=some (.func (.func 78) #[] #[]):=fun o=>(World.cell?_alloc_lt w o _ (World.block_lt_of_cell? w _ hf)).trans hf
 go_enter func427,ntmps427
 go_wp2_with (go_at_call 78;refine (aGB _ r0).mono ?_;rintro e w1 ⟨rfl,Ad⟩;have hm:=Ad.made (n:=w.heap.size) rfl;obtain ⟨c0,c1,c2,c3,c4,c5,c6,c7⟩:=bD.eight (bD.of_block hm);have z0:=fzj 0 hm;have z1:=fzj 1 hm;have z2:=fzj 2 hm;have z3:=fzj 3 hm;have z4:=fzj 4 hm;have z5:=fzj 5 hm;have z6:=fzj 6 hm;have z7:=fzj 7 hm)
 refine bodyPost_ret (by simp[results,results427,go_sem,c0,c1,c2,c3,c4,c5,c6,c7];try rfl) rfl ?_
 have Ez:=((Fr.refl (fun _=>False) w).alloc (.cells #[.int .u64 0,.int .u64 0,.int .u64 0,.int .u64 0,.string ⟨#[]⟩,.bool false,.slice none 0 0,.slice none 0 0] 35)).trans Ad (fun _ _ h=>h);have hb:∀ i,(False∨w.heap.size≤(⟨w.heap.size,i,none⟩:Addr).block):=fun _=>.inr (Nat.le_refl _)
 exact ⟨by rw[Int.natCast_emod];rfl,(((((((Ez.setCell (hb 0) _).setCell (hb 1) _).setCell (hb 2) _).setCell (hb 3) _).setCell (hb 4) _).setCell (hb 5) _).setCell (hb 6) _).setCell (hb 7) _⟩
theorem aMJ (a:Addr) (w:World) {b:Option Addr} {n c:Nat} (hv:w.cell? a=some (.slice b n c)):(method mdp 256 (.pointer (some a)) "Row").run Tryz.prog w=.ok (281,.slice b n c) w:=by
 obtain ⟨n,hn⟩:=fuel;rw[hn]
 exact aQ (n:=n+1) false (by kernel_rfl) (aU underlying256 (bI underlying136 hv))
theorem aDX (w:World) (p nb:Nat) (a:Option Addr) (k c:Nat) (cs:List Cell) (hk:k<cs.length) (hp:w.cell? ⟨p,0,none⟩=some (.slice a cs.length c)) (Aa:w.ownsRow 0 199 1 (.slice a cs.length c) cs.length (cs.flatMap dC))
 (hf:w.cell? ⟨nb,2,none⟩=some (.func (.func 78) #[] #[])) :
 Calls Tryz.prog 648 #[.agg #[.iface 256 (.pointer (some ⟨p,0,none⟩)),.func (.func 426) #[] #[.pointer (some ⟨nb,0,none⟩)],.func (.func 427) #[] #[.pointer (some ⟨nb,0,none⟩)]],.int .i64 k] w fun e w' =>
  e=.returned (.agg #[.int .u64 (cs[k].r0 % 65536:Nat),.int .u64 0,.int .u64 0,.int .u64 0,.string ⟨#[]⟩,.bool false,.slice none 0 0,.slice none 0 0])∧F0 w w':=by
 have Ag:=fun W (Aw:F0 w W)=>aF.of1 (name:= "Row") (aMJ ⟨p,0,none⟩ W.drew (Aw.drew.aA hp (fun h=>h))) call281 (aPk W.drew a k c cs hk (Aw.drew.owns Aa (fun _ _ h=>h)))
 generalize cs[k].r0=r0 at Ag ⊢;clear hp Aa hk;have Ag:=Lib.hid Ag;go_enter func648,ntmps648
 go_wp2_with fail
 generalize hW:(w.alloc _).alloc _=W;have Af:F0 w W:=by subst hW;exact ((Fr.refl _ w).alloc _).alloc _
 have d0:W.cell? ⟨w.heap.size,0,none⟩=some (.iface 256 (.pointer (some ⟨p,0,none⟩))):=by subst hW;rw[ca (by simp),aB rfl];rfl
 have d2:W.cell? ⟨w.heap.size,2,none⟩=some (.func (.func 427) #[] #[.pointer (some ⟨nb,0,none⟩)]):=by subst hW;rw[ca (by simp),aB rfl];rfl
 have Di:W.heap[w.heap.size+1]?=some (.cells #[.int .u64 0,.int .u64 0,.int .u64 0,.int .u64 0,.string ⟨#[]⟩,.bool false,.slice none 0 0,.slice none 0 0] 35 (0,0)):=by subst hW;exact Fr.made (Fr.refl _ _) (by simp)
 have Aw:=Af.aA hf (fun h=>h);clear hW
 go_region_law
  (first
   | (refine aK _ rfl ?_;refine bH _ _ _ _ _ rfl _ _ rfl (Ag.out W Af) rfl ?_;rintro e w1 ⟨rfl,BL⟩;have Ad:=BL.aH;have d2':=Ad.aA d2 (fun h=>h);refine ⟨_,rfl,?_⟩)
   | (refine aK _ rfl ?_;refine dI _ _ _ _ rfl _ _ rfl (bM.func1 call427 (aMM _ nb r0 (Ad.aA Aw (fun h=>h)))) rfl ?_;rintro e w2 ⟨rfl,Au⟩;have Ae:F0 W w2:=Ad.trans Au (fun _ _ h=>h);have AB:=(Ae.block _ (aC Di) (fun h=>h)).trans Di;obtain ⟨c0,c1,c2,c3,c4,c5,c6,c7⟩:=bD.eight (bD.of_block AB);have z0:=fzj 0 AB;have z1:=fzj 1 AB;have z2:=fzj 2 AB;have z3:=fzj 3 AB;have z4:=fzj 4 AB;have z5:=fzj 5 AB;have z6:=fzj 6 AB;have z7:=fzj 7 AB;refine ⟨_,rfl,?_⟩))
 all_goals (try simp only[Exit.then])
 all_goals
  refine (‹∀ (a:Act) (w:World),Code.wp _ Code.ret _ a w→_› _ _ ?_)
  refine wp_ret ?_
  show bodyPost _ _ _ _ _ _
  refine bodyPost_ret (by simp[results,results648,go_sem,c0,c1,c2,c3,c4,c5,c6,c7];try rfl) rfl ?_
  have hb:∀ i,(False∨w.heap.size≤(⟨w.heap.size+1,i,none⟩:Addr).block):=fun _=>.inr (Nat.le_succ _)
  exact ⟨by rw[Int.natCast_emod];rfl,(((((((((Af.trans Ae (fun _ _ h=>h)).setCell (hb 0) _).setCell (hb 1) _).setCell (hb 2) _).setCell (hb 3) _).setCell (hb 4) _).setCell (hb 5) _).setCell (hb 6) _).setCell (hb 7) _)⟩
abbrev aHB (p nb:Nat):Value:=.agg #[.iface 256 (.pointer (some ⟨p,0,none⟩)),.func (.func 426) #[] #[.pointer (some ⟨nb,0,none⟩)],.func (.func 427) #[] #[.pointer (some ⟨nb,0,none⟩)]]
theorem aJD (p nb:Nat) (w:World):(method mdp 572 (aHB p nb) "Row").run Tryz.prog w=.ok (648,aHB p nb) w:=by kernel_rfl
theorem aMK (p nb:Nat) (w:World) (v:Value) (hv:w.cell? ⟨p,0,none⟩=some v):(method mdp 572 (aHB p nb) "WriteColumn").run Tryz.prog w=.ok (229,v) w:=by
 obtain ⟨n,hn⟩:=fuel;rw[hn]
 refine (aX (n:=n+1) underlying572 rfl rfl (fun _=>by kernel_rfl) (by kernel_rfl) rfl).trans ?_
 exact aQ (n:=n) false (by kernel_rfl) (aU underlying256 (bI underlying136 hv))
theorem aJB (p nb:Nat):fU Tryz.prog 136 199 572 1 dC (.func (.func 78) #[] #[]) p nb (aHB p nb) (.num .u16) where
 write:=fun hp Aa hs CY hd hl hn=>(aF.of1 (aMK p nb _ _ hp) call229 (aBt CY _ _ _ Aa (fun k hk=>(hd k hk).1) (fun c hc=>(hs c hc).1) hl)).mono fun e w' ⟨h1,h2,fw',h3,h4⟩=>⟨h1,h2,fw',h3.more (Nat.le_add_right _ _),h4⟩
 row:=fun {w a c k cs} hk hp Aa hs hf=>(aF.of1 (aJD p nb w) call648 (aDX w p nb a k c cs hk hp Aa hf)).mono fun e w' ⟨h1,h2⟩=>⟨.mk (cs[k].r0 % 65536) 0 0 0 ⟨#[]⟩ false [] [],iF (by omega),h1,h2,iO rfl (by decide) rfl⟩
theorem aBv {conn:Value} {ps pw:Nat} {w:World} {fw:Nat→Prop} {n:Nat} {out:List UInt8} (h:eG conn ps pw w fw n out) (a:Option Addr) (c:Nat) (cs:List Cell) (Aa:w.ownsRow 0 209 1 (.slice a cs.length c) cs.length (cs.flatMap dD))
 (hd:∀ k,(Value.slice a cs.length c).ownBlock=some k→¬ fw k) (hs:∀ c∈cs,c.r0<18446744073709551616) (hl:out.length+(cs.flatMap (aG 4)).length≤1099511627776) :
 Calls Tryz.prog 230 #[.slice a cs.length c,.pointer (some ⟨pw,0,none⟩)] w fun e w'=>e=.returned (.tuple #[])∧Fr fw w w'∧∃ fw',eG conn ps pw w' fw' n (out++cs.flatMap (aG 4))∧Grow w fw fw':=by
 have GH:=aY _ 4 (aV 4 (by omega)) cs;have Gw:=h.chain (l:=cs.flatMap (aG 4)) (cb:=.func (.func 220) #[.slice a cs.length c] #[]) fun b fb bs hb CJ Gf=>bM.bound call220 (nO w b fb bs hb a c cs Aa (fun k hk e=>hd k hk (CJ k e)) hs (by omega))
 go_enter func230,ntmps230
 go_wp2_with (go_at_call 176;refine Gw.mono ?_;rintro e w1 ⟨rfl,h1,h2⟩)
 go_end0
 exact ⟨rfl,h1,h2⟩
theorem aGL (w:World) (r0:Nat):Calls Tryz.prog 80 #[.int .u32 (IntKind.u32.wrap r0)] w fun e w'=>e=.returned (.agg #[.int .u64 (r0 % 4294967296:Nat),.int .u64 0,.int .u64 0,.int .u64 0])∧F0 w w':=by
 have hw:IntKind.u64.wrap (IntKind.u32.wrap r0)=((r0 % 4294967296:Nat):Int):=by rw[IntKind.wrap_u64,IntKind.wrap_u32];omega
 go_enter func80,ntmps80;go_wp2
 refine bodyPost_ret (by simp[results,results80,go_sem];try rfl) rfl ?_
 exact ⟨by rw[Int.natCast_emod];rfl,(Fr.refl _ w).alloc _⟩
theorem aPm (w:World) (a:Option Addr) (k c:Nat) (cs:List Cell) (hk:k<cs.length) (Aa:w.ownsRow 0 209 1 (.slice a cs.length c) cs.length (cs.flatMap dD)) :
 Calls Tryz.prog 284 #[.slice a cs.length c,.int .i64 k] w fun e w'=>e=.returned (.int .u32 (IntKind.u32.wrap cs[k].r0))∧F0 w w':=by
 rcases Aa.2 with ⟨hv,_⟩|⟨ga,capa,cura,hv,_⟩
 · simp only[Value.slice.injEq] at hv;omega
 · simp only[Value.slice.injEq] at hv
   obtain ⟨rfl,_,rfl⟩:=hv;have hx:=Aa.cells (g:=ga) rfl k _ (sU cs k hk);simp only[dD,List.head!] at hx;rw[Addr.add_lit,Nat.zero_add] at hx;have Gz:(k:Int)<cs.length:=by omega
   go_enter func284,ntmps284;go_wp2;go_ret
   exact ⟨rfl,Fr.refl _ _⟩
theorem aMZ (w:World) (nb r0:Nat) (hf:w.cell? ⟨nb,2,none⟩=some (.func (.func 80) #[] #[])) :
 Calls Tryz.prog 437 #[.int .u32 (IntKind.u32.wrap r0),.pointer (some ⟨nb,0,none⟩)] w fun e w'=>e=.returned (.agg #[.int .u64 (r0 % 4294967296:Nat),.int .u64 0,.int .u64 0,.int .u64 0,.string ⟨#[]⟩,.bool false,.slice none 0 0,.slice none 0 0])∧F0 w w':=by
 have Ey:∀ o,(w.alloc o).cell? ⟨nb,2,none⟩=some (.func (.func 80) #[] #[]):=fun o=>(World.cell?_alloc_lt w o _ (World.block_lt_of_cell? w _ hf)).trans hf
 go_enter func437,ntmps437
 go_wp2_with (go_at_call 80;refine (aGL _ r0).mono ?_;rintro e w1 ⟨rfl,Ad⟩;have hm:=Ad.made (n:=w.heap.size) rfl;obtain ⟨c0,c1,c2,c3,c4,c5,c6,c7⟩:=bD.eight (bD.of_block hm);have z0:=fzj 0 hm;have z1:=fzj 1 hm;have z2:=fzj 2 hm;have z3:=fzj 3 hm;have z4:=fzj 4 hm;have z5:=fzj 5 hm;have z6:=fzj 6 hm;have z7:=fzj 7 hm)
 refine bodyPost_ret (by simp[results,results437,go_sem,c0,c1,c2,c3,c4,c5,c6,c7];try rfl) rfl ?_
 have Ez:=((Fr.refl (fun _=>False) w).alloc (.cells #[.int .u64 0,.int .u64 0,.int .u64 0,.int .u64 0,.string ⟨#[]⟩,.bool false,.slice none 0 0,.slice none 0 0] 35)).trans Ad (fun _ _ h=>h);have hb:∀ i,(False∨w.heap.size≤(⟨w.heap.size,i,none⟩:Addr).block):=fun _=>.inr (Nat.le_refl _)
 exact ⟨by rw[Int.natCast_emod];rfl,(((((((Ez.setCell (hb 0) _).setCell (hb 1) _).setCell (hb 2) _).setCell (hb 3) _).setCell (hb 4) _).setCell (hb 5) _).setCell (hb 6) _).setCell (hb 7) _⟩
theorem aMW (a:Addr) (w:World) {b:Option Addr} {n c:Nat} (hv:w.cell? a=some (.slice b n c)):(method mdp 263 (.pointer (some a)) "Row").run Tryz.prog w=.ok (284,.slice b n c) w:=by
 obtain ⟨n,hn⟩:=fuel;rw[hn]
 exact aQ (n:=n+1) false (by kernel_rfl) (aU underlying263 (bI underlying138 hv))
theorem aEe (w:World) (p nb:Nat) (a:Option Addr) (k c:Nat) (cs:List Cell) (hk:k<cs.length) (hp:w.cell? ⟨p,0,none⟩=some (.slice a cs.length c)) (Aa:w.ownsRow 0 209 1 (.slice a cs.length c) cs.length (cs.flatMap dD))
 (hf:w.cell? ⟨nb,2,none⟩=some (.func (.func 80) #[] #[])) :
 Calls Tryz.prog 652 #[.agg #[.iface 263 (.pointer (some ⟨p,0,none⟩)),.func (.func 436) #[] #[.pointer (some ⟨nb,0,none⟩)],.func (.func 437) #[] #[.pointer (some ⟨nb,0,none⟩)]],.int .i64 k] w fun e w' =>
  e=.returned (.agg #[.int .u64 (cs[k].r0 % 4294967296:Nat),.int .u64 0,.int .u64 0,.int .u64 0,.string ⟨#[]⟩,.bool false,.slice none 0 0,.slice none 0 0])∧F0 w w':=by
 have Ag:=fun W (Aw:F0 w W)=>aF.of1 (name:= "Row") (aMW ⟨p,0,none⟩ W.drew (Aw.drew.aA hp (fun h=>h))) call284 (aPm W.drew a k c cs hk (Aw.drew.owns Aa (fun _ _ h=>h)))
 generalize cs[k].r0=r0 at Ag ⊢;clear hp Aa hk;have Ag:=Lib.hid Ag;go_enter func652,ntmps652
 go_wp2_with fail
 generalize hW:(w.alloc _).alloc _=W;have Af:F0 w W:=by subst hW;exact ((Fr.refl _ w).alloc _).alloc _
 have d0:W.cell? ⟨w.heap.size,0,none⟩=some (.iface 263 (.pointer (some ⟨p,0,none⟩))):=by subst hW;rw[ca (by simp),aB rfl];rfl
 have d2:W.cell? ⟨w.heap.size,2,none⟩=some (.func (.func 437) #[] #[.pointer (some ⟨nb,0,none⟩)]):=by subst hW;rw[ca (by simp),aB rfl];rfl
 have Di:W.heap[w.heap.size+1]?=some (.cells #[.int .u64 0,.int .u64 0,.int .u64 0,.int .u64 0,.string ⟨#[]⟩,.bool false,.slice none 0 0,.slice none 0 0] 35 (0,0)):=by subst hW;exact Fr.made (Fr.refl _ _) (by simp)
 have Aw:=Af.aA hf (fun h=>h);clear hW
 go_region_law
  (first
   | (refine aK _ rfl ?_;refine bH _ _ _ _ _ rfl _ _ rfl (Ag.out W Af) rfl ?_;rintro e w1 ⟨rfl,BL⟩;have Ad:=BL.aH;have d2':=Ad.aA d2 (fun h=>h);refine ⟨_,rfl,?_⟩)
   | (refine aK _ rfl ?_;refine dI _ _ _ _ rfl _ _ rfl (bM.func1 call437 (aMZ _ nb r0 (Ad.aA Aw (fun h=>h)))) rfl ?_;rintro e w2 ⟨rfl,Au⟩;have Ae:F0 W w2:=Ad.trans Au (fun _ _ h=>h);have AB:=(Ae.block _ (aC Di) (fun h=>h)).trans Di;obtain ⟨c0,c1,c2,c3,c4,c5,c6,c7⟩:=bD.eight (bD.of_block AB);have z0:=fzj 0 AB;have z1:=fzj 1 AB;have z2:=fzj 2 AB;have z3:=fzj 3 AB;have z4:=fzj 4 AB;have z5:=fzj 5 AB;have z6:=fzj 6 AB;have z7:=fzj 7 AB;refine ⟨_,rfl,?_⟩))
 all_goals (try simp only[Exit.then])
 all_goals
  refine (‹∀ (a:Act) (w:World),Code.wp _ Code.ret _ a w→_› _ _ ?_)
  refine wp_ret ?_
  show bodyPost _ _ _ _ _ _
  refine bodyPost_ret (by simp[results,results652,go_sem,c0,c1,c2,c3,c4,c5,c6,c7];try rfl) rfl ?_
  have hb:∀ i,(False∨w.heap.size≤(⟨w.heap.size+1,i,none⟩:Addr).block):=fun _=>.inr (Nat.le_succ _)
  exact ⟨by rw[Int.natCast_emod];rfl,(((((((((Af.trans Ae (fun _ _ h=>h)).setCell (hb 0) _).setCell (hb 1) _).setCell (hb 2) _).setCell (hb 3) _).setCell (hb 4) _).setCell (hb 5) _).setCell (hb 6) _).setCell (hb 7) _)⟩
abbrev aHF (p nb:Nat):Value:=.agg #[.iface 263 (.pointer (some ⟨p,0,none⟩)),.func (.func 436) #[] #[.pointer (some ⟨nb,0,none⟩)],.func (.func 437) #[] #[.pointer (some ⟨nb,0,none⟩)]]
theorem aJO (p nb:Nat) (w:World):(method mdp 578 (aHF p nb) "Row").run Tryz.prog w=.ok (652,aHF p nb) w:=by kernel_rfl
theorem aMX (p nb:Nat) (w:World) (v:Value) (hv:w.cell? ⟨p,0,none⟩=some v):(method mdp 578 (aHF p nb) "WriteColumn").run Tryz.prog w=.ok (230,v) w:=by
 obtain ⟨n,hn⟩:=fuel;rw[hn]
 refine (aX (n:=n+1) underlying578 rfl rfl (fun _=>by kernel_rfl) (by kernel_rfl) rfl).trans ?_
 exact aQ (n:=n) false (by kernel_rfl) (aU underlying263 (bI underlying138 hv))
theorem aJM (p nb:Nat):fU Tryz.prog 138 209 578 1 dD (.func (.func 80) #[] #[]) p nb (aHF p nb) (.num .u32) where
 write:=fun hp Aa hs CY hd hl hn=>(aF.of1 (aMX p nb _ _ hp) call230 (aBv CY _ _ _ Aa (fun k hk=>(hd k hk).1) (fun c hc=>(hs c hc).1) hl)).mono fun e w' ⟨h1,h2,fw',h3,h4⟩=>⟨h1,h2,fw',h3.more (Nat.le_add_right _ _),h4⟩
 row:=fun {w a c k cs} hk hp Aa hs hf=>(aF.of1 (aJO p nb w) call652 (aEe w p nb a k c cs hk hp Aa hf)).mono fun e w' ⟨h1,h2⟩=>⟨.mk (cs[k].r0 % 4294967296) 0 0 0 ⟨#[]⟩ false [] [],iF (by omega),h1,h2,iO rfl (by decide) rfl⟩
end Go.Proofs.YtcidlnjpabgioaaGreatDoor
