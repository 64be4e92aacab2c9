import Derived.Deep.RegionLaw
import Derived.Test.YtcidlnjpabgioaaGreatDoorUGWa
set_option maxHeartbeats 1000000
set_option maxRecDepth 100000
namespace Go.Proofs.YtcidlnjpabgioaaGreatDoor
open Tryz List Go.RowKit
theorem aNi:ElT Tryz.prog 128 5 (.int .u8 0) 1 1:=⟨underlying128,info_parts (by kernel_rfl),rfl⟩
theorem aNj:ElT Tryz.prog 22 5 (.int .u8 0) 1 1:=⟨underlying22,info_parts (by kernel_rfl),rfl⟩
theorem aJT (w:World) (p:Nat) (n:Nat) (xs:List Value) (fp:Nat→Prop) (hc:aJ w p 128 5 1 n xs fp) (hn:n<2147483648) (x:Int) :
 Calls Tryz.prog 194 #[.pointer (some ⟨p,0,none⟩),.int .u8 x] w fun e w'=>e=.returned (.tuple #[])∧(∃ fp',aJ w' p 128 5 1 (n+1) (xs++[.int .u8 x]) fp'∧Grow w fp fp')∧Fr fp w w':=by
 obtain ⟨v,hp,Aa,Am,Aj⟩:=hc;obtain ⟨Ac,BH⟩:=aJ.cell hp;obtain ⟨a0,c0,rfl⟩:=ownsRow_shape Aa;have AZ:=aC hp
 have Be:Src Tryz.prog 1 128 (.slice (some ⟨w.heap.size,0,none⟩) 1 1) 1 [.int .u8 x] (w.alloc (.cells [.int .u8 x].toArray 5)) :=
  Src.ofSlice _ underlying128 _ _ _ _ rfl (bG _ _ _) (by simp[Value.oneCell'])
 go_enter func194,ntmps194
 go_wp2_with ((with_reducible show wpList _ _ _ (⟨some 10,_,_,_,_,_⟩ :: _) _ _);(refine aP _ rfl aNi _ _ rfl _ _ _ rfl (Aa.alloc _) _ _ _ rfl Be ?_ ?_ ?_);(unfold maxLen;omega);omega;intro v' w1 ha;obtain ⟨a',c',rfl⟩:=ha.shape;have Cj:w1.cell? ⟨p,0,none⟩=some (.slice a0 n c0):=ha.2.1.cell (by simpa using (World.cell?_alloc_lt w _ _ AZ).trans Ac) (fun h=>Am h.symm);have Ad:w1.frozen? ⟨p,0,none⟩=false:=(World.frozen?_of_block (ha.2.1.block p (by simp;omega) (fun h=>Am h.symm))).trans (by rw[World.frozen?_alloc_old _ _ _ (by simp;omega)];exact BH))
 go_end0
 exact ⟨rfl,aJ.appended hp Aa Am Aj ((Fr.refl _ w).alloc _) ha⟩
theorem aCC (w:World) (p:Nat) (n:Nat) (xs:List Value) (fp:Nat→Prop) (hc:aJ w p 128 5 1 n xs fp) (m:Nat) (sv:Value) (news:List Value) (Be:Src Tryz.prog 1 22 sv m news w) (hn:n+m≤2147483648) :
 Calls Tryz.prog 410 #[.pointer (some ⟨p,0,none⟩),sv] w fun e w'=>e=.returned (.tuple #[])∧(∃ fp',aJ w' p 128 5 1 (n+m) (xs++news) fp'∧Grow w fp fp')∧Fr fp w w':=by
 obtain ⟨v,hp,Aa,Am,Aj⟩:=hc;obtain ⟨Ac,BH⟩:=aJ.cell hp;obtain ⟨a0,c0,rfl⟩:=ownsRow_shape Aa;go_enter func410,ntmps410
 go_wp2_with ((with_reducible show wpList _ _ _ (⟨some 9,_,_,_,_,_⟩ :: _) _ _);(refine aP _ rfl aNi _ _ rfl _ _ _ rfl Aa _ _ _ rfl Be ?_ ?_ ?_);(unfold maxLen;omega);omega;intro v' w1 ha;obtain ⟨a',c',rfl⟩:=ha.shape;have Cj:w1.cell? ⟨p,0,none⟩=some (.slice a0 n c0):=ha.2.1.cell Ac (fun h=>Am h.symm);have Ad:w1.frozen? ⟨p,0,none⟩=false:=(World.frozen?_of_block (ha.2.1.block p (aC hp) (fun h=>Am h.symm))).trans BH)
 go_end0
 exact ⟨rfl,aJ.appended hp Aa Am Aj (Fr.refl _ w) ha⟩
theorem aPp (w:World) (r0 r1 r2 r3:Nat) (_h0:r0<18446744073709551616):Calls Tryz.prog 75 #[.agg #[.int .u64 r0,.int .u64 r1,.int .u64 r2,.int .u64 r3]] w fun e w'=>e=.returned (.int .u8 (IntKind.u8.wrap r0))∧F0 w w':=by
 go_enter func75,ntmps75;go_wp2;go_ret
 exact ⟨rfl,(Fr.refl _ w).alloc _⟩
theorem u8_in (w:World) (nb:Nat) (r0 r1 r2 r3:Nat) (h0:r0<18446744073709551616) (s:ByteArray) (null:Bool) (iv kv:Value) (hf:w.cell? ⟨nb,1,none⟩=some (.func (.func 75) #[] #[])) :
 Calls Tryz.prog 416 #[.agg #[.int .u64 r0,.int .u64 r1,.int .u64 r2,.int .u64 r3,.string s,.bool null,iv,kv],.pointer (some ⟨nb,0,none⟩)] w fun e w'=>e=.returned (.int .u8 (IntKind.u8.wrap r0))∧F0 w w':=by
 have Ey:∀ o,(w.alloc o).cell? ⟨nb,1,none⟩=some (.func (.func 75) #[] #[]):=fun o=>(World.cell?_alloc_lt w o _ (World.block_lt_of_cell? w _ hf)).trans hf
 have Ed:=aPp (w.alloc (.cells #[.int .u64 r0,.int .u64 r1,.int .u64 r2,.int .u64 r3,.string s,.bool null,iv,kv] 35)) r0 r1 r2 r3 h0;go_enter func416,ntmps416
 go_wp2_with (go_at_call 75;refine Ed.mono ?_;rintro e w' ⟨rfl,Ak⟩)
 go_ret
 exact ⟨rfl,((Fr.refl _ w).alloc _).trans Ak (fun _ _ h=>h)⟩
theorem aEj (a:Addr) (w:World):(method mdp 249 (.pointer (some a)) "Append").run Tryz.prog w=.ok (194,.pointer (some a)) w:=by kernel_rfl
theorem aAa (a:Addr) (w:World):(method mdp 249 (.pointer (some a)) "AppendArr").run Tryz.prog w=.ok (410,.pointer (some a)) w:=by kernel_rfl
theorem aAO (w:World) (p nb:Nat) (n:Nat) (xs:List Value) (fp:Nat→Prop) (hc:aJ w p 128 5 1 n xs fp) (hn:n<2147483648) (hf:w.cell? ⟨nb,1,none⟩=some (.func (.func 75) #[] #[]))
 (r0 r1 r2 r3:Nat) (h0:r0<18446744073709551616) (s:ByteArray) (null:Bool) (iv kv:Value) :
 Calls Tryz.prog 642 #[.agg #[.iface 249 (.pointer (some ⟨p,0,none⟩)),.func (.func 416) #[] #[.pointer (some ⟨nb,0,none⟩)],.func (.func 417) #[] #[.pointer (some ⟨nb,0,none⟩)]],.agg #[.int .u64 r0,.int .u64 r1,.int .u64 r2,.int .u64 r3,.string s,.bool null,iv,kv]] w fun e w' =>
  e=.returned (.tuple #[])∧(∃ fp',aJ w' p 128 5 1 (n+1) (xs++[.int .u8 (IntKind.u8.wrap r0)]) fp'∧Grow w fp fp')∧Fr fp w w':=by
 go_enter func642,ntmps642
 go_wp2_with fail
 generalize hW:(w.alloc _).alloc _=W;have Af:F0 w W:=by subst hW;exact ((Fr.refl _ w).alloc _).alloc _
 have d0:W.cell? ⟨w.heap.size,0,none⟩=some (.iface 249 (.pointer (some ⟨p,0,none⟩))):=by subst hW;rw[ca (by simp),aB rfl];rfl
 have d1:W.cell? ⟨w.heap.size,1,none⟩=some (.func (.func 416) #[] #[.pointer (some ⟨nb,0,none⟩)]):=by subst hW;rw[ca (by simp),aB rfl];rfl
 have e0:W.cell? ⟨w.heap.size+1,0,none⟩=some (.int .u64 r0):=by subst hW;rw[aB (by simp)];rfl
 have e1:W.cell? ⟨w.heap.size+1,1,none⟩=some (.int .u64 r1):=by subst hW;rw[aB (by simp)];rfl
 have e2:W.cell? ⟨w.heap.size+1,2,none⟩=some (.int .u64 r2):=by subst hW;rw[aB (by simp)];rfl
 have e3:W.cell? ⟨w.heap.size+1,3,none⟩=some (.int .u64 r3):=by subst hW;rw[aB (by simp)];rfl
 have e4:W.cell? ⟨w.heap.size+1,4,none⟩=some (.string s):=by subst hW;rw[aB (by simp)];rfl
 have e5:W.cell? ⟨w.heap.size+1,5,none⟩=some (.bool null):=by subst hW;rw[aB (by simp)];rfl
 have e6:W.cell? ⟨w.heap.size+1,6,none⟩=some iv:=by subst hW;rw[aB (by simp)];rfl
 have e7:W.cell? ⟨w.heap.size+1,7,none⟩=some kv:=by subst hW;rw[aB (by simp)];rfl
 have BA:aJ W p 128 5 1 n xs fp:=hc.aW fun k hk=>Af.block k (hc.lt k hk) (fun h=>h)
 have Aw:W.cell? ⟨nb,1,none⟩=some (.func (.func 75) #[] #[]):=Af.aA hf (fun h=>h);have hN:¬ fp w.heap.size:=fun h=>by have:=hc.lt _ h;omega
 have AU:¬ fp (w.heap.size+1):=fun h=>by have:=hc.lt _ h;omega
 clear hW
 go_region_held3 (fun w'=>w'.cell? ⟨w.heap.size,0,none⟩=some (.iface 249 (.pointer (some ⟨p,0,none⟩)))∧w'.cell? ⟨w.heap.size,1,none⟩=some (.func (.func 416) #[] #[.pointer (some ⟨nb,0,none⟩)]) ∧
  w'.cell? ⟨w.heap.size+1,0,none⟩=some (.int .u64 r0)∧w'.cell? ⟨w.heap.size+1,1,none⟩=some (.int .u64 r1)∧w'.cell? ⟨w.heap.size+1,2,none⟩=some (.int .u64 r2)∧w'.cell? ⟨w.heap.size+1,3,none⟩=some (.int .u64 r3) ∧
  w'.cell? ⟨w.heap.size+1,4,none⟩=some (.string s)∧w'.cell? ⟨w.heap.size+1,5,none⟩=some (.bool null)∧w'.cell? ⟨w.heap.size+1,6,none⟩=some iv∧w'.cell? ⟨w.heap.size+1,7,none⟩=some kv)
  (first
   | exact ⟨d0,d1,e0,e1,e2,e3,e4,e5,e6,e7⟩
   | exact ⟨Ae.aA d0 hN,Ae.aA d1 hN,Ae.aA e0 AU,Ae.aA e1 AU,Ae.aA e2 AU,Ae.aA e3 AU,Ae.aA e4 AU,Ae.aA e5 AU,Ae.aA e6 AU,Ae.aA e7 AU⟩
   | exact ⟨Ad.aA d0 (fun h=>h),Ad.aA d1 (fun h=>h),Ad.aA e0 (fun h=>h),Ad.aA e1 (fun h=>h),Ad.aA e2 (fun h=>h),Ad.aA e3 (fun h=>h),Ad.aA e4 (fun h=>h),Ad.aA e5 (fun h=>h),Ad.aA e6 (fun h=>h),Ad.aA e7 (fun h=>h)⟩
   | assumption)
  (first
   | (refine aK _ rfl ?_;refine dI _ _ _ _ rfl _ _ rfl (bM.func1 call416 (u8_in _ nb r0 r1 r2 r3 h0 s null iv kv Aw)) rfl ?_;rintro e w1 ⟨rfl,Ad⟩;refine ⟨_,rfl,?_⟩)
   | (refine aK _ rfl ?_;refine bH _ _ _ _ _ rfl _ _ rfl (aF.of1 (aEj _ _) call194 (aJT _ p n xs fp (BA.aW fun k hk=>Ad.block k (BA.lt k hk) (fun h=>h)) hn (IntKind.u8.wrap r0))) rfl ?_;rintro e w2 ⟨rfl,Aq,Au⟩;have Ae:Fr fp W w2:=(Ad.aH.mono (fun _ _ h=>h.elim)).trans Au (fun _ _ h=>h);refine ⟨_,rfl,?_⟩))
 all_goals
  go_end0
  refine ⟨rfl,?_,(Af.mono (fun _ _ h=>h.elim)).trans Ae (fun _ _ h=>h)⟩;obtain ⟨fp',h1,h2⟩:=Aq
  exact ⟨fp',h1,fun k hk=>(h2 k hk).imp id (fun h=>Nat.le_trans (Nat.le_trans Af.size Ad.size) h)⟩
def dF (c:Cell):List Value:=[.int .u8 (IntKind.u8.wrap c.r0)]
theorem aJX (w:World) (B nb:Nat) (Bd:B≤w.heap.size) (hf:w.cell? ⟨nb,1,none⟩=some (.func (.func 75) #[] #[])) (cs:List Cell) (v:Value) (xs:List Value) (hs:Sl B w 8 v cs.length xs) (hc:aI B w cs xs) (hn:cs.length≤2147483648) :
 Calls Tryz.prog 645 #[v,.func (.func 416) #[] #[.pointer (some ⟨nb,0,none⟩)]] w fun e w'=>∃ tv,e=.returned tv∧w'.ownsRow 0 5 1 tv cs.length (cs.flatMap dF)∧F0 w w':=by
 have CB:=hs;obtain ⟨Dy,ao,cap,rfl,BF,AP,h0,ha⟩:=hs;unfold maxLen at AP;clear ha h0 Dy;go_enter func645,ntmps645;go_wp2
 go_loopw [5,10] (fun tv i wr=>∃ k:Nat,k≤cs.length∧i=.int .i64 k∧wr.ownsRow 0 5 1 tv k ((cs.take k).flatMap dF)∧(∀ q,tv.ownBlock=some q→w.heap.size≤q)∧F0 w wr) (fun _ i _=>cs.length - (intOf i).toNat)
 case atStart=>exact ⟨0,Nat.zero_le _,rfl,World.ownsRow_nil _ _ _ _,by simp[Value.ownBlock],Fr.refl _ _⟩
 case round =>
  obtain ⟨k,hk,rfl,Aa,Ai,Ak⟩:=hrel;have Bf:Below B w wr:=Ak.below Bd (fun _ _ h=>h);obtain ⟨a0,c0,rfl⟩:=ownsRow_shape Aa
  by_cases Ar:k<cs.length
  · obtain ⟨b,off,cap',hv,FT,vs,AQ,Ac⟩:=(CB.below Bf).row (aI.below Bf _ _ hc) Ar
    have Ah:=Lib.hid (bQ dF cs k Ar);generalize cs[k]=c at AQ Ah;obtain ⟨ia,il,ic,ka,kl,kc,rfl,h0,h1,h2,h3,h4⟩:=AQ.open;simp only[Value.slice.injEq] at hv;obtain ⟨rfl,_,rfl⟩:=hv;have d0:=Ac 0 _ rfl;have d1:=Ac 1 _ rfl;have d2:=Ac 2 _ rfl;have d3:=Ac 3 _ rfl;have d4:=Ac 4 _ rfl;have d5:=Ac 5 _ rfl;have d6:=Ac 6 _ rfl;have d7:=Ac 7 _ rfl;simp only[Nat.add_zero] at d0;have BM:F0 w (wr.alloc (.cells #[.int .u64 c.r0,.int .u64 c.r1,.int .u64 c.r2,.int .u64 c.r3,.string c.s,.bool c.null,.slice ia il ic,.slice ka kl kc] 35)):=Ak.alloc _;have EN:=u8_in _ nb c.r0 c.r1 c.r2 c.r3 h0 c.s c.null (.slice ia il ic) (.slice ka kl kc) (BM.aA hf (fun h=>h));clear Ac AQ CB hc
    go_wp2_with (first|((with_reducible show wpList _ _ _ (⟨some 17,_,_,_,_,_⟩ :: _) _ _);refine dG _ rfl _ _ _ rfl _ _ rfl (bM.func1 call416 EN) rfl ?_;rintro e w1 ⟨rfl,Ad⟩;refine ⟨_,rfl,?_⟩;have Bv:F0 w w1:=BM.trans Ad (fun _ _ h=>h);have Ba:=Ad.owns ((Fr.refl (fun _=>False) wr).alloc _ |>.owns Aa (fun _ _ h=>h)) (fun _ _ h=>h))|((with_reducible show wpList _ _ _ (⟨some 19,_,_,_,_,_⟩ :: _) _ _);refine aP _ rfl aNj _ _ rfl _ _ _ rfl (Ba.alloc _) _ _ _ rfl (Src.ofSlice _ underlying22 _ _ _ _ rfl (bG _ [.int .u8 (IntKind.u8.wrap c.r0)] _) (by simp[Value.oneCell'])) ?_ ?_ ?_;(unfold maxLen;omega);omega;intro v' w2 ha;obtain ⟨a',c',rfl⟩:=ha.shape))
    go_roundw
    case rel=>exact ⟨k+1,by omega,by go_num,by rw[Ah.out];exact ha.1,(ha.since (Bv.alloc _) Ai).1,(ha.since (Bv.alloc _) Ai).2⟩
    case measure=>simp[intOf];omega
  · have Bl:k=cs.length:=by omega
    subst Bl;rw[take_length] at Aa;go_wp2;go_ret
    exact ⟨_,rfl,Aa,Ak⟩
theorem sZ (cs:List Cell):∀ u∈cs.flatMap dF,u.oneCell'=true:=by
 intro u hu;obtain ⟨c,_,hc⟩:=mem_flatMap.1 hu;simp only[dF,mem_cons,not_mem_nil,or_false] at hc;subst hc;rfl
theorem uY (w:World) (B p nb:Nat) (Bd:B≤w.heap.size) (n:Nat) (xs:List Value) (fp:Nat→Prop) (hc:aJ w p 128 5 1 n xs fp) (hf:w.cell? ⟨nb,1,none⟩=some (.func (.func 75) #[] #[]))
 (cs:List Cell) (v:Value) (ys:List Value) (hs:Sl B w 8 v cs.length ys) (A8:aI B w cs ys) (hn:n+cs.length≤2147483648) :
 Calls Tryz.prog 643 #[.agg #[.iface 249 (.pointer (some ⟨p,0,none⟩)),.func (.func 416) #[] #[.pointer (some ⟨nb,0,none⟩)],.func (.func 417) #[] #[.pointer (some ⟨nb,0,none⟩)]],v] w fun e w' =>
  e=.returned (.tuple #[])∧(∃ fp',aJ w' p 128 5 1 (n+cs.length) (xs++cs.flatMap dF) fp'∧Grow w fp fp')∧Fr fp w w':=by
 go_enter func643,ntmps643
 go_wp2_with fail
 generalize hW:w.alloc _=W;have Af:F0 w W:=by subst hW;exact (Fr.refl _ w).alloc _
 have d0:W.cell? ⟨w.heap.size,0,none⟩=some (.iface 249 (.pointer (some ⟨p,0,none⟩))):=by subst hW;rw[aB rfl];rfl
 have d1:W.cell? ⟨w.heap.size,1,none⟩=some (.func (.func 416) #[] #[.pointer (some ⟨nb,0,none⟩)]):=by subst hW;rw[aB rfl];rfl
 have BA:aJ W p 128 5 1 n xs fp:=hc.aW fun k hk=>Af.block k (hc.lt k hk) (fun h=>h)
 have Aw:W.cell? ⟨nb,1,none⟩=some (.func (.func 75) #[] #[]):=Af.aA hf (fun h=>h);have hN:¬ fp w.heap.size:=fun h=>by have:=hc.lt _ h;omega
 have D6:=hs.fr Bd Af;have Cf:=aI.below (Af.below Bd (fun _ _ h=>h)) _ _ A8;have CZ:B≤W.heap.size:=Nat.le_trans Bd Af.size;have EX:=D6.fr CZ (Fr.refl (fun _=>False) W).drew;have Ce:=aI.below ((Below.refl B W).drew) _ _ Cf;clear hW hs A8
 go_region_held3 (fun w'=>w'.cell? ⟨w.heap.size,0,none⟩=some (.iface 249 (.pointer (some ⟨p,0,none⟩)))∧w'.cell? ⟨w.heap.size,1,none⟩=some (.func (.func 416) #[] #[.pointer (some ⟨nb,0,none⟩)]))
  (first
   | exact ⟨d0,d1⟩
   | exact ⟨Ae.aA d0 hN,Ae.aA d1 hN⟩
   | exact ⟨Ad.aA d0 (fun h=>h),Ad.aA d1 (fun h=>h)⟩
   | assumption)
  (first
   | (go_at_call 645;refine (aJX W.drew B nb CZ Aw cs v ys EX Ce (by omega)).mono ?_;rintro e w1 ⟨tv,rfl,Aa,Ad⟩)
   | (refine aK _ rfl ?_;refine bH _ _ _ _ _ rfl _ _ rfl (aF.of1 (aAa _ _) call410 (aCC _ p n xs fp (BA.aW fun k hk=>Ad.block k (BA.lt k hk) (fun h=>h)) _ _ _ (Src.kC underlying22 Aa (sZ cs)) hn)) rfl ?_;rintro e w2 ⟨rfl,Aq,Au⟩;have Ae:Fr fp W w2:=(Ad.aH.mono (fun _ _ h=>h.elim)).trans Au (fun _ _ h=>h);refine ⟨_,rfl,?_⟩))
 all_goals
  go_end0
  refine ⟨rfl,?_,(Af.mono (fun _ _ h=>h.elim)).trans Ae (fun _ _ h=>h)⟩;obtain ⟨fp',h1,h2⟩:=Aq
  exact ⟨fp',h1,fun k hk=>(h2 k hk).imp id (fun h=>Nat.le_trans (Nat.le_trans Af.size Ad.size) h)⟩
theorem aHH (w:World) (a:Option Addr) (n c:Nat):Calls Tryz.prog 197 #[.slice a n c] w fun e w'=>e=.returned (.int .i64 n)∧F0 w w':=by
 go_enter func197,ntmps197;go_wp2;go_ret
 exact ⟨rfl,Fr.refl _ _⟩
theorem zY (cs:List Cell):cs.flatMap dF=aN (cs.flatMap (aG 1)):=by
 induction cs with
 | nil=>rfl
 | cons c cs ih =>
  rw[flatMap_cons,flatMap_cons,bC,ih,dO 1 (by omega)]
  congr 1
  simp only[dF,aN,Lib.leBytes,List.map,Lib.toUInt8_mod];rw[IntKind.wrap_u8'];simp
theorem zZ (w:World) (b:Nat) (fb:Nat→Prop) (bs:List UInt8) (hb:Buf w b fb bs) (a:Option Addr) (c:Nat) (cs:List Cell) (Aa:w.ownsRow 0 5 1 (.slice a cs.length c) cs.length (cs.flatMap dF))
 (_hd:∀ k,(Value.slice a cs.length c).ownBlock=some k→¬ fb k) (_hc:∀ c∈cs,c.r0<18446744073709551616) (hl:bs.length+1*cs.length≤1099511627776) :
 Calls Tryz.prog 195 #[.slice a cs.length c,.pointer (some ⟨b,0,none⟩)] w fun e w'=>e=.returned (.tuple #[])∧Fr fb w w'∧∃ fb',Buf w' b fb' (bs++cs.flatMap (aG 1))∧Grow w fb fb'∧Kept w w' b bs.length:=by
 by_cases h0:cs.length=0
 · have A8:cs=[]:=eq_nil_of_length_eq_zero (by omega)
   subst A8;go_enter func195,ntmps195;go_wp2
   try simp only[Exit.inBlock,Exit.then]
   refine bodyPost_ret (results_none rfl _ _ _) rfl ?_
   exact ⟨rfl,Fr.refl _ _,fb,by simpa using hb,fun k hk=>.inl hk,Kept.refl _ _ _⟩
 · have Ei:=hb
   obtain ⟨v,hp,Bh,Am,Aj⟩:=Ei;obtain ⟨Ac,BH⟩:=aJ.cell hp;obtain ⟨a0,c0,rfl⟩:=ownsRow_shape Bh;have AZ:=aC hp;have AP:cs.length≤9223372036854775807:=by omega
   have Be:Src Tryz.prog 1 128 (.slice a cs.length c) cs.length (cs.flatMap dF) w:=Src.kC underlying128 Aa (sZ cs);go_enter func195,ntmps195
   go_wp2_with ((with_reducible show wpList _ _ _ (⟨some 15,_,_,_,_,_⟩ :: _) _ _);(refine aP _ rfl gY _ _ rfl _ _ _ rfl Bh _ _ _ rfl Be ?_ ?_ ?_);(unfold maxLen;omega);omega;intro v' w1 ha;obtain ⟨a',c',rfl⟩:=ha.shape;have Cj:w1.cell? ⟨b,0,none⟩=some (.slice a0 bs.length c0):=ha.2.1.cell Ac (fun h=>Am h.symm);have Ad:w1.frozen? ⟨b,0,none⟩=false:=(World.frozen?_of_block (ha.2.1.block b AZ (fun h=>Am h.symm))).trans BH)
   obtain ⟨⟨fb',Aq,AX⟩,Ak⟩:=aJ.appended hp Bh Am Aj (Fr.refl _ w) ha;have D5:=Kept.appended hp Bh Am (Fr.refl _ w) ha;go_end0;rw[zY,← bC] at Aq;have AA:(bs++cs.flatMap (aG 1)).length=bs.length+cs.length:=by rw[length_append,aY _ 1 (aV 1 (by omega))];omega
   exact ⟨rfl,Ak,fb',Buf.col.2 (by rw[AA];exact Aq),AX,D5⟩
theorem aBx (w:World) (b:Nat) (fb:Nat→Prop) (bs:List UInt8) (hb:Buf w b fb bs) (a:Option Addr) (c:Nat) (cs:List Cell) (Aa:w.ownsRow 0 5 1 (.slice a cs.length c) cs.length (cs.flatMap dF))
 (_hd:∀ k,(Value.slice a cs.length c).ownBlock=some k→¬ fb k) (_hc:∀ c∈cs,c.r0<18446744073709551616) (hl:bs.length+1*cs.length≤1099511627776) :
 Calls Tryz.prog 195 #[.slice a cs.length c,.pointer (some ⟨b,0,none⟩)] w fun e w'=>e=.returned (.tuple #[])∧Fr fb w w'∧∃ fb',Buf w' b fb' (bs++cs.flatMap (aG 1))∧Grow w fb fb' :=
 (zZ w b fb bs hb a c cs Aa _hd _hc hl).mono fun _ _ ⟨h1,h2,fb',h3,h4,_⟩=>⟨h1,h2,fb',h3,h4⟩
def u8R:Nat→Nat→Nat→World→(Nat→Prop)→List Cell→Prop:=gZ 128 5 1 dF (.func (.func 75) #[] #[]) (.func (.func 76) #[] #[])
theorem aEk (p nb:Nat) (w:World) (name:String) (f:FuncId) (h:(name,f)=("Append",642)∨(name,f)=("AppendArr",643)):(method mdp 566 (.agg #[.iface 249 (.pointer (some ⟨p,0,none⟩)),.func (.func 416) #[] #[.pointer (some ⟨nb,0,none⟩)],.func (.func 417) #[] #[.pointer (some ⟨nb,0,none⟩)]]) name).run Tryz.prog w=.ok (f,.agg #[.iface 249 (.pointer (some ⟨p,0,none⟩)),.func (.func 416) #[] #[.pointer (some ⟨nb,0,none⟩)],.func (.func 417) #[] #[.pointer (some ⟨nb,0,none⟩)]]) w:=by
 rcases h with h|h<;>(simp only[Prod.mk.injEq] at h;obtain ⟨rfl,rfl⟩:=h;kernel_rfl)
theorem aJV (p nb:Nat) (w:World) (v:Value) (hv:w.cell? ⟨p,0,none⟩=some v):(method mdp 566 (.agg #[.iface 249 (.pointer (some ⟨p,0,none⟩)),.func (.func 416) #[] #[.pointer (some ⟨nb,0,none⟩)],.func (.func 417) #[] #[.pointer (some ⟨nb,0,none⟩)]]) "Rows").run Tryz.prog w=.ok (197,v) w:=by
 obtain ⟨n,hn⟩:=fuel;rw[hn]
 refine (aX (n:=n+1) underlying566 rfl rfl (fun _=>by kernel_rfl) (by kernel_rfl) rfl).trans ?_
 exact aQ (n:=n) false (by kernel_rfl) (aU underlying249 (bI underlying128 hv))
theorem aNm (p nb:Nat) (w:World) (v:Value) (hv:w.cell? ⟨p,0,none⟩=some v):(method mdp 566 (.agg #[.iface 249 (.pointer (some ⟨p,0,none⟩)),.func (.func 416) #[] #[.pointer (some ⟨nb,0,none⟩)],.func (.func 417) #[] #[.pointer (some ⟨nb,0,none⟩)]]) "EncodeColumn").run Tryz.prog w=.ok (195,v) w:=by
 obtain ⟨n,hn⟩:=fuel;rw[hn]
 refine (aX (n:=n+1) underlying566 rfl rfl (fun _=>by kernel_rfl) (by kernel_rfl) rfl).trans ?_
 exact aQ (n:=n) false (by kernel_rfl) (aU underlying249 (bI underlying128 hv))
theorem aOr (p nb:Nat):iI Tryz.prog 128 5 566 1 dF (.func (.func 75) #[] #[]) p nb (.agg #[.iface 249 (.pointer (some ⟨p,0,none⟩)),.func (.func 416) #[] #[.pointer (some ⟨nb,0,none⟩)],.func (.func 417) #[] #[.pointer (some ⟨nb,0,none⟩)]]) (.num .u8) where
 append:=fun w n xs fp hc hn hf c iv kv hs=>aF.of1 (aEk p nb w _ _ (.inl rfl)) call642 (aAO w p nb n xs fp hc hn hf c.r0 c.r1 c.r2 c.r3 hs.1 c.s c.null iv kv)
 appendArr:=fun w B n xs fp hB hc hf cs v ys hs A8 hn=>aF.of1 (aEk p nb w _ _ (.inr rfl)) call643 (uY w B p nb hB n xs fp hc hf cs v ys hs A8 hn)
 rows:=fun w a n c hp=>aF.of0 (aJV p nb w _ hp) call197 (aHH w a n c)
 flat:=by rintro w name (rfl|rfl|rfl) n m<;>exact fC underlying566 rfl rfl (fun _=>by kernel_rfl) (by kernel_rfl) rfl (by kernel_rfl) n m
 ahead:=fun w=>by kernel_rfl
 prep:=fun x w=>run_typeAssert_lacksB underlying102 (by kernel_rfl) (by kernel_rfl) _ x w
 stat:=fun x w=>run_typeAssert_lacksB underlying172 (by kernel_rfl) (by kernel_rfl) _ x w
 encode:=fun w b fb bs a c cs hb hp Aa hd hs hl=>aF.of1 (aNm p nb w _ hp) call195 (zZ w b fb bs hb a c cs Aa hd (fun c hc=>(hs c hc).1)
  (by have GH:(enc (.num .u8) cs).length=1*cs.length:=aY _ 1 (aV 1 (by omega)) cs;omega))
theorem aOw (B p nb:Nat):ColSpec Tryz.prog B 566 (.agg #[.iface 249 (.pointer (some ⟨p,0,none⟩)),.func (.func 416) #[] #[.pointer (some ⟨nb,0,none⟩)],.func (.func 417) #[] #[.pointer (some ⟨nb,0,none⟩)]]) (.num .u8) [] (u8R B p nb) (u8R B p nb):=(aOr p nb).spec
theorem aJU (w:World):Calls Tryz.prog 50 #[.int .i64 7] w fun e w'=>e=.returned (.iface 255 (.agg #[.iface 249 (.pointer (some ⟨w.heap.size,0,none⟩)),.func (.func 75) #[] #[],.func (.func 76) #[] #[]]))∧w'=w.alloc (.cells #[.slice none 0 0] 128):=by
 go_enter func50,ntmps50;go_wp2;go_ret
 exact ⟨rfl,rfl⟩
theorem aGV (w:World) (p:Nat):(method mdp 255 (.agg #[.iface 249 (.pointer (some ⟨p,0,none⟩)),.func (.func 75) #[] #[],.func (.func 76) #[] #[]]) "given.example/pub-bradawl/impl.cells").run Tryz.prog w =
 .ok (415,.agg #[.iface 249 (.pointer (some ⟨p,0,none⟩)),.func (.func 75) #[] #[],.func (.func 76) #[] #[]]) w:=by
 obtain ⟨n,hn⟩:=fuel;rw[hn]
 exact aQ (n:=n+1) false (by kernel_rfl) (dM underlying255 rfl)
theorem aOu (w:World) (p B:Nat) (hB:B≤p) (hp:w.heap[p]?=some (.cells #[.slice none 0 0] 128 (0,0))) :
 Calls Tryz.prog 415 #[.agg #[.iface 249 (.pointer (some ⟨p,0,none⟩)),.func (.func 75) #[] #[],.func (.func 76) #[] #[]]] w fun e w' =>
  ∃ nb fp,e=.returned (.iface 566 (.agg #[.iface 249 (.pointer (some ⟨p,0,none⟩)),.func (.func 416) #[] #[.pointer (some ⟨nb,0,none⟩)],.func (.func 417) #[] #[.pointer (some ⟨nb,0,none⟩)]]))∧u8R B p nb w' fp []∧F0 w w':=by
 have AZ:=aC hp;go_enter func415,ntmps415;go_wp2;go_ret
 refine ⟨w.heap.size,fun k=>k=p∨k=w.heap.size,rfl,⟨fun k=>k=p,⟨.slice none 0 0,(Below.heap_alloc _ _ _ AZ).trans hp,World.ownsRow_nil _ _ _ _,by simp[Value.ownBlock],fun k=>by simp[Value.ownBlock]⟩,⟨by rw[aB rfl];rfl,by rw[aB rfl];rfl⟩,fun k=>Iff.rfl,?_,by omega,by simp⟩,(Fr.refl _ w).alloc _⟩;rintro k (rfl|rfl)<;>omega
theorem aEi (cs:List Cell) (k:Nat) (h:k<cs.length):(cs.flatMap dF)[k]?=some (dF cs[k]).head!:=by
 have:∀ cs:List Cell,cs.flatMap dF=cs.map fun c=>(dF c).head!:=fun cs=>by induction cs with|nil=>rfl|cons c cs ih=>rw[flatMap_cons,map_cons,ih];rfl
 rw[this,getElem?_map,getElem?_eq_getElem h]
 rfl
theorem aAb {conn:Value} {ps pw:Nat} {w:World} {fw:Nat→Prop} {n:Nat} {out:List UInt8} (h:eG conn ps pw w fw n out) (a:Option Addr) (c:Nat) (cs:List Cell) (Aa:w.ownsRow 0 5 1 (.slice a cs.length c) cs.length (cs.flatMap dF))
 (hd:∀ k,(Value.slice a cs.length c).ownBlock=some k→¬ fw k∧k≠ps) (hl:out.length≤1099511627776) (hn:n≤1000000000) :
 Calls Tryz.prog 198 #[.slice a cs.length c,.pointer (some ⟨pw,0,none⟩)] w fun e w'=>e=.returned (.tuple #[])∧Fr fw w w'∧∃ fw',eG conn ps pw w' fw' (n+2) (out++cs.flatMap (aG 1))∧Grow w fw fw':=by
 have GH:=(aY _ 1 (aV 1 (by omega)) cs).trans (Nat.one_mul _);have Gw:=h.write hl hn (data:=.slice a cs.length c) (l:=cs.flatMap (aG 1)) (Ent.own (e:=5) (by rw[GH,← zY];exact Aa) fun g hg=>⟨(hd g hg).2,aO Aa hg,(hd g hg).1⟩);go_enter func198,ntmps198
 go_wp2_with (go_at_call 199;refine Gw.mono ?_;rintro e w1 ⟨rfl,h1,h2⟩)
 go_end0
 exact ⟨rfl,h1,h2⟩
theorem aJW (w:World) (r0:Nat):Calls Tryz.prog 76 #[.int .u8 (IntKind.u8.wrap r0)] w fun e w'=>e=.returned (.agg #[.int .u64 (r0 % 256:Nat),.int .u64 0,.int .u64 0,.int .u64 0])∧F0 w w':=by
 have hw:IntKind.u64.wrap (IntKind.u8.wrap r0)=((r0 % 256:Nat):Int):=by rw[IntKind.wrap_u64,IntKind.wrap_u8];omega
 go_enter func76,ntmps76;go_wp2
 refine bodyPost_ret (by simp[results,results76,go_sem];try rfl) rfl ?_
 exact ⟨by rw[Int.natCast_emod];rfl,(Fr.refl _ w).alloc _⟩
theorem aOD (w:World) (a:Option Addr) (k c:Nat) (cs:List Cell) (hk:k<cs.length) (Aa:w.ownsRow 0 5 1 (.slice a cs.length c) cs.length (cs.flatMap dF)) :
 Calls Tryz.prog 196 #[.slice a cs.length c,.int .i64 k] w fun e w'=>e=.returned (.int .u8 (IntKind.u8.wrap cs[k].r0))∧F0 w w':=by
 rcases Aa.2 with ⟨hv,_⟩|⟨ga,capa,cura,hv,_⟩
 · simp only[Value.slice.injEq] at hv;omega
 · simp only[Value.slice.injEq] at hv
   obtain ⟨rfl,_,rfl⟩:=hv;have hx:=Aa.cells (g:=ga) rfl k _ (aEi cs k hk);simp only[dF,List.head!] at hx;rw[Addr.add_lit,Nat.zero_add] at hx;have Gz:(k:Int)<cs.length:=by omega
   go_enter func196,ntmps196;go_wp2;go_ret
   exact ⟨rfl,Fr.refl _ _⟩
theorem aOv (w:World) (nb r0:Nat) (hf:w.cell? ⟨nb,2,none⟩=some (.func (.func 76) #[] #[])) :
 Calls Tryz.prog 417 #[.int .u8 (IntKind.u8.wrap r0),.pointer (some ⟨nb,0,none⟩)] w fun e w'=>e=.returned (.agg #[.int .u64 (r0 % 256:Nat),.int .u64 0,.int .u64 0,.int .u64 0,.string ⟨#[]⟩,.bool false,.slice none 0 0,.slice none 0 0])∧F0 w w':=by
 have Ey:∀ o,(w.alloc o).cell? ⟨nb,2,none⟩=some (.func (.func 76) #[] #[]):=fun o=>(World.cell?_alloc_lt w o _ (World.block_lt_of_cell? w _ hf)).trans hf
 go_enter func417,ntmps417
 go_wp2_with (go_at_call 76;refine (aJW _ r0).mono ?_;rintro e w1 ⟨rfl,Ad⟩;have hm:=Ad.made (n:=w.heap.size) rfl;obtain ⟨c0,c1,c2,c3,c4,c5,c6,c7⟩:=bD.eight (bD.of_block hm);have z0:=fzj 0 hm;have z1:=fzj 1 hm;have z2:=fzj 2 hm;have z3:=fzj 3 hm;have z4:=fzj 4 hm;have z5:=fzj 5 hm;have z6:=fzj 6 hm;have z7:=fzj 7 hm)
 refine bodyPost_ret (by simp[results,results417,go_sem,c0,c1,c2,c3,c4,c5,c6,c7];try rfl) rfl ?_
 have Ez:=((Fr.refl (fun _=>False) w).alloc (.cells #[.int .u64 0,.int .u64 0,.int .u64 0,.int .u64 0,.string ⟨#[]⟩,.bool false,.slice none 0 0,.slice none 0 0] 35)).trans Ad (fun _ _ h=>h);have hb:∀ i,(False∨w.heap.size≤(⟨w.heap.size,i,none⟩:Addr).block):=fun _=>.inr (Nat.le_refl _)
 exact ⟨by rw[Int.natCast_emod];rfl,(((((((Ez.setCell (hb 0) _).setCell (hb 1) _).setCell (hb 2) _).setCell (hb 3) _).setCell (hb 4) _).setCell (hb 5) _).setCell (hb 6) _).setCell (hb 7) _⟩
theorem aOs (a:Addr) (w:World) {b:Option Addr} {n c:Nat} (hv:w.cell? a=some (.slice b n c)):(method mdp 249 (.pointer (some a)) "Row").run Tryz.prog w=.ok (196,.slice b n c) w:=by
 obtain ⟨n,hn⟩:=fuel;rw[hn]
 exact aQ (n:=n+1) false (by kernel_rfl) (aU underlying249 (bI underlying128 hv))
theorem aGU (w:World) (p nb:Nat) (a:Option Addr) (k c:Nat) (cs:List Cell) (hk:k<cs.length) (hp:w.cell? ⟨p,0,none⟩=some (.slice a cs.length c)) (Aa:w.ownsRow 0 5 1 (.slice a cs.length c) cs.length (cs.flatMap dF))
 (hf:w.cell? ⟨nb,2,none⟩=some (.func (.func 76) #[] #[])) :
 Calls Tryz.prog 644 #[.agg #[.iface 249 (.pointer (some ⟨p,0,none⟩)),.func (.func 416) #[] #[.pointer (some ⟨nb,0,none⟩)],.func (.func 417) #[] #[.pointer (some ⟨nb,0,none⟩)]],.int .i64 k] w fun e w' =>
  e=.returned (.agg #[.int .u64 (cs[k].r0 % 256:Nat),.int .u64 0,.int .u64 0,.int .u64 0,.string ⟨#[]⟩,.bool false,.slice none 0 0,.slice none 0 0])∧F0 w w':=by
 have Ag:=fun W (Aw:F0 w W)=>aF.of1 (name:= "Row") (aOs ⟨p,0,none⟩ W.drew (Aw.drew.aA hp (fun h=>h))) call196 (aOD W.drew a k c cs hk (Aw.drew.owns Aa (fun _ _ h=>h)))
 generalize cs[k].r0=r0 at Ag ⊢;clear hp Aa hk;have Ag:=Lib.hid Ag;go_enter func644,ntmps644
 go_wp2_with fail
 generalize hW:(w.alloc _).alloc _=W;have Af:F0 w W:=by subst hW;exact ((Fr.refl _ w).alloc _).alloc _
 have d0:W.cell? ⟨w.heap.size,0,none⟩=some (.iface 249 (.pointer (some ⟨p,0,none⟩))):=by subst hW;rw[ca (by simp),aB rfl];rfl
 have d2:W.cell? ⟨w.heap.size,2,none⟩=some (.func (.func 417) #[] #[.pointer (some ⟨nb,0,none⟩)]):=by subst hW;rw[ca (by simp),aB rfl];rfl
 have Di:W.heap[w.heap.size+1]?=some (.cells #[.int .u64 0,.int .u64 0,.int .u64 0,.int .u64 0,.string ⟨#[]⟩,.bool false,.slice none 0 0,.slice none 0 0] 35 (0,0)):=by subst hW;exact Fr.made (Fr.refl _ _) (by simp)
 have Aw:=Af.aA hf (fun h=>h);clear hW
 go_region_law
  (first
   | (refine aK _ rfl ?_;refine bH _ _ _ _ _ rfl _ _ rfl (Ag.out W Af) rfl ?_;rintro e w1 ⟨rfl,BL⟩;have Ad:=BL.aH;have d2':=Ad.aA d2 (fun h=>h);refine ⟨_,rfl,?_⟩)
   | (refine aK _ rfl ?_;refine dI _ _ _ _ rfl _ _ rfl (bM.func1 call417 (aOv _ nb r0 (Ad.aA Aw (fun h=>h)))) rfl ?_;rintro e w2 ⟨rfl,Au⟩;have Ae:F0 W w2:=Ad.trans Au (fun _ _ h=>h);have AB:=(Ae.block _ (aC Di) (fun h=>h)).trans Di;obtain ⟨c0,c1,c2,c3,c4,c5,c6,c7⟩:=bD.eight (bD.of_block AB);have z0:=fzj 0 AB;have z1:=fzj 1 AB;have z2:=fzj 2 AB;have z3:=fzj 3 AB;have z4:=fzj 4 AB;have z5:=fzj 5 AB;have z6:=fzj 6 AB;have z7:=fzj 7 AB;refine ⟨_,rfl,?_⟩))
 all_goals (try simp only[Exit.then])
 all_goals
  refine (‹∀ (a:Act) (w:World),Code.wp _ Code.ret _ a w→_› _ _ ?_)
  refine wp_ret ?_
  show bodyPost _ _ _ _ _ _
  refine bodyPost_ret (by simp[results,results644,go_sem,c0,c1,c2,c3,c4,c5,c6,c7];try rfl) rfl ?_
  have hb:∀ i,(False∨w.heap.size≤(⟨w.heap.size+1,i,none⟩:Addr).block):=fun _=>.inr (Nat.le_succ _)
  exact ⟨by rw[Int.natCast_emod];rfl,(((((((((Af.trans Ae (fun _ _ h=>h)).setCell (hb 0) _).setCell (hb 1) _).setCell (hb 2) _).setCell (hb 3) _).setCell (hb 4) _).setCell (hb 5) _).setCell (hb 6) _).setCell (hb 7) _)⟩
abbrev aOx (p nb:Nat):Value:=.agg #[.iface 249 (.pointer (some ⟨p,0,none⟩)),.func (.func 416) #[] #[.pointer (some ⟨nb,0,none⟩)],.func (.func 417) #[] #[.pointer (some ⟨nb,0,none⟩)]]
theorem aNn (p nb:Nat) (w:World):(method mdp 566 (aOx p nb) "Row").run Tryz.prog w=.ok (644,aOx p nb) w:=by kernel_rfl
theorem aOt (p nb:Nat) (w:World) (v:Value) (hv:w.cell? ⟨p,0,none⟩=some v):(method mdp 566 (aOx p nb) "WriteColumn").run Tryz.prog w=.ok (198,v) w:=by
 obtain ⟨n,hn⟩:=fuel;rw[hn]
 refine (aX (n:=n+1) underlying566 rfl rfl (fun _=>by kernel_rfl) (by kernel_rfl) rfl).trans ?_
 exact aQ (n:=n) false (by kernel_rfl) (aU underlying249 (bI underlying128 hv))
theorem aNl (p nb:Nat):fU Tryz.prog 128 5 566 1 dF (.func (.func 76) #[] #[]) p nb (aOx p nb) (.num .u8) where
 write:=fun hp Aa hs CY hd hl hn=>(aF.of1 (aOt p nb _ _ hp) call198 (aAb CY _ _ _ Aa (fun k hk=>hd k hk) (by omega) hn)).mono fun e w' ⟨h1,h2,fw',h3,h4⟩=>⟨h1,h2,fw',h3.more (Nat.le_refl _),h4⟩
 row:=fun {w a c k cs} hk hp Aa hs hf=>(aF.of1 (aNn p nb w) call644 (aGU w p nb a k c cs hk hp Aa hf)).mono fun e w' ⟨h1,h2⟩=>⟨.mk (cs[k].r0 % 256) 0 0 0 ⟨#[]⟩ false [] [],iF (by omega),h1,h2,iO rfl (by decide) rfl⟩
end Go.Proofs.YtcidlnjpabgioaaGreatDoor
