import Derived.Deep.RegionLaw
import Derived.Test.YtcidlnjpabgioaaGreatDoorUGWa
set_option maxHeartbeats 4000000
set_option maxRecDepth 100000
namespace Go.Proofs.YtcidlnjpabgioaaGreatDoor
open Tryz List Go.RowKit
theorem Hot.aJh {w:World} {b g N cap:Nat} {A C olds:List Value} (hot:Hot w b g N cap (A++olds++C)) (KQ:olds.length=8) (v:Nat) (hv:v<18446744073709551616) (n c:Nat) (hn:8≤n) :
 Calls Tryz.prog 175 #[.agg #[],.slice (some ⟨g,A.length,none⟩) n c,.int .u64 v] w fun e w'=>e=.returned (.tuple #[])∧Fr (fun k=>k=g) w w'∧Hot w' b g N cap (A++aN (Lib.leBytes 8 v)++C):=by
 have hN:=hot.own.1;simp only[length_append,Nat.mul_one] at hN
 refine (oG g A.length n c v hv w hn (hot.there (by omega)) hot.cold).mono ?_
 rintro e w' ⟨rfl,rfl⟩
 refine ⟨rfl,Fr.setCells (S:=fun k=>k=g) (.inl rfl) _ _ _ ((Fr.refl _ w).alloc _),?_⟩
 exact (hot.alloc _).put rfl _ (by simp[aZ,Lib.leBytes_length,KQ]) rfl
theorem aGf (w:World) (b g N cap:Nat) (A C o1 o2:List Value) (hot:Hot w b g N cap (A++(o1++o2)++C)) (h1:o1.length=8) (h2:o2.length=8) (lo hi:Nat) (AC:lo<18446744073709551616) (ay:hi<18446744073709551616)
 (o c:Nat) (ho:o=A.length) (hc:16≤c) :
 Calls Tryz.prog 385 #[.slice (some ⟨g,o,none⟩) 16 c,.agg #[.int .u64 lo,.int .u64 hi]] w fun e w'=>e=.returned (.tuple #[])∧Fr (fun k=>k=g) w w'∧Hot w' b g N cap (A++aN (Lib.leBytes 8 lo++Lib.leBytes 8 hi)++C):=by
 subst ho;have TE:=hot.glt;have IB:=hot.alloc (.cells #[.int .u64 lo,.int .u64 hi] 229);have df:(A++o1).length=A.length+8:=by simp[h1]
 have p1:=(show Hot _ b g N cap ((A++o1)++o2++C) by simpa using IB.drew).aJh h2 hi ay 8 (c - 8) (by omega);rw[df] at p1;have s1:¬ c=8:=by omega
 have s2:¬ c=0:=by omega
 have s3:(16:Int)≤(c:Int):=by omega
 have s4:(8:Int)≤(c:Int):=by omega
 have c0:(w.alloc (.cells #[.int .u64 lo,.int .u64 hi] 229)).cell? ⟨w.heap.size,0,none⟩=some (.int .u64 lo):=by rw[aB rfl];rfl
 have c1:(w.alloc (.cells #[.int .u64 lo,.int .u64 hi] 229)).cell? ⟨w.heap.size,1,none⟩=some (.int .u64 hi):=by rw[aB rfl];rfl
 have hA:=(Fr.refl (fun k=>k=g) w).alloc (.cells #[.int .u64 lo,.int .u64 hi] 229);go_enter func385,ntmps385;go_wp2;generalize hW:w.alloc (.cells #[.int .u64 lo,.int .u64 hi] 229)=W at p1 c0 c1 hA ⊢;clear hW IB hot
 go_region_held3 (fun w'=>w'.cell? ⟨w.heap.size,0,none⟩=some (.int .u64 lo)∧w'.cell? ⟨w.heap.size,1,none⟩=some (.int .u64 hi))
  (first
   | exact ⟨c0,c1⟩
   | exact ⟨d0,d1⟩
   | assumption)
  (first
   | (go_at_call 175;refine p1.mono ?_;rintro e w1 ⟨rfl,Ad,Qh⟩;have d0:=Ad.drew.aH.aA c0 (by show ¬ w.heap.size=g;omega);have d1:=Ad.drew.aH.aA c1 (by show ¬ w.heap.size=g;omega)))
 all_goals
  have p2:=(show Hot _ b g N cap (A++o1++(aN (Lib.leBytes 8 hi)++C)) by simpa using Qh.drew).aJh h1 lo AC 8 c (by omega);go_wp2
  go_region_held3 (fun w'=>w'.cell? ⟨w.heap.size,0,none⟩=some (.int .u64 lo)∧w'.cell? ⟨w.heap.size,1,none⟩=some (.int .u64 hi))
   (first
    | exact ⟨d0,d1⟩
    | exact ⟨g0,g1⟩
    | assumption)
   (first
    | (go_at_call 175;refine p2.mono ?_;rintro e w2 ⟨rfl,Ae,Qi⟩;have g0:=Ae.drew.aH.aA d0 (by show ¬ w.heap.size=g;omega);have g1:=Ae.drew.aH.aA d1 (by show ¬ w.heap.size=g;omega)))
 all_goals
  go_end0
  refine ⟨rfl,(hA.trans (Ad.aH) (fun _ _ h=>h)).trans (Ae.aH) (fun _ _ h=>h),?_⟩;rw[bC]
  simpa using Qi
theorem aGg (w:World) (b g N cap:Nat) (A C o0 o1 o2 o3:List Value) (hot:Hot w b g N cap (A++(o0++o1++o2++o3)++C)) (h0:o0.length=8) (h1:o1.length=8) (h2:o2.length=8) (h3:o3.length=8)
 (r0 r1 r2 r3:Nat) (b0:r0<18446744073709551616) (b1:r1<18446744073709551616) (b2:r2<18446744073709551616) (b3:r3<18446744073709551616) (o c:Nat) (ho:o=A.length) (hc:32≤c) :
 Calls Tryz.prog 403 #[.slice (some ⟨g,o,none⟩) 32 c,.agg #[.int .u64 r0,.int .u64 r1,.int .u64 r2,.int .u64 r3]] w fun e w'=>e=.returned (.tuple #[])∧Fr (fun k=>k=g) w w' ∧
  Hot w' b g N cap (A++aN (Lib.leBytes 8 r0++Lib.leBytes 8 r1++Lib.leBytes 8 r2++Lib.leBytes 8 r3)++C):=by
 subst ho;have TE:=hot.glt;have IB:=hot.alloc (.cells #[.int .u64 r0,.int .u64 r1,.int .u64 r2,.int .u64 r3] 298);have l1:(A++o0).length=A.length+8:=by simp[h0]
 have l2:(A++o0++o1).length=A.length+16:=by simp[h0,h1]
 have l3:(A++o0++o1++o2).length=A.length+24:=by simp[h0,h1,h2]
 have p3:=(show Hot _ b g N cap ((A++o0++o1++o2)++o3++C) by simpa using IB.drew).aJh h3 r3 b3 8 (c - 24) (by omega);rw[l3] at p3;have s24:¬ c=24:=by omega
 have s16:¬ c=16:=by omega
 have s8:¬ c=8:=by omega
 have s0:¬ c=0:=by omega
 have t32:(32:Int)≤(c:Int):=by omega
 have t24:(24:Int)≤(c:Int):=by omega
 have t16:(16:Int)≤(c:Int):=by omega
 have t8:(8:Int)≤(c:Int):=by omega
 have c0:(w.alloc (.cells #[.int .u64 r0,.int .u64 r1,.int .u64 r2,.int .u64 r3] 298)).cell? ⟨w.heap.size,0,none⟩=some (.int .u64 r0):=by rw[aB rfl];rfl
 have c1:(w.alloc (.cells #[.int .u64 r0,.int .u64 r1,.int .u64 r2,.int .u64 r3] 298)).cell? ⟨w.heap.size,1,none⟩=some (.int .u64 r1):=by rw[aB rfl];rfl
 have c2:(w.alloc (.cells #[.int .u64 r0,.int .u64 r1,.int .u64 r2,.int .u64 r3] 298)).cell? ⟨w.heap.size,2,none⟩=some (.int .u64 r2):=by rw[aB rfl];rfl
 have c3:(w.alloc (.cells #[.int .u64 r0,.int .u64 r1,.int .u64 r2,.int .u64 r3] 298)).cell? ⟨w.heap.size,3,none⟩=some (.int .u64 r3):=by rw[aB rfl];rfl
 have hA:=(Fr.refl (fun k=>k=g) w).alloc (.cells #[.int .u64 r0,.int .u64 r1,.int .u64 r2,.int .u64 r3] 298);go_enter func403,ntmps403;go_wp2;generalize hW:w.alloc (.cells #[.int .u64 r0,.int .u64 r1,.int .u64 r2,.int .u64 r3] 298)=W at p3 c0 c1 c2 c3 hA ⊢;clear hW IB hot
 go_region_held3 (fun w'=>w'.cell? ⟨w.heap.size,0,none⟩=some (.int .u64 r0)∧w'.cell? ⟨w.heap.size,1,none⟩=some (.int .u64 r1)∧w'.cell? ⟨w.heap.size,2,none⟩=some (.int .u64 r2)∧w'.cell? ⟨w.heap.size,3,none⟩=some (.int .u64 r3))
  (first
   | exact ⟨c0,c1,c2,c3⟩
   | exact ⟨d0,d1,d2,d3⟩
   | assumption)
  (first
   | (go_at_call 175;refine p3.mono ?_;rintro e w3 ⟨rfl,AV,Xz⟩;have d0:=AV.drew.aH.aA c0 (by show ¬ w.heap.size=g;omega);have d1:=AV.drew.aH.aA c1 (by show ¬ w.heap.size=g;omega);have d2:=AV.drew.aH.aA c2 (by show ¬ w.heap.size=g;omega);have d3:=AV.drew.aH.aA c3 (by show ¬ w.heap.size=g;omega)))
 all_goals
  have p2:=(show Hot _ b g N cap (A++o0++o1++o2++(aN (Lib.leBytes 8 r3)++C)) by simpa using Xz.drew).aJh h2 r2 b2 8 (c - 16) (by omega);rw[l2] at p2;go_wp2
  go_region_held3 (fun w'=>w'.cell? ⟨w.heap.size,0,none⟩=some (.int .u64 r0)∧w'.cell? ⟨w.heap.size,1,none⟩=some (.int .u64 r1)∧w'.cell? ⟨w.heap.size,2,none⟩=some (.int .u64 r2)∧w'.cell? ⟨w.heap.size,3,none⟩=some (.int .u64 r3))
   (first
    | exact ⟨d0,d1,d2,d3⟩
    | exact ⟨e0,e1,e2,e3⟩
    | assumption)
   (first
    | (go_at_call 175;refine p2.mono ?_;rintro e w2 ⟨rfl,Ae,Qi⟩;have e0:=Ae.drew.aH.aA d0 (by show ¬ w.heap.size=g;omega);have e1:=Ae.drew.aH.aA d1 (by show ¬ w.heap.size=g;omega);have e2:=Ae.drew.aH.aA d2 (by show ¬ w.heap.size=g;omega);have e3:=Ae.drew.aH.aA d3 (by show ¬ w.heap.size=g;omega)))
  have p1:=(show Hot _ b g N cap (A++o0++o1++(aN (Lib.leBytes 8 r2)++aN (Lib.leBytes 8 r3)++C)) by simpa using Qi.drew).aJh h1 r1 b1 8 (c - 8) (by omega);rw[l1] at p1;go_wp2
  go_region_held3 (fun w'=>w'.cell? ⟨w.heap.size,0,none⟩=some (.int .u64 r0)∧w'.cell? ⟨w.heap.size,1,none⟩=some (.int .u64 r1)∧w'.cell? ⟨w.heap.size,2,none⟩=some (.int .u64 r2)∧w'.cell? ⟨w.heap.size,3,none⟩=some (.int .u64 r3))
   (first
    | exact ⟨e0,e1,e2,e3⟩
    | exact ⟨f0,f1,f2,f3⟩
    | assumption)
   (first
    | (go_at_call 175;refine p1.mono ?_;rintro e w1 ⟨rfl,Ad,Qh⟩;have f0:=Ad.drew.aH.aA e0 (by show ¬ w.heap.size=g;omega);have f1:=Ad.drew.aH.aA e1 (by show ¬ w.heap.size=g;omega);have f2:=Ad.drew.aH.aA e2 (by show ¬ w.heap.size=g;omega);have f3:=Ad.drew.aH.aA e3 (by show ¬ w.heap.size=g;omega)))
  have p0:=(show Hot _ b g N cap (A++o0++(aN (Lib.leBytes 8 r1)++aN (Lib.leBytes 8 r2)++aN (Lib.leBytes 8 r3)++C)) by simpa using Qh.drew).aJh h0 r0 b0 8 (c - 0) (by omega);go_wp2
  go_region_held3 (fun w'=>w'.cell? ⟨w.heap.size,0,none⟩=some (.int .u64 r0)∧w'.cell? ⟨w.heap.size,1,none⟩=some (.int .u64 r1)∧w'.cell? ⟨w.heap.size,2,none⟩=some (.int .u64 r2)∧w'.cell? ⟨w.heap.size,3,none⟩=some (.int .u64 r3))
   (first
    | exact ⟨f0,f1,f2,f3⟩
    | exact ⟨g0,g1,g2,g3⟩
    | assumption)
   (first
    | (go_at_call 175;refine p0.mono ?_;rintro e w0 ⟨rfl,Ez,Xy⟩;have g0:=Ez.drew.aH.aA f0 (by show ¬ w.heap.size=g;omega);have g1:=Ez.drew.aH.aA f1 (by show ¬ w.heap.size=g;omega);have g2:=Ez.drew.aH.aA f2 (by show ¬ w.heap.size=g;omega);have g3:=Ez.drew.aH.aA f3 (by show ¬ w.heap.size=g;omega)))
  go_end0
  refine ⟨rfl,(((hA.trans (AV.aH) (fun _ _ h=>h)).trans (Ae.aH) (fun _ _ h=>h)).trans (Ad.aH) (fun _ _ h=>h)).trans (Ez.aH) (fun _ _ h=>h),?_⟩;simp only[bC]
  simpa using Xy
theorem aHi:ElT Tryz.prog 226 228 (.agg #[.int .u64 0,.int .u64 0]) 2 16:=⟨underlying226,info_parts (by kernel_rfl),rfl⟩
theorem aKz:ElT Tryz.prog 225 228 (.agg #[.int .u64 0,.int .u64 0]) 2 16:=⟨underlying225,info_parts (by kernel_rfl),rfl⟩
theorem aCV (w:World) (p:Nat) (n:Nat) (xs:List Value) (fp:Nat→Prop) (hc:aJ w p 226 228 2 n xs fp) (hn:n<2147483648) (x0 x1:Int) :
 Calls Tryz.prog 376 #[.pointer (some ⟨p,0,none⟩),.agg #[.int .u64 x0,.int .u64 x1]] w fun e w'=>e=.returned (.tuple #[])∧(∃ fp',aJ w' p 226 228 2 (n+1) (xs++[.int .u64 x0,.int .u64 x1]) fp'∧Grow w fp fp')∧Fr fp w w':=by
 obtain ⟨v,hp,Aa,Am,Aj⟩:=hc;obtain ⟨Ac,BH⟩:=aJ.cell hp;obtain ⟨a0,c0,rfl⟩:=ownsRow_shape Aa;have AZ:=aC hp;go_enter func376,ntmps376
 go_wp2_with fail
 generalize hW:w.alloc _=W;have Af:F0 w W:=by subst hW;exact (Fr.refl _ w).alloc _
 have d0:W.cell? ⟨w.heap.size,0,none⟩=some (.int .u64 x0):=by subst hW;rw[aB rfl];rfl
 have d1:W.cell? ⟨w.heap.size,1,none⟩=some (.int .u64 x1):=by subst hW;rw[aB rfl];rfl
 have Ef:W.heap[p]?=some (.cells #[.slice a0 n c0] 226 (0,0)):=(Af.block p AZ (fun h=>h)).trans hp;have Bi:=Af.owns Aa (fun _ _ h=>h);obtain ⟨EE,LZ⟩:=aJ.cell Ef;have Na:=aC Ef;clear hW;have Un:∀ o,(W.alloc o).cell? ⟨p,0,none⟩=some (.slice a0 n c0):=fun o=>(World.cell?_alloc_lt W o _ Na).trans EE
 go_region_law (refine aK _ rfl ?_;refine dJ _ aHi _ _ rfl _ _ _ rfl (Bi.alloc _) _ _ _ rfl (Src.ofSlice _ underlying226 _ _ _ _ rfl (bG _ [.int .u64 x0,.int .u64 x1] _) (by simp[Value.oneCell'])) ?_ ?_ ?_;(unfold maxLen;omega);omega;intro v' w1 ha;obtain ⟨a',c',rfl⟩:=ha.shape;have Cj:w1.cell? ⟨p,0,none⟩=some (.slice a0 n c0):=ha.2.1.cell ((((Fr.refl (fun _=>False) W).alloc _).drew).aA EE (fun h=>h)) (fun h=>Am h.symm);have Ad:w1.frozen? ⟨p,0,none⟩=false:=(World.frozen?_of_block (ha.2.1.block p (by simp;omega) (fun h=>Am h.symm))).trans (by show (W.alloc _).frozen? _=_;rw[World.frozen?_alloc_old _ _ _ (by simp;omega)];exact LZ))
 all_goals
  go_end0;have Az:=aJ.appended Ef Bi Am Aj (((Fr.refl _ W).alloc _).drew) ha;obtain ⟨⟨fp',h1,h2⟩,h3⟩:=Az
  exact ⟨rfl,⟨fp',h1,fun k hk=>(h2 k hk).imp id (fun h=>Nat.le_trans Af.size h)⟩,(Af.mono (fun _ _ h=>h.elim)).trans h3 (fun _ _ h=>h)⟩
theorem xQ (w:World) (p:Nat) (n:Nat) (xs:List Value) (fp:Nat→Prop) (hc:aJ w p 226 228 2 n xs fp) (m:Nat) (sv:Value) (news:List Value) (Be:Src Tryz.prog 2 225 sv m news w) (hn:n+m≤2147483648) :
 Calls Tryz.prog 377 #[.pointer (some ⟨p,0,none⟩),sv] w fun e w'=>e=.returned (.tuple #[])∧(∃ fp',aJ w' p 226 228 2 (n+m) (xs++news) fp'∧Grow w fp fp')∧Fr fp w w':=by
 obtain ⟨v,hp,Aa,Am,Aj⟩:=hc;obtain ⟨Ac,BH⟩:=aJ.cell hp;obtain ⟨a0,c0,rfl⟩:=ownsRow_shape Aa;go_enter func377,ntmps377
 go_wp2_with ((with_reducible show wpList _ _ _ (⟨some 9,_,_,_,_,_⟩ :: _) _ _);(refine aP _ rfl aHi _ _ rfl _ _ _ rfl Aa _ _ _ rfl Be ?_ ?_ ?_);(unfold maxLen;omega);omega;intro v' w1 ha;obtain ⟨a',c',rfl⟩:=ha.shape;have Cj:w1.cell? ⟨p,0,none⟩=some (.slice a0 n c0):=ha.2.1.cell Ac (fun h=>Am h.symm);have Ad:w1.frozen? ⟨p,0,none⟩=false:=(World.frozen?_of_block (ha.2.1.block p (aC hp) (fun h=>Am h.symm))).trans BH)
 go_end0
 exact ⟨rfl,aJ.appended hp Aa Am Aj (Fr.refl _ w) ha⟩
theorem aKA (w:World) (r0 r1 r2 r3:Nat):Calls Tryz.prog 69 #[.agg #[.int .u64 r0,.int .u64 r1,.int .u64 r2,.int .u64 r3]] w fun e w'=>e=.returned (.agg #[.int .u64 r0,.int .u64 r1])∧F0 w w':=by
 go_enter func69,ntmps69;go_wp2
 refine bodyPost_ret (by simp[results,results69,go_sem];try rfl) rfl ?_
 exact ⟨rfl,((Fr.refl _ w).alloc _).alloc _⟩
theorem aKB (w:World) (r0 r1 r2 r3:Nat) (_h0:r0<18446744073709551616):Calls Tryz.prog 68 #[.agg #[.int .u64 r0,.int .u64 r1,.int .u64 r2,.int .u64 r3]] w fun e w'=>e=.returned (.agg #[.int .u64 r0,.int .u64 r1])∧F0 w w':=by
 go_enter func68,ntmps68
 go_wp2_with (go_at_call 69;refine (aKA _ r0 r1 r2 r3).mono ?_;rintro e w1 ⟨rfl,Ad⟩;have hm:w1.heap[w.heap.size+1]?=some (.cells #[.int .u64 0,.int .u64 0] 228 (0,0)):=Ad.made (by simp);have q0:w1.cell? ⟨w.heap.size+1,0,none⟩=some (.int .u64 0):=(crw hm rfl);have q1:w1.cell? ⟨w.heap.size+1,1,none⟩=some (.int .u64 0):=(crw hm rfl);have z0:w1.frozen? ⟨w.heap.size+1,0,none⟩=false:=fzj _ hm;have z1:w1.frozen? ⟨w.heap.size+1,1,none⟩=false:=fzj _ hm)
 refine bodyPost_ret (by simp[results,results68,go_sem,q0,q1];try rfl) rfl ?_
 exact ⟨rfl,(((((Fr.refl (fun _=>False) w).alloc _).alloc _).trans Ad (fun _ _ h=>h)).setCell (.inr (by simp)) _).setCell (.inr (by simp)) _⟩
theorem aHj (w:World) (nb:Nat) (r0 r1 r2 r3:Nat) (h0:r0<18446744073709551616) (s:ByteArray) (null:Bool) (iv kv:Value) (hf:w.cell? ⟨nb,1,none⟩=some (.func (.func 68) #[] #[])) :
 Calls Tryz.prog 392 #[.agg #[.int .u64 r0,.int .u64 r1,.int .u64 r2,.int .u64 r3,.string s,.bool null,iv,kv],.pointer (some ⟨nb,0,none⟩)] w fun e w'=>e=.returned (.agg #[.int .u64 r0,.int .u64 r1])∧F0 w w':=by
 have Ey:∀ o,(w.alloc o).cell? ⟨nb,1,none⟩=some (.func (.func 68) #[] #[]):=fun o=>(World.cell?_alloc_lt w o _ (World.block_lt_of_cell? w _ hf)).trans hf
 have Ae:∀ o o',((w.alloc o).alloc o').cell? ⟨nb,1,none⟩=some (.func (.func 68) #[] #[]):=fun o o'=>(World.cell?_alloc_lt (w.alloc o) o' _ (World.block_lt_of_cell? _ _ (Ey o))).trans (Ey o)
 go_enter func392,ntmps392
 go_wp2_with (go_at_call 68;refine (aKB _ r0 r1 r2 r3 h0).mono ?_;rintro e w1 ⟨rfl,Ad⟩;have hm:w1.heap[w.heap.size+1]?=some (.cells #[.int .u64 0,.int .u64 0] 228 (0,0)):=Ad.made (by simp);have q0:w1.cell? ⟨w.heap.size+1,0,none⟩=some (.int .u64 0):=(crw hm rfl);have q1:w1.cell? ⟨w.heap.size+1,1,none⟩=some (.int .u64 0):=(crw hm rfl);have z0:w1.frozen? ⟨w.heap.size+1,0,none⟩=false:=fzj _ hm;have z1:w1.frozen? ⟨w.heap.size+1,1,none⟩=false:=fzj _ hm)
 refine bodyPost_ret (by simp[results,results392,go_sem,q0,q1];try rfl) rfl ?_
 exact ⟨rfl,(((((Fr.refl (fun _=>False) w).alloc _).alloc _).trans Ad (fun _ _ h=>h)).setCell (.inr (by simp)) _).setCell (.inr (by simp)) _⟩
theorem aAl (a:Addr) (w:World):(method mdp 224 (.pointer (some a)) "Append").run Tryz.prog w=.ok (376,.pointer (some a)) w:=by kernel_rfl
theorem uG (a:Addr) (w:World):(method mdp 224 (.pointer (some a)) "AppendArr").run Tryz.prog w=.ok (377,.pointer (some a)) w:=by kernel_rfl
theorem wK (w:World) (p nb:Nat) (n:Nat) (xs:List Value) (fp:Nat→Prop) (hc:aJ w p 226 228 2 n xs fp) (hn:n<2147483648) (hf:w.cell? ⟨nb,1,none⟩=some (.func (.func 68) #[] #[]))
 (r0 r1 r2 r3:Nat) (h0:r0<18446744073709551616) (s:ByteArray) (null:Bool) (iv kv:Value) :
 Calls Tryz.prog 634 #[.agg #[.iface 224 (.pointer (some ⟨p,0,none⟩)),.func (.func 392) #[] #[.pointer (some ⟨nb,0,none⟩)],.func (.func 393) #[] #[.pointer (some ⟨nb,0,none⟩)]],.agg #[.int .u64 r0,.int .u64 r1,.int .u64 r2,.int .u64 r3,.string s,.bool null,iv,kv]] w fun e w' =>
  e=.returned (.tuple #[])∧(∃ fp',aJ w' p 226 228 2 (n+1) (xs++[.int .u64 r0,.int .u64 r1]) fp'∧Grow w fp fp')∧Fr fp w w':=by
 go_enter func634,ntmps634
 go_wp2_with fail
 generalize hW:(w.alloc _).alloc _=W;have Af:F0 w W:=by subst hW;exact ((Fr.refl _ w).alloc _).alloc _
 have d0:W.cell? ⟨w.heap.size,0,none⟩=some (.iface 224 (.pointer (some ⟨p,0,none⟩))):=by subst hW;rw[ca (by simp),aB rfl];rfl
 have d1:W.cell? ⟨w.heap.size,1,none⟩=some (.func (.func 392) #[] #[.pointer (some ⟨nb,0,none⟩)]):=by subst hW;rw[ca (by simp),aB rfl];rfl
 have e0:W.cell? ⟨w.heap.size+1,0,none⟩=some (.int .u64 r0):=by subst hW;rw[aB (by simp)];rfl
 have e1:W.cell? ⟨w.heap.size+1,1,none⟩=some (.int .u64 r1):=by subst hW;rw[aB (by simp)];rfl
 have e2:W.cell? ⟨w.heap.size+1,2,none⟩=some (.int .u64 r2):=by subst hW;rw[aB (by simp)];rfl
 have e3:W.cell? ⟨w.heap.size+1,3,none⟩=some (.int .u64 r3):=by subst hW;rw[aB (by simp)];rfl
 have e4:W.cell? ⟨w.heap.size+1,4,none⟩=some (.string s):=by subst hW;rw[aB (by simp)];rfl
 have e5:W.cell? ⟨w.heap.size+1,5,none⟩=some (.bool null):=by subst hW;rw[aB (by simp)];rfl
 have e6:W.cell? ⟨w.heap.size+1,6,none⟩=some iv:=by subst hW;rw[aB (by simp)];rfl
 have e7:W.cell? ⟨w.heap.size+1,7,none⟩=some kv:=by subst hW;rw[aB (by simp)];rfl
 have BA:aJ W p 226 228 2 n xs fp:=hc.aW fun k hk=>Af.block k (hc.lt k hk) (fun h=>h)
 have Aw:W.cell? ⟨nb,1,none⟩=some (.func (.func 68) #[] #[]):=Af.aA hf (fun h=>h);have hN:¬ fp w.heap.size:=fun h=>by have:=hc.lt _ h;omega
 have AU:¬ fp (w.heap.size+1):=fun h=>by have:=hc.lt _ h;omega
 clear hW
 go_region_held3 (fun w'=>w'.cell? ⟨w.heap.size,0,none⟩=some (.iface 224 (.pointer (some ⟨p,0,none⟩)))∧w'.cell? ⟨w.heap.size,1,none⟩=some (.func (.func 392) #[] #[.pointer (some ⟨nb,0,none⟩)]) ∧
  w'.cell? ⟨w.heap.size+1,0,none⟩=some (.int .u64 r0)∧w'.cell? ⟨w.heap.size+1,1,none⟩=some (.int .u64 r1)∧w'.cell? ⟨w.heap.size+1,2,none⟩=some (.int .u64 r2)∧w'.cell? ⟨w.heap.size+1,3,none⟩=some (.int .u64 r3) ∧
  w'.cell? ⟨w.heap.size+1,4,none⟩=some (.string s)∧w'.cell? ⟨w.heap.size+1,5,none⟩=some (.bool null)∧w'.cell? ⟨w.heap.size+1,6,none⟩=some iv∧w'.cell? ⟨w.heap.size+1,7,none⟩=some kv)
  (first
   | exact ⟨d0,d1,e0,e1,e2,e3,e4,e5,e6,e7⟩
   | exact ⟨Ae.aA d0 hN,Ae.aA d1 hN,Ae.aA e0 AU,Ae.aA e1 AU,Ae.aA e2 AU,Ae.aA e3 AU,Ae.aA e4 AU,Ae.aA e5 AU,Ae.aA e6 AU,Ae.aA e7 AU⟩
   | exact ⟨Ad.aA d0 (fun h=>h),Ad.aA d1 (fun h=>h),Ad.aA e0 (fun h=>h),Ad.aA e1 (fun h=>h),Ad.aA e2 (fun h=>h),Ad.aA e3 (fun h=>h),Ad.aA e4 (fun h=>h),Ad.aA e5 (fun h=>h),Ad.aA e6 (fun h=>h),Ad.aA e7 (fun h=>h)⟩
   | assumption)
  (first
   | (refine aK _ rfl ?_;refine dI _ _ _ _ rfl _ _ rfl (bM.func1 call392 (aHj _ nb r0 r1 r2 r3 h0 s null iv kv Aw)) rfl ?_;rintro e w1 ⟨rfl,Ad⟩;refine ⟨_,rfl,?_⟩)
   | (refine aK _ rfl ?_;refine bH _ _ _ _ _ rfl _ _ rfl (aF.of1 (aAl _ _) call376 (aCV _ p n xs fp (BA.aW fun k hk=>Ad.block k (BA.lt k hk) (fun h=>h)) hn r0 r1)) rfl ?_;rintro e w2 ⟨rfl,Aq,Au⟩;have Ae:Fr fp W w2:=(Ad.aH.mono (fun _ _ h=>h.elim)).trans Au (fun _ _ h=>h);refine ⟨_,rfl,?_⟩))
 all_goals
  go_end0
  refine ⟨rfl,?_,(Af.mono (fun _ _ h=>h.elim)).trans Ae (fun _ _ h=>h)⟩;obtain ⟨fp',h1,h2⟩:=Aq
  exact ⟨fp',h1,fun k hk=>(h2 k hk).imp id (fun h=>Nat.le_trans (Nat.le_trans Af.size Ad.size) h)⟩
def dX (c:Cell):List Value:=[.int .u64 c.r0,.int .u64 c.r1]
theorem aCZ (w:World) (B nb:Nat) (Bd:B≤w.heap.size) (hf:w.cell? ⟨nb,1,none⟩=some (.func (.func 68) #[] #[])) (cs:List Cell) (v:Value) (xs:List Value) (hs:Sl B w 8 v cs.length xs) (hc:aI B w cs xs) (hn:cs.length≤2147483648) :
 Calls Tryz.prog 637 #[v,.func (.func 392) #[] #[.pointer (some ⟨nb,0,none⟩)]] w fun e w'=>∃ tv,e=.returned tv∧w'.ownsRow 0 228 2 tv cs.length (cs.flatMap dX)∧F0 w w':=by
 have CB:=hs;obtain ⟨Dy,ao,cap,rfl,BF,AP,h0,ha⟩:=hs;unfold maxLen at AP;clear ha h0 Dy;go_enter func637,ntmps637;go_wp2
 go_loopw [5,10] (fun tv i wr=>∃ k:Nat,k≤cs.length∧i=.int .i64 k∧wr.ownsRow 0 228 2 tv k ((cs.take k).flatMap dX)∧(∀ q,tv.ownBlock=some q→w.heap.size≤q)∧F0 w wr) (fun _ i _=>cs.length - (intOf i).toNat)
 case atStart=>exact ⟨0,Nat.zero_le _,rfl,World.ownsRow_nil _ _ _ _,by simp[Value.ownBlock],Fr.refl _ _⟩
 case round =>
  obtain ⟨k,hk,rfl,Aa,Ai,Ak⟩:=hrel;have Bf:Below B w wr:=Ak.below Bd (fun _ _ h=>h);obtain ⟨a0,c0,rfl⟩:=ownsRow_shape Aa
  by_cases Ar:k<cs.length
  · obtain ⟨b,off,cap',hv,FT,vs,AQ,Ac⟩:=(CB.below Bf).row (aI.below Bf _ _ hc) Ar
    have Ah:=Lib.hid (bQ dX cs k Ar);generalize cs[k]=c at AQ Ah;obtain ⟨ia,il,ic,ka,kl,kc,rfl,h0,h1,h2,h3,h4⟩:=AQ.open;simp only[Value.slice.injEq] at hv;obtain ⟨rfl,_,rfl⟩:=hv;have d0:=Ac 0 _ rfl;have d1:=Ac 1 _ rfl;have d2:=Ac 2 _ rfl;have d3:=Ac 3 _ rfl;have d4:=Ac 4 _ rfl;have d5:=Ac 5 _ rfl;have d6:=Ac 6 _ rfl;have d7:=Ac 7 _ rfl;simp only[Nat.add_zero] at d0;have BM:F0 w (wr.alloc (.cells #[.int .u64 c.r0,.int .u64 c.r1,.int .u64 c.r2,.int .u64 c.r3,.string c.s,.bool c.null,.slice ia il ic,.slice ka kl kc] 35)):=Ak.alloc _;have EN:=aHj _ nb c.r0 c.r1 c.r2 c.r3 h0 c.s c.null (.slice ia il ic) (.slice ka kl kc) (BM.aA hf (fun h=>h));clear Ac AQ CB hc
    go_wp2_with (first|((with_reducible show wpList _ _ _ (⟨some 17,_,_,_,_,_⟩ :: _) _ _);refine dG _ rfl _ _ _ rfl _ _ rfl (bM.func1 call392 EN) rfl ?_;rintro e w1 ⟨rfl,Ad⟩;refine ⟨_,rfl,?_⟩;have Bv:F0 w w1:=BM.trans Ad (fun _ _ h=>h);have Ba:=Ad.owns ((Fr.refl (fun _=>False) wr).alloc _ |>.owns Aa (fun _ _ h=>h)) (fun _ _ h=>h))|((with_reducible show wpList _ _ _ (⟨some 19,_,_,_,_,_⟩ :: _) _ _);refine aP _ rfl aKz _ _ rfl _ _ _ rfl (Ba.alloc _) _ _ _ rfl (Src.ofSlice _ underlying225 _ _ _ _ rfl (bG _ [.int .u64 c.r0,.int .u64 c.r1] _) (by simp[Value.oneCell'])) ?_ ?_ ?_;(unfold maxLen;omega);omega;intro v' w2 ha;obtain ⟨a',c',rfl⟩:=ha.shape))
    go_roundw
    case rel=>exact ⟨k+1,by omega,by go_num,by rw[Ah.out];exact ha.1,(ha.since (Bv.alloc _) Ai).1,(ha.since (Bv.alloc _) Ai).2⟩
    case measure=>simp[intOf];omega
  · have Bl:k=cs.length:=by omega
    subst Bl;rw[take_length] at Aa;go_wp2;go_ret
    exact ⟨_,rfl,Aa,Ak⟩
theorem xR (cs:List Cell):∀ u∈cs.flatMap dX,u.oneCell'=true:=by
 intro u hu;obtain ⟨c,_,hc⟩:=mem_flatMap.1 hu;simp only[dX,mem_cons,not_mem_nil,or_false] at hc;rcases hc with rfl|rfl<;>rfl
theorem oZ (w:World) (B p nb:Nat) (Bd:B≤w.heap.size) (n:Nat) (xs:List Value) (fp:Nat→Prop) (hc:aJ w p 226 228 2 n xs fp) (hf:w.cell? ⟨nb,1,none⟩=some (.func (.func 68) #[] #[]))
 (cs:List Cell) (v:Value) (ys:List Value) (hs:Sl B w 8 v cs.length ys) (A8:aI B w cs ys) (hn:n+cs.length≤2147483648) :
 Calls Tryz.prog 635 #[.agg #[.iface 224 (.pointer (some ⟨p,0,none⟩)),.func (.func 392) #[] #[.pointer (some ⟨nb,0,none⟩)],.func (.func 393) #[] #[.pointer (some ⟨nb,0,none⟩)]],v] w fun e w' =>
  e=.returned (.tuple #[])∧(∃ fp',aJ w' p 226 228 2 (n+cs.length) (xs++cs.flatMap dX) fp'∧Grow w fp fp')∧Fr fp w w':=by
 go_enter func635,ntmps635
 go_wp2_with fail
 generalize hW:w.alloc _=W;have Af:F0 w W:=by subst hW;exact (Fr.refl _ w).alloc _
 have d0:W.cell? ⟨w.heap.size,0,none⟩=some (.iface 224 (.pointer (some ⟨p,0,none⟩))):=by subst hW;rw[aB rfl];rfl
 have d1:W.cell? ⟨w.heap.size,1,none⟩=some (.func (.func 392) #[] #[.pointer (some ⟨nb,0,none⟩)]):=by subst hW;rw[aB rfl];rfl
 have BA:aJ W p 226 228 2 n xs fp:=hc.aW fun k hk=>Af.block k (hc.lt k hk) (fun h=>h)
 have Aw:W.cell? ⟨nb,1,none⟩=some (.func (.func 68) #[] #[]):=Af.aA hf (fun h=>h);have hN:¬ fp w.heap.size:=fun h=>by have:=hc.lt _ h;omega
 have D6:=hs.fr Bd Af;have Cf:=aI.below (Af.below Bd (fun _ _ h=>h)) _ _ A8;have CZ:B≤W.heap.size:=Nat.le_trans Bd Af.size;have EX:=D6.fr CZ (Fr.refl (fun _=>False) W).drew;have Ce:=aI.below ((Below.refl B W).drew) _ _ Cf;clear hW hs A8
 go_region_held3 (fun w'=>w'.cell? ⟨w.heap.size,0,none⟩=some (.iface 224 (.pointer (some ⟨p,0,none⟩)))∧w'.cell? ⟨w.heap.size,1,none⟩=some (.func (.func 392) #[] #[.pointer (some ⟨nb,0,none⟩)]))
  (first
   | exact ⟨d0,d1⟩
   | exact ⟨Ae.aA d0 hN,Ae.aA d1 hN⟩
   | exact ⟨Ad.aA d0 (fun h=>h),Ad.aA d1 (fun h=>h)⟩
   | assumption)
  (first
   | (go_at_call 637;refine (aCZ W.drew B nb CZ Aw cs v ys EX Ce (by omega)).mono ?_;rintro e w1 ⟨tv,rfl,Aa,Ad⟩)
   | (refine aK _ rfl ?_;refine bH _ _ _ _ _ rfl _ _ rfl (aF.of1 (uG _ _) call377 (xQ _ p n xs fp (BA.aW fun k hk=>Ad.block k (BA.lt k hk) (fun h=>h)) _ _ _ (Src.kC underlying225 Aa (xR cs)) hn)) rfl ?_;rintro e w2 ⟨rfl,Aq,Au⟩;have Ae:Fr fp W w2:=(Ad.aH.mono (fun _ _ h=>h.elim)).trans Au (fun _ _ h=>h);refine ⟨_,rfl,?_⟩))
 all_goals
  go_end0
  refine ⟨rfl,?_,(Af.mono (fun _ _ h=>h.elim)).trans Ae (fun _ _ h=>h)⟩;obtain ⟨fp',h1,h2⟩:=Aq
  exact ⟨fp',h1,fun k hk=>(h2 k hk).imp id (fun h=>Nat.le_trans (Nat.le_trans Af.size Ad.size) h)⟩
theorem aIe (w:World) (a:Option Addr) (n c:Nat):Calls Tryz.prog 382 #[.slice a n c] w fun e w'=>e=.returned (.int .i64 n)∧F0 w w':=by
 go_enter func382,ntmps382;go_wp2;go_ret
 exact ⟨rfl,Fr.refl _ _⟩
theorem qP (w:World) (b:Nat) (fb:Nat→Prop) (bs:List UInt8) (hb:Buf w b fb bs) (a:Option Addr) (c:Nat) (cs:List Cell) (Aa:w.ownsRow 0 228 2 (.slice a cs.length c) cs.length (cs.flatMap dX))
 (hd:∀ k,(Value.slice a cs.length c).ownBlock=some k→¬ fb k) (hc:∀ c∈cs,c.small) (hl:bs.length+16*cs.length≤1099511627776) :
 Calls Tryz.prog 379 #[.slice a cs.length c,.pointer (some ⟨b,0,none⟩)] w fun e w'=>e=.returned (.tuple #[])∧Fr fb w w'∧∃ fb',Buf w' b fb' (bs++cs.flatMap (aG 16))∧Grow w fb fb'∧Kept w w' b bs.length:=by
 by_cases h0:cs.length=0
 · have A8:cs=[]:=eq_nil_of_length_eq_zero (by omega)
   subst A8;go_enter func379,ntmps379;go_wp2
   try simp only[Exit.inBlock,Exit.then]
   refine bodyPost_ret (results_none rfl _ _ _) rfl ?_
   exact ⟨rfl,Fr.refl _ _,fb,by simpa using hb,fun k hk=>.inl hk,Kept.refl _ _ _⟩
 · have Ei:=hb
   obtain ⟨v,hp,Bh,Am,Aj⟩:=Ei;obtain ⟨Ac,BH⟩:=aJ.cell hp;obtain ⟨a0,c0,rfl⟩:=ownsRow_shape Bh;have AZ:=aC hp;have AP:cs.length≤9223372036854775807:=by omega
   go_enter func379,ntmps379
   go_wp2_with ((with_reducible show wpList _ _ _ (⟨some 25,_,_,_,_,_⟩ :: _) _ _);(refine dB _ rfl gY underlying3 _ _ rfl _ _ _ rfl Bh _ (16*cs.length) rfl ?_ ?_ ?_ ?_);go_num;omega;omega;intro v' w1 ha;obtain ⟨a',c',rfl⟩:=ha.shape;have Cj:w1.cell? ⟨b,0,none⟩=some (.slice a0 bs.length c0):=ha.2.1.cell Ac (fun h=>Am h.symm);have Ad:w1.frozen? ⟨b,0,none⟩=false:=(World.frozen?_of_block (ha.2.1.block b AZ (fun h=>Am h.symm))).trans BH)
   obtain ⟨⟨fb',Aq,AX⟩,Ak⟩:=aJ.appended hp Bh Am Aj (Fr.refl _ w) ha;have D5:=Kept.appended hp Bh Am (Fr.refl _ w) ha;generalize w1.setCell ⟨b,0,none⟩ (Value.slice a' (bs.length+16*cs.length) c')=W at Aq Ak D5 ⊢;obtain ⟨g,cap,hot,BC⟩:=Hot.of Aq (by omega);have Bi:=Ak.owns Aa hd
   have DF:∀ k,(Value.slice a cs.length c).ownBlock=some k→k≠b∧k≠g:=fun k hk=>⟨fun e=>hd k hk ((Aj k).2 (.inl e)),fun e=>by
    subst e;rcases AX k ((BC k).2 (.inr rfl)) with h|h
    · exact hd k hk h
    · have:=aO Aa hk;omega⟩
   have hS:∀ k,k<w.heap.size→(k=b∨k=g)→fb k:=fun k hk hh=>(AX k ((BC k).2 hh)).resolve_right (by omega)
   have Ie:=Lib.hid hp;have DV:=Lib.hid Bh;have DU:=Lib.hid Am;have DR:=Lib.hid D5;clear ha Aq hp Bh Ac BH Cj Ad Am hb D5
   go_loopw [5,7,30] (fun off _ i wr=>∃ k:Nat,k≤cs.length∧i=.int .i64 k∧off=.int .i64 (bs.length+16*k:Nat)∧Hot wr b g (bs.length+16*cs.length) cap (aN (bs++(cs.take k).flatMap (aG 16))++List.replicate (16*(cs.length - k)) (.int .u8 0))∧Fr (fun k=>k=b∨k=g) W wr) (fun _ _ i _=>cs.length - (intOf i).toNat)
   case atStart=>exact ⟨0,Nat.zero_le _,rfl,by simp,by simpa using hot,Fr.refl _ _⟩
   case round =>
    obtain ⟨k,hk,rfl,rfl,A7,AY⟩:=hrel
    by_cases Ar:k<cs.length
    · have Ap:=AY.owns Bi (fun k hk h=>by have:=DF k hk;omega)
      rcases Ap.2 with ⟨hv,_⟩|⟨ga,capa,cura,hv,_⟩
      · simp only[Value.slice.injEq] at hv;omega
      · simp only[Value.slice.injEq] at hv
        obtain ⟨rfl,_,rfl⟩:=hv;have Dp:=hc cs[k] (getElem_mem _);have Ah:=bQ (aG 16) cs k Ar;have AL:=fun j hj=>gJ dX 2 (fun _=>rfl) cs k j Ar hj
        generalize cs[k]=cc at Dp Ah AL;obtain ⟨b0,b1,b2,b3,_⟩:=Dp;have FK:=Ap.cells (g:=ga) rfl (k*2+0) _ (AL 0 (by omega));rw[Addr.add_lit,Nat.zero_add] at FK;have F6:=Ap.cells (g:=ga) rfl (k*2+1) _ (AL 1 (by omega));rw[Addr.add_lit,Nat.zero_add] at F6;simp only[Nat.add_zero] at FK;have H5:=A7.cell;have H9:=A7.row;obtain ⟨_,_,_,Lr,Cm⟩:=H9;unfold maxLen at Cm;have AA:(bs++(cs.take k).flatMap (aG 16)).length=bs.length+16*k:=by rw[length_append,aY _ 16 (aV 16 (by omega)),length_take];congr 2;omega
        have Jj:aG 16 cc=Lib.leBytes 8 cc.r0++Lib.leBytes 8 cc.r1:=vX cc
        have UV:aN (bs++(cs.take k).flatMap (aG 16))++List.replicate (16*(cs.length - k)) (.int .u8 0)=aN (bs++(cs.take k).flatMap (aG 16))++(List.replicate 8 (Value.int .u8 0)++List.replicate 8 (Value.int .u8 0))++List.replicate (16*(cs.length - (k+1))) (.int .u8 0):=by
         simp only[append_assoc,replicate_append_replicate]
         congr 2
         omega
        rw[UV] at A7;have DK:bs.length+16*k=(aN (bs++(cs.take k).flatMap (aG 16))).length:=by rw[aZ,AA]
        have AO:=aGf ((wr.alloc (.cells #[.int .u64 cc.r0,.int .u64 cc.r1] 228)).drew) b g _ cap _ _ (List.replicate 8 (Value.int .u8 0)) (List.replicate 8 (Value.int .u8 0)) ((A7.alloc _).drew) (by simp) (by simp) cc.r0 cc.r1 b0 b1 (bs.length+16*k) (cap - (bs.length+16*k)) DK (by omega);rw[← Jj] at AO;simp only[← bC,append_assoc] at AO;rw[← Ah] at AO;have BM:Fr (fun k=>k=b∨k=g) W ((wr.alloc (.cells #[.int .u64 cc.r0,.int .u64 cc.r1] 228)).drew):=(AY.alloc _).drew;have dc0:(wr.alloc (.cells #[.int .u64 cc.r0,.int .u64 cc.r1] 228)).cell? ⟨wr.heap.size,0,none⟩=some (.int .u64 cc.r0):=by rw[aB rfl];rfl
        have dc1:(wr.alloc (.cells #[.int .u64 cc.r0,.int .u64 cc.r1] 228)).cell? ⟨wr.heap.size,1,none⟩=some (.int .u64 cc.r1):=by rw[aB rfl];rfl
        have IR:(wr.alloc (.cells #[.int .u64 cc.r0,.int .u64 cc.r1] 228)).cell? ⟨b,0,none⟩=some (.slice (some ⟨g,0,none⟩) (bs.length+16*cs.length) cap):=((Fr.refl (fun _=>False) wr).alloc _).aA H5 (fun h=>h);have Yv:=A7.glt;clear AL A7;have ho:bs.length+16*k+16≤cap:=by omega
        generalize Jk:bs.length+16*k=o at ho AO ⊢;have s0:(0:Int)≤↑o:=by omega
        have s1:IntKind.i64.wrap ((o:Int)+16)=(o:Int)+16:=by rw[IntKind.wrap_i64];omega
        have s2:(o:Int)≤(o:Int)+16:=by omega
        have s3:(o:Int)+16≤(cap:Int):=by omega
        have s4:(0:Int)≤(o:Int)+16:=by omega
        have s5:¬ cap=o:=by omega
        have s6:((o:Int)+16).toNat - o=16:=by omega
        go_wp2;generalize RU:wr.alloc (.cells #[.int .u64 cc.r0,.int .u64 cc.r1] 228)=Wa at AO BM IR dc0 dc1 ⊢;clear RU
        go_region_held3 (fun w'=>w'.cell? ⟨b,0,none⟩=some (.slice (some ⟨g,0,none⟩) (bs.length+16*cs.length) cap)∧w'.cell? ⟨wr.heap.size,0,none⟩=some (.int .u64 cc.r0)∧w'.cell? ⟨wr.heap.size,1,none⟩=some (.int .u64 cc.r1))
         (first
          | exact ⟨IR,dc0,dc1⟩
          | exact ⟨Bz.cell,Ad.aA dc0 (by show ¬ wr.heap.size=g;omega),Ad.aA dc1 (by show ¬ wr.heap.size=g;omega)⟩
          | assumption)
         (first
          | (go_at_call 385;refine AO.mono ?_;rintro e w1 ⟨rfl,Ad,Bz⟩))
        all_goals
         go_wp2;go_roundw
         case rel=>exact ⟨k+1,by omega,by go_num,by subst Jk;go_num,Bz,BM.trans Ad (fun _ _ h=>.inr h)⟩
         case measure=>simp[intOf];omega
    · have Bl:k=cs.length:=by omega
      subst Bl;go_wp2;go_end0;rw[take_length,Nat.sub_self,Nat.mul_zero,replicate_zero,append_nil] at A7;have CO:=fun CJ=>Hot.buf (bs:=bs++cs.flatMap (aG 16)) (cap:=cap) (N:=bs.length+16*cs.length) A7 (fb:=fun k=>k=b∨k=g) CJ
      have C9:=Kept.hot (l:=aN (cs.flatMap (aG 16))) Ie.out DV.out DU.out DR.out AY (by rw[← bC];exact A7)
      exact ⟨rfl,Ak.trans AY hS,_,CO (fun k=>Iff.rfl),fun k hk=>AX k ((BC k).2 hk),C9⟩
def aKy:Nat→Nat→Nat→World→(Nat→Prop)→List Cell→Prop:=gZ 226 228 2 dX (.func (.func 68) #[] #[]) (.func (.func 70) #[] #[])
theorem xU (p nb:Nat) (w:World) (name:String) (f:FuncId) (h:(name,f)=("Append",634)∨(name,f)=("AppendArr",635)):(method mdp 554 (.agg #[.iface 224 (.pointer (some ⟨p,0,none⟩)),.func (.func 392) #[] #[.pointer (some ⟨nb,0,none⟩)],.func (.func 393) #[] #[.pointer (some ⟨nb,0,none⟩)]]) name).run Tryz.prog w=.ok (f,.agg #[.iface 224 (.pointer (some ⟨p,0,none⟩)),.func (.func 392) #[] #[.pointer (some ⟨nb,0,none⟩)],.func (.func 393) #[] #[.pointer (some ⟨nb,0,none⟩)]]) w:=by
 rcases h with h|h<;>(simp only[Prod.mk.injEq] at h;obtain ⟨rfl,rfl⟩:=h;kernel_rfl)
theorem aCX (p nb:Nat) (w:World) (v:Value) (hv:w.cell? ⟨p,0,none⟩=some v):(method mdp 554 (.agg #[.iface 224 (.pointer (some ⟨p,0,none⟩)),.func (.func 392) #[] #[.pointer (some ⟨nb,0,none⟩)],.func (.func 393) #[] #[.pointer (some ⟨nb,0,none⟩)]]) "Rows").run Tryz.prog w=.ok (382,v) w:=by
 obtain ⟨n,hn⟩:=fuel;rw[hn]
 refine (aX (n:=n+1) underlying554 rfl rfl (fun _=>by kernel_rfl) (by kernel_rfl) rfl).trans ?_
 exact aQ (n:=n) false (by kernel_rfl) (aU underlying224 (bI underlying226 hv))
theorem aES (p nb:Nat) (w:World) (v:Value) (hv:w.cell? ⟨p,0,none⟩=some v):(method mdp 554 (.agg #[.iface 224 (.pointer (some ⟨p,0,none⟩)),.func (.func 392) #[] #[.pointer (some ⟨nb,0,none⟩)],.func (.func 393) #[] #[.pointer (some ⟨nb,0,none⟩)]]) "EncodeColumn").run Tryz.prog w=.ok (379,v) w:=by
 obtain ⟨n,hn⟩:=fuel;rw[hn]
 refine (aX (n:=n+1) underlying554 rfl rfl (fun _=>by kernel_rfl) (by kernel_rfl) rfl).trans ?_
 exact aQ (n:=n) false (by kernel_rfl) (aU underlying224 (bI underlying226 hv))
theorem aHZ (p nb:Nat):iI Tryz.prog 226 228 554 2 dX (.func (.func 68) #[] #[]) p nb (.agg #[.iface 224 (.pointer (some ⟨p,0,none⟩)),.func (.func 392) #[] #[.pointer (some ⟨nb,0,none⟩)],.func (.func 393) #[] #[.pointer (some ⟨nb,0,none⟩)]]) (.num .i128) where
 append:=fun w n xs fp hc hn hf c iv kv hs=>aF.of1 (xU p nb w _ _ (.inl rfl)) call634 (wK w p nb n xs fp hc hn hf c.r0 c.r1 c.r2 c.r3 hs.1 c.s c.null iv kv)
 appendArr:=fun w B n xs fp hB hc hf cs v ys hs A8 hn=>aF.of1 (xU p nb w _ _ (.inr rfl)) call635 (oZ w B p nb hB n xs fp hc hf cs v ys hs A8 hn)
 rows:=fun w a n c hp=>aF.of0 (aCX p nb w _ hp) call382 (aIe w a n c)
 flat:=by rintro w name (rfl|rfl|rfl) n m<;>exact fC underlying554 rfl rfl (fun _=>by kernel_rfl) (by kernel_rfl) rfl (by kernel_rfl) n m
 ahead:=fun w=>by kernel_rfl
 prep:=fun x w=>run_typeAssert_lacksB underlying102 (by kernel_rfl) (by kernel_rfl) _ x w
 stat:=fun x w=>run_typeAssert_lacksB underlying172 (by kernel_rfl) (by kernel_rfl) _ x w
 encode:=fun w b fb bs a c cs hb hp Aa hd hs hl=>aF.of1 (aES p nb w _ hp) call379 (qP w b fb bs hb a c cs Aa hd hs
  (by have GH:(enc (.num .i128) cs).length=16*cs.length:=aY _ 16 (aV 16 (by omega)) cs;omega))
theorem aIf (B p nb:Nat):ColSpec Tryz.prog B 554 (.agg #[.iface 224 (.pointer (some ⟨p,0,none⟩)),.func (.func 392) #[] #[.pointer (some ⟨nb,0,none⟩)],.func (.func 393) #[] #[.pointer (some ⟨nb,0,none⟩)]]) (.num .i128) [] (aKy B p nb) (aKy B p nb):=(aHZ p nb).spec
theorem aCW (w:World):Calls Tryz.prog 50 #[.int .i64 5] w fun e w'=>e=.returned (.iface 237 (.agg #[.iface 224 (.pointer (some ⟨w.heap.size,0,none⟩)),.func (.func 68) #[] #[],.func (.func 70) #[] #[]]))∧w'=w.alloc (.cells #[.slice none 0 0] 226):=by
 go_enter func50,ntmps50;go_wp2;go_ret
 exact ⟨rfl,rfl⟩
theorem aBO (w:World) (p:Nat):(method mdp 237 (.agg #[.iface 224 (.pointer (some ⟨p,0,none⟩)),.func (.func 68) #[] #[],.func (.func 70) #[] #[]]) "given.example/pub-bradawl/impl.cells").run Tryz.prog w =
 .ok (391,.agg #[.iface 224 (.pointer (some ⟨p,0,none⟩)),.func (.func 68) #[] #[],.func (.func 70) #[] #[]]) w:=by
 obtain ⟨n,hn⟩:=fuel;rw[hn]
 exact aQ (n:=n+1) false (by kernel_rfl) (dM underlying237 rfl)
theorem aIc (w:World) (p B:Nat) (hB:B≤p) (hp:w.heap[p]?=some (.cells #[.slice none 0 0] 226 (0,0))) :
 Calls Tryz.prog 391 #[.agg #[.iface 224 (.pointer (some ⟨p,0,none⟩)),.func (.func 68) #[] #[],.func (.func 70) #[] #[]]] w fun e w' =>
  ∃ nb fp,e=.returned (.iface 554 (.agg #[.iface 224 (.pointer (some ⟨p,0,none⟩)),.func (.func 392) #[] #[.pointer (some ⟨nb,0,none⟩)],.func (.func 393) #[] #[.pointer (some ⟨nb,0,none⟩)]]))∧aKy B p nb w' fp []∧F0 w w':=by
 have AZ:=aC hp;go_enter func391,ntmps391;go_wp2;go_ret
 refine ⟨w.heap.size,fun k=>k=p∨k=w.heap.size,rfl,⟨fun k=>k=p,⟨.slice none 0 0,(Below.heap_alloc _ _ _ AZ).trans hp,World.ownsRow_nil _ _ _ _,by simp[Value.ownBlock],fun k=>by simp[Value.ownBlock]⟩,⟨by rw[aB rfl];rfl,by rw[aB rfl];rfl⟩,fun k=>Iff.rfl,?_,by omega,by simp⟩,(Fr.refl _ w).alloc _⟩;rintro k (rfl|rfl)<;>omega
theorem aEU {conn:Value} {ps pw:Nat} {w:World} {fw:Nat→Prop} {n:Nat} {out:List UInt8} (h:eG conn ps pw w fw n out) (a:Option Addr) (c:Nat) (cs:List Cell) (Aa:w.ownsRow 0 228 2 (.slice a cs.length c) cs.length (cs.flatMap dX))
 (hd:∀ k,(Value.slice a cs.length c).ownBlock=some k→¬ fw k) (hs:∀ c∈cs,c.small) (hl:out.length+(cs.flatMap (aG 16)).length≤1099511627776) :
 Calls Tryz.prog 384 #[.slice a cs.length c,.pointer (some ⟨pw,0,none⟩)] w fun e w'=>e=.returned (.tuple #[])∧Fr fw w w'∧∃ fw',eG conn ps pw w' fw' n (out++cs.flatMap (aG 16))∧Grow w fw fw':=by
 have GH:=aY _ 16 (aV 16 (by omega)) cs;have Gw:=h.chain (l:=cs.flatMap (aG 16)) (cb:=.func (.func 379) #[.slice a cs.length c] #[]) fun b fb bs hb CJ Gf=>bM.bound call379 (qP w b fb bs hb a c cs Aa (fun k hk e=>hd k hk (CJ k e)) hs (by omega))
 go_enter func384,ntmps384
 go_wp2_with (go_at_call 176;refine Gw.mono ?_;rintro e w1 ⟨rfl,h1,h2⟩)
 go_end0
 exact ⟨rfl,h1,h2⟩
theorem aCY (w:World) (r0 r1:Nat):Calls Tryz.prog 70 #[.agg #[.int .u64 r0,.int .u64 r1]] w fun e w'=>e=.returned (.agg #[.int .u64 r0,.int .u64 r1,.int .u64 0,.int .u64 0])∧F0 w w':=by
 go_enter func70,ntmps70
 go_wp2_with (go_at_call 71;refine (aEl _ r0 r1 0 0).mono ?_;rintro e w1 ⟨rfl,Ad⟩;have hm:w1.heap[w.heap.size+1]?=some (.cells #[.int .u64 0,.int .u64 0,.int .u64 0,.int .u64 0] 33 (0,0)):=Ad.made (by simp);have q0:w1.cell? ⟨w.heap.size+1,0,none⟩=some (.int .u64 0):=(crw hm rfl);have z0:=fzj 0 hm;have q1:w1.cell? ⟨w.heap.size+1,1,none⟩=some (.int .u64 0):=(crw hm rfl);have z1:=fzj 1 hm;have q2:w1.cell? ⟨w.heap.size+1,2,none⟩=some (.int .u64 0):=(crw hm rfl);have z2:=fzj 2 hm;have q3:w1.cell? ⟨w.heap.size+1,3,none⟩=some (.int .u64 0):=(crw hm rfl);have z3:=fzj 3 hm)
 refine bodyPost_ret (by simp[results,results70,go_sem,q0,q1,q2,q3];try rfl) rfl ?_
 have hb:∀ i,(False∨w.heap.size≤(⟨w.heap.size+1,i,none⟩:Addr).block):=fun _=>.inr (Nat.le_succ _)
 exact ⟨rfl,(((((((Fr.refl _ w).alloc _).alloc _).trans Ad (fun _ _ h=>h)).setCell (hb 0) _).setCell (hb 1) _).setCell (hb 2) _).setCell (hb 3) _⟩
theorem aNE (w:World) (a:Option Addr) (k c:Nat) (cs:List Cell) (hk:k<cs.length) (Aa:w.ownsRow 0 228 2 (.slice a cs.length c) cs.length (cs.flatMap dX)) :
 Calls Tryz.prog 381 #[.slice a cs.length c,.int .i64 k] w fun e w'=>e=.returned (.agg #[.int .u64 cs[k].r0,.int .u64 cs[k].r1])∧F0 w w':=by
 rcases Aa.2 with ⟨hv,_⟩|⟨ga,capa,cura,hv,_⟩
 · simp only[Value.slice.injEq] at hv;omega
 · simp only[Value.slice.injEq] at hv
   obtain ⟨rfl,_,rfl⟩:=hv;have AL:=fun j hj=>gJ dX 2 (fun _=>rfl) cs k j hk hj
   have FK:=Aa.cells (g:=ga) rfl (k*2+0) _ (AL 0 (by omega));rw[Addr.add_lit,Nat.zero_add] at FK;have F6:=Aa.cells (g:=ga) rfl (k*2+1) _ (AL 1 (by omega));rw[Addr.add_lit,Nat.zero_add] at F6;simp only[Nat.add_zero] at FK;have hy0:=fun o=>(World.cell?_alloc_lt w o _ (World.block_lt_of_cell? w _ FK)).trans FK
   have hy1:=fun o=>(World.cell?_alloc_lt w o _ (World.block_lt_of_cell? w _ F6)).trans F6
   have Gz:(k:Int)<cs.length:=by omega
   go_enter func381,ntmps381;go_wp2
   refine bodyPost_ret (by simp[results,results381,go_sem];try rfl) rfl ?_
   exact ⟨rfl,((Fr.refl _ w).alloc _)⟩
theorem aId (w:World) (nb r0 r1:Nat) (hf:w.cell? ⟨nb,2,none⟩=some (.func (.func 70) #[] #[])) :
 Calls Tryz.prog 393 #[.agg #[.int .u64 r0,.int .u64 r1],.pointer (some ⟨nb,0,none⟩)] w fun e w'=>e=.returned (.agg #[.int .u64 r0,.int .u64 r1,.int .u64 0,.int .u64 0,.string ⟨#[]⟩,.bool false,.slice none 0 0,.slice none 0 0])∧F0 w w':=by
 have Ey:∀ o,(w.alloc o).cell? ⟨nb,2,none⟩=some (.func (.func 70) #[] #[]):=fun o=>(World.cell?_alloc_lt w o _ (World.block_lt_of_cell? w _ hf)).trans hf
 have Ti:∀ o o',((w.alloc o).alloc o').cell? ⟨nb,2,none⟩=some (.func (.func 70) #[] #[]):=fun o o'=>(World.cell?_alloc_lt _ o' _ (World.block_lt_of_cell? _ _ (Ey o))).trans (Ey o)
 go_enter func393,ntmps393
 go_wp2_with (go_at_call 70;refine (aCY _ r0 r1).mono ?_;rintro e w1 ⟨rfl,Ad⟩;have hm:=Ad.made (n:=w.heap.size+1) (by simp);obtain ⟨c0,c1,c2,c3,c4,c5,c6,c7⟩:=bD.eight (bD.of_block hm);have z0:=fzj 0 hm;have z1:=fzj 1 hm;have z2:=fzj 2 hm;have z3:=fzj 3 hm;have z4:=fzj 4 hm;have z5:=fzj 5 hm;have z6:=fzj 6 hm;have z7:=fzj 7 hm)
 refine bodyPost_ret (by simp[results,results393,go_sem,c0,c1,c2,c3,c4,c5,c6,c7];try rfl) rfl ?_
 have Ez:=(((Fr.refl (fun _=>False) w).alloc _).alloc _).trans Ad (fun _ _ h=>h);have hb:∀ i,(False∨w.heap.size≤(⟨w.heap.size+1,i,none⟩:Addr).block):=fun _=>.inr (Nat.le_succ _)
 exact ⟨rfl,(((((((Ez.setCell (hb 0) _).setCell (hb 1) _).setCell (hb 2) _).setCell (hb 3) _).setCell (hb 4) _).setCell (hb 5) _).setCell (hb 6) _).setCell (hb 7) _⟩
theorem aIa (a:Addr) (w:World) {b:Option Addr} {n c:Nat} (hv:w.cell? a=some (.slice b n c)):(method mdp 224 (.pointer (some a)) "Row").run Tryz.prog w=.ok (381,.slice b n c) w:=by
 obtain ⟨n,hn⟩:=fuel;rw[hn]
 exact aQ (n:=n+1) false (by kernel_rfl) (aU underlying224 (bI underlying226 hv))
theorem aBN (w:World) (p nb:Nat) (a:Option Addr) (k c:Nat) (cs:List Cell) (hk:k<cs.length) (hp:w.cell? ⟨p,0,none⟩=some (.slice a cs.length c)) (Aa:w.ownsRow 0 228 2 (.slice a cs.length c) cs.length (cs.flatMap dX))
 (hf:w.cell? ⟨nb,2,none⟩=some (.func (.func 70) #[] #[])) :
 Calls Tryz.prog 636 #[.agg #[.iface 224 (.pointer (some ⟨p,0,none⟩)),.func (.func 392) #[] #[.pointer (some ⟨nb,0,none⟩)],.func (.func 393) #[] #[.pointer (some ⟨nb,0,none⟩)]],.int .i64 k] w fun e w' =>
  e=.returned (.agg #[.int .u64 cs[k].r0,.int .u64 cs[k].r1,.int .u64 0,.int .u64 0,.string ⟨#[]⟩,.bool false,.slice none 0 0,.slice none 0 0])∧F0 w w':=by
 have Ag:=fun W (Aw:F0 w W)=>aF.of1 (name:= "Row") (aIa ⟨p,0,none⟩ W.drew (Aw.drew.aA hp (fun h=>h))) call381 (aNE W.drew a k c cs hk (Aw.drew.owns Aa (fun _ _ h=>h)))
 generalize cs[k].r0=r0 at Ag ⊢;generalize cs[k].r1=r1 at Ag ⊢;clear hp Aa hk;have Ag:=Lib.hid Ag;go_enter func636,ntmps636
 go_wp2_with fail
 generalize hW:(w.alloc _).alloc _=W;have Af:F0 w W:=by subst hW;exact ((Fr.refl _ w).alloc _).alloc _
 have d0:W.cell? ⟨w.heap.size,0,none⟩=some (.iface 224 (.pointer (some ⟨p,0,none⟩))):=by subst hW;rw[ca (by simp),aB rfl];rfl
 have d2:W.cell? ⟨w.heap.size,2,none⟩=some (.func (.func 393) #[] #[.pointer (some ⟨nb,0,none⟩)]):=by subst hW;rw[ca (by simp),aB rfl];rfl
 have Di:W.heap[w.heap.size+1]?=some (.cells #[.int .u64 0,.int .u64 0,.int .u64 0,.int .u64 0,.string ⟨#[]⟩,.bool false,.slice none 0 0,.slice none 0 0] 35 (0,0)):=by subst hW;exact Fr.made (Fr.refl _ _) (by simp)
 have Aw:=Af.aA hf (fun h=>h);clear hW
 go_region_law
  (first
   | (refine aK _ rfl ?_;refine bH _ _ _ _ _ rfl _ _ rfl (Ag.out W Af) rfl ?_;rintro e w1 ⟨rfl,BL⟩;have Ad:=BL.aH;have d2':=Ad.aA d2 (fun h=>h);refine ⟨_,rfl,?_⟩)
   | (refine aK _ rfl ?_;refine dI _ _ _ _ rfl _ _ rfl (bM.func1 call393 (aId _ nb r0 r1 (Ad.aA Aw (fun h=>h)))) rfl ?_;rintro e w2 ⟨rfl,Au⟩;have Ae:F0 W w2:=Ad.trans Au (fun _ _ h=>h);have AB:=(Ae.block _ (aC Di) (fun h=>h)).trans Di;obtain ⟨c0,c1,c2,c3,c4,c5,c6,c7⟩:=bD.eight (bD.of_block AB);have z0:=fzj 0 AB;have z1:=fzj 1 AB;have z2:=fzj 2 AB;have z3:=fzj 3 AB;have z4:=fzj 4 AB;have z5:=fzj 5 AB;have z6:=fzj 6 AB;have z7:=fzj 7 AB;refine ⟨_,rfl,?_⟩))
 all_goals (try simp only[Exit.then])
 all_goals
  refine (‹∀ (a:Act) (w:World),Code.wp _ Code.ret _ a w→_› _ _ ?_)
  refine wp_ret ?_
  show bodyPost _ _ _ _ _ _
  refine bodyPost_ret (by simp[results,results636,go_sem,c0,c1,c2,c3,c4,c5,c6,c7];try rfl) rfl ?_
  have hb:∀ i,(False∨w.heap.size≤(⟨w.heap.size+1,i,none⟩:Addr).block):=fun _=>.inr (Nat.le_succ _)
  exact ⟨rfl,(((((((((Af.trans Ae (fun _ _ h=>h)).setCell (hb 0) _).setCell (hb 1) _).setCell (hb 2) _).setCell (hb 3) _).setCell (hb 4) _).setCell (hb 5) _).setCell (hb 6) _).setCell (hb 7) _)⟩
abbrev aBP (p nb:Nat):Value:=.agg #[.iface 224 (.pointer (some ⟨p,0,none⟩)),.func (.func 392) #[] #[.pointer (some ⟨nb,0,none⟩)],.func (.func 393) #[] #[.pointer (some ⟨nb,0,none⟩)]]
theorem aET (p nb:Nat) (w:World):(method mdp 554 (aBP p nb) "Row").run Tryz.prog w=.ok (636,aBP p nb) w:=by kernel_rfl
theorem aIb (p nb:Nat) (w:World) (v:Value) (hv:w.cell? ⟨p,0,none⟩=some v):(method mdp 554 (aBP p nb) "WriteColumn").run Tryz.prog w=.ok (384,v) w:=by
 obtain ⟨n,hn⟩:=fuel;rw[hn]
 refine (aX (n:=n+1) underlying554 rfl rfl (fun _=>by kernel_rfl) (by kernel_rfl) rfl).trans ?_
 exact aQ (n:=n) false (by kernel_rfl) (aU underlying224 (bI underlying226 hv))
theorem aER (p nb:Nat):fU Tryz.prog 226 228 554 2 dX (.func (.func 70) #[] #[]) p nb (aBP p nb) (.num .i128) where
 write:=fun hp Aa hs CY hd hl hn=>(aF.of1 (aIb p nb _ _ hp) call384 (aEU CY _ _ _ Aa (fun k hk=>(hd k hk).1) hs hl)).mono fun e w' ⟨h1,h2,fw',h3,h4⟩=>⟨h1,h2,fw',h3.more (Nat.le_add_right _ _),h4⟩
 row:=fun {w a c k cs} hk hp Aa hs hf=>(aF.of1 (aET p nb w) call636 (aBN w p nb a k c cs hk hp Aa hf)).mono fun e w' ⟨h1,h2⟩=>⟨.mk cs[k].r0 cs[k].r1 0 0 ⟨#[]⟩ false [] [],⟨(hs _ (getElem_mem hk)).1,(hs _ (getElem_mem hk)).2.1,Nat.zero_lt_succ _,Nat.zero_lt_succ _,Nat.zero_le _⟩,h1,h2,aDC rfl⟩
theorem aHC:ElT Tryz.prog 297 298 (.agg #[.int .u64 0,.int .u64 0,.int .u64 0,.int .u64 0]) 4 32:=⟨underlying297,info_parts (by kernel_rfl),rfl⟩
theorem aMQ:ElT Tryz.prog 296 298 (.agg #[.int .u64 0,.int .u64 0,.int .u64 0,.int .u64 0]) 4 32:=⟨underlying296,info_parts (by kernel_rfl),rfl⟩
theorem aDZ (w:World) (p:Nat) (n:Nat) (xs:List Value) (fp:Nat→Prop) (hc:aJ w p 297 298 4 n xs fp) (hn:n<2147483648) (x0 x1 x2 x3:Int) :
 Calls Tryz.prog 463 #[.pointer (some ⟨p,0,none⟩),.agg #[.int .u64 x0,.int .u64 x1,.int .u64 x2,.int .u64 x3]] w fun e w'=>e=.returned (.tuple #[])∧(∃ fp',aJ w' p 297 298 4 (n+1) (xs++[.int .u64 x0,.int .u64 x1,.int .u64 x2,.int .u64 x3]) fp'∧Grow w fp fp')∧Fr fp w w':=by
 obtain ⟨v,hp,Aa,Am,Aj⟩:=hc;obtain ⟨Ac,BH⟩:=aJ.cell hp;obtain ⟨a0,c0,rfl⟩:=ownsRow_shape Aa;have AZ:=aC hp;go_enter func463,ntmps463
 go_wp2_with fail
 generalize hW:w.alloc _=W;have Af:F0 w W:=by subst hW;exact (Fr.refl _ w).alloc _
 have d0:W.cell? ⟨w.heap.size,0,none⟩=some (.int .u64 x0):=by subst hW;rw[aB rfl];rfl
 have d1:W.cell? ⟨w.heap.size,1,none⟩=some (.int .u64 x1):=by subst hW;rw[aB rfl];rfl
 have d2:W.cell? ⟨w.heap.size,2,none⟩=some (.int .u64 x2):=by subst hW;rw[aB rfl];rfl
 have d3:W.cell? ⟨w.heap.size,3,none⟩=some (.int .u64 x3):=by subst hW;rw[aB rfl];rfl
 have Ef:W.heap[p]?=some (.cells #[.slice a0 n c0] 297 (0,0)):=(Af.block p AZ (fun h=>h)).trans hp;have Bi:=Af.owns Aa (fun _ _ h=>h);obtain ⟨EE,LZ⟩:=aJ.cell Ef;have Na:=aC Ef;clear hW;have Un:∀ o,(W.alloc o).cell? ⟨p,0,none⟩=some (.slice a0 n c0):=fun o=>(World.cell?_alloc_lt W o _ Na).trans EE
 go_region_law (refine aK _ rfl ?_;refine dJ _ aHC _ _ rfl _ _ _ rfl (Bi.alloc _) _ _ _ rfl (Src.ofSlice _ underlying297 _ _ _ _ rfl (bG _ [.int .u64 x0,.int .u64 x1,.int .u64 x2,.int .u64 x3] _) (by simp[Value.oneCell'])) ?_ ?_ ?_;(unfold maxLen;omega);omega;intro v' w1 ha;obtain ⟨a',c',rfl⟩:=ha.shape;have Cj:w1.cell? ⟨p,0,none⟩=some (.slice a0 n c0):=ha.2.1.cell ((((Fr.refl (fun _=>False) W).alloc _).drew).aA EE (fun h=>h)) (fun h=>Am h.symm);have Ad:w1.frozen? ⟨p,0,none⟩=false:=(World.frozen?_of_block (ha.2.1.block p (by simp;omega) (fun h=>Am h.symm))).trans (by show (W.alloc _).frozen? _=_;rw[World.frozen?_alloc_old _ _ _ (by simp;omega)];exact LZ))
 all_goals
  go_end0;have Az:=aJ.appended Ef Bi Am Aj (((Fr.refl _ W).alloc _).drew) ha;obtain ⟨⟨fp',h1,h2⟩,h3⟩:=Az
  exact ⟨rfl,⟨fp',h1,fun k hk=>(h2 k hk).imp id (fun h=>Nat.le_trans Af.size h)⟩,(Af.mono (fun _ _ h=>h.elim)).trans h3 (fun _ _ h=>h)⟩
theorem zN (w:World) (p:Nat) (n:Nat) (xs:List Value) (fp:Nat→Prop) (hc:aJ w p 297 298 4 n xs fp) (m:Nat) (sv:Value) (news:List Value) (Be:Src Tryz.prog 4 296 sv m news w) (hn:n+m≤2147483648) :
 Calls Tryz.prog 464 #[.pointer (some ⟨p,0,none⟩),sv] w fun e w'=>e=.returned (.tuple #[])∧(∃ fp',aJ w' p 297 298 4 (n+m) (xs++news) fp'∧Grow w fp fp')∧Fr fp w w':=by
 obtain ⟨v,hp,Aa,Am,Aj⟩:=hc;obtain ⟨Ac,BH⟩:=aJ.cell hp;obtain ⟨a0,c0,rfl⟩:=ownsRow_shape Aa;go_enter func464,ntmps464
 go_wp2_with ((with_reducible show wpList _ _ _ (⟨some 9,_,_,_,_,_⟩ :: _) _ _);(refine aP _ rfl aHC _ _ rfl _ _ _ rfl Aa _ _ _ rfl Be ?_ ?_ ?_);(unfold maxLen;omega);omega;intro v' w1 ha;obtain ⟨a',c',rfl⟩:=ha.shape;have Cj:w1.cell? ⟨p,0,none⟩=some (.slice a0 n c0):=ha.2.1.cell Ac (fun h=>Am h.symm);have Ad:w1.frozen? ⟨p,0,none⟩=false:=(World.frozen?_of_block (ha.2.1.block p (aC hp) (fun h=>Am h.symm))).trans BH)
 go_end0
 exact ⟨rfl,aJ.appended hp Aa Am Aj (Fr.refl _ w) ha⟩
theorem aMR (w:World) (r0 r1 r2 r3:Nat):Calls Tryz.prog 69 #[.agg #[.int .u64 r0,.int .u64 r1,.int .u64 r2,.int .u64 r3]] w fun e w'=>e=.returned (.agg #[.int .u64 r0,.int .u64 r1])∧F0 w w':=by
 go_enter func69,ntmps69;go_wp2
 refine bodyPost_ret (by simp[results,results69,go_sem];try rfl) rfl ?_
 exact ⟨rfl,((Fr.refl _ w).alloc _).alloc _⟩
theorem aJE (w:World) (r0 r1 r2 r3:Nat):Calls Tryz.prog 73 #[.agg #[.int .u64 r0,.int .u64 r1,.int .u64 r2,.int .u64 r3]] w fun e w'=>e=.returned (.agg #[.int .u64 r2,.int .u64 r3])∧F0 w w':=by
 go_enter func73,ntmps73;go_wp2
 refine bodyPost_ret (by simp[results,results73,go_sem];try rfl) rfl ?_
 exact ⟨rfl,((Fr.refl _ w).alloc _).alloc _⟩
theorem aMS (w:World) (r0 r1 r2 r3:Nat) (_h0:r0<18446744073709551616):Calls Tryz.prog 96 #[.agg #[.int .u64 r0,.int .u64 r1,.int .u64 r2,.int .u64 r3]] w fun e w'=>e=.returned (.agg #[.int .u64 r0,.int .u64 r1,.int .u64 r2,.int .u64 r3])∧F0 w w':=by
 go_enter func96,ntmps96
 go_wp2_with fail
 generalize hW:(w.alloc _).alloc _=W;have Aw:F0 w W:=by subst hW;exact ((Fr.refl _ w).alloc _).alloc _
 have c0:W.cell? ⟨w.heap.size,0,none⟩=some (.int .u64 r0):=by subst hW;rw[ca (by simp),aB rfl];rfl
 have c1:W.cell? ⟨w.heap.size,1,none⟩=some (.int .u64 r1):=by subst hW;rw[ca (by simp),aB rfl];rfl
 have c2:W.cell? ⟨w.heap.size,2,none⟩=some (.int .u64 r2):=by subst hW;rw[ca (by simp),aB rfl];rfl
 have c3:W.cell? ⟨w.heap.size,3,none⟩=some (.int .u64 r3):=by subst hW;rw[ca (by simp),aB rfl];rfl
 have Yg:W.heap[w.heap.size+1]?=some (.cells #[.int .u64 0,.int .u64 0,.int .u64 0,.int .u64 0] 298 (0,0)):=by subst hW;exact Fr.made (Fr.refl _ _) (by simp)
 clear hW
 go_region_with (first
  | (go_at_call 69;refine (aMR _ r0 r1 r2 r3).mono ?_;rintro e w1 ⟨rfl,Ad⟩;have g0:=Ad.aH.aA c0 (fun h=>h);have g1:=Ad.aH.aA c1 (fun h=>h);have g2:=Ad.aH.aA c2 (fun h=>h);have g3:=Ad.aH.aA c3 (fun h=>h))
  | (go_at_call 73;refine (aJE _ r0 r1 r2 r3).mono ?_;rintro e w2 ⟨rfl,Au⟩;have Ae:=Ad.trans Au (fun _ _ h=>h);have hm:w2.heap[w.heap.size+1]?=some (.cells #[.int .u64 0,.int .u64 0,.int .u64 0,.int .u64 0] 298 (0,0)):=(Ae.block _ (aC Yg) (fun h=>h)).trans Yg;have q0:w2.cell? ⟨w.heap.size+1,0,none⟩=some (.int .u64 0):=(crw hm rfl);have q1:w2.cell? ⟨w.heap.size+1,1,none⟩=some (.int .u64 0):=(crw hm rfl);have q2:w2.cell? ⟨w.heap.size+1,2,none⟩=some (.int .u64 0):=(crw hm rfl);have q3:w2.cell? ⟨w.heap.size+1,3,none⟩=some (.int .u64 0):=(crw hm rfl);have z0:w2.frozen? ⟨w.heap.size+1,0,none⟩=false:=fzj _ hm;have z1:w2.frozen? ⟨w.heap.size+1,1,none⟩=false:=fzj _ hm;have z2:w2.frozen? ⟨w.heap.size+1,2,none⟩=false:=fzj _ hm;have z3:w2.frozen? ⟨w.heap.size+1,3,none⟩=false:=fzj _ hm))
 all_goals
  go_wp2
  refine bodyPost_ret (by simp[results,results96,go_sem,q0,q1,q2,q3];try rfl) rfl ?_
  exact ⟨rfl,((((Aw.trans (Ae.aH) (fun _ _ h=>h)).setCell (.inr (by simp)) _).setCell (.inr (by simp)) _).setCell (.inr (by simp)) _).setCell (.inr (by simp)) _⟩
theorem aHD (w:World) (nb:Nat) (r0 r1 r2 r3:Nat) (h0:r0<18446744073709551616) (s:ByteArray) (null:Bool) (iv kv:Value) (hf:w.cell? ⟨nb,1,none⟩=some (.func (.func 96) #[] #[])) :
 Calls Tryz.prog 476 #[.agg #[.int .u64 r0,.int .u64 r1,.int .u64 r2,.int .u64 r3,.string s,.bool null,iv,kv],.pointer (some ⟨nb,0,none⟩)] w fun e w'=>e=.returned (.agg #[.int .u64 r0,.int .u64 r1,.int .u64 r2,.int .u64 r3])∧F0 w w':=by
 have Ey:∀ o,(w.alloc o).cell? ⟨nb,1,none⟩=some (.func (.func 96) #[] #[]):=fun o=>(World.cell?_alloc_lt w o _ (World.block_lt_of_cell? w _ hf)).trans hf
 have Ae:∀ o o',((w.alloc o).alloc o').cell? ⟨nb,1,none⟩=some (.func (.func 96) #[] #[]):=fun o o'=>(World.cell?_alloc_lt (w.alloc o) o' _ (World.block_lt_of_cell? _ _ (Ey o))).trans (Ey o)
 go_enter func476,ntmps476
 go_wp2_with (go_at_call 96;refine (aMS _ r0 r1 r2 r3 h0).mono ?_;rintro e w1 ⟨rfl,Ad⟩;have hm:w1.heap[w.heap.size+1]?=some (.cells #[.int .u64 0,.int .u64 0,.int .u64 0,.int .u64 0] 298 (0,0)):=Ad.made (by simp);have q0:w1.cell? ⟨w.heap.size+1,0,none⟩=some (.int .u64 0):=(crw hm rfl);have q1:w1.cell? ⟨w.heap.size+1,1,none⟩=some (.int .u64 0):=(crw hm rfl);have q2:w1.cell? ⟨w.heap.size+1,2,none⟩=some (.int .u64 0):=(crw hm rfl);have q3:w1.cell? ⟨w.heap.size+1,3,none⟩=some (.int .u64 0):=(crw hm rfl);have z0:w1.frozen? ⟨w.heap.size+1,0,none⟩=false:=fzj _ hm;have z1:w1.frozen? ⟨w.heap.size+1,1,none⟩=false:=fzj _ hm;have z2:w1.frozen? ⟨w.heap.size+1,2,none⟩=false:=fzj _ hm;have z3:w1.frozen? ⟨w.heap.size+1,3,none⟩=false:=fzj _ hm)
 refine bodyPost_ret (by simp[results,results476,go_sem,q0,q1,q2,q3];try rfl) rfl ?_
 exact ⟨rfl,(((((((Fr.refl (fun _=>False) w).alloc _).alloc _).trans Ad (fun _ _ h=>h)).setCell (.inr (by simp)) _).setCell (.inr (by simp)) _).setCell (.inr (by simp)) _).setCell (.inr (by simp)) _⟩
theorem aAJ (a:Addr) (w:World):(method mdp 295 (.pointer (some a)) "Append").run Tryz.prog w=.ok (463,.pointer (some a)) w:=by kernel_rfl
theorem uV (a:Addr) (w:World):(method mdp 295 (.pointer (some a)) "AppendArr").run Tryz.prog w=.ok (464,.pointer (some a)) w:=by kernel_rfl
theorem wW (w:World) (p nb:Nat) (n:Nat) (xs:List Value) (fp:Nat→Prop) (hc:aJ w p 297 298 4 n xs fp) (hn:n<2147483648) (hf:w.cell? ⟨nb,1,none⟩=some (.func (.func 96) #[] #[]))
 (r0 r1 r2 r3:Nat) (h0:r0<18446744073709551616) (s:ByteArray) (null:Bool) (iv kv:Value) :
 Calls Tryz.prog 662 #[.agg #[.iface 295 (.pointer (some ⟨p,0,none⟩)),.func (.func 476) #[] #[.pointer (some ⟨nb,0,none⟩)],.func (.func 477) #[] #[.pointer (some ⟨nb,0,none⟩)]],.agg #[.int .u64 r0,.int .u64 r1,.int .u64 r2,.int .u64 r3,.string s,.bool null,iv,kv]] w fun e w' =>
  e=.returned (.tuple #[])∧(∃ fp',aJ w' p 297 298 4 (n+1) (xs++[.int .u64 r0,.int .u64 r1,.int .u64 r2,.int .u64 r3]) fp'∧Grow w fp fp')∧Fr fp w w':=by
 go_enter func662,ntmps662
 go_wp2_with fail
 generalize hW:(w.alloc _).alloc _=W;have Af:F0 w W:=by subst hW;exact ((Fr.refl _ w).alloc _).alloc _
 have d0:W.cell? ⟨w.heap.size,0,none⟩=some (.iface 295 (.pointer (some ⟨p,0,none⟩))):=by subst hW;rw[ca (by simp),aB rfl];rfl
 have d1:W.cell? ⟨w.heap.size,1,none⟩=some (.func (.func 476) #[] #[.pointer (some ⟨nb,0,none⟩)]):=by subst hW;rw[ca (by simp),aB rfl];rfl
 have e0:W.cell? ⟨w.heap.size+1,0,none⟩=some (.int .u64 r0):=by subst hW;rw[aB (by simp)];rfl
 have e1:W.cell? ⟨w.heap.size+1,1,none⟩=some (.int .u64 r1):=by subst hW;rw[aB (by simp)];rfl
 have e2:W.cell? ⟨w.heap.size+1,2,none⟩=some (.int .u64 r2):=by subst hW;rw[aB (by simp)];rfl
 have e3:W.cell? ⟨w.heap.size+1,3,none⟩=some (.int .u64 r3):=by subst hW;rw[aB (by simp)];rfl
 have e4:W.cell? ⟨w.heap.size+1,4,none⟩=some (.string s):=by subst hW;rw[aB (by simp)];rfl
 have e5:W.cell? ⟨w.heap.size+1,5,none⟩=some (.bool null):=by subst hW;rw[aB (by simp)];rfl
 have e6:W.cell? ⟨w.heap.size+1,6,none⟩=some iv:=by subst hW;rw[aB (by simp)];rfl
 have e7:W.cell? ⟨w.heap.size+1,7,none⟩=some kv:=by subst hW;rw[aB (by simp)];rfl
 have BA:aJ W p 297 298 4 n xs fp:=hc.aW fun k hk=>Af.block k (hc.lt k hk) (fun h=>h)
 have Aw:W.cell? ⟨nb,1,none⟩=some (.func (.func 96) #[] #[]):=Af.aA hf (fun h=>h);have hN:¬ fp w.heap.size:=fun h=>by have:=hc.lt _ h;omega
 have AU:¬ fp (w.heap.size+1):=fun h=>by have:=hc.lt _ h;omega
 clear hW
 go_region_held3 (fun w'=>w'.cell? ⟨w.heap.size,0,none⟩=some (.iface 295 (.pointer (some ⟨p,0,none⟩)))∧w'.cell? ⟨w.heap.size,1,none⟩=some (.func (.func 476) #[] #[.pointer (some ⟨nb,0,none⟩)]) ∧
  w'.cell? ⟨w.heap.size+1,0,none⟩=some (.int .u64 r0)∧w'.cell? ⟨w.heap.size+1,1,none⟩=some (.int .u64 r1)∧w'.cell? ⟨w.heap.size+1,2,none⟩=some (.int .u64 r2)∧w'.cell? ⟨w.heap.size+1,3,none⟩=some (.int .u64 r3) ∧
  w'.cell? ⟨w.heap.size+1,4,none⟩=some (.string s)∧w'.cell? ⟨w.heap.size+1,5,none⟩=some (.bool null)∧w'.cell? ⟨w.heap.size+1,6,none⟩=some iv∧w'.cell? ⟨w.heap.size+1,7,none⟩=some kv)
  (first
   | exact ⟨d0,d1,e0,e1,e2,e3,e4,e5,e6,e7⟩
   | exact ⟨Ae.aA d0 hN,Ae.aA d1 hN,Ae.aA e0 AU,Ae.aA e1 AU,Ae.aA e2 AU,Ae.aA e3 AU,Ae.aA e4 AU,Ae.aA e5 AU,Ae.aA e6 AU,Ae.aA e7 AU⟩
   | exact ⟨Ad.aA d0 (fun h=>h),Ad.aA d1 (fun h=>h),Ad.aA e0 (fun h=>h),Ad.aA e1 (fun h=>h),Ad.aA e2 (fun h=>h),Ad.aA e3 (fun h=>h),Ad.aA e4 (fun h=>h),Ad.aA e5 (fun h=>h),Ad.aA e6 (fun h=>h),Ad.aA e7 (fun h=>h)⟩
   | assumption)
  (first
   | (refine aK _ rfl ?_;refine dI _ _ _ _ rfl _ _ rfl (bM.func1 call476 (aHD _ nb r0 r1 r2 r3 h0 s null iv kv Aw)) rfl ?_;rintro e w1 ⟨rfl,Ad⟩;refine ⟨_,rfl,?_⟩)
   | (refine aK _ rfl ?_;refine bH _ _ _ _ _ rfl _ _ rfl (aF.of1 (aAJ _ _) call463 (aDZ _ p n xs fp (BA.aW fun k hk=>Ad.block k (BA.lt k hk) (fun h=>h)) hn r0 r1 r2 r3)) rfl ?_;rintro e w2 ⟨rfl,Aq,Au⟩;have Ae:Fr fp W w2:=(Ad.aH.mono (fun _ _ h=>h.elim)).trans Au (fun _ _ h=>h);refine ⟨_,rfl,?_⟩))
 all_goals
  go_end0
  refine ⟨rfl,?_,(Af.mono (fun _ _ h=>h.elim)).trans Ae (fun _ _ h=>h)⟩;obtain ⟨fp',h1,h2⟩:=Aq
  exact ⟨fp',h1,fun k hk=>(h2 k hk).imp id (fun h=>Nat.le_trans (Nat.le_trans Af.size Ad.size) h)⟩
def dY (c:Cell):List Value:=[.int .u64 c.r0,.int .u64 c.r1,.int .u64 c.r2,.int .u64 c.r3]
theorem aEd (w:World) (B nb:Nat) (Bd:B≤w.heap.size) (hf:w.cell? ⟨nb,1,none⟩=some (.func (.func 96) #[] #[])) (cs:List Cell) (v:Value) (xs:List Value) (hs:Sl B w 8 v cs.length xs) (hc:aI B w cs xs) (hn:cs.length≤2147483648) :
 Calls Tryz.prog 665 #[v,.func (.func 476) #[] #[.pointer (some ⟨nb,0,none⟩)]] w fun e w'=>∃ tv,e=.returned tv∧w'.ownsRow 0 298 4 tv cs.length (cs.flatMap dY)∧F0 w w':=by
 have CB:=hs;obtain ⟨Dy,ao,cap,rfl,BF,AP,h0,ha⟩:=hs;unfold maxLen at AP;clear ha h0 Dy;go_enter func665,ntmps665;go_wp2
 go_loopw [5,10] (fun tv i wr=>∃ k:Nat,k≤cs.length∧i=.int .i64 k∧wr.ownsRow 0 298 4 tv k ((cs.take k).flatMap dY)∧(∀ q,tv.ownBlock=some q→w.heap.size≤q)∧F0 w wr) (fun _ i _=>cs.length - (intOf i).toNat)
 case atStart=>exact ⟨0,Nat.zero_le _,rfl,World.ownsRow_nil _ _ _ _,by simp[Value.ownBlock],Fr.refl _ _⟩
 case round =>
  obtain ⟨k,hk,rfl,Aa,Ai,Ak⟩:=hrel;have Bf:Below B w wr:=Ak.below Bd (fun _ _ h=>h);obtain ⟨a0,c0,rfl⟩:=ownsRow_shape Aa
  by_cases Ar:k<cs.length
  · obtain ⟨b,off,cap',hv,FT,vs,AQ,Ac⟩:=(CB.below Bf).row (aI.below Bf _ _ hc) Ar
    have Ah:=Lib.hid (bQ dY cs k Ar);generalize cs[k]=c at AQ Ah;obtain ⟨ia,il,ic,ka,kl,kc,rfl,h0,h1,h2,h3,h4⟩:=AQ.open;simp only[Value.slice.injEq] at hv;obtain ⟨rfl,_,rfl⟩:=hv;have d0:=Ac 0 _ rfl;have d1:=Ac 1 _ rfl;have d2:=Ac 2 _ rfl;have d3:=Ac 3 _ rfl;have d4:=Ac 4 _ rfl;have d5:=Ac 5 _ rfl;have d6:=Ac 6 _ rfl;have d7:=Ac 7 _ rfl;simp only[Nat.add_zero] at d0;have BM:F0 w (wr.alloc (.cells #[.int .u64 c.r0,.int .u64 c.r1,.int .u64 c.r2,.int .u64 c.r3,.string c.s,.bool c.null,.slice ia il ic,.slice ka kl kc] 35)):=Ak.alloc _;have EN:=aHD _ nb c.r0 c.r1 c.r2 c.r3 h0 c.s c.null (.slice ia il ic) (.slice ka kl kc) (BM.aA hf (fun h=>h));clear Ac AQ CB hc
    go_wp2_with (first|((with_reducible show wpList _ _ _ (⟨some 17,_,_,_,_,_⟩ :: _) _ _);refine dG _ rfl _ _ _ rfl _ _ rfl (bM.func1 call476 EN) rfl ?_;rintro e w1 ⟨rfl,Ad⟩;refine ⟨_,rfl,?_⟩;have Bv:F0 w w1:=BM.trans Ad (fun _ _ h=>h);have Ba:=Ad.owns ((Fr.refl (fun _=>False) wr).alloc _ |>.owns Aa (fun _ _ h=>h)) (fun _ _ h=>h))|((with_reducible show wpList _ _ _ (⟨some 19,_,_,_,_,_⟩ :: _) _ _);refine aP _ rfl aMQ _ _ rfl _ _ _ rfl (Ba.alloc _) _ _ _ rfl (Src.ofSlice _ underlying296 _ _ _ _ rfl (bG _ [.int .u64 c.r0,.int .u64 c.r1,.int .u64 c.r2,.int .u64 c.r3] _) (by simp[Value.oneCell'])) ?_ ?_ ?_;(unfold maxLen;omega);omega;intro v' w2 ha;obtain ⟨a',c',rfl⟩:=ha.shape))
    go_roundw
    case rel=>exact ⟨k+1,by omega,by go_num,by rw[Ah.out];exact ha.1,(ha.since (Bv.alloc _) Ai).1,(ha.since (Bv.alloc _) Ai).2⟩
    case measure=>simp[intOf];omega
  · have Bl:k=cs.length:=by omega
    subst Bl;rw[take_length] at Aa;go_wp2;go_ret
    exact ⟨_,rfl,Aa,Ak⟩
theorem zO (cs:List Cell):∀ u∈cs.flatMap dY,u.oneCell'=true:=by
 intro u hu;obtain ⟨c,_,hc⟩:=mem_flatMap.1 hu;simp only[dY,mem_cons,not_mem_nil,or_false] at hc;rcases hc with rfl|rfl|rfl|rfl<;>rfl
theorem pU (w:World) (B p nb:Nat) (Bd:B≤w.heap.size) (n:Nat) (xs:List Value) (fp:Nat→Prop) (hc:aJ w p 297 298 4 n xs fp) (hf:w.cell? ⟨nb,1,none⟩=some (.func (.func 96) #[] #[]))
 (cs:List Cell) (v:Value) (ys:List Value) (hs:Sl B w 8 v cs.length ys) (A8:aI B w cs ys) (hn:n+cs.length≤2147483648) :
 Calls Tryz.prog 663 #[.agg #[.iface 295 (.pointer (some ⟨p,0,none⟩)),.func (.func 476) #[] #[.pointer (some ⟨nb,0,none⟩)],.func (.func 477) #[] #[.pointer (some ⟨nb,0,none⟩)]],v] w fun e w' =>
  e=.returned (.tuple #[])∧(∃ fp',aJ w' p 297 298 4 (n+cs.length) (xs++cs.flatMap dY) fp'∧Grow w fp fp')∧Fr fp w w':=by
 go_enter func663,ntmps663
 go_wp2_with fail
 generalize hW:w.alloc _=W;have Af:F0 w W:=by subst hW;exact (Fr.refl _ w).alloc _
 have d0:W.cell? ⟨w.heap.size,0,none⟩=some (.iface 295 (.pointer (some ⟨p,0,none⟩))):=by subst hW;rw[aB rfl];rfl
 have d1:W.cell? ⟨w.heap.size,1,none⟩=some (.func (.func 476) #[] #[.pointer (some ⟨nb,0,none⟩)]):=by subst hW;rw[aB rfl];rfl
 have BA:aJ W p 297 298 4 n xs fp:=hc.aW fun k hk=>Af.block k (hc.lt k hk) (fun h=>h)
 have Aw:W.cell? ⟨nb,1,none⟩=some (.func (.func 96) #[] #[]):=Af.aA hf (fun h=>h);have hN:¬ fp w.heap.size:=fun h=>by have:=hc.lt _ h;omega
 have D6:=hs.fr Bd Af;have Cf:=aI.below (Af.below Bd (fun _ _ h=>h)) _ _ A8;have CZ:B≤W.heap.size:=Nat.le_trans Bd Af.size;have EX:=D6.fr CZ (Fr.refl (fun _=>False) W).drew;have Ce:=aI.below ((Below.refl B W).drew) _ _ Cf;clear hW hs A8
 go_region_held3 (fun w'=>w'.cell? ⟨w.heap.size,0,none⟩=some (.iface 295 (.pointer (some ⟨p,0,none⟩)))∧w'.cell? ⟨w.heap.size,1,none⟩=some (.func (.func 476) #[] #[.pointer (some ⟨nb,0,none⟩)]))
  (first
   | exact ⟨d0,d1⟩
   | exact ⟨Ae.aA d0 hN,Ae.aA d1 hN⟩
   | exact ⟨Ad.aA d0 (fun h=>h),Ad.aA d1 (fun h=>h)⟩
   | assumption)
  (first
   | (go_at_call 665;refine (aEd W.drew B nb CZ Aw cs v ys EX Ce (by omega)).mono ?_;rintro e w1 ⟨tv,rfl,Aa,Ad⟩)
   | (refine aK _ rfl ?_;refine bH _ _ _ _ _ rfl _ _ rfl (aF.of1 (uV _ _) call464 (zN _ p n xs fp (BA.aW fun k hk=>Ad.block k (BA.lt k hk) (fun h=>h)) _ _ _ (Src.kC underlying296 Aa (zO cs)) hn)) rfl ?_;rintro e w2 ⟨rfl,Aq,Au⟩;have Ae:Fr fp W w2:=(Ad.aH.mono (fun _ _ h=>h.elim)).trans Au (fun _ _ h=>h);refine ⟨_,rfl,?_⟩))
 all_goals
  go_end0
  refine ⟨rfl,?_,(Af.mono (fun _ _ h=>h.elim)).trans Ae (fun _ _ h=>h)⟩;obtain ⟨fp',h1,h2⟩:=Aq
  exact ⟨fp',h1,fun k hk=>(h2 k hk).imp id (fun h=>Nat.le_trans (Nat.le_trans Af.size Ad.size) h)⟩
theorem aJK (w:World) (a:Option Addr) (n c:Nat):Calls Tryz.prog 469 #[.slice a n c] w fun e w'=>e=.returned (.int .i64 n)∧F0 w w':=by
 go_enter func469,ntmps469;go_wp2;go_ret
 exact ⟨rfl,Fr.refl _ _⟩
theorem sS (w:World) (b:Nat) (fb:Nat→Prop) (bs:List UInt8) (hb:Buf w b fb bs) (a:Option Addr) (c:Nat) (cs:List Cell) (Aa:w.ownsRow 0 298 4 (.slice a cs.length c) cs.length (cs.flatMap dY))
 (hd:∀ k,(Value.slice a cs.length c).ownBlock=some k→¬ fb k) (hc:∀ c∈cs,c.small) (hl:bs.length+32*cs.length≤1099511627776) :
 Calls Tryz.prog 466 #[.slice a cs.length c,.pointer (some ⟨b,0,none⟩)] w fun e w'=>e=.returned (.tuple #[])∧Fr fb w w'∧∃ fb',Buf w' b fb' (bs++cs.flatMap (aG 32))∧Grow w fb fb'∧Kept w w' b bs.length:=by
 by_cases h0:cs.length=0
 · have A8:cs=[]:=eq_nil_of_length_eq_zero (by omega)
   subst A8;go_enter func466,ntmps466;go_wp2
   try simp only[Exit.inBlock,Exit.then]
   refine bodyPost_ret (results_none rfl _ _ _) rfl ?_
   exact ⟨rfl,Fr.refl _ _,fb,by simpa using hb,fun k hk=>.inl hk,Kept.refl _ _ _⟩
 · have Ei:=hb
   obtain ⟨v,hp,Bh,Am,Aj⟩:=Ei;obtain ⟨Ac,BH⟩:=aJ.cell hp;obtain ⟨a0,c0,rfl⟩:=ownsRow_shape Bh;have AZ:=aC hp;have AP:cs.length≤9223372036854775807:=by omega
   go_enter func466,ntmps466
   go_wp2_with ((with_reducible show wpList _ _ _ (⟨some 25,_,_,_,_,_⟩ :: _) _ _);(refine dB _ rfl gY underlying3 _ _ rfl _ _ _ rfl Bh _ (32*cs.length) rfl ?_ ?_ ?_ ?_);go_num;omega;omega;intro v' w1 ha;obtain ⟨a',c',rfl⟩:=ha.shape;have Cj:w1.cell? ⟨b,0,none⟩=some (.slice a0 bs.length c0):=ha.2.1.cell Ac (fun h=>Am h.symm);have Ad:w1.frozen? ⟨b,0,none⟩=false:=(World.frozen?_of_block (ha.2.1.block b AZ (fun h=>Am h.symm))).trans BH)
   obtain ⟨⟨fb',Aq,AX⟩,Ak⟩:=aJ.appended hp Bh Am Aj (Fr.refl _ w) ha;have D5:=Kept.appended hp Bh Am (Fr.refl _ w) ha;generalize w1.setCell ⟨b,0,none⟩ (Value.slice a' (bs.length+32*cs.length) c')=W at Aq Ak D5 ⊢;obtain ⟨g,cap,hot,BC⟩:=Hot.of Aq (by omega);have Bi:=Ak.owns Aa hd
   have DF:∀ k,(Value.slice a cs.length c).ownBlock=some k→k≠b∧k≠g:=fun k hk=>⟨fun e=>hd k hk ((Aj k).2 (.inl e)),fun e=>by
    subst e;rcases AX k ((BC k).2 (.inr rfl)) with h|h
    · exact hd k hk h
    · have:=aO Aa hk;omega⟩
   have hS:∀ k,k<w.heap.size→(k=b∨k=g)→fb k:=fun k hk hh=>(AX k ((BC k).2 hh)).resolve_right (by omega)
   have Ie:=Lib.hid hp;have DV:=Lib.hid Bh;have DU:=Lib.hid Am;have DR:=Lib.hid D5;clear ha Aq hp Bh Ac BH Cj Ad Am hb D5
   go_loopw [5,7,30] (fun off _ i wr=>∃ k:Nat,k≤cs.length∧i=.int .i64 k∧off=.int .i64 (bs.length+32*k:Nat)∧Hot wr b g (bs.length+32*cs.length) cap (aN (bs++(cs.take k).flatMap (aG 32))++List.replicate (32*(cs.length - k)) (.int .u8 0))∧Fr (fun k=>k=b∨k=g) W wr) (fun _ _ i _=>cs.length - (intOf i).toNat)
   case atStart=>exact ⟨0,Nat.zero_le _,rfl,by simp,by simpa using hot,Fr.refl _ _⟩
   case round =>
    obtain ⟨k,hk,rfl,rfl,A7,AY⟩:=hrel
    by_cases Ar:k<cs.length
    · have Ap:=AY.owns Bi (fun k hk h=>by have:=DF k hk;omega)
      rcases Ap.2 with ⟨hv,_⟩|⟨ga,capa,cura,hv,_⟩
      · simp only[Value.slice.injEq] at hv;omega
      · simp only[Value.slice.injEq] at hv
        obtain ⟨rfl,_,rfl⟩:=hv;have Dp:=hc cs[k] (getElem_mem _);have Ah:=bQ (aG 32) cs k Ar;have AL:=fun j hj=>gJ dY 4 (fun _=>rfl) cs k j Ar hj
        generalize cs[k]=cc at Dp Ah AL;obtain ⟨b0,b1,b2,b3,_⟩:=Dp;have FK:=Ap.cells (g:=ga) rfl (k*4+0) _ (AL 0 (by omega));rw[Addr.add_lit,Nat.zero_add] at FK;have F6:=Ap.cells (g:=ga) rfl (k*4+1) _ (AL 1 (by omega));rw[Addr.add_lit,Nat.zero_add] at F6;have Ky:=Ap.cells (g:=ga) rfl (k*4+2) _ (AL 2 (by omega));rw[Addr.add_lit,Nat.zero_add] at Ky;have N9:=Ap.cells (g:=ga) rfl (k*4+3) _ (AL 3 (by omega));rw[Addr.add_lit,Nat.zero_add] at N9;simp only[Nat.add_zero] at FK;have H5:=A7.cell;have H9:=A7.row;obtain ⟨_,_,_,Lr,Cm⟩:=H9;unfold maxLen at Cm;have AA:(bs++(cs.take k).flatMap (aG 32)).length=bs.length+32*k:=by rw[length_append,aY _ 32 (aV 32 (by omega)),length_take];congr 2;omega
        have Jj:aG 32 cc=Lib.leBytes 8 cc.r0++Lib.leBytes 8 cc.r1++Lib.leBytes 8 cc.r2++Lib.leBytes 8 cc.r3:=aDL cc
        have UV:aN (bs++(cs.take k).flatMap (aG 32))++List.replicate (32*(cs.length - k)) (.int .u8 0)=aN (bs++(cs.take k).flatMap (aG 32))++(List.replicate 8 (Value.int .u8 0)++List.replicate 8 (Value.int .u8 0)++List.replicate 8 (Value.int .u8 0)++List.replicate 8 (Value.int .u8 0))++List.replicate (32*(cs.length - (k+1))) (.int .u8 0):=by
         simp only[append_assoc,replicate_append_replicate]
         congr 2
         omega
        rw[UV] at A7;have DK:bs.length+32*k=(aN (bs++(cs.take k).flatMap (aG 32))).length:=by rw[aZ,AA]
        have AO:=aGg ((wr.alloc (.cells #[.int .u64 cc.r0,.int .u64 cc.r1,.int .u64 cc.r2,.int .u64 cc.r3] 298)).drew) b g _ cap _ _ (List.replicate 8 (Value.int .u8 0)) (List.replicate 8 (Value.int .u8 0)) (List.replicate 8 (Value.int .u8 0)) (List.replicate 8 (Value.int .u8 0)) ((A7.alloc _).drew) (by simp) (by simp) (by simp) (by simp) cc.r0 cc.r1 cc.r2 cc.r3 b0 b1 b2 b3 (bs.length+32*k) (cap - (bs.length+32*k)) DK (by omega);rw[← Jj] at AO;simp only[← bC,append_assoc] at AO;rw[← Ah] at AO;have BM:Fr (fun k=>k=b∨k=g) W ((wr.alloc (.cells #[.int .u64 cc.r0,.int .u64 cc.r1,.int .u64 cc.r2,.int .u64 cc.r3] 298)).drew):=(AY.alloc _).drew;have dc0:(wr.alloc (.cells #[.int .u64 cc.r0,.int .u64 cc.r1,.int .u64 cc.r2,.int .u64 cc.r3] 298)).cell? ⟨wr.heap.size,0,none⟩=some (.int .u64 cc.r0):=by rw[aB rfl];rfl
        have dc1:(wr.alloc (.cells #[.int .u64 cc.r0,.int .u64 cc.r1,.int .u64 cc.r2,.int .u64 cc.r3] 298)).cell? ⟨wr.heap.size,1,none⟩=some (.int .u64 cc.r1):=by rw[aB rfl];rfl
        have dc2:(wr.alloc (.cells #[.int .u64 cc.r0,.int .u64 cc.r1,.int .u64 cc.r2,.int .u64 cc.r3] 298)).cell? ⟨wr.heap.size,2,none⟩=some (.int .u64 cc.r2):=by rw[aB rfl];rfl
        have dc3:(wr.alloc (.cells #[.int .u64 cc.r0,.int .u64 cc.r1,.int .u64 cc.r2,.int .u64 cc.r3] 298)).cell? ⟨wr.heap.size,3,none⟩=some (.int .u64 cc.r3):=by rw[aB rfl];rfl
        have IR:(wr.alloc (.cells #[.int .u64 cc.r0,.int .u64 cc.r1,.int .u64 cc.r2,.int .u64 cc.r3] 298)).cell? ⟨b,0,none⟩=some (.slice (some ⟨g,0,none⟩) (bs.length+32*cs.length) cap):=((Fr.refl (fun _=>False) wr).alloc _).aA H5 (fun h=>h);have Yv:=A7.glt;clear AL A7;have ho:bs.length+32*k+32≤cap:=by omega
        generalize Jk:bs.length+32*k=o at ho AO ⊢;have s0:(0:Int)≤↑o:=by omega
        have s1:IntKind.i64.wrap ((o:Int)+32)=(o:Int)+32:=by rw[IntKind.wrap_i64];omega
        have s2:(o:Int)≤(o:Int)+32:=by omega
        have s3:(o:Int)+32≤(cap:Int):=by omega
        have s4:(0:Int)≤(o:Int)+32:=by omega
        have s5:¬ cap=o:=by omega
        have s6:((o:Int)+32).toNat - o=32:=by omega
        go_wp2;generalize RU:wr.alloc (.cells #[.int .u64 cc.r0,.int .u64 cc.r1,.int .u64 cc.r2,.int .u64 cc.r3] 298)=Wa at AO BM IR dc0 dc1 dc2 dc3 ⊢;clear RU
        go_region_held3 (fun w'=>w'.cell? ⟨b,0,none⟩=some (.slice (some ⟨g,0,none⟩) (bs.length+32*cs.length) cap)∧w'.cell? ⟨wr.heap.size,0,none⟩=some (.int .u64 cc.r0)∧w'.cell? ⟨wr.heap.size,1,none⟩=some (.int .u64 cc.r1)∧w'.cell? ⟨wr.heap.size,2,none⟩=some (.int .u64 cc.r2)∧w'.cell? ⟨wr.heap.size,3,none⟩=some (.int .u64 cc.r3))
         (first
          | exact ⟨IR,dc0,dc1,dc2,dc3⟩
          | exact ⟨Bz.cell,Ad.aA dc0 (by show ¬ wr.heap.size=g;omega),Ad.aA dc1 (by show ¬ wr.heap.size=g;omega),Ad.aA dc2 (by show ¬ wr.heap.size=g;omega),Ad.aA dc3 (by show ¬ wr.heap.size=g;omega)⟩
          | assumption)
         (first
          | (go_at_call 403;refine AO.mono ?_;rintro e w1 ⟨rfl,Ad,Bz⟩))
        all_goals
         go_wp2;go_roundw
         case rel=>exact ⟨k+1,by omega,by go_num,by subst Jk;go_num,Bz,BM.trans Ad (fun _ _ h=>.inr h)⟩
         case measure=>simp[intOf];omega
    · have Bl:k=cs.length:=by omega
      subst Bl;go_wp2;go_end0;rw[take_length,Nat.sub_self,Nat.mul_zero,replicate_zero,append_nil] at A7;have CO:=fun CJ=>Hot.buf (bs:=bs++cs.flatMap (aG 32)) (cap:=cap) (N:=bs.length+32*cs.length) A7 (fb:=fun k=>k=b∨k=g) CJ
      have C9:=Kept.hot (l:=aN (cs.flatMap (aG 32))) Ie.out DV.out DU.out DR.out AY (by rw[← bC];exact A7)
      exact ⟨rfl,Ak.trans AY hS,_,CO (fun k=>Iff.rfl),fun k hk=>AX k ((BC k).2 hk),C9⟩
def aMP:Nat→Nat→Nat→World→(Nat→Prop)→List Cell→Prop:=gZ 297 298 4 dY (.func (.func 96) #[] #[]) (.func (.func 97) #[] #[])
theorem zQ (p nb:Nat) (w:World) (name:String) (f:FuncId) (h:(name,f)=("Append",662)∨(name,f)=("AppendArr",663)):(method mdp 597 (.agg #[.iface 295 (.pointer (some ⟨p,0,none⟩)),.func (.func 476) #[] #[.pointer (some ⟨nb,0,none⟩)],.func (.func 477) #[] #[.pointer (some ⟨nb,0,none⟩)]]) name).run Tryz.prog w=.ok (f,.agg #[.iface 295 (.pointer (some ⟨p,0,none⟩)),.func (.func 476) #[] #[.pointer (some ⟨nb,0,none⟩)],.func (.func 477) #[] #[.pointer (some ⟨nb,0,none⟩)]]) w:=by
 rcases h with h|h<;>(simp only[Prod.mk.injEq] at h;obtain ⟨rfl,rfl⟩:=h;kernel_rfl)
theorem aEb (p nb:Nat) (w:World) (v:Value) (hv:w.cell? ⟨p,0,none⟩=some v):(method mdp 597 (.agg #[.iface 295 (.pointer (some ⟨p,0,none⟩)),.func (.func 476) #[] #[.pointer (some ⟨nb,0,none⟩)],.func (.func 477) #[] #[.pointer (some ⟨nb,0,none⟩)]]) "Rows").run Tryz.prog w=.ok (469,v) w:=by
 obtain ⟨n,hn⟩:=fuel;rw[hn]
 refine (aX (n:=n+1) underlying597 rfl rfl (fun _=>by kernel_rfl) (by kernel_rfl) rfl).trans ?_
 exact aQ (n:=n) false (by kernel_rfl) (aU underlying295 (bI underlying297 hv))
theorem aGE (p nb:Nat) (w:World) (v:Value) (hv:w.cell? ⟨p,0,none⟩=some v):(method mdp 597 (.agg #[.iface 295 (.pointer (some ⟨p,0,none⟩)),.func (.func 476) #[] #[.pointer (some ⟨nb,0,none⟩)],.func (.func 477) #[] #[.pointer (some ⟨nb,0,none⟩)]]) "EncodeColumn").run Tryz.prog w=.ok (466,v) w:=by
 obtain ⟨n,hn⟩:=fuel;rw[hn]
 refine (aX (n:=n+1) underlying597 rfl rfl (fun _=>by kernel_rfl) (by kernel_rfl) rfl).trans ?_
 exact aQ (n:=n) false (by kernel_rfl) (aU underlying295 (bI underlying297 hv))
theorem aJF (p nb:Nat):iI Tryz.prog 297 298 597 4 dY (.func (.func 96) #[] #[]) p nb (.agg #[.iface 295 (.pointer (some ⟨p,0,none⟩)),.func (.func 476) #[] #[.pointer (some ⟨nb,0,none⟩)],.func (.func 477) #[] #[.pointer (some ⟨nb,0,none⟩)]]) (.num .u256) where
 append:=fun w n xs fp hc hn hf c iv kv hs=>aF.of1 (zQ p nb w _ _ (.inl rfl)) call662 (wW w p nb n xs fp hc hn hf c.r0 c.r1 c.r2 c.r3 hs.1 c.s c.null iv kv)
 appendArr:=fun w B n xs fp hB hc hf cs v ys hs A8 hn=>aF.of1 (zQ p nb w _ _ (.inr rfl)) call663 (pU w B p nb hB n xs fp hc hf cs v ys hs A8 hn)
 rows:=fun w a n c hp=>aF.of0 (aEb p nb w _ hp) call469 (aJK w a n c)
 flat:=by rintro w name (rfl|rfl|rfl) n m<;>exact fC underlying597 rfl rfl (fun _=>by kernel_rfl) (by kernel_rfl) rfl (by kernel_rfl) n m
 ahead:=fun w=>by kernel_rfl
 prep:=fun x w=>run_typeAssert_lacksB underlying102 (by kernel_rfl) (by kernel_rfl) _ x w
 stat:=fun x w=>run_typeAssert_lacksB underlying172 (by kernel_rfl) (by kernel_rfl) _ x w
 encode:=fun w b fb bs a c cs hb hp Aa hd hs hl=>aF.of1 (aGE p nb w _ hp) call466 (sS w b fb bs hb a c cs Aa hd hs
  (by have GH:(enc (.num .u256) cs).length=32*cs.length:=aY _ 32 (aV 32 (by omega)) cs;omega))
theorem aJL (B p nb:Nat):ColSpec Tryz.prog B 597 (.agg #[.iface 295 (.pointer (some ⟨p,0,none⟩)),.func (.func 476) #[] #[.pointer (some ⟨nb,0,none⟩)],.func (.func 477) #[] #[.pointer (some ⟨nb,0,none⟩)]]) (.num .u256) [] (aMP B p nb) (aMP B p nb):=(aJF p nb).spec
theorem aEa (w:World):Calls Tryz.prog 50 #[.int .i64 12] w fun e w'=>e=.returned (.iface 304 (.agg #[.iface 295 (.pointer (some ⟨w.heap.size,0,none⟩)),.func (.func 96) #[] #[],.func (.func 97) #[] #[]]))∧w'=w.alloc (.cells #[.slice none 0 0] 297):=by
 have h:Calls Tryz.prog 83 #[.int .i64 12] w fun e w'=>e=.returned (.iface 304 (.agg #[.iface 295 (.pointer (some ⟨w.heap.size,0,none⟩)),.func (.func 96) #[] #[],.func (.func 97) #[] #[]]))∧w'=w.alloc (.cells #[.slice none 0 0] 297):=by
  go_enter func83,ntmps83;go_wp2;go_ret
  exact ⟨rfl,rfl⟩
 go_enter func50,ntmps50
 go_wp2_with (go_at_call 83;refine h.mono ?_;rintro e w1 ⟨rfl,rfl⟩)
 go_ret
 exact ⟨rfl,rfl⟩
theorem aCx (w:World) (p:Nat):(method mdp 304 (.agg #[.iface 295 (.pointer (some ⟨p,0,none⟩)),.func (.func 96) #[] #[],.func (.func 97) #[] #[]]) "given.example/pub-bradawl/impl.cells").run Tryz.prog w =
 .ok (475,.agg #[.iface 295 (.pointer (some ⟨p,0,none⟩)),.func (.func 96) #[] #[],.func (.func 97) #[] #[]]) w:=by
 obtain ⟨n,hn⟩:=fuel;rw[hn]
 exact aQ (n:=n+1) false (by kernel_rfl) (dM underlying304 rfl)
theorem aJI (w:World) (p B:Nat) (hB:B≤p) (hp:w.heap[p]?=some (.cells #[.slice none 0 0] 297 (0,0))) :
 Calls Tryz.prog 475 #[.agg #[.iface 295 (.pointer (some ⟨p,0,none⟩)),.func (.func 96) #[] #[],.func (.func 97) #[] #[]]] w fun e w' =>
  ∃ nb fp,e=.returned (.iface 597 (.agg #[.iface 295 (.pointer (some ⟨p,0,none⟩)),.func (.func 476) #[] #[.pointer (some ⟨nb,0,none⟩)],.func (.func 477) #[] #[.pointer (some ⟨nb,0,none⟩)]]))∧aMP B p nb w' fp []∧F0 w w':=by
 have AZ:=aC hp;go_enter func475,ntmps475;go_wp2;go_ret
 refine ⟨w.heap.size,fun k=>k=p∨k=w.heap.size,rfl,⟨fun k=>k=p,⟨.slice none 0 0,(Below.heap_alloc _ _ _ AZ).trans hp,World.ownsRow_nil _ _ _ _,by simp[Value.ownBlock],fun k=>by simp[Value.ownBlock]⟩,⟨by rw[aB rfl];rfl,by rw[aB rfl];rfl⟩,fun k=>Iff.rfl,?_,by omega,by simp⟩,(Fr.refl _ w).alloc _⟩;rintro k (rfl|rfl)<;>omega
theorem aGG {conn:Value} {ps pw:Nat} {w:World} {fw:Nat→Prop} {n:Nat} {out:List UInt8} (h:eG conn ps pw w fw n out) (a:Option Addr) (c:Nat) (cs:List Cell) (Aa:w.ownsRow 0 298 4 (.slice a cs.length c) cs.length (cs.flatMap dY))
 (hd:∀ k,(Value.slice a cs.length c).ownBlock=some k→¬ fw k) (hs:∀ c∈cs,c.small) (hl:out.length+(cs.flatMap (aG 32)).length≤1099511627776) :
 Calls Tryz.prog 471 #[.slice a cs.length c,.pointer (some ⟨pw,0,none⟩)] w fun e w'=>e=.returned (.tuple #[])∧Fr fw w w'∧∃ fw',eG conn ps pw w' fw' n (out++cs.flatMap (aG 32))∧Grow w fw fw':=by
 have GH:=aY _ 32 (aV 32 (by omega)) cs;have Gw:=h.chain (l:=cs.flatMap (aG 32)) (cb:=.func (.func 466) #[.slice a cs.length c] #[]) fun b fb bs hb CJ Gf=>bM.bound call466 (sS w b fb bs hb a c cs Aa (fun k hk e=>hd k hk (CJ k e)) hs (by omega))
 go_enter func471,ntmps471
 go_wp2_with (go_at_call 176;refine Gw.mono ?_;rintro e w1 ⟨rfl,h1,h2⟩)
 go_end0
 exact ⟨rfl,h1,h2⟩
theorem aEc (w:World) (r0 r1 r2 r3:Nat):Calls Tryz.prog 97 #[.agg #[.int .u64 r0,.int .u64 r1,.int .u64 r2,.int .u64 r3]] w fun e w'=>e=.returned (.agg #[.int .u64 r0,.int .u64 r1,.int .u64 r2,.int .u64 r3])∧F0 w w':=by
 go_enter func97,ntmps97
 go_wp2_with (go_at_call 71;refine (aEl _ r0 r1 r2 r3).mono ?_;rintro e w1 ⟨rfl,Ad⟩;have hm:w1.heap[w.heap.size+1]?=some (.cells #[.int .u64 0,.int .u64 0,.int .u64 0,.int .u64 0] 33 (0,0)):=Ad.made (by simp);have q0:w1.cell? ⟨w.heap.size+1,0,none⟩=some (.int .u64 0):=(crw hm rfl);have z0:=fzj 0 hm;have q1:w1.cell? ⟨w.heap.size+1,1,none⟩=some (.int .u64 0):=(crw hm rfl);have z1:=fzj 1 hm;have q2:w1.cell? ⟨w.heap.size+1,2,none⟩=some (.int .u64 0):=(crw hm rfl);have z2:=fzj 2 hm;have q3:w1.cell? ⟨w.heap.size+1,3,none⟩=some (.int .u64 0):=(crw hm rfl);have z3:=fzj 3 hm)
 refine bodyPost_ret (by simp[results,results97,go_sem,q0,q1,q2,q3];try rfl) rfl ?_
 have hb:∀ i,(False∨w.heap.size≤(⟨w.heap.size+1,i,none⟩:Addr).block):=fun _=>.inr (Nat.le_succ _)
 exact ⟨rfl,(((((((Fr.refl _ w).alloc _).alloc _).trans Ad (fun _ _ h=>h)).setCell (hb 0) _).setCell (hb 1) _).setCell (hb 2) _).setCell (hb 3) _⟩
theorem aOm (w:World) (a:Option Addr) (k c:Nat) (cs:List Cell) (hk:k<cs.length) (Aa:w.ownsRow 0 298 4 (.slice a cs.length c) cs.length (cs.flatMap dY)) :
 Calls Tryz.prog 468 #[.slice a cs.length c,.int .i64 k] w fun e w'=>e=.returned (.agg #[.int .u64 cs[k].r0,.int .u64 cs[k].r1,.int .u64 cs[k].r2,.int .u64 cs[k].r3])∧F0 w w':=by
 rcases Aa.2 with ⟨hv,_⟩|⟨ga,capa,cura,hv,_⟩
 · simp only[Value.slice.injEq] at hv;omega
 · simp only[Value.slice.injEq] at hv
   obtain ⟨rfl,_,rfl⟩:=hv;have AL:=fun j hj=>gJ dY 4 (fun _=>rfl) cs k j hk hj
   have FK:=Aa.cells (g:=ga) rfl (k*4+0) _ (AL 0 (by omega));rw[Addr.add_lit,Nat.zero_add] at FK;have F6:=Aa.cells (g:=ga) rfl (k*4+1) _ (AL 1 (by omega));rw[Addr.add_lit,Nat.zero_add] at F6;have Ky:=Aa.cells (g:=ga) rfl (k*4+2) _ (AL 2 (by omega));rw[Addr.add_lit,Nat.zero_add] at Ky;have N9:=Aa.cells (g:=ga) rfl (k*4+3) _ (AL 3 (by omega));rw[Addr.add_lit,Nat.zero_add] at N9;simp only[Nat.add_zero] at FK;have hy0:=fun o=>(World.cell?_alloc_lt w o _ (World.block_lt_of_cell? w _ FK)).trans FK
   have hy1:=fun o=>(World.cell?_alloc_lt w o _ (World.block_lt_of_cell? w _ F6)).trans F6
   have hy2:=fun o=>(World.cell?_alloc_lt w o _ (World.block_lt_of_cell? w _ Ky)).trans Ky
   have hy3:=fun o=>(World.cell?_alloc_lt w o _ (World.block_lt_of_cell? w _ N9)).trans N9
   have Gz:(k:Int)<cs.length:=by omega
   go_enter func468,ntmps468;go_wp2
   refine bodyPost_ret (by simp[results,results468,go_sem];try rfl) rfl ?_
   exact ⟨rfl,((Fr.refl _ w).alloc _)⟩
theorem aJJ (w:World) (nb r0 r1 r2 r3:Nat) (hf:w.cell? ⟨nb,2,none⟩=some (.func (.func 97) #[] #[])) :
 Calls Tryz.prog 477 #[.agg #[.int .u64 r0,.int .u64 r1,.int .u64 r2,.int .u64 r3],.pointer (some ⟨nb,0,none⟩)] w fun e w'=>e=.returned (.agg #[.int .u64 r0,.int .u64 r1,.int .u64 r2,.int .u64 r3,.string ⟨#[]⟩,.bool false,.slice none 0 0,.slice none 0 0])∧F0 w w':=by
 have Ey:∀ o,(w.alloc o).cell? ⟨nb,2,none⟩=some (.func (.func 97) #[] #[]):=fun o=>(World.cell?_alloc_lt w o _ (World.block_lt_of_cell? w _ hf)).trans hf
 have Ti:∀ o o',((w.alloc o).alloc o').cell? ⟨nb,2,none⟩=some (.func (.func 97) #[] #[]):=fun o o'=>(World.cell?_alloc_lt _ o' _ (World.block_lt_of_cell? _ _ (Ey o))).trans (Ey o)
 go_enter func477,ntmps477
 go_wp2_with (go_at_call 97;refine (aEc _ r0 r1 r2 r3).mono ?_;rintro e w1 ⟨rfl,Ad⟩;have hm:=Ad.made (n:=w.heap.size+1) (by simp);obtain ⟨c0,c1,c2,c3,c4,c5,c6,c7⟩:=bD.eight (bD.of_block hm);have z0:=fzj 0 hm;have z1:=fzj 1 hm;have z2:=fzj 2 hm;have z3:=fzj 3 hm;have z4:=fzj 4 hm;have z5:=fzj 5 hm;have z6:=fzj 6 hm;have z7:=fzj 7 hm)
 refine bodyPost_ret (by simp[results,results477,go_sem,c0,c1,c2,c3,c4,c5,c6,c7];try rfl) rfl ?_
 have Ez:=(((Fr.refl (fun _=>False) w).alloc _).alloc _).trans Ad (fun _ _ h=>h);have hb:∀ i,(False∨w.heap.size≤(⟨w.heap.size+1,i,none⟩:Addr).block):=fun _=>.inr (Nat.le_succ _)
 exact ⟨rfl,(((((((Ez.setCell (hb 0) _).setCell (hb 1) _).setCell (hb 2) _).setCell (hb 3) _).setCell (hb 4) _).setCell (hb 5) _).setCell (hb 6) _).setCell (hb 7) _⟩
theorem aJG (a:Addr) (w:World) {b:Option Addr} {n c:Nat} (hv:w.cell? a=some (.slice b n c)):(method mdp 295 (.pointer (some a)) "Row").run Tryz.prog w=.ok (468,.slice b n c) w:=by
 obtain ⟨n,hn⟩:=fuel;rw[hn]
 exact aQ (n:=n+1) false (by kernel_rfl) (aU underlying295 (bI underlying297 hv))
theorem aCw (w:World) (p nb:Nat) (a:Option Addr) (k c:Nat) (cs:List Cell) (hk:k<cs.length) (hp:w.cell? ⟨p,0,none⟩=some (.slice a cs.length c)) (Aa:w.ownsRow 0 298 4 (.slice a cs.length c) cs.length (cs.flatMap dY))
 (hf:w.cell? ⟨nb,2,none⟩=some (.func (.func 97) #[] #[])) :
 Calls Tryz.prog 664 #[.agg #[.iface 295 (.pointer (some ⟨p,0,none⟩)),.func (.func 476) #[] #[.pointer (some ⟨nb,0,none⟩)],.func (.func 477) #[] #[.pointer (some ⟨nb,0,none⟩)]],.int .i64 k] w fun e w' =>
  e=.returned (.agg #[.int .u64 cs[k].r0,.int .u64 cs[k].r1,.int .u64 cs[k].r2,.int .u64 cs[k].r3,.string ⟨#[]⟩,.bool false,.slice none 0 0,.slice none 0 0])∧F0 w w':=by
 have Ag:=fun W (Aw:F0 w W)=>aF.of1 (name:= "Row") (aJG ⟨p,0,none⟩ W.drew (Aw.drew.aA hp (fun h=>h))) call468 (aOm W.drew a k c cs hk (Aw.drew.owns Aa (fun _ _ h=>h)))
 generalize cs[k].r0=r0 at Ag ⊢;generalize cs[k].r1=r1 at Ag ⊢;generalize cs[k].r2=r2 at Ag ⊢;generalize cs[k].r3=r3 at Ag ⊢;clear hp Aa hk;have Ag:=Lib.hid Ag;go_enter func664,ntmps664
 go_wp2_with fail
 generalize hW:(w.alloc _).alloc _=W;have Af:F0 w W:=by subst hW;exact ((Fr.refl _ w).alloc _).alloc _
 have d0:W.cell? ⟨w.heap.size,0,none⟩=some (.iface 295 (.pointer (some ⟨p,0,none⟩))):=by subst hW;rw[ca (by simp),aB rfl];rfl
 have d2:W.cell? ⟨w.heap.size,2,none⟩=some (.func (.func 477) #[] #[.pointer (some ⟨nb,0,none⟩)]):=by subst hW;rw[ca (by simp),aB rfl];rfl
 have Di:W.heap[w.heap.size+1]?=some (.cells #[.int .u64 0,.int .u64 0,.int .u64 0,.int .u64 0,.string ⟨#[]⟩,.bool false,.slice none 0 0,.slice none 0 0] 35 (0,0)):=by subst hW;exact Fr.made (Fr.refl _ _) (by simp)
 have Aw:=Af.aA hf (fun h=>h);clear hW
 go_region_law
  (first
   | (refine aK _ rfl ?_;refine bH _ _ _ _ _ rfl _ _ rfl (Ag.out W Af) rfl ?_;rintro e w1 ⟨rfl,BL⟩;have Ad:=BL.aH;have d2':=Ad.aA d2 (fun h=>h);refine ⟨_,rfl,?_⟩)
   | (refine aK _ rfl ?_;refine dI _ _ _ _ rfl _ _ rfl (bM.func1 call477 (aJJ _ nb r0 r1 r2 r3 (Ad.aA Aw (fun h=>h)))) rfl ?_;rintro e w2 ⟨rfl,Au⟩;have Ae:F0 W w2:=Ad.trans Au (fun _ _ h=>h);have AB:=(Ae.block _ (aC Di) (fun h=>h)).trans Di;obtain ⟨c0,c1,c2,c3,c4,c5,c6,c7⟩:=bD.eight (bD.of_block AB);have z0:=fzj 0 AB;have z1:=fzj 1 AB;have z2:=fzj 2 AB;have z3:=fzj 3 AB;have z4:=fzj 4 AB;have z5:=fzj 5 AB;have z6:=fzj 6 AB;have z7:=fzj 7 AB;refine ⟨_,rfl,?_⟩))
 all_goals (try simp only[Exit.then])
 all_goals
  refine (‹∀ (a:Act) (w:World),Code.wp _ Code.ret _ a w→_› _ _ ?_)
  refine wp_ret ?_
  show bodyPost _ _ _ _ _ _
  refine bodyPost_ret (by simp[results,results664,go_sem,c0,c1,c2,c3,c4,c5,c6,c7];try rfl) rfl ?_
  have hb:∀ i,(False∨w.heap.size≤(⟨w.heap.size+1,i,none⟩:Addr).block):=fun _=>.inr (Nat.le_succ _)
  exact ⟨rfl,(((((((((Af.trans Ae (fun _ _ h=>h)).setCell (hb 0) _).setCell (hb 1) _).setCell (hb 2) _).setCell (hb 3) _).setCell (hb 4) _).setCell (hb 5) _).setCell (hb 6) _).setCell (hb 7) _)⟩
abbrev aCy (p nb:Nat):Value:=.agg #[.iface 295 (.pointer (some ⟨p,0,none⟩)),.func (.func 476) #[] #[.pointer (some ⟨nb,0,none⟩)],.func (.func 477) #[] #[.pointer (some ⟨nb,0,none⟩)]]
theorem aGF (p nb:Nat) (w:World):(method mdp 597 (aCy p nb) "Row").run Tryz.prog w=.ok (664,aCy p nb) w:=by kernel_rfl
theorem aJH (p nb:Nat) (w:World) (v:Value) (hv:w.cell? ⟨p,0,none⟩=some v):(method mdp 597 (aCy p nb) "WriteColumn").run Tryz.prog w=.ok (471,v) w:=by
 obtain ⟨n,hn⟩:=fuel;rw[hn]
 refine (aX (n:=n+1) underlying597 rfl rfl (fun _=>by kernel_rfl) (by kernel_rfl) rfl).trans ?_
 exact aQ (n:=n) false (by kernel_rfl) (aU underlying295 (bI underlying297 hv))
theorem aGD (p nb:Nat):fU Tryz.prog 297 298 597 4 dY (.func (.func 97) #[] #[]) p nb (aCy p nb) (.num .u256) where
 write:=fun hp Aa hs CY hd hl hn=>(aF.of1 (aJH p nb _ _ hp) call471 (aGG CY _ _ _ Aa (fun k hk=>(hd k hk).1) hs hl)).mono fun e w' ⟨h1,h2,fw',h3,h4⟩=>⟨h1,h2,fw',h3.more (Nat.le_add_right _ _),h4⟩
 row:=fun {w a c k cs} hk hp Aa hs hf=>(aF.of1 (aGF p nb w) call664 (aCw w p nb a k c cs hk hp Aa hf)).mono fun e w' ⟨h1,h2⟩=>⟨.mk cs[k].r0 cs[k].r1 cs[k].r2 cs[k].r3 ⟨#[]⟩ false [] [],⟨(hs _ (getElem_mem hk)).1,(hs _ (getElem_mem hk)).2.1,(hs _ (getElem_mem hk)).2.2.1,(hs _ (getElem_mem hk)).2.2.2.1,Nat.zero_le _⟩,h1,h2,aIP⟩
end Go.Proofs.YtcidlnjpabgioaaGreatDoor
