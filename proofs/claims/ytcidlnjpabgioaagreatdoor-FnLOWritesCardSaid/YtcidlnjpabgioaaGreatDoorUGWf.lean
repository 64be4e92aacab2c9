import Derived.Test.YtcidlnjpabgioaaGreatDoorUGFix
import Derived.Test.YtcidlnjpabgioaaGreatDoorUGByte
set_option maxHeartbeats 1000000
set_option maxRecDepth 100000
namespace Go.Proofs.YtcidlnjpabgioaaGreatDoor
open Tryz List Go.RowKit
theorem aHV {conn:Value} {ps pw:Nat} {w:World} {fw:Nat→Prop} {n:Nat} {out:List UInt8} (h:eG conn ps pw w fw n out) (v:Value) (m:Nat) (cs:List Cell) (Aa:w.ownsRow 0 5 1 v (m*cs.length) (aN (fixes m cs)))
 (hd:∀ k,v.ownBlock=some k→¬ fw k∧k≠ps) (hl:out.length≤1099511627776) (hn:n≤1000000000) :
 Calls Tryz.prog 311 #[.agg #[v,.int .i64 m],.pointer (some ⟨pw,0,none⟩)] w (iR conn ps pw w fw (n+2) (out++fixes m cs)):=by
 obtain ⟨a1,c1,rfl⟩:=ownsRow_shape Aa;have hE:Ent (fun q=>q≠ps∧q<w.heap.size∧¬ fw q) w (.slice a1 (m*cs.length) c1) (fixes m cs):=Ent.own (e:=5) (by rw[lW];exact Aa) fun g hg=>⟨(hd g hg).2,aO Aa hg,(hd g hg).1⟩
 go_enter func311,ntmps311
 go_wp2_with (go_at_call 199;refine ((h.quiet ((Fr.refl (fun _=>False) w).alloc _)).write hl hn (hE.to ((Fr.refl (fun _=>False) w).alloc _) (fun q ⟨h1,h2,h3⟩=>⟨⟨h1,Nat.lt_of_lt_of_le h2 ((Fr.refl (fun _=>False) w).alloc _).size,h3⟩,fun h=>h⟩))).mono ?_;rintro e w1 ⟨rfl,h1,h2⟩)
 go_end0
 exact iR.from ((Fr.refl _ w).alloc _) ⟨rfl,h1,h2⟩
theorem aOL (w:World) (m k N c g:Nat) (hk:k<N) (hm:1≤m∧m≤1000) (hN:m*N<9223372036854775808) (hc:m*N≤c) :
 Calls Tryz.prog 308 #[.agg #[.slice (some ⟨g,0,none⟩) (m*N) c,.int .i64 m],.int .i64 k] w fun e w'=>e=.returned (.slice (some ⟨g,k*m,none⟩) m (c - k*m))∧F0 w w':=by
 have h1:k*m+m≤m*N:=by
  have:=Nat.mul_le_mul_right m (Nat.succ_le_of_lt hk);rw[Nat.succ_mul,Nat.mul_comm N m] at this
  exact this
 have h2:N≤m*N:=Nat.le_mul_of_pos_left N hm.1;have e1:((k:Int)+1)*m=((k*m+m:Nat):Int):=by rw[Int.add_mul,Int.one_mul,Int.natCast_add,Int.natCast_mul]
 have e2:(k:Int)*m=((k*m:Nat):Int):=(Int.natCast_mul k m).symm;generalize m*N=M at h1 h2 hc hN ⊢;generalize k*m=K at h1 e1 e2 ⊢;have s0:k+1<9223372036854775808:=by omega
 have s1:K<9223372036854775808:=by omega
 have s2:K+m<9223372036854775808:=by omega
 have s3:K+m≤c:=by omega
 have Am:¬ c=K:=by omega
 have e6:((K:Int)+(m:Int)).toNat - K=m:=by omega
 have e7:(0:Int)≤(K:Int)+m∧(K:Int)+m≤c:=by omega
 have e8:(K:Int)≤(K:Int)+m:=by omega
 have e3:wrap64 ((k:Int)+1)=(k:Int)+1:=wrap64_small s0;have e4:=wrap64_small s1;have e5:wrap64 ((K:Int)+(m:Int))=(K:Int)+m:=wrap64_small s2;rw[Int.natCast_add] at e1;clear h1 h2 hc hk hN hm s0 s1 s2;go_enter func308,ntmps308;go_wp2;go_ret
 exact ⟨rfl,(Fr.refl _ w).alloc _⟩
theorem aKu (w:World) (g o c:Nat) (bs:List UInt8) (hr:∀ j (hj:j<bs.length),w.cell? (Addr.add ⟨g,o,none⟩ j)=some (.int .u8 (bs[j].toNat:Int))) :
 Calls Tryz.prog 49 #[.slice (some ⟨g,o,none⟩) bs.length c] w fun e w'=>e=.returned (.agg #[.int .u64 0,.int .u64 0,.int .u64 0,.int .u64 0,.string (bJ bs),.bool false,.slice none 0 0,.slice none 0 0])∧F0 w w':=by
 have hc:∀ q,(convert 22 9 (.slice (some ⟨g,o,none⟩) bs.length c)).run Tryz.prog (w.alloc q)=.ok (.string (bJ bs)) (w.alloc q):=fun q =>
  run_convert_bytes_back _ _ _ 5 ⟨g,o,none⟩ c bs underlying22 underlying5 underlying9 fun j hj=>(World.cell?_alloc_lt w q _ (World.block_lt_of_cell? w _ (hr j hj))).trans (hr j hj)
 have SE:(convert 22 9 (.slice (some ⟨g,o,none⟩) bs.length c)).run Tryz.prog w=.ok (.string (bJ bs)) w :=
  run_convert_bytes_back _ _ _ 5 ⟨g,o,none⟩ c bs underlying22 underlying5 underlying9 hr
 clear hr;generalize bs.length=n at hc SE ⊢;generalize bJ bs=s at hc SE ⊢;go_enter func49,ntmps49;go_wp2
 refine bodyPost_ret (by simp[results,results49,go_sem];try rfl) rfl ?_
 exact ⟨rfl,(Fr.refl _ w).alloc _⟩
theorem aKs (a:Addr) (w:World) {u v:Value} (h0:w.cell? a=some u) (h1:w.cell? (a.add 1)=some v):(method mdp 157 (.pointer (some a)) "Row").run Tryz.prog w=.ok (308,.agg #[u,v]) w:=by
 obtain ⟨n,hn⟩:=fuel;rw[hn]
 exact aQ (n:=n+1) false (by kernel_rfl) (aU underlying157 (rG h0 h1))
theorem aCU (w:World) (p nb g m k N c:Nat) (bs:List UInt8) (Vg:bs.length=m) (hk:k<N) (hm:1≤m∧m≤1000) (hN:m*N<9223372036854775808) (hc:m*N≤c) (IP:w.cell? ⟨p,0,none⟩=some (.slice (some ⟨g,0,none⟩) (m*N) c)) (DL:w.cell? ⟨p,1,none⟩=some (.int .i64 m))
 (hr:∀ j (hj:j<bs.length),w.cell? (Addr.add ⟨g,k*m,none⟩ j)=some (.int .u8 (bs[j].toNat:Int))) :
 Calls Tryz.prog 314 #[.agg #[.iface 157 (.pointer (some ⟨p,0,none⟩)),.func (.func 47) #[] #[.pointer (some ⟨nb,0,none⟩)],.func (.func 49) #[] #[]],.int .i64 k] w fun e w' =>
  e=.returned (.agg #[.int .u64 0,.int .u64 0,.int .u64 0,.int .u64 0,.string (bJ bs),.bool false,.slice none 0 0,.slice none 0 0])∧F0 w w':=by
 have Ag:=fun W (Aw:F0 w W)=>aF.of1 (name:= "Row") (aKs ⟨p,0,none⟩ W.drew (Aw.drew.aA IP (fun h=>h)) (Aw.drew.aA (by simpa [Addr.add] using DL) (fun h=>h))) call308 (aOL W.drew m k N c g hk hm hN hc)
 have Eu:=fun W (Aw:F0 w W)=>aKu W g (k*m) (c - k*m) bs fun j hj=>Aw.aA (hr j hj) (fun h=>h)
 rw[Vg] at Eu;generalize c - k*m=c' at Ag Eu;generalize k*m=K at Ag Eu;generalize bJ bs=s at Eu ⊢;clear IP DL hk hN hc hm hr Vg;have Ag:=Lib.hid Ag;have Eu:=Lib.hid Eu;go_enter func314,ntmps314
 go_wp2_with fail
 generalize hW:(w.alloc _).alloc _=W;have Af:F0 w W:=by subst hW;exact ((Fr.refl _ w).alloc _).alloc _
 have d0:W.cell? ⟨w.heap.size,0,none⟩=some (.iface 157 (.pointer (some ⟨p,0,none⟩))):=by subst hW;rw[ca (by simp),aB rfl];rfl
 have d2:W.cell? ⟨w.heap.size,2,none⟩=some (.func (.func 49) #[] #[]):=by subst hW;rw[ca (by simp),aB rfl];rfl
 have Di:W.heap[w.heap.size+1]?=some (.cells #[.int .u64 0,.int .u64 0,.int .u64 0,.int .u64 0,.string ⟨#[]⟩,.bool false,.slice none 0 0,.slice none 0 0] 35 (0,0)):=by subst hW;exact Fr.made (Fr.refl _ _) (by simp)
 clear hW
 go_region_law
  (first
   | (refine aK _ rfl ?_;refine bH _ _ _ _ _ rfl _ _ rfl (Ag.out W Af) rfl ?_;rintro e w1 ⟨rfl,BL⟩;have Ad:=BL.aH;have d2':=Ad.aA d2 (fun h=>h);refine ⟨_,rfl,?_⟩)
   | (refine aK _ rfl ?_;refine dI _ _ _ _ rfl _ _ rfl (bM.func0 call49 (Eu.out _ (Af.trans Ad (fun _ _ h=>h)))) rfl ?_;rintro e w2 ⟨rfl,Au⟩;have Ae:F0 W w2:=Ad.trans Au (fun _ _ h=>h);have AB:=(Ae.block _ (aC Di) (fun h=>h)).trans Di;obtain ⟨c0,c1,c2,c3,c4,c5,c6,c7⟩:=bD.eight (bD.of_block AB);have z0:=fzj 0 AB;have z1:=fzj 1 AB;have z2:=fzj 2 AB;have z3:=fzj 3 AB;have z4:=fzj 4 AB;have z5:=fzj 5 AB;have z6:=fzj 6 AB;have z7:=fzj 7 AB;refine ⟨_,rfl,?_⟩))
 all_goals (try simp only[Exit.then])
 all_goals
  refine (‹∀ (a:Act) (w:World),Code.wp _ Code.ret _ a w→_› _ _ ?_)
  refine wp_ret ?_
  show bodyPost _ _ _ _ _ _
  refine bodyPost_ret (by simp[results,results314,go_sem,c0,c1,c2,c3,c4,c5,c6,c7];try rfl) rfl ?_
  have hb:∀ i,(False∨w.heap.size≤(⟨w.heap.size+1,i,none⟩:Addr).block):=fun _=>.inr (Nat.le_succ _)
  exact ⟨rfl,(((((((((Af.trans Ae (fun _ _ h=>h)).setCell (hb 0) _).setCell (hb 1) _).setCell (hb 2) _).setCell (hb 3) _).setCell (hb 4) _).setCell (hb 5) _).setCell (hb 6) _).setCell (hb 7) _)⟩
theorem aKt (p nb:Nat) (w:World) (u v:Value) (h0:w.cell? ⟨p,0,none⟩=some u) (h1:w.cell? ⟨p,1,none⟩=some v):(method mdp 166 (.agg #[.iface 157 (.pointer (some ⟨p,0,none⟩)),.func (.func 47) #[] #[.pointer (some ⟨nb,0,none⟩)],.func (.func 49) #[] #[]]) "WriteColumn").run Tryz.prog w=.ok (311,.agg #[u,v]) w:=by
 obtain ⟨n,hn⟩:=fuel;rw[hn]
 refine (aX (n:=n+1) underlying166 rfl rfl (fun _=>by kernel_rfl) (by kernel_rfl) rfl).trans ?_
 exact aQ (n:=n) false (by kernel_rfl) (aU underlying157 (rG h0 (by simpa [Addr.add] using h1)))
theorem aHU (p nb:Nat) (w:World):(method mdp 166 (.agg #[.iface 157 (.pointer (some ⟨p,0,none⟩)),.func (.func 47) #[] #[.pointer (some ⟨nb,0,none⟩)],.func (.func 49) #[] #[]]) "Row").run Tryz.prog w=.ok (314,.agg #[.iface 157 (.pointer (some ⟨p,0,none⟩)),.func (.func 47) #[] #[.pointer (some ⟨nb,0,none⟩)],.func (.func 49) #[] #[]]) w:=by kernel_rfl
theorem aKq (B p nb m:Nat) (hm:1≤m∧m≤1000):ColW Tryz.prog 166 (.agg #[.iface 157 (.pointer (some ⟨p,0,none⟩)),.func (.func 47) #[] #[.pointer (some ⟨nb,0,none⟩)],.func (.func 49) #[] #[]]) (.fix m) (aBJ B p nb m) (aBJ B p nb m) where
 write:=by
  intro conn ps pw w fp σ fw n out h hw CY hd hl hn;obtain ⟨fp0,⟨v,hp,Aa,Am,FV⟩,Em,Aj,hB,Eb,CE⟩:=h
  exact aF.of1 (aKt p nb w _ _ (crw hp rfl) (crw hp rfl)) call311 (aHV CY v m σ Aa (fun k hk=>hd k ((Aj k).2 (.inl ((FV k).2 (.inr hk))))) (Nat.le_trans (Nat.le_add_right _ _) hl) (Nat.le_trans (Nat.le_add_right _ _) hn))
 row:=by
  intro w fp σ k hk h _;obtain ⟨fp0,⟨v,hp,Aa,Am,FV⟩,Em,Aj,hB,Eb,CE⟩:=h;have Qm:0<m*σ.length:=Nat.mul_pos hm.1 (by omega);rcases Aa.2 with ⟨hv,hx⟩|⟨g,cap,cur,hv,_,h2,h3,h4,_⟩
  · omega
  · subst hv
    have Ar:m*σ.length<9223372036854775808:=by unfold maxLen at h4;omega
    have A8:(fitted m σ[k].s).length=m:=lG _ _
    refine (aF.of1 (aHU p nb w) call314 (aCU w p nb g m k σ.length cap (fitted m σ[k].s) A8 hk hm Ar h3 (crw hp rfl) (crw hp rfl) fun j hj=>?_)).mono ?_
    · have hf:=gJ (fun c:Cell=>fitted m c.s) m (fun c=>lG m c.s) σ k j hk (by omega)
      rw[Addr.add_lit]
      exact kS Aa rfl (by simp[aN,fixes,hf,hj])
    · rintro e w' ⟨rfl,Ak⟩
      refine ⟨(Cell.mk 0 0 0 0 (bJ (fitted m σ[k].s)) false [] []).keyed,_,rfl,Ak,lL _ _ ⟨Nat.zero_lt_succ _,Nat.zero_lt_succ _,Nat.zero_lt_succ _,Nat.zero_lt_succ _,?_⟩,?_⟩
      · show (bJ (fitted m σ[k].s)).size≤65536
        rw[gW,A8];omega
      · rintro ⟨s,he,hs⟩
        rw[he];show Cell.mk 0 0 0 0 (bJ (fitted m s)) false [] []=_
        have:bJ (fitted m s)=s:=by
         unfold fitted;rw[take_append_of_le_length (by rw[Array.length_toList];exact Nat.le_of_eq hs.symm),take_of_length_le (by rw[Array.length_toList];exact Nat.le_of_eq hs)]
         rfl
        rw[this]
end Go.Proofs.YtcidlnjpabgioaaGreatDoor
