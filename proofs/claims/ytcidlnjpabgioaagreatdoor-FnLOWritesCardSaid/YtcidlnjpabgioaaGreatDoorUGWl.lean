import Derived.Test.YtcidlnjpabgioaaGreatDoorUGCellZ
set_option maxHeartbeats 8000000
set_option maxRecDepth 100000
namespace Go.Proofs.YtcidlnjpabgioaaGreatDoor
open Tryz List Go.RowKit
def aOE (w:World) (e:Ending) (w':World):Prop:=∃ (T:Ty) (vs:List Value) (σ:List Cell) (v z:Value),e=.returned (.tuple #[.agg vs.toArray,v,z])∧Ok 3 T∧LTS (fun q=>q<w'.heap.size) w' T.lt vs ∧
 (∃ xs S,bU w.heap.size w' v (.slice none 0 0) σ [] xs [] S)∧wts σ≤σ.length*2500∧σ.length≤20∧(∀ c∈σ,Made T c)∧F0 w w'
set_option linter.unusedSimpArgs false in
theorem aFD (w:World) (cv:Value) (cn:Nat) (Bc:xE w.heap.size w cv cn) (m:Nat) (hm:m<20) :
 Calls Tryz.prog 16 #[cv,.int .i64 3,.int .i64 m] w (aOE w):=by
 have Ez:F0 w (w.alloc (.cells #[.string ⟨#[]⟩,.int .i64 0,.slice none 0 0] 29)):=(Fr.refl _ w).alloc _
 have SH:=aLG (w:=w.alloc (.cells #[.string ⟨#[]⟩,.int .i64 0,.slice none 0 0] 29)) (v:=cv) (n:=cn) (by
  obtain ⟨a,c,h1,h2,h3,h4,h5⟩:=Bc
  exact ⟨a,c,h1,h2,h3,h4,fun ad D9=>by
   obtain ⟨h6,h7,h8⟩:=h5 ad D9
   exact ⟨by simp;omega,h7,fun j hj=>by obtain ⟨b,hb⟩:=h8 j hj;exact ⟨b,Ez.aA hb (fun h=>h)⟩⟩⟩)
 obtain ⟨ca,cc,rfl,Wv,AP,-,-⟩:=Bc;unfold maxLen at AP;have II:(w.alloc (.cells #[.string ⟨#[]⟩,.int .i64 0,.slice none 0 0] 29)).heap.size=w.heap.size+1:=by simp
 rw[II] at SH;have Az:=(((Fr.refl (fun _=>False) (w.alloc (.cells #[.string ⟨#[]⟩,.int .i64 0,.slice none 0 0] 29))).alloc (.cells #[.slice ca cn cc,.int .u64 0] 26)).block w.heap.size (by simp) (fun h=>h)).trans (heap_alloc_new w _);have Aw:F0 w _:=Ez.alloc (.cells #[.slice ca cn cc,.int .u64 0] 26);have D6:((w.alloc (.cells #[.string ⟨#[]⟩,.int .i64 0,.slice none 0 0] 29)).alloc (.cells #[.slice ca cn cc,.int .u64 0] 26)).heap.size=w.heap.size+2:=by simp
 go_enter func16,ntmps16
 go_wp2_with fail
 generalize (w.alloc _).alloc _=W at SH Az Aw D6 ⊢
 refine (aHz 3 (by omega) _ W _ SH (by omega)).mono ?_
 rintro e w1 ⟨T,vs,hT,rfl,hl,Eg,Ad⟩;obtain ⟨oa,oc,rfl⟩:=hl.three
 go_wp2_with fail
 obtain ⟨wo,QD⟩:∃ wo,wo=w1.alloc (.cells #[.string (bJ T.nm),.int .i64 T.sz,.slice oa T.kids.length oc] 29):=⟨_,rfl⟩;have KH:F0 w1 wo:=by rw[QD];exact (Fr.refl _ _).alloc _
 have Yk:wo.heap[w1.heap.size]?=some (.cells #[.string (bJ T.nm),.int .i64 T.sz,.slice oa T.kids.length oc] 29 (0,0)):=by rw[QD];exact heap_alloc_new w1 _
 have BN:=Ad.size;have qm:wo.heap.size=w1.heap.size+1:=by rw[QD];simp
 rw[← QD];clear QD;have SQ:bT (w.heap.size+1) wo (w.heap.size+1):=Eg.fr KH (fun h=>h) (fun _ _ h=>h);have OL:LTS (fun q=>W.heap.size≤q∧q<wo.heap.size) wo T.lt [.string (bJ T.nm),.int .i64 T.sz,.slice oa T.kids.length oc]:=LTS.to KH (fun q hq=>⟨⟨hq.1,by have:=hq.2;omega⟩,fun h=>h⟩) _ _ hl;have OY:=(KH.block _ (by omega) (fun h=>h)).trans ((Ad.block _ (by omega) (by show ¬ w.heap.size=w.heap.size+1;omega)).trans Az);have Yn:=qG 3 _ hT
 go_loopw [11,12] (fun rv i wr=>∃ (j:Nat) (σ:List Cell) (rxs:List Value) (S:Nat→Prop),i=.int .i64 j∧σ.length+j≤20∧bU wo.heap.size wr rv (.slice none 0 0) σ [] rxs [] S∧wts σ≤σ.length*2500∧Hid (∀ c∈σ,Made T c)∧bT (w.heap.size+1) wr (w.heap.size+1)∧Fr (fun q=>q=w.heap.size+1) wo wr) (fun _ i _=>(intOf i).toNat)
 case atStart=>exact ⟨1+m,[],[],_,by go_num,by simp;omega,bU.nil _ _,by simp[wts],Lib.hid (by simp),SQ,Fr.refl _ _⟩
 case round =>
  obtain ⟨j,σ,rxs,S2,rfl,hj,BG,GL,Hr,PI,BZ⟩:=hrel;have TA:=BZ.size;have U0:=(BZ.block _ (by omega) (by show ¬ w1.heap.size=w.heap.size+1;omega)).trans Yk;obtain ⟨ra,rc,rfl⟩:=ownsRow_shape BG.oi;obtain ⟨b0,b1,b2,-⟩:=oK U0
  by_cases Vq:0<j
  · have qc:(0:Int)<j:=by omega
    have Ht:IntKind.i64.wrap ((j:Int) - 1)=(j:Int) - 1:=by rw[IntKind.wrap_i64];omega
    have Bg:=Yn (w.heap.size+1) wr (w.heap.size+1) _ _ PI (by omega) (LTS.to (S':=fun q=>W.heap.size≤q∧q<wo.heap.size) BZ (fun q hq=>⟨hq,by have:=hq.1;show ¬ q=w.heap.size+1;omega⟩) _ _ OL) (fun q hq=>⟨by have:=hq.1;omega,by have:=hq.2;omega⟩);have Cc:=Lib.hid BG;have Ju:=Lib.hid GL;clear OL hl Yn BG GL OY U0
    go_wp2_with (first
     | (go_at_call 9;refine Bg.mono ?_;rintro e w3 ⟨x,xs',rfl,hx,YT,Ld,AV⟩;have IJ:=AV.size;obtain ⟨ja,jc,la,lc,rfl⟩:=hx.eight)
     | ((with_reducible show wpList _ _ _ (⟨some 30,_,_,_,_,_⟩ :: _) _ _);(refine aP _ rfl jH _ _ rfl _ _ _ rfl ((Cc.out.fr AV (fun q hq=>by show ¬ q=w.heap.size+1;omega)).oi.alloc _) _ _ _ rfl (Src.ofSlice _ underlying31 _ _ _ _ rfl (bG _ [.int .u64 x.r0,.int .u64 x.r1,.int .u64 x.r2,.int .u64 x.r3,.string x.s,.bool x.null,.slice ja x.items.length jc,.slice la x.keys.length lc] _) (by simp[Value.oneCell'])) ?_ ?_ ?_);(unfold maxLen;omega);omega;intro v' w4 ha;obtain ⟨a',c',rfl⟩:=ha.shape))
    have BM:=(Fr.refl (fun _=>False) w3).alloc (.cells [.int .u64 x.r0,.int .u64 x.r1,.int .u64 x.r2,.int .u64 x.r3,.string x.s,.bool x.null,.slice ja x.items.length jc,.slice la x.keys.length lc].toArray 35);have EU:=(Cc.out.fr AV (fun q hq=>by show ¬ q=w.heap.size+1;omega)).fr BM (fun _ _ h=>h);have QF:=bZ.to (S':=New wr w3) BM (fun q hq=>⟨hq,fun h=>h⟩) _ _ hx;obtain ⟨h4,BU⟩:=EU.push (by simp;omega) QF (fun q hq=>⟨by have:=hq.1;omega,by have:=hq.2;simp;omega,fun e=>by have:=aO Cc.out.oi e;have:=hq.1;omega,by simp[Value.ownBlock]⟩) ha;have Vh:bT (w.heap.size+1) w4 (w.heap.size+1):=(Ld.fr BM (fun h=>h) (fun _ _ h=>h)).fr BU (by show ¬ wo.heap.size≤w.heap.size+1;omega) (fun q hq=>by show ¬ wo.heap.size≤q;omega);have WL:Fr (fun q=>q=w.heap.size+1) wo w4:=(((BZ.trans AV (fun _ _ h=>h)).trans BM (fun _ _ h=>h.elim)).mono (S':=fun q=>q=w.heap.size+1∨wo.heap.size≤q) (fun _ _ h=>.inl h)).trans BU (fun _ _ h=>.inr h) |>.mono fun q hq h=>h.elim id (fun h=>by omega)
    go_roundw
    case rel =>
     have Gs:wts (σ++[x])≤(σ++[x]).length*2500:=by
      rw[fG,length_append,length_singleton,Nat.add_mul,Nat.one_mul];have:20*5 ^ 3=2500:=rfl;have:=YT.wt;have:=Ju.out;simp only[wts];omega
     exact ⟨j - 1,σ++[x],_,_,by rw[Int.natCast_sub Vq];rfl,by simp;omega,h4,Gs,Lib.hid fun c hc=>(mem_append.1 hc).elim (Hr.out c) (fun h=>by rw[mem_singleton.1 h];exact YT.made),Vh,WL⟩
    case measure=>simp[intOf];omega
  · have bg:¬ (0:Int)<j:=by omega
    have U2:=(BZ.block _ (by omega) (by show ¬ w.heap.size=w.heap.size+1;omega)).trans OY;obtain ⟨y0,y1,y2,z0,z1,z2⟩:=oK U2;go_wp2
    refine bodyPost_ret (by simp[results,results16,go_sem,y0,y1,y2];try rfl) rfl ?_
    have FP:Fr (fun q=>q=w.heap.size) wr (((wr.setCell ⟨w.heap.size,0,none⟩ (.string (bJ T.nm))).setCell ⟨w.heap.size,1,none⟩ (.int .i64 T.sz)).setCell ⟨w.heap.size,2,none⟩ (.slice oa T.kids.length oc)):=(((Fr.refl (fun q=>q=w.heap.size) wr).setCell (.inl rfl) _).setCell (.inl rfl) _).setCell (.inl rfl) _;have DX:=FP.size;have h2:=LTS.to (S':=fun q=>W.heap.size≤q∧q<wo.heap.size) BZ (fun q hq=>⟨hq,by have:=hq.1;show ¬ q=w.heap.size+1;omega⟩) _ _ OL
    exact ⟨T,_,σ,_,_,rfl,hT,LTS.to FP (fun q hq=>⟨by have:=hq.2;omega,by have:=hq.1;show ¬ q=w.heap.size;omega⟩) _ _ h2,⟨rxs,S2,(BG.fr FP fun q hq=>by show ¬ q=w.heap.size;omega).low (by omega)⟩,GL,by omega,Hr.out,(((Aw.trans Ad fun q hq e=>by have:q=w.heap.size+1:=e;omega).trans KH fun _ _ h=>h).trans BZ fun q hq e=>by have:q=w.heap.size+1:=e;omega).trans FP fun q hq e=>by have:q=w.heap.size:=e;omega⟩
theorem aBE (w:World) (b:Nat) (a:Option Addr) (n c:Nat) (t:TypeId) (hb:w.heap[b]?=some (.cells #[.slice a n c] t (0,0))) (BF:n≤c∧c≤maxLen) (h0:a=none→n=0∧c=0) :
 Calls Tryz.prog 84 #[.pointer (some ⟨b,0,none⟩)] w fun e w'=>e=.returned (.tuple #[])∧Fr (fun q=>q=b) w w':=by
 have r0:w.cell? ⟨b,0,none⟩=some (.slice a n c):=crw hb rfl;have z0:=fzj 0 hb;obtain ⟨h1,h2⟩:=BF;unfold maxLen at h2
 cases a with
 | none =>
  obtain ⟨rfl,rfl⟩:=h0 rfl;go_enter func84,ntmps84;go_wp2;go_end0
  exact ⟨rfl,(Fr.refl (fun q=>q=b) w).setCell (.inl rfl) _⟩
 | some ad =>
  go_enter func84,ntmps84;go_wp2;go_end0
  exact ⟨rfl,(Fr.refl (fun q=>q=b) w).setCell (.inl rfl) _⟩
theorem aJZ (w:World):(zeroValue 22).run Tryz.prog w=.ok (.slice none 0 0) w:=by kernel_rfl
theorem aGj {w:World} {e:TypeId} {size:Nat} {a:Option Addr} {n c:Nat} {xs:List Value} (h:w.ownsRow 0 e size (.slice a n c) n xs):(n≤c∧c≤maxLen)∧(a=none→n=0∧c=0):=by
 rcases h.2 with ⟨hv,_⟩|⟨g,cap,cur,hv,_,_,BF,AP,_⟩
 · simp only[Value.slice.injEq] at hv
   obtain ⟨rfl,rfl,rfl⟩:=hv
   exact ⟨⟨Nat.le_refl _,Nat.zero_le _⟩,fun _=>⟨rfl,rfl⟩⟩
 · simp only[Value.slice.injEq] at hv
   obtain ⟨rfl,-,rfl⟩:=hv
   exact ⟨⟨BF,AP⟩,nofun⟩
theorem clear_any {w W:World} {S:Nat→Prop} {a:Option Addr} {n c:Nat} {xs:List Value} (h:w.ownsRow 0 22 1 (.slice a n c) n xs) (hf:Fr S w W) (hS:∀ q,(Value.slice a n c).ownBlock=some q→¬ S q) :
 ∃ W',(∀ ty,(Builtin.clear_ #[176] ty #[.slice a n c]).run Tryz.prog W=.ok (.tuple #[]) W')∧Fr (fun q=>(Value.slice a n c).ownBlock=some q) W W':=by
 have hW:=hf.owns h hS;rcases n with _|n
 · exact ⟨W,fun ty=>by cases a<;>simp[Builtin.clear_,run_underlying underlying176],Fr.refl _ _⟩
 · rcases hW.2 with ⟨hv,_⟩|⟨g,cap,cur,hv,_,hg,BF,AP,DX,_⟩
   · simp only[Value.slice.injEq] at hv;omega
   · simp only[Value.slice.injEq] at hv
     obtain ⟨rfl,_,rfl⟩:=hv
     refine ⟨_,fun ty=>Lib.run_clear_slice W _ _ ty _ underlying176 aJZ rfl rfl g 0 (n+1) c (by omega) (fun j hj=>?_) (fun j _=>fzj _ hg),?_⟩
     · rw[cell_of_row _ _ _ _ _ _ hg]
       simp;omega
     · exact Fr.setCells (S:=fun q=>(Value.slice (some ⟨g,0,none⟩) (n+1) c).ownBlock=some q) (.inl rfl) _ _ _ (Fr.refl _ W)
theorem aJi {conn:Value} {ps:Nat} {w:World} {pw b:Nat} {v vv:Value} {off:Nat} {bs:List UInt8} {es:List (Value × List UInt8)} (h:lI conn ps w pw b v vv off bs es) :
 Calls Tryz.prog 53 #[.pointer (some ⟨pw,0,none⟩)] w fun e w'=>e=.returned (.tuple #[])∧Fr (fun q=>q=pw∨q=b∨vv.ownBlock=some q) w w':=by
 obtain ⟨a0,c0,rfl⟩:=ownsRow_shape h.own;obtain ⟨a1,c1,rfl⟩:=ownsRow_shape h.vec;obtain ⟨s1,s2⟩:=aGj h.own;obtain ⟨⟨s3,s4⟩,s5⟩:=aGj h.vec;have Ag:=h.row;have Dt:=h.pb;have r0:w.cell? ⟨pw,0,none⟩=some conn:=crw Ag rfl;have r1:w.cell? ⟨pw,1,none⟩=some (.pointer (some ⟨b,0,none⟩)):=crw Ag rfl;have r2:w.cell? ⟨pw,2,none⟩=some (.int .i64 off):=crw Ag rfl;have r3:w.cell? ⟨pw,3,none⟩=some (.bool false):=crw Ag rfl;have r4:w.cell? ⟨pw,4,none⟩=some (.slice a1 es.length c1):=crw Ag rfl;have z2:=fzj 2 Ag;have z3:=fzj 3 Ag;have z4:=fzj 4 Ag;have hF:Fr (fun q=>q=pw) w ((w.setCell ⟨pw,2,none⟩ (.int .i64 0)).setCell ⟨pw,3,none⟩ (.bool false)):=((Fr.refl (fun q=>q=pw) w).setCell (.inl rfl) _).setCell (.inl rfl) _;have CO:=(hF.block b (aC h.buf) (fun e=>Dt e.symm)).trans h.buf;have V3:=aBE _ b _ _ _ _ CO s1 s2;have YB:((w.setCell ⟨pw,2,none⟩ (.int .i64 0)).setCell ⟨pw,3,none⟩ (.bool false)).cell? ⟨pw,4,none⟩=some (.slice a1 es.length c1):=by go_simp
 have VG:((w.setCell ⟨pw,2,none⟩ (.int .i64 0)).setCell ⟨pw,3,none⟩ (.bool false)).frozen? ⟨pw,4,none⟩=false:=by go_simp
 have IM:=h.vec;have UR:=h.xp;have Jv:=h.xb;have Le:∀ w1,Fr (fun q=>q=pw∨q=b) w w1→_:=fun w1 hf=>clear_any IM hf fun q hq e=>e.elim (fun e=>UR (e▸hq)) fun e=>Jv (e▸hq)
 have Zy:Fr (fun q=>q=pw∨q=b) w _:=hF.mono fun _ _ h=>.inl h
 have Wu:=Lib.hid Le;clear Ag Le IM h;go_enter func53,ntmps53
 go_wp2_with fail
 refine V3.mono ?_
 rintro e w1 ⟨rfl,Ad⟩;have q4:=Ad.aA YB Dt;have CG:=Zy.trans Ad (fun _ _ h=>.inr h);obtain ⟨w2,IV,Ae⟩:=Wu.out w1 CG;have q4':=Ae.aA q4 UR;have z4':w2.frozen? ⟨pw,4,none⟩=false:=(World.frozen?_of_block (Ae.block pw (World.block_lt_of_cell? _ _ q4) UR)).trans ((World.frozen?_of_block (Ad.block pw (World.block_lt_of_cell? _ _ YB) Dt)).trans VG);go_wp2;go_end0
 exact ⟨rfl,((CG.mono (S':=fun q=>q=pw∨q=b∨(Value.slice a1 es.length c1).ownBlock=some q) (fun _ _ h=>h.imp id .inl)).trans Ae (fun _ _ h=>.inr (.inr h))).setCell (.inl (.inl rfl)) _⟩
theorem Src.aPu {S:Nat→Prop} {w:World} {v:Value} {l:List UInt8} (h:Ent S w v l):Src Tryz.prog 1 22 v l.length (aN l) w:=by
 obtain ⟨a,c,rfl,h2,h3,h4,h5⟩:=h
 cases a with
 | none =>
  have:=h4 rfl;subst this
  exact Src.ofNil _ underlying22 c
 | some ad=>exact Src.ofSlice _ underlying22 ad _ c _ (by rw[aZ];omega) (h5 ad rfl).2.2 (oU _)
theorem aGk (w:World) (ps:Nat) (fs:Nat→Prop) (L l:List UInt8) (h:aJ w ps 111 5 1 L.length (aN L) fs) {S:Nat→Prop} {v:Value} (he:Ent S w v l) (hl:L.length+l.length≤1099511627776) :
 Calls Tryz.prog 275 #[.pointer (some ⟨ps,0,none⟩),v] w fun e w'=>e=.returned (.tuple #[.int .i64 l.length,.nilIface])∧Fr fs w w'∧∃ fs',aJ w' ps 111 5 1 (L++l).length (aN (L++l)) fs'∧Grow w fs fs':=by
 have hs:=Src.aPu he;obtain ⟨va,vc,rfl,Gl,AP,-,-⟩:=he;obtain ⟨vb,hp,Bh,Am,Aj⟩:=h;obtain ⟨a0,c0,rfl⟩:=ownsRow_shape Bh;have Ac:w.cell? ⟨ps,0,none⟩=some (.slice a0 L.length c0):=crw hp rfl;have BH:=fzj 0 hp;have AZ:=aC hp;generalize hn:l.length=n at hs hl Gl ⊢;go_enter func275,ntmps275
 go_wp2_with ((with_reducible show wpList _ _ _ (⟨some 12,_,_,_,_,_⟩ :: _) _ _);(refine aP _ rfl gY _ _ rfl _ _ _ rfl Bh _ _ _ rfl hs ?_ ?_ ?_);(unfold maxLen;omega);omega;intro v' w1 ha;obtain ⟨a',c',rfl⟩:=ha.shape;have Cj:w1.cell? ⟨ps,0,none⟩=some (.slice a0 L.length c0):=ha.2.1.cell Ac (fun h=>Am h.symm);have Ad:w1.frozen? ⟨ps,0,none⟩=false:=(World.frozen?_of_block (ha.2.1.block ps AZ (fun h=>Am h.symm))).trans BH)
 refine bodyPost_ret (by simp[results,results275,go_sem];try rfl) rfl ?_
 obtain ⟨⟨fs',Aq,hg⟩,Ak⟩:=aJ.appended hp Bh Am Aj (Fr.refl _ w) ha
 exact ⟨rfl,Ak,fs',by rw[length_append,hn,bC];exact Aq,hg⟩
abbrev zG (ps:Nat):Value:=.iface 109 (.pointer (some ⟨ps,0,none⟩))
theorem aPf (ps:Nat) (w:World):(method mdp 109 (.pointer (some ⟨ps,0,none⟩)) "Write").run Tryz.prog w=.ok (275,.pointer (some ⟨ps,0,none⟩)) w:=by kernel_rfl
theorem flush_any {ps pw:Nat} {w:World} {fw:Nat→Prop} {n:Nat} {out:List UInt8} (h:eG (zG ps) ps pw w fw n out) (hp:w.heap[ps]?=some (.cells #[.slice none 0 0] 111 (0,0))) (NJ:¬ fw ps) (KQ:out.length≤1099511627776) (hn:n≤999999999) :
 Calls Tryz.prog 41 #[.pointer (some ⟨pw,0,none⟩)] w fun e w'=>(∃ v,e=.returned v)∧Fr (fun q=>fw q∨q=ps) w w'∧∃ fs,aJ w' ps 111 5 1 out.length (aN out) fs∧Grow w (fun q=>q=ps) fs:=by
 obtain ⟨b,v,vv,off,bs,es,hw,Cb,ho,pq,Yk⟩:=h;have I4:=aHe hw (by omega) (by omega);rw[← ho] at I4;have AZ:=aC hp;have Bq:=Lib.hid hw.row;go_enter func41,ntmps41
 go_wp2_with (go_at_call 52;refine I4.mono ?_;rintro e w1 ⟨rfl,vv',es',CG,Eu,FB,Ad,UH⟩;have q4:w1.cell? ⟨pw,4,none⟩=some vv':=(by rw[cell_of_row _ _ _ _ _ _ CG.row];rfl);have q0:w1.cell? ⟨pw,0,none⟩=some (zG ps):=(by rw[cell_of_row _ _ _ _ _ _ CG.row];rfl);obtain ⟨a1,c1,rfl⟩:=ownsRow_shape CG.vec)
 have DL:w1.heap[ps]?=some (.cells #[.slice none 0 0] 111 (0,0)):=(Ad.block ps AZ (fun e=>NJ ((Cb ps).2 (e.imp id fun e=>.inr (.inr e))))).trans hp;have UI:=ownsRow_ne CG.vec DL (by decide)
 have hE:∀ e∈es',Ent (fun q=>q≠ps) w1 e.1 e.2:=fun e he=>by
  rcases CG.ent e he with h1|⟨g,hg,o,c,e1,e2,e3,e4,e5⟩
  · exact h1.mono fun q hq=>hq.1
  · exact ⟨_,c,e1,e2,e3,nofun,fun ad D9=>by cases D9;exact ⟨fun e=>CG.vs (e▸hg),rfl,fun j u hj=>by rw[Addr.add_lit];exact e5 j u hj⟩⟩
 have CW:pw≠ps:=fun e=>NJ (e▸(Cb pw).2 (.inl rfl))
 obtain ⟨⟨s3,s4⟩,s5⟩:=aGj CG.vec;unfold maxLen at s4;have lu:=Lib.hid CG;have Zw:=Lib.hid hE;clear hE Bq I4 hw
 go_loopw [2,15] (fun acc i wr=>∃ (k:Nat) (x:Int) (fsk:Nat→Prop),k≤es'.length∧acc=.int .i64 x∧i=.int .i64 k∧Fr (fun q=>q=ps) w1 wr∧aJ wr ps 111 5 1 ((es'.take k).flatMap (·.2)).length (aN ((es'.take k).flatMap (·.2))) fsk∧Grow w1 (fun q=>q=ps) fsk) (fun _ i _=>es'.length - (intOf i).toNat)
 case atStart=>exact ⟨0,0,fun q=>q=ps,Nat.zero_le _,rfl,rfl,Fr.refl _ _,⟨_,DL,World.ownsRow_nil _ _ _ _,by simp[Value.ownBlock],fun k=>by simp[Value.ownBlock]⟩,fun q hq=>.inl hq⟩
 case round =>
  obtain ⟨k,x,fsk,hk,rfl,rfl,Ak,Aq,BG⟩:=hrel
  by_cases Ar:k<es'.length
  · have Gz:(k:Int)<es'.length:=by omega
    have Nq:=Ak.owns lu.out.vec (fun q hq e=>UI (e▸hq));have VN:=(Zw.out es'[k] (getElem_mem Ar)).to Ak fun q hq=>⟨hq,hq⟩
    have BD:=Lib.hid (bQ (fun e:Value × List UInt8=>e.2) es' k Ar);have Gl:=jZ (fun e:Value × List UInt8=>e.2) es' (k+1);rw[BD.out,Eu] at Gl;rcases Nq.2 with ⟨hv,_⟩|⟨ga,capa,cura,hv,_⟩
    · simp only[Value.slice.injEq] at hv;omega
    · simp only[Value.slice.injEq] at hv
      obtain ⟨rfl,_,rfl⟩:=hv;have hx:=Nq.cells (g:=ga) rfl k es'[k].1 (by rw[getElem?_map,getElem?_eq_getElem Ar];rfl);rw[Addr.add_lit,Nat.zero_add] at hx;generalize es'[k]=ek at hx VN BD Gl;generalize (es'.take k).flatMap (fun e:Value × List UInt8=>e.2)=L at Aq BD Gl;have CY:=aGk wr ps fsk L ek.2 Aq VN (by rw[length_append] at Gl;omega);obtain ⟨ae,ce,OA,-⟩:=VN;rw[OA] at hx CY;have q0r:=Ak.aA q0 CW;have Ox:=Lib.hid CY;clear Nq CY Gl
      go_wp2_with ((with_reducible show wpList _ _ _ (⟨some 25,_,_,_,_,_⟩ :: _) _ _);refine aT _ rfl _ _ _ _ rfl _ _ rfl (aF.of1 (aPf ps wr) call275 Ox.out) rfl ?_;rintro e w2 ⟨rfl,Ae,fs2,JS,BJ⟩;refine ⟨_,rfl,?_⟩)
      go_roundw
      case rel =>
       refine ⟨k+1,_,fs2,by omega,rfl,by go_num,Ak.trans Ae fun q hq FN=>(BG q FN).elim id fun h=>absurd hq (Nat.not_lt.2 h),by rw[BD.out];exact JS,fun q hq=>?_⟩;rcases BJ q hq with h|h
       · exact BG q h
       · exact .inr (Nat.le_trans Ak.size h)
      case measure=>simp[intOf];omega
  · have Bl:es'.take k=es':=take_of_length_le (by omega)
    rw[Bl,Eu] at Aq;have Vf:b≠ps:=fun e=>NJ (e▸(Cb b).2 (.inr (.inl rfl)))
    have CY:lI (zG ps) ps wr pw b v (.slice a1 es'.length c1) bs.length bs es' :=
     { CG with
       row:=(Ak.block _ (aC CG.row) CW).trans CG.row
       buf:=(Ak.block _ (aC CG.buf) Vf).trans CG.buf
       own:=Ak.owns CG.own fun q hq e=>CG.vs (e▸hq)
       vec:=Ak.owns CG.vec fun q hq e=>UI (e▸hq)
       sl:=Nat.lt_of_lt_of_le CG.sl Ak.size
       ent:=fun e he=>(CG.ent e he).imp (fun h1=>h1.to Ak fun _ ⟨b1,b2,b3⟩=>⟨⟨b1,Nat.lt_of_lt_of_le b2 Ak.size,b3⟩,b1⟩) fun ⟨g,hg,o,c,e1,e2,e3,e4,e5⟩=>⟨g,hg,o,c,e1,e2,e3,e4,fun j u hj=>Ak.aA (e5 j u hj) (fun e=>CG.vs (e▸hg))⟩}
    have V3:=aJi CY;have X7:=Lib.hid V3;clear V3 CY
    go_wp2_with (go_at_call 53;refine X7.out.mono ?_;rintro e w2 ⟨rfl,Ae⟩)
    refine bodyPost_ret (by simp[results,results41,go_sem];try rfl) rfl ?_
    have FO:=fun q hq=>aO CG.vec (k:=q) hq
    have Us:=aC CG.row;have ZM:=aC CG.buf
    refine ⟨⟨_,rfl⟩,((Ad.mono (S':=fun q=>fw q∨q=ps) fun q _ e=>.inl ((Cb q).2 (e.imp id fun e=>.inr (.inr e)))).trans Ak fun _ _ e=>.inr e).trans Ae (fun q hq e=>?_),fsk,Aq.aW fun q hq=>Ae.block q (aJ.lt Aq q hq) fun e=>?_,fun q hq=>(BG q hq).imp id (Nat.le_trans Ad.size)⟩
    · rcases e with e|e|e
      · exact .inl ((Cb q).2 (.inl e))
      · exact .inl ((Cb q).2 (.inr (.inl e)))
      · rcases UH q e with e|e
        · exact .inl ((Cb q).2 (.inr (.inr (.inr e))))
        · omega
    · rcases BG q hq with h|h
      · subst h
        exact e.elim (fun e=>CW e.symm) fun e=>e.elim (fun e=>Vf e.symm) UI
      · rcases e with e|e|e
        · omega
        · omega
        · have:=FO q e;omega
theorem aAA (w:World) (ps b:Nat):Calls Tryz.prog 40 #[zG ps,.pointer (some ⟨b,0,none⟩)] w fun e w'=>∃ pw vv,e=.returned (.pointer (some ⟨pw,0,none⟩))∧w.heap.size≤pw∧w'.heap[pw]?=some (.cells #[zG ps,.pointer (some ⟨b,0,none⟩),.int .i64 0,.bool false,vv] 178 (0,0)) ∧
 w'.ownsRow 0 22 1 vv 0 []∧(∀ q,vv.ownBlock=some q→w.heap.size≤q∧q≠pw)∧F0 w w':=by
 obtain ⟨i,hi,hz,DX,Iy⟩:=qE.info;go_enter func40,ntmps40
 go_wp2_with ((with_reducible show wpList _ _ _ (⟨some 8,_,_,_,_,_⟩ :: _) _ _);refine wpList_make_own w rfl _ _ _ rfl 0 _ i _ 1 qE.ht hi hz DX _ _ _ 16 rfl rfl rfl (by rw[Iy];decide) (by decide) (Nat.zero_le _) ?_;intro w1 ho ET)
 refine bodyPost_ret (by simp[results,results40,go_sem];try rfl) rfl ?_
 have Ad:F0 w w1:=(Fr.gX ET).mono fun q _ h=>by cases h
 have h0:w.heap.size<w1.heap.size:=aO ho rfl
 exact ⟨_,_,rfl,Ad.size,heap_alloc_new w1 _,((Fr.refl (fun _=>False) w1).alloc _).owns ho (fun _ _ h=>h),fun q hq=>by simp only[Value.ownBlock,Option.some.injEq] at hq;omega,Ad.alloc _⟩
theorem eG.new {w:World} {ps pw b:Nat} {v vv:Value} (row:w.heap[pw]?=some (.cells #[zG ps,.pointer (some ⟨b,0,none⟩),.int .i64 0,.bool false,vv] 178 (0,0))) (buf:w.heap[b]?=some (.cells #[v] 114 (0,0))) (own:w.ownsRow 0 5 1 v 0 []) (vec:w.ownsRow 0 22 1 vv 0 [])
 (N:Nat) (hb:ps<b∧b<N∧N≤pw) (hv:∀ q,v.ownBlock=some q→ps<q∧q<N∧q≠b) (Ot:∀ q,vv.ownBlock=some q→N≤q∧q≠pw):eG (zG ps) ps pw w (fun k=>k=pw∨k=b∨v.ownBlock=some k∨vv.ownBlock=some k) 0 [] :=
 ⟨b,v,vv,0,[],[],{ row,buf,own,vec,le:=Nat.le_refl _,pb:=by omega,vp:=fun e=>by have:=hv _ e;omega,vb:=fun e=>by have:=hv _ e;omega,vs:=fun e=>by have:=hv _ e;omega,xp:=fun e=>(Ot _ e).2 rfl,xb:=fun e=>by have:=Ot _ e;omega,vx:=fun q h1 h2=>by have:=hv _ h1;have:=Ot _ h2;omega,sl:=by have:=aC row;omega,ent:=by simp},fun _=>Iff.rfl,rfl,Nat.le_refl _,Nat.le_refl _⟩
theorem aEs {B:Nat} {t:TypeId} {u:Value} {T:Ty} {st:List UInt8} {R Rp:World→(Nat→Prop)→List Cell→Prop} (cs:pW Tryz.prog B t u T st R Rp) (w:World) (fp:Nat→Prop) (σ:List Cell) (hR:Rp w fp σ) (hw:Wt T σ≤2147483648) (hl:(enc T σ).length≤1099511627776) (hp:pcs T≤999999999) :
 Calls Tryz.prog 28 #[.iface t u,.slice none 0 0] w fun e w'=>∃ v,e=.returned v∧Bytes w' v (enc T σ)∧F0 w w':=by
 have AC:=fun k hk=>(cs.lo' hR k hk).2
 go_enter func28,ntmps28
 go_wp2_with fail
 obtain ⟨W,hW⟩:∃ W,W=(w.alloc (.cells #[.slice none 0 0] 111)).alloc (.cells #[.slice none 0 0] 114):=⟨_,rfl⟩;rw[← hW];have Aw:F0 w W:=by rw[hW];exact ((Fr.refl _ w).alloc _).alloc _
 have NJ:W.heap[w.heap.size]?=some (.cells #[.slice none 0 0] 111 (0,0)):=by rw[hW,Below.heap_alloc _ _ _ (by simp)];exact heap_alloc_new w _
 have Dt:W.heap[w.heap.size+1]?=some (.cells #[.slice none 0 0] 114 (0,0)):=by
  have h:=heap_alloc_new (w.alloc (.cells #[.slice none 0 0] 111)) (.cells #[.slice none 0 0] 114);rw[hW]
  simpa using h
 have La:W.heap.size=w.heap.size+2:=by rw[hW];simp
 have hb:Buf W (w.heap.size+1) (fun k=>k=w.heap.size+1) []:=⟨_,Dt,World.ownsRow_nil _ _ _ _,by simp[Value.ownBlock],fun k=>by simp[Value.ownBlock]⟩;clear hW
 refine (mG W _ _ [] [] hb (.slice none 0 0) 0 rfl ⟨_,_,rfl⟩ (Src.ofNil _ underlying22 0) (by decide)).mono ?_
 rintro e w1 ⟨rfl,Ad,fb1,⟨v,Uo,Bh,Em,CJ⟩,ET,-⟩;have BN:=Ad.size;have UH:∀ k,v.ownBlock=some k→W.heap.size≤k∧k<w1.heap.size:=fun k hk=>⟨(ET k ((CJ k).2 (.inr hk))).elim (fun e=>absurd (e▸hk) Em) id,aO Bh hk⟩
 have CX:F0 w w1:=Aw.trans Ad fun q hq e=>by omega
 have Uu:=(Ad.block _ (aC NJ) (by omega)).trans NJ
 go_wp2_with fail
 refine (aAA w1 _ _).mono ?_
 rintro e w2 ⟨pw,vv,rfl,CW,YG,JZ,Ot,Ae⟩;have AL:=eG.new (ps:=w.heap.size) YG ((Ae.block _ (aC Uo) (fun h=>h)).trans Uo) (Ae.owns Bh (fun _ _ h=>h)) JZ w1.heap.size (by omega) (fun q hq=>⟨by have:=UH q hq;omega,(UH q hq).2,fun e=>Em (e▸hq)⟩) Ot;have Dl:=CX.trans Ae fun _ _ h=>h
 have Oh:=(Ae.block _ (aC Uu) (fun h=>h)).trans Uu;obtain ⟨fw,Cb⟩:∃ fw:Nat→Prop,fw=fun k=>k=pw∨k=w.heap.size+1∨v.ownBlock=some k∨vv.ownBlock=some k:=⟨_,rfl⟩
 rw[← Cb] at AL
 have I7:∀ k,fw k→w.heap.size<k:=fun k hk=>by
  rw[Cb] at hk;rcases hk with h|h|h|h
  · omega
  · omega
  · have:=UH k h;omega
  · have:=Ot k h;omega
 clear Cb;have CY:=cs.write (cs.frame' (w':=w2) hR fun k hk=>Dl.block k (AC k hk) (fun h=>h)) hw AL (fun k hk=>⟨fun h=>by have:=I7 k h;have:=AC k hk;omega,by have:=AC k hk;omega⟩) (by simpa using hl) (by omega);have Ox:=Lib.hid CY;clear CY AL YG JZ Ot Bh
 go_wp2_with ((with_reducible show wpList _ _ _ (⟨some 21,_,_,_,_,_⟩ :: _) _ _);refine aT _ rfl _ _ _ _ rfl _ _ rfl Ox.out rfl ?_;rintro e w3 ⟨rfl,AV,fw',KD,EU⟩;refine ⟨_,rfl,?_⟩)
 have X3:=(AV.block _ (aC Oh) (fun h=>Nat.lt_irrefl _ (I7 _ h))).trans Oh;have EW:=Ae.size;have Rh:¬ fw' w.heap.size:=fun h=>(EU _ h).elim (fun h=>Nat.lt_irrefl _ (I7 _ h)) fun h=>by omega
 rw[nil_append] at KD
 refine (flush_any KD X3 Rh hl (by omega)).mono ?_
 rintro e w4 ⟨⟨vf,rfl⟩,BU,fs,⟨vs,Vy,Y5,qg,FN⟩,EZ⟩;have Vh:w4.cell? ⟨w.heap.size,0,none⟩=some vs:=crw Vy rfl;obtain ⟨a4,c4,rfl⟩:=ownsRow_shape Y5;clear Ox;go_wp2
 refine bodyPost_ret (by simp[results,results28,go_sem];try rfl) rfl ?_
 exact ⟨_,rfl,Y5,(Dl.trans AV fun q hq e=>by have:=I7 q e;omega).trans BU fun q hq e=>e.elim (fun e=>(EU q e).elim (fun e=>by have:=I7 q e;omega) fun e=>by have:=Dl.size;omega) fun e=>by omega⟩
theorem aEt (T:Ty) (st:List UInt8) (txt:ByteArray)
 (w:World) (Jt:∀ w',Below w.heap.size w w'→Calls Tryz.prog 23 #[.string txt] w' (dH T st w')) (σ:List Cell) (rv:Value) (xs:List Value) (hs:Sl w.heap.size w 8 rv σ.length xs) (hc:aI w.heap.size w σ xs) (Ur:pcs T≤999999999) (hw:Wt T σ≤2147483648) (hl:(enc T σ).length≤1099511627776) :
 Calls Tryz.prog 17 #[.string txt,rv] w fun e w'=>∃ v2,e=.returned (.tuple #[v2,.bool true])∧Bytes w' v2 (enc T σ)∧Below w.heap.size w w':=by
 have CB:=hs;obtain ⟨Dy,ao,cap,rfl,BF,AP,h0,ha⟩:=hs;unfold maxLen at AP;clear ha h0 Dy
 go_enter_defers func17,ntmps17
 go_wp2_with (go_at_call 23;refine (Jt _ ((Below.refl _ w).alloc (Nat.le_refl _) _)).mono ?_;rintro e w1 ⟨t,u,R,Rp,fp,rfl,cs,hR,hb⟩;have cs0:=cs;have cs:=cs.toColSpec)
 simp only[World.size_alloc] at hb cs cs0;have JR:Below w.heap.size w w1:=((Below.refl _ w).alloc (Nat.le_refl _) _).trans (hb.mono (by omega))
 go_loopw [15] (fun i wr=>∃ (k:Nat) (fpk:Nat→Prop),k≤σ.length∧i=.int .i64 k∧R wr fpk (σ.take k)∧Below (w.heap.size+1) w1 wr) (fun i _=>σ.length - (intOf i).toNat)
 case atStart=>exact ⟨0,fp,Nat.zero_le _,rfl,by simpa using hR,Below.refl _ _⟩
 case round =>
  obtain ⟨k,fpk,hk,rfl,Dn,Dz⟩:=hrel;have Bf:Below w.heap.size w wr:=JR.trans (Dz.mono (by omega));have Nl:w.heap.size+1≤wr.heap.size:=by have:=Dz.size;have:=hb.size;simp at this;omega
  by_cases Ar:k<σ.length
  · obtain ⟨b,off,cap',hv,FT,vs,AQ,Ac⟩:=(CB.below Bf).row (aI.below Bf _ _ hc) Ar
    obtain ⟨r0,r1,r2,r3,s,null,ia,il,ic,ka,kl,kc,rfl⟩:=AQ.spelled;simp only[Value.slice.injEq] at hv;obtain ⟨rfl,_,rfl⟩:=hv;have c0:=Ac 0 _ rfl;have c1:=Ac 1 _ rfl;have c2:=Ac 2 _ rfl;have c3:=Ac 3 _ rfl;have c4:=Ac 4 _ rfl;have c5:=Ac 5 _ rfl;have c6:=Ac 6 _ rfl;have c7:=Ac 7 _ rfl;simp only[Nat.add_zero] at c0;clear Ac;have DX:wr.heap.size<(wr.alloc (.cells #[.int .u64 r0,.int .u64 r1,.int .u64 r2,.int .u64 r3,.string s,.bool null,.slice ia il ic,.slice ka kl kc] 35)).heap.size:=by simp
    have Sm:Below (w.heap.size+1) w1 (wr.alloc (.cells #[.int .u64 r0,.int .u64 r1,.int .u64 r2,.int .u64 r3,.string s,.bool null,.slice ia il ic,.slice ka kl kc] 35)):=Dz.alloc Nl _;have Ls:=cs.frame (w':=wr.alloc (.cells #[.int .u64 r0,.int .u64 r1,.int .u64 r2,.int .u64 r3,.string s,.bool null,.slice ia il ic,.slice ka kl kc] 35)) Dn (fun q hq=>Below.heap_alloc _ _ _ (cs.lo Dn q hq).2);have Pj:=(bP.below (B:=w.heap.size) (w':=wr.alloc (.cells #[.int .u64 r0,.int .u64 r1,.int .u64 r2,.int .u64 r3,.string s,.bool null,.slice ia il ic,.slice ka kl kc] 35)) ((Below.refl _ wr).alloc (by omega) _) _ _ AQ).mono (B':=w.heap.size+1) (by omega);have hi:=cs.append Ls Pj (Nat.le_trans (by rw[← take_succ_eq_append_getElem Ar];exact iV _ _) hw);have AC:=fun q hq=>(cs.lo Ls q hq).1
    clear Ls Pj AQ
    go_wp2_with ((with_reducible show wpList _ _ _ (⟨some 21,_,_,_,_,_⟩ :: _) _ _);refine aT _ rfl _ _ _ _ rfl _ _ rfl hi rfl ?_;rintro e w2 ⟨rfl,Ak,fp2,Ew,BJ⟩;refine ⟨_,rfl,?_⟩)
    go_roundw
    case rel=>exact ⟨k+1,fp2,by omega,by go_num,by rw[take_succ_eq_append_getElem Ar];exact Ew,Sm.trans (Ak.below (by omega) (fun q hq Tz=>by have:=AC q Tz;omega))⟩
    case measure=>simp[intOf];omega
  · have Bl:σ.take k=σ:=take_of_length_le (by omega)
    rw[Bl] at Dn;have Kt:=aBl cs wr fpk σ Dn
    have GN:wr.cell? ⟨w.heap.size,0,none⟩=some (.bool false):=by
     rw[(hb.trans Dz).cell (p:=⟨w.heap.size,0,none⟩) (by simp)];simp
    have LY:wr.frozen? ⟨w.heap.size,0,none⟩=false:=by
     rw[(hb.trans Dz).frozen (p:=⟨w.heap.size,0,none⟩) (by simp)];simp
    have AC:=fun q hq=>cs.lo Dn q hq
    clear CB hc
    go_wp2_with (first
     | (go_at_call 27;refine Kt.mono ?_;rintro e w2 ⟨rfl,BZ,fp2,Ew,BJ⟩;have CY:=Lib.hid (aEs cs0 w2 fp2 σ Ew hw hl Ur);have Bj:Below (w.heap.size+1) wr w2:=BZ.below Nl (fun q hq h=>by have:=(AC q h).1;omega))
     | (go_at_call 28;refine CY.out.mono ?_;rintro e w3 ⟨v2,rfl,JM,AV⟩;have EY:Below (w.heap.size+1) wr w3:=Bj.trans (AV.below (Nat.le_trans Nl Bj.size) (fun _ _ h=>h));have SG:=(EY.cell (p:=⟨w.heap.size,0,none⟩) (by simp)).trans GN;have DC:=(EY.frozen (p:=⟨w.heap.size,0,none⟩) (by simp)).trans LY))
    have LC:=World.cell?_setCell_same w3 ⟨w.heap.size,0,none⟩ (.bool true) SG
    refine leaves_cons (f:=22) (args:=#[.pointer (some ⟨w.heap.size,0,none⟩)]) (by simp) (by simp[go_sem]) ?_
    refine (mY ⟨w.heap.size,0,none⟩ _).mono ?_
    rintro e u' w'' ⟨rfl,rfl,rfl⟩;have D8:Below w.heap.size w (w3.setCell ⟨w.heap.size,0,none⟩ (.bool true)):=((JR.trans (Dz.mono (by omega))).trans (EY.mono (by omega))).setCell (by simp) _
    have hq:w3.heap[w.heap.size]?=some (.cells #[.bool false] 4 (0,0)):=by
     rw[EY.block _ (by omega),Dz.block _ (by omega),hb.block _ (by omega)]
     exact heap_alloc_new _ _
    have Np:=JM.setCell hq (by decide) (.bool true);simp[Leaves,settle,results,results17,go_sem,LC]
    exact ⟨Np,D8⟩
theorem aGh {B:Nat} {t:TypeId} {u:Value} {T:Ty} {st:List UInt8} {R Rp:World→(Nat→Prop)→List Cell→Prop} (cs:pW Tryz.prog B t u T st R Rp) (w:World) (fp:Nat→Prop) (σ:List Cell) (hR:R w fp σ) (hw:Wt T σ≤2147483648) (hm:∀ c∈σ,Made T c) (hn:σ.length≤1000000) :
 Calls Tryz.prog 29 #[.iface t u] w fun e w'=>∃ v,e=.returned v∧F0 w w'∧∃ xs S,bU w.heap.size w' v (.slice none 0 0) σ [] xs [] S:=by
 have AC:=fun k hk=>(cs.lo hR k hk).2
 have Ag:=fun W (hf:F0 w W) k (hk:k<σ.length)=>cs.row hk (cs.frame (w':=W) hR fun q hq=>hf.block q (AC q hq) (fun h=>h)) hw
 have EJ:=fun W (hf:F0 w W)=>cs.rows (cs.frame (w':=W) hR fun q hq=>hf.block q (AC q hq) (fun h=>h))
 have Bq:=Lib.hid Ag;have Qv:=Lib.hid EJ;clear Ag EJ;go_enter func29,ntmps29;go_wp2
 go_loopw [3,4] (fun tv i wr=>∃ (k:Nat) (xs:List Value) (S:Nat→Prop),k≤σ.length∧i=.int .i64 k∧bU w.heap.size wr tv (.slice none 0 0) (σ.take k) [] xs [] S∧F0 w wr) (fun _ i _=>σ.length - (intOf i).toNat)
 case atStart=>exact ⟨0,[],_,Nat.zero_le _,rfl,bU.nil _ _,Fr.refl _ _⟩
 case round =>
  obtain ⟨k,xs,S,hk,rfl,BG,Ak⟩:=hrel;obtain ⟨τ,hτ⟩:∃ τ,Hid (τ=σ.take k):=⟨_,Lib.hid rfl⟩;rw[← hτ.out] at BG;have Ir:Hid (τ.length≤k):=Lib.hid (by rw[hτ.out,length_take];omega);obtain ⟨ta,tc,rfl⟩:=ownsRow_shape BG.oi;have hr:=Qv.out wr Ak
  by_cases Ar:k<σ.length
  · have Gz:(k:Int)<σ.length:=by omega
    have BD:=Lib.hid (take_succ_eq_append_getElem Ar);have G7:=Lib.hid (hm σ[k] (getElem_mem Ar));have Cc:=Lib.hid BG;have hi:=Lib.hid fun w2 Ae=>Bq.out w2 (Ak.trans (S':=fun _=>False) Ae fun _ _ h=>h) k Ar
    generalize σ[k]=ck at BD G7 hi;have Sr:τ.length+1≤2147483648:=by have:=Ir.out;omega
    clear BG
    go_wp2_with (first
     | ((with_reducible show wpList _ _ _ (⟨some 7,_,_,_,_,_⟩ :: _) _ _);refine aT _ rfl _ _ _ _ rfl _ _ rfl hr rfl ?_;rintro e0 w2 ⟨rfl,Ae⟩;refine ⟨_,rfl,?_⟩)
     | ((with_reducible show wpList _ _ _ (⟨some 14,_,_,_,_,_⟩ :: _) _ _);refine aT _ rfl _ _ _ _ rfl _ _ rfl (hi.out w2 Ae) rfl ?_;rintro e1 w3 ⟨x,xs',rfl,AV,hx,E8⟩;obtain ⟨ia,ic,ka,kc,ixs,kxs,rfl,-⟩:=(id hx).full;refine ⟨_,rfl,?_⟩)
     | ((with_reducible show wpList _ _ _ (⟨some 16,_,_,_,_,_⟩ :: _) _ _);(refine aP _ rfl jH _ _ rfl _ _ _ rfl ((Cc.out.fr (Ae.trans (S':=fun _=>False) AV (fun _ _ h=>h)) (fun _ _ h=>h)).oi.alloc _) _ _ _ rfl (Src.ofSlice _ underlying31 _ _ _ _ rfl (bG _ [.int .u64 x.r0,.int .u64 x.r1,.int .u64 x.r2,.int .u64 x.r3,.string x.s,.bool x.null,.slice ia x.items.length ic,.slice ka x.keys.length kc] _) (by simp[Value.oneCell'])) ?_ ?_ ?_);(unfold maxLen;omega);omega;intro v' w4 ha;obtain ⟨a',c',rfl⟩:=ha.shape))
    go_roundw
    case rel =>
     have LV:=Ae.trans (S':=fun _=>False) AV (fun _ _ h=>h);obtain ⟨⟨S',EZ⟩,BU⟩:=bU.row Ak Cc.out LV (hx.mono fun q hq=>⟨Nat.le_trans Ae.size hq.1,hq.2⟩) ha;have e:τ++[x]=σ.take (k+1):=by rw[hτ.out,E8 G7.out,← BD.out]
     rw[e] at EZ
     exact ⟨k+1,_,S',Ar,by go_num,EZ,BU⟩
    case measure=>simp[intOf];omega
  · have Gz:¬ (k:Int)<σ.length:=by omega
    go_wp2_with ((with_reducible show wpList _ _ _ (⟨some 7,_,_,_,_,_⟩ :: _) _ _);refine aT _ rfl _ _ _ _ rfl _ _ rfl hr rfl ?_;rintro e0 w2 ⟨rfl,Ae⟩;refine ⟨_,rfl,?_⟩)
    go_ret;have e:=hτ.out;rw[take_of_length_le (by omega)] at e;subst e
    exact ⟨_,rfl,Ak.trans Ae (fun _ _ h=>h),xs,S,BG.fr Ae (fun _ _ h=>h)⟩
theorem aHJ (T:Ty) (st:List UInt8) (txt:ByteArray)
 (w:World) (Jt:∀ w',Below w.heap.size w w'→Calls Tryz.prog 23 #[.string txt] w' (dH T st w')) (σ:List Cell) (rv:Value) (xs:List Value) (hs:Sl w.heap.size w 8 rv σ.length xs) (hc:aI w.heap.size w σ xs) (hm:∀ c∈σ,Made T c) (hn:σ.length≤1000000) (hw:Wt T σ≤2147483648) :
 Calls Tryz.prog 18 #[.string txt,rv] w fun e w'=>∃ v,e=.returned (.tuple #[.int .i64 σ.length,v,.bool true])∧Below w.heap.size w w'∧∃ xs S,bU w.heap.size w' v (.slice none 0 0) σ [] xs [] S:=by
 have CB:=hs;obtain ⟨Dy,ao,cap,rfl,BF,AP,h0,ha⟩:=hs;unfold maxLen at AP;clear ha h0 Dy
 go_enter_defers func18,ntmps18
 go_wp2_with (go_at_call 23;refine (Jt _ ((Below.refl _ w).alloc (Nat.le_refl _) _)).mono ?_;rintro e w1 ⟨t,u,R,Rp,fp,rfl,cs,hR,hb⟩;have cs0:=cs;have cs:=cs.toColSpec)
 simp only[World.size_alloc] at hb cs cs0;have JR:Below w.heap.size w w1:=((Below.refl _ w).alloc (Nat.le_refl _) _).trans (hb.mono (by omega))
 go_loopw [16] (fun i wr=>∃ (k:Nat) (fpk:Nat→Prop),k≤σ.length∧i=.int .i64 k∧R wr fpk (σ.take k)∧Below (w.heap.size+1) w1 wr) (fun i _=>σ.length - (intOf i).toNat)
 case atStart=>exact ⟨0,fp,Nat.zero_le _,rfl,by simpa using hR,Below.refl _ _⟩
 case round =>
  obtain ⟨k,fpk,hk,rfl,Dn,Dz⟩:=hrel;have Bf:Below w.heap.size w wr:=JR.trans (Dz.mono (by omega));have Nl:w.heap.size+1≤wr.heap.size:=by have:=Dz.size;have:=hb.size;simp at this;omega
  by_cases Ar:k<σ.length
  · obtain ⟨b,off,cap',hv,FT,vs,AQ,Ac⟩:=(CB.below Bf).row (aI.below Bf _ _ hc) Ar
    obtain ⟨r0,r1,r2,r3,s,null,ia,il,ic,ka,kl,kc,rfl⟩:=AQ.spelled;simp only[Value.slice.injEq] at hv;obtain ⟨rfl,_,rfl⟩:=hv;have c0:=Ac 0 _ rfl;have c1:=Ac 1 _ rfl;have c2:=Ac 2 _ rfl;have c3:=Ac 3 _ rfl;have c4:=Ac 4 _ rfl;have c5:=Ac 5 _ rfl;have c6:=Ac 6 _ rfl;have c7:=Ac 7 _ rfl;simp only[Nat.add_zero] at c0;clear Ac;have DX:wr.heap.size<(wr.alloc (.cells #[.int .u64 r0,.int .u64 r1,.int .u64 r2,.int .u64 r3,.string s,.bool null,.slice ia il ic,.slice ka kl kc] 35)).heap.size:=by simp
    have Sm:Below (w.heap.size+1) w1 (wr.alloc (.cells #[.int .u64 r0,.int .u64 r1,.int .u64 r2,.int .u64 r3,.string s,.bool null,.slice ia il ic,.slice ka kl kc] 35)):=Dz.alloc Nl _;have Ls:=cs.frame (w':=wr.alloc (.cells #[.int .u64 r0,.int .u64 r1,.int .u64 r2,.int .u64 r3,.string s,.bool null,.slice ia il ic,.slice ka kl kc] 35)) Dn (fun q hq=>Below.heap_alloc _ _ _ (cs.lo Dn q hq).2);have Pj:=(bP.below (B:=w.heap.size) (w':=wr.alloc (.cells #[.int .u64 r0,.int .u64 r1,.int .u64 r2,.int .u64 r3,.string s,.bool null,.slice ia il ic,.slice ka kl kc] 35)) ((Below.refl _ wr).alloc (by omega) _) _ _ AQ).mono (B':=w.heap.size+1) (by omega);have hi:=cs.append Ls Pj (Nat.le_trans (by rw[← take_succ_eq_append_getElem Ar];exact iV _ _) hw);have AC:=fun q hq=>(cs.lo Ls q hq).1
    clear Ls Pj AQ
    go_wp2_with ((with_reducible show wpList _ _ _ (⟨some 22,_,_,_,_,_⟩ :: _) _ _);refine aT _ rfl _ _ _ _ rfl _ _ rfl hi rfl ?_;rintro e w2 ⟨rfl,Ak,fp2,Ew,BJ⟩;refine ⟨_,rfl,?_⟩)
    go_roundw
    case rel=>exact ⟨k+1,fp2,by omega,by go_num,by rw[take_succ_eq_append_getElem Ar];exact Ew,Sm.trans (Ak.below (by omega) (fun q hq Tz=>by have:=AC q Tz;omega))⟩
    case measure=>simp[intOf];omega
  · have Bl:σ.take k=σ:=take_of_length_le (by omega)
    rw[Bl] at Dn
    have GN:wr.cell? ⟨w.heap.size,0,none⟩=some (.bool false):=by
     rw[(hb.trans Dz).cell (p:=⟨w.heap.size,0,none⟩) (by simp)];simp
    have LY:wr.frozen? ⟨w.heap.size,0,none⟩=false:=by
     rw[(hb.trans Dz).frozen (p:=⟨w.heap.size,0,none⟩) (by simp)];simp
    have AC:=fun q hq=>cs.lo Dn q hq
    have Gz:¬ (k:Int)<σ.length:=by omega
    have CY:=Lib.hid fun W hf=>aGh cs0 W fpk σ (cs.frame Dn fun q hq=>Fr.block (S:=fun _=>False) hf q (AC q hq).2 (fun h=>h)) hw hm hn
    have ji:=Lib.hid fun W hf=>cs.rows (cs.frame (w':=W) Dn fun q hq=>Fr.block (S:=fun _=>False) hf q (AC q hq).2 (fun h=>h))
    clear CB hc hm hn
    go_wp2_with (first
     | ((with_reducible show wpList _ _ _ (⟨some 25,_,_,_,_,_⟩ :: _) _ _);refine aT _ rfl _ _ _ _ rfl _ _ rfl (ji.out wr (Fr.refl _ _)) rfl ?_;rintro e w2 ⟨rfl,Ae⟩;refine ⟨_,rfl,?_⟩)
     | (go_at_call 29;refine (CY.out w2 Ae).mono ?_;rintro e w3 ⟨v2,rfl,AV,gxs,S,BG⟩;have LV:=Ae.trans (S':=fun _=>False) AV (fun _ _ h=>h);have EY:Below (w.heap.size+1) wr w3:=LV.below Nl (fun _ _ h=>h);have SG:=(EY.cell (p:=⟨w.heap.size,0,none⟩) (by simp)).trans GN;have DC:=(EY.frozen (p:=⟨w.heap.size,0,none⟩) (by simp)).trans LY))
    have LC:=World.cell?_setCell_same w3 ⟨w.heap.size,0,none⟩ (.bool true) SG
    refine leaves_cons (f:=22) (args:=#[.pointer (some ⟨w.heap.size,0,none⟩)]) (by simp) (by simp[go_sem]) ?_
    refine (mY ⟨w.heap.size,0,none⟩ _).mono ?_
    rintro e u' w'' ⟨rfl,rfl,rfl⟩;have D8:Below w.heap.size w (w3.setCell ⟨w.heap.size,0,none⟩ (.bool true)):=((JR.trans (Dz.mono (by omega))).trans (EY.mono (by omega))).setCell (by simp) _;have dw:w.heap.size<w2.heap.size:=Nat.lt_of_lt_of_le Nl Ae.size;have hg:=(BG.fr ((Fr.refl (fun q=>q=w.heap.size) w3).setCell (p:=⟨w.heap.size,0,none⟩) (.inl rfl) (.bool true)) fun q hq e=>by omega).low (lo':=w.heap.size) (by omega);simp[Leaves,settle,results,results18,go_sem,LC]
    exact ⟨D8,gxs,S,hg⟩
theorem aDN:∀ (ts:List Ty) (n:Nat),(∀ t∈ts,pcs t≤n)→oJ ts≤ts.length*n
 | [],n,_=>by rw[oJ];omega
 | t :: ts,n,h=>by
  have h1:=h t (by simp);have h2:=aDN ts n fun x hx=>h x (by simp[hx])
  rw[oJ,length_cons,Nat.add_mul,Nat.one_mul];omega
theorem yY {T:Ty} (h:T.dU∨(∃ t,T=.nul t∧t.dU)∨T=.low):pcs T≤4:=by
 have hl:∀ {t:Ty},t.dU→pcs t=2:=fun {t} ht=>by cases t<;>first|rfl|exact ht.elim
 rcases h with h|⟨t,rfl,h⟩|rfl
 · rw[hl h];omega
 · rw[pcs,hl h];omega
 · rw[pcs];omega
theorem aCm:∀ (d:Nat) (T:Ty),Ok d T→pcs T≤6*5 ^ d
 | 0,T,h=>by have:=yY h;omega
 | d+1,T,h=>by
  have hp:1≤5 ^ d:=Nat.one_le_pow _ _ (by decide);rw[Nat.pow_succ];rcases h with h|⟨t,rfl,h⟩|⟨k,v,rfl,hk,h⟩|⟨ts,rfl,h1,h2,h⟩
  · have:=yY h;omega
  · have:=aCm d t h;rw[pcs];omega
  · have:=aCm d v h;have:=yY (T:=k) (hk.elim .inl fun h=>.inr (.inr h));rw[pcs];omega
  · have h3:=aDN ts (6*5 ^ d) fun t ht=>aCm d t (h t ht)
    have h4:ts.length*(6*5 ^ d)≤4*(6*5 ^ d):=Nat.mul_le_mul_right _ h2;rw[pcs];omega
set_option linter.unusedSimpArgs false in
theorem aEr (w:World) (Dk:Tabs w) (cv:Value) (cn:Nat) (Bc:xE w.heap.size w cv cn) (m:Nat) (hm:m<256) :
 Calls Tryz.prog 7 #[cv,.int .u8 m] w fun e w'=>e=.returned (.bool true)∧F0 w w':=by
 have MO:=fun (W:World) (hf:F0 w W)=>aFD W cv cn (by
  obtain ⟨a,c,h1,h2,h3,h4,h5⟩:=Bc
  exact ⟨a,c,h1,h2,h3,h4,fun ad D9=>by
   obtain ⟨h6,h7,h8⟩:=h5 ad D9
   exact ⟨Nat.lt_of_lt_of_le h6 hf.size,h7,fun j hj=>by obtain ⟨b,hb⟩:=h8 j hj;exact ⟨b,hf.aA hb (fun h=>h)⟩⟩⟩) (m % 20) (Nat.mod_lt _ (by omega))
 obtain ⟨ca,cc,rfl,Wv,AP,-,-⟩:=Bc;unfold maxLen at AP;rw[show ((m % 20:Nat):Int)=(m:Int) % 20 by omega] at MO;have Vu:=Lib.hid MO;clear MO
 by_cases ZL:2147483647<cn
 · have Ei:(2147483647:Int)<cn:=by omega
   go_enter func7,ntmps7;go_wp2;go_ret
   exact ⟨rfl,Fr.refl _ _⟩
 · have Ei:¬ (2147483647:Int)<cn:=by omega
   have Qo:(0:Int)≤(m:Int) % 20∧(m:Int) % 20<20:=by omega
   go_enter func7,ntmps7
   go_wp2_with fail
   refine (Vu.out w (Fr.refl _ _)).mono ?_
   rintro e wq ⟨T,vs,σ,v,z,rfl,RG,hl,⟨rxs,S,BG⟩,GL,jk,E8,Ez⟩;obtain ⟨oa,oc,rfl⟩:=hl.three;obtain ⟨ra,rc,rfl⟩:=ownsRow_shape BG.oi;have U9:Tabs wq:=Dk.below (Ez.below (Nat.le_refl _) (fun _ _ h=>h));have hwσ:wts σ≤50000:=by omega
   have di:=aBH 3 _ RG σ (by omega);have dm:=aCm 3 _ RG;have X9:=Ok.small RG (by omega);have Gf:∀ wA,F0 wq wA→Below wq.heap.size wq wA:=fun wA hf=>hf.below (Nat.le_refl _) (fun _ _ h=>h)
   have JJ:=lD BG.oi (S:=fun q=>q<wq.heap.size) (fun q hq=>aO BG.oi hq);have WB:bK (fun q=>q<wq.heap.size) wq σ rxs:=BG.ci.mono fun q hq=>(BG.hS q hq).2.1
   have Ya:∀ wA,F0 wq wA→∀ q,q<wq.heap.size→q<wA.heap.size∧¬ False:=fun wA hf q hq=>⟨Nat.lt_of_lt_of_le hq hf.size,fun h=>h⟩
   have Ph:=fun wA (hf:F0 wq wA)=>sF 3 _ RG wq.heap.size wA _ (jK.below (Gf wA hf) _ _ (LTS.inn (fun _ h=>h) _ _ hl)) hf.size (by omega)
   have EC:=fun wA (hf:F0 wq wA)=>(JJ.to hf (Ya wA hf)).sl (B:=wA.heap.size) (fun _ h=>h)
   have LD:=fun wA (hf:F0 wq wA)=>aI.mono (Nat.le_refl _) _ _ (bK.inn (B:=wA.heap.size) (fun _ h=>h) _ _ (bK.to (S':=fun q=>q<wA.heap.size) hf (Ya wA hf) _ _ WB))
   have VB:=fun wA (hf:F0 wq wA) w' (Ei:Below wA.heap.size wA w')=>sH 3 _ (by omega) RG w' ((U9.below (Gf wA hf)).below Ei)
   have Wq:=fun wA hf=>aCI T (st T) (bJ (text T)) wA (VB wA hf) σ (.slice ra σ.length rc) rxs (EC wA hf) (LD wA hf) (by omega) (show wts σ≤_ by omega) (by omega)
   have QO:=fun wA hf=>aEt T (st T) (bJ (text T)) wA (VB wA hf) σ (.slice ra σ.length rc) rxs (EC wA hf) (LD wA hf) (by omega) (show wts σ≤_ by omega) (by omega)
   have SQ:=fun wA hf=>aHJ T (st T) (bJ (text T)) wA (VB wA hf) σ (.slice ra σ.length rc) rxs (EC wA hf) (LD wA hf) E8 (by omega) (show wts σ≤_ by omega)
   generalize bJ (text T)=txt at Ph Wq QO SQ;have hA:=Lib.hid Wq;have hB:=Lib.hid QO;have hC:=Lib.hid SQ;have hX:=Lib.hid Ph;clear Wq QO SQ Ph VB
   go_wp2_with fail
   obtain ⟨W0,J9⟩:∃ W0,W0=wq.alloc (.cells #[.string (bJ T.nm),.int .i64 T.sz,.slice oa T.kids.length oc] 29):=⟨_,rfl⟩;have Ad:F0 wq W0:=by rw[J9];exact (Fr.refl _ _).alloc _
   have Jz:W0.heap[wq.heap.size]?=some (.cells #[.string (bJ T.nm),.int .i64 T.sz,.slice oa T.kids.length oc] 29 (0,0)):=by rw[J9];exact heap_alloc_new wq _
   rw[← J9];clear J9;obtain ⟨x0,x1,x2,-⟩:=oK Jz;have eu:=aC Jz
   go_wp2_with (first
    | (go_at_call 11;refine (hX.out W0 Ad).mono ?_;rintro e wA ⟨rfl,Ee⟩;have Ae:F0 wq wA:=Ad.trans Ee (fun _ _ h=>h))
    | (go_at_call 10;refine (hA.out wA Ae).mono ?_;rintro e wB ⟨v1,v2,rfl,-,JM,FT⟩;have AV:F0 wq wB:=Ae.trans (Below.fr FT) (fun _ _ h=>h);have Oa:F0 W0 wB:=Ee.trans (Below.fr FT) (fun _ _ h=>h);have y0:=Oa.aA x0 (fun h=>h);have y1:=Oa.aA x1 (fun h=>h);have y2:=Oa.aA x2 (fun h=>h))
    | (go_at_call 11;refine (hX.out wB AV).mono ?_;rintro e wC ⟨rfl,Yp⟩;have BU:F0 wq wC:=AV.trans Yp (fun _ _ h=>h))
    | (go_at_call 17;refine (hB.out wC BU).mono ?_;rintro e wD ⟨v3,rfl,lg,Yh⟩;have BP:F0 wq wD:=BU.trans (Below.fr Yh) (fun _ _ h=>h);have Vr:F0 wB wD:=Yp.trans (Below.fr Yh) (fun _ _ h=>h);have u0:=Vr.aA y0 (fun h=>h);have u1:=Vr.aA y1 (fun h=>h);have u2:=Vr.aA y2 (fun h=>h))
    | (go_at_call 11;refine (hX.out wD BP).mono ?_;rintro e wE ⟨rfl,Yq⟩;have DC:F0 wq wE:=BP.trans Yq (fun _ _ h=>h))
    | (go_at_call 18;refine (hC.out wE DC).mono ?_;rintro e wF ⟨v4,rfl,Yi,gxs,S3,EZ⟩;have Ea:F0 wq wF:=DC.trans (Below.fr Yi) (fun _ _ h=>h);have XW:F0 wD wF:=Yq.trans (Below.fr Yi) (fun _ _ h=>h);have XK:Bytes wF v3 (enc T σ):=XW.owns lg (fun _ _ h=>h);have Np:Bytes wF v2 (enc T σ):=(Vr.trans (S':=fun _=>False) XW (fun _ _ h=>h)).owns JM (fun _ _ h=>h);have q3:=xK XK;have q2:=xK Np;obtain ⟨ga,gc,rfl⟩:=ownsRow_shape EZ.oi;have FP:=aNz σ wF.heap.size wF σ _ _ _ _ ((lD EZ.oi (S:=fun q=>q<wF.heap.size) (fun q hq=>aO EZ.oi hq)).sl (fun _ h=>h)) (bK.inn (B:=wF.heap.size) (fun _ h=>h) _ _ (EZ.ci.mono fun q hq=>(EZ.hS q hq).2.1)) (EC wF Ea) (LD wF Ea) (Nat.le_refl _))
    | (go_at_call 19;refine FP.mono ?_;rintro e wG ⟨rfl,PO⟩;rw[nT]))
   go_ret
   exact ⟨rfl,(Ez.trans Ea (fun _ _ h=>h)).trans PO (fun _ _ h=>h)⟩
end Go.Proofs.YtcidlnjpabgioaaGreatDoor
