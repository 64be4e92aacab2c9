import Derived.Test.YtcidlnjpabgioaaGreatDoorUGLowA
import Derived.Deep.CutRange
import Derived.Test.YtcidlnjpabgioaaGreatDoorUGMapW
set_option maxHeartbeats 8000000
set_option maxRecDepth 100000
namespace Go.Proofs.YtcidlnjpabgioaaGreatDoor
open Tryz List Go.RowKit
def aHa (w:World) (n:Nat) (nums:List Nat) (kv x3 x4 x5:Value):Prop :=
 (n≤256∧x3=kv∧w.ownsRow 0 5 1 kv nums.length ((nums.map dK).flatMap dF)) ∨
 (256<n∧n≤65536∧x4=kv∧w.ownsRow 0 199 1 kv nums.length ((nums.map dK).flatMap dC)) ∨
 (65536<n∧x5=kv∧w.ownsRow 0 209 1 kv nums.length ((nums.map dK).flatMap dD))
def tK (B q p:Nat) (w:World) (fp:Nat→Prop) (σ:List Cell):Prop :=
 ∃ v fk kv x3 x4 x5 x6 x7 x8,w.heap[p]?=some (.cells #[v,jW q,.int .u8 (dV (aS [] σ).length:Nat),x3,x4,x5,x6,x7,x8] 142 (0,0))∧w.ownsRow 0 84 5 v σ.length (σ.flatMap bV)∧jY B q w fk (aS [] σ) ∧
  aHa w (aS [] σ).length (dA (aS [] σ) σ) kv x3 x4 x5∧v.ownBlock≠some p∧kv.ownBlock≠some p∧¬ fk p∧(∀ k,v.ownBlock=some k→¬ fk k)∧(∀ k,kv.ownBlock=some k→¬ fk k)∧(∀ k,fp k↔k=p∨v.ownBlock=some k∨kv.ownBlock=some k∨fk k)∧(∀ k,fp k→B≤k)∧wts σ≤2147483648
theorem aDi (q:Nat) (w:World):(method mdp 86 (.agg #[.iface 154 (rX q)]) "Reset").run Tryz.prog w=.ok (291,.pointer (some ⟨q,0,none⟩)) w:=by
 obtain ⟨n,hn⟩:=aOy;rw[hn]
 refine (aX (n:=n+2) underlying86 rfl rfl (fun _=>by kernel_rfl) (by kernel_rfl) rfl).trans ?_
 refine (aX (n:=n+1) underlying154 rfl rfl (fun _=>by kernel_rfl) (by kernel_rfl) rfl).trans ?_
 exact aQ (n:=n) true (by kernel_rfl) (aCn underlying145)
theorem yF (σ:List Cell) (k:Nat) (hk:k<σ.length) (j:Nat) (hj:j<5):(σ.flatMap bV)[k*5+j]?=(bV σ[k])[j]?:=gJ bV 5 (fun _=>rfl) σ k j hk hj
theorem aDA (B q p:Nat) (w:World) (fp:Nat→Prop) (σ:List Cell) (h:iJ B q p w fp σ) :
 Calls Tryz.prog 212 #[.pointer (some ⟨p,0,none⟩)] w fun e w'=>e=.returned .nilIface∧Fr fp w w'∧∃ fp',tK B q p w' fp' σ∧Grow w fp fp':=by
 have AC:=h.lt;obtain ⟨v,fk,hp,Aa,hR,n1,n2,n3,Aj,hB,CE,GL⟩:=h;have AA:=bF σ;have AZ:=aC hp;obtain ⟨a0,c0,rfl⟩:=ownsRow_shape Aa;have FO:∀ k,(Value.slice a0 σ.length c0).ownBlock=some k→k<w.heap.size:=fun k hk=>aO Aa hk
 have Ip:∀ k,fk k→k<w.heap.size:=fun k hk=>((bW B q).lo hR k hk).2
 have c_0:w.cell? ⟨p,0,none⟩=some (.slice a0 σ.length c0):=crw hp rfl;have c_8:w.cell? ⟨p,8,none⟩=some (.slice none 0 0):=crw hp rfl;have Xp:=@run_makeMap Tryz.prog;go_enter func212,ntmps212
 go_upto_region 1 with fail
 go_cut [] from 9 (fun W1=>∃ a8 c8,W1.heap[p]?=some (.cells #[.slice a0 σ.length c0,jW q,.int .u8 0,.slice none 0 0,.slice none 0 0,.slice none 0 0,.slice none 0 0,.map none,.slice a8 σ.length c8] 142 (0,0))∧W1.ownsRow 0 3 1 (.slice a8 σ.length c8) σ.length (List.replicate σ.length (.int .i64 0))∧(Value.slice a8 σ.length c8).ownBlock≠some p∧(∀ k,(Value.slice a8 σ.length c8).ownBlock=some k→w.heap.size≤k)∧Fr (fun k=>k=p) w W1)
 case first =>
  go_region_law (refine aK _ rfl ?_;refine pV _ aOU underlying3 _ _ rfl rfl σ.length rfl (by omega) ?_;intro v8 w1 ha;obtain ⟨a8,c8,rfl⟩:=ha.shape;obtain ⟨SS,WQ⟩:=eP (v:=.slice none 0 0) hp (by simp[Value.ownBlock]) ((Fr.refl _ w).drew) ha;have s8:w1.cell? ⟨p,8,none⟩=some (.slice none 0 0):=SS 8;have g8:=WQ 8)
  all_goals
   have BM:=dW (i:=8) (v:=.slice none 0 0) hp (World.ownsRow_nil _ _ _ _) (by simp[Value.ownBlock]) ((Fr.refl _ w).drew) ha;obtain ⟨DL,own8,KP,SA,Ad⟩:=BM
   go_wp2_with fail
   go_meet
   case rel =>
    refine ⟨a8,c8,DL,own8,KP,fun k hk=>?_,Ad.mono (fun k _ h=>h.elim id (fun h=>by cases h))⟩;rcases SA with e|e
    · rw[hk] at e;cases e
    · rw[e] at hk;simp only[Option.some.injEq] at hk;have:w.drew.heap.size=w.heap.size:=rfl;omega
 case rest =>
  obtain ⟨a8,c8,DL,own8,KP,Lc,Ad⟩:=hcut;have k_7:wc.cell? ⟨p,7,none⟩=some (.map none):=crw DL rfl;have z_7:wc.frozen? ⟨p,7,none⟩=false:=fzj _ DL;have BN:=Ad.size;have own8lt:∀ k,(Value.slice a8 σ.length c8).ownBlock=some k→k<wc.heap.size:=fun k hk=>aO own8 hk
  have PN:∀ w,(binOp .eql 139 (.map none) (.map none)).run Tryz.prog w=.ok (.bool true) w:=fun w=>by kernel_rfl
  have k_7a:(wc.alloc (.map #[] 0)).cell? ⟨p,7,none⟩=some (.map none):=(((Fr.refl (fun _=>False) wc).alloc _).aA k_7 (fun h=>h));have z_7a:(wc.alloc (.map #[] 0)).frozen? ⟨p,7,none⟩=false:=(World.frozen?_of_block (Below.heap_alloc wc _ _ (aC DL))).trans z_7;generalize RS:(wc.alloc (.map #[] 0)).setCell ⟨p,7,none⟩ (.map (some wc.heap.size))=W2;have Ae:Fr (fun x=>x=p) wc W2:=by subst RS;exact ((Fr.refl (fun x=>x=p) wc).alloc _).setCell (.inl rfl) _
  have GI:W2.heap[p]?=some (.cells #[.slice a0 σ.length c0,jW q,.int .u8 0,.slice none 0 0,.slice none 0 0,.slice none 0 0,.slice none 0 0,.map (some wc.heap.size),.slice a8 σ.length c8] 142 (0,0)):=by
   subst RS
   exact eX ((Below.heap_alloc wc _ _ (aC DL)).trans DL) 7 _
  have Je:iD W2 wc.heap.size []:=by
   subst RS
   exact (iD.made wc).fr (S:=fun x=>x=p) ((Fr.refl (fun x=>x=p) _).setCell (.inl rfl) _) (fun e=>by have:=aC DL;omega)
  have EW:wc.heap.size<W2.heap.size:=by subst RS;simp[World.setCell]
  have Dl:Fr (fun x=>x=p) w W2:=Ad.trans Ae (fun _ _ h=>h);have Ew:=(bW B q).frame (w':=W2) hR (fun k hk=>Dl.block k (Ip k hk) (fun e=>n2 (e▸hk)));have own8b:=Ae.owns own8 (fun k hk e=>KP (by rw[hk,e]));have Gn:=Dl.owns Aa (fun k hk e=>n1 (by rw[hk,e]));have Az:=aF.of0 (aDi q W2) call291 (aJo W2 q fk Ew.1);have j_1:W2.cell? ⟨p,1,none⟩=some (jW q):=crw GI rfl;have Ux:fk q:=hR.1.shape;clear DL own8
  go_wp2_with ((with_reducible show wpList _ _ _ (⟨some 40,_,_,_,_,_⟩ :: _) _ _);refine aT _ rfl _ _ _ _ rfl _ _ rfl Az rfl ?_;rintro e W3 ⟨rfl,Js,AV⟩;refine ⟨_,rfl,?_⟩;have j_0:W3.cell? ⟨p,0,none⟩=some (.slice a0 σ.length c0):=(by rw[cell_of_row _ _ _ _ _ _ ((AV.block p (aC GI) (fun e=>n2 (e▸Ux))).trans GI)];rfl))
  have jf:¬ p=q:=fun e=>n2 (e▸Ux)
  have IC:=(AV.block p (aC GI) jf).trans GI;have qj:=Ip q Ux;have own8c:=AV.owns own8b (fun k hk e=>by have:=Lc k hk;omega);have JH:=AV.owns Gn (fun k hk e=>n3 k hk (e▸Ux));have MP:=Je.fr AV (fun e=>by omega);have O4:jY B q W3 fk []:=⟨Js,hR.2.1,by simp⟩;have IJ:=AV.size;have ES:Fr (fun x=>x=p∨fk x) w W3:=(Dl.mono (fun _ _ h=>.inl h)).trans AV (fun x _ h=>.inr (h▸Ux));obtain ⟨mb,Y2⟩:∃ mb,wc.heap.size=mb:=⟨_,rfl⟩;rw[Y2] at IC MP own8lt BN EW;have gp:mb<W3.heap.size:=by omega
  clear Y2 RS Ae GI Je Az j_1 Js AV own8b Gn PN k_7a z_7a k_7 z_7 Ad Dl Ew hR hp Aa Xp c_0 c_8 EW
  go_loopw [3,46] (fun last i wr=>∃ (k:Nat) (fk':Nat→Prop),k≤σ.length∧last=.int .i64 (aS [] (σ.take k)).length∧i=.int .i64 k∧wr.ownsRow 0 3 1 (.slice a8 σ.length c8) σ.length ((dA (aS [] (σ.take k)) (σ.take k)).map (fun n:Nat=>.int .i64 n)++List.replicate (σ.length - k) (.int .i64 0))∧iD wr mb (aS [] (σ.take k)) ∧
   jY B q wr fk' (aS [] (σ.take k))∧(∀ x,fk' x→fk x∨W3.heap.size≤x)∧Fr (fun x=>x=mb∨(Value.slice a8 σ.length c8).ownBlock=some x∨fk x) W3 wr) (fun _ i _=>σ.length - (intOf i).toNat)
  case atStart=>exact ⟨0,fk,Nat.zero_le _,rfl,rfl,by simpa [dA] using own8c,MP,O4,fun x h=>.inl h,Fr.refl _ _⟩
  case round =>
   obtain ⟨k,fk',hk,rfl,rfl,own8r,Ha,ND,KG,Ak⟩:=hrel;have Nl:=Ak.size;have jd:¬ (p=mb∨(Value.slice a8 σ.length c8).ownBlock=some p∨fk p):=fun h=>h.elim (fun e=>by omega) (fun h=>h.elim (fun e=>by have:=Lc p e;omega) n2)
   have Dc:=(Ak.block p (aC IC) jd).trans IC;have j_1:wr.cell? ⟨p,1,none⟩=some (jW q):=crw Dc rfl;have j_7:wr.cell? ⟨p,7,none⟩=some (.map (some mb)):=crw Dc rfl;have j_8:wr.cell? ⟨p,8,none⟩=some (.slice a8 σ.length c8):=crw Dc rfl
   by_cases Ar:k<σ.length
   · have Ap:=Ak.owns JH (fun x hx h=>h.elim (fun e=>by have:=FO x hx;omega) (fun h=>h.elim (fun e=>by have:=Lc x e;have:=FO x hx;omega) (n3 x hx)))
     rcases Ap.2 with ⟨hv,-⟩|⟨gv,capv,curv,hv,-,-,iw,-⟩
     · simp only[Value.slice.injEq] at hv;omega
     rcases own8r.2 with ⟨VC,-⟩|⟨g8,cap8,cur8,VC,-,NF,iq,ZR,SS,-⟩
     · simp only[Value.slice.injEq] at VC;omega
     simp only[Value.slice.injEq] at hv VC;obtain ⟨rfl,-,rfl⟩:=hv;obtain ⟨rfl,-,rfl⟩:=VC
     have hx:∀ j u,j<5→(bV σ[k])[j]?=some u→wr.cell? ⟨gv,k*5+j,none⟩=some u:=fun j u hj hu=>by
      have:=Ap.cells (g:=gv) rfl (k*5+j) u ((yF σ k Ar j hj).trans hu);rw[Addr.add_lit,Nat.zero_add] at this
      exact this
     have hc:=CE σ[k] (getElem_mem _);have BD:=take_succ_eq_append_getElem Ar;have Du:aS [] (σ.take (k+1))=if (aS [] (σ.take k)).any (fE σ[k]) then aS [] (σ.take k) else aS [] (σ.take k)++[σ[k].keyed]:=by rw[BD,vP]
     have Fe:=aCd σ k Ar;have PU:=rM (σ.take k) [] (fun c hc=>CE c (mem_of_mem_take hc)) (by simp);have PR:=rJ (σ.take k) [] List.Pairwise.nil;have TJ:=gK (σ.take k) [];have Ht:=iZ (σ.take (k+1)) [];have TL:=iV σ (k+1);simp only[wts,length_nil,Nat.zero_add,length_take] at Ht TJ;generalize σ[k]=c at hx hc Du Fe;have aj:=own8lt g8 rfl;have ah:=Lc g8 rfl
     have GU:∀ x,fk' x→x≠mb∧x≠g8∧x≠p:=fun x h=>by
      rcases KG x h with h|h
      · have:=Ip x h
        exact ⟨by omega,by omega,fun e=>n2 (e▸h)⟩
      · exact ⟨by omega,by omega,by omega⟩
     have fin:∀ (Wx:World) (fk2:Nat→Prop),Fr (fun x=>x=mb∨fk' x) wr Wx→iD Wx mb (aS [] (σ.take (k+1)))→jY B q Wx fk2 (aS [] (σ.take (k+1)))→(∀ x,fk2 x→fk' x∨wr.heap.size≤x) →
      (Wx.cell? ⟨p,8,none⟩=some (.slice (some ⟨g8,0,none⟩) σ.length c8)∧(∃ u,Wx.cell? ⟨g8,k,none⟩=some u)∧Wx.frozen? ⟨g8,k,none⟩=false) ∧
      (∀ n:Nat,n=(aS [] (σ.take (k+1))).findIdx (fE c)→(Wx.setCell ⟨g8,k,none⟩ (.int .i64 n)).ownsRow 0 3 1 (.slice (some ⟨g8,0,none⟩) σ.length c8) σ.length ((dA (aS [] (σ.take (k+1))) (σ.take (k+1))).map (fun n:Nat=>.int .i64 n)++List.replicate (σ.length - (k+1)) (.int .i64 0)) ∧
       iD (Wx.setCell ⟨g8,k,none⟩ (.int .i64 n)) mb (aS [] (σ.take (k+1)))∧jY B q (Wx.setCell ⟨g8,k,none⟩ (.int .i64 n)) fk2 (aS [] (σ.take (k+1)))∧(∀ x,fk2 x→fk x∨W3.heap.size≤x) ∧
       Fr (fun x=>x=mb∨(Value.slice (some ⟨g8,0,none⟩) σ.length c8).ownBlock=some x∨fk x) W3 (Wx.setCell ⟨g8,k,none⟩ (.int .i64 n))):=by
      intro Wx fk2 QR TZ XZ OH;have Y3:∀ x,x<wr.heap.size→¬ (x=mb∨fk' x)→Wx.heap[x]?=wr.heap[x]?:=fun x h1 h2=>QR.block x h1 h2
      have jg:=(Y3 p (aC Dc) (fun h=>h.elim (fun e=>by omega) (fun h=>(GU p h).2.2 rfl))).trans Dc;have TG:=(Y3 g8 (aC NF) (fun h=>h.elim (fun e=>by omega) (fun h=>(GU g8 h).2.1 rfl))).trans NF
      have own8x:=QR.owns own8r (fun x hx h=>by
       simp only[Value.ownBlock,Option.some.injEq] at hx;subst hx
       exact h.elim (fun e=>by omega) (fun h=>(GU g8 h).2.1 rfl))
      refine ⟨⟨crw jg rfl,⟨cur8[k]'(by omega),by rw[cell_of_row _ _ _ _ _ _ TG,Array.getElem?_eq_getElem]⟩,fzj _ TG⟩,fun n hn=>?_⟩;have FN:Fr (fun x=>x=g8) Wx (Wx.setCell ⟨g8,k,none⟩ (.int .i64 n)):=(Fr.refl (fun x=>x=g8) Wx).setCell (.inl rfl) _
      have X8:List.replicate (σ.length - k) (Value.int .i64 0)=[.int .i64 0]++List.replicate (σ.length - (k+1)) (.int .i64 0):=by
       rw[show σ.length - k=(σ.length - (k+1))+1 by omega,replicate_succ]
       rfl
      have Qy:=lQ (A:=(dA (aS [] (σ.take k)) (σ.take k)).map (fun n:Nat=>.int .i64 n)) (olds:=[.int .i64 0]) (C:=List.replicate (σ.length - (k+1)) (.int .i64 0)) own8x (by rw[X8,append_assoc]) [.int .i64 n] rfl (o:=k) (by rw[length_map];unfold dA;rw[length_map,length_take];omega)
      refine ⟨?_,TZ.fr FN (fun e=>by omega),(bW B q).frame XZ (fun x hx=>FN.block x ((bW B q).lo XZ x hx).2 (fun e=>?_)),fun x hx=>?_,(Ak.trans QR (fun x hx h=>?_)).trans FN (fun x hx h=>?_)⟩
      · rw[Fe,map_append,map_singleton,← hn]
        exact Qy
      · rcases OH x hx with h|h
        · exact (GU x h).2.1 e
        · have:=aC NF;omega
      · rcases OH x hx with h|h
        · exact KG x h
        · exact .inr (by omega)
      · exact h.elim .inl (fun h=>.inr (.inr ((KG x h).resolve_right (by omega))))
      · exact .inr (.inl (by simp[Value.ownBlock,h]))
     have x0:=hx 0 _ (by decide) rfl;have x1:=hx 1 _ (by decide) rfl;have x2:=hx 2 _ (by decide) rfl;have x3:=hx 3 _ (by decide) rfl;have x4:=hx 4 _ (by decide) rfl;simp only[Nat.add_zero] at x0;generalize QK:wr.alloc (.cells #[.int .u64 c.r0,.int .u64 c.r1,.int .u64 c.r2,.int .u64 c.r3,.string c.s] 84)=W5;have BP:F0 wr W5:=by subst QK;exact (Fr.refl _ wr).alloc _
     have Gv:∀ j,W5.cell? ⟨wr.heap.size,j,none⟩=#[Value.int .u64 c.r0,.int .u64 c.r1,.int .u64 c.r2,.int .u64 c.r3,.string c.s][j]?:=fun j=>by subst QK;rw[aB rfl]
     have b0:=Gv 0;have b1:=Gv 1;have b2:=Gv 2;have b3:=Gv 3;have b4:=Gv 4;simp only[getElem?_toArray,getElem?_cons_zero,getElem?_cons_succ] at b0 b1 b2 b3 b4;have m_7:=BP.aA j_7 (fun h=>h);have m_1:=BP.aA j_1 (fun h=>h);obtain ⟨nn,OM,Ji⟩:=iD.look (w:=W5.drew) (Ha.fr (S:=fun _=>False) BP.drew (fun h=>h)) PU PR hc;have MN:(Instr.lookup 139 (.map (some mb)) (.agg #[.int .u64 c.r0,.int .u64 c.r1,.int .u64 c.r2,.int .u64 c.r3,.string c.s]) true).run Tryz.prog W5.drew=.ok (.tuple #[.int .i64 nn,.bool ((aS [] (σ.take k)).any (fE c))]) W5.drew:=OM;clear OM hx Ap own8r NF Dc Gv j_1 j_7 j_8
     cases Lu:(aS [] (σ.take k)).any (fE c) with
     | true =>
      rw[Lu] at MN Du Ji;simp only[if_true] at Du;have Ji:=Ji rfl;obtain ⟨⟨y8,⟨uy,yc⟩,yf⟩,FU⟩:=fin W5.drew fk' ((BP.mono (fun _ _ h=>h.elim)).drew) (by rw[Du];exact Ha.fr (S:=fun _=>False) (BP.drew) (fun h=>h)) (by rw[Du];exact (bW B q).frame ND (fun x hx=>BP.block x ((bW B q).lo ND x hx).2 (fun h=>h))) (fun x h=>.inl h);have O9:=FU _ (Du▸rfl:(aS [] (σ.take k)).findIdx (fE c)=(aS [] (σ.take (k+1))).findIdx (fE c));have LP:=Lib.hid O9;have Me:=Lib.hid Du;subst Ji;have Jc:(aS [] (σ.take (k+1))).length=(aS [] (σ.take k)).length:=by rw[Du]
      have ML:=Lib.hid Jc;clear fin FU O9 Du Lu Jc Fe Ha ND PU PR BD;go_wp2
      go_region
      all_goals
       go_wp2;go_roundw
       case rel =>
        obtain ⟨g1,g2,g3,g4,g5⟩:=LP.out
        exact ⟨k+1,fk',by omega,by rw[ML.out],by go_num,g1,g2,g3,g4,g5⟩
       case measure=>simp[intOf];omega
     | false =>
      rw[Lu] at MN Du;simp only[Bool.false_eq_true,if_false] at Du;have Jc:(aS [] (σ.take (k+1))).length=(aS [] (σ.take k)).length+1:=by rw[Du,length_append];rfl
      have Jj:(aS [] (σ.take k)).length=(aS [] (σ.take (k+1))).findIdx (fE c):=by rw[Du,aKp Lu]
      have Va:jY B q W5.drew.drew fk' (aS [] (σ.take k)):=(bW B q).frame ND (fun x hx=>BP.block x ((bW B q).lo ND x hx).2 (fun h=>h));have hi:=(bW B q).append Va hc (by rw[← Du];exact Nat.le_trans Ht (by omega));have V5:=BP.size;have Ll:∀ x,fk' x→x<wr.heap.size:=fun x hx=>((bW B q).lo ND x hx).2
      have ML:=Lib.hid Jc;have Ue:=Lib.hid Jj;have Me:=Lib.hid Du;have WW:(aS [] (σ.take k)).length≤2147483648:=by omega
      have finH:=Lib.hid @fin;clear fin Du Lu Jc Jj Fe PU PR BD Ji Ht;go_wp2
      go_region
      all_goals
       go_wp2
       go_region_law (refine aK _ rfl ?_;refine bH _ _ _ _ _ rfl _ _ rfl hi rfl ?_;rintro e w2 ⟨rfl,DC,f2,VP,Yt⟩;refine ⟨_,rfl,?_⟩)
       all_goals
        have H8:=DC.aH.aH;have Qw:=H8.size;have ZV:∀ x,x<wr.heap.size→¬ fk' x→w2.heap[x]?=wr.heap[x]?:=fun x h1 h2=>(H8.block x (by omega) h2).trans (BP.block x h1 (fun h=>h))
        have q_7:w2.cell? ⟨p,7,none⟩=some (.map (some mb)):=H8.aA m_7 (fun h=>(GU p h).2.2 rfl);have Ud:¬ fk' wr.heap.size:=fun h=>by have:=Ll _ h;omega
        have e0:=H8.aA b0 Ud;have e1:=H8.aA b1 Ud;have e2:=H8.aA b2 Ud;have e3:=H8.aA b3 Ud;have e4:=H8.aA b4 Ud;have Je:iD w2.drew mb (aS [] (σ.take k)):=Ha.fr (S:=fun x=>fk' x) ((BP.mono (fun _ _ h=>h.elim)).trans H8 (fun _ _ h=>h)).drew (fun h=>(GU mb h).1 rfl);obtain ⟨W6,AO,OO,Ea⟩:=iD.put Je WW hc;have Y9:(Instr.mapUpdate 139 (.map (some mb)) (.agg #[.int .u64 c.r0,.int .u64 c.r1,.int .u64 c.r2,.int .u64 c.r3,.string c.s]) (.int .i64 (aS [] (σ.take k)).length)).run Tryz.prog w2.drew=.ok () W6:=AO;have Tn:=Ea.aH
        have BV:=finH.out W6 f2 (((BP.mono (fun _ _ h=>h.elim)).trans (H8.mono (fun _ _ h=>.inr h)) (fun _ _ h=>h)).trans (Tn.mono (fun _ _ h=>.inl h)) (fun _ _ h=>h)) (by rw[Me.out];exact OO)
         (by rw[Me.out];exact (bW B q).frame VP (fun x hx=>Tn.block x ((bW B q).lo VP x hx).2 (fun e=>by
          rcases Yt x hx with h|h
          · exact (GU x h).1 e
          · have:W5.drew.drew.heap.size=W5.heap.size:=rfl
            omega))) (fun x hx=>(Yt x hx).imp id (fun h=>by have:W5.drew.drew.heap.size=W5.heap.size:=rfl;omega))
        obtain ⟨⟨y8,⟨uy,yc⟩,yf⟩,FU⟩:=BV;have LP:=Lib.hid (FU _ Ue.out);clear FU AO Je OO hi Va Ha ND VP;go_wp2
        go_region
        all_goals
         go_wp2;go_roundw
         case rel =>
          obtain ⟨g1,g2,g3,g4,g5⟩:=LP.out
          exact ⟨k+1,f2,by omega,by rw[ML.out];go_num,by go_num,g1,g2,g3,g4,g5⟩
         case measure=>simp[intOf];omega
   · have Bl:k=σ.length:=by omega
     subst Bl;rw[take_length] at own8r Ha ND ⊢;rw[Nat.sub_self,replicate_zero,append_nil] at own8r;have Z7:=gK σ [];rw[length_nil,Nat.zero_add] at Z7;have EO:(dA (aS [] σ) σ).length=σ.length:=length_map _;have z_2:wr.frozen? ⟨p,2,none⟩=false:=fzj _ Dc;have j_2:wr.cell? ⟨p,2,none⟩=some (.int .u8 0):=crw Dc rfl;have Ll:∀ x,fk' x→B≤x∧x<wr.heap.size:=fun x hx=>(bW B q).lo ND x hx
     have ER:=AC p ((Aj p).2 (.inl rfl));have Ap:=Ak.owns JH (fun x hx h=>h.elim (fun e=>by have:=FO x hx;omega) (fun h=>h.elim (fun e=>by have:=Lc x e;have:=FO x hx;omega) (n3 x hx)));have VE:=ES.size
     have done:∀ (κ:Nat) (Wf:World) (tv x3 x4 x5 x6 x7 x8:Value),Wf.heap[p]?=some (.cells #[.slice a0 σ.length c0,jW q,.int .u8 (κ:Nat),x3,x4,x5,x6,x7,x8] 142 (0,0))→κ=dV (aS [] σ).length→Fr (fun x=>x=p) wr Wf→aHa Wf (aS [] σ).length (dA (aS [] σ) σ) tv x3 x4 x5→(∀ x,tv.ownBlock=some x→wr.heap.size≤x) →
      Fr fp w Wf∧∃ fp',tK B q p Wf fp' σ∧Grow w fp fp':=by
      intro κ Wf tv x3 x4 x5 x6 x7 x8 je hκ WJ Ej GK
      have OE:∀ x,fk' x→x≠p:=fun x h e=>by
       rcases KG x h with h|h
       · exact n2 (e▸h)
       · omega
      refine ⟨((ES.mono (fun x _ h=>(Aj x).2 (h.imp id .inr))).trans Ak (fun x hx h=>h.elim (fun e=>by omega) (fun h=>h.elim (fun e=>by have:=Lc x e;omega) (fun h=>(Aj x).2 (.inr (.inr h)))))).trans WJ (fun x _ e=>(Aj x).2 (.inl e)),fun x=>x=p∨(Value.slice a0 σ.length c0).ownBlock=some x∨tv.ownBlock=some x∨fk' x,
       ⟨_,fk',tv,x3,x4,x5,x6,x7,x8,hκ▸je,WJ.owns Ap (fun x hx e=>n1 (by rw[hx,e])),(bW B q).frame ND (fun x hx=>WJ.block x (Ll x hx).2 (OE x hx)),Ej,n1,fun e=>?_,fun h=>OE p h rfl,fun x hx h=>?_,fun x hx h=>?_,fun x=>Iff.rfl,?_,GL⟩,?_⟩
      · have:=GK p e;omega
      · rcases KG x h with h|h
        · exact n3 x hx h
        · have:=FO x hx;omega
      · have:=GK x hx;have:=(Ll x h).2;omega
      · rintro x (rfl|hx|hx|hx)
        · exact ER.1
        · exact hB x ((Aj x).2 (.inr (.inl hx)))
        · have:=GK x hx;omega
        · exact (Ll x hx).1
      · rintro x (rfl|hx|hx|hx)
        · exact .inl ((Aj x).2 (.inl rfl))
        · exact .inl ((Aj x).2 (.inr (.inl hx)))
        · exact .inr (by have:=GK x hx;omega)
        · rcases KG x hx with h|h
          · exact .inl ((Aj x).2 (.inr (.inr h)))
          · exact .inr (by omega)
     have o6:((aS [] σ).length:Int)≤2147483648:=by omega
     have mf:IntKind.u64.wrap ((aS [] σ).length:Int)=(aS [] σ).length:=by rw[IntKind.wrap_u64];omega
     clear Ha j_1 j_7 j_8 JH IC own8c MP O4
     by_cases hN:(aS [] σ).length≤256
     · generalize O5:wr.setCell ⟨p,2,none⟩ (.int .u8 0)=Wk
       have DW:Fr (fun x=>x=p) wr Wk:=by subst O5;exact (Fr.refl (fun x=>x=p) wr).setCell (.inl rfl) _
       have Jl:Wk.heap[p]?=some (.cells #[.slice a0 σ.length c0,jW q,.int .u8 0,.slice none 0 0,.slice none 0 0,.slice none 0 0,.slice none 0 0,.map (some mb),.slice a8 σ.length c8] 142 (0,0)):=by subst O5;exact eX Dc 2 _
       have l_2:Wk.cell? ⟨p,2,none⟩=some (.int .u8 0):=crw Jl rfl;have l_8:Wk.cell? ⟨p,8,none⟩=some (.slice a8 σ.length c8):=crw Jl rfl;have l_3:Wk.cell? ⟨p,3,none⟩=some (.slice none 0 0):=crw Jl rfl;have Gj:=aOq Wk.drew (dA (aS [] σ) σ) (.slice a8 σ.length c8) (by rw[EO];exact DW.owns own8r (fun x hx e=>KP (by rw[hx,e]))) (by rw[EO];omega);rw[EO] at Gj;go_wp2
       go_region_law (go_simp;go_at_call 221;refine Gj.mono ?_;rintro e w2 ⟨tv,rfl,BR,FD,Ae⟩;obtain ⟨at3,ct3,rfl⟩:=ownsRow_shape BR;have Au:=Ae.aH;have Hg:=(Au.block p (aC Jl) (fun h=>h)).trans Jl;have k_3:w2.cell? ⟨p,3,none⟩=some (.slice none 0 0):=(crw Hg rfl);have z_3:w2.frozen? ⟨p,3,none⟩=false:=fzj _ Hg)
       all_goals
        have Pg:=DW.size;have D8:=eX Hg 3 (.slice at3 σ.length ct3);have FN:Fr (fun x=>x=p) w2 (w2.setCell ⟨p,3,none⟩ (.slice at3 σ.length ct3)):=(Fr.refl (fun x=>x=p) w2).setCell (.inl rfl) _;have GK:∀ x,(Value.slice at3 σ.length ct3).ownBlock=some x→wr.heap.size≤x:=fun x hx=>Nat.le_trans Pg (FD x hx)
        have Az:=done 0 _ (.slice at3 σ.length ct3) _ _ _ _ _ _ D8 (by unfold dV;simp[hN]) ((DW.trans Au (fun _ _ h=>h.elim)).trans FN (fun _ _ h=>h)) (.inl ⟨hN,rfl,(by rw[EO];exact FN.owns BR (fun x hx e=>by have:=GK x hx;have:=aC Dc;omega))⟩) GK;go_wp2;go_ret
        exact ⟨rfl,Az⟩
     · by_cases JP:(aS [] σ).length≤65536
       · generalize O5:wr.setCell ⟨p,2,none⟩ (.int .u8 1)=Wk
         have DW:Fr (fun x=>x=p) wr Wk:=by subst O5;exact (Fr.refl (fun x=>x=p) wr).setCell (.inl rfl) _
         have Jl:Wk.heap[p]?=some (.cells #[.slice a0 σ.length c0,jW q,.int .u8 1,.slice none 0 0,.slice none 0 0,.slice none 0 0,.slice none 0 0,.map (some mb),.slice a8 σ.length c8] 142 (0,0)):=by subst O5;exact eX Dc 2 _
         have l_2:Wk.cell? ⟨p,2,none⟩=some (.int .u8 1):=crw Jl rfl;have l_8:Wk.cell? ⟨p,8,none⟩=some (.slice a8 σ.length c8):=crw Jl rfl;have l_3:Wk.cell? ⟨p,4,none⟩=some (.slice none 0 0):=crw Jl rfl;have Gj:=aMH Wk.drew (dA (aS [] σ) σ) (.slice a8 σ.length c8) (by rw[EO];exact DW.owns own8r (fun x hx e=>KP (by rw[hx,e]))) (by rw[EO];omega);rw[EO] at Gj;go_wp2
         go_region_law (go_simp;go_at_call 222;refine Gj.mono ?_;rintro e w2 ⟨tv,rfl,BR,FD,Ae⟩;obtain ⟨at3,ct3,rfl⟩:=ownsRow_shape BR;have Au:=Ae.aH;have Hg:=(Au.block p (aC Jl) (fun h=>h)).trans Jl;have k_3:w2.cell? ⟨p,4,none⟩=some (.slice none 0 0):=(crw Hg rfl);have z_3:w2.frozen? ⟨p,4,none⟩=false:=fzj _ Hg)
         all_goals
          have Pg:=DW.size;have D8:=eX Hg 4 (.slice at3 σ.length ct3);have FN:Fr (fun x=>x=p) w2 (w2.setCell ⟨p,4,none⟩ (.slice at3 σ.length ct3)):=(Fr.refl (fun x=>x=p) w2).setCell (.inl rfl) _;have GK:∀ x,(Value.slice at3 σ.length ct3).ownBlock=some x→wr.heap.size≤x:=fun x hx=>Nat.le_trans Pg (FD x hx)
          have Az:=done 1 _ (.slice at3 σ.length ct3) _ _ _ _ _ _ D8 (by unfold dV;simp[hN,JP]) ((DW.trans Au (fun _ _ h=>h.elim)).trans FN (fun _ _ h=>h)) (.inr (.inl ⟨by omega,JP,rfl,(by rw[EO];exact FN.owns BR (fun x hx e=>by have:=GK x hx;have:=aC Dc;omega))⟩)) GK;go_wp2;go_ret
          exact ⟨rfl,Az⟩
       · generalize O5:wr.setCell ⟨p,2,none⟩ (.int .u8 2)=Wk
         have DW:Fr (fun x=>x=p) wr Wk:=by subst O5;exact (Fr.refl (fun x=>x=p) wr).setCell (.inl rfl) _
         have Jl:Wk.heap[p]?=some (.cells #[.slice a0 σ.length c0,jW q,.int .u8 2,.slice none 0 0,.slice none 0 0,.slice none 0 0,.slice none 0 0,.map (some mb),.slice a8 σ.length c8] 142 (0,0)):=by subst O5;exact eX Dc 2 _
         have l_2:Wk.cell? ⟨p,2,none⟩=some (.int .u8 2):=crw Jl rfl;have l_8:Wk.cell? ⟨p,8,none⟩=some (.slice a8 σ.length c8):=crw Jl rfl;have l_3:Wk.cell? ⟨p,5,none⟩=some (.slice none 0 0):=crw Jl rfl;have Gj:=aMU Wk.drew (dA (aS [] σ) σ) (.slice a8 σ.length c8) (by rw[EO];exact DW.owns own8r (fun x hx e=>KP (by rw[hx,e]))) (by rw[EO];omega);rw[EO] at Gj;go_wp2
         go_region_law (go_simp;go_at_call 223;refine Gj.mono ?_;rintro e w2 ⟨tv,rfl,BR,FD,Ae⟩;obtain ⟨at3,ct3,rfl⟩:=ownsRow_shape BR;have Au:=Ae.aH;have Hg:=(Au.block p (aC Jl) (fun h=>h)).trans Jl;have k_3:w2.cell? ⟨p,5,none⟩=some (.slice none 0 0):=(crw Hg rfl);have z_3:w2.frozen? ⟨p,5,none⟩=false:=fzj _ Hg)
         all_goals
          have Pg:=DW.size;have D8:=eX Hg 5 (.slice at3 σ.length ct3);have FN:Fr (fun x=>x=p) w2 (w2.setCell ⟨p,5,none⟩ (.slice at3 σ.length ct3)):=(Fr.refl (fun x=>x=p) w2).setCell (.inl rfl) _;have GK:∀ x,(Value.slice at3 σ.length ct3).ownBlock=some x→wr.heap.size≤x:=fun x hx=>Nat.le_trans Pg (FD x hx)
          have Az:=done 2 _ (.slice at3 σ.length ct3) _ _ _ _ _ _ D8 (by unfold dV;simp[hN,JP]) ((DW.trans Au (fun _ _ h=>h.elim)).trans FN (fun _ _ h=>h)) (.inr (.inr ⟨by omega,rfl,(by rw[EO];exact FN.owns BR (fun x hx e=>by have:=GK x hx;have:=aC Dc;omega))⟩)) GK;go_wp2;go_ret
          exact ⟨rfl,Az⟩
theorem aLH {w:World} {a:Addr} {x0 x1 x2 x3 x4 x5 x6 x7 x8:Value} (h0:w.cell? a=some x0) (h1:w.cell? (a.add 1)=some x1) (h2:w.cell? (a.add 2)=some x2) (h3:w.cell? (a.add 3)=some x3) (h4:w.cell? (a.add 4)=some x4) (h5:w.cell? (a.add 5)=some x5) (h6:w.cell? (a.add 6)=some x6) (h7:w.cell? (a.add 7)=some x7) (h8:w.cell? (a.add 8)=some x8) :
 (loadVar 142 a).run Tryz.prog w=.ok (.agg #[x0,x1,x2,x3,x4,x5,x6,x7,x8]) w:=by
 have h:(Tryz.prog.info? 142).map (·.size)=some 9:=by kernel_rfl
 obtain ⟨i,hi,hs⟩:=Option.map_eq_some_iff.1 h;have hg:(isAgg 142).run Tryz.prog w=.ok true w:=by simp[isAgg,run_underlying underlying142]
 have Pv:w.cell? (a.add 0)=some x0:=by cases a with|mk b o s=>cases s<;>simpa [Addr.add] using h0
 unfold loadVar;simp[Sem.run_bind,hg,sizeOf,typeInfo,hi,hs,loadCells,loadCellsFrom,Pv,h1,h2,h3,h4,h5,h6,h7,h8]
theorem jX (w:World) (a:Option Addr) (n c:Nat) (q:Nat) (x2 x3 x4 x5 x6 x7 x8:Value):Calls Tryz.prog 215 #[.agg #[.slice a n c,jW q,x2,x3,x4,x5,x6,x7,x8]] w fun e w'=>e=.returned (.int .i64 n)∧F0 w w':=by
 go_enter func215,ntmps215;go_wp2;go_ret
 exact ⟨rfl,(Fr.refl _ w).alloc _⟩
theorem aNY:Lib.leBytes 8 1=[1,0,0,0,0,0,0,0]:=by decide
theorem aIM (B q:Nat) (w:World) (fk:Nat→Prop) (idx:List Cell) (hR:jY B q w fk idx) (x0 x2 x3 x4 x5 x6 x7 x8:Value) (b:Nat) (fb:Nat→Prop) (bs:List UInt8) (hb:Buf w b fb bs) (hd:∀ k,fk k→¬ fb k) (hl:bs.length+8≤2147483648) :
 Calls Tryz.prog 211 #[.agg #[x0,jW q,x2,x3,x4,x5,x6,x7,x8],.pointer (some ⟨b,0,none⟩)] w fun e w'=>e=.returned (.tuple #[])∧Fr fb w w'∧∃ fb',Buf w' b fb' (bs++[1,0,0,0,0,0,0,0])∧Grow w fb fb':=by
 have DD:=aJ.lt hb;have Df:∀ k,fk k→k<w.heap.size:=fun k hk=>((bW B q).lo hR k hk).2
 generalize hW:w.alloc (.cells #[x0,jW q,x2,x3,x4,x5,x6,x7,x8] 142)=W;have Aw:F0 w W:=by subst hW;exact (Fr.refl _ w).alloc _
 have D6:W.heap.size=w.heap.size+1:=by subst hW;simp
 have q1:W.cell? ⟨w.heap.size,1,none⟩=some (jW q):=by subst hW;rw[aB rfl];rfl
 have KE:Buf W b fb bs:=aJ.aW hb fun q hq=>Aw.block q (DD q hq) (fun h=>h)
 have AO:=gQ W b fb bs KE 1 (by decide) (by omega);have hN:¬ fb w.heap.size:=fun h=>by have:=DD _ h;omega
 obtain ⟨EP,BD⟩:=(bW B q).state;have BX:=EP 132;have Il:=fun w1 (Ad:Fr fb w w1)=>(bW B q).frame (w':=w1) hR fun k hk=>Ad.block k (Df k hk) (hd k hk)
 clear EP;go_enter func211,ntmps211
 go_wp2_with (first
  | (go_at_call 218;refine AO.mono ?_;rintro e w1 ⟨rfl,Ad,fb1,ED,ET⟩;have q2:=Ad.aA q1 hN;have BN:=Ad.size;have CX:Fr fb w w1:=(Aw.mono (fun _ _ h=>h.elim)).trans Ad (fun _ _ h=>h);have hi:=BD (Il w1 CX) ED (fun k hk h=>(ET k h).elim (hd k hk) (fun h=>by have:=Df k hk;omega)) (by rw[length_append,Lib.leBytes_length];simp;omega))
  | ((with_reducible show wpList _ _ _ (⟨some 17,_,_,_,_,_⟩ :: _) _ _);refine aT _ rfl _ _ _ _ rfl _ _ rfl hi rfl ?_;rintro e w2 ⟨rfl,Ae,fb2,Bj,BJ⟩;refine ⟨_,rfl,?_⟩))
 go_end0
 refine ⟨rfl,CX.trans Ae (fun k hk h=>(ET k h).resolve_right (by omega)),fb2,?_,fun k hk=>?_⟩
 · rw[← aNY]
   simpa using Bj
 · rcases BJ k hk with h|h
   · rcases ET k h with h|h
     · exact .inl h
     · exact .inr (by omega)
   · exact .inr (by omega)
theorem jO (m:Nat) (hm:m≤8) (idx σ:List Cell):((dA idx σ).map dK).flatMap (aG m)=σ.flatMap fun c=>Lib.leBytes m (idx.findIdx (fE c)):=by
 unfold dA;rw[map_map,flatMap_map]
 congr 1
 funext c
 exact dO m hm _
theorem oO (m:Nat) (idx σ:List Cell):(σ.flatMap fun c=>Lib.leBytes m (idx.findIdx (fE c))).length=m*σ.length:=aY _ m (fun _=>Lib.leBytes_length _ _) σ
theorem mF (idx σ:List Cell) (h:idx.length≤2147483648):∀ c∈(dA idx σ).map dK,c.r0<18446744073709551616:=by
 intro c hc;obtain ⟨n,hn,rfl⟩:=mem_map.1 hc;obtain ⟨d,hd,rfl⟩:=mem_map.1 hn;have:idx.findIdx (fE d)≤idx.length:=findIdx_le_length;show idx.findIdx (fE d)<_;omega
theorem aDz (B q p:Nat) (w:World) (fp:Nat→Prop) (h:tK B q p w fp []) (b:Nat) (fb:Nat→Prop) (bs:List UInt8) (hb:Buf w b fb bs) :
 Calls Tryz.prog 210 #[.pointer (some ⟨p,0,none⟩),.pointer (some ⟨b,0,none⟩)] w fun e w'=>e=.returned (.tuple #[])∧Fr fb w w'∧∃ fb',Buf w' b fb' (bs++enc .low [])∧Grow w fb fb':=by
 obtain ⟨v,fk,kv,x3,x4,x5,x6,x7,x8,hp,Aa,-⟩:=h;have DD:=aJ.lt hb;obtain ⟨a0,c0,rfl⟩:=ownsRow_shape Aa;simp only[length_nil] at hp;have k_0:w.cell? ⟨p,0,none⟩=some (.slice a0 0 c0):=crw hp rfl;have k_1:w.cell? ⟨p,1,none⟩=some (jW q):=crw hp rfl;have k_2:w.cell? ⟨p,2,none⟩=some (.int .u8 (dV (aS [] []).length:Nat)):=crw hp rfl;have k_3:w.cell? ⟨p,3,none⟩=some x3:=crw hp rfl;have k_4:w.cell? ⟨p,4,none⟩=some x4:=crw hp rfl;have k_5:w.cell? ⟨p,5,none⟩=some x5:=crw hp rfl;have k_6:w.cell? ⟨p,6,none⟩=some x6:=crw hp rfl;have k_7:w.cell? ⟨p,7,none⟩=some x7:=crw hp rfl;have k_8:w.cell? ⟨p,8,none⟩=some x8:=crw hp rfl;have Ag:=jX w a0 0 c0 q (.int .u8 (dV (aS [] []).length:Nat)) x3 x4 x5 x6 x7 x8;have he:enc .low []=[]:=by rw[enc];rfl
 rw[he];clear hp Aa;go_enter func210,ntmps210
 go_wp2_with (go_at_call 215;refine Ag.mono ?_;rintro e w1 ⟨rfl,Ad⟩)
 try simp only[Exit.inBlock,Exit.then]
 refine bodyPost_ret (results_none rfl _ _ _) rfl ?_
 exact ⟨rfl,Ad.mono (fun _ _ h=>h.elim),fb,by rw[append_nil];exact Buf.col.2 (aJ.aW hb fun q hq=>Ad.block q (DD q hq) (fun h=>h)),fun q hq=>.inl hq⟩
theorem aAz (B q p:Nat) (w:World) (fk:Nat→Prop) (σ:List Cell) (a0:Option Addr) (c0:Nat) (a1:Option Addr) (c1:Nat) (x4 x5 x6 x7 x8:Value) (hp:w.heap[p]?=some (.cells #[.slice a0 σ.length c0,jW q,.int .u8 0,.slice a1 σ.length c1,x4,x5,x6,x7,x8] 142 (0,0)))
 (hR:jY B q w fk (aS [] σ)) (Fq:w.ownsRow 0 5 1 (.slice a1 σ.length c1) σ.length (((dA (aS [] σ) σ).map dK).flatMap dF)) (b:Nat) (fb:Nat→Prop) (bs:List UInt8) (hb:Buf w b fb bs) (Dt:¬ fb p) (hd:∀ k,fk k→¬ fb k) (GG:∀ k,(Value.slice a1 σ.length c1).ownBlock=some k→¬ fb k)
 (hσ:σ.length≠0) (hw:wts σ≤2147483648) (hl:bs.length+((Lib.leBytes 8 1536).length+((Lib.leBytes 8 (aS [] σ).length).length+((enc .str (aS [] σ)).length+((Lib.leBytes 8 σ.length).length+1*σ.length))))≤1099511627776) :
 Calls Tryz.prog 210 #[.pointer (some ⟨p,0,none⟩),.pointer (some ⟨b,0,none⟩)] w fun e w'=>e=.returned (.tuple #[])∧Fr fb w w'∧∃ fb',Buf w' b fb' (bs++(Lib.leBytes 8 1536++(Lib.leBytes 8 (aS [] σ).length++(enc .str (aS [] σ)++(Lib.leBytes 8 σ.length++((dA (aS [] σ) σ).map dK).flatMap (aG 1))))))∧Grow w fb fb':=by
 have AZ:=aC hp;have DD:=aJ.lt hb;have Df:∀ k,fk k→k<w.heap.size:=fun k hk=>((bW B q).lo hR k hk).2
 have MI:∀ k,(Value.slice a1 σ.length c1).ownBlock=some k→k<w.heap.size:=fun k hk=>aO Fq hk
 have QC:=bF σ;have Fa:=gK σ [];have Ht:=iZ σ [];simp only[wts,length_nil,Nat.zero_add,Lib.leBytes_length] at Fa Ht hl;have EO:(dA (aS [] σ) σ).length=σ.length:=length_map _;have Ec:((dA (aS [] σ) σ).map dK).length=σ.length:=by rw[length_map,EO]
 have Ci:=mF (aS [] σ) σ (by omega);have k_0:w.cell? ⟨p,0,none⟩=some (.slice a0 σ.length c0):=crw hp rfl;have k_1:w.cell? ⟨p,1,none⟩=some (jW q):=crw hp rfl;have k_2:w.cell? ⟨p,2,none⟩=some (.int .u8 0):=crw hp rfl;have k_3:w.cell? ⟨p,3,none⟩=some (.slice a1 σ.length c1):=crw hp rfl;have k_4:w.cell? ⟨p,4,none⟩=some x4:=crw hp rfl;have k_5:w.cell? ⟨p,5,none⟩=some x5:=crw hp rfl;have k_6:w.cell? ⟨p,6,none⟩=some x6:=crw hp rfl;have k_7:w.cell? ⟨p,7,none⟩=some x7:=crw hp rfl;have k_8:w.cell? ⟨p,8,none⟩=some x8:=crw hp rfl;have hσz:¬ (σ.length:Int)=0:=by omega
 have Il:=fun w1 (Ad:Fr fb w w1)=>(bW B q).frame (w':=w1) hR fun k hk=>Ad.block k (Df k hk) (hd k hk)
 have JO:∀ w1,Fr fb w w1→w1.ownsRow 0 5 1 (.slice a1 σ.length c1) σ.length (((dA (aS [] σ) σ).map dK).flatMap dF):=fun w1 Ad=>Ad.owns Fq GG
 have Ag:=fun w1=>jX w1 a0 σ.length c0 q (.int .u8 0) (.slice a1 σ.length c1) x4 x5 x6 x7 x8
 generalize aS [] σ=idx at Il JO Ht Fa hl EO Ec Ci ⊢;generalize Fe:(dA idx σ).map dK=nums at JO Ec Ci ⊢;have Lp:=Lib.hid JO;have Gt:=Lib.hid @Il;clear hp Fq hR Fe EO JO Il;go_enter func210,ntmps210
 go_wp2_with (first
  | (go_at_call 215;refine (Ag w).mono ?_;rintro e w1 ⟨rfl,Ad⟩;have l_0:=Ad.aA k_0 (fun h=>h);have l_1:=Ad.aA k_1 (fun h=>h);have l_2:=Ad.aA k_2 (fun h=>h);have l_3:=Ad.aA k_3 (fun h=>h);have l_4:=Ad.aA k_4 (fun h=>h);have l_5:=Ad.aA k_5 (fun h=>h);have l_6:=Ad.aA k_6 (fun h=>h);have l_7:=Ad.aA k_7 (fun h=>h);have l_8:=Ad.aA k_8 (fun h=>h);have CX:Fr fb w w1:=Ad.mono (fun _ _ h=>h.elim);have BN:=Ad.size;have ED:Buf w1 b fb bs:=aJ.aW hb fun q hq=>Ad.block q (DD q hq) (fun h=>h);have Gp:=gQ w1 b fb bs ED 1536 (by decide) (by omega))
  | (go_at_call 218;refine Gp.mono ?_;rintro e w2 ⟨rfl,Ae,fb2,Bj,BJ⟩;have m_0:=Ae.aA l_0 Dt;have m_1:=Ae.aA l_1 Dt;have m_2:=Ae.aA l_2 Dt;have m_3:=Ae.aA l_3 Dt;have m_4:=Ae.aA l_4 Dt;have m_5:=Ae.aA l_5 Dt;have m_6:=Ae.aA l_6 Dt;have m_7:=Ae.aA l_7 Dt;have m_8:=Ae.aA l_8 Dt;have Dl:Fr fb w w2:=CX.trans Ae (fun _ _ h=>h);have EW:=Ae.size;have CS:¬ fb2 p:=fun h=>(BJ p h).elim Dt (fun h=>by omega);have Fz:=(bW B q).rows (Gt.out w2 Dl))
  | ((with_reducible show wpList _ _ _ (⟨some 24,_,_,_,_,_⟩ :: _) _ _);refine aT _ rfl _ _ _ _ rfl _ _ rfl Fz rfl ?_;rintro e w3 ⟨rfl,AV⟩;refine ⟨_,rfl,?_⟩;have n_0:=AV.aA m_0 (fun h=>h);have n_1:=AV.aA m_1 (fun h=>h);have n_2:=AV.aA m_2 (fun h=>h);have n_3:=AV.aA m_3 (fun h=>h);have n_4:=AV.aA m_4 (fun h=>h);have n_5:=AV.aA m_5 (fun h=>h);have n_6:=AV.aA m_6 (fun h=>h);have n_7:=AV.aA m_7 (fun h=>h);have n_8:=AV.aA m_8 (fun h=>h);have ES:Fr fb w w3:=Dl.trans AV (fun _ _ h=>h.elim);have IJ:=AV.size;have EY:Buf w3 b fb2 (bs++Lib.leBytes 8 1536):=aJ.aW Bj fun q hq=>AV.block q (aJ.lt Bj q hq) (fun h=>h);have Hl:=gQ w3 b fb2 _ EY idx.length (by omega) (by rw[length_append,Lib.leBytes_length];omega))
  | (go_at_call 218;refine Hl.mono ?_;rintro e w4 ⟨rfl,BU,fb4,NR,EZ⟩;have o_0:=BU.aA n_0 CS;have o_1:=BU.aA n_1 CS;have o_2:=BU.aA n_2 CS;have o_3:=BU.aA n_3 CS;have o_4:=BU.aA n_4 CS;have o_5:=BU.aA n_5 CS;have o_6:=BU.aA n_6 CS;have o_7:=BU.aA n_7 CS;have o_8:=BU.aA n_8 CS;have V4:=BU.size;have GR:Fr fb w w4:=ES.trans BU (fun q hq h=>(BJ q h).resolve_right (by omega));have Es:∀ x,fb4 x→fb x∨w.heap.size≤x:=fun x h=>(EZ x h).elim (fun h=>(BJ x h).imp id (fun h=>by omega)) (fun h=>.inr (by omega));have CU:¬ fb4 p:=fun h=>(Es p h).elim Dt (fun h=>by omega);
      have IY:=(bW B q).encode (Gt.out w4 GR) (show wts _≤_ by omega) NR (fun x hx h=>(Es x h).elim (hd x hx) (fun h=>by have:=Df x hx;omega)) (by rw[length_append,length_append,Lib.leBytes_length,Lib.leBytes_length];omega))
  | ((with_reducible show wpList _ _ _ (⟨some 31,_,_,_,_,_⟩ :: _) _ _);refine aT _ rfl _ _ _ _ rfl _ _ rfl IY rfl ?_;rintro e w5 ⟨rfl,BP,fb5,Gv,KI⟩;refine ⟨_,rfl,?_⟩;have r_0:=BP.aA o_0 CU;have r_1:=BP.aA o_1 CU;have r_2:=BP.aA o_2 CU;have r_3:=BP.aA o_3 CU;have r_4:=BP.aA o_4 CU;have r_5:=BP.aA o_5 CU;have r_6:=BP.aA o_6 CU;have r_7:=BP.aA o_7 CU;have r_8:=BP.aA o_8 CU;have V5:=BP.size;have LQ:Fr fb w w5:=GR.trans BP (fun q hq h=>(Es q h).resolve_right (by omega));have GY:∀ x,fb5 x→fb x∨w.heap.size≤x:=fun x h=>(KI x h).elim (Es x) (fun h=>.inr (by omega));have CV:¬ fb5 p:=fun h=>(GY p h).elim Dt (fun h=>by omega))
  | (go_at_call 215;refine (Ag w5).mono ?_;rintro e w6 ⟨rfl,DC⟩;have s_0:=DC.aA r_0 (fun h=>h);have s_1:=DC.aA r_1 (fun h=>h);have s_2:=DC.aA r_2 (fun h=>h);have s_3:=DC.aA r_3 (fun h=>h);have s_4:=DC.aA r_4 (fun h=>h);have s_5:=DC.aA r_5 (fun h=>h);have s_6:=DC.aA r_6 (fun h=>h);have s_7:=DC.aA r_7 (fun h=>h);have s_8:=DC.aA r_8 (fun h=>h);have Qw:=DC.size;have LU:Fr fb w w6:=LQ.trans DC (fun _ _ h=>h.elim);have Si:=Buf.col.2 (aJ.aW Gv fun q hq=>DC.block q (aJ.lt Gv q hq) (fun h=>h));have Jm:=gQ w6 b fb5 _ Si σ.length (by omega) (by rw[length_append,length_append,length_append,Lib.leBytes_length,Lib.leBytes_length];omega))
  | (go_at_call 218;refine Jm.mono ?_;rintro e w7 ⟨rfl,Ea,fb7,Sj,TD⟩;have t_0:=Ea.aA s_0 CV;have t_1:=Ea.aA s_1 CV;have t_2:=Ea.aA s_2 CV;have t_3:=Ea.aA s_3 CV;have t_4:=Ea.aA s_4 CV;have t_5:=Ea.aA s_5 CV;have t_6:=Ea.aA s_6 CV;have t_7:=Ea.aA s_7 CV;have t_8:=Ea.aA s_8 CV;have Qx:=Ea.size;have IZ:Fr fb w w7:=LU.trans Ea (fun q hq h=>(GY q h).resolve_right (by omega));have GZ:∀ x,fb7 x→fb x∨w.heap.size≤x:=fun x h=>(TD x h).elim (GY x) (fun h=>.inr (by omega));
      have Gi:=aBx w7 b fb7 _ Sj a1 c1 nums (by rw[Ec];exact Lp.out w7 IZ) (by rw[Ec];exact fun x hx h=>(GZ x h).elim (GG x hx) (fun h=>by have:=MI x hx;omega)) Ci (by rw[Ec,length_append,length_append,length_append,length_append,Lib.leBytes_length,Lib.leBytes_length,Lib.leBytes_length];omega);rw[Ec] at Gi)
  | (go_at_call 195;refine Gi.mono ?_;rintro e w8 ⟨rfl,PO,fb8,Lc,NF⟩))
 go_end0
 refine ⟨rfl,IZ.trans PO (fun q hq h=>(GZ q h).resolve_right (by omega)),fb8,by simpa [append_assoc] using Lc,fun x h=>(NF x h).elim (GZ x) (fun h=>.inr (by omega))⟩
theorem yK (B q p:Nat) (w:World) (fk:Nat→Prop) (σ:List Cell) (a0:Option Addr) (c0:Nat) (a1:Option Addr) (c1:Nat) (x3 x5 x6 x7 x8:Value) (hp:w.heap[p]?=some (.cells #[.slice a0 σ.length c0,jW q,.int .u8 1,x3,.slice a1 σ.length c1,x5,x6,x7,x8] 142 (0,0)))
 (hR:jY B q w fk (aS [] σ)) (Fq:w.ownsRow 0 199 1 (.slice a1 σ.length c1) σ.length (((dA (aS [] σ) σ).map dK).flatMap dC)) (b:Nat) (fb:Nat→Prop) (bs:List UInt8) (hb:Buf w b fb bs) (Dt:¬ fb p) (hd:∀ k,fk k→¬ fb k) (GG:∀ k,(Value.slice a1 σ.length c1).ownBlock=some k→¬ fb k)
 (hσ:σ.length≠0) (hw:wts σ≤2147483648) (hl:bs.length+((Lib.leBytes 8 1537).length+((Lib.leBytes 8 (aS [] σ).length).length+((enc .str (aS [] σ)).length+((Lib.leBytes 8 σ.length).length+2*σ.length))))≤1099511627776) :
 Calls Tryz.prog 210 #[.pointer (some ⟨p,0,none⟩),.pointer (some ⟨b,0,none⟩)] w fun e w'=>e=.returned (.tuple #[])∧Fr fb w w'∧∃ fb',Buf w' b fb' (bs++(Lib.leBytes 8 1537++(Lib.leBytes 8 (aS [] σ).length++(enc .str (aS [] σ)++(Lib.leBytes 8 σ.length++((dA (aS [] σ) σ).map dK).flatMap (aG 2))))))∧Grow w fb fb':=by
 have AZ:=aC hp;have DD:=aJ.lt hb;have Df:∀ k,fk k→k<w.heap.size:=fun k hk=>((bW B q).lo hR k hk).2
 have MI:∀ k,(Value.slice a1 σ.length c1).ownBlock=some k→k<w.heap.size:=fun k hk=>aO Fq hk
 have QC:=bF σ;have Fa:=gK σ [];have Ht:=iZ σ [];simp only[wts,length_nil,Nat.zero_add,Lib.leBytes_length] at Fa Ht hl;have EO:(dA (aS [] σ) σ).length=σ.length:=length_map _;have Ec:((dA (aS [] σ) σ).map dK).length=σ.length:=by rw[length_map,EO]
 have Ci:=mF (aS [] σ) σ (by omega);have k_0:w.cell? ⟨p,0,none⟩=some (.slice a0 σ.length c0):=crw hp rfl;have k_1:w.cell? ⟨p,1,none⟩=some (jW q):=crw hp rfl;have k_2:w.cell? ⟨p,2,none⟩=some (.int .u8 1):=crw hp rfl;have k_3:w.cell? ⟨p,3,none⟩=some x3:=crw hp rfl;have k_4:w.cell? ⟨p,4,none⟩=some (.slice a1 σ.length c1):=crw hp rfl;have k_5:w.cell? ⟨p,5,none⟩=some x5:=crw hp rfl;have k_6:w.cell? ⟨p,6,none⟩=some x6:=crw hp rfl;have k_7:w.cell? ⟨p,7,none⟩=some x7:=crw hp rfl;have k_8:w.cell? ⟨p,8,none⟩=some x8:=crw hp rfl;have hσz:¬ (σ.length:Int)=0:=by omega
 have Il:=fun w1 (Ad:Fr fb w w1)=>(bW B q).frame (w':=w1) hR fun k hk=>Ad.block k (Df k hk) (hd k hk)
 have JO:∀ w1,Fr fb w w1→w1.ownsRow 0 199 1 (.slice a1 σ.length c1) σ.length (((dA (aS [] σ) σ).map dK).flatMap dC):=fun w1 Ad=>Ad.owns Fq GG
 have Ag:=fun w1=>jX w1 a0 σ.length c0 q (.int .u8 1) x3 (.slice a1 σ.length c1) x5 x6 x7 x8
 generalize aS [] σ=idx at Il JO Ht Fa hl EO Ec Ci ⊢;generalize Fe:(dA idx σ).map dK=nums at JO Ec Ci ⊢;have Lp:=Lib.hid JO;have Gt:=Lib.hid @Il;clear hp Fq hR Fe EO JO Il;go_enter func210,ntmps210
 go_wp2_with (first
  | (go_at_call 215;refine (Ag w).mono ?_;rintro e w1 ⟨rfl,Ad⟩;have l_0:=Ad.aA k_0 (fun h=>h);have l_1:=Ad.aA k_1 (fun h=>h);have l_2:=Ad.aA k_2 (fun h=>h);have l_3:=Ad.aA k_3 (fun h=>h);have l_4:=Ad.aA k_4 (fun h=>h);have l_5:=Ad.aA k_5 (fun h=>h);have l_6:=Ad.aA k_6 (fun h=>h);have l_7:=Ad.aA k_7 (fun h=>h);have l_8:=Ad.aA k_8 (fun h=>h);have CX:Fr fb w w1:=Ad.mono (fun _ _ h=>h.elim);have BN:=Ad.size;have ED:Buf w1 b fb bs:=aJ.aW hb fun q hq=>Ad.block q (DD q hq) (fun h=>h);have Gp:=gQ w1 b fb bs ED 1537 (by decide) (by omega))
  | (go_at_call 218;refine Gp.mono ?_;rintro e w2 ⟨rfl,Ae,fb2,Bj,BJ⟩;have m_0:=Ae.aA l_0 Dt;have m_1:=Ae.aA l_1 Dt;have m_2:=Ae.aA l_2 Dt;have m_3:=Ae.aA l_3 Dt;have m_4:=Ae.aA l_4 Dt;have m_5:=Ae.aA l_5 Dt;have m_6:=Ae.aA l_6 Dt;have m_7:=Ae.aA l_7 Dt;have m_8:=Ae.aA l_8 Dt;have Dl:Fr fb w w2:=CX.trans Ae (fun _ _ h=>h);have EW:=Ae.size;have CS:¬ fb2 p:=fun h=>(BJ p h).elim Dt (fun h=>by omega);have Fz:=(bW B q).rows (Gt.out w2 Dl))
  | ((with_reducible show wpList _ _ _ (⟨some 24,_,_,_,_,_⟩ :: _) _ _);refine aT _ rfl _ _ _ _ rfl _ _ rfl Fz rfl ?_;rintro e w3 ⟨rfl,AV⟩;refine ⟨_,rfl,?_⟩;have n_0:=AV.aA m_0 (fun h=>h);have n_1:=AV.aA m_1 (fun h=>h);have n_2:=AV.aA m_2 (fun h=>h);have n_3:=AV.aA m_3 (fun h=>h);have n_4:=AV.aA m_4 (fun h=>h);have n_5:=AV.aA m_5 (fun h=>h);have n_6:=AV.aA m_6 (fun h=>h);have n_7:=AV.aA m_7 (fun h=>h);have n_8:=AV.aA m_8 (fun h=>h);have ES:Fr fb w w3:=Dl.trans AV (fun _ _ h=>h.elim);have IJ:=AV.size;have EY:Buf w3 b fb2 (bs++Lib.leBytes 8 1537):=aJ.aW Bj fun q hq=>AV.block q (aJ.lt Bj q hq) (fun h=>h);have Hl:=gQ w3 b fb2 _ EY idx.length (by omega) (by rw[length_append,Lib.leBytes_length];omega))
  | (go_at_call 218;refine Hl.mono ?_;rintro e w4 ⟨rfl,BU,fb4,NR,EZ⟩;have o_0:=BU.aA n_0 CS;have o_1:=BU.aA n_1 CS;have o_2:=BU.aA n_2 CS;have o_3:=BU.aA n_3 CS;have o_4:=BU.aA n_4 CS;have o_5:=BU.aA n_5 CS;have o_6:=BU.aA n_6 CS;have o_7:=BU.aA n_7 CS;have o_8:=BU.aA n_8 CS;have V4:=BU.size;have GR:Fr fb w w4:=ES.trans BU (fun q hq h=>(BJ q h).resolve_right (by omega));have Es:∀ x,fb4 x→fb x∨w.heap.size≤x:=fun x h=>(EZ x h).elim (fun h=>(BJ x h).imp id (fun h=>by omega)) (fun h=>.inr (by omega));have CU:¬ fb4 p:=fun h=>(Es p h).elim Dt (fun h=>by omega);
      have IY:=(bW B q).encode (Gt.out w4 GR) (show wts _≤_ by omega) NR (fun x hx h=>(Es x h).elim (hd x hx) (fun h=>by have:=Df x hx;omega)) (by rw[length_append,length_append,Lib.leBytes_length,Lib.leBytes_length];omega))
  | ((with_reducible show wpList _ _ _ (⟨some 31,_,_,_,_,_⟩ :: _) _ _);refine aT _ rfl _ _ _ _ rfl _ _ rfl IY rfl ?_;rintro e w5 ⟨rfl,BP,fb5,Gv,KI⟩;refine ⟨_,rfl,?_⟩;have r_0:=BP.aA o_0 CU;have r_1:=BP.aA o_1 CU;have r_2:=BP.aA o_2 CU;have r_3:=BP.aA o_3 CU;have r_4:=BP.aA o_4 CU;have r_5:=BP.aA o_5 CU;have r_6:=BP.aA o_6 CU;have r_7:=BP.aA o_7 CU;have r_8:=BP.aA o_8 CU;have V5:=BP.size;have LQ:Fr fb w w5:=GR.trans BP (fun q hq h=>(Es q h).resolve_right (by omega));have GY:∀ x,fb5 x→fb x∨w.heap.size≤x:=fun x h=>(KI x h).elim (Es x) (fun h=>.inr (by omega));have CV:¬ fb5 p:=fun h=>(GY p h).elim Dt (fun h=>by omega))
  | (go_at_call 215;refine (Ag w5).mono ?_;rintro e w6 ⟨rfl,DC⟩;have s_0:=DC.aA r_0 (fun h=>h);have s_1:=DC.aA r_1 (fun h=>h);have s_2:=DC.aA r_2 (fun h=>h);have s_3:=DC.aA r_3 (fun h=>h);have s_4:=DC.aA r_4 (fun h=>h);have s_5:=DC.aA r_5 (fun h=>h);have s_6:=DC.aA r_6 (fun h=>h);have s_7:=DC.aA r_7 (fun h=>h);have s_8:=DC.aA r_8 (fun h=>h);have Qw:=DC.size;have LU:Fr fb w w6:=LQ.trans DC (fun _ _ h=>h.elim);have Si:=Buf.col.2 (aJ.aW Gv fun q hq=>DC.block q (aJ.lt Gv q hq) (fun h=>h));have Jm:=gQ w6 b fb5 _ Si σ.length (by omega) (by rw[length_append,length_append,length_append,Lib.leBytes_length,Lib.leBytes_length];omega))
  | (go_at_call 218;refine Jm.mono ?_;rintro e w7 ⟨rfl,Ea,fb7,Sj,TD⟩;have t_0:=Ea.aA s_0 CV;have t_1:=Ea.aA s_1 CV;have t_2:=Ea.aA s_2 CV;have t_3:=Ea.aA s_3 CV;have t_4:=Ea.aA s_4 CV;have t_5:=Ea.aA s_5 CV;have t_6:=Ea.aA s_6 CV;have t_7:=Ea.aA s_7 CV;have t_8:=Ea.aA s_8 CV;have Qx:=Ea.size;have IZ:Fr fb w w7:=LU.trans Ea (fun q hq h=>(GY q h).resolve_right (by omega));have GZ:∀ x,fb7 x→fb x∨w.heap.size≤x:=fun x h=>(TD x h).elim (GY x) (fun h=>.inr (by omega));
      have Gi:=aGz w7 b fb7 _ Sj a1 c1 nums (by rw[Ec];exact Lp.out w7 IZ) (by rw[Ec];exact fun x hx h=>(GZ x h).elim (GG x hx) (fun h=>by have:=MI x hx;omega)) Ci (by rw[Ec,length_append,length_append,length_append,length_append,Lib.leBytes_length,Lib.leBytes_length,Lib.leBytes_length];omega);rw[Ec] at Gi)
  | (go_at_call 219;refine Gi.mono ?_;rintro e w8 ⟨rfl,PO,fb8,Lc,NF⟩))
 go_end0
 refine ⟨rfl,IZ.trans PO (fun q hq h=>(GZ q h).resolve_right (by omega)),fb8,by simpa [append_assoc] using Lc,fun x h=>(NF x h).elim (GZ x) (fun h=>.inr (by omega))⟩
theorem yL (B q p:Nat) (w:World) (fk:Nat→Prop) (σ:List Cell) (a0:Option Addr) (c0:Nat) (a1:Option Addr) (c1:Nat) (x3 x4 x6 x7 x8:Value) (hp:w.heap[p]?=some (.cells #[.slice a0 σ.length c0,jW q,.int .u8 2,x3,x4,.slice a1 σ.length c1,x6,x7,x8] 142 (0,0)))
 (hR:jY B q w fk (aS [] σ)) (Fq:w.ownsRow 0 209 1 (.slice a1 σ.length c1) σ.length (((dA (aS [] σ) σ).map dK).flatMap dD)) (b:Nat) (fb:Nat→Prop) (bs:List UInt8) (hb:Buf w b fb bs) (Dt:¬ fb p) (hd:∀ k,fk k→¬ fb k) (GG:∀ k,(Value.slice a1 σ.length c1).ownBlock=some k→¬ fb k)
 (hσ:σ.length≠0) (hw:wts σ≤2147483648) (hl:bs.length+((Lib.leBytes 8 1538).length+((Lib.leBytes 8 (aS [] σ).length).length+((enc .str (aS [] σ)).length+((Lib.leBytes 8 σ.length).length+4*σ.length))))≤1099511627776) :
 Calls Tryz.prog 210 #[.pointer (some ⟨p,0,none⟩),.pointer (some ⟨b,0,none⟩)] w fun e w'=>e=.returned (.tuple #[])∧Fr fb w w'∧∃ fb',Buf w' b fb' (bs++(Lib.leBytes 8 1538++(Lib.leBytes 8 (aS [] σ).length++(enc .str (aS [] σ)++(Lib.leBytes 8 σ.length++((dA (aS [] σ) σ).map dK).flatMap (aG 4))))))∧Grow w fb fb':=by
 have AZ:=aC hp;have DD:=aJ.lt hb;have Df:∀ k,fk k→k<w.heap.size:=fun k hk=>((bW B q).lo hR k hk).2
 have MI:∀ k,(Value.slice a1 σ.length c1).ownBlock=some k→k<w.heap.size:=fun k hk=>aO Fq hk
 have QC:=bF σ;have Fa:=gK σ [];have Ht:=iZ σ [];simp only[wts,length_nil,Nat.zero_add,Lib.leBytes_length] at Fa Ht hl;have EO:(dA (aS [] σ) σ).length=σ.length:=length_map _;have Ec:((dA (aS [] σ) σ).map dK).length=σ.length:=by rw[length_map,EO]
 have Ci:=mF (aS [] σ) σ (by omega);have k_0:w.cell? ⟨p,0,none⟩=some (.slice a0 σ.length c0):=crw hp rfl;have k_1:w.cell? ⟨p,1,none⟩=some (jW q):=crw hp rfl;have k_2:w.cell? ⟨p,2,none⟩=some (.int .u8 2):=crw hp rfl;have k_3:w.cell? ⟨p,3,none⟩=some x3:=crw hp rfl;have k_4:w.cell? ⟨p,4,none⟩=some x4:=crw hp rfl;have k_5:w.cell? ⟨p,5,none⟩=some (.slice a1 σ.length c1):=crw hp rfl;have k_6:w.cell? ⟨p,6,none⟩=some x6:=crw hp rfl;have k_7:w.cell? ⟨p,7,none⟩=some x7:=crw hp rfl;have k_8:w.cell? ⟨p,8,none⟩=some x8:=crw hp rfl;have hσz:¬ (σ.length:Int)=0:=by omega
 have Il:=fun w1 (Ad:Fr fb w w1)=>(bW B q).frame (w':=w1) hR fun k hk=>Ad.block k (Df k hk) (hd k hk)
 have JO:∀ w1,Fr fb w w1→w1.ownsRow 0 209 1 (.slice a1 σ.length c1) σ.length (((dA (aS [] σ) σ).map dK).flatMap dD):=fun w1 Ad=>Ad.owns Fq GG
 have Ag:=fun w1=>jX w1 a0 σ.length c0 q (.int .u8 2) x3 x4 (.slice a1 σ.length c1) x6 x7 x8
 generalize aS [] σ=idx at Il JO Ht Fa hl EO Ec Ci ⊢;generalize Fe:(dA idx σ).map dK=nums at JO Ec Ci ⊢;have Lp:=Lib.hid JO;have Gt:=Lib.hid @Il;clear hp Fq hR Fe EO JO Il;go_enter func210,ntmps210
 go_wp2_with (first
  | (go_at_call 215;refine (Ag w).mono ?_;rintro e w1 ⟨rfl,Ad⟩;have l_0:=Ad.aA k_0 (fun h=>h);have l_1:=Ad.aA k_1 (fun h=>h);have l_2:=Ad.aA k_2 (fun h=>h);have l_3:=Ad.aA k_3 (fun h=>h);have l_4:=Ad.aA k_4 (fun h=>h);have l_5:=Ad.aA k_5 (fun h=>h);have l_6:=Ad.aA k_6 (fun h=>h);have l_7:=Ad.aA k_7 (fun h=>h);have l_8:=Ad.aA k_8 (fun h=>h);have CX:Fr fb w w1:=Ad.mono (fun _ _ h=>h.elim);have BN:=Ad.size;have ED:Buf w1 b fb bs:=aJ.aW hb fun q hq=>Ad.block q (DD q hq) (fun h=>h);have Gp:=gQ w1 b fb bs ED 1538 (by decide) (by omega))
  | (go_at_call 218;refine Gp.mono ?_;rintro e w2 ⟨rfl,Ae,fb2,Bj,BJ⟩;have m_0:=Ae.aA l_0 Dt;have m_1:=Ae.aA l_1 Dt;have m_2:=Ae.aA l_2 Dt;have m_3:=Ae.aA l_3 Dt;have m_4:=Ae.aA l_4 Dt;have m_5:=Ae.aA l_5 Dt;have m_6:=Ae.aA l_6 Dt;have m_7:=Ae.aA l_7 Dt;have m_8:=Ae.aA l_8 Dt;have Dl:Fr fb w w2:=CX.trans Ae (fun _ _ h=>h);have EW:=Ae.size;have CS:¬ fb2 p:=fun h=>(BJ p h).elim Dt (fun h=>by omega);have Fz:=(bW B q).rows (Gt.out w2 Dl))
  | ((with_reducible show wpList _ _ _ (⟨some 24,_,_,_,_,_⟩ :: _) _ _);refine aT _ rfl _ _ _ _ rfl _ _ rfl Fz rfl ?_;rintro e w3 ⟨rfl,AV⟩;refine ⟨_,rfl,?_⟩;have n_0:=AV.aA m_0 (fun h=>h);have n_1:=AV.aA m_1 (fun h=>h);have n_2:=AV.aA m_2 (fun h=>h);have n_3:=AV.aA m_3 (fun h=>h);have n_4:=AV.aA m_4 (fun h=>h);have n_5:=AV.aA m_5 (fun h=>h);have n_6:=AV.aA m_6 (fun h=>h);have n_7:=AV.aA m_7 (fun h=>h);have n_8:=AV.aA m_8 (fun h=>h);have ES:Fr fb w w3:=Dl.trans AV (fun _ _ h=>h.elim);have IJ:=AV.size;have EY:Buf w3 b fb2 (bs++Lib.leBytes 8 1538):=aJ.aW Bj fun q hq=>AV.block q (aJ.lt Bj q hq) (fun h=>h);have Hl:=gQ w3 b fb2 _ EY idx.length (by omega) (by rw[length_append,Lib.leBytes_length];omega))
  | (go_at_call 218;refine Hl.mono ?_;rintro e w4 ⟨rfl,BU,fb4,NR,EZ⟩;have o_0:=BU.aA n_0 CS;have o_1:=BU.aA n_1 CS;have o_2:=BU.aA n_2 CS;have o_3:=BU.aA n_3 CS;have o_4:=BU.aA n_4 CS;have o_5:=BU.aA n_5 CS;have o_6:=BU.aA n_6 CS;have o_7:=BU.aA n_7 CS;have o_8:=BU.aA n_8 CS;have V4:=BU.size;have GR:Fr fb w w4:=ES.trans BU (fun q hq h=>(BJ q h).resolve_right (by omega));have Es:∀ x,fb4 x→fb x∨w.heap.size≤x:=fun x h=>(EZ x h).elim (fun h=>(BJ x h).imp id (fun h=>by omega)) (fun h=>.inr (by omega));have CU:¬ fb4 p:=fun h=>(Es p h).elim Dt (fun h=>by omega);
      have IY:=(bW B q).encode (Gt.out w4 GR) (show wts _≤_ by omega) NR (fun x hx h=>(Es x h).elim (hd x hx) (fun h=>by have:=Df x hx;omega)) (by rw[length_append,length_append,Lib.leBytes_length,Lib.leBytes_length];omega))
  | ((with_reducible show wpList _ _ _ (⟨some 31,_,_,_,_,_⟩ :: _) _ _);refine aT _ rfl _ _ _ _ rfl _ _ rfl IY rfl ?_;rintro e w5 ⟨rfl,BP,fb5,Gv,KI⟩;refine ⟨_,rfl,?_⟩;have r_0:=BP.aA o_0 CU;have r_1:=BP.aA o_1 CU;have r_2:=BP.aA o_2 CU;have r_3:=BP.aA o_3 CU;have r_4:=BP.aA o_4 CU;have r_5:=BP.aA o_5 CU;have r_6:=BP.aA o_6 CU;have r_7:=BP.aA o_7 CU;have r_8:=BP.aA o_8 CU;have V5:=BP.size;have LQ:Fr fb w w5:=GR.trans BP (fun q hq h=>(Es q h).resolve_right (by omega));have GY:∀ x,fb5 x→fb x∨w.heap.size≤x:=fun x h=>(KI x h).elim (Es x) (fun h=>.inr (by omega));have CV:¬ fb5 p:=fun h=>(GY p h).elim Dt (fun h=>by omega))
  | (go_at_call 215;refine (Ag w5).mono ?_;rintro e w6 ⟨rfl,DC⟩;have s_0:=DC.aA r_0 (fun h=>h);have s_1:=DC.aA r_1 (fun h=>h);have s_2:=DC.aA r_2 (fun h=>h);have s_3:=DC.aA r_3 (fun h=>h);have s_4:=DC.aA r_4 (fun h=>h);have s_5:=DC.aA r_5 (fun h=>h);have s_6:=DC.aA r_6 (fun h=>h);have s_7:=DC.aA r_7 (fun h=>h);have s_8:=DC.aA r_8 (fun h=>h);have Qw:=DC.size;have LU:Fr fb w w6:=LQ.trans DC (fun _ _ h=>h.elim);have Si:=Buf.col.2 (aJ.aW Gv fun q hq=>DC.block q (aJ.lt Gv q hq) (fun h=>h));have Jm:=gQ w6 b fb5 _ Si σ.length (by omega) (by rw[length_append,length_append,length_append,Lib.leBytes_length,Lib.leBytes_length];omega))
  | (go_at_call 218;refine Jm.mono ?_;rintro e w7 ⟨rfl,Ea,fb7,Sj,TD⟩;have t_0:=Ea.aA s_0 CV;have t_1:=Ea.aA s_1 CV;have t_2:=Ea.aA s_2 CV;have t_3:=Ea.aA s_3 CV;have t_4:=Ea.aA s_4 CV;have t_5:=Ea.aA s_5 CV;have t_6:=Ea.aA s_6 CV;have t_7:=Ea.aA s_7 CV;have t_8:=Ea.aA s_8 CV;have Qx:=Ea.size;have IZ:Fr fb w w7:=LU.trans Ea (fun q hq h=>(GY q h).resolve_right (by omega));have GZ:∀ x,fb7 x→fb x∨w.heap.size≤x:=fun x h=>(TD x h).elim (GY x) (fun h=>.inr (by omega));
      have Gi:=aGJ w7 b fb7 _ Sj a1 c1 nums (by rw[Ec];exact Lp.out w7 IZ) (by rw[Ec];exact fun x hx h=>(GZ x h).elim (GG x hx) (fun h=>by have:=MI x hx;omega)) Ci (by rw[Ec,length_append,length_append,length_append,length_append,Lib.leBytes_length,Lib.leBytes_length,Lib.leBytes_length];omega);rw[Ec] at Gi)
  | (go_at_call 220;refine Gi.mono ?_;rintro e w8 ⟨rfl,PO,fb8,Lc,NF⟩))
 go_end0
 refine ⟨rfl,IZ.trans PO (fun q hq h=>(GZ q h).resolve_right (by omega)),fb8,by simpa [append_assoc] using Lc,fun x h=>(NF x h).elim (GZ x) (fun h=>.inr (by omega))⟩
theorem aHf (σ:List Cell) (h:σ≠[]):enc .low σ=Lib.leBytes 8 (1536+dV (aS [] σ).length)++(Lib.leBytes 8 (aS [] σ).length++(enc .str (aS [] σ)++(Lib.leBytes 8 σ.length++σ.flatMap fun c=>Lib.leBytes (lowWide (aS [] σ).length) ((aS [] σ).findIdx (fE c))))):=by
 rw[enc,enc];unfold aBG;rw[if_neg h]
theorem aFG (B q p:Nat) (w:World) (fp:Nat→Prop) (σ:List Cell) (h:tK B q p w fp σ) (b:Nat) (fb:Nat→Prop) (bs:List UInt8) (hb:Buf w b fb bs) (hd:∀ k,fp k→¬ fb k) (hl:bs.length+(enc .low σ).length≤1099511627776) :
 Calls Tryz.prog 210 #[.pointer (some ⟨p,0,none⟩),.pointer (some ⟨b,0,none⟩)] w fun e w'=>e=.returned (.tuple #[])∧Fr fb w w'∧∃ fb',Buf w' b fb' (bs++enc .low σ)∧Grow w fb fb':=by
 by_cases hσ:σ=[]
 · subst hσ
   exact aDz B q p w fp h b fb bs hb
 · have hσl:σ.length≠0:=fun h=>hσ (eq_nil_of_length_eq_zero h)
   obtain ⟨v,fk,kv,x3,x4,x5,x6,x7,x8,hp,Aa,hR,Ej,n1,n2,n3,n4,n5,Aj,hB,hw⟩:=h;obtain ⟨a0,c0,rfl⟩:=ownsRow_shape Aa;have EO:(dA (aS [] σ) σ).length=σ.length:=length_map _;rw[aHf σ hσ] at hl ⊢;simp only[length_append,oO] at hl;have Dt:¬ fb p:=hd p ((Aj p).2 (.inl rfl));have NU:∀ k,fk k→¬ fb k:=fun k hk=>hd k ((Aj k).2 (.inr (.inr (.inr hk))))
   have GG:∀ k,kv.ownBlock=some k→¬ fb k:=fun k hk=>hd k ((Aj k).2 (.inr (.inr (.inl hk))))
   rcases Ej with ⟨hN,rfl,hk⟩|⟨hN,JP,rfl,hk⟩|⟨hN,rfl,hk⟩
   · have e1:dV (aS [] σ).length=0:=if_pos hN
     have e2:lowWide (aS [] σ).length=1:=if_pos hN;rw[EO] at hk;obtain ⟨a1,c1,rfl⟩:=ownsRow_shape hk;rw[e1] at hp hl ⊢;rw[e2,← jO 1 (by decide)];rw[e2] at hl
     exact aAz B q p w fk σ a0 c0 a1 c1 _ _ _ _ _ hp hR hk b fb bs hb Dt NU GG hσl hw hl
   · have e1:dV (aS [] σ).length=1:=by unfold dV;rw[if_neg (by omega),if_pos JP]
     have e2:lowWide (aS [] σ).length=2:=by unfold lowWide;rw[if_neg (by omega),if_pos JP]
     rw[EO] at hk;obtain ⟨a1,c1,rfl⟩:=ownsRow_shape hk;rw[e1] at hp hl ⊢;rw[e2,← jO 2 (by decide)];rw[e2] at hl
     exact yK B q p w fk σ a0 c0 a1 c1 _ _ _ _ _ hp hR hk b fb bs hb Dt NU GG hσl hw hl
   · have e1:dV (aS [] σ).length=2:=by unfold dV;rw[if_neg (by omega),if_neg (by omega)]
     have e2:lowWide (aS [] σ).length=4:=by unfold lowWide;rw[if_neg (by omega),if_neg (by omega)]
     rw[EO] at hk;obtain ⟨a1,c1,rfl⟩:=ownsRow_shape hk;rw[e1] at hp hl ⊢;rw[e2,← jO 4 (by decide)];rw[e2] at hl
     exact yL B q p w fk σ a0 c0 a1 c1 _ _ _ _ _ hp hR hk b fb bs hb Dt NU GG hσl hw hl
theorem vS (p:Nat) (w:World) (name:String) (f:FuncId) (h:(name,f)=("Append",242)∨(name,f)=("AppendArr",243)) :
 (method mdp 88 (.agg #[.pointer (some ⟨p,0,none⟩)]) name).run Tryz.prog w=.ok (f,.agg #[.pointer (some ⟨p,0,none⟩)]) w:=by
 rcases h with h|h<;>(simp only[Prod.mk.injEq] at h;obtain ⟨rfl,rfl⟩:=h;kernel_rfl)
theorem vU (p:Nat) (w:World) (cs:Array Value) (x0 x1 x2 x3 x4 x5 x6 x7 x8:Value) (hp:w.heap[p]?=some (.cells #[x0,x1,x2,x3,x4,x5,x6,x7,x8] 142 (0,0))) (name:String) (f:FuncId)
 (h:(name,f)=("Rows",215)∨(name,f)=("EncodeState",211)) (A8:cs=#[x0,x1,x2,x3,x4,x5,x6,x7,x8]) :
 (method mdp 88 (.agg #[.pointer (some ⟨p,0,none⟩)]) name).run Tryz.prog w=.ok (f,.agg cs) w:=by
 subst A8;obtain ⟨n,hn⟩:=fuel;rw[hn];have hc:∀ j,w.cell? ((⟨p,0,none⟩:Addr).add j)=#[x0,x1,x2,x3,x4,x5,x6,x7,x8][j]?:=fun j=>by rw[Addr.add_lit,Nat.zero_add,cell_of_row _ _ _ _ _ _ hp]
 have SE:w.cell? ⟨p,0,none⟩=some x0:=crw hp rfl;have hr:=gU (P:=Tryz.prog) underlying81 (aLH SE (hc 1) (hc 2) (hc 3) (hc 4) (hc 5) (hc 6) (hc 7) (hc 8));rcases h with h|h<;>(simp only[Prod.mk.injEq] at h;obtain ⟨rfl,rfl⟩:=h;exact eU (n:=n+1) false underlying88 rfl rfl (fun _=>by kernel_rfl) (by kernel_rfl) rfl hr)
theorem vT (p:Nat) (w:World) (name:String) (f:FuncId) (h:(name,f)=("Prepare",212)∨(name,f)=("EncodeColumn",210)) :
 (method mdp 88 (.agg #[.pointer (some ⟨p,0,none⟩)]) name).run Tryz.prog w=.ok (f,.pointer (some ⟨p,0,none⟩)) w:=by
 obtain ⟨n,hn⟩:=fuel;rw[hn];rcases h with h|h<;>(simp only[Prod.mk.injEq] at h;obtain ⟨rfl,rfl⟩:=h;exact eU (n:=n+1) true underlying88 rfl rfl (fun _=>by kernel_rfl) (by kernel_rfl) rfl (jT underlying81))
theorem tK.lt {B q p:Nat} {w:World} {fp:Nat→Prop} {σ:List Cell} (h:tK B q p w fp σ):∀ k,fp k→B≤k∧k<w.heap.size:=by
 obtain ⟨v,fk,kv,x3,x4,x5,x6,x7,x8,hp,Aa,hR,Ej,n1,n2,n3,n4,n5,Aj,hB,hw⟩:=h;intro k hk
 refine ⟨hB k hk,?_⟩;rcases (Aj k).1 hk with rfl|hk|hk|hk
 · exact aC hp
 · exact aO Aa hk
 · rcases Ej with ⟨_,_,h⟩|⟨_,_,_,h⟩|⟨_,_,h⟩<;>exact aO h hk
 · exact ((bW B q).lo hR k hk).2
theorem tK.aW {B q p:Nat} {w w':World} {fp:Nat→Prop} {σ:List Cell} (h:tK B q p w fp σ) (hk:∀ k,fp k→w'.heap[k]?=w.heap[k]?):tK B q p w' fp σ:=by
 obtain ⟨v,fk,kv,x3,x4,x5,x6,x7,x8,hp,Aa,hR,Ej,n1,n2,n3,n4,n5,Aj,hB,hw⟩:=h
 have ow:∀ {e:TypeId} {size:Nat} {v:Value} {n:Nat} {xs:List Value},w.ownsRow 0 e size v n xs→(∀ k,v.ownBlock=some k→fp k)→w'.ownsRow 0 e size v n xs:=by
  intro e size v n xs ho hv
  refine ⟨ho.1,?_⟩;rcases ho.2 with h0|⟨g,cap,cur,rfl,hb,GX,rest⟩
  · exact .inl h0
  · exact .inr ⟨g,cap,cur,rfl,hb,(hk g (hv g rfl)).trans GX,rest⟩
 have Fq:∀ k,kv.ownBlock=some k→fp k:=fun k h=>(Aj k).2 (.inr (.inr (.inl h)))
 refine ⟨v,fk,kv,x3,x4,x5,x6,x7,x8,(hk p ((Aj p).2 (.inl rfl))).trans hp,ow Aa (fun k h=>(Aj k).2 (.inr (.inl h))),(bW B q).frame hR (fun k h=>hk k ((Aj k).2 (.inr (.inr (.inr h))))),?_,n1,n2,n3,n4,n5,Aj,hB,hw⟩;rcases Ej with ⟨h1,h2,h⟩|⟨h1,h2,h3,h⟩|⟨h1,h2,h⟩
 · exact .inl ⟨h1,h2,ow h Fq⟩
 · exact .inr (.inl ⟨h1,h2,h3,ow h Fq⟩)
 · exact .inr (.inr ⟨h1,h2,ow h Fq⟩)
theorem aFK (B q p:Nat):ColSpec Tryz.prog B 88 (.agg #[.pointer (some ⟨p,0,none⟩)]) .low [1,0,0,0,0,0,0,0] (iJ B q p) (tK B q p) where
 lo:=fun h=>h.lt
 lo':=fun h=>h.lt
 frame:=fun h hk=>h.aW hk
 frame':=fun h hk=>h.aW hk
 append:=by
  intro w fp σ c vs h AQ hw;have hc:=AQ.small;obtain ⟨ia,il,ic,ka,kl,kc,rfl,-⟩:=AQ.open
  exact aF.of1 (vS p w _ _ (.inl rfl)) call242 (aCe B q p w fp σ h c ia il ic ka kl kc hc hw)
 appendArr:=by
  intro w fp σ cs v xs h hs A8 hw
  exact aF.of1 (vS p w _ _ (.inr rfl)) call243 (wR B q p w fp σ h cs v xs hs A8 hw)
 rows:=by
  intro w fp σ h;obtain ⟨v,fk,hp,Aa,_⟩:=h;obtain ⟨a,c,rfl⟩:=ownsRow_shape Aa
  exact aF.of0 (vU p w _ _ _ _ _ _ _ _ _ _ hp _ _ (.inl rfl) rfl) call215 (jX w a _ c q _ _ _ _ _ _ _)
 flat:=by rintro w name (rfl|rfl|rfl) n m<;>exact kK (by kernel_rfl) (n+1) (m+1)
 ahead:=fun w=>by kernel_rfl
 prepare:=⟨true,fun x w=>run_typeAssert_hasB underlying102 (by kernel_rfl) _ x w,fun {w fp σ} h=>by
  simp only[if_true]
  exact aF.of0 (vT p w _ _ (.inl rfl)) call212 (aDA B q p w fp σ h)⟩
 state:=⟨true,fun x w=>run_typeAssert_hasB underlying172 (by kernel_rfl) _ x w,by
  simp only[if_true];intro w fp σ b fb bs h hb hd hl;obtain ⟨v,fk,kv,x3,x4,x5,x6,x7,x8,hp,Aa,hR,Ej,n1,n2,n3,n4,n5,Aj,hB,hw⟩:=h
  exact aF.of1 (vU p w _ _ _ _ _ _ _ _ _ _ hp _ _ (.inr rfl) rfl) call211 (aIM B q w fk _ hR _ _ _ _ _ _ _ _ b fb bs hb (fun k hk=>hd k ((Aj k).2 (.inr (.inr (.inr hk))))) hl)⟩
 encode:=by
  intro w fp σ b fb bs h hw hb hd hl
  exact aF.of1 (vT p w _ _ (.inr rfl)) call210 (aFG B q p w fp σ h b fb bs hb hd hl)
theorem cells9 {w:World} {q:Nat} {x0 x1 x2 x3 x4 x5 x6 x7 x8:Value} {t:TypeId} (h:w.heap[q]?=some (.cells #[x0,x1,x2,x3,x4,x5,x6,x7,x8] t (0,0))) :
 w.cell? ⟨q,0,none⟩=some x0∧w.cell? ⟨q,1,none⟩=some x1∧w.cell? ⟨q,2,none⟩=some x2∧w.cell? ⟨q,3,none⟩=some x3∧w.cell? ⟨q,4,none⟩=some x4∧w.cell? ⟨q,5,none⟩=some x5∧w.cell? ⟨q,6,none⟩=some x6∧w.cell? ⟨q,7,none⟩=some x7∧w.cell? ⟨q,8,none⟩=some x8:=by
 refine ⟨?_,?_,?_,?_,?_,?_,?_,?_,?_⟩<;>(rw[cell_of_row _ _ _ _ _ _ h];rfl)
theorem aLe (B q:Nat):aEu Tryz.prog 86 (.agg #[.iface 154 (rX q)]) .str (jY B q) (jY B q) :=
 aLC (kV B q) (aDQ B q) fun c hc=>by obtain ⟨s,rfl⟩:=hc;rfl
theorem aLK (B q p x:Nat) (w:World) (fk:Nat→Prop) (idx:List Cell) (hR:jY B q w fk idx) (κ:Nat) (hκ:κ=0∨κ=1∨κ=2) (hx:w.cell? ⟨x,0,none⟩=some (.pointer (some ⟨p,0,none⟩))) (h1:w.cell? ⟨p,1,none⟩=some (jW q)) (h2:w.cell? ⟨p,2,none⟩=some (.int .u8 κ))
 (b:Nat) (fb:Nat→Prop) (bs:List UInt8) (hb:Buf w b fb bs) (Jv:¬ fb x) (Dt:¬ fb p) (hd:∀ k,fk k→¬ fb k) (hl:bs.length+16≤1099511627776) (hi:idx.length≤2147483648) :
 Calls Tryz.prog 227 #[.pointer (some ⟨b,0,none⟩),.pointer (some ⟨x,0,none⟩)] w fun e w'=>e=.returned (.tuple #[])∧mQ w b fb bs (Lib.leBytes 8 (1536+κ)++Lib.leBytes 8 idx.length) w':=by
 have Uw:=lF w b fb bs hb (1536+κ) (by omega) (by omega);have AC:=(bW B q).lo hR;have Il:=fun w1 (Ad:Fr fb w w1)=>(bW B q).rows ((bW B q).frame (w':=w1) hR fun k hk=>Ad.block k (AC k hk).2 (hd k hk))
 have Gt:=Lib.hid @Il;clear Il;rcases hκ with rfl|rfl|rfl
 all_goals
  go_enter func227,ntmps227
  go_wp2_with (first
   | (go_at_call 218;refine Uw.mono ?_;rintro e w2 ⟨rfl,Ae,fb2,Bj,BJ,JW⟩;have m_0:=Ae.aA hx Jv;have m_1:=Ae.aA h1 Dt;have Fz:=Gt.out w2 Ae)
   | ((with_reducible show wpList _ _ _ (⟨some 18,_,_,_,_,_⟩ :: _) _ _);refine aT _ rfl _ _ _ _ rfl _ _ rfl Fz rfl ?_;rintro e w3 ⟨rfl,AV⟩;refine ⟨_,rfl,?_⟩;have EY:=Buf.quiet Bj AV;have Hl:=lF w3 b fb2 _ EY idx.length (by omega) (by rw[length_append,Lib.leBytes_length];omega))
   | (go_at_call 218;refine Hl.mono ?_;rintro e w4 ⟨rfl,h4⟩))
  go_end0
  exact ⟨rfl,mQ.then hb Ae Bj BJ JW (mQ.from AV Bj h4)⟩
theorem aLL (p x:Nat) (w:World) (q n c:Nat) (a:Option Addr) (x2 x3 x4 x5 x6 x7 x8:Value) (hx:w.cell? ⟨x,0,none⟩=some (.pointer (some ⟨p,0,none⟩))) (hp:w.heap[p]?=some (.cells #[.slice a n c,jW q,x2,x3,x4,x5,x6,x7,x8] 142 (0,0)))
 (b:Nat) (fb:Nat→Prop) (bs:List UInt8) (hb:Buf w b fb bs) (hl:bs.length≤1099511627776) (hn:n≤2147483648) :
 Calls Tryz.prog 228 #[.pointer (some ⟨b,0,none⟩),.pointer (some ⟨x,0,none⟩)] w fun e w'=>e=.returned (.tuple #[])∧mQ w b fb bs (Lib.leBytes 8 n) w':=by
 obtain ⟨k_0,k_1,k_2,k_3,k_4,k_5,k_6,k_7,k_8⟩:=cells9 hp;have Ag:=jX w a n c q x2 x3 x4 x5 x6 x7 x8;clear hp;go_enter func228,ntmps228
 go_wp2_with (first
  | (go_at_call 215;refine Ag.mono ?_;rintro e w1 ⟨rfl,Ad⟩;have AO:=lF w1 b fb bs (Buf.quiet hb Ad) n (by omega) hl)
  | (go_at_call 218;refine AO.mono ?_;rintro e w2 ⟨rfl,h2⟩))
 go_end0
 exact ⟨rfl,mQ.from Ad hb h2⟩
theorem aIN (B q p:Nat) (w:World) (fp:Nat→Prop) (σ:List Cell) (h:tK B q p w fp σ) {conn:Value} {ps pw:Nat} {fw:Nat→Prop} {n:Nat} {out:List UInt8} (hb:eG conn ps pw w fw n out) (hd:∀ k,fp k→¬ fw k∧k≠ps) (hl:out.length+(enc .low σ).length≤1099511627776) (hn:n+pcs .low≤1000000000) :
 Calls Tryz.prog 217 #[.pointer (some ⟨p,0,none⟩),.pointer (some ⟨pw,0,none⟩)] w (iR conn ps pw w fw (n+pcs .low) (out++enc .low σ)):=by
 obtain ⟨v,fk,kv,x3,x4,x5,x6,x7,x8,hp,Aa,hR,Ej,n1,n2,n3,n4,n5,Aj,hB,hw⟩:=h;obtain ⟨a0,c0,rfl⟩:=ownsRow_shape Aa;have AZ:=aC hp;have Ur:pcs .low=4:=rfl;have EO:(dA (aS [] σ) σ).length=σ.length:=length_map _;have DD:=hb.lt;generalize hW:w.alloc (.cells #[.pointer (some ⟨p,0,none⟩)] 81)=W;have Aw:F0 w W:=by subst hW;exact (Fr.refl _ w).alloc _
 have D6:W.heap.size=w.heap.size+1:=by subst hW;simp
 have YS:W.cell? ⟨w.heap.size,0,none⟩=some (.pointer (some ⟨p,0,none⟩)):=by subst hW;rw[aB rfl];rfl
 have Ef:=(Aw.block p AZ (fun h=>h)).trans hp
 by_cases hσ:σ=[]
 · have he:enc .low σ=[]:=by rw[hσ,enc];rfl
   have h0:σ.length=0:=by rw[hσ];rfl
   rw[he,append_nil];generalize dV (aS [] σ).length=κ at Ef;rw[h0] at Ef;obtain ⟨k_0,k_1,k_2,k_3,k_4,k_5,k_6,k_7,k_8⟩:=cells9 Ef;have Ag:=jX W a0 0 c0 q (.int .u8 κ) x3 x4 x5 x6 x7 x8;clear Aj hB n1 n2 n3 n4 n5 Ej hR hσ he h0 hp Ef Aa EO;subst hW;go_enter func217,ntmps217
   go_wp2_with (go_at_call 215;refine Ag.mono ?_;rintro e w1 ⟨rfl,Ad⟩)
   try simp only[Exit.inBlock,Exit.then]
   refine bodyPost_ret (results_none rfl _ _ _) rfl ?_
   have CX:F0 w w1:=Aw.trans Ad (fun _ _ h=>h)
   exact ⟨rfl,CX.mono (fun _ _ h=>h.elim),fw,(hb.quiet CX).more (Nat.le_add_right _ _),fun q hq=>.inl hq⟩
 · have hσl:σ.length≠0:=fun h=>hσ (eq_nil_of_length_eq_zero h)
   have hσz:¬ (σ.length:Int)=0:=by omega
   have QC:=bF σ;have Fa:=gK σ [];have Ht:=iZ σ [];simp only[wts,length_nil,Nat.zero_add] at Fa Ht;have Ci:=mF (aS [] σ) σ (by omega);rw[aHf σ hσ] at hl ⊢;simp only[length_append,oO,Lib.leBytes_length] at hl;have Oe:¬ fw p:=(hd p ((Aj p).2 (.inl rfl))).1;have Qa:¬ fw w.heap.size:=fun h=>by have:=DD _ h;omega
   have DW:∀ k,fk k→(¬ fw k∧k≠ps)∧k<w.heap.size:=fun k hk=>⟨hd k ((Aj k).2 (.inr (.inr (.inr hk)))),((bW B q).lo hR k hk).2⟩
   have GG:∀ k,kv.ownBlock=some k→¬ fw k∧k≠ps:=fun k hk=>hd k ((Aj k).2 (.inr (.inr (.inl hk))))
   have hκ:dV (aS [] σ).length=0∨dV (aS [] σ).length=1∨dV (aS [] σ).length=2:=by
    unfold dV
    split
    · exact .inl rfl
    · split
      · exact .inr (.inl rfl)
      · exact .inr (.inr rfl)
   have Il:=fun w1 (Ad:Fr fw w w1)=>(bW B q).frame (w':=w1) hR fun k hk=>Ad.block k (DW k hk).2 (DW k hk).1.1
   have Ag:=jX W a0 σ.length c0 q (.int .u8 (dV (aS [] σ).length:Nat)) x3 x4 x5 x6 x7 x8
   have QY:∃ (F:Nat) (a1:Option Addr) (c1:Nat),((F=198∧dV (aS [] σ).length=0∧x3=.slice a1 σ.length c1)∨(F=229∧dV (aS [] σ).length=1∧x4=.slice a1 σ.length c1)∨(F=230∧dV (aS [] σ).length=2∧x5=.slice a1 σ.length c1)) ∧
    ∀ w1 fw1 n1 out1,Fr fw w w1→eG conn ps pw w1 fw1 n1 out1→(∀ y,y<w.heap.size→¬ fw y→¬ fw1 y)→out1.length+lowWide (aS [] σ).length*σ.length≤1099511627776→n1≤1000000000 →
     Calls Tryz.prog F #[.slice a1 σ.length c1,.pointer (some ⟨pw,0,none⟩)] w1 (iR conn ps pw w1 fw1 (n1+2) (out1++σ.flatMap fun c=>Lib.leBytes (lowWide (aS [] σ).length) ((aS [] σ).findIdx (fE c)))):=by
    rcases Ej with ⟨hN,rfl,hk⟩|⟨hN,JP,rfl,hk⟩|⟨hN,rfl,hk⟩
    all_goals
     rw[EO] at hk;obtain ⟨a1,c1,rfl⟩:=ownsRow_shape hk;have DT:=fun k (e:(Value.slice a1 σ.length c1).ownBlock=some k)=>aO hk e
     have Ji:((dA (aS [] σ) σ).map dK).length=σ.length:=by rw[length_map,EO]
    · have e2:lowWide (aS [] σ).length=1:=if_pos hN
      rw[e2,← jO 1 (by decide)]
      refine ⟨_,a1,c1,.inl ⟨rfl,if_pos hN,rfl⟩,fun w1 fw1 n1 out1 hf CG hg OL JY=>?_⟩;have:=aAb CG a1 c1 ((dA (aS [] σ) σ).map dK) (by rw[Ji];exact hf.owns hk fun k e=>(GG k e).1) (by rw[Ji];exact fun k e=>⟨hg k (DT k e) (GG k e).1,(GG k e).2⟩) (by omega) JY;rw[Ji] at this
      exact this
    · have e2:lowWide (aS [] σ).length=2:=by unfold lowWide;rw[if_neg (by omega),if_pos JP]
      rw[e2,← jO 2 (by decide)]
      refine ⟨_,a1,c1,.inr (.inl ⟨rfl,by unfold dV;rw[if_neg (by omega),if_pos JP],rfl⟩),fun w1 fw1 n1 out1 hf CG hg OL JY=>?_⟩;have:=aBt CG a1 c1 ((dA (aS [] σ) σ).map dK) (by rw[Ji];exact hf.owns hk fun k e=>(GG k e).1) (by rw[Ji];exact fun k e=>hg k (DT k e) (GG k e).1) Ci (by rw[aY _ 2 (aV 2 (by omega)),Ji];exact OL);rw[Ji] at this
      exact this.mono fun e w' ⟨h1,h2,fw',h3,h4⟩=>⟨h1,h2,fw',h3.more (by omega),h4⟩
    · have e2:lowWide (aS [] σ).length=4:=by unfold lowWide;rw[if_neg (by omega),if_neg (by omega)]
      rw[e2,← jO 4 (by decide)]
      refine ⟨_,a1,c1,.inr (.inr ⟨rfl,by unfold dV;rw[if_neg (by omega),if_neg (by omega)],rfl⟩),fun w1 fw1 n1 out1 hf CG hg OL JY=>?_⟩;have:=aBv CG a1 c1 ((dA (aS [] σ) σ).map dK) (by rw[Ji];exact hf.owns hk fun k e=>(GG k e).1) (by rw[Ji];exact fun k e=>hg k (DT k e) (GG k e).1) Ci (by rw[aY _ 4 (aV 4 (by omega)),Ji];exact OL);rw[Ji] at this
      exact this.mono fun e w' ⟨h1,h2,fw',h3,h4⟩=>⟨h1,h2,fw',h3.more (by omega),h4⟩
   obtain ⟨F,a1,c1,hF,QY⟩:=QY;generalize (σ.flatMap fun c=>Lib.leBytes (lowWide (aS [] σ).length) ((aS [] σ).findIdx (fE c)))=KB at QY ⊢;generalize lowWide (aS [] σ).length*σ.length=kl at QY hl;generalize aS [] σ=idx at *;generalize dV idx.length=κ at *
   have SL:=fun w1 (hf:F0 W w1)=>((hb.quiet Aw).quiet hf).chain (l:=Lib.leBytes 8 (1536+κ)++Lib.leBytes 8 idx.length) (cb:=.func (.func 227) #[] #[.pointer (some ⟨w.heap.size,0,none⟩)]) fun b fb bs VZ CJ Gf =>
    bM.func1 call227 (by
     have DL:=(hf.block p (aC Ef) (fun h=>h)).trans Ef;obtain ⟨k_0,k_1,k_2,-⟩:=cells9 DL
     exact aLK B q p w.heap.size w1 fk idx (Il w1 ((Aw.trans hf (fun _ _ h=>h)).mono fun _ _ h=>h.elim)) _ hκ (hf.aA YS (fun h=>h)) k_1 k_2 b fb bs VZ (fun h=>Qa (CJ _ h)) (fun h=>Oe (CJ _ h)) (fun k hk h=>(DW k hk).1.1 (CJ k h)) (by omega) (by omega))
   have SN:=Lib.hid SL;have Xe:=Lib.hid QY;have Gt:=Lib.hid @Il;have TL:wts idx≤2147483648:=by omega
   have Gp:=fun w3 fw3 n3 out3 (VE:eG conn ps pw w3 fw3 n3 out3) (hx:w3.cell? ⟨w.heap.size,0,none⟩=some (.pointer (some ⟨p,0,none⟩))) (IC:w3.heap[p]?=W.heap[p]?) (ho:out3.length≤1099511627776)=>VE.chain (l:=Lib.leBytes 8 σ.length) (cb:=.func (.func 228) #[] #[.pointer (some ⟨w.heap.size,0,none⟩)]) fun b fb bs VZ CJ Gf =>
    bM.func1 call228 (aLL p w.heap.size w3 q σ.length c0 a0 _ _ _ _ _ _ _ hx (IC.trans Ef) b fb bs VZ (by omega) (by omega))
   have Qn:=Lib.hid @Gp;clear SL QY Il Ej hR Gp Aj hB n1 n2 n3 n4 n5 GG hd hp Aa EO Ci Fa Ht QC;rcases hF with ⟨rfl,rfl,rfl⟩|⟨rfl,rfl,rfl⟩|⟨rfl,rfl,rfl⟩
   all_goals
    obtain ⟨k_0,k_1,k_2,k_3,k_4,k_5,k_6,k_7,k_8⟩:=cells9 Ef;have Qk:=Lib.hid Ef;clear Ef;subst hW;go_enter func217,ntmps217
    go_wp2_with (first
     | (go_at_call 215;refine Ag.mono ?_;rintro e w1 ⟨rfl,Ad⟩;have DL:=(Ad.block p (aC Qk.out) (fun h=>h)).trans Qk.out;obtain ⟨l_0,l_1,l_2,l_3,l_4,l_5,l_6,l_7,l_8⟩:=cells9 DL;have l_x:=Ad.aA YS (fun h=>h);have Uk:=Lib.hid DL;clear DL;have Hu:=SN.out w1 Ad)
     | (go_at_call 176;refine Hu.mono ?_;clear Hu;rintro e w2 ⟨rfl,Ae,fw2,Gs,BJ⟩;have GI:=(Ae.block p (aC Uk.out) Oe).trans Uk.out;obtain ⟨m_0,m_1,m_2,m_3,m_4,m_5,m_6,m_7,m_8⟩:=cells9 GI;have m_x:=Ae.aA l_x Qa;have Ul:=Lib.hid GI;have BN:=Ad.size;have EW:=Ae.size;have Dl:Fr fw w w2:=((Aw.trans Ad (fun _ _ h=>h)).mono (fun _ _ h=>h.elim)).trans Ae (fun _ _ h=>h);have PY:∀ y,y<w.heap.size+1→¬ fw y→¬ fw2 y:=(fun y hy hn h=>(BJ y h).elim hn (fun h=>by omega));have Yw:=(aLe B q).write (Gt.out w2 Dl) TL Gs (fun k hk=>⟨PY k (by have:=(DW k hk).2;omega) (DW k hk).1.1,(DW k hk).1.2⟩) (by simp only[length_append,Lib.leBytes_length];omega) (by show n+2≤_;omega);have OT:=Lib.hid PY;have TC:=Lib.hid BJ;clear GI PY BJ)
     | ((with_reducible show wpList _ _ _ (⟨some 17,_,_,_,_,_⟩ :: _) _ _);refine aT _ rfl _ _ _ _ rfl _ _ rfl Yw rfl ?_;clear Yw;rintro e w3 ⟨rfl,AV,fw3,VE,EU⟩;refine ⟨_,rfl,?_⟩;have IC:=(AV.block p (aC Ul.out) (OT.out p (by omega) Oe)).trans Ul.out;have IJ:=AV.size;have n_x:=AV.aA m_x (OT.out _ (Nat.lt_succ_self _) Qa);have ES:Fr fw w w3:=Dl.trans AV (fun y hy h=>(TC.out y h).resolve_right (by omega));have EF:∀ y,fw3 y→fw y∨w.heap.size+1≤y:=(fun y h=>(EU y h).elim (fun h=>(TC.out y h).imp id (fun h=>by omega)) (fun h=>.inr (by omega)));have VG:=Qn.out w3 fw3 _ _ VE n_x (IC.trans Qk.out.symm) (by simp only[length_append,Lib.leBytes_length];omega);have JV:=Lib.hid EF;have Um:=Lib.hid IC;clear EF IC EU)
     | (go_at_call 176;refine VG.mono ?_;clear VG;rintro e w4 ⟨rfl,BU,fw4,lm,EZ⟩;have Vy:=(BU.block p (aC Um.out) (fun h=>(JV.out p h).elim Oe (fun h=>by omega))).trans Um.out;have V4:=BU.size;obtain ⟨o_0,o_1,o_2,o_3,o_4,o_5,o_6,o_7,o_8⟩:=cells9 Vy;have o_x:=BU.aA n_x (fun h=>(JV.out _ h).elim Qa (Nat.not_succ_le_self _));have GR:Fr fw w w4:=ES.trans BU (fun y hy h=>(JV.out y h).resolve_right (by omega));have Es:∀ y,fw4 y→fw y∨w.heap.size+1≤y:=(fun y h=>(EZ y h).elim (JV.out y) (fun h=>.inr (by omega)));have YU:=Xe.out w4 fw4 _ _ GR lm (fun y hy hn h=>(Es y h).elim hn (fun h=>by omega)) (by simp only[length_append,Lib.leBytes_length];omega) (by show n+2≤_;omega);have OG:=Lib.hid Es;clear Es Vy EZ)
     | ((first|go_at_call 198|go_at_call 229|go_at_call 230);refine YU.mono ?_;clear YU;rintro e w5 ⟨rfl,BP,fw5,lq,KI⟩))
    go_end0
    exact ⟨rfl,GR.trans BP (fun y hy h=>(OG.out y h).resolve_right (by omega)),fw5,eG.more (n:=n+pcs .str+2) (by simpa [append_assoc] using lq) (show n+2+2≤n+4 by omega),fun y h=>(KI y h).elim (fun h=>(OG.out y h).imp id (fun h=>by omega)) (fun h=>.inr (by omega))⟩
theorem aPa (w:World) (v:Value) (x1 x2 x3 x4 x5 x6 x7 x8:Value) (σ:List Cell) (Aa:w.ownsRow 0 84 5 v σ.length (σ.flatMap bV)) (k:Nat) (hk:k<σ.length) :
 Calls Tryz.prog 214 #[.agg #[v,x1,x2,x3,x4,x5,x6,x7,x8],.int .i64 k] w fun e w'=>e=.returned (.agg (bV σ[k]).toArray)∧F0 w w':=by
 rcases Aa.2 with ⟨rfl,h0⟩|⟨g,cap,cur,rfl,-⟩
 · omega
 · have hx:∀ j,j<5→w.cell? ⟨g,k*5+j,none⟩=(bV σ[k])[j]?:=fun j hj=>by
    have e:=yF σ k hk j hj;obtain ⟨u,hu⟩:∃ u,(bV σ[k])[j]?=some u:=⟨_,getElem?_eq_getElem hj⟩;have:=Aa.cells (g:=g) rfl _ u (e.trans hu);rw[Addr.add_lit,Nat.zero_add] at this;rw[this,hu]
   have y0:=hx 0 (by omega);have y1:=hx 1 (by omega);have y2:=hx 2 (by omega);have y3:=hx 3 (by omega);have y4:=hx 4 (by omega);generalize σ[k]=c at y0 y1 y2 y3 y4 ⊢;unfold bV at y0 y1 y2 y3 y4;simp only[getElem?_cons_zero,getElem?_cons_succ,Nat.add_zero] at y0 y1 y2 y3 y4;have Gz:(k:Int)<σ.length:=by omega
   have hg:=World.block_lt_of_cell? w _ y0;simp only at hg;clear hx Aa;go_enter func214,ntmps214;go_wp2
   refine bodyPost_ret (by simp[results,results214,go_sem];try rfl) rfl ?_
   exact ⟨rfl,((Fr.refl _ w).alloc _).alloc _⟩
theorem aIO (B q p:Nat) (w:World) (fp:Nat→Prop) (σ:List Cell) (h:iJ B q p w fp σ) (k:Nat) (hk:k<σ.length) :
 Calls Tryz.prog 244 #[.agg #[.pointer (some ⟨p,0,none⟩)],.int .i64 k] w fun e w'=>∃ c xs,e=.returned (.agg xs.toArray)∧F0 w w'∧bZ (New w w') w' c xs∧(Made .low σ[k]→c=σ[k]):=by
 obtain ⟨v,fk,hp,Aa,hR,n1,n2,n3,Aj,hB,CE,GL⟩:=h;have Ag:=fun W (Aw:F0 w W)=>aPa W v (jW q) (.int .u8 0) (.slice none 0 0) (.slice none 0 0) (.slice none 0 0) (.slice none 0 0) (.map none) (.slice none 0 0) σ (Aw.owns Aa (fun _ _ h=>h)) k hk
 obtain ⟨a1,c1,rfl⟩:=ownsRow_shape Aa;have AZ:=aC hp;obtain ⟨k_0,k_1,k_2,k_3,k_4,k_5,k_6,k_7,k_8⟩:=cells9 hp;have Pg:=CE _ (getElem_mem hk);have G7:Made .low σ[k]→σ[k].keyed=σ[k]:=by rintro ⟨s,e⟩;rw[e];rfl
 generalize σ[k]=c at Ag Pg G7 ⊢;have Bq:=Lib.hid Ag;clear Ag hp Aa hR CE;have NC:=fun w:World=>((Fr.refl (fun _=>False) w).alloc (.cells #[.pointer (some ⟨p,0,none⟩)] 88)).alloc (.cells #[.int .u64 0,.int .u64 0,.int .u64 0,.int .u64 0,.string ⟨#[]⟩,.bool false,.slice none 0 0,.slice none 0 0] 35)
 have hz:∀ w1,F0 ((w.alloc (.cells #[.pointer (some ⟨p,0,none⟩)] 88)).alloc (.cells #[.int .u64 0,.int .u64 0,.int .u64 0,.int .u64 0,.string ⟨#[]⟩,.bool false,.slice none 0 0,.slice none 0 0] 35)) w1 →
  w1.heap[w.heap.size+1]?=some (.cells #[.int .u64 0,.int .u64 0,.int .u64 0,.int .u64 0,.string ⟨#[]⟩,.bool false,.slice none 0 0,.slice none 0 0] 35 (0,0)):=fun w1 Ad=>Ad.made (by simp)
 unfold bV at Bq;go_enter func244,ntmps244
 go_wp2_with (first
  | (go_at_call 214;refine (Bq.out _ (((Fr.refl _ w).alloc _).alloc _)).mono ?_;rintro e w1 ⟨rfl,Ad⟩)
  | (go_at_call 239;refine (oV w1 _ _ _ _ _).mono ?_;rintro e w2 ⟨rfl,Ae⟩;have E5:=hz w2 (Ad.trans Ae (fun _ _ h=>h));obtain ⟨c0,c1,c2,c3,c4,c5,c6,c7⟩:=bD.eight (bD.of_block E5);have z0:=fzj 0 E5;have z1:=fzj 1 E5;have z2:=fzj 2 E5;have z3:=fzj 3 E5;have z4:=fzj 4 E5;have z5:=fzj 5 E5;have z6:=fzj 6 E5;have z7:=fzj 7 E5))
 refine bodyPost_ret (by simp[results,results244,go_sem,c0,c1,c2,c3,c4,c5,c6,c7];try rfl) rfl ?_
 exact ⟨c.keyed,_,rfl,and_assoc.1 ⟨New.fin (lL _ w1 Pg) (NC w).size ((NC w).trans Ad fun _ _ h=>h) Ae (by simp) (Nat.le_succ _) (Fr.zF _ _ _ _ _ _ _ _),G7⟩⟩
theorem aDB (p:Nat) (w:World):(method mdp 88 (.agg #[.pointer (some ⟨p,0,none⟩)]) "Row").run Tryz.prog w=.ok (244,.agg #[.pointer (some ⟨p,0,none⟩)]) w:=by kernel_rfl
theorem aFJ (p:Nat) (w:World):(method mdp 88 (.agg #[.pointer (some ⟨p,0,none⟩)]) "WriteColumn").run Tryz.prog w=.ok (217,.pointer (some ⟨p,0,none⟩)) w:=by
 obtain ⟨n,hn⟩:=fuel;rw[hn]
 exact eU (n:=n+1) true underlying88 rfl rfl (fun _=>by kernel_rfl) (by kernel_rfl) rfl (jT underlying81)
theorem aFI (B q p:Nat):ColW Tryz.prog 88 (.agg #[.pointer (some ⟨p,0,none⟩)]) .low (iJ B q p) (tK B q p) where
 write:=fun {_ _ _ w fp σ _ _ _} h _ CY hd hl hn=>aF.of1 (aFJ p w) call217 (aIN B q p w fp σ h CY hd hl hn)
 row:=fun {w fp σ k} hk h _=>aF.of1 (aDB p w) call244 (aIO B q p w fp σ h k hk)
def aHb (w:World) (e:Ending) (w':World):Prop :=
 ∃ q,e=.returned (.iface 154 (rX q))∧jY w.heap.size q w' (fun k=>k=q) []∧Below w.heap.size w w'
theorem yZ (w:World) (nm:ByteArray) (hl:nm.toList=[83,116,114,105,110,103]):Calls Tryz.prog 36 #[.string nm,.slice none 0 0] w (aHb w):=by
 go_enter func36,ntmps36;go_wp2;go_ret
 refine ⟨w.heap.size,rfl,⟨⟨.slice none 0 0,.slice none 0 0,heap_alloc_new w _,World.ownsRow_nil _ _ _ _,World.ownsRow_nil _ _ _ _,by simp[Value.ownBlock],by simp[Value.ownBlock],by simp[Value.ownBlock],fun k=>by simp[Value.ownBlock]⟩,fun k hk=>by omega,by simp⟩,(Below.refl _ w).alloc (Nat.le_refl _) _⟩
theorem aAF (w:World):Calls Tryz.prog 23 #[.string (bJ [83,116,114,105,110,103])] w (aHb w):=by
 have Hf:=rU w (bJ [83,116,114,105,110,103]) (by rw[lJ];exact index_none _ (by unfold gI;decide));have hp:=yZ w (bJ [83,116,114,105,110,103]) (cZ _);have hl:=cZ [83,116,114,105,110,103];generalize bJ [83,116,114,105,110,103]=nm at Hf hl hp;go_enter func23,ntmps23
 go_wp2_with (go_at_call 31;refine Hf.mono ?_;rintro e w1 ⟨rfl,rfl⟩)
 go_loop [21] (fun i=>i=.int .i64 0) (fun _=>0)
 case atStart=>exact rfl
 case round =>
  subst hrel
  go_wp2_with (go_at_call 36;refine hp.mono ?_;rintro e w2 ⟨q,rfl,EQ⟩)
  go_ret
  exact ⟨q,rfl,EQ⟩
theorem aFR (t:TypeId) (u:Value) (w:World):Calls Tryz.prog 34 #[.iface t u] w fun e w'=>e=.returned (.pointer (some ⟨w.heap.size,0,none⟩))∧w'=w.alloc (.cells #[.slice none 0 0,.iface t u,.int .u8 0,.slice none 0 0,.slice none 0 0,.slice none 0 0,.slice none 0 0,.map none,.slice none 0 0] 142):=by
 go_enter func34,ntmps34;go_wp2;go_ret
 exact ⟨rfl,rfl⟩
theorem aMv:iE .low:=by
 intro w Dk
 have Hf:Calls Tryz.prog 31 #[.string (bJ (text .low))] w (lT [76,111,119,67,97,114,100,105,110,97,108,105,116,121] [[83,116,114,105,110,103]] w):=by
  rw[text]
  exact jF w Dk [76,111,119,67,97,114,100,105,110,97,108,105,116,121] [83,116,114,105,110,103] [[83,116,114,105,110,103]] (by unfold gI;decide) (by simp) (by decide) (lS (iM (by unfold gI;decide) (by simp)))
 generalize bJ (text .low)=txt at Hf;go_enter func23,ntmps23
 go_wp2_with (go_at_call 31;refine Hf.mono ?_;rintro e w1 ⟨nm,v,rfl,hl,⟨Aa,Ai⟩,hb⟩;obtain ⟨av,cv,rfl⟩:=ownsRow_shape Aa)
 simp only[length_singleton] at Aa Ai ⊢
 go_loopw [5,21] (fun l i wr=>Below w1.heap.size w1 wr∧(i=.int .i64 0∧l=.slice none 0 0∨i=.int .i64 1∧∃ q,wr.ownsRow 0 59 1 l 1 [.iface 154 (rX q)]∧jY w1.heap.size q wr (fun k=>k=q) [])) (fun _ i _=>1 - (intOf i).toNat)
 case atStart=>exact ⟨Below.refl _ _,.inl ⟨rfl,rfl⟩⟩
 case round =>
  obtain ⟨Bf,SI⟩:=hrel;have CG:=Bf.size;rcases SI with ⟨rfl,rfl⟩|⟨rfl,q,Bo,hq⟩
  · have Ap:=(Below.fr Bf).owns Aa (fun _ _ h=>h)
    rcases Ap.2 with ⟨hv,h0⟩|⟨ga,capa,cura,hv,_,_,BF,AP,_⟩
    · simp at h0
    · simp only[Value.slice.injEq] at hv
      obtain ⟨rfl,_,rfl⟩:=hv;have Ac:=Ap.cells (g:=ga) rfl 0 (.string (bJ [83,116,114,105,110,103])) rfl;simp only[Addr.add_lit,Nat.add_zero] at Ac;have Bg:=aAF wr;unfold maxLen at AP;clear Ap Ai Aa;generalize bJ [83,116,114,105,110,103]=sn at Ac Bg
      go_wp2_with (first
       | (go_at_call 23;refine Bg.mono ?_;rintro e w2 ⟨q,rfl,hR,Bj⟩)
       | ((with_reducible show wpList _ _ _ (⟨some 32,_,_,_,_,_⟩ :: _) _ _);refine aP _ rfl qH _ _ rfl _ _ _ rfl (World.ownsRow_nil _ _ _ _) _ _ _ rfl (Src.ofSlice _ underlying72 _ _ _ _ rfl (bG _ [.iface 154 (rX q)] _) (by simp[Value.oneCell'])) ?_ ?_ ?_;(unfold maxLen;omega);omega;intro v' w3 ha;obtain ⟨a',c',rfl⟩:=ha.shape))
      go_roundw
      case rel =>
       have EW:=Bj.size;have BG:Below w1.heap.size w1 w3:=Bf.trans ((((Below.fr Bj).alloc _).mono (S':=fun q=>w1.heap.size≤q) (fun _ _ h=>h.elim)).grown ha.2.1 (fun q hq=>by cases hq) |>.below CG (fun q hq h=>by omega))
       refine ⟨BG,.inr ⟨rfl,q,ha.1,?_⟩⟩;have G8:=(kV wr.heap.size q);have Ar:=(G8.lo hR q rfl)
       refine (kV w1.heap.size q).frame (w:=w2) ⟨hR.1,fun k hk=>by have:=hR.2.1 k hk;omega,hR.2.2⟩ fun k hk=>?_
       subst hk
       exact (ha.2.1.block k (by simp;omega) (fun h=>by cases h)).trans (Below.heap_alloc _ _ _ Ar.2)
      case measure=>simp[intOf]
  · rcases Bo.2 with ⟨hv,h0⟩|⟨ga,capa,cura,hv,_,_,BF,AP,_⟩
    · omega
    · subst hv
      have Ac:=Bo.cells (g:=ga) rfl 0 (.iface 154 (rX q)) rfl;simp only[Addr.add_lit,Nat.add_zero] at Ac;have Ar:=(kV w1.heap.size q).lo hq q rfl;unfold maxLen at AP;clear Bo Aa Ai
      go_wp2_with (go_at_call 34;refine (aFR _ _ wr).mono ?_;rintro e w2 ⟨rfl,rfl⟩)
      go_ret;have BN:=hb.size;have X4:=(kV w1.heap.size q).frame hq (w':=wr.alloc (.cells #[.slice none 0 0,jW q,.int .u8 0,.slice none 0 0,.slice none 0 0,.slice none 0 0,.slice none 0 0,.map none,.slice none 0 0] 142)) fun k hk=>by subst hk;exact Below.heap_alloc _ _ _ Ar.2
      refine ⟨_,_,iJ w.heap.size q wr.heap.size,tK w.heap.size q wr.heap.size,fun x=>x=wr.heap.size∨x=q,rfl,by rw[st];exact ⟨aFK w.heap.size q wr.heap.size,aFI w.heap.size q wr.heap.size⟩,⟨.slice none 0 0,fun k=>k=q,heap_alloc_new wr _,World.ownsRow_nil _ _ _ _,⟨X4.1,fun k hk=>by have:=X4.2.1 k hk;omega,X4.2.2⟩,by simp[Value.ownBlock],fun h=>by have:=Ar.2;omega,by simp[Value.ownBlock],fun x=>by simp[Value.ownBlock],?_,by simp,by simp[wts]⟩,?_⟩
      · rintro x (rfl|rfl)
        · omega
        · omega
      · exact (hb.trans (Bf.mono BN)).alloc (by omega) _
end Go.Proofs.YtcidlnjpabgioaaGreatDoor
