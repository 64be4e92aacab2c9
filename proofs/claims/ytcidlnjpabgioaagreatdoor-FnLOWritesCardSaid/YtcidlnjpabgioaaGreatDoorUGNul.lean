import Derived.Test.YtcidlnjpabgioaaGreatDoorUGKd
import Derived.Test.YtcidlnjpabgioaaGreatDoorUGStr
set_option maxHeartbeats 2000000
set_option maxRecDepth 100000
namespace Go.Proofs.YtcidlnjpabgioaaGreatDoor
open Tryz List Go.RowKit
theorem aNk (w:World) (p:Nat) (cur:Array Value) (tc:TypeId) (n:Nat) (xs:List Value) (v:Value) (h0:cur[0]?=some v) (hp:w.heap[p]?=some (.cells cur tc (0,0))) (Aa:w.ownsRow 0 5 1 v n xs) (Am:v.ownBlock≠some p) (hn:n<2147483648) (x:Int) :
 Calls Tryz.prog 194 #[.pointer (some ⟨p,0,none⟩),.int .u8 x] w fun e w'=>e=.returned (.tuple #[])∧∃ v',w'.heap[p]?=some (.cells (cur.setIfInBounds 0 v') tc (0,0))∧w'.ownsRow 0 5 1 v' (n+1) (xs++[.int .u8 x])∧v'.ownBlock≠some p ∧
  (∀ k,v'.ownBlock=some k→v.ownBlock=some k∨w.heap.size≤k)∧Fr (fun k=>k=p∨v.ownBlock=some k) w w':=by
 obtain ⟨a0,c0,rfl⟩:=ownsRow_shape Aa;have AZ:=aC hp;have Ac:w.cell? ⟨p,0,none⟩=some (.slice a0 n c0):=by rw[cell_of_row _ _ _ _ _ _ hp,h0]
 have Be:Src Tryz.prog 1 128 (.slice (some ⟨w.heap.size,0,none⟩) 1 1) 1 [.int .u8 x] (w.alloc (.cells [.int .u8 x].toArray 5)) :=
  Src.ofSlice _ underlying128 _ _ _ _ rfl (bG _ _ _) (by simp[Value.oneCell'])
 go_enter func194,ntmps194
 go_wp2_with ((with_reducible show wpList _ _ _ (⟨some 10,_,_,_,_,_⟩ :: _) _ _);(refine aP _ rfl aNi _ _ rfl _ _ _ rfl (Aa.alloc _) _ _ _ rfl Be ?_ ?_ ?_);(unfold maxLen;omega);omega;intro v' w1 ha;obtain ⟨a',c',rfl⟩:=ha.shape;obtain ⟨A8,FN⟩:=eP hp Am ((Fr.refl _ w).alloc _) ha;have d2:w1.cell? ⟨p,0,none⟩=some (.slice a0 n c0):=(A8 0).trans h0;have f2:=FN 0;have hA:=dW (i:=0) hp Aa Am ((Fr.refl _ w).alloc _) ha)
 obtain ⟨GI,BR,Ic,Gg,BZ⟩:=hA;go_end0
 refine ⟨rfl,_,GI,BR,Ic,fun k hk=>?_,BZ⟩;rcases Gg with e|e
 · exact .inl (by rw[← e,hk])
 · rw[e] at hk
   simp only[Option.some.injEq] at hk;simp at hk
   exact .inr (by omega)
def mark (c:Cell):UInt8:=if c.null then 1 else 0
def nz (c:Cell):Cell:=if c.null then Cell.zero else c
theorem xG (t:Ty) (cs:List Cell):enc (.nul t) cs=cs.map mark++enc t (cs.map nz):=by rw[enc];rfl
theorem aPt (c:Cell):(nz c).wt≤c.wt:=by
 unfold nz
 split
 · rw[Cell.nS c]
   have h0:(⟨#[]⟩:ByteArray).size=0:=rfl;simp only[Cell.zero,Cell.wt,wts,h0];omega
 · exact Nat.le_refl _
theorem yT:∀ (cs:List Cell),wts (cs.map nz)≤wts cs
 | []=>Nat.le_refl _
 | c :: cs=>by
  have h1:=aPt c;have h2:=yT cs;rw[map_cons,wts,wts];omega
theorem bP.zero (B:Nat) (w:World):bP B w Cell.zero [.int .u64 0,.int .u64 0,.int .u64 0,.int .u64 0,.string ⟨#[]⟩,.bool false,.slice none 0 0,.slice none 0 0]:=by
 unfold Cell.zero bP
 refine ⟨.slice none 0 0,.slice none 0 0,[],[],rfl,by decide,by decide,by decide,by decide,by decide,⟨rfl,none,0,rfl,Nat.le_refl _,by unfold maxLen;omega,fun _=>rfl,fun _ h=>by cases h⟩,?_,⟨rfl,none,0,rfl,Nat.le_refl _,by unfold maxLen;omega,fun _=>rfl,fun _ h=>by cases h⟩,?_⟩<;>(unfold aI;rfl)
theorem aLU (w:World):Calls Tryz.prog 205 #[] w fun e w'=>e=.returned (.agg #[.bool false,.int .u64 0,.int .u64 0,.int .u64 0,.int .u64 0,.string ⟨#[]⟩,.bool false,.slice none 0 0,.slice none 0 0])∧F0 w w':=by
 go_enter func205,ntmps205;go_wp2
 refine bodyPost_ret (by simp[results,results205,go_sem];try rfl) rfl ?_
 exact ⟨rfl,(Fr.refl _ w).alloc _⟩
theorem aDI (w:World) (r0 r1 r2 r3:Nat) (s:ByteArray) (null:Bool) (ia:Option Addr) (il ic:Nat) (ka:Option Addr) (kl kc:Nat):Calls Tryz.prog 206 #[.agg #[.int .u64 r0,.int .u64 r1,.int .u64 r2,.int .u64 r3,.string s,.bool null,.slice ia il ic,.slice ka kl kc]] w fun e w' =>
 e=.returned (.agg #[.bool true,.int .u64 r0,.int .u64 r1,.int .u64 r2,.int .u64 r3,.string s,.bool null,.slice ia il ic,.slice ka kl kc])∧F0 w w':=by
 go_enter func206,ntmps206;go_wp2
 refine bodyPost_ret (by simp[results,results206,go_sem];try rfl) rfl ?_
 exact ⟨rfl,((Fr.refl _ w).alloc _).alloc _⟩
def lZ (c:Cell) (ia:Option Addr) (il ic:Nat) (ka:Option Addr) (kl kc:Nat):List Value :=
 if c.null then [.int .u64 0,.int .u64 0,.int .u64 0,.int .u64 0,.string ⟨#[]⟩,.bool false,.slice none 0 0,.slice none 0 0]
 else [.int .u64 c.r0,.int .u64 c.r1,.int .u64 c.r2,.int .u64 c.r3,.string c.s,.bool false,.slice ia il ic,.slice ka kl kc]
theorem maybe_any (w:World) (c:Cell) (ia:Option Addr) (il ic:Nat) (ka:Option Addr) (kl kc:Nat) :
 Calls Tryz.prog 203 #[.agg #[.int .u64 c.r0,.int .u64 c.r1,.int .u64 c.r2,.int .u64 c.r3,.string c.s,.bool c.null,.slice ia il ic,.slice ka kl kc]] w fun e w' =>
  e=.returned (.agg (.bool (!c.null) :: lZ c ia il ic ka kl kc).toArray)∧F0 w w':=by
 have hz:∀ w1,F0 ((w.alloc (.cells #[.int .u64 c.r0,.int .u64 c.r1,.int .u64 c.r2,.int .u64 c.r3,.string c.s,.bool c.null,.slice ia il ic,.slice ka kl kc] 35)).alloc (.cells #[.bool false,.int .u64 0,.int .u64 0,.int .u64 0,.int .u64 0,.string ⟨#[]⟩,.bool false,.slice none 0 0,.slice none 0 0] 467)) w1 →
  ∀ i,w1.cell? ⟨w.heap.size+1,i,none⟩=#[Value.bool false,.int .u64 0,.int .u64 0,.int .u64 0,.int .u64 0,.string ⟨#[]⟩,.bool false,.slice none 0 0,.slice none 0 0][i]?∧w1.frozen? ⟨w.heap.size+1,i,none⟩=false:=by
  intro w1 hf i;have hm:=hf.made (n:=w.heap.size+1) (by simp)
  exact ⟨by rw[cell_of_row _ _ _ _ _ _ hm],fzj _ hm⟩
 cases Fb:c.null with
 | true =>
  have hv:lZ c ia il ic ka kl kc=[.int .u64 0,.int .u64 0,.int .u64 0,.int .u64 0,.string ⟨#[]⟩,.bool false,.slice none 0 0,.slice none 0 0]:=by simp[lZ,Fb]
  rw[hv];rw[Fb] at hz;go_enter func203,ntmps203
  go_wp2_with (go_at_call 205;refine (aLU _).mono ?_;rintro e w1 ⟨rfl,Ad⟩;have Hu:=hz w1 Ad;have z0:=Hu 0;have z1:=Hu 1;have z2:=Hu 2;have z3:=Hu 3;have z4:=Hu 4;have z5:=Hu 5;have z6:=Hu 6;have z7:=Hu 7;have z8:=Hu 8;simp only[getElem?_toArray,getElem?_cons_zero,getElem?_cons_succ] at z0 z1 z2 z3 z4 z5 z6 z7 z8)
  refine bodyPost_ret (by simp[results,results203,go_sem,z0,z1,z2,z3,z4,z5,z6,z7,z8];try rfl) rfl ?_
  exact ⟨rfl,((((((((((((Fr.refl _ w).alloc _).alloc _).trans Ad (fun _ _ h=>h)).setCell (.inr (by simp)) _).setCell (.inr (by simp)) _).setCell (.inr (by simp)) _).setCell (.inr (by simp)) _).setCell (.inr (by simp)) _).setCell (.inr (by simp)) _).setCell (.inr (by simp)) _).setCell (.inr (by simp)) _).setCell (.inr (by simp)) _⟩
 | false =>
  have hv:lZ c ia il ic ka kl kc=[.int .u64 c.r0,.int .u64 c.r1,.int .u64 c.r2,.int .u64 c.r3,.string c.s,.bool false,.slice ia il ic,.slice ka kl kc]:=by simp[lZ,Fb]
  rw[hv];rw[Fb] at hz;go_enter func203,ntmps203
  go_wp2_with (go_at_call 206;refine (aDI _ _ _ _ _ _ _ _ _ _ _ _ _).mono ?_;rintro e w1 ⟨rfl,Ad⟩;have Hu:=hz w1 Ad;have z0:=Hu 0;have z1:=Hu 1;have z2:=Hu 2;have z3:=Hu 3;have z4:=Hu 4;have z5:=Hu 5;have z6:=Hu 6;have z7:=Hu 7;have z8:=Hu 8;simp only[getElem?_toArray,getElem?_cons_zero,getElem?_cons_succ] at z0 z1 z2 z3 z4 z5 z6 z7 z8)
  refine bodyPost_ret (by simp[results,results203,go_sem,z0,z1,z2,z3,z4,z5,z6,z7,z8];try rfl) rfl ?_
  exact ⟨rfl,((((((((((((Fr.refl _ w).alloc _).alloc _).trans Ad (fun _ _ h=>h)).setCell (.inr (by simp)) _).setCell (.inr (by simp)) _).setCell (.inr (by simp)) _).setCell (.inr (by simp)) _).setCell (.inr (by simp)) _).setCell (.inr (by simp)) _).setCell (.inr (by simp)) _).setCell (.inr (by simp)) _).setCell (.inr (by simp)) _⟩
theorem bP.maybe {B:Nat} {w:World} {c:Cell} {ia:Option Addr} {il ic:Nat} {ka:Option Addr} {kl kc:Nat} (h:bP B w c [.int .u64 c.r0,.int .u64 c.r1,.int .u64 c.r2,.int .u64 c.r3,.string c.s,.bool c.null,.slice ia il ic,.slice ka kl kc]):bP B w (nz c) (lZ c ia il ic ka kl kc):=by
 unfold nz lZ
 cases hn:c.null with
 | true=>exact bP.zero B w
 | false=>rw[hn] at h;exact h
def fV (B:Nat) (t:TypeId) (u:Value) (R:World→(Nat→Prop)→List Cell→Prop) (p:Nat) (w:World) (fp:Nat→Prop) (σ:List Cell):Prop :=
 ∃ v fpc,w.heap[p]?=some (.cells #[v,.iface t u] 130 (0,0))∧w.ownsRow 0 5 1 v σ.length (aN (σ.map mark))∧R w fpc (σ.map nz)∧v.ownBlock≠some p∧¬ fpc p∧(∀ k,v.ownBlock=some k→¬ fpc k) ∧
  (∀ k,fp k↔k=p∨v.ownBlock=some k∨fpc k)∧∀ k,fp k→B≤k
theorem yR {B:Nat} {t:TypeId} {u:Value} {T:Ty} {st:List UInt8} {R Rp:World→(Nat→Prop)→List Cell→Prop} (cs:ColSpec Tryz.prog B t u T st R Rp)
 (w:World) (p:Nat) (fp:Nat→Prop) (σ:List Cell) (h:fV B t u R p w fp σ) (c:Cell) (vs:List Value) (AQ:bP B w (nz c) vs) (hw:wts (σ++[c])≤2147483648) :
 Calls Tryz.prog 183 #[.pointer (some ⟨p,0,none⟩),.agg (.bool (!c.null) :: vs).toArray] w fun e w'=>e=.returned (.tuple #[])∧Fr fp w w'∧∃ fp',fV B t u R p w' fp' (σ++[c])∧Grow w fp fp':=by
 obtain ⟨v,fpc,hp,Aa,hR,n1,n2,n3,Aj,hB⟩:=h;have Nr:=AQ;obtain ⟨ia,il,ic,ka,kl,kc,rfl,-⟩:=AQ.open;have AZ:=aC hp;have Ar:∀ k,fpc k→k<w.heap.size:=fun k hk=>(cs.lo hR k hk).2
 have AA:=bF (σ++[c]);rw[length_append,length_singleton] at AA
 have l7:Wt T (σ.map nz++[nz c])≤2147483648:=by
  have:=yT (σ++[c]);rw[map_append] at this
  exact Nat.le_trans this hw
 have G9:Value.agg (.bool (!c.null) :: [.int .u64 (nz c).r0,.int .u64 (nz c).r1,.int .u64 (nz c).r2,.int .u64 (nz c).r3,.string (nz c).s,.bool (nz c).null,.slice ia il ic,.slice ka kl kc]).toArray=.agg #[.bool (!c.null),.int .u64 (nz c).r0,.int .u64 (nz c).r1,.int .u64 (nz c).r2,.int .u64 (nz c).r3,.string (nz c).s,.bool (nz c).null,.slice ia il ic,.slice ka kl kc]:=rfl;rw[G9];clear G9
 have main:∀ (W:World) (bn:Bool) (Fb:c.null=bn),W=w.alloc (.cells #[.bool (!bn),.int .u64 (nz c).r0,.int .u64 (nz c).r1,.int .u64 (nz c).r2,.int .u64 (nz c).r3,.string (nz c).s,.bool (nz c).null,.slice ia il ic,.slice ka kl kc] 467) →
  Calls Tryz.prog 194 #[.pointer (some ⟨p,0,none⟩),.int .u8 (if bn then 1 else 0)] W fun e w1=>e=.returned (.tuple #[])∧∃ v',w1.heap[p]?=some (.cells #[v',.iface t u] 130 (0,0))∧w1.ownsRow 0 5 1 v' (σ++[c]).length (aN ((σ++[c]).map mark))∧v'.ownBlock≠some p ∧
   (∀ k,v'.ownBlock=some k→v.ownBlock=some k∨w.heap.size≤k)∧Fr (fun k=>k=p∨v.ownBlock=some k) W w1:=by
  intro W bn Fb hW;have Aw:F0 w W:=by subst hW;exact (Fr.refl _ w).alloc _
  have Ef:=(Aw.block p AZ (fun h=>h)).trans hp;have Bi:=Aw.owns Aa (fun _ _ h=>h)
  refine (aNk W p _ _ σ.length _ v rfl Ef Bi n1 (by omega) _).mono ?_
  rintro e w1 ⟨rfl,v',h1,h2,h3,h4,h5⟩
  refine ⟨rfl,v',h1,?_,h3,fun k hk=>(h4 k hk).imp id (fun h=>Nat.le_trans Aw.size h),h5⟩;rw[length_append,map_append,bC];have e:aN ([c].map mark)=[.int .u8 (if bn then 1 else 0)]:=by simp only[aN,mark,List.map,Fb];cases bn<;>rfl
  rw[e]
  exact h2
 have tail:∀ (W w1:World) (bn:Bool) (v':Value),W=w.alloc (.cells #[.bool (!bn),.int .u64 (nz c).r0,.int .u64 (nz c).r1,.int .u64 (nz c).r2,.int .u64 (nz c).r3,.string (nz c).s,.bool (nz c).null,.slice ia il ic,.slice ka kl kc] 467) →
  w1.heap[p]?=some (.cells #[v',.iface t u] 130 (0,0))→w1.ownsRow 0 5 1 v' (σ++[c]).length (aN ((σ++[c]).map mark))→v'.ownBlock≠some p→(∀ k,v'.ownBlock=some k→v.ownBlock=some k∨w.heap.size≤k)→Fr (fun k=>k=p∨v.ownBlock=some k) W w1 →
  (∀ j x,#[Value.int .u64 (nz c).r0,.int .u64 (nz c).r1,.int .u64 (nz c).r2,.int .u64 (nz c).r3,.string (nz c).s,.bool (nz c).null,.slice ia il ic,.slice ka kl kc][j]?=some x→w1.cell? ⟨w.heap.size,j+1,none⟩=some x) ∧
  aF Tryz.prog (.iface t u) "Append" #[.agg #[.int .u64 (nz c).r0,.int .u64 (nz c).r1,.int .u64 (nz c).r2,.int .u64 (nz c).r3,.string (nz c).s,.bool (nz c).null,.slice ia il ic,.slice ka kl kc]] w1.drew fun e w2 =>
   e=.returned (.tuple #[])∧Fr fpc w1.drew w2∧Fr fp w w2∧∃ fp',fV B t u R p w2 fp' (σ++[c])∧Grow w fp fp':=by
  intro W w1 bn v' hW DL Ba MQ Eo Ad;have Aw:F0 w W:=by subst hW;exact (Fr.refl _ w).alloc _
  have La:W.heap.size=w.heap.size+1:=by subst hW;simp
  have XN:∀ k,v.ownBlock=some k→k<w.heap.size:=fun k hk=>aO Aa hk
  have CX:Fr (fun k=>k=p∨v.ownBlock=some k) w w1:=(Aw.mono (fun _ _ h=>h.elim)).trans Ad (fun _ _ h=>h);have DX:=CX.size;have ER:B≤p:=hB p ((Aj p).2 (.inl rfl));have XV:∀ k,v.ownBlock=some k→B≤k:=fun k hk=>hB k ((Aj k).2 (.inr (.inl hk)))
  refine ⟨fun j x hj=>?_,?_⟩
  · have Fh:w1.heap[w.heap.size]?=some (.cells #[.bool (!bn),.int .u64 (nz c).r0,.int .u64 (nz c).r1,.int .u64 (nz c).r2,.int .u64 (nz c).r3,.string (nz c).s,.bool (nz c).null,.slice ia il ic,.slice ka kl kc] 467 (0,0)):=by
     refine (Ad.block _ (by omega) (fun h=>h.elim (fun e=>by omega) (fun e=>by have:=XN _ e;omega))).trans ?_
     subst hW
     exact heap_alloc_new w _
    rw[cell_of_row _ _ _ _ _ _ Fh,getElem?_toArray,getElem?_cons_succ];rw[getElem?_toArray] at hj
    exact hj
  · have BB:∀ k,fpc k→w1.heap[k]?=w.heap[k]?:=fun k hk=>CX.block k (Ar k hk) (fun h=>h.elim (fun e=>n2 (e▸hk)) (fun e=>n3 k e hk))
    have Va:R w1.drew fpc (σ.map nz):=cs.frame hR BB;have Zv:Below B w w1.drew:=(CX.drew).below (by omega) (fun k hk h=>h.elim (fun e=>by omega) (fun e=>by have:=XV k e;omega))
    refine (cs.append Va (bP.below Zv _ _ Nr) l7).mono ?_
    rintro e w2 ⟨rfl,Ae,fpc',Ew,BJ⟩;have Au:=Ae.aH;have NW:∀ k,fpc' k→fpc k∨w1.heap.size≤k:=BJ;have EW:=Au.size;have UF:∀ k,v'.ownBlock=some k→¬ fpc k:=fun k hk h=>(Eo k hk).elim (fun e=>n3 k e h) (fun e=>by have:=Ar k h;omega)
    have XJ:∀ k,v'.ownBlock=some k→k<w1.heap.size:=fun k hk=>aO Ba hk
    refine ⟨rfl,Ae,(CX.mono (fun k _ h=>(Aj k).2 (h.elim .inl (fun h=>.inr (.inl h))))).trans Au (fun k _ h=>(Aj k).2 (.inr (.inr h))),fun k=>k=p∨v'.ownBlock=some k∨fpc' k,⟨v',fpc',(Au.block p (by omega) n2).trans DL,Au.owns Ba UF,?_,MQ,?_,?_,fun k=>Iff.rfl,?_⟩,?_⟩
    · rw[map_append]
      exact Ew
    · intro h
      rcases NW p h with h|h
      · exact n2 h
      · omega
    · intro k hk h
      rcases NW k h with h|h
      · exact UF k hk h
      · have:=XJ k hk;omega
    · rintro k (rfl|hk|hk)
      · exact ER
      · rcases Eo k hk with h|h
        · exact XV k h
        · omega
      · rcases NW k hk with h|h
        · exact hB k ((Aj k).2 (.inr (.inr h)))
        · omega
    · rintro k (rfl|hk|hk)
      · exact .inl ((Aj k).2 (.inl rfl))
      · exact (Eo k hk).imp (fun h=>(Aj k).2 (.inr (.inl h))) id
      · rcases NW k hk with h|h
        · exact .inl ((Aj k).2 (.inr (.inr h)))
        · exact .inr (by omega)
 cases Fb:c.null with
 | true =>
  have hm:=main _ true Fb rfl;go_enter func183,ntmps183
  go_wp2_with (go_at_call 194;refine hm.mono ?_;rintro e w1 ⟨rfl,v',DL,Ba,MQ,Eo,Ad⟩)
  have tl:=tail _ w1 true v' rfl DL Ba MQ Eo Ad;obtain ⟨F8,hi⟩:=tl;have d0:w1.cell? ⟨p,1,none⟩=some (.iface t u):=crw DL rfl;have d1:=F8 0 (.int .u64 (nz c).r0) rfl;have d2:=F8 1 (.int .u64 (nz c).r1) rfl;have d3:=F8 2 (.int .u64 (nz c).r2) rfl;have d4:=F8 3 (.int .u64 (nz c).r3) rfl;have d5:=F8 4 (.string (nz c).s) rfl;have d6:=F8 5 (.bool (nz c).null) rfl;have d7:=F8 6 (.slice ia il ic) rfl;have d8:=F8 7 (.slice ka kl kc) rfl;have DX:w.heap.size<w1.heap.size:=World.block_lt_of_cell? w1 _ d1;have IE:¬ fpc w.heap.size:=fun h=>by have:=Ar _ h;omega
  simp only[Nat.reduceAdd] at d1 d2 d3 d4 d5 d6 d7 d8;clear F8 main tail hm
  go_region_held3 (fun w'=>w'.cell? ⟨p,1,none⟩=some (.iface t u)∧w'.cell? ⟨w.heap.size,1,none⟩=some (.int .u64 (nz c).r0)∧w'.cell? ⟨w.heap.size,2,none⟩=some (.int .u64 (nz c).r1)∧w'.cell? ⟨w.heap.size,3,none⟩=some (.int .u64 (nz c).r2)∧w'.cell? ⟨w.heap.size,4,none⟩=some (.int .u64 (nz c).r3)∧w'.cell? ⟨w.heap.size,5,none⟩=some (.string (nz c).s)∧w'.cell? ⟨w.heap.size,6,none⟩=some (.bool (nz c).null)∧w'.cell? ⟨w.heap.size,7,none⟩=some (.slice ia il ic)∧w'.cell? ⟨w.heap.size,8,none⟩=some (.slice ka kl kc))
   (first
    | exact ⟨d0,d1,d2,d3,d4,d5,d6,d7,d8⟩
    | exact ⟨Ae.aH.aA d0 n2,Ae.aH.aA d1 IE,Ae.aH.aA d2 IE,Ae.aH.aA d3 IE,Ae.aH.aA d4 IE,Ae.aH.aA d5 IE,Ae.aH.aA d6 IE,Ae.aH.aA d7 IE,Ae.aH.aA d8 IE⟩
    | assumption)
   (first
    | (refine aK _ rfl ?_;refine bH _ _ _ _ _ rfl _ _ rfl hi rfl ?_;rintro e w2 ⟨rfl,Ae,BV⟩;refine ⟨_,rfl,?_⟩))
  all_goals
   go_end0
   exact ⟨rfl,BV.1,BV.2⟩
 | false =>
  have hm:=main _ false Fb rfl;go_enter func183,ntmps183
  go_wp2_with (go_at_call 194;refine hm.mono ?_;rintro e w1 ⟨rfl,v',DL,Ba,MQ,Eo,Ad⟩)
  have tl:=tail _ w1 false v' rfl DL Ba MQ Eo Ad;obtain ⟨F8,hi⟩:=tl;have d0:w1.cell? ⟨p,1,none⟩=some (.iface t u):=crw DL rfl;have d1:=F8 0 (.int .u64 (nz c).r0) rfl;have d2:=F8 1 (.int .u64 (nz c).r1) rfl;have d3:=F8 2 (.int .u64 (nz c).r2) rfl;have d4:=F8 3 (.int .u64 (nz c).r3) rfl;have d5:=F8 4 (.string (nz c).s) rfl;have d6:=F8 5 (.bool (nz c).null) rfl;have d7:=F8 6 (.slice ia il ic) rfl;have d8:=F8 7 (.slice ka kl kc) rfl;have DX:w.heap.size<w1.heap.size:=World.block_lt_of_cell? w1 _ d1;have IE:¬ fpc w.heap.size:=fun h=>by have:=Ar _ h;omega
  simp only[Nat.reduceAdd] at d1 d2 d3 d4 d5 d6 d7 d8;clear F8 main tail hm
  go_region_held3 (fun w'=>w'.cell? ⟨p,1,none⟩=some (.iface t u)∧w'.cell? ⟨w.heap.size,1,none⟩=some (.int .u64 (nz c).r0)∧w'.cell? ⟨w.heap.size,2,none⟩=some (.int .u64 (nz c).r1)∧w'.cell? ⟨w.heap.size,3,none⟩=some (.int .u64 (nz c).r2)∧w'.cell? ⟨w.heap.size,4,none⟩=some (.int .u64 (nz c).r3)∧w'.cell? ⟨w.heap.size,5,none⟩=some (.string (nz c).s)∧w'.cell? ⟨w.heap.size,6,none⟩=some (.bool (nz c).null)∧w'.cell? ⟨w.heap.size,7,none⟩=some (.slice ia il ic)∧w'.cell? ⟨w.heap.size,8,none⟩=some (.slice ka kl kc))
   (first
    | exact ⟨d0,d1,d2,d3,d4,d5,d6,d7,d8⟩
    | exact ⟨Ae.aH.aA d0 n2,Ae.aH.aA d1 IE,Ae.aH.aA d2 IE,Ae.aH.aA d3 IE,Ae.aH.aA d4 IE,Ae.aH.aA d5 IE,Ae.aH.aA d6 IE,Ae.aH.aA d7 IE,Ae.aH.aA d8 IE⟩
    | assumption)
   (first
    | (refine aK _ rfl ?_;refine bH _ _ _ _ _ rfl _ _ rfl hi rfl ?_;rintro e w2 ⟨rfl,Ae,BV⟩;refine ⟨_,rfl,?_⟩))
  all_goals
   go_end0
   exact ⟨rfl,BV.1,BV.2⟩
section
variable {B:Nat} {t:TypeId} {u:Value} {T:Ty} {st:List UInt8} {R Rp:World→(Nat→Prop)→List Cell→Prop}
theorem fV.lt (NQ:∀ {w fp σ},R w fp σ→∀ k,fp k→B≤k∧k<w.heap.size) {p:Nat} {w:World} {fp:Nat→Prop} {σ:List Cell} (h:fV B t u R p w fp σ):∀ k,fp k→B≤k∧k<w.heap.size:=by
 obtain ⟨v,fpc,hp,Aa,hR,n1,n2,n3,Aj,hB⟩:=h;intro k hk
 refine ⟨hB k hk,?_⟩;rcases (Aj k).1 hk with rfl|hk|hk
 · exact aC hp
 · exact aO Aa hk
 · exact (NQ hR k hk).2
theorem fV.aW (RI:∀ {w w' fp σ},R w fp σ→(∀ k,fp k→w'.heap[k]?=w.heap[k]?)→R w' fp σ) {p:Nat} {w w':World} {fp:Nat→Prop} {σ:List Cell} (h:fV B t u R p w fp σ) (hk:∀ k,fp k→w'.heap[k]?=w.heap[k]?):fV B t u R p w' fp σ:=by
 obtain ⟨v,fpc,hp,Aa,hR,n1,n2,n3,Aj,hB⟩:=h
 refine ⟨v,fpc,(hk p ((Aj p).2 (.inl rfl))).trans hp,⟨Aa.1,?_⟩,RI hR (fun k h=>hk k ((Aj k).2 (.inr (.inr h)))),n1,n2,n3,Aj,hB⟩;rcases Aa.2 with h0|⟨g,cap,cur,rfl,hb,GX,rest⟩
 · exact .inl h0
 · exact .inr ⟨g,cap,cur,rfl,hb,(hk g ((Aj g).2 (.inr (.inl rfl)))).trans GX,rest⟩
theorem aCk (cs:ColSpec Tryz.prog B t u T st R Rp) (w:World) (p:Nat) (fp:Nat→Prop) (σ:List Cell) (h:fV B t u R p w fp σ) (c:Cell) (ia:Option Addr) (il ic:Nat) (ka:Option Addr) (kl kc:Nat)
 (AQ:bP B w c [.int .u64 c.r0,.int .u64 c.r1,.int .u64 c.r2,.int .u64 c.r3,.string c.s,.bool c.null,.slice ia il ic,.slice ka kl kc]) (hw:wts (σ++[c])≤2147483648) :
 Calls Tryz.prog 200 #[.agg #[.pointer (some ⟨p,0,none⟩)],.agg #[.int .u64 c.r0,.int .u64 c.r1,.int .u64 c.r2,.int .u64 c.r3,.string c.s,.bool c.null,.slice ia il ic,.slice ka kl kc]] w fun e w'=>e=.returned (.tuple #[])∧Fr fp w w'∧∃ fp',fV B t u R p w' fp' (σ++[c])∧Grow w fp fp':=by
 have AC:=h.lt cs.lo
 have Bd:B≤w.heap.size:=by
  obtain ⟨v,fpc,hp,Aa,hR,n1,n2,n3,Aj,hB⟩:=h;have:=AC p ((Aj p).2 (.inl rfl));omega
 go_enter func200,ntmps200
 go_wp2_with fail
 generalize hW:(w.alloc _).alloc _=W;have Af:F0 w W:=by subst hW;exact ((Fr.refl _ w).alloc _).alloc _
 have d0:W.cell? ⟨w.heap.size,0,none⟩=some (.pointer (some ⟨p,0,none⟩)):=by subst hW;rw[ca (by simp),aB rfl];rfl
 have e0:W.cell? ⟨w.heap.size+1,0,none⟩=some (.int .u64 c.r0):=by subst hW;rw[aB (by simp)];rfl
 have e1:W.cell? ⟨w.heap.size+1,1,none⟩=some (.int .u64 c.r1):=by subst hW;rw[aB (by simp)];rfl
 have e2:W.cell? ⟨w.heap.size+1,2,none⟩=some (.int .u64 c.r2):=by subst hW;rw[aB (by simp)];rfl
 have e3:W.cell? ⟨w.heap.size+1,3,none⟩=some (.int .u64 c.r3):=by subst hW;rw[aB (by simp)];rfl
 have e4:W.cell? ⟨w.heap.size+1,4,none⟩=some (.string c.s):=by subst hW;rw[aB (by simp)];rfl
 have e5:W.cell? ⟨w.heap.size+1,5,none⟩=some (.bool c.null):=by subst hW;rw[aB (by simp)];rfl
 have e6:W.cell? ⟨w.heap.size+1,6,none⟩=some (.slice ia il ic):=by subst hW;rw[aB (by simp)];rfl
 have e7:W.cell? ⟨w.heap.size+1,7,none⟩=some (.slice ka kl kc):=by subst hW;rw[aB (by simp)];rfl
 have hN:¬ fp w.heap.size:=fun h=>by have:=AC _ h;omega
 have AU:¬ fp (w.heap.size+1):=fun h=>by have:=AC _ h;omega
 clear hW
 go_region_held3 (fun w'=>w'.cell? ⟨w.heap.size,0,none⟩=some (.pointer (some ⟨p,0,none⟩))∧w'.cell? ⟨w.heap.size+1,0,none⟩=some (.int .u64 c.r0)∧w'.cell? ⟨w.heap.size+1,1,none⟩=some (.int .u64 c.r1)∧w'.cell? ⟨w.heap.size+1,2,none⟩=some (.int .u64 c.r2)∧w'.cell? ⟨w.heap.size+1,3,none⟩=some (.int .u64 c.r3)∧w'.cell? ⟨w.heap.size+1,4,none⟩=some (.string c.s)∧w'.cell? ⟨w.heap.size+1,5,none⟩=some (.bool c.null)∧w'.cell? ⟨w.heap.size+1,6,none⟩=some (.slice ia il ic)∧w'.cell? ⟨w.heap.size+1,7,none⟩=some (.slice ka kl kc))
  (first
   | exact ⟨d0,e0,e1,e2,e3,e4,e5,e6,e7⟩
   | exact ⟨Ae.aA (Ad.aH.aA d0 (fun h=>h)) hN,Ae.aA (Ad.aH.aA e0 (fun h=>h)) AU,Ae.aA (Ad.aH.aA e1 (fun h=>h)) AU,Ae.aA (Ad.aH.aA e2 (fun h=>h)) AU,Ae.aA (Ad.aH.aA e3 (fun h=>h)) AU,Ae.aA (Ad.aH.aA e4 (fun h=>h)) AU,Ae.aA (Ad.aH.aA e5 (fun h=>h)) AU,Ae.aA (Ad.aH.aA e6 (fun h=>h)) AU,Ae.aA (Ad.aH.aA e7 (fun h=>h)) AU⟩
   | exact ⟨Ad.aH.aA d0 (fun h=>h),Ad.aH.aA e0 (fun h=>h),Ad.aH.aA e1 (fun h=>h),Ad.aH.aA e2 (fun h=>h),Ad.aH.aA e3 (fun h=>h),Ad.aH.aA e4 (fun h=>h),Ad.aH.aA e5 (fun h=>h),Ad.aH.aA e6 (fun h=>h),Ad.aH.aA e7 (fun h=>h)⟩
   | assumption)
  (first
   | (go_at_call 203;refine (maybe_any _ c ia il ic ka kl kc).mono ?_;rintro e w1 ⟨rfl,Ad⟩)
   | (go_at_call 183;refine (yR cs _ p fp σ (h.aW cs.frame fun k hk=>(Af.trans Ad.aH (fun _ _ h=>h)).block k (AC k hk).2 (fun h=>h)) c _ (bP.below ((Af.trans Ad.aH (fun _ _ h=>h)).below Bd (fun _ _ h=>h)) _ _ AQ).maybe hw).mono ?_;rintro e w2 ⟨rfl,Ae,BV⟩))
 all_goals
  go_end0;obtain ⟨fp',h1,h2⟩:=BV;have BN:=(Af.trans Ad.aH (fun _ _ h=>h)).size
  exact ⟨rfl,((Af.trans Ad.aH (fun _ _ h=>h)).mono (fun _ _ h=>h.elim)).trans Ae (fun _ _ h=>h),fp',h1,fun k hk=>(h2 k hk).imp id (fun h=>by omega)⟩
end
theorem aOc:ElT Tryz.prog 469 467 (.agg #[.bool false,.int .u64 0,.int .u64 0,.int .u64 0,.int .u64 0,.string ⟨#[]⟩,.bool false,.slice none 0 0,.slice none 0 0]) 9 112:=⟨underlying469,info_parts (by kernel_rfl),rfl⟩
theorem aCi (c:Cell) (ia:Option Addr) (il ic:Nat) (ka:Option Addr) (kl kc:Nat):∃ (r0 r1 r2 r3:Nat) (s:ByteArray) (ja:Option Addr) (jl jc:Nat) (la:Option Addr) (ll lc:Nat),
 lZ c ia il ic ka kl kc=[.int .u64 r0,.int .u64 r1,.int .u64 r2,.int .u64 r3,.string s,.bool false,.slice ja jl jc,.slice la ll lc]:=by
 unfold lZ
 cases c.null with
 | true=>exact ⟨0,0,0,0,_,none,0,0,none,0,0,rfl⟩
 | false=>exact ⟨_,_,_,_,_,_,_,_,_,_,_,rfl⟩
def jV (B:Nat) (w:World):List Cell→List Value→Prop
 | [],xs=>xs=[]
 | c :: cs,xs=>∃ vs rest,xs=(.bool (!c.null) :: vs)++rest∧bP B w (nz c) vs∧jV B w cs rest
theorem jV.below {B:Nat} {w w':World} (hb:Below B w w'):∀ (cs:List Cell) (xs:List Value),jV B w cs xs→jV B w' cs xs
 | [],_,h=>h
 | _ :: _,_,⟨vs,rest,h0,h1,h2⟩=>⟨vs,rest,h0,bP.below hb _ _ h1,jV.below hb _ _ h2⟩
theorem jV.snoc {B:Nat} {w:World} {c:Cell} {vs:List Value} (h:bP B w (nz c) vs):∀ {cs:List Cell} {xs:List Value},jV B w cs xs→jV B w (cs++[c]) (xs++(.bool (!c.null) :: vs))
 | [],_,rfl=>⟨vs,[],by simp,h,rfl⟩
 | _ :: _,_,⟨us,rest,h0,h1,h2⟩=>⟨us,_,by rw[h0,append_assoc],h1,jV.snoc h h2⟩
theorem jV.at {B:Nat} {w:World}:∀ {cs:List Cell} {xs:List Value},jV B w cs xs→∀ k (hk:k<cs.length),∃ vs,bP B w (nz cs[k]) vs∧∀ j u,(Value.bool (!cs[k].null) :: vs)[j]?=some u→xs[k*9+j]?=some u
 | [],_,_,k,hk=>by simp at hk
 | c :: cs,_,⟨vs,rest,h0,h1,_⟩,0,_=>⟨vs,h1,fun j u hj=>by
  replace hj:(Value.bool (!c.null) :: vs)[j]?=some u:=hj
  rw[h0,Nat.zero_mul,Nat.zero_add,getElem?_append_left (List.getElem?_eq_some_iff.1 hj).1]
  exact hj⟩
 | c :: cs,_,⟨vs,rest,h0,h1,h2⟩,k+1,hk=>by
  obtain ⟨vs',g1,g2⟩:=jV.at h2 k (by simpa using hk)
  refine ⟨vs',g1,fun j u hj=>?_⟩;have hl:(Value.bool (!c.null) :: vs).length=9:=by rw[length_cons,h1.length]
  rw[h0,getElem?_append_right (by rw[hl];omega),hl,show (k+1)*9+j - 9=k*9+j by omega]
  exact g2 j u hj
theorem aFV (w:World) (B:Nat) (Bd:B≤w.heap.size) (cs:List Cell) (v:Value) (xs:List Value) (hs:Sl B w 8 v cs.length xs) (hc:aI B w cs xs) (hn:cs.length≤2147483648) :
 Calls Tryz.prog 204 #[v,.func (.func 203) #[] #[]] w fun e w'=>∃ tv,e=.returned tv∧(∃ vals,w'.ownsRow 0 467 9 tv cs.length vals∧jV B w' cs vals)∧(∀ q,tv.ownBlock=some q→w.heap.size≤q)∧F0 w w':=by
 have CB:=hs;obtain ⟨Dy,ao,cap,rfl,BF,AP,h0,ha⟩:=hs;unfold maxLen at AP;clear ha h0 Dy;go_enter func204,ntmps204;go_wp2
 go_loopw [5,10] (fun tv i wr=>∃ (k:Nat) (vals:List Value),k≤cs.length∧i=.int .i64 k∧wr.ownsRow 0 467 9 tv k vals∧jV B wr (cs.take k) vals∧(∀ q,tv.ownBlock=some q→w.heap.size≤q)∧F0 w wr) (fun _ i _=>cs.length - (intOf i).toNat)
 case atStart=>exact ⟨0,[],Nat.zero_le _,rfl,World.ownsRow_nil _ _ _ _,rfl,by simp[Value.ownBlock],Fr.refl _ _⟩
 case round =>
  obtain ⟨k,vals,hk,rfl,Aa,Jg,Ai,Ak⟩:=hrel;have Bf:Below B w wr:=Ak.below Bd (fun _ _ h=>h);have L6:B≤wr.heap.size:=Nat.le_trans Bd Ak.size;obtain ⟨a0,c0,rfl⟩:=ownsRow_shape Aa
  by_cases Ar:k<cs.length
  · obtain ⟨b,off,cap',hv,FT,vs,AQ,Ac⟩:=(CB.below Bf).row (aI.below Bf _ _ hc) Ar
    have Ah:=Lib.hid (take_succ_eq_append_getElem Ar);generalize cs[k]=c at AQ Ah;obtain ⟨ia,il,ic,ka,kl,kc,rfl,-⟩:=AQ.open;simp only[Value.slice.injEq] at hv;obtain ⟨rfl,_,rfl⟩:=hv;have d0:=Ac 0 _ rfl;have d1:=Ac 1 _ rfl;have d2:=Ac 2 _ rfl;have d3:=Ac 3 _ rfl;have d4:=Ac 4 _ rfl;have d5:=Ac 5 _ rfl;have d6:=Ac 6 _ rfl;have d7:=Ac 7 _ rfl;simp only[Nat.add_zero] at d0;have BM:F0 w (wr.alloc (.cells #[.int .u64 c.r0,.int .u64 c.r1,.int .u64 c.r2,.int .u64 c.r3,.string c.s,.bool c.null,.slice ia il ic,.slice ka kl kc] 35)):=Ak.alloc _;have IL:=AQ;have EN:=maybe_any (wr.alloc (.cells #[.int .u64 c.r0,.int .u64 c.r1,.int .u64 c.r2,.int .u64 c.r3,.string c.s,.bool c.null,.slice ia il ic,.slice ka kl kc] 35)) c ia il ic ka kl kc;obtain ⟨m0,m1,m2,m3,ms,ja,jl,jc,la,ll,lc,OQ⟩:=aCi c ia il ic ka kl kc;have Xm:∀ {w},bP B w c [.int .u64 c.r0,.int .u64 c.r1,.int .u64 c.r2,.int .u64 c.r3,.string c.s,.bool c.null,.slice ia il ic,.slice ka kl kc]→bP B w (nz c) _:=fun h=>OQ▸h.maybe
    rw[OQ] at EN;clear Ac AQ CB hc
    go_wp2_with (first|(go_at_call 203;refine EN.mono ?_;rintro e w1 ⟨rfl,Ad⟩;have Bv:F0 w w1:=BM.trans Ad (fun _ _ h=>h);have Ba:=Ad.owns ((Fr.refl (fun _=>False) wr).alloc _ |>.owns Aa (fun _ _ h=>h)) (fun _ _ h=>h))|((with_reducible show wpList _ _ _ (⟨some 19,_,_,_,_,_⟩ :: _) _ _);refine aP _ rfl aOc _ _ rfl _ _ _ rfl (Ba.alloc _) _ _ _ rfl (Src.ofSlice _ underlying469 _ _ _ _ rfl (bG _ [.bool (!c.null),.int .u64 m0,.int .u64 m1,.int .u64 m2,.int .u64 m3,.string ms,.bool false,.slice ja jl jc,.slice la ll lc] _) (by simp[Value.oneCell'])) ?_ ?_ ?_;(unfold maxLen;omega);omega;intro v' w2 ha;obtain ⟨a',c',rfl⟩:=ha.shape))
    go_roundw
    case rel=>
     refine ⟨k+1,_,by omega,by go_num,ha.1,?_,(ha.since (Bv.alloc _) Ai).1,(ha.since (Bv.alloc _) Ai).2⟩;rw[Ah.out];have Bj:Below B wr w2:=(((((Fr.refl (fun _=>False) wr).alloc _).trans Ad (fun _ _ h=>h)).alloc _).mono (S':=fun q=>w.heap.size≤q) (fun _ _ h=>h.elim)).grown ha.2.1 (fun q hq=>.inl (Ai q hq)) |>.below L6 (fun q hq h=>by omega)
     exact jV.snoc (Xm (bP.below Bj _ _ IL)) (jV.below Bj _ _ Jg)
    case measure=>simp[intOf];omega
  · have Bl:k=cs.length:=by omega
    subst Bl;rw[take_length] at Jg;go_wp2;go_ret
    exact ⟨_,rfl,⟨_,Aa,Jg⟩,Ai,Ak⟩
section
variable {B:Nat} {t:TypeId} {u:Value} {T:Ty} {st:List UInt8} {R Rp:World→(Nat→Prop)→List Cell→Prop}
theorem aAB (sp:ColSpec Tryz.prog B t u T st R Rp) (w:World) (p:Nat) (fp:Nat→Prop) (σ:List Cell) (h:fV B t u R p w fp σ) (cs:List Cell) (tv:Value) (vals:List Value) (Aa:w.ownsRow 0 467 9 tv cs.length vals) (Jg:jV B w cs vals)
 (hd:∀ k,tv.ownBlock=some k→¬ fp k) (hw:wts (σ++cs)≤2147483648) :
 Calls Tryz.prog 184 #[.pointer (some ⟨p,0,none⟩),tv] w fun e w'=>e=.returned (.tuple #[])∧Fr fp w w'∧∃ fp',fV B t u R p w' fp' (σ++cs)∧Grow w fp fp':=by
 obtain ⟨a,c,rfl⟩:=ownsRow_shape Aa;have AC:=h.lt sp.lo
 have Bd:B≤w.heap.size:=by
  obtain ⟨v,fpc,hp,_,_,_,_,_,Aj,_⟩:=h;have:=AC p ((Aj p).2 (.inl rfl));omega
 have AP:cs.length≤9223372036854775807:=by
  have:=bF (σ++cs);rw[length_append] at this;omega
 go_enter func184,ntmps184;go_wp2
 go_loopw [5,8] (fun _ i wr=>∃ (k:Nat) (fpk:Nat→Prop),k≤cs.length∧i=.int .i64 k∧fV B t u R p wr fpk (σ++cs.take k)∧Grow w fp fpk∧Fr fp w wr) (fun _ i _=>cs.length - (intOf i).toNat)
 case atStart=>exact ⟨0,fp,Nat.zero_le _,rfl,by simpa using h,fun k hk=>.inl hk,Fr.refl _ _⟩
 case round =>
  obtain ⟨k,fpk,hk,rfl,AL,hg,Ak⟩:=hrel
  by_cases Ar:k<cs.length
  · have Ap:=Ak.owns Aa hd
    rcases Ap.2 with ⟨hv,_⟩|⟨ga,capa,cura,hv,_⟩
    · simp only[Value.slice.injEq] at hv;omega
    · simp only[Value.slice.injEq] at hv
      obtain ⟨rfl,_,rfl⟩:=hv;obtain ⟨vs,AQ,IM⟩:=Jg.at k Ar;have Bf:Below B w wr:=Ak.below Bd (fun q hq h=>by have:=(AC q h).1;omega);have Nq:=bP.below Bf _ _ AQ;have Ah:=take_succ_eq_append_getElem Ar
      have Fg:wts (σ++cs.take k++[cs[k]])≤2147483648:=by
       have:=iV (σ++cs) (σ.length+(k+1));rw[take_length_add_append,Ah,← append_assoc] at this;omega
      generalize cs[k]=cc at AQ Nq IM Ah Fg;obtain ⟨ia,il,ic,ka,kl,kc,rfl,-⟩:=AQ.open
      have hx:∀ j u,#[.bool (!cc.null),.int .u64 (nz cc).r0,.int .u64 (nz cc).r1,.int .u64 (nz cc).r2,.int .u64 (nz cc).r3,.string (nz cc).s,.bool (nz cc).null,.slice ia il ic,.slice ka kl kc][j]?=some u→wr.cell? ⟨ga,k*9+j,none⟩=some u:=by
       intro j u hj;rw[getElem?_toArray] at hj;have:=Ap.cells (g:=ga) rfl _ _ (IM j u hj);rw[Addr.add_lit,Nat.zero_add] at this
       exact this
      have x0:=hx 0 (.bool (!cc.null)) rfl;have x1:=hx 1 (.int .u64 (nz cc).r0) rfl;have x2:=hx 2 (.int .u64 (nz cc).r1) rfl;have x3:=hx 3 (.int .u64 (nz cc).r2) rfl;have x4:=hx 4 (.int .u64 (nz cc).r3) rfl;have x5:=hx 5 (.string (nz cc).s) rfl;have x6:=hx 6 (.bool (nz cc).null) rfl;have x7:=hx 7 (.slice ia il ic) rfl;have x8:=hx 8 (.slice ka kl kc) rfl;simp only[Nat.add_zero] at x0;have Fv:=AL.lt sp.lo;have RZ:fV B t u R p (wr.alloc (.cells #[.bool (!cc.null),.int .u64 (nz cc).r0,.int .u64 (nz cc).r1,.int .u64 (nz cc).r2,.int .u64 (nz cc).r3,.string (nz cc).s,.bool (nz cc).null,.slice ia il ic,.slice ka kl kc] 467)) fpk (σ++cs.take k):=AL.aW sp.frame fun q hq=>Below.heap_alloc _ _ _ (Fv q hq).2
      have Lm:B≤wr.heap.size:=Nat.le_trans Bd Ak.size;have Hz:=yR sp _ p fpk (σ++cs.take k) RZ cc _ (bP.below ((Below.refl B wr).alloc Lm _) _ _ Nq) Fg;have G9:Value.agg (.bool (!cc.null) :: [.int .u64 (nz cc).r0,.int .u64 (nz cc).r1,.int .u64 (nz cc).r2,.int .u64 (nz cc).r3,.string (nz cc).s,.bool (nz cc).null,.slice ia il ic,.slice ka kl kc]).toArray=.agg #[.bool (!cc.null),.int .u64 (nz cc).r0,.int .u64 (nz cc).r1,.int .u64 (nz cc).r2,.int .u64 (nz cc).r3,.string (nz cc).s,.bool (nz cc).null,.slice ia il ic,.slice ka kl kc]:=rfl;rw[G9] at Hz;clear G9 hx IM Jg RZ Nq AQ
      go_wp2_with (go_at_call 183;refine Hz.mono ?_;rintro e w1 ⟨rfl,Ad,fp',FQ,I8⟩)
      go_roundw
      case rel =>
       refine ⟨k+1,fp',by omega,by go_num,?_,?_,?_⟩
       · rw[Ah,← append_assoc];exact FQ
       · intro q hq
         have:=Ak.size;rcases I8 q hq with h|h
         · exact hg q h
         · simp at h;exact .inr (by omega)
       · exact (Ak.alloc _).trans Ad (fun q hq h=>(hg q h).resolve_right (by omega))
      case measure=>simp[intOf];omega
  · have Bl:k=cs.length:=by omega
    subst Bl;rw[take_length] at AL;go_wp2;go_end0
    exact ⟨rfl,Ak,fpk,AL,hg⟩
end
section
variable {B:Nat} {t:TypeId} {u:Value} {T:Ty} {st:List UInt8} {R Rp:World→(Nat→Prop)→List Cell→Prop}
theorem wS (sp:ColSpec Tryz.prog B t u T st R Rp) (w:World) (p:Nat) (fp:Nat→Prop) (σ:List Cell) (h:fV B t u R p w fp σ) (cs:List Cell) (v:Value) (ys:List Value) (hs:Sl B w 8 v cs.length ys) (A8:aI B w cs ys) (hw:wts (σ++cs)≤2147483648) :
 Calls Tryz.prog 201 #[.agg #[.pointer (some ⟨p,0,none⟩)],v] w fun e w'=>e=.returned (.tuple #[])∧Fr fp w w'∧∃ fp',fV B t u R p w' fp' (σ++cs)∧Grow w fp fp':=by
 have AC:=h.lt sp.lo
 have Bd:B≤w.heap.size:=by
  obtain ⟨v,fpc,hp,_,_,_,_,_,Aj,_⟩:=h;have:=AC p ((Aj p).2 (.inl rfl));omega
 have hn:cs.length≤2147483648:=by
  have:=bF (σ++cs);rw[length_append] at this;omega
 go_enter func201,ntmps201
 go_wp2_with fail
 generalize hW:w.alloc _=W;have Af:F0 w W:=by subst hW;exact (Fr.refl _ w).alloc _
 have d0:W.cell? ⟨w.heap.size,0,none⟩=some (.pointer (some ⟨p,0,none⟩)):=by subst hW;rw[aB rfl];rfl
 have hN:¬ fp w.heap.size:=fun h=>by have:=AC _ h;omega
 have D6:=hs.fr Bd Af;have Cf:=aI.below (Af.below Bd (fun _ _ h=>h)) _ _ A8;have CZ:B≤W.heap.size:=Nat.le_trans Bd Af.size;have EX:=D6.fr CZ (Fr.refl (fun _=>False) W).drew;have Ce:=aI.below ((Below.refl B W).drew) _ _ Cf;clear hW hs A8
 go_region_held3 (fun w'=>w'.cell? ⟨w.heap.size,0,none⟩=some (.pointer (some ⟨p,0,none⟩)))
  (first
   | exact d0
   | exact Ae.aA (Ad.aH.aA d0 (fun h=>h)) hN
   | exact Ad.aH.aA d0 (fun h=>h)
   | assumption)
  (first
   | (go_at_call 204;refine (aFV W.drew B CZ cs v ys EX Ce hn).mono ?_;rintro e w1 ⟨tv,rfl,⟨vals,Aa,Jg⟩,Ai,Ad⟩)
   | (go_at_call 184;refine (aAB sp _ p fp σ (h.aW sp.frame fun k hk=>(Af.trans Ad.aH (fun _ _ h=>h)).block k (AC k hk).2 (fun h=>h)) cs tv vals Aa Jg (fun k hk h=>by have h1:=(AC k h).2;have h2:W.heap.size≤k:=Ai k hk;have h3:=Af.size;omega) hw).mono ?_;rintro e w2 ⟨rfl,Ae,BV⟩))
 all_goals
  go_end0;obtain ⟨fp',h1,h2⟩:=BV;have BN:=(Af.trans Ad.aH (fun _ _ h=>h)).size
  exact ⟨rfl,((Af.trans Ad.aH (fun _ _ h=>h)).mono (fun _ _ h=>h.elim)).trans Ae (fun _ _ h=>h),fp',h1,fun k hk=>(h2 k hk).imp id (fun h=>by omega)⟩
theorem fV.child {R':World→(Nat→Prop)→List Cell→Prop} {w w':World} {p:Nat} {fp fpc fpc':Nat→Prop} {σ:List Cell} {v:Value} (_h:fV B t u R p w fp σ) (hp:w.heap[p]?=some (.cells #[v,.iface t u] 130 (0,0))) (Aa:w.ownsRow 0 5 1 v σ.length (aN (σ.map mark)))
 (n1:v.ownBlock≠some p) (n2:¬ fpc p) (n3:∀ k,v.ownBlock=some k→¬ fpc k) (Aj:∀ k,fp k↔k=p∨v.ownBlock=some k∨fpc k) (hB:∀ k,fp k→B≤k) (_hlt:∀ k,fpc k→k<w.heap.size)
 (hf:Fr fpc w w') (hR:R' w' fpc' (σ.map nz)) (hg:Grow w fpc fpc'):Fr fp w w'∧∃ fp',fV B t u R' p w' fp' σ∧Grow w fp fp':=by
 have AZ:=aC hp;have FO:∀ k,v.ownBlock=some k→k<w.heap.size:=fun k hk=>aO Aa hk
 have ER:B≤p:=hB p ((Aj p).2 (.inl rfl))
 refine ⟨hf.mono (fun k _ h=>(Aj k).2 (.inr (.inr h))),fun k=>k=p∨v.ownBlock=some k∨fpc' k,⟨v,fpc',(hf.block p AZ n2).trans hp,hf.owns Aa n3,hR,n1,?_,?_,fun k=>Iff.rfl,?_⟩,?_⟩
 · intro h
   rcases hg p h with h|h
   · exact n2 h
   · omega
 · intro k hk h
   rcases hg k h with h|h
   · exact n3 k hk h
   · have:=FO k hk;omega
 · rintro k (rfl|hk|hk)
   · exact ER
   · exact hB k ((Aj k).2 (.inr (.inl hk)))
   · rcases hg k hk with h|h
     · exact hB k ((Aj k).2 (.inr (.inr h)))
     · omega
 · rintro k (rfl|hk|hk)
   · exact .inl ((Aj k).2 (.inl rfl))
   · exact .inl ((Aj k).2 (.inr (.inl hk)))
   · exact (hg k hk).imp (fun h=>(Aj k).2 (.inr (.inr h))) id
theorem aDJ (sp:ColSpec Tryz.prog B t u T st R Rp) (w:World) (p:Nat) (fp:Nat→Prop) (σ:List Cell) (h:fV B t u R p w fp σ) :
 Calls Tryz.prog 188 #[.pointer (some ⟨p,0,none⟩)] w fun e w'=>e=.returned .nilIface∧Fr fp w w'∧∃ fp',fV B t u Rp p w' fp' σ∧Grow w fp fp':=by
 obtain ⟨v,fpc,hp,Aa,hR,n1,n2,n3,Aj,hB⟩:=h;have d1:w.cell? ⟨p,1,none⟩=some (.iface t u):=crw hp rfl;have Ar:∀ k,fpc k→k<w.heap.size:=fun k hk=>(sp.lo hR k hk).2
 have AZ:=aC hp;obtain ⟨q,EP,Dc⟩:=sp.prepare;have BX:=EP 59;have Dc:=Dc hR
 cases q with
 | false =>
  simp only[Bool.false_eq_true,if_false] at Dc BX;go_enter func188,ntmps188;go_wp2;go_ret
  exact ⟨rfl,Fr.refl _ _,fp,⟨v,fpc,hp,Aa,Dc,n1,n2,n3,Aj,hB⟩,fun k hk=>.inl hk⟩
 | true =>
  simp only[if_true] at Dc BX;go_enter func188,ntmps188
  go_wp2_with ((with_reducible show wpList _ _ _ (⟨some 16,_,_,_,_,_⟩ :: _) _ _);refine aT _ rfl _ _ _ _ rfl _ _ rfl Dc rfl ?_;rintro e w' ⟨rfl,Ad,FM⟩;refine ⟨_,rfl,?_⟩)
  go_ret;obtain ⟨fpc',h1,h2⟩:=FM
  exact ⟨rfl,fV.child ⟨v,fpc,hp,Aa,hR,n1,n2,n3,Aj,hB⟩ hp Aa n1 n2 n3 Aj hB Ar Ad h1 h2⟩
theorem aIT (sp:ColSpec Tryz.prog B t u T st R Rp) (w:World) (fpc:Nat→Prop) (τ:List Cell) (hR:Rp w fpc τ) (v:Value) (AQ:∃ a n c,v=.slice a n c) (b:Nat) (fb:Nat→Prop) (bs:List UInt8) (hb:Buf w b fb bs) (hd:∀ k,fpc k→¬ fb k) (hl:bs.length+st.length≤2147483648) :
 Calls Tryz.prog 187 #[.agg #[v,.iface t u],.pointer (some ⟨b,0,none⟩)] w fun e w'=>e=.returned (.tuple #[])∧Fr fb w w'∧∃ fb',Buf w' b fb' (bs++st)∧Grow w fb fb':=by
 obtain ⟨q,EP,BD⟩:=sp.state;have BX:=EP 59;have AC:=sp.lo' hR;have Hy:Rp (w.alloc (.cells #[v,.iface t u] 130)) fpc τ:=sp.frame' hR fun k hk=>Below.heap_alloc _ _ _ (AC k hk).2
 have FZ:Buf (w.alloc (.cells #[v,.iface t u] 130)) b fb bs:=aJ.aW hb fun k hk=>Below.heap_alloc _ _ _ (aJ.lt hb k hk)
 obtain ⟨av,nv,cv,rfl⟩:=AQ
 cases q with
 | false =>
  simp only[Bool.false_eq_true,if_false] at BD BX;subst BD;go_enter func187,ntmps187;go_wp2;go_end0
  exact ⟨rfl,(Fr.refl _ w).alloc _,fb,by simpa using FZ,fun k hk=>.inl hk⟩
 | true =>
  simp only[if_true] at BD BX;have hi:=BD Hy FZ hd hl;go_enter func187,ntmps187
  go_wp2_with ((with_reducible show wpList _ _ _ (⟨some 15,_,_,_,_,_⟩ :: _) _ _);refine aT _ rfl _ _ _ _ rfl _ _ rfl hi rfl ?_;rintro e w' ⟨rfl,Ad,ED⟩;refine ⟨_,rfl,?_⟩)
  go_end0;obtain ⟨fb',h1,h2⟩:=ED
  exact ⟨rfl,((Fr.refl fb w).alloc _).trans Ad (fun _ _ h=>h),fb',h1,fun k hk=>(h2 k hk).imp id (fun h=>by simp at h;omega)⟩
def mc (c:Cell):Cell:=.mk (mark c).toNat 0 0 0 ⟨#[]⟩ false [] []
theorem yO (σ:List Cell):(σ.map mc).flatMap (aG 1)=σ.map mark:=by
 induction σ with
 | nil=>rfl
 | cons c σ ih =>
  have h:aG 1 (mc c)=[mark c]:=by
   rw[dO 1 (by omega)];show Lib.leBytes 1 (mark c).toNat=_;unfold mark
   cases c.null<;>rfl
  rw[map_cons,flatMap_cons,map_cons,ih,h]
  rfl
theorem yP (σ:List Cell):(σ.map mc).flatMap dF=aN (σ.map mark):=by rw[zY,yO]
theorem aFU (sp:ColSpec Tryz.prog B t u T st R Rp) (w:World) (fpc:Nat→Prop) (σ:List Cell) (hR:Rp w fpc (σ.map nz)) (v:Value) (Aa:w.ownsRow 0 5 1 v σ.length (aN (σ.map mark))) (b:Nat) (fb:Nat→Prop) (bs:List UInt8) (hb:Buf w b fb bs) (hd:∀ k,fpc k→¬ fb k)
 (PM:∀ k,v.ownBlock=some k→¬ fb k) (hw:wts σ≤2147483648) (hl:bs.length+(enc (.nul T) σ).length≤1099511627776) :
 Calls Tryz.prog 186 #[.agg #[v,.iface t u],.pointer (some ⟨b,0,none⟩)] w fun e w'=>e=.returned (.tuple #[])∧Fr fb w w'∧∃ fb',Buf w' b fb' (bs++enc (.nul T) σ)∧Grow w fb fb':=by
 obtain ⟨a1,c1,rfl⟩:=ownsRow_shape Aa;rw[xG] at hl;rw[length_append,length_map] at hl;have AC:=sp.lo' hR;have EC:=bF σ;have hA:F0 w (w.alloc (.cells #[.slice a1 σ.length c1,.iface t u] 130)):=(Fr.refl _ w).alloc _;have Hy:Rp (w.alloc (.cells #[.slice a1 σ.length c1,.iface t u] 130)) fpc (σ.map nz):=sp.frame' hR fun k hk=>Below.heap_alloc _ _ _ (AC k hk).2
 have FZ:Buf (w.alloc (.cells #[.slice a1 σ.length c1,.iface t u] 130)) b fb bs:=aJ.aW hb fun k hk=>Below.heap_alloc _ _ _ (aJ.lt hb k hk)
 have Qe:=hA.owns Aa (fun _ _ h=>h);have Df:∀ k,fb k→k<w.heap.size:=aJ.lt hb;have G6:(σ.map mc).length=σ.length:=length_map _;have DN:=aBx _ b fb bs FZ a1 c1 (σ.map mc) (by rw[G6,yP];exact Qe) (by rw[G6];exact PM) (fun c hc=>by obtain ⟨x,_,rfl⟩:=mem_map.1 hc;exact Nat.lt_of_lt_of_le (mark x).toNat_lt (by decide)) (by rw[G6];omega);rw[G6,yO] at DN;have q1:(w.alloc (.cells #[.slice a1 σ.length c1,.iface t u] 130)).cell? ⟨w.heap.size,1,none⟩=some (.iface t u):=by rw[aB rfl];rfl
 have Pz:¬ fb w.heap.size:=fun h=>by have:=Df _ h;omega
 go_enter func186,ntmps186
 go_wp2_with (first
  | (go_at_call 195;refine DN.mono ?_;rintro e w1 ⟨rfl,Ad,fb1,ED,ET⟩;have q2:=Ad.aA q1 Pz;have FI:=Ad.size;have hi:=sp.encode (sp.frame' Hy (w':=w1) fun k hk=>Ad.block k (sp.lo' Hy k hk).2 (hd k hk)) (Nat.le_trans (yT σ) hw) ED (fun k hk h=>(ET k h).elim (hd k hk) (fun h=>by have:=(sp.lo' Hy k hk).2;omega)) (by rw[length_append,length_map];omega))
  | ((with_reducible show wpList _ _ _ (⟨some 11,_,_,_,_,_⟩ :: _) _ _);refine aT _ rfl _ _ _ _ rfl _ _ rfl hi rfl ?_;rintro e w2 ⟨rfl,Ae,fb2,Bj,BJ⟩;refine ⟨_,rfl,?_⟩))
 go_end0
 refine ⟨rfl,((hA.mono (fun _ _ h=>h.elim)).trans Ad (fun _ _ h=>h)).trans Ae (fun k hk h=>(ET k h).resolve_right (by simp;omega)),fb2,?_,fun k hk=>?_⟩
 · rw[xG,← append_assoc]
   exact Bj
 · rcases BJ k hk with h|h
   · rcases ET k h with h|h
     · exact .inl h
     · simp at h;exact .inr (by omega)
   · simp at FI;exact .inr (by omega)
end
section
variable {P:Program} {w:World}
theorem eU {n:Nat} {t:TypeId} {name:String} {s:TypeId} {fs:Array Field} {fd:Field} {f:FuncId} (pr:Bool) (hs:P.underlying s=some (.struct fs)) (OC:fs[0]?=some fd) (KH:fd.offset=0) (NE:∀ w,(isAgg fd.type).run P w=.ok false w)
 (h:((P.info? t).bind fun i=>i.methods.find? (·.name == name)).map (fun m=>(m.path,m.func))=some (#[{ struct:=s,index:=0,deref:=false}],some (f,pr)))
 {cs:Array Value} {v r:Value} (hc:cs[0]?=some v) (hr:(receiverAt fd.type (.val v) pr none).run P w=.ok r w):(method (n+1) t (.agg cs) name).run P w=.ok (f,r) w:=by
 cases hi:P.info? t with
 | none=>simp[hi] at h
 | some i =>
  cases hm:i.methods.find? (·.name == name) with
  | none=>simp[hi,hm] at h
  | some m =>
   simp only[hi,hm,Option.bind_some,Option.map_some,Option.some.injEq,Prod.mk.injEq] at h;obtain ⟨hp,hf⟩:=h;unfold method;simp only[Sem.run_bind,typeInfo,run_program,Result.andThen_ok,hi,Sem.run_pure,hm,hp,follow,hf,run_underlying hs,OC,part,KH,hc];simp[Sem.run_bind,NE,hr]
theorem jT {t e:TypeId} {v:Value} (hu:P.underlying t=some (.pointer e)):(receiverAt t (.val v) true none).run P w=.ok v w:=by
 simp[receiverAt,run_underlying hu,Place.get]
theorem gU {t e:TypeId} {a:Addr} {r:Value} (hu:P.underlying t=some (.pointer e)) (hl:(loadVar e a).run P w=.ok r w):(receiverAt t (.val (.pointer (some a))) false none).run P w=.ok r w:=by
 simp[receiverAt,run_underlying hu,Place.get,asAddr,hl]
end
theorem aDy {w:World} {a:Addr} {u v:Value} (h0:w.cell? a=some u) (h1:w.cell? (a.add 1)=some v):(loadVar 130 a).run Tryz.prog w=.ok (.agg #[u,v]) w:=by
 have h:(Tryz.prog.info? 130).map (·.size)=some 2:=by kernel_rfl
 obtain ⟨i,hi,hs⟩:=Option.map_eq_some_iff.1 h
 exact rH underlying130 hi hs h0 h1
theorem vW (p:Nat) (w:World) (name:String) (f:FuncId) (h:(name,f)=("Append",200)∨(name,f)=("AppendArr",201)) :
 (method mdp 80 (.agg #[.pointer (some ⟨p,0,none⟩)]) name).run Tryz.prog w=.ok (f,.agg #[.pointer (some ⟨p,0,none⟩)]) w:=by
 rcases h with h|h<;>(simp only[Prod.mk.injEq] at h;obtain ⟨rfl,rfl⟩:=h;kernel_rfl)
theorem nI (p:Nat) (w:World) (u v:Value) (h0:w.cell? ⟨p,0,none⟩=some u) (h1:w.cell? ⟨p,1,none⟩=some v) (name:String) (f:FuncId)
 (h:(name,f)=("Rows",191)∨(name,f)=("EncodeColumn",186)∨(name,f)=("EncodeState",187)) :
 (method mdp 80 (.agg #[.pointer (some ⟨p,0,none⟩)]) name).run Tryz.prog w=.ok (f,.agg #[u,v]) w:=by
 obtain ⟨n,hn⟩:=fuel;rw[hn];have hr:=gU (P:=Tryz.prog) underlying77 (aDy h0 (by simpa [Addr.add] using h1));rcases h with h|h|h<;>(simp only[Prod.mk.injEq] at h;obtain ⟨rfl,rfl⟩:=h;exact eU (n:=n+1) false underlying80 rfl rfl (fun _=>by kernel_rfl) (by kernel_rfl) rfl hr)
theorem aCl (p:Nat) (w:World):(method mdp 80 (.agg #[.pointer (some ⟨p,0,none⟩)]) "Prepare").run Tryz.prog w=.ok (188,.pointer (some ⟨p,0,none⟩)) w:=by
 obtain ⟨n,hn⟩:=fuel;rw[hn]
 exact eU (n:=n+1) true underlying80 rfl rfl (fun _=>by kernel_rfl) (by kernel_rfl) rfl (jT underlying77)
theorem aLT (w:World) (a:Option Addr) (n c:Nat) (x:Value) (hx:∃ t u,x=.iface t u):Calls Tryz.prog 191 #[.agg #[.slice a n c,x]] w fun e w'=>e=.returned (.int .i64 n)∧F0 w w':=by
 obtain ⟨t,u,rfl⟩:=hx;go_enter func191,ntmps191
 go_wp2_with (go_at_call 197;refine (aHH _ a n c).mono ?_;rintro e w1 ⟨rfl,Ad⟩)
 go_ret
 exact ⟨rfl,((Fr.refl _ w).alloc _).trans Ad (fun _ _ h=>h)⟩
theorem aFY {B:Nat} {t:TypeId} {u:Value} {T:Ty} {st:List UInt8} {R Rp:World→(Nat→Prop)→List Cell→Prop} (sp:ColSpec Tryz.prog B t u T st R Rp) (p:Nat) :
 ColSpec Tryz.prog B 80 (.agg #[.pointer (some ⟨p,0,none⟩)]) (.nul T) st (fV B t u R p) (fV B t u Rp p) where
 lo:=fun h=>h.lt sp.lo
 lo':=fun h=>h.lt sp.lo'
 frame:=fun h hk=>h.aW sp.frame hk
 frame':=fun h hk=>h.aW sp.frame' hk
 append:=by
  intro w fp σ c vs h AQ hw;have Nr:=AQ;obtain ⟨ia,il,ic,ka,kl,kc,rfl,-⟩:=AQ.open
  exact aF.of1 (vW p w _ _ (.inl rfl)) call200 (aCk sp w p fp σ h c ia il ic ka kl kc Nr hw)
 appendArr:=by
  intro w fp σ cs v xs h hs A8 hw
  exact aF.of1 (vW p w _ _ (.inr rfl)) call201 (wS sp w p fp σ h cs v xs hs A8 hw)
 rows:=by
  intro w fp σ h;obtain ⟨v,fpc,hp,Aa,_⟩:=h;obtain ⟨a,c,rfl⟩:=ownsRow_shape Aa
  exact aF.of0 (nI p w _ _ (crw hp rfl) (crw hp rfl) _ _ (.inl rfl)) call191 (aLT w a _ c _ ⟨_,_,rfl⟩)
 flat:=by rintro w name (rfl|rfl|rfl) n m<;>exact kK (by kernel_rfl) (n+1) (m+1)
 ahead:=fun w=>by kernel_rfl
 prepare:=⟨true,fun x w=>run_typeAssert_hasB underlying102 (by kernel_rfl) _ x w,fun {w fp σ} h=>by
  simp only[if_true]
  exact aF.of0 (aCl p w) call188 (aDJ sp w p fp σ h)⟩
 state:=⟨true,fun x w=>run_typeAssert_hasB underlying172 (by kernel_rfl) _ x w,by
  simp only[if_true];intro w fp σ b fb bs h hb hd hl;obtain ⟨v,fpc,hp,Aa,hR,n1,n2,n3,Aj,hB⟩:=h;obtain ⟨a,c,rfl⟩:=ownsRow_shape Aa
  exact aF.of1 (nI p w _ _ (crw hp rfl) (crw hp rfl) _ _ (.inr (.inr rfl))) call187
   (aIT sp w fpc _ hR _ ⟨_,_,_,rfl⟩ b fb bs hb (fun k hk=>hd k ((Aj k).2 (.inr (.inr hk)))) hl)⟩
 encode:=by
  intro w fp σ b fb bs h hw hb hd hl;obtain ⟨v,fpc,hp,Aa,hR,n1,n2,n3,Aj,hB⟩:=h;obtain ⟨a,c,rfl⟩:=ownsRow_shape Aa
  exact aF.of1 (nI p w _ _ (crw hp rfl) (crw hp rfl) _ _ (.inr (.inl rfl))) call186
   (aFU sp w fpc σ hR _ Aa b fb bs hb (fun k hk=>hd k ((Aj k).2 (.inr (.inr hk)))) (fun k hk=>hd k ((Aj k).2 (.inr (.inl hk)))) hw hl)
section
variable {B:Nat} {t:TypeId} {u:Value} {T:Ty} {st:List UInt8} {R Rp:World→(Nat→Prop)→List Cell→Prop}
theorem aIU (sp:ColSpec Tryz.prog B t u T st R Rp) (cw:ColW Tryz.prog t u T R Rp) (w:World) (fpc:Nat→Prop) (σ:List Cell) (hR:Rp w fpc (σ.map nz)) (v:Value) (Aa:w.ownsRow 0 5 1 v σ.length (aN (σ.map mark)))
 {conn:Value} {ps pw:Nat} {fw:Nat→Prop} {n:Nat} {out:List UInt8} (h:eG conn ps pw w fw n out) (hd:∀ k,fpc k→¬ fw k∧k≠ps)
 (PM:∀ k,v.ownBlock=some k→¬ fw k∧k≠ps) (hw:wts σ≤2147483648) (hl:out.length+(enc (.nul T) σ).length≤1099511627776) (hn:n+pcs (.nul T)≤1000000000) :
 Calls Tryz.prog 193 #[.agg #[v,.iface t u],.pointer (some ⟨pw,0,none⟩)] w (iR conn ps pw w fw (n+pcs (.nul T)) (out++enc (.nul T) σ)):=by
 obtain ⟨a1,c1,rfl⟩:=ownsRow_shape Aa;rw[xG] at hl;rw[length_append,length_map] at hl;have Ur:pcs (.nul T)=2+pcs T:=rfl;have AC:=sp.lo' hR;have hA:F0 w (w.alloc (.cells #[.slice a1 σ.length c1,.iface t u] 130)):=(Fr.refl _ w).alloc _;have Hy:Rp (w.alloc (.cells #[.slice a1 σ.length c1,.iface t u] 130)) fpc (σ.map nz):=sp.frame' hR fun k hk=>Below.heap_alloc _ _ _ (AC k hk).2
 have FZ:=h.quiet hA;have Qe:=hA.owns Aa (fun _ _ h=>h);have Df:∀ k,fw k→k<w.heap.size:=h.lt;have G6:(σ.map mc).length=σ.length:=length_map _;have DN:=aAb FZ a1 c1 (σ.map mc) (by rw[G6,yP];exact Qe) (by rw[G6];exact PM) (by omega) (by omega);rw[G6,yO] at DN;have q1:(w.alloc (.cells #[.slice a1 σ.length c1,.iface t u] 130)).cell? ⟨w.heap.size,1,none⟩=some (.iface t u):=by rw[aB rfl];rfl
 have Pz:¬ fw w.heap.size:=fun h=>by have:=Df _ h;omega
 go_enter func193,ntmps193
 go_wp2_with (first
  | (go_at_call 198;refine DN.mono ?_;rintro e w1 ⟨rfl,Ad,fb1,ED,ET⟩;have q2:=Ad.aA q1 Pz;have FI:=Ad.size;have hi:=cw.write (sp.frame' Hy (w':=w1) fun k hk=>Ad.block k (sp.lo' Hy k hk).2 (hd k hk).1) (Nat.le_trans (yT σ) hw) ED (fun k hk=>⟨fun h=>(ET k h).elim (hd k hk).1 (fun h=>by have:=(sp.lo' Hy k hk).2;omega),(hd k hk).2⟩) (by rw[length_append,length_map];omega) (by omega))
  | ((with_reducible show wpList _ _ _ (⟨some 11,_,_,_,_,_⟩ :: _) _ _);refine aT _ rfl _ _ _ _ rfl _ _ rfl hi rfl ?_;rintro e w2 ⟨rfl,Ae,fb2,Bj,BJ⟩;refine ⟨_,rfl,?_⟩))
 go_end0
 refine iR.from hA ⟨rfl,Ad.trans Ae (fun k hk h=>(ET k h).resolve_right (Nat.not_le_of_lt hk)),fb2,?_,fun k hk=>?_⟩
 · rw[xG,← append_assoc,← Nat.add_assoc]
   exact Bj
 · exact (BJ k hk).elim (ET k) (fun h=>.inr (Nat.le_trans FI h))
end
section
variable {B:Nat} {t:TypeId} {u:Value} {T:Ty} {st:List UInt8} {R Rp:World→(Nat→Prop)→List Cell→Prop}
theorem aOd (sp:ColSpec Tryz.prog B t u T st R Rp) (cw:ColW Tryz.prog t u T R Rp) (w:World) (fpc:Nat→Prop) (σ:List Cell) (hR:R w fpc (σ.map nz)) (v:Value) (Aa:w.ownsRow 0 5 1 v σ.length (aN (σ.map mark))) (hw:wts σ≤2147483648) (k:Nat) (hk:k<σ.length) :
 Calls Tryz.prog 190 #[.agg #[v,.iface t u],.int .i64 k] w fun e w'=>∃ c xs,e=.returned (.agg (.bool (!σ[k].null) :: xs).toArray)∧F0 w w'∧bZ (New w w') w' c xs∧(Made T (nz σ[k])→c=nz σ[k]):=by
 obtain ⟨a1,c1,rfl⟩:=ownsRow_shape Aa;have AC:=sp.lo hR;have G6:(σ.map mc).length=σ.length:=length_map _;have AL:=fun W (Aw:F0 w W)=>aOD W a1 k c1 (σ.map mc) (by rw[G6];exact hk) (by rw[G6,yP];exact Aw.owns Aa (fun _ _ h=>h))
 have Ag:=fun W (Aw:F0 w W)=>cw.row (w:=W) (k:=k) (by rw[length_map];exact hk) (sp.frame hR fun q hq=>Aw.block q (AC q hq).2 (fun h=>h)) (Nat.le_trans (yT σ) hw)
 simp only[G6,getElem_map] at AL Ag
 have EO:(IntKind.u8.wrap ((mc σ[k]).r0:Nat) == 0)=!σ[k].null:=by
  show (IntKind.u8.wrap ((mark σ[k]).toNat:Nat) == 0)=_;unfold mark
  cases σ[k].null<;>rfl
 have VW:=Lib.hid AL;have Bq:=Lib.hid Ag;clear AL Ag;go_enter func190,ntmps190
 go_wp2_with fail
 generalize hW:(w.alloc _).alloc _=W;have Af:F0 w W:=by subst hW;exact ((Fr.refl _ w).alloc _).alloc _
 have d0:W.cell? ⟨w.heap.size,0,none⟩=some (.slice a1 σ.length c1):=by subst hW;rw[ca (by simp),aB rfl];rfl
 have d1:W.cell? ⟨w.heap.size,1,none⟩=some (.iface t u):=by subst hW;rw[ca (by simp),aB rfl];rfl
 have Di:W.heap[w.heap.size+1]?=some (.cells #[.bool false,.int .u64 0,.int .u64 0,.int .u64 0,.int .u64 0,.string ⟨#[]⟩,.bool false,.slice none 0 0,.slice none 0 0] 467 (0,0)):=by subst hW;exact Fr.made (Fr.refl _ _) (by simp)
 clear hW
 go_region_law
  (first
   | (refine aK _ rfl ?_;refine bH _ _ _ _ _ rfl _ _ rfl (Bq.out W.drew Af.drew) rfl ?_;rintro e w1 ⟨c,xs,rfl,BL,F7,E8⟩;have Ad:=BL.aH;obtain ⟨ia,ic,ka,kc,ixs,kxs,rfl,-⟩:=(id F7).full;have d0':=Ad.aA d0 (fun h=>h);refine ⟨_,rfl,?_⟩)
   | (go_simp;go_at_call 196;refine (VW.out w1 (Af.trans Ad (fun _ _ h=>h))).mono ?_;rintro e w2 ⟨rfl,Ae⟩;have FC:=Ad.trans Ae (fun _ _ h=>h);have AB:=(FC.block _ (aC Di) (fun h=>h)).trans Di;have c0:w2.cell? ⟨w.heap.size+1,0,none⟩=some (.bool false):=(crw AB rfl);have z0:=fzj 0 AB;have c1:w2.cell? ⟨w.heap.size+1,1,none⟩=some (.int .u64 0):=(crw AB rfl);have z1:=fzj 1 AB;have c2:w2.cell? ⟨w.heap.size+1,2,none⟩=some (.int .u64 0):=(crw AB rfl);have z2:=fzj 2 AB;have c3:w2.cell? ⟨w.heap.size+1,3,none⟩=some (.int .u64 0):=(crw AB rfl);have z3:=fzj 3 AB;have c4:w2.cell? ⟨w.heap.size+1,4,none⟩=some (.int .u64 0):=(crw AB rfl);have z4:=fzj 4 AB;have c5:w2.cell? ⟨w.heap.size+1,5,none⟩=some (.string ⟨#[]⟩):=(crw AB rfl);have z5:=fzj 5 AB;have c6:w2.cell? ⟨w.heap.size+1,6,none⟩=some (.bool false):=(crw AB rfl);have z6:=fzj 6 AB;have c7:w2.cell? ⟨w.heap.size+1,7,none⟩=some (.slice none 0 0):=(crw AB rfl);have z7:=fzj 7 AB;have c8:w2.cell? ⟨w.heap.size+1,8,none⟩=some (.slice none 0 0):=(crw AB rfl);have z8:=fzj 8 AB))
 all_goals (try simp only[Exit.then])
 all_goals
  refine (‹∀ (a:Act) (w:World),Code.wp _ Code.ret _ a w→_› _ _ ?_)
  refine wp_ret ?_
  show bodyPost _ _ _ _ _ _
  refine bodyPost_ret (by simp[results,results190,go_sem,c0,c1,c2,c3,c4,c5,c6,c7,c8];try rfl) rfl ?_
  exact ⟨c,_,rfl,and_assoc.1 ⟨New.fin F7 Af.drew.size (Af.drew.trans BL fun _ _ h=>h) Ae (aC Di) (Nat.le_succ _) (Fr.aPA _ _ _ _ _ _ _ _ _),E8⟩⟩
theorem aDK (p:Nat) (w:World):(method mdp 80 (.agg #[.pointer (some ⟨p,0,none⟩)]) "Row").run Tryz.prog w=.ok (202,.agg #[.pointer (some ⟨p,0,none⟩)]) w:=by kernel_rfl
theorem aIV (sp:ColSpec Tryz.prog B t u T st R Rp) (cw:ColW Tryz.prog t u T R Rp) (w:World) (p:Nat) (fp:Nat→Prop) (σ:List Cell) (h:fV B t u R p w fp σ) (hw:wts σ≤2147483648) (k:Nat) (hk:k<σ.length) :
 Calls Tryz.prog 202 #[.agg #[.pointer (some ⟨p,0,none⟩)],.int .i64 k] w fun e w'=>∃ c xs,e=.returned (.agg xs.toArray)∧F0 w w'∧bZ (New w w') w' c xs∧(Made (.nul T) σ[k]→c=σ[k]):=by
 obtain ⟨v,fpc,hp,Aa,hR,n1,n2,n3,Aj,hB⟩:=h;obtain ⟨a1,c1,rfl⟩:=ownsRow_shape Aa;have AC:=sp.lo hR;have d0:w.cell? ⟨p,0,none⟩=some (.slice a1 σ.length c1):=crw hp rfl;have d1:w.cell? ⟨p,1,none⟩=some (.iface t u):=crw hp rfl;have Ag:=fun W (Aw:F0 w W)=>aOd sp cw W fpc σ (sp.frame hR fun q hq=>Aw.block q (AC q hq).2 (fun h=>h)) _ (Aw.owns Aa (fun _ _ h=>h)) hw k hk
 have AZ:=aC hp
 have hm:∀ c:Cell,(Made T (nz σ[k])→c=nz σ[k])→σ[k].null=false→Made (.nul T) σ[k]→c=σ[k]:=fun c hc hn hm=>by
  have e:nz σ[k]=σ[k]:=by unfold nz;rw[hn];rfl
  rw[e] at hc;rcases hm with hm|hm
  · rw[hm] at hn;cases hn
  · exact hc hm.2
 have Y1:σ[k].null=true→Made (.nul T) σ[k]→Cell.mk 0 0 0 0 ⟨#[]⟩ true [] []=σ[k]:=fun hn hm=>by
  rcases hm with hm|hm
  · exact hm.symm
  · rw[hm.1] at hn;cases hn
 have NC:=fun w:World=>((Fr.refl (fun _=>False) w).alloc (.cells #[.pointer (some ⟨p,0,none⟩)] 80)).alloc (.cells #[.int .u64 0,.int .u64 0,.int .u64 0,.int .u64 0,.string ⟨#[]⟩,.bool false,.slice none 0 0,.slice none 0 0] 35)
 generalize σ[k].null=nl at Ag hm Y1;have Bq:=Lib.hid Ag;clear Ag
 have hz:∀ w1,F0 ((w.alloc (.cells #[.pointer (some ⟨p,0,none⟩)] 80)).alloc (.cells #[.int .u64 0,.int .u64 0,.int .u64 0,.int .u64 0,.string ⟨#[]⟩,.bool false,.slice none 0 0,.slice none 0 0] 35)) w1 →
  w1.heap[w.heap.size+1]?=some (.cells #[.int .u64 0,.int .u64 0,.int .u64 0,.int .u64 0,.string ⟨#[]⟩,.bool false,.slice none 0 0,.slice none 0 0] 35 (0,0)):=fun w1 Ad=>Ad.made (by simp)
 go_enter func202,ntmps202
 cases nl
 all_goals
  go_wp2_with (go_at_call 190;refine (Bq.out _ (((Fr.refl _ w).alloc _).alloc _)).mono ?_;rintro e w1 ⟨c,xs,rfl,Ad,F7,E8⟩;obtain ⟨ia,ic,ka,kc,ixs,kxs,rfl,-⟩:=(id F7).full;have E5:=hz w1 Ad;have KN:=aC E5;obtain ⟨c0,c1,c2,c3,c4,c5,c6,c7⟩:=bD.eight (bD.of_block E5);have z0:=fzj 0 E5;have z1:=fzj 1 E5;have z2:=fzj 2 E5;have z3:=fzj 3 E5;have z4:=fzj 4 E5;have z5:=fzj 5 E5;have z6:=fzj 6 E5;have z7:=fzj 7 E5)
 all_goals refine bodyPost_ret (by simp[results,results202,go_sem,c0,c1,c2,c3,c4,c5,c6,c7,KN];try rfl) rfl ?_
 · exact ⟨c,_,rfl,and_assoc.1 ⟨New.fin F7 (NC w).size ((NC w).trans Ad fun _ _ h=>h) (Fr.refl _ _) (by simp) (Nat.le_succ _) ((Fr.zF _ _ _ _ _ _ _ _).alloc _),hm c E8 trivial⟩⟩
 · exact ⟨_,_,rfl,and_assoc.1 ⟨New.fin (aLV _ w1) (NC w).size ((NC w).trans Ad fun _ _ h=>h) (Fr.refl _ _) (by simp) (Nat.le_succ _) ((Fr.zF _ _ _ _ _ _ _ _).alloc _),Y1 trivial⟩⟩
theorem aFX (p:Nat) (w:World) (u v:Value) (h0:w.cell? ⟨p,0,none⟩=some u) (h1:w.cell? ⟨p,1,none⟩=some v):(method mdp 80 (.agg #[.pointer (some ⟨p,0,none⟩)]) "WriteColumn").run Tryz.prog w=.ok (193,.agg #[u,v]) w:=by
 obtain ⟨n,hn⟩:=fuel;rw[hn]
 exact eU (n:=n+1) false underlying80 rfl rfl (fun _=>by kernel_rfl) (by kernel_rfl) rfl (gU (P:=Tryz.prog) underlying77 (aDy h0 (by simpa [Addr.add] using h1)))
theorem aFW (sp:ColSpec Tryz.prog B t u T st R Rp) (cw:ColW Tryz.prog t u T R Rp) (p:Nat):ColW Tryz.prog 80 (.agg #[.pointer (some ⟨p,0,none⟩)]) (.nul T) (fV B t u R p) (fV B t u Rp p) where
 write:=by
  intro conn ps pw w fp σ fw n out h hw CY hd hl hn;obtain ⟨v,fpc,hp,Aa,hR,n1,n2,n3,Aj,hB⟩:=h;obtain ⟨a,c,rfl⟩:=ownsRow_shape Aa
  exact aF.of1 (aFX p w _ _ (crw hp rfl) (crw hp rfl)) call193
   (aIU sp cw w fpc σ hR _ Aa CY (fun k hk=>hd k ((Aj k).2 (.inr (.inr hk)))) (fun k hk=>hd k ((Aj k).2 (.inr (.inl hk)))) hw hl hn)
 row:=fun {w fp σ k} hk h hw=>aF.of1 (aDK p w) call202 (aIV sp cw w p fp σ h hw k hk)
end
end Go.Proofs.YtcidlnjpabgioaaGreatDoor
