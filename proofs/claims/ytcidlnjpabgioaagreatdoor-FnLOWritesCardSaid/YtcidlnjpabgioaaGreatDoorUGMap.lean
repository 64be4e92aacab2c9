import Derived.Test.YtcidlnjpabgioaaGreatDoorUGTree
import Derived.Test.YtcidlnjpabgioaaGreatDoorUGArr
set_option maxHeartbeats 4000000
set_option maxRecDepth 100000
namespace Go.Proofs.YtcidlnjpabgioaaGreatDoor
open Tryz List Go.RowKit
def bV (c:Cell):List Value:=[.int .u64 c.r0,.int .u64 c.r1,.int .u64 c.r2,.int .u64 c.r3,.string c.s]
theorem aDq (c:Cell):c.keyed.wt≤c.wt:=by
 rw[Cell.nS c];unfold Cell.keyed Cell.wt;simp only[wts];omega
theorem aDp {c:Cell} (h:c.small):c.keyed.small:=h
theorem aLA (B:Nat) (w:World) {c:Cell} (h:c.small):bP B w c.keyed [.int .u64 c.r0,.int .u64 c.r1,.int .u64 c.r2,.int .u64 c.r3,.string c.s,.bool false,.slice none 0 0,.slice none 0 0]:=by
 obtain ⟨h0,h1,h2,h3,h4⟩:=h;unfold Cell.keyed bP
 refine ⟨.slice none 0 0,.slice none 0 0,[],[],rfl,h0,h1,h2,h3,h4,⟨rfl,none,0,rfl,Nat.le_refl _,by unfold maxLen;omega,fun _=>rfl,fun _ h=>by cases h⟩,?_,⟨rfl,none,0,rfl,Nat.le_refl _,by unfold maxLen;omega,fun _=>rfl,fun _ h=>by cases h⟩,?_⟩<;>(unfold aI;rfl)
structure iH (P:Program) (B:Nat) (t:TypeId) (u:Value) (T:Ty) (st:List UInt8) (R Rp:World→(Nat→Prop)→List Cell→Prop):Prop where
 lo:∀ {w fp σ},R w fp σ→∀ k,fp k→B≤k∧k<w.heap.size
 lo':∀ {w fp σ},Rp w fp σ→∀ k,fp k→B≤k∧k<w.heap.size
 frame:∀ {w w' fp σ},R w fp σ→(∀ k,fp k→w'.heap[k]?=w.heap[k]?)→R w' fp σ
 frame':∀ {w w' fp σ},Rp w fp σ→(∀ k,fp k→w'.heap[k]?=w.heap[k]?)→Rp w' fp σ
 append:∀ {w fp σ} {c:Cell},R w fp σ→c.small→Wt T (σ++[c.keyed])≤2147483648→aF P (.iface t u) "Append" #[.agg #[.int .u64 c.r0,.int .u64 c.r1,.int .u64 c.r2,.int .u64 c.r3,.string c.s]] w fun e w' =>
  e=.returned (.tuple #[])∧Fr fp w w'∧∃ fp',R w' fp' (σ++[c.keyed])∧Grow w fp fp'
 rows:∀ {w fp σ},R w fp σ→aF P (.iface t u) "Rows" #[] w fun e w'=>e=.returned (.int .i64 σ.length)∧F0 w w'
 prepare:(∀ x w,(Instr.typeAssert (.iface t u) x 102 true).run P w=.ok (.tuple #[.iface t u,.bool true]) w) ∧
  ∀ {w fp σ},R w fp σ→aF P (.iface t u) "Prepare" #[] w fun e w'=>e=.returned .nilIface∧Fr fp w w'∧∃ fp',Rp w' fp' σ∧Grow w fp fp'
 state:(∀ x w,(Instr.typeAssert (.iface t u) x 172 true).run P w=.ok (.tuple #[.iface t u,.bool true]) w) ∧
  ∀ {w fp σ b fb bs},Rp w fp σ→Buf w b fb bs→(∀ k,fp k→¬ fb k)→bs.length+st.length≤2147483648→aF P (.iface t u) "EncodeState" #[.pointer (some ⟨b,0,none⟩)] w fun e w' =>
   e=.returned (.tuple #[])∧Fr fb w w'∧∃ fb',Buf w' b fb' (bs++st)∧Grow w fb fb'
 encode:∀ {w fp σ b fb bs},Rp w fp σ→Wt T σ≤2147483648→Buf w b fb bs→(∀ k,fp k→¬ fb k)→bs.length+(enc T σ).length≤1099511627776→aF P (.iface t u) "EncodeColumn" #[.pointer (some ⟨b,0,none⟩)] w fun e w' =>
  e=.returned (.tuple #[])∧Fr fb w w'∧∃ fb',Buf w' b fb' (bs++enc T σ)∧Grow w fb fb'
theorem oV (w:World) (r0 r1 r2 r3:Int) (s:ByteArray) :
 Calls Tryz.prog 239 #[.agg #[.int .u64 r0,.int .u64 r1,.int .u64 r2,.int .u64 r3,.string s]] w fun e w' =>
  e=.returned (.agg #[.int .u64 r0,.int .u64 r1,.int .u64 r2,.int .u64 r3,.string s,.bool false,.slice none 0 0,.slice none 0 0])∧F0 w w':=by
 go_enter func239,ntmps239;go_wp2
 refine bodyPost_ret (by simp[results,results239,go_sem];try rfl) rfl ?_
 exact ⟨rfl,((Fr.refl _ w).alloc _).alloc _⟩
theorem nY (w:World) (r0 r1 r2 r3:Int) (s:ByteArray) (null:Bool) (iv kv:Value) :
 Calls Tryz.prog 241 #[.agg #[.int .u64 r0,.int .u64 r1,.int .u64 r2,.int .u64 r3,.string s,.bool null,iv,kv]] w fun e w' =>
  e=.returned (.agg #[.int .u64 r0,.int .u64 r1,.int .u64 r2,.int .u64 r3,.string s])∧F0 w w':=by
 go_enter func241,ntmps241;go_wp2
 refine bodyPost_ret (by simp[results,results241,go_sem];try rfl) rfl ?_
 exact ⟨rfl,((Fr.refl _ w).alloc _).alloc _⟩
theorem aOy:∃ n,mdp=n+3:=⟨mdp - 3,by kernel_rfl⟩
theorem pF (t:TypeId) (u:Value) (w:World) (name:String) (f:FuncId) (h:(name,f)=("Append",234)∨(name,f)=("Prepare",237)∨(name,f)=("EncodeState",236)) :
 (method mdp 86 (.agg #[.iface t u]) name).run Tryz.prog w=.ok (f,.agg #[.iface t u]) w:=by
 rcases h with h|h|h<;>(simp only[Prod.mk.injEq] at h;obtain ⟨rfl,rfl⟩:=h;kernel_rfl)
theorem aII {t:TypeId} {u:Value} (hf:aGZ Tryz.prog t u) (w:World) (name:String) (args:Array Value) (hn:name = "Rows"∨name = "EncodeColumn"∨name = "WriteColumn") :
 (callMethod (.iface 86 (.agg #[.iface t u])) name args).run Tryz.prog w=(callMethod (.iface t u) name args).run Tryz.prog w:=by
 obtain ⟨n,ZY⟩:=aOy
 have h:(method mdp 86 (.agg #[.iface t u]) name).run Tryz.prog w=(method mdp t u name).run Tryz.prog w:=by
  rw[ZY]
  refine Eq.trans ?_ (hf w name hn n (n+1))
  rcases hn with rfl|rfl|rfl<;>exact aX (n:=n+2) underlying86 rfl rfl (fun _=>by kernel_rfl) (by kernel_rfl) rfl
 simp only[callMethod,Sem.run_bind,run_program,Result.andThen_ok,h]
theorem lX {t:TypeId} {u:Value} (hf:aGZ Tryz.prog t u) {w:World} {name:String} {args:Array Value} {Q:Ending→World→Prop} (hn:name = "Rows"∨name = "EncodeColumn"∨name = "WriteColumn") (h:aF Tryz.prog (.iface t u) name args w Q) :
 aF Tryz.prog (.iface 86 (.agg #[.iface t u])) name args w Q:=by
 obtain ⟨f,args',h1,h2⟩:=h
 exact ⟨f,args',(aII hf w name args hn).trans h1,h2⟩
section
variable {B:Nat} {t:TypeId} {u:Value} {T:Ty} {st:List UInt8} {R Rp:World→(Nat→Prop)→List Cell→Prop}
theorem aDr (cs:ColSpec Tryz.prog B t u T st R Rp) (w:World) (fp:Nat→Prop) (σ:List Cell) (hR:R w fp σ) (c:Cell) (hc:c.small) (hw:Wt T (σ++[c.keyed])≤2147483648) :
 Calls Tryz.prog 234 #[.agg #[.iface t u],.agg #[.int .u64 c.r0,.int .u64 c.r1,.int .u64 c.r2,.int .u64 c.r3,.string c.s]] w fun e w'=>e=.returned (.tuple #[])∧Fr fp w w'∧∃ fp',R w' fp' (σ++[c.keyed])∧Grow w fp fp':=by
 have AC:=fun q hq=>cs.lo hR q hq
 go_enter func234,ntmps234
 go_wp2_with fail
 generalize hW:(w.alloc _).alloc _=W;have Af:F0 w W:=by subst hW;exact ((Fr.refl _ w).alloc _).alloc _
 have d0:W.cell? ⟨w.heap.size,0,none⟩=some (.iface t u):=by subst hW;rw[ca (by simp),aB rfl];rfl
 have e0:W.cell? ⟨w.heap.size+1,0,none⟩=some (.int .u64 c.r0):=by subst hW;rw[aB (by simp)];rfl
 have e1:W.cell? ⟨w.heap.size+1,1,none⟩=some (.int .u64 c.r1):=by subst hW;rw[aB (by simp)];rfl
 have e2:W.cell? ⟨w.heap.size+1,2,none⟩=some (.int .u64 c.r2):=by subst hW;rw[aB (by simp)];rfl
 have e3:W.cell? ⟨w.heap.size+1,3,none⟩=some (.int .u64 c.r3):=by subst hW;rw[aB (by simp)];rfl
 have e4:W.cell? ⟨w.heap.size+1,4,none⟩=some (.string c.s):=by subst hW;rw[aB (by simp)];rfl
 have hN:¬ fp w.heap.size:=fun h=>by have:=AC _ h;omega
 have AU:¬ fp (w.heap.size+1):=fun h=>by have:=AC _ h;omega
 clear hW
 go_region_held3 (fun w'=>w'.cell? ⟨w.heap.size,0,none⟩=some (.iface t u)∧w'.cell? ⟨w.heap.size+1,0,none⟩=some (.int .u64 c.r0)∧w'.cell? ⟨w.heap.size+1,1,none⟩=some (.int .u64 c.r1)∧w'.cell? ⟨w.heap.size+1,2,none⟩=some (.int .u64 c.r2)∧w'.cell? ⟨w.heap.size+1,3,none⟩=some (.int .u64 c.r3)∧w'.cell? ⟨w.heap.size+1,4,none⟩=some (.string c.s))
  (first
   | exact ⟨d0,e0,e1,e2,e3,e4⟩
   | exact ⟨Ae.aA (Ad.aH.aA d0 (fun h=>h)) hN,Ae.aA (Ad.aH.aA e0 (fun h=>h)) AU,Ae.aA (Ad.aH.aA e1 (fun h=>h)) AU,Ae.aA (Ad.aH.aA e2 (fun h=>h)) AU,Ae.aA (Ad.aH.aA e3 (fun h=>h)) AU,Ae.aA (Ad.aH.aA e4 (fun h=>h)) AU⟩
   | exact ⟨Ad.aH.aA d0 (fun h=>h),Ad.aH.aA e0 (fun h=>h),Ad.aH.aA e1 (fun h=>h),Ad.aH.aA e2 (fun h=>h),Ad.aH.aA e3 (fun h=>h),Ad.aH.aA e4 (fun h=>h)⟩
   | assumption)
  (first
   | (go_at_call 239;refine (oV _ c.r0 c.r1 c.r2 c.r3 c.s).mono ?_;rintro e w1 ⟨rfl,Ad⟩)
   | (refine aK _ rfl ?_;refine bH _ _ _ _ _ rfl _ _ rfl (cs.append (cs.frame hR fun k hk=>(Af.trans Ad.aH (fun _ _ h=>h)).block k (AC k hk).2 (fun h=>h)) (aLA B _ hc) hw) rfl ?_;rintro e w2 ⟨rfl,Ae,BV⟩;refine ⟨_,rfl,?_⟩))
 all_goals
  go_end0;obtain ⟨fp',h1,h2⟩:=BV;have BN:=(Af.trans Ad.aH (fun _ _ h=>h)).size
  exact ⟨rfl,((Af.trans Ad.aH (fun _ _ h=>h)).mono (fun _ _ h=>h.elim)).trans Ae (fun _ _ h=>h),fp',h1,fun k hk=>(h2 k hk).imp id (fun h=>by omega)⟩
theorem aBZ (sp:ColSpec Tryz.prog B t u T st R Rp) (w:World) (fp:Nat→Prop) (σ:List Cell) (hR:R w fp σ) :
 Calls Tryz.prog 237 #[.agg #[.iface t u]] w fun e w'=>e=.returned .nilIface∧Fr fp w w'∧∃ fp',Rp w' fp' σ∧Grow w fp fp':=by
 have AC:=fun q hq=>sp.lo hR q hq
 have hA:R (w.alloc (.cells #[.iface t u] 86)) fp σ:=sp.frame hR fun k hk=>Below.heap_alloc _ _ _ (AC k hk).2
 obtain ⟨q,EP,Dc⟩:=sp.prepare;have BX:=EP 59;have Dc:=Dc hA
 cases q with
 | false =>
  simp only[Bool.false_eq_true,if_false] at Dc BX;go_enter func237,ntmps237;go_wp2;go_ret
  exact ⟨rfl,(Fr.refl _ w).alloc _,fp,Dc,fun k hk=>.inl hk⟩
 | true =>
  simp only[if_true] at Dc BX;go_enter func237,ntmps237
  go_wp2_with ((with_reducible show wpList _ _ _ (⟨some 13,_,_,_,_,_⟩ :: _) _ _);refine aT _ rfl _ _ _ _ rfl _ _ rfl Dc rfl ?_;rintro e w' ⟨rfl,Ad,FM⟩;refine ⟨_,rfl,?_⟩)
  go_ret;obtain ⟨fp',h1,h2⟩:=FM
  exact ⟨rfl,((Fr.refl fp w).alloc _).trans Ad (fun _ _ h=>h),fp',h1,fun k hk=>(h2 k hk).imp id (fun h=>by simp at h;omega)⟩
theorem aFy (sp:ColSpec Tryz.prog B t u T st R Rp) (w:World) (fp:Nat→Prop) (τ:List Cell) (hR:Rp w fp τ) (b:Nat) (fb:Nat→Prop) (bs:List UInt8) (hb:Buf w b fb bs) (hd:∀ k,fp k→¬ fb k) (hl:bs.length+st.length≤2147483648) :
 Calls Tryz.prog 236 #[.agg #[.iface t u],.pointer (some ⟨b,0,none⟩)] w fun e w'=>e=.returned (.tuple #[])∧Fr fb w w'∧∃ fb',Buf w' b fb' (bs++st)∧Grow w fb fb':=by
 obtain ⟨q,EP,BD⟩:=sp.state;have BX:=EP 59;have AC:=fun q hq=>sp.lo' hR q hq
 have Hy:Rp (w.alloc (.cells #[.iface t u] 86)) fp τ:=sp.frame' hR fun k hk=>Below.heap_alloc _ _ _ (AC k hk).2
 have FZ:Buf (w.alloc (.cells #[.iface t u] 86)) b fb bs:=aJ.aW hb fun k hk=>Below.heap_alloc _ _ _ (aJ.lt hb k hk)
 cases q with
 | false =>
  simp only[Bool.false_eq_true,if_false] at BD BX;subst BD;go_enter func236,ntmps236;go_wp2;go_end0
  exact ⟨rfl,(Fr.refl _ w).alloc _,fb,by simpa using FZ,fun k hk=>.inl hk⟩
 | true =>
  simp only[if_true] at BD BX;have hi:=BD Hy FZ hd hl;go_enter func236,ntmps236
  go_wp2_with ((with_reducible show wpList _ _ _ (⟨some 15,_,_,_,_,_⟩ :: _) _ _);refine aT _ rfl _ _ _ _ rfl _ _ rfl hi rfl ?_;rintro e w' ⟨rfl,Ad,ED⟩;refine ⟨_,rfl,?_⟩)
  go_end0;obtain ⟨fb',h1,h2⟩:=ED
  exact ⟨rfl,((Fr.refl fb w).alloc _).trans Ad (fun _ _ h=>h),fb',h1,fun k hk=>(h2 k hk).imp id (fun h=>by simp at h;omega)⟩
theorem uJ (sp:ColSpec Tryz.prog B t u T st R Rp):iH Tryz.prog B 86 (.agg #[.iface t u]) T st R Rp where
 lo:=sp.lo
 lo':=sp.lo'
 frame:=sp.frame
 frame':=sp.frame'
 append:=fun {w fp σ c} hR hc hw=>aF.of1 (pF t u w _ _ (.inl rfl)) call234 (aDr sp w fp σ hR c hc hw)
 rows:=fun hR=>lX sp.flat (.inl rfl) (sp.rows hR)
 prepare:=⟨fun x w=>run_typeAssert_hasB underlying102 (by kernel_rfl) _ x w,fun {w fp σ} hR=>aF.of0 (pF t u w _ _ (.inr (.inl rfl))) call237 (aBZ sp w fp σ hR)⟩
 state:=⟨fun x w=>run_typeAssert_hasB underlying172 (by kernel_rfl) _ x w,fun {w fp σ b fb bs} hR hb hd hl=>aF.of1 (pF t u w _ _ (.inr (.inr rfl))) call236 (aFy sp w fp σ hR b fb bs hb hd hl)⟩
 encode:=fun hR hw hb hd hl=>lX sp.flat (.inr (.inl rfl)) (sp.encode hR hw hb hd hl)
end
theorem aJP (w:World) (p:Nat) (cur:Array Value) (tc:TypeId) (n:Nat) (xs:List Value) (v:Value) (h0:cur[0]?=some v) (hp:w.heap[p]?=some (.cells cur tc (0,0))) (Aa:w.ownsRow 0 24 1 v n xs) (Am:v.ownBlock≠some p) (hn:n<2147483648) (x:Int) :
 Calls Tryz.prog 257 #[.pointer (some ⟨p,0,none⟩),.int .u64 x] w fun e w'=>e=.returned (.tuple #[])∧∃ v',w'.heap[p]?=some (.cells (cur.setIfInBounds 0 v') tc (0,0))∧w'.ownsRow 0 24 1 v' (n+1) (xs++[.int .u64 x])∧v'.ownBlock≠some p ∧
  (∀ k,v'.ownBlock=some k→v.ownBlock=some k∨w.heap.size≤k)∧Fr (fun k=>k=p∨v.ownBlock=some k) w w':=by
 obtain ⟨a0,c0,rfl⟩:=ownsRow_shape Aa;have AZ:=aC hp;have Ac:w.cell? ⟨p,0,none⟩=some (.slice a0 n c0):=by rw[cell_of_row _ _ _ _ _ _ hp,h0]
 have Be:Src Tryz.prog 1 125 (.slice (some ⟨w.heap.size,0,none⟩) 1 1) 1 [.int .u64 x] (w.alloc (.cells [.int .u64 x].toArray 24)) :=
  Src.ofSlice _ underlying125 _ _ _ _ rfl (bG _ _ _) (by simp[Value.oneCell'])
 go_enter func257,ntmps257
 go_wp2_with ((with_reducible show wpList _ _ _ (⟨some 10,_,_,_,_,_⟩ :: _) _ _);(refine aP _ rfl zT _ _ rfl _ _ _ rfl (Aa.alloc _) _ _ _ rfl Be ?_ ?_ ?_);(unfold maxLen;omega);omega;intro v' w1 ha;obtain ⟨a',c',rfl⟩:=ha.shape;obtain ⟨A8,FN⟩:=eP hp Am ((Fr.refl _ w).alloc _) ha;have d2:w1.cell? ⟨p,0,none⟩=some (.slice a0 n c0):=(A8 0).trans h0;have f2:=FN 0;have hA:=dW (i:=0) hp Aa Am ((Fr.refl _ w).alloc _) ha)
 obtain ⟨GI,BR,Ic,Gg,BZ⟩:=hA;go_end0
 refine ⟨rfl,_,GI,BR,Ic,fun k hk=>?_,BZ⟩;rcases Gg with e|e
 · exact .inl (by rw[← e,hk])
 · rw[e] at hk
   simp only[Option.some.injEq] at hk;simp at hk
   exact .inr (by omega)
def iU (c:Cell):Nat:=c.pairs.length
def mapKeys (c:Cell):List Cell:=c.pairs.map fun p=>p.1.keyed
def fD (c:Cell):List Cell:=c.pairs.map (·.2)
theorem tH:∀ (ks is:List Cell),wts ((ks.zip is).map fun p=>p.1.keyed)≤wts ks
 | [],_=>by simp[wts]
 | _ :: _,[]=>by simp[wts]
 | k :: ks,i :: is=>by
  have h1:=tH ks is;have h2:=aDq k;rw[zip_cons_cons,map_cons,wts,wts];show k.keyed.wt+_≤_;omega
theorem tJ:∀ (ks is:List Cell),wts ((ks.zip is).map (·.2))≤wts is
 | [],_=>by simp[wts]
 | _ :: _,[]=>by simp[wts]
 | k :: ks,i :: is=>by
  have h1:=tJ ks is;rw[zip_cons_cons,map_cons,wts,wts];show i.wt+_≤_;omega
theorem jD:∀ (cs:List Cell),wts (cs.flatMap mapKeys)+cs.length≤wts cs
 | []=>Nat.le_refl _
 | c :: cs=>by
  have h1:=jD cs;have h2:wts (mapKeys c)≤wts c.keys:=tH c.keys c.items;rw[flatMap_cons,fG,wts,Cell.nS,length_cons];omega
theorem jE:∀ (cs:List Cell),wts (cs.flatMap fD)+cs.length≤wts cs
 | []=>Nat.le_refl _
 | c :: cs=>by
  have h1:=jE cs;have h2:wts (fD c)≤wts c.items:=tJ c.keys c.items;rw[flatMap_cons,fG,wts,Cell.nS,length_cons];omega
theorem kW:∀ (cs:List Cell),total iU cs=(cs.flatMap mapKeys).length
 | []=>rfl
 | c :: cs=>by
  rw[total,kW cs,flatMap_cons,length_append]
  congr 1
  exact (length_map _).symm
theorem lU (k v:Ty) (cs:List Cell):enc (.map k v) cs=if cs=[] then [] else (ends iU 0 cs).flatMap (aG 8)++enc k (cs.flatMap mapKeys)++enc v (cs.flatMap fD):=by
 rw[enc,oW]
 rfl
def mX (B:Nat) (w:World):List (Cell × Cell)→List Value→Prop
 | [],xs=>xs=[]
 | p :: ps,xs=>∃ vs rest,xs=(bV p.1++vs)++rest∧p.1.small∧bP B w p.2 vs∧mX B w ps rest
theorem mX.below {B:Nat} {w w':World} (hb:Below B w w'):∀ (ps:List (Cell × Cell)) (xs:List Value),mX B w ps xs→mX B w' ps xs
 | [],_,h=>h
 | _ :: _,_,⟨vs,rest,h0,h1,h2,h3⟩=>⟨vs,rest,h0,h1,bP.below hb _ _ h2,mX.below hb _ _ h3⟩
theorem mX.snoc {B:Nat} {w:World} {p:Cell × Cell} {vs:List Value} (hs:p.1.small) (h:bP B w p.2 vs):∀ {ps:List (Cell × Cell)} {xs:List Value},mX B w ps xs→mX B w (ps++[p]) (xs++(bV p.1++vs))
 | [],_,rfl=>⟨vs,[],by simp,hs,h,rfl⟩
 | _ :: _,_,⟨us,rest,h0,h1,h2,h3⟩=>⟨us,_,by rw[h0,append_assoc],h1,h2,mX.snoc hs h h3⟩
theorem mX.at {B:Nat} {w:World}:∀ {ps:List (Cell × Cell)} {xs:List Value},mX B w ps xs→∀ k (hk:k<ps.length),ps[k].1.small∧∃ vs,bP B w ps[k].2 vs∧∀ j u,(bV ps[k].1++vs)[j]?=some u→xs[k*13+j]?=some u
 | [],_,_,k,hk=>by simp at hk
 | p :: ps,_,⟨vs,rest,h0,h1,h2,_⟩,0,_=>⟨h1,vs,h2,fun j u hj=>by
  replace hj:(bV p.1++vs)[j]?=some u:=hj
  rw[h0,Nat.zero_mul,Nat.zero_add,getElem?_append_left (List.getElem?_eq_some_iff.1 hj).1]
  exact hj⟩
 | p :: ps,_,⟨vs,rest,h0,h1,h2,h3⟩,k+1,hk=>by
  obtain ⟨hs,vs',g1,g2⟩:=mX.at h3 k (by simpa using hk)
  refine ⟨hs,vs',g1,fun j u hj=>?_⟩;have hl:(bV p.1++vs).length=13:=by rw[length_append,h2.length];rfl
  rw[h0,getElem?_append_right (by rw[hl];omega),hl,show (k+1)*13+j - 13=k*13+j by omega]
  exact g2 j u hj
def iG (B:Nat) (tk:TypeId) (uk:Value) (Rk:World→(Nat→Prop)→List Cell→Prop) (t:TypeId) (u:Value) (R:World→(Nat→Prop)→List Cell→Prop) (p n:Nat) (xs:List Value) (κ υ:List Cell) (w:World) (fp:Nat→Prop):Prop :=
 ∃ v fk fv,w.heap[p]?=some (.cells #[v,.iface tk uk,.iface t u] 144 (0,0))∧w.ownsRow 0 24 1 v n xs∧Rk w fk κ∧R w fv υ∧v.ownBlock≠some p∧¬ fk p∧¬ fv p∧(∀ k,v.ownBlock=some k→¬ fk k∧¬ fv k)∧(∀ k,fk k→¬ fv k) ∧
  (∀ k,fp k↔k=p∨v.ownBlock=some k∨fk k∨fv k)∧∀ k,fp k→B≤k
namespace iG
open Tryz List
variable {B:Nat} {tk:TypeId} {uk:Value} {Rk:World→(Nat→Prop)→List Cell→Prop} {t:TypeId} {u:Value} {R:World→(Nat→Prop)→List Cell→Prop} {p n:Nat} {xs:List Value} {κ υ:List Cell} {w:World} {fp:Nat→Prop}
theorem lt (hk:∀ {w fp σ},Rk w fp σ→∀ k,fp k→B≤k∧k<w.heap.size) (hv:∀ {w fp σ},R w fp σ→∀ k,fp k→B≤k∧k<w.heap.size) (h:iG B tk uk Rk t u R p n xs κ υ w fp):∀ k,fp k→B≤k∧k<w.heap.size:=by
 obtain ⟨v,fk,fv,hp,Aa,Dn,hR,n1,n2,n3,n4,n5,Aj,hB⟩:=h;intro k TN
 refine ⟨hB k TN,?_⟩;rcases (Aj k).1 TN with rfl|h|h|h
 · exact aC hp
 · exact aO Aa h
 · exact (hk Dn k h).2
 · exact (hv hR k h).2
theorem base (hk:∀ {w fp σ},Rk w fp σ→∀ k,fp k→B≤k∧k<w.heap.size) (hv:∀ {w fp σ},R w fp σ→∀ k,fp k→B≤k∧k<w.heap.size) (h:iG B tk uk Rk t u R p n xs κ υ w fp):B≤w.heap.size:=by
 have hl:=h.lt hk hv;obtain ⟨v,fk,fv,hp,Aa,Dn,hR,n1,n2,n3,n4,n5,Aj,hB⟩:=h;have:=hl p ((Aj p).2 (.inl rfl));omega
theorem aW {w':World} (hk:∀ {w w' fp σ},Rk w fp σ→(∀ k,fp k→w'.heap[k]?=w.heap[k]?)→Rk w' fp σ) (hv:∀ {w w' fp σ},R w fp σ→(∀ k,fp k→w'.heap[k]?=w.heap[k]?)→R w' fp σ) (h:iG B tk uk Rk t u R p n xs κ υ w fp) (hw:∀ k,fp k→w'.heap[k]?=w.heap[k]?):iG B tk uk Rk t u R p n xs κ υ w' fp:=by
 obtain ⟨v,fk,fv,hp,Aa,Dn,hR,n1,n2,n3,n4,n5,Aj,hB⟩:=h
 refine ⟨v,fk,fv,(hw p ((Aj p).2 (.inl rfl))).trans hp,⟨Aa.1,?_⟩,hk Dn (fun k h=>hw k ((Aj k).2 (.inr (.inr (.inl h))))),hv hR (fun k h=>hw k ((Aj k).2 (.inr (.inr (.inr h))))),n1,n2,n3,n4,n5,Aj,hB⟩;rcases Aa.2 with h0|⟨g,cap,cur,rfl,hb,GX,rest⟩
 · exact .inl h0
 · exact .inr ⟨g,cap,cur,rfl,hb,(hw g ((Aj g).2 (.inr (.inl rfl)))).trans GX,rest⟩
theorem aLY (hv:∀ {w w' fp σ},R w fp σ→(∀ k,fp k→w'.heap[k]?=w.heap[k]?)→R w' fp σ) (hl:∀ k,fp k→k<w.heap.size) (h:iG B tk uk Rk t u R p n xs κ υ w fp):∃ fk,Rk w fk κ∧(∀ q,fk q→fp q)∧(¬ fk p) ∧
 ∀ {w':World} {Rk':World→(Nat→Prop)→List Cell→Prop} {f':Nat→Prop} {κ':List Cell},Fr fk w w'→Rk' w' f' κ'→Grow w fk f'→∃ fp',iG B tk uk Rk' t u R p n xs κ' υ w' fp'∧Grow w fp fp'∧Fr fp w w':=by
 obtain ⟨v,fk,fv,hp,Aa,Dn,hR,n1,n2,n3,n4,n5,Aj,hB⟩:=h
 refine ⟨fk,Dn,fun q hq=>(Aj q).2 (.inr (.inr (.inl hq))),n2,fun {w' Rk' f' κ'} hf hq hg=>?_⟩;have AZ:=aC hp;have FO:∀ k,v.ownBlock=some k→k<w.heap.size:=fun k hk=>aO Aa hk
 have Ip:∀ k,fv k→k<w.heap.size:=fun k hk=>hl k ((Aj k).2 (.inr (.inr (.inr hk))))
 have ER:B≤p:=hB p ((Aj p).2 (.inl rfl))
 refine ⟨fun k=>k=p∨v.ownBlock=some k∨f' k∨fv k,⟨v,f',fv,(hf.block p AZ n2).trans hp,hf.owns Aa (fun k hk=>(n4 k hk).1),hq,hv hR (fun k hk=>hf.block k (Ip k hk) (fun h=>n5 k h hk)),n1,fun h=>?_,n3,fun k hk=>⟨fun h=>?_,(n4 k hk).2⟩,fun k hk h=>?_,fun k=>Iff.rfl,?_⟩,?_,hf.mono (fun k _ h=>(Aj k).2 (.inr (.inr (.inl h))))⟩
 · rcases hg p h with h|h
   · exact n2 h
   · omega
 · rcases hg k h with h|h
   · exact (n4 k hk).1 h
   · have:=FO k hk;omega
 · rcases hg k hk with h'|h'
   · exact n5 k h' h
   · have:=Ip k h;omega
 · rintro k (rfl|hk|hk|hk)
   · exact ER
   · exact hB k ((Aj k).2 (.inr (.inl hk)))
   · rcases hg k hk with h|h
     · exact hB k ((Aj k).2 (.inr (.inr (.inl h))))
     · omega
   · exact hB k ((Aj k).2 (.inr (.inr (.inr hk))))
 · rintro k (rfl|hk|hk|hk)
   · exact .inl ((Aj k).2 (.inl rfl))
   · exact .inl ((Aj k).2 (.inr (.inl hk)))
   · exact (hg k hk).imp (fun h=>(Aj k).2 (.inr (.inr (.inl h)))) id
   · exact .inl ((Aj k).2 (.inr (.inr (.inr hk))))
theorem aOB (hk:∀ {w w' fp σ},Rk w fp σ→(∀ k,fp k→w'.heap[k]?=w.heap[k]?)→Rk w' fp σ) (hl:∀ k,fp k→k<w.heap.size) (h:iG B tk uk Rk t u R p n xs κ υ w fp):∃ fv,R w fv υ∧(∀ q,fv q→fp q)∧(¬ fv p) ∧
 ∀ {w':World} {R':World→(Nat→Prop)→List Cell→Prop} {f':Nat→Prop} {υ':List Cell},Fr fv w w'→R' w' f' υ'→Grow w fv f'→∃ fp',iG B tk uk Rk t u R' p n xs κ υ' w' fp'∧Grow w fp fp'∧Fr fp w w':=by
 obtain ⟨v,fk,fv,hp,Aa,Dn,hR,n1,n2,n3,n4,n5,Aj,hB⟩:=h
 refine ⟨fv,hR,fun q hq=>(Aj q).2 (.inr (.inr (.inr hq))),n3,fun {w' R' f' υ'} hf hq hg=>?_⟩;have AZ:=aC hp;have FO:∀ k,v.ownBlock=some k→k<w.heap.size:=fun k hk=>aO Aa hk
 have Ip:∀ k,fk k→k<w.heap.size:=fun k hk=>hl k ((Aj k).2 (.inr (.inr (.inl hk))))
 have ER:B≤p:=hB p ((Aj p).2 (.inl rfl))
 refine ⟨fun k=>k=p∨v.ownBlock=some k∨fk k∨f' k,⟨v,fk,f',(hf.block p AZ n3).trans hp,hf.owns Aa (fun k hk=>(n4 k hk).2),hk Dn (fun k hk=>hf.block k (Ip k hk) (fun h=>n5 k hk h)),hq,n1,n2,fun h=>?_,fun k hk=>⟨(n4 k hk).1,fun h=>?_⟩,fun k hk h=>?_,fun k=>Iff.rfl,?_⟩,?_,hf.mono (fun k _ h=>(Aj k).2 (.inr (.inr (.inr h))))⟩
 · rcases hg p h with h|h
   · exact n3 h
   · omega
 · rcases hg k h with h|h
   · exact (n4 k hk).2 h
   · have:=FO k hk;omega
 · rcases hg k h with h'|h'
   · exact n5 k hk h'
   · have:=Ip k hk;omega
 · rintro k (rfl|hk|hk|hk)
   · exact ER
   · exact hB k ((Aj k).2 (.inr (.inl hk)))
   · exact hB k ((Aj k).2 (.inr (.inr (.inl hk))))
   · rcases hg k hk with h|h
     · exact hB k ((Aj k).2 (.inr (.inr (.inr h))))
     · omega
 · rintro k (rfl|hk|hk|hk)
   · exact .inl ((Aj k).2 (.inl rfl))
   · exact .inl ((Aj k).2 (.inr (.inl hk)))
   · exact .inl ((Aj k).2 (.inr (.inr (.inl hk))))
   · exact (hg k hk).imp (fun h=>(Aj k).2 (.inr (.inr (.inr h)))) id
theorem aPv (hk:∀ {w w' fp σ},Rk w fp σ→(∀ k,fp k→w'.heap[k]?=w.heap[k]?)→Rk w' fp σ) (hv:∀ {w w' fp σ},R w fp σ→(∀ k,fp k→w'.heap[k]?=w.heap[k]?)→R w' fp σ) (hl:∀ k,fp k→k<w.heap.size) (h:iG B tk uk Rk t u R p n xs κ υ w fp) :
 ∃ v,w.heap[p]?=some (.cells #[v,.iface tk uk,.iface t u] 144 (0,0))∧w.ownsRow 0 24 1 v n xs∧v.ownBlock≠some p ∧
 ∀ {w':World} {v':Value} {m:Nat} {ys:List Value},w'.heap[p]?=some (.cells #[v',.iface tk uk,.iface t u] 144 (0,0))→w'.ownsRow 0 24 1 v' m ys→v'.ownBlock≠some p→(∀ k,v'.ownBlock=some k→v.ownBlock=some k∨w.heap.size≤k)→Fr (fun k=>k=p∨v.ownBlock=some k) w w' →
  ∃ fp',iG B tk uk Rk t u R p m ys κ υ w' fp'∧Grow w fp fp'∧Fr fp w w':=by
 obtain ⟨v,fk,fv,hp,Aa,Dn,hR,n1,n2,n3,n4,n5,Aj,hB⟩:=h
 refine ⟨v,hp,Aa,n1,fun {w' v' m ys} KR Gm Eb J6 hf=>?_⟩;have AZ:=aC hp;have ER:B≤p:=hB p ((Aj p).2 (.inl rfl));have DT:∀ k,fk k→k<w.heap.size:=fun k hk=>hl k ((Aj k).2 (.inr (.inr (.inl hk))))
 have FO:∀ k,fv k→k<w.heap.size:=fun k hk=>hl k ((Aj k).2 (.inr (.inr (.inr hk))))
 refine ⟨fun k=>k=p∨v'.ownBlock=some k∨fk k∨fv k,⟨v',fk,fv,KR,Gm,hk Dn (fun k h=>hf.block k (DT k h) (fun e=>e.elim (fun e=>n2 (e▸h)) (fun e=>(n4 k e).1 h))),hv hR (fun k h=>hf.block k (FO k h) (fun e=>e.elim (fun e=>n3 (e▸h)) (fun e=>(n4 k e).2 h))),Eb,n2,n3,fun k hk=>?_,n5,fun k=>Iff.rfl,?_⟩,?_,hf.mono (fun k _ h=>(Aj k).2 (h.imp id .inl))⟩
 · rcases J6 k hk with h|h
   · exact n4 k h
   · exact ⟨fun h'=>by have:=DT k h';omega,fun h'=>by have:=FO k h';omega⟩
 · rintro k (rfl|hk|hk|hk)
   · exact ER
   · rcases J6 k hk with h|h
     · exact hB k ((Aj k).2 (.inr (.inl h)))
     · omega
   · exact hB k ((Aj k).2 (.inr (.inr (.inl hk))))
   · exact hB k ((Aj k).2 (.inr (.inr (.inr hk))))
 · rintro k (rfl|hk|hk|hk)
   · exact .inl ((Aj k).2 (.inl rfl))
   · exact (J6 k hk).imp (fun h=>(Aj k).2 (.inr (.inl h))) id
   · exact .inl ((Aj k).2 (.inr (.inr (.inl hk))))
   · exact .inl ((Aj k).2 (.inr (.inr (.inr hk))))
theorem cells (h:iG B tk uk Rk t u R p n xs κ υ w fp):w.cell? ⟨p,1,none⟩=some (.iface tk uk)∧w.cell? ⟨p,2,none⟩=some (.iface t u)∧fp p:=by
 obtain ⟨v,fk,fv,hp,Aa,Dn,hR,n1,n2,n3,n4,n5,Aj,hB⟩:=h
 exact ⟨crw hp rfl,crw hp rfl,(Aj p).2 (.inl rfl)⟩
end iG
def MapAt (B:Nat) (tk:TypeId) (uk:Value) (Rk:World→(Nat→Prop)→List Cell→Prop) (t:TypeId) (u:Value) (R:World→(Nat→Prop)→List Cell→Prop) (p:Nat) (w:World) (fp:Nat→Prop) (σ:List Cell):Prop :=
 iG B tk uk Rk t u R p σ.length ((ends iU 0 σ).flatMap bY) (σ.flatMap mapKeys) (σ.flatMap fD) w fp
theorem aNX:ElT Tryz.prog 496 498 (.agg #[.int .u64 0,.int .u64 0,.int .u64 0,.int .u64 0,.string ⟨#[]⟩,.int .u64 0,.int .u64 0,.int .u64 0,.int .u64 0,.string ⟨#[]⟩,.bool false,.slice none 0 0,.slice none 0 0]) 13 152:=⟨underlying496,info_parts (by kernel_rfl),rfl⟩
section
variable {B:Nat} {tk:TypeId} {uk:Value} {Tk:Ty} {stk:List UInt8} {Rk Rkp:World→(Nat→Prop)→List Cell→Prop} {t:TypeId} {u:Value} {T:Ty} {st:List UInt8} {R Rp:World→(Nat→Prop)→List Cell→Prop}
theorem aCg (ks:iH Tryz.prog B tk uk Tk stk Rk Rkp) (sp:ColSpec Tryz.prog B t u T st R Rp) (w:World) (p:Nat) (fp:Nat→Prop) (σ:List Cell) (h:MapAt B tk uk Rk t u R p w fp σ) (c:Cell) (lv:Value) (vals:List Value) (Aa:w.ownsRow 0 498 13 lv c.pairs.length vals) (Fq:mX B w c.pairs vals)
 (hd:∀ k,lv.ownBlock=some k→¬ fp k) (hw:wts (σ++[c])≤2147483648) :
 Calls Tryz.prog 261 #[.pointer (some ⟨p,0,none⟩),lv] w fun e w'=>e=.returned (.tuple #[])∧Fr fp w w'∧∃ fp',MapAt B tk uk Rk t u R p w' fp' (σ++[c])∧Grow w fp fp':=by
 have AC:=h.lt (Rk:=Rk) (R:=R) ks.lo sp.lo;have Bd:=h.base (Rk:=Rk) (R:=R) ks.lo sp.lo;obtain ⟨al,cl,rfl⟩:=ownsRow_shape Aa;have Fg:=jD (σ++[c]);have Po:=jE (σ++[c]);have Ir:=kW (σ++[c]);have J4:=bF ((σ++[c]).flatMap mapKeys);rw[flatMap_append,flatMap_singleton] at Fg Po Ir J4;rw[length_append,length_singleton] at Fg Po;unfold MapAt at h;obtain ⟨PS,RH⟩:∃ PS,c.pairs=PS:=⟨_,rfl⟩;have G7:mapKeys c=PS.map fun p=>p.1.keyed:=by rw[← RH];rfl
 have OQ:fD c=PS.map (·.2):=by rw[← RH];rfl
 rw[G7] at Fg Ir J4;rw[OQ] at Po;rw[RH] at Aa Fq hd ⊢
 have AP:PS.length≤9223372036854775807:=by
  rw[length_append,length_map] at J4;omega
 have Ov:∀ k,wts (σ.flatMap mapKeys++(PS.take k).map fun p=>p.1.keyed)≤2147483648:=fun k=>by
  have:=iV (σ.flatMap mapKeys++PS.map fun p=>p.1.keyed) ((σ.flatMap mapKeys).length+k);rw[take_length_add_append,← map_take] at this;omega
 have Oy:∀ k,wts (σ.flatMap fD++(PS.take k).map (·.2))≤2147483648:=fun k=>by
  have:=iV (σ.flatMap fD++PS.map (·.2)) ((σ.flatMap fD).length+k);rw[take_length_add_append,← map_take] at this;omega
 generalize hκ:σ.flatMap mapKeys=κ at h Ov;generalize hυ:σ.flatMap fD=υ at h Oy;generalize UT:(ends iU 0 σ).flatMap bY=xs at h;have Z9:=Lib.hid RH;have Xo:=Lib.hid G7;have Xr:=Lib.hid OQ;have XF:=Lib.hid Ir;have hκH:=Lib.hid hκ;have hυH:=Lib.hid hυ;have XP:=Lib.hid UT;clear RH G7 OQ Ir hκ hυ UT;go_enter func261,ntmps261;go_wp2
 go_loopw [8] (fun i wr=>∃ (k:Nat) (fpk:Nat→Prop),k≤PS.length∧i=.int .i64 k∧iG B tk uk Rk t u R p σ.length xs (κ++(PS.take k).map fun p=>p.1.keyed) (υ++(PS.take k).map (·.2)) wr fpk∧Grow w fp fpk∧Fr fp w wr) (fun i _=>PS.length - (intOf i).toNat)
 case atStart=>exact ⟨0,fp,Nat.zero_le _,rfl,by simpa using h,fun k hk=>.inl hk,Fr.refl _ _⟩
 case round =>
  obtain ⟨k,fpk,hk,rfl,AL,hg,Ak⟩:=hrel;have DX:=Ak.size
  by_cases Ar:k<PS.length
  · have Ap:=Ak.owns Aa hd
    rcases Ap.2 with ⟨hv,-⟩|⟨ga,capa,cura,hv,-⟩
    · simp only[Value.slice.injEq] at hv;omega
    · simp only[Value.slice.injEq] at hv
      obtain ⟨rfl,-,rfl⟩:=hv;obtain ⟨CE,vs,AQ,IM⟩:=Fq.at k Ar;have Bf:Below B w wr:=Ak.below Bd (fun q hq h=>by have:=(AC q h).1;omega);have Nq:=bP.below Bf _ _ AQ;have Ah:=take_succ_eq_append_getElem Ar;have EG:(PS.take (k+1)).map (fun p=>p.1.keyed)=(PS.take k).map (fun p=>p.1.keyed)++[PS[k].1.keyed]:=by rw[Ah,map_append];rfl
      have IL:(PS.take (k+1)).map (·.2)=(PS.take k).map (·.2)++[PS[k].2]:=by rw[Ah,map_append];rfl
      have QB:=Ov (k+1);have QE:=Oy (k+1);rw[EG,← append_assoc] at QB;rw[IL,← append_assoc] at QE;have TU:=Lib.hid EG;have UJ:=Lib.hid IL;generalize PS[k].1=kc at CE IM TU QB;generalize PS[k].2=vc at AQ Nq IM UJ QE;obtain ⟨ia,il,ic,ka,kl,kc',rfl,-⟩:=AQ.open
      have hx:∀ j u,(bV kc++[.int .u64 vc.r0,.int .u64 vc.r1,.int .u64 vc.r2,.int .u64 vc.r3,.string vc.s,.bool vc.null,.slice ia il ic,.slice ka kl kc'])[j]?=some u→wr.cell? ⟨ga,k*13+j,none⟩=some u:=by
       intro j u hj;have:=Ap.cells (g:=ga) rfl _ _ (IM j u hj);rw[Addr.add_lit,Nat.zero_add] at this
       exact this
      have x0:=hx 0 _ rfl;have x1:=hx 1 _ rfl;have x2:=hx 2 _ rfl;have x3:=hx 3 _ rfl;have x4:=hx 4 _ rfl;have x5:=hx 5 _ rfl;have x6:=hx 6 _ rfl;have x7:=hx 7 _ rfl;have x8:=hx 8 _ rfl;have x9:=hx 9 _ rfl;have x10:=hx 10 _ rfl;have x11:=hx 11 _ rfl;have x12:=hx 12 _ rfl;simp only[Nat.add_zero] at x0;have Lm:B≤wr.heap.size:=Nat.le_trans Bd DX;have Fv:=AL.lt (Rk:=Rk) (R:=R) ks.lo sp.lo;clear hx IM Ap Fq EG IL Ah AQ Ov Oy
      go_wp2_with fail
      generalize hW:wr.alloc _=W;have La:W.heap.size=wr.heap.size+1:=by subst hW;simp
      have Aw:F0 wr W:=by subst hW;exact (Fr.refl _ wr).alloc _
      have b:∀ j,W.cell? ⟨wr.heap.size,j,none⟩=#[Value.int .u64 kc.r0,.int .u64 kc.r1,.int .u64 kc.r2,.int .u64 kc.r3,.string kc.s,.int .u64 vc.r0,.int .u64 vc.r1,.int .u64 vc.r2,.int .u64 vc.r3,.string vc.s,.bool vc.null,.slice ia il ic,.slice ka kl kc'][j]?:=fun j=>by subst hW;rw[aB rfl]
      have Gu:=AL.aW (Rk:=Rk) (R:=R) (w':=W) ks.frame sp.frame (fun q hq=>Aw.block q (Fv q hq).2 (fun h=>h));have lh:=bP.below (Aw.below Lm (fun _ _ h=>h)) _ _ Nq;clear hW x0 x1 x2 x3 x4 x5 x6 x7 x8 x9 x10 x11 x12 AL Nq;have PX:=Gu.lt (Rk:=Rk) (R:=R) ks.lo sp.lo;obtain ⟨p1,p2,ZX⟩:=Gu.cells;obtain ⟨fk,Dn,DW,Xc,IK⟩:=Gu.aLY (R:=R) sp.frame (fun q hq=>(PX q hq).2);have b0:=b 0;have b1:=b 1;have b2:=b 2;have b3:=b 3;have b4:=b 4;simp only[getElem?_toArray,getElem?_cons_zero,getElem?_cons_succ] at b0 b1 b2 b3 b4;have hi:=ks.append (ks.frame (w':=W.drew) Dn (fun _ _=>rfl)) CE QB;have VY:=Lib.hid b;clear b Gu
      go_region_law (first
       | (refine aK _ rfl ?_;refine bH _ _ _ _ _ rfl _ _ rfl hi rfl ?_;rintro e w2 ⟨rfl,Ae,f2,Ew,BJ⟩;refine ⟨_,rfl,?_⟩))
      all_goals
       have Au:=Ae.aH;have EW:=Au.size;obtain ⟨fp2,Ep,Ja,BZ⟩:=IK Au Ew BJ;have G5:=Ep.lt (Rk:=Rk) (R:=R) ks.lo sp.lo;obtain ⟨-,p2',-⟩:=Ep.cells;have Bj:∀ j x,#[Value.int .u64 kc.r0,.int .u64 kc.r1,.int .u64 kc.r2,.int .u64 kc.r3,.string kc.s,.int .u64 vc.r0,.int .u64 vc.r1,.int .u64 vc.r2,.int .u64 vc.r3,.string vc.s,.bool vc.null,.slice ia il ic,.slice ka kl kc'][j]?=some x→w2.cell? ⟨wr.heap.size,j,none⟩=some x:=fun j x hj=>Au.aA ((VY.out j).trans hj) (fun h=>absurd (Fv _ (DW _ h)).2 (by show ¬ (wr.heap.size<wr.heap.size);omega))
       have y5:=Bj 5 _ rfl;have y6:=Bj 6 _ rfl;have y7:=Bj 7 _ rfl;have y8:=Bj 8 _ rfl;have y9:=Bj 9 _ rfl;have y10:=Bj 10 _ rfl;have y11:=Bj 11 _ rfl;have y12:=Bj 12 _ rfl;have JM:=bP.below (Au.below (B:=B) (by omega) (fun q hq h=>by have:=(Fv q (DW q h)).1;omega)) _ _ lh;obtain ⟨fv,P6,ZZ,UI,JK⟩:=Ep.aOB (Rk:=Rk) ks.frame (fun q hq=>(G5 q hq).2);have az:=sp.append (sp.frame (w':=w2.drew) P6 (fun _ _=>rfl)) (bP.below ((Below.refl B w2).drew) _ _ JM) QE;clear Bj Ep hi;go_wp2
       go_region_law (first
        | (refine aK _ rfl ?_;refine bH _ _ _ _ _ rfl _ _ rfl az rfl ?_;rintro e w3 ⟨rfl,AV,f3,O4,EU⟩;refine ⟨_,rfl,?_⟩))
       all_goals
        have DI:=AV.aH;have IJ:=DI.size;obtain ⟨fp3,KD,EF,Fp⟩:=JK DI O4 EU;go_wp2;go_roundw
        case rel =>
         have Tu:Fr fpk W w3:=BZ.trans Fp (fun q hq h=>(Ja q h).resolve_right (by omega))
         refine ⟨k+1,fp3,by omega,by go_num,?_,fun q hq=>?_,((Ak.trans Aw (fun _ _ h=>h.elim)).trans Tu (fun q hq h=>(hg q h).resolve_right (by omega)))⟩
         · rw[TU.out,UJ.out,← append_assoc,← append_assoc]
           exact KD
         · rcases EF q hq with h|h
           · rcases Ja q h with h|h
             · exact hg q h
             · exact .inr (by omega)
           · exact .inr (by omega)
        case measure=>simp[intOf];omega
  · have Bl:k=PS.length:=by omega
    subst Bl;rw[take_length] at AL;have Fv:=AL.lt (Rk:=Rk) (R:=R) ks.lo sp.lo;obtain ⟨p1,-,-⟩:=AL.cells;obtain ⟨fk,Dn,-,-,-⟩:=AL.aLY (R:=R) sp.frame (fun q hq=>(Fv q hq).2);obtain ⟨v,YA,Gn,Xt,Q4⟩:=AL.aPv (Rk:=Rk) (R:=R) ks.frame sp.frame (fun q hq=>(Fv q hq).2);have EJ:=ks.rows (ks.frame (w':=wr.drew) Dn (fun _ _=>rfl));obtain ⟨N,hN⟩:∃ N,(κ++PS.map fun p=>p.1.keyed).length=N:=⟨_,rfl⟩;rw[hN] at EJ
    have JP:N≤2147483648:=by
     have h1:=Fg;rw[hκH.out] at h1 J4;rw[hN] at J4;omega
    have CY:IntKind.u64.wrap (N:Int)=N:=by rw[IntKind.wrap_u64];omega
    have Z5:=Lib.hid hN;have EC:σ.length<2147483648:=by omega
    clear hN Fq Aa Ov Oy Dn;go_wp2
    go_region_law (first
     | (refine aK _ rfl ?_;refine bH _ _ _ _ _ rfl _ _ rfl EJ rfl ?_;rintro e w2 ⟨rfl,Ae⟩;refine ⟨_,rfl,?_⟩;have Bg:=aJP w2 p #[v,.iface tk uk,.iface t u] _ σ.length xs v rfl ((Ae.aH.block p (aC YA) (fun h=>h)).trans YA) (Ae.aH.owns Gn (fun _ _ h=>h)) Xt EC N)
     | (go_simp;go_at_call 257;refine Bg.mono ?_;rintro e w3 ⟨rfl,v',IC,Uh,Jf,Sz,AV⟩))
    all_goals
     have LV:Fr (fun k=>k=p∨v.ownBlock=some k) wr w3:=(Ae.aH.mono (fun _ _ h=>h.elim)).trans AV (fun _ _ h=>h);obtain ⟨fp',BV,BG,WO⟩:=Q4 IC Uh Jf (fun k hk=>(Sz k hk).imp id (fun h=>Nat.le_trans Ae.aH.size h)) LV;go_end0
     refine ⟨rfl,Ak.trans WO (fun q hq h=>(hg q h).resolve_right (by omega)),fp',?_,fun q hq=>?_⟩
     · unfold MapAt
       have e:0+total iU σ+iU c=N:=by
        have h1:=XF.out;rw[sG,hκH.out,Z5.out] at h1;simp only[total] at h1;omega
       rw[length_append,length_singleton,nC,flatMap_append,flatMap_append,flatMap_append,flatMap_singleton,flatMap_singleton,flatMap_singleton,hκH.out,hυH.out,XP.out,Xo.out,Xr.out,e]
       exact BV
     · rcases BG q hq with h|h
       · exact hg q h
       · exact .inr (by omega)
theorem aFZ (c:Cell) (k:Nat) (hk:k<c.keys.length):(∃ hi:k<c.items.length,c.pairs.take (k+1)=c.pairs.take k++[(c.keys[k],c.items[k])])∨(¬ k<c.items.length∧c.pairs.take (k+1)=c.pairs.take k):=by
 by_cases hi:k<c.items.length
 · left
   refine ⟨hi,?_⟩;have hl:k<c.pairs.length:=by unfold Cell.pairs;rw[length_zip];omega
   rw[take_succ_eq_append_getElem hl]
   congr 2
   exact getElem_zip
 · right
   refine ⟨hi,?_⟩;have hl:c.pairs.length≤k:=by unfold Cell.pairs;rw[length_zip];omega
   rw[take_of_length_le hl,take_of_length_le (by omega)]
theorem oQ (ks:iH Tryz.prog B tk uk Tk stk Rk Rkp) (sp:ColSpec Tryz.prog B t u T st R Rp) (w:World) (p:Nat) (fp:Nat→Prop) (σ:List Cell) (h:MapAt B tk uk Rk t u R p w fp σ) (c:Cell) (vs:List Value) (AQ:bP B w c vs) (hw:wts (σ++[c])≤2147483648) :
 Calls Tryz.prog 258 #[.agg #[.pointer (some ⟨p,0,none⟩)],.agg vs.toArray] w fun e w'=>e=.returned (.tuple #[])∧Fr fp w w'∧∃ fp',MapAt B tk uk Rk t u R p w' fp' (σ++[c])∧Grow w fp fp':=by
 have AC:∀ q,fp q→B≤q∧q<w.heap.size:=iG.lt (Rk:=Rk) (R:=R) ks.lo sp.lo h;have Bd:B≤w.heap.size:=iG.base (Rk:=Rk) (R:=R) ks.lo sp.lo h;obtain ⟨ia,ic,ka,kc,ixs,kxs,rfl,Hr,F7,Eh,Dp⟩:=AQ.full;have CE:=AQ.small;obtain ⟨il,Fa⟩:∃ il,c.items.length=il:=⟨_,rfl⟩;obtain ⟨kl,DT⟩:∃ kl,c.keys.length=kl:=⟨_,rfl⟩
 have GG:kl≤2147483648:=by
  have h1:=bF c.keys;have h2:=Cell.nS c;rw[fG] at hw;simp only[wts] at hw;omega
 rw[Fa,DT];rw[Fa] at Hr;rw[DT] at Eh;have MC:=Lib.hid Fa;have Ia:=Lib.hid DT;clear Fa DT;go_enter func258,ntmps258;go_wp2;generalize hW:(w.alloc _).alloc _=W;have Af:F0 w W:=by subst hW;exact ((Fr.refl _ w).alloc _).alloc _
 have D6:W.heap.size=w.heap.size+2:=by subst hW;simp
 have e0:W.cell? ⟨w.heap.size,0,none⟩=some (.pointer (some ⟨p,0,none⟩)):=by subst hW;rw[ca (by simp),aB rfl];rfl
 have e6:W.cell? ⟨w.heap.size+1,6,none⟩=some (.slice ia il ic):=by subst hW;rw[aB (by simp)];rfl
 clear hW;have KE:Below B w W:=Af.below Bd (fun _ _ h=>h)
 go_loopw [4,10] (fun l i wr=>∃ (k:Nat) (vals:List Value),k≤kl∧i=.int .i64 k∧wr.ownsRow 0 498 13 l (c.pairs.take k).length vals∧mX B wr (c.pairs.take k) vals∧(∀ q,l.ownBlock=some q→W.heap.size≤q)∧F0 W wr) (fun _ i _=>kl - (intOf i).toNat)
 case atStart=>exact ⟨0,[],Nat.zero_le _,rfl,World.ownsRow_nil _ _ _ _,rfl,by simp[Value.ownBlock],Fr.refl _ _⟩
 case round =>
  obtain ⟨k,vals,hk,rfl,Aa,Fq,Ai,Ak⟩:=hrel;obtain ⟨a0,c0,rfl⟩:=ownsRow_shape Aa;have DX:=Ak.size;have Bf:Below B w wr:=KE.trans (Ak.below (by omega) (fun _ _ h=>h));have Lm:B≤wr.heap.size:=by omega
  have x6:=Ak.aA e6 (fun h=>h)
  by_cases Ar:k<kl
  · have KO:k<c.keys.length:=by rw[Ia.out];exact Ar
    obtain ⟨b,off,cap',hv,FT,us,NK,Ac⟩:=((Ia.out▸Eh:Sl B w 8 (.slice ka kl kc) c.keys.length kxs).below Bf).row (aI.below Bf _ _ Dp) KO;have Ah:=aFZ c k KO;generalize c.keys[k]=d at NK Ah;have jm:=NK.small;obtain ⟨ja,jl,jc,la,ll,lc,rfl,-⟩:=NK.open;simp only[Value.slice.injEq] at hv;obtain ⟨rfl,-,rfl⟩:=hv;have d0:=Ac 0 _ rfl;have d1:=Ac 1 _ rfl;have d2:=Ac 2 _ rfl;have d3:=Ac 3 _ rfl;have d4:=Ac 4 _ rfl;have d5:=Ac 5 _ rfl;have d6:=Ac 6 _ rfl;have d7:=Ac 7 _ rfl;simp only[Nat.add_zero] at d0;have AA:(c.pairs.take k).length≤k:=by rw[length_take];omega
    generalize hm:(c.pairs.take k).length=m at Aa AA Ai;have Vu:=Lib.hid hm;clear hm;have x6a:∀ o,(wr.alloc o).cell? ⟨w.heap.size+1,6,none⟩=some (.slice ia il ic):=fun o=>(((Fr.refl (fun _=>False) wr).alloc o).aA x6 (fun h=>h))
    clear Ac NK;rcases Ah with ⟨hi,Ah⟩|⟨hi,Ah⟩
    · have Xj:k<il:=by rw[← MC.out];exact hi
      obtain ⟨b2,off2,cap2,JM,L6,us2,Q9,Dq⟩:=((MC.out▸Hr:Sl B w 8 (.slice ia il ic) c.items.length ixs).below Bf).row (aI.below Bf _ _ F7) hi;generalize c.items[k]=d' at Q9 Ah;have F5:=Lib.hid Ah;obtain ⟨ma,ml,mc,na,nl,nc,rfl,-⟩:=Q9.open;simp only[Value.slice.injEq] at JM;obtain ⟨rfl,-,rfl⟩:=JM;have hy:∀ w1,F0 wr w1→∀ j u,[Value.int .u64 d'.r0,.int .u64 d'.r1,.int .u64 d'.r2,.int .u64 d'.r3,.string d'.s,.bool d'.null,.slice ma ml mc,.slice na nl nc][j]?=some u→w1.cell? ⟨b2,off2+k*8+j,none⟩=some u:=fun w1 hf j u hj=>hf.aA (Dq j u hj) (fun h=>h)
      clear Dq Hr Eh F7 Dp AQ Ah hi;go_wp2;generalize QK:wr.alloc _=W5;have BP:F0 wr W5:=by subst QK;exact (Fr.refl _ wr).alloc _
      have Gv:∀ j,W5.cell? ⟨wr.heap.size,j,none⟩=#[Value.int .u64 d.r0,.int .u64 d.r1,.int .u64 d.r2,.int .u64 d.r3,.string d.s,.bool d.null,.slice ja jl jc,.slice la ll lc][j]?:=fun j=>by subst QK;rw[aB rfl]
      have Ui:=BP.owns Aa (fun _ _ h=>h);clear QK;have q6:=BP.aA x6 (fun h=>h);have b0:=Gv 0;have b1:=Gv 1;have b2':=Gv 2;have b3:=Gv 3;have b4:=Gv 4;have b5:=Gv 5;have b6:=Gv 6;have b7:=Gv 7;simp only[getElem?_toArray,getElem?_cons_zero,getElem?_cons_succ] at b0 b1 b2' b3 b4 b5 b6 b7;have y0:=hy W5 BP 0 _ rfl;have y1:=hy W5 BP 1 _ rfl;have y2:=hy W5 BP 2 _ rfl;have y3:=hy W5 BP 3 _ rfl;have y4:=hy W5 BP 4 _ rfl;have y5:=hy W5 BP 5 _ rfl;have y6:=hy W5 BP 6 _ rfl;have y7:=hy W5 BP 7 _ rfl;simp only[Nat.add_zero] at y0;clear Gv x6 x6a d0 d1 d2 d3 d4 d5 d6 d7
      go_region_law (first
       | (go_simp;go_at_call 241;refine (nY _ d.r0 d.r1 d.r2 d.r3 d.s d.null (.slice ja jl jc) (.slice la ll lc)).mono ?_;rintro e w1 ⟨rfl,Ad⟩;have BL:F0 wr w1:=BP.trans Ad.aH (fun _ _ h=>h);have r6:=Ad.aH.aA q6 (fun h=>h);have z0:=hy w1 BL 0 _ rfl;have z1:=hy w1 BL 1 _ rfl;have z2:=hy w1 BL 2 _ rfl;have z3:=hy w1 BL 3 _ rfl;have z4:=hy w1 BL 4 _ rfl;have z5:=hy w1 BL 5 _ rfl;have z6:=hy w1 BL 6 _ rfl;have z7:=hy w1 BL 7 _ rfl;(simp only[Nat.add_zero] at z0);have Ba:=Ad.aH.owns Ui (fun _ _ h=>h))
       | (refine aK _ rfl ?_;refine dJ _ aNX _ _ rfl _ _ _ rfl (Ba.alloc _) _ _ _ rfl (Src.ofSlice _ underlying496 _ _ _ _ rfl (bG _ [.int .u64 d.r0,.int .u64 d.r1,.int .u64 d.r2,.int .u64 d.r3,.string d.s,.int .u64 d'.r0,.int .u64 d'.r1,.int .u64 d'.r2,.int .u64 d'.r3,.string d'.s,.bool d'.null,.slice ma ml mc,.slice na nl nc] _) (by simp[Value.oneCell'])) ?_ ?_ ?_;(unfold maxLen;omega);omega;intro v' w2 ha;obtain ⟨a',c',rfl⟩:=ha.shape))
      all_goals
       have PD:dE (w1.alloc _) w2 498 13 (.slice a0 m c0) _ _ _:=ha;have WI:F0 W w1:=Ak.trans BL (fun _ _ h=>h);have FY:=PD.since (WI.alloc _) Ai;go_wp2;go_roundw
       case rel =>
        refine ⟨k+1,vals++(bV d++[.int .u64 d'.r0,.int .u64 d'.r1,.int .u64 d'.r2,.int .u64 d'.r3,.string d'.s,.bool d'.null,.slice ma ml mc,.slice na nl nc]),by omega,by go_num,?_,?_,FY.1,FY.2⟩
        · rw[F5.out,length_append,Vu.out]
          exact PD.1
        · rw[F5.out]
          have Bj:Below B wr w2:=((BL.alloc _).mono (S':=fun q=>W.heap.size≤q) (fun _ _ h=>h.elim)).grown PD.2.1 (fun q hq=>.inl (Ai q hq)) |>.below Lm (fun q hq h=>by omega)
          exact mX.snoc jm (bP.below Bj _ _ Q9) (mX.below Bj _ _ Fq)
       case measure=>simp[intOf];omega
    · have Xj:¬ k<il:=by rw[← MC.out];exact hi
      have F5:=Lib.hid Ah;clear Ah hi Hr Eh F7 Dp AQ;go_wp2;go_roundw
      case rel =>
       refine ⟨k+1,vals,by omega,by go_num,?_,?_,Ai,Ak.alloc _⟩
       · rw[F5.out,Vu.out]
         exact Aa.alloc _
       · rw[F5.out]
         exact mX.below ((Below.refl B wr).alloc Lm _) _ _ Fq
      case measure=>simp[intOf];omega
  · have Bl:k=kl:=by omega
    subst Bl;have FP:c.pairs.take k=c.pairs:=take_of_length_le (by have:=Ia.out;unfold Cell.pairs;rw[length_zip];omega);rw[FP] at Aa Fq Ai;have x0:=Ak.aA e0 (fun h=>h);have Fj:F0 w wr:=Af.trans Ak (fun _ _ h=>h);have AL:MapAt B tk uk Rk t u R p wr fp σ:=iG.aW (Rk:=Rk) (R:=R) ks.frame sp.frame h (fun q hq=>Fj.block q (AC q hq).2 (fun h=>h));have Bg:=aCg ks sp wr p fp σ AL c _ vals Aa Fq (fun q hq h=>by have:=Ai q hq;have:=(AC q h).2;omega) hw;clear AL Aa Fq Hr Eh F7 Dp AQ h;rw[FP];generalize c.pairs.length=m at Bg
    go_wp2_with (go_at_call 261;refine Bg.mono ?_;rintro e w2 ⟨rfl,Ae,BV⟩)
    go_end0;obtain ⟨fp',h1,h2⟩:=BV
    exact ⟨rfl,(Fj.mono (fun _ _ h=>h.elim)).trans Ae (fun _ _ h=>h),fp',h1,fun q hq=>(h2 q hq).imp id (fun h=>by omega)⟩
theorem uM (ks:iH Tryz.prog B tk uk Tk stk Rk Rkp) (sp:ColSpec Tryz.prog B t u T st R Rp) (w:World) (p:Nat) (fp:Nat→Prop) (σ:List Cell) (h:MapAt B tk uk Rk t u R p w fp σ) (cs:List Cell) (v:Value) (ys:List Value) (hs:Sl B w 8 v cs.length ys) (A8:aI B w cs ys) (hw:wts (σ++cs)≤2147483648) :
 Calls Tryz.prog 259 #[.agg #[.pointer (some ⟨p,0,none⟩)],v] w fun e w'=>e=.returned (.tuple #[])∧Fr fp w w'∧∃ fp',MapAt B tk uk Rk t u R p w' fp' (σ++cs)∧Grow w fp fp':=by
 have AC:∀ q,fp q→B≤q∧q<w.heap.size:=iG.lt (Rk:=Rk) (R:=R) ks.lo sp.lo h;have Bd:B≤w.heap.size:=iG.base (Rk:=Rk) (R:=R) ks.lo sp.lo h;have CB:=hs;obtain ⟨Dy,ao,cap,rfl,BF,AP,h0,ha⟩:=hs;unfold maxLen at AP;clear ha h0 Dy;go_enter func259,ntmps259;go_wp2;generalize hW:w.alloc _=W;have Af:F0 w W:=by subst hW;exact (Fr.refl _ w).alloc _
 have D6:W.heap.size=w.heap.size+1:=by subst hW;simp
 have q0:W.cell? ⟨w.heap.size,0,none⟩=some (.pointer (some ⟨p,0,none⟩)):=by subst hW;rw[aB (by simp)];rfl
 clear hW;have J9:MapAt B tk uk Rk t u R p W fp σ:=iG.aW (Rk:=Rk) (R:=R) ks.frame sp.frame h (fun q hq=>Af.block q (AC q hq).2 (fun h=>h))
 go_loopw [8] (fun i wr=>∃ (k:Nat) (fpk:Nat→Prop),k≤cs.length∧i=.int .i64 k∧MapAt B tk uk Rk t u R p wr fpk (σ++cs.take k)∧Grow W fp fpk∧Fr fp W wr) (fun i _=>cs.length - (intOf i).toNat)
 case atStart=>exact ⟨0,fp,Nat.zero_le _,rfl,by simpa using J9,fun k hk=>.inl hk,Fr.refl _ _⟩
 case round =>
  obtain ⟨k,fpk,hk,rfl,AL,hg,Ak⟩:=hrel;have Fj:Fr fp w wr:=(Af.mono (fun _ _ h=>h.elim)).trans Ak (fun _ _ h=>h);have Bf:Below B w wr:=Fj.below Bd (fun q hq h=>by have:=(AC q h).1;omega);have Lm:B≤wr.heap.size:=by have:=Ak.size;omega
  by_cases Ar:k<cs.length
  · obtain ⟨b,off,cap',hv,FT,vs,AQ,Ac⟩:=(CB.below Bf).row (aI.below Bf _ _ A8) Ar
    have Ah:=Lib.hid (take_succ_eq_append_getElem Ar)
    have Fg:wts (σ++cs.take k++[cs[k]])≤2147483648:=by
     have:=iV (σ++cs) (σ.length+(k+1));rw[take_length_add_append,take_succ_eq_append_getElem Ar,← append_assoc] at this;omega
    generalize cs[k]=c at AQ Ah Fg;have Nr:=AQ;obtain ⟨ia,il,ic,ka,kl,kc,rfl,-⟩:=AQ.open;simp only[Value.slice.injEq] at hv;obtain ⟨rfl,-,rfl⟩:=hv;have d0:=Ac 0 _ rfl;have d1:=Ac 1 _ rfl;have d2:=Ac 2 _ rfl;have d3:=Ac 3 _ rfl;have d4:=Ac 4 _ rfl;have d5:=Ac 5 _ rfl;have d6:=Ac 6 _ rfl;have d7:=Ac 7 _ rfl;simp only[Nat.add_zero] at d0;have x0:=Ak.aA q0 (fun h=>absurd (AC _ h).2 (by show ¬ (w.heap.size<w.heap.size);omega));have x0a:∀ o,(wr.alloc o).cell? ⟨w.heap.size,0,none⟩=some (.pointer (some ⟨p,0,none⟩)):=fun o=>(((Fr.refl (fun _=>False) wr).alloc o).aA x0 (fun h=>h))
    have Fv:∀ q,fpk q→B≤q∧q<wr.heap.size:=iG.lt (Rk:=Rk) (R:=R) ks.lo sp.lo AL
    have Hz:=oQ ks sp (wr.alloc (.cells #[.int .u64 c.r0,.int .u64 c.r1,.int .u64 c.r2,.int .u64 c.r3,.string c.s,.bool c.null,.slice ia il ic,.slice ka kl kc] 35)) p fpk (σ++cs.take k)
     (iG.aW (Rk:=Rk) (R:=R) ks.frame sp.frame AL (fun q hq=>Below.heap_alloc _ _ _ (Fv q hq).2)) c _ (bP.below ((Below.refl B wr).alloc Lm _) _ _ AQ) Fg
    clear Ac AQ A8 CB J9
    go_wp2_with (go_at_call 258;refine Hz.mono ?_;rintro e w1 ⟨rfl,Ad,fp',FQ,I8⟩)
    go_roundw
    case rel =>
     refine ⟨k+1,fp',by omega,by go_num,?_,?_,?_⟩
     · rw[Ah.out,← append_assoc];exact FQ
     · intro q hq
       have:=Ak.size;rcases I8 q hq with h|h
       · exact hg q h
       · simp at h;exact .inr (by omega)
     · exact (Ak.alloc _).trans Ad (fun q hq h=>(hg q h).resolve_right (by omega))
    case measure=>simp[intOf];omega
  · have Bl:k=cs.length:=by omega
    subst Bl;rw[take_length] at AL;go_wp2;go_end0
    exact ⟨rfl,Fj,fpk,AL,fun q hq=>(hg q hq).imp id (fun h=>by omega)⟩
end
section
variable {B:Nat} {tk:TypeId} {uk:Value} {Tk:Ty} {stk:List UInt8} {Rk Rkp:World→(Nat→Prop)→List Cell→Prop} {t:TypeId} {u:Value} {T:Ty} {st:List UInt8} {R Rp:World→(Nat→Prop)→List Cell→Prop}
theorem aFE {P:Program} {w:World} {t:TypeId} {i:TypeInfo} {fs:Array Field} {a:Addr} {u v x:Value} (hu:P.underlying t=some (.struct fs)) (hi:P.info? t=some i) (hs:i.size=3) (h0:w.cell? a=some u) (h1:w.cell? (a.add 1)=some v) (h2:w.cell? (a.add 2)=some x):(loadVar t a).run P w=.ok (.agg #[u,v,x]) w:=by
 have hg:(isAgg t).run P w=.ok true w:=by simp[isAgg,run_underlying hu]
 have Pv:w.cell? (a.add 0)=some u:=by cases a with|mk b o s=>cases s<;>simpa [Addr.add] using h0
 unfold loadVar;simp[Sem.run_bind,hg,sizeOf,typeInfo,hi,hs,loadCells,loadCellsFrom,Pv,h1,h2]
theorem aDx {w:World} {a:Addr} {u v x:Value} (h0:w.cell? a=some u) (h1:w.cell? (a.add 1)=some v) (h2:w.cell? (a.add 2)=some x):(loadVar 144 a).run Tryz.prog w=.ok (.agg #[u,v,x]) w:=by
 have h:(Tryz.prog.info? 144).map (·.size)=some 3:=by kernel_rfl
 obtain ⟨i,hi,hs⟩:=Option.map_eq_some_iff.1 h
 exact aFE underlying144 hi hs h0 h1 h2
theorem aDE (ks:iH Tryz.prog B tk uk Tk stk Rk Rkp) (sp:ColSpec Tryz.prog B t u T st R Rp) (w:World) (p n:Nat) (xs:List Value) (κ υ:List Cell) (fp:Nat→Prop) (x0:Value) (h:iG B tk uk Rk t u R p n xs κ υ w fp) :
 Calls Tryz.prog 251 #[.agg #[x0,.iface tk uk,.iface t u]] w fun e w'=>e=.returned .nilIface∧Fr fp w w'∧∃ fp',iG B tk uk Rkp t u Rp p n xs κ υ w' fp'∧Grow w fp fp':=by
 have AC:=h.lt (Rk:=Rk) (R:=R) ks.lo sp.lo;generalize hW:w.alloc (.cells #[x0,.iface tk uk,.iface t u] 144)=W;have Aw:F0 w W:=by subst hW;exact (Fr.refl _ w).alloc _
 have D6:W.heap.size=w.heap.size+1:=by subst hW;simp
 have q1:W.cell? ⟨w.heap.size,1,none⟩=some (.iface tk uk):=by subst hW;rw[aB rfl];rfl
 have q2:W.cell? ⟨w.heap.size,2,none⟩=some (.iface t u):=by subst hW;rw[aB rfl];rfl
 have Gu:=h.aW (Rk:=Rk) (R:=R) (w':=W) ks.frame sp.frame (fun q hq=>Aw.block q (AC q hq).2 (fun h=>h));have PX:=Gu.lt (Rk:=Rk) (R:=R) ks.lo sp.lo;obtain ⟨fk,Dn,DW,Xc,IK⟩:=Gu.aLY (R:=R) sp.frame (fun q hq=>(PX q hq).2);obtain ⟨KW,Og⟩:=ks.prepare;have U8:=KW 132;have Og:=Og Dn;obtain ⟨q,EP,Dc⟩:=sp.prepare;have BX:=EP 59;have hN:¬ fk w.heap.size:=fun h=>by have:=(AC _ (DW _ h)).2;omega
 have body:∀ w2 f2,Fr fk W w2→Rkp w2 f2 κ→Grow W fk f2→(∃ fv fp2,R w2 fv υ∧iG B tk uk Rkp t u R p n xs κ υ w2 fp2∧Grow W fp fp2∧Fr fp W w2 ∧
  ∀ w3 f3,Fr fv w2 w3→Rp w3 f3 υ→Grow w2 fv f3→Fr fp w w3∧∃ fp',iG B tk uk Rkp t u Rp p n xs κ υ w3 fp'∧Grow w fp fp'):=by
  intro w2 f2 Ae Ew BJ;obtain ⟨fp2,Ep,Ja,BZ⟩:=IK Ae Ew BJ;have G5:=Ep.lt (Rk:=Rkp) (R:=R) ks.lo' sp.lo;obtain ⟨fv,P6,ZZ,UI,JK⟩:=Ep.aOB (Rk:=Rkp) ks.frame' (fun q hq=>(G5 q hq).2);have EW:=BZ.size
  refine ⟨fv,fp2,P6,Ep,Ja,BZ,fun w3 f3 AV O4 EU=>?_⟩;obtain ⟨fp3,KD,EF,Fp⟩:=JK AV O4 EU
  refine ⟨((Aw.mono (fun _ _ h=>h.elim)).trans BZ (fun _ _ h=>h)).trans Fp (fun q hq h=>(Ja q h).resolve_right (by omega)),fp3,KD,fun q hq=>?_⟩;rcases EF q hq with h|h
  · rcases Ja q h with h|h
    · exact .inl h
    · exact .inr (by omega)
  · exact .inr (by omega)
 clear IK Gu h
 cases q with
 | false =>
  simp only[Bool.false_eq_true,if_false] at Dc BX;clear EP KW;go_enter func251,ntmps251
  go_wp2_with ((with_reducible show wpList _ _ _ (⟨some 17,_,_,_,_,_⟩ :: _) _ _);refine aT _ rfl _ _ _ _ rfl _ _ rfl Og rfl ?_;rintro e w2 ⟨rfl,Ae,f2,Ew,BJ⟩;refine ⟨_,rfl,?_⟩;have q2':=Ae.aA q2 hN)
  obtain ⟨fv,fp2,P6,Ep,Ja,BZ,FU⟩:=body _ f2 Ae Ew BJ;have BV:=FU w2 fv (Fr.refl _ _) (Dc P6) (fun _ hk=>.inl hk);go_ret
  exact ⟨rfl,BV⟩
 | true =>
  simp only[if_true] at Dc BX;clear EP KW;go_enter func251,ntmps251
  go_wp2_with (first
   | ((with_reducible show wpList _ _ _ (⟨some 17,_,_,_,_,_⟩ :: _) _ _);refine aT _ rfl _ _ _ _ rfl _ _ rfl Og rfl ?_;rintro e w2 ⟨rfl,Ae,f2,Ew,BJ⟩;refine ⟨_,rfl,?_⟩;have q2':=Ae.aA q2 hN;have Wh:=body _ f2 Ae Ew BJ;obtain ⟨fv,fp2,P6,Ep,Ja,BZ,FU⟩:=Wh;have hi:=Dc P6)
   | ((with_reducible show wpList _ _ _ (⟨some 30,_,_,_,_,_⟩ :: _) _ _);refine aT _ rfl _ _ _ _ rfl _ _ rfl hi rfl ?_;rintro e w3 ⟨rfl,AV,f3,O4,EU⟩;refine ⟨_,rfl,?_⟩;have BV:=FU w3 f3 AV O4 EU))
  go_ret
  exact ⟨rfl,BV⟩
theorem aIR (ks:iH Tryz.prog B tk uk Tk stk Rk Rkp) (sp:ColSpec Tryz.prog B t u T st R Rp) (w:World) (p n:Nat) (xs:List Value) (κ υ:List Cell) (fp:Nat→Prop) (x0:Value) (h:iG B tk uk Rkp t u Rp p n xs κ υ w fp) (b:Nat) (fb:Nat→Prop) (bs:List UInt8) (hb:Buf w b fb bs) (hd:∀ k,fp k→¬ fb k) (hl:bs.length+(stk++st).length≤2147483648) :
 Calls Tryz.prog 250 #[.agg #[x0,.iface tk uk,.iface t u],.pointer (some ⟨b,0,none⟩)] w fun e w'=>e=.returned (.tuple #[])∧Fr fb w w'∧∃ fb',Buf w' b fb' (bs++(stk++st))∧Grow w fb fb':=by
 have AC:=h.lt (Rk:=Rkp) (R:=Rp) ks.lo' sp.lo';rw[length_append] at hl;generalize hW:w.alloc (.cells #[x0,.iface tk uk,.iface t u] 144)=W;have Aw:F0 w W:=by subst hW;exact (Fr.refl _ w).alloc _
 have D6:W.heap.size=w.heap.size+1:=by subst hW;simp
 have q1:W.cell? ⟨w.heap.size,1,none⟩=some (.iface tk uk):=by subst hW;rw[aB rfl];rfl
 have q2:W.cell? ⟨w.heap.size,2,none⟩=some (.iface t u):=by subst hW;rw[aB rfl];rfl
 have DD:=aJ.lt hb;have KE:Buf W b fb bs:=aJ.aW hb fun q hq=>Aw.block q (DD q hq) (fun h=>h)
 obtain ⟨v,fk,fv,hp,Aa,Dn,hR,n1,n2,n3,n4,n5,Aj,hB⟩:=h;have Jb:∀ q,fk q→¬ fb q∧q<w.heap.size:=fun q hq=>⟨hd q ((Aj q).2 (.inr (.inr (.inl hq)))),(AC q ((Aj q).2 (.inr (.inr (.inl hq))))).2⟩
 have IQ:∀ q,fv q→¬ fb q∧q<w.heap.size:=fun q hq=>⟨hd q ((Aj q).2 (.inr (.inr (.inr hq)))),(AC q ((Aj q).2 (.inr (.inr (.inr hq))))).2⟩
 have J7:=ks.frame' (w':=W) Dn fun q hq=>Aw.block q (Jb q hq).2 (fun h=>h)
 have J8:=sp.frame' (w':=W) hR fun q hq=>Aw.block q (IQ q hq).2 (fun h=>h)
 obtain ⟨KW,XB⟩:=ks.state;have U8:=KW 132;have QU:=XB J7 KE (fun q hq=>(Jb q hq).1) (by omega);obtain ⟨q,EP,BD⟩:=sp.state;have BX:=EP 59;have hN:¬ fb w.heap.size:=fun h=>by have:=DD _ h;omega
 have AX:∀ {fb2:Nat→Prop},Grow W fb fb2→Grow w fb fb2:=fun hg q hq=>(hg q hq).imp id (fun h=>by omega)
 clear Aj hB n4 n5 Aa hp KW
 cases q with
 | false =>
  simp only[Bool.false_eq_true,if_false] at BD BX;subst BD;clear EP;go_enter func250,ntmps250
  go_wp2_with ((with_reducible show wpList _ _ _ (⟨some 17,_,_,_,_,_⟩ :: _) _ _);refine aT _ rfl _ _ _ _ rfl _ _ rfl QU rfl ?_;rintro e w2 ⟨rfl,Ae,fb2,Bj,BJ⟩;refine ⟨_,rfl,?_⟩;have q2':=Ae.aA q2 hN)
  go_end0
  exact ⟨rfl,(Aw.mono (fun _ _ h=>h.elim)).trans Ae (fun _ _ h=>h),fb2,by simpa using Bj,AX BJ⟩
 | true =>
  simp only[if_true] at BD BX;clear EP;go_enter func250,ntmps250
  go_wp2_with (first
   | ((with_reducible show wpList _ _ _ (⟨some 17,_,_,_,_,_⟩ :: _) _ _);refine aT _ rfl _ _ _ _ rfl _ _ rfl QU rfl ?_;rintro e w2 ⟨rfl,Ae,fb2,Bj,BJ⟩;refine ⟨_,rfl,?_⟩;have q2':=Ae.aA q2 hN;have EW:=Ae.size;have hi:=BD (sp.frame' (w':=w2) J8 fun q hq=>Ae.block q (by have:=(IQ q hq).2;omega) (IQ q hq).1) Bj (fun q hq h=>(BJ q h).elim (IQ q hq).1 (fun h=>by have:=(IQ q hq).2;omega)) (by rw[length_append];omega))
   | ((with_reducible show wpList _ _ _ (⟨some 27,_,_,_,_,_⟩ :: _) _ _);refine aT _ rfl _ _ _ _ rfl _ _ rfl hi rfl ?_;rintro e w3 ⟨rfl,AV,fb3,EY,EU⟩;refine ⟨_,rfl,?_⟩))
  go_end0
  refine ⟨rfl,((Aw.mono (fun _ _ h=>h.elim)).trans Ae (fun _ _ h=>h)).trans AV (fun q hq h=>(BJ q h).resolve_right (by omega)),fb3,?_,fun q hq=>?_⟩
  · rw[← append_assoc]
    exact EY
  · rcases EU q hq with h|h
    · exact AX BJ q h
    · exact .inr (by omega)
theorem yN (w:World) (a:Option Addr) (n c:Nat) (x y:Value) (hx:∃ t u,x=.iface t u) (hy:∃ t u,y=.iface t u):Calls Tryz.prog 254 #[.agg #[.slice a n c,x,y]] w fun e w'=>e=.returned (.int .i64 n)∧F0 w w':=by
 obtain ⟨t,u,rfl⟩:=hx;obtain ⟨t',u',rfl⟩:=hy;go_enter func254,ntmps254
 go_wp2_with (go_at_call 173;refine (zW _ a n c).mono ?_;rintro e w1 ⟨rfl,Ad⟩)
 go_ret
 exact ⟨rfl,((Fr.refl _ w).alloc _).trans Ad (fun _ _ h=>h)⟩
theorem aFL (ks:iH Tryz.prog B tk uk Tk stk Rk Rkp) (sp:ColSpec Tryz.prog B t u T st R Rp) (w:World) (p:Nat) (fp:Nat→Prop) (σ:List Cell) (h:MapAt B tk uk Rkp t u Rp p w fp σ) (hw:wts σ≤2147483648) (b:Nat) (fb:Nat→Prop) (bs:List UInt8) (hb:Buf w b fb bs) (hd:∀ k,fp k→¬ fb k) (hl:bs.length+(enc (.map Tk T) σ).length≤1099511627776)
 (v:Value) (hv:w.cell? ⟨p,0,none⟩=some v) :
 Calls Tryz.prog 249 #[.agg #[v,.iface tk uk,.iface t u],.pointer (some ⟨b,0,none⟩)] w fun e w'=>e=.returned (.tuple #[])∧Fr fb w w'∧∃ fb',Buf w' b fb' (bs++enc (.map Tk T) σ)∧Grow w fb fb':=by
 have AC:∀ q,fp q→B≤q∧q<w.heap.size:=iG.lt (Rk:=Rkp) (R:=Rp) ks.lo' sp.lo' h;obtain ⟨v0,fk,fv,hp,Aa,Dn,hR,n1,n2,n3,n4,n5,Aj,hB⟩:=h;obtain rfl:v0=v:=by rw[cell_of_row _ _ _ _ _ _ hp] at hv;exact Option.some.inj hv
 obtain ⟨a1,c1,rfl⟩:=ownsRow_shape Aa;have Jb:∀ q,fk q→¬ fb q∧q<w.heap.size:=fun q hq=>⟨hd q ((Aj q).2 (.inr (.inr (.inl hq)))),(AC q ((Aj q).2 (.inr (.inr (.inl hq))))).2⟩
 have IQ:∀ q,fv q→¬ fb q∧q<w.heap.size:=fun q hq=>⟨hd q ((Aj q).2 (.inr (.inr (.inr hq)))),(AC q ((Aj q).2 (.inr (.inr (.inr hq))))).2⟩
 have Xw:∀ q,(Value.slice a1 σ.length c1).ownBlock=some q→¬ fb q:=fun q hq=>hd q ((Aj q).2 (.inr (.inl hq)))
 have DD:=aJ.lt hb;generalize hW:w.alloc (.cells #[.slice a1 σ.length c1,.iface tk uk,.iface t u] 144)=W;have Aw:F0 w W:=by subst hW;exact (Fr.refl _ w).alloc _
 have D6:W.heap.size=w.heap.size+1:=by subst hW;simp
 have q0:W.cell? ⟨w.heap.size,0,none⟩=some (.slice a1 σ.length c1):=by subst hW;rw[aB rfl];rfl
 have q1:W.cell? ⟨w.heap.size,1,none⟩=some (.iface tk uk):=by subst hW;rw[aB rfl];rfl
 have q2:W.cell? ⟨w.heap.size,2,none⟩=some (.iface t u):=by subst hW;rw[aB rfl];rfl
 have KE:Buf W b fb bs:=aJ.aW hb fun q hq=>Aw.block q (DD q hq) (fun h=>h)
 have Ag:=yN W a1 σ.length c1 (.iface tk uk) (.iface t u) ⟨_,_,rfl⟩ ⟨_,_,rfl⟩;have hN:¬ fb w.heap.size:=fun h=>by have:=DD _ h;omega
 by_cases hσ:σ=[]
 · subst hσ
   clear Aj hB n4 n5 Aa hp hv Dn hR;rw[lU,if_pos rfl];simp only[length_nil,Int.natCast_zero] at Ag hW q0 ⊢;go_enter func249,ntmps249
   go_wp2_with (go_at_call 254;refine Ag.mono ?_;rintro e w1 ⟨rfl,Ad⟩)
   try simp only[Exit.inBlock,Exit.then]
   refine bodyPost_ret (results_none rfl _ _ _) rfl ?_
   have CX:F0 w w1:=Aw.trans Ad (fun _ _ h=>h)
   exact ⟨rfl,CX.mono (fun _ _ h=>h.elim),fb,by rw[append_nil];exact Buf.col.2 (aJ.aW hb fun q hq=>CX.block q (DD q hq) (fun h=>h)),fun q hq=>.inl hq⟩
 · rw[lU,if_neg hσ,length_append,length_append,dN] at hl
   rw[lU,if_neg hσ];have hσl:σ.length≠0:=fun h=>hσ (eq_nil_of_length_eq_zero h)
   have hσz:¬ (σ.length:Int)=0:=by omega
   have QC:=bF σ;have Fg:=jD σ;have Po:=jE σ;have Ir:=kW σ;have DT:=bF (σ.flatMap mapKeys);have FB:=gB iU 0 σ;have KQ:=dN iU 0 σ;have DN:∀ w1,F0 W w1→_:=fun w1 Ad=>zU w1 b fb bs (aJ.aW KE fun q hq=>Ad.block q (by have:=DD q hq;omega) (fun h=>h)) a1 c1 (ends iU 0 σ) (by rw[FB];exact (Aw.trans Ad (fun _ _ h=>h)).owns Aa (fun _ _ h=>h)) (by rw[FB];exact Xw) (fun c hc=>by have:=qL iU 0 σ c hc;omega) (by rw[FB];omega)
   rw[FB] at DN;have J7:=fun w1 (Ad:Fr fb w w1)=>ks.frame' (w':=w1) Dn fun q hq=>Ad.block q (Jb q hq).2 (Jb q hq).1
   have J8:=fun w1 (Ad:Fr fb w w1)=>sp.frame' (w':=w1) hR fun q hq=>Ad.block q (IQ q hq).2 (IQ q hq).1
   generalize (ends iU 0 σ).flatMap (aG 8)=OB at DN KQ ⊢;generalize σ.flatMap mapKeys=κ at J7 Fg hl ⊢;generalize σ.flatMap fD=υ at J8 Po hl ⊢;have LM:=Lib.hid @DN;clear Aj hB n4 n5 Aa hp hv Dn hR Ir DT FB DN;go_enter func249,ntmps249
   go_wp2_with (first
    | (go_at_call 254;refine Ag.mono ?_;rintro e w1 ⟨rfl,Ad⟩;have r0:=Ad.aA q0 (fun h=>h);have r1:=Ad.aA q1 (fun h=>h);have r2:=Ad.aA q2 (fun h=>h);have BN:=Ad.size)
    | (go_at_call 170;refine (LM.out w1 Ad).mono ?_;rintro e w2 ⟨rfl,Ae,fb2,Bj,BJ⟩;have s1:=Ae.aA r1 hN;have s2:=Ae.aA r2 hN;have EW:=Ae.size;have Dl:Fr fb w w2:=((Aw.trans Ad (fun _ _ h=>h)).mono (fun _ _ h=>h.elim)).trans Ae (fun _ _ h=>h);have JP:¬ fb2 w.heap.size:=fun h=>(BJ _ h).elim hN (fun h=>by omega);have QU:=ks.encode (J7 w2 Dl) (show wts _≤_ by omega) Bj (fun q hq h=>(BJ q h).elim (Jb q hq).1 (fun h=>by have:=(Jb q hq).2;omega)) (by rw[length_append];omega))
    | ((with_reducible show wpList _ _ _ (⟨some 14,_,_,_,_,_⟩ :: _) _ _);refine aT _ rfl _ _ _ _ rfl _ _ rfl QU rfl ?_;rintro e w3 ⟨rfl,AV,fb3,EY,EU⟩;refine ⟨_,rfl,?_⟩;have t2:=AV.aA s2 JP;have IJ:=AV.size;have ES:Fr fb w w3:=Dl.trans AV (fun q hq h=>(BJ q h).resolve_right (by omega));have WV:=sp.encode (J8 w3 ES) (show wts _≤_ by omega) EY (fun q hq h=>(EU q h).elim (fun h=>(BJ q h).elim (IQ q hq).1 (fun h=>by have:=(IQ q hq).2;omega)) (fun h=>by have:=(IQ q hq).2;omega)) (by rw[length_append,length_append];omega))
    | ((with_reducible show wpList _ _ _ (⟨some 18,_,_,_,_,_⟩ :: _) _ _);refine aT _ rfl _ _ _ _ rfl _ _ rfl WV rfl ?_;rintro e w4 ⟨rfl,BU,fb4,NR,EZ⟩;refine ⟨_,rfl,?_⟩))
   go_end0
   refine ⟨rfl,ES.trans BU (fun q hq h=>(EU q h).elim (fun h=>(BJ q h).resolve_right (by omega)) (fun h=>by omega)),fb4,by simpa [append_assoc] using NR,fun q hq=>?_⟩;rcases EZ q hq with h|h
   · rcases EU q h with h|h
     · rcases BJ q h with h|h
       · exact .inl h
       · exact .inr (by omega)
     · exact .inr (by omega)
   · exact .inr (by omega)
end
theorem rO (p:Nat) (w:World) (name:String) (f:FuncId) (h:(name,f)=("Append",258)∨(name,f)=("AppendArr",259)) :
 (method mdp 92 (.agg #[.pointer (some ⟨p,0,none⟩)]) name).run Tryz.prog w=.ok (f,.agg #[.pointer (some ⟨p,0,none⟩)]) w:=by
 rcases h with h|h<;>(simp only[Prod.mk.injEq] at h;obtain ⟨rfl,rfl⟩:=h;kernel_rfl)
theorem kF (p:Nat) (w:World) (u v x:Value) (h0:w.cell? ⟨p,0,none⟩=some u) (h1:w.cell? ⟨p,1,none⟩=some v) (h2:w.cell? ⟨p,2,none⟩=some x) (name:String) (f:FuncId)
 (h:(name,f)=("Rows",254)∨(name,f)=("EncodeColumn",249)∨(name,f)=("Prepare",251)∨(name,f)=("EncodeState",250)) :
 (method mdp 92 (.agg #[.pointer (some ⟨p,0,none⟩)]) name).run Tryz.prog w=.ok (f,.agg #[u,v,x]) w:=by
 obtain ⟨n,hn⟩:=fuel;rw[hn];have hr:=gU (P:=Tryz.prog) underlying89 (aDx h0 (by simpa [Addr.add] using h1) (by simpa [Addr.add] using h2));rcases h with h|h|h|h<;>(simp only[Prod.mk.injEq] at h;obtain ⟨rfl,rfl⟩:=h;exact eU (n:=n+1) false underlying92 rfl rfl (fun _=>by kernel_rfl) (by kernel_rfl) rfl hr)
theorem aDH {B:Nat} {tk:TypeId} {uk:Value} {Tk:Ty} {stk:List UInt8} {Rk Rkp:World→(Nat→Prop)→List Cell→Prop} {t:TypeId} {u:Value} {T:Ty} {st:List UInt8} {R Rp:World→(Nat→Prop)→List Cell→Prop} (ks:iH Tryz.prog B tk uk Tk stk Rk Rkp) (sp:ColSpec Tryz.prog B t u T st R Rp) (p:Nat) :
 ColSpec Tryz.prog B 92 (.agg #[.pointer (some ⟨p,0,none⟩)]) (.map Tk T) (stk++st) (MapAt B tk uk Rk t u R p) (MapAt B tk uk Rkp t u Rp p) where
 lo:=fun h=>iG.lt (Rk:=Rk) (R:=R) ks.lo sp.lo h
 lo':=fun h=>iG.lt (Rk:=Rkp) (R:=Rp) ks.lo' sp.lo' h
 frame:=fun h hk=>iG.aW (Rk:=Rk) (R:=R) ks.frame sp.frame h hk
 frame':=fun h hk=>iG.aW (Rk:=Rkp) (R:=Rp) ks.frame' sp.frame' h hk
 append:=fun {w fp σ c vs} h AQ hw=>aF.of1 (rO p w _ _ (.inl rfl)) call258 (oQ ks sp w p fp σ h c vs AQ hw)
 appendArr:=fun {w fp σ cs v xs} h hs A8 hw=>aF.of1 (rO p w _ _ (.inr rfl)) call259 (uM ks sp w p fp σ h cs v xs hs A8 hw)
 rows:=by
  intro w fp σ h;obtain ⟨v,fk,fv,hp,Aa,_⟩:=h;obtain ⟨a,c,rfl⟩:=ownsRow_shape Aa
  exact aF.of0 (kF p w _ _ _ (crw hp rfl) (crw hp rfl) (crw hp rfl) _ _ (.inl rfl)) call254 (yN w a _ c _ _ ⟨_,_,rfl⟩ ⟨_,_,rfl⟩)
 flat:=by rintro w name (rfl|rfl|rfl) n m<;>exact kK (by kernel_rfl) (n+1) (m+1)
 ahead:=fun w=>by kernel_rfl
 prepare:=⟨true,fun x w=>run_typeAssert_hasB underlying102 (by kernel_rfl) _ x w,fun {w fp σ} h=>by
  simp only[if_true];have h':=h;obtain ⟨v,fk,fv,hp,_⟩:=h'
  exact aF.of0 (kF p w _ _ _ (crw hp rfl) (crw hp rfl) (crw hp rfl) _ _ (.inr (.inr (.inl rfl)))) call251 (aDE ks sp w p _ _ _ _ fp v h)⟩
 state:=⟨true,fun x w=>run_typeAssert_hasB underlying172 (by kernel_rfl) _ x w,by
  simp only[if_true];intro w fp σ b fb bs h hb hd hl;have h':=h;obtain ⟨v,fk,fv,hp,_⟩:=h'
  exact aF.of1 (kF p w _ _ _ (crw hp rfl) (crw hp rfl) (crw hp rfl) _ _ (.inr (.inr (.inr rfl)))) call250 (aIR ks sp w p _ _ _ _ fp v h b fb bs hb hd hl)⟩
 encode:=by
  intro w fp σ b fb bs h hw hb hd hl;have h':=h;obtain ⟨v,fk,fv,hp,_⟩:=h'
  exact aF.of1 (kF p w _ _ _ (crw hp rfl) (crw hp rfl) (crw hp rfl) _ _ (.inr (.inl rfl))) call249 (aFL ks sp w p fp σ h hw b fb bs hb hd hl v (crw hp rfl))
end Go.Proofs.YtcidlnjpabgioaaGreatDoor
