import Derived.Test.YtcidlnjpabgioaaGreatDoorUGText
set_option maxHeartbeats 1000000
set_option maxRecDepth 100000
namespace Go.Proofs.YtcidlnjpabgioaaGreatDoor
open Tryz List Go.RowKit
def bT (B:Nat) (w:World) (p:Nat):Prop :=
 B≤p∧∃ a n c s,w.heap[p]?=some (.cells #[.slice a n c,.int .u64 s] 26 (0,0))∧0≤s∧s<18446744073709551616∧n≤c∧c≤maxLen∧(a=none→n=0) ∧
  ∀ ad,a=some ad→ad.block<B∧ad.spot=none∧∀ j,j<n→∃ b:UInt8,w.cell? (ad.add j)=some (.int .u8 b.toNat)
theorem bT.fr {B:Nat} {w w':World} {p:Nat} {S:Nat→Prop} (h:bT B w p) (hf:Fr S w w') (hp:¬ S p) (hS:∀ k,k<B→¬ S k):bT B w' p:=by
 obtain ⟨hB,a,n,c,s,h1,h2,h3,h4,h5,h6,h7⟩:=h
 refine ⟨hB,a,n,c,s,(hf.block p (Array.getElem?_eq_some_iff.1 h1).1 hp).trans h1,h2,h3,h4,h5,h6,fun ad D9=>?_⟩;obtain ⟨h8,h9,QH⟩:=h7 ad D9
 refine ⟨h8,h9,fun j hj=>?_⟩;obtain ⟨b,hb⟩:=QH j hj
 exact ⟨b,hf.aA hb (by unfold Addr.add;split<;>exact hS _ h8)⟩
theorem lH {w:World} {p:Nat} {u v:Value} {tc:TypeId} (h:w.heap[p]?=some (.cells #[u,v] tc (0,0))) (x:Value):(w.setCell ⟨p,1,none⟩ x).heap[p]?=some (.cells #[u,x] tc (0,0)):=by
 simp[World.setCell,Array.getElem?_modify,h]
theorem nD {w:World} {p:Nat} {u v:Value} {tc:TypeId} (h:w.heap[p]?=some (.cells #[u,v] tc (0,0))) (x:Value):(w.setCell ⟨p,0,none⟩ x).heap[p]?=some (.cells #[x,v] tc (0,0)):=by
 simp[World.setCell,Array.getElem?_modify,h]
theorem aLJ (x:Int) (h0:0≤x) (h1:x<18446744073709551616):∃ b:Nat,b<256∧wrap64 (bits BinOp.and IntKind.u64 x 255)=(b:Int):=by
 have h:bits .and .u64 x 255=x % 256:=bits_mask .u64 64 (by decide) wraps_u64 8 (by decide) x h0 h1
 refine ⟨(x % 256).toNat,by omega,?_⟩;rw[h];unfold wrap64;omega
theorem aBy (b:UInt8):wrap64 (b.toNat:Int)=b.toNat:=by
 have:=b.toNat_lt;unfold wrap64;omega
theorem oI (x:Int):0≤IntKind.u64.wrap x∧IntKind.u64.wrap x<18446744073709551616:=by rw[IntKind.wrap_u64];omega
theorem fZ (B:Nat) (w:World) (p:Nat) (h:bT B w p) :
 Calls Tryz.prog 20 #[.pointer (some ⟨p,0,none⟩)] w fun e w'=>∃ b:Nat,b<256∧e=.returned (.int .i64 b)∧bT B w' p∧Fr (fun q=>q=p) w w':=by
 obtain ⟨hB,a,n,c,s,h1,h2,h3,h4,h5,h6,h7⟩:=h;have SE:w.cell? ⟨p,0,none⟩=some (.slice a n c):=crw h1 rfl;have Cj:w.cell? ⟨p,1,none⟩=some (.int .u64 s):=crw h1 rfl;have Ez:w.frozen? ⟨p,0,none⟩=false:=fzj _ h1;have Ad:w.frozen? ⟨p,1,none⟩=false:=fzj _ h1;unfold maxLen at h5
 by_cases h0:n=0
 · subst h0
   go_enter func20,ntmps20;go_wp2;go_ret;obtain ⟨b,ED,Bj⟩:=aLJ (IntKind.u64.wrap (IntKind.u64.wrap (s*6364136223846793005)+1442695040888963407) / 1099511627776) (by rw[IntKind.wrap_u64];omega) (by rw[IntKind.wrap_u64];omega)
   refine ⟨b,ED,congrArg (fun z=>Ending.returned (.int .i64 z)) Bj,⟨hB,a,0,c,_,lH h1 _,?_,?_,h4,by unfold maxLen;exact h5,fun _=>rfl,fun ad D9=>?_⟩,(Fr.refl (fun q=>q=p) w).setCell (.inl rfl) _⟩
   · rw[IntKind.wrap_u64];omega
   · rw[IntKind.wrap_u64];omega
   · exact ⟨(h7 ad D9).1,(h7 ad D9).2.1,by omega⟩
 · cases a with
   | none=>exact absurd (h6 rfl) h0
   | some ad =>
    obtain ⟨h8,h9,QH⟩:=h7 ad rfl;obtain ⟨bb,off,sp⟩:=ad;simp only at h8 h9;subst h9;obtain ⟨b,hb⟩:=QH 0 (by omega);simp only[Addr.add_lit,Nat.add_zero] at hb;have Vf:¬ bb=p:=by omega
    have JY:1≤n:=by omega
    go_enter func20,ntmps20
    by_cases Wv:c=1
    · subst Wv
      go_wp2;go_ret;have VI:=lH (nD h1 (.slice (some ⟨bb,off,none⟩) 0 0))
      refine ⟨b.toNat,b.toNat_lt,congrArg (fun z=>Ending.returned (.int .i64 z)) (aBy b),⟨hB,_,0,0,_,VI _,(oI _).1,(oI _).2,Nat.le_refl _,Nat.zero_le _,fun _=>rfl,fun ad D9=>?_⟩,((Fr.refl (fun q=>q=p) w).setCell (.inl rfl) _).setCell (.inl rfl) _⟩
      cases D9
      exact ⟨h8,rfl,by omega⟩
    · go_wp2
      go_ret;have VI:=lH (nD h1 (.slice (some ⟨bb,off+1,none⟩) (n - 1) (c - 1)))
      refine ⟨b.toNat,b.toNat_lt,congrArg (fun z=>Ending.returned (.int .i64 z)) (aBy b),⟨hB,_,n - 1,c - 1,_,VI _,(oI _).1,(oI _).2,by omega,by unfold maxLen;omega,(fun h=>by cases h),fun ad D9=>?_⟩,((Fr.refl (fun q=>q=p) w).setCell (.inl rfl) _).setCell (.inl rfl) _⟩
      cases D9
      refine ⟨h8,rfl,fun j hj=>?_⟩;obtain ⟨b',Ei⟩:=QH (j+1) (by omega)
      refine ⟨b',?_⟩;rw[Addr.add_lit] at Ei ⊢;rw[Nat.add_assoc,Nat.add_comm 1 j]
      exact (((Fr.refl (fun q=>q=p) w).setCell (.inl rfl) _).setCell (.inl rfl) _).aA Ei Vf
inductive LT where
 | mk (name:List UInt8) (size:Nat) (of:List LT)
mutual
def jK (B:Nat) (w:World):LT→List Value→Prop
 | .mk nm sz of,vs=>∃ ov ixs,vs=[.string (bJ nm),.int .i64 sz,ov]∧Sl B w 3 ov of.length ixs∧dZ B w of ixs
def dZ (B:Nat) (w:World):List LT→List Value→Prop
 | [],xs=>xs=[]
 | t :: ts,xs=>∃ vs rest,xs=vs++rest∧jK B w t vs∧dZ B w ts rest
end
mutual
theorem jK.below {B:Nat} {w w':World} (hb:Below B w w'):∀ (t:LT) (vs:List Value),jK B w t vs→jK B w' t vs
 | .mk nm sz of,vs=>by
  unfold jK;rintro ⟨ov,ixs,h0,h1,h2⟩
  exact ⟨ov,ixs,h0,h1.below hb,dZ.below hb _ _ h2⟩
theorem dZ.below {B:Nat} {w w':World} (hb:Below B w w'):∀ (ts:List LT) (xs:List Value),dZ B w ts xs→dZ B w' ts xs
 | [],xs=>by unfold dZ;exact id
 | t :: ts,xs=>by
  unfold dZ;rintro ⟨vs,rest,h0,h1,h2⟩
  exact ⟨vs,rest,h0,jK.below hb _ _ h1,dZ.below hb _ _ h2⟩
end
mutual
theorem jK.mono {B B':Nat} {w:World} (hB:B≤B'):∀ (t:LT) (vs:List Value),jK B w t vs→jK B' w t vs
 | .mk nm sz of,vs=>by
  unfold jK;rintro ⟨ov,ixs,h0,h1,h2⟩
  exact ⟨ov,ixs,h0,h1.mono hB,dZ.mono hB _ _ h2⟩
theorem dZ.mono {B B':Nat} {w:World} (hB:B≤B'):∀ (ts:List LT) (xs:List Value),dZ B w ts xs→dZ B' w ts xs
 | [],xs=>by unfold dZ;exact id
 | t :: ts,xs=>by
  unfold dZ;rintro ⟨vs,rest,h0,h1,h2⟩
  exact ⟨vs,rest,h0,jK.mono hB _ _ h1,dZ.mono hB _ _ h2⟩
end
theorem jK.length {B:Nat} {w:World}:∀ {t:LT} {vs:List Value},jK B w t vs→vs.length=3
 | .mk nm sz of,vs=>by
  unfold jK;rintro ⟨ov,ixs,rfl,_⟩
  rfl
theorem dZ.at {B:Nat} {w:World}:∀ {ts:List LT} {xs:List Value},dZ B w ts xs→∀ i t,ts[i]?=some t→jK B w t ((xs.drop (i*3)).take 3)
 | [],xs=>by intro _ i t h;simp at h
 | s :: ts,xs=>by
  intro h i t ht;unfold dZ at h;obtain ⟨vs,rest,rfl,h1,h2⟩:=h;have hl:=h1.length
  cases i with
  | zero =>
   simp only[getElem?_cons_zero,Option.some.injEq] at ht;subst ht
   simpa [take_append,hl] using h1
  | succ i =>
   have:=dZ.at h2 i t (by simpa using ht)
   have e:(vs++rest).drop ((i+1)*3)=rest.drop (i*3):=by
    rw[show (i+1)*3=vs.length+i*3 by omega,← drop_drop];simp
   rw[e]
   exact this
theorem dZ.length {B:Nat} {w:World}:∀ {ts:List LT} {xs:List Value},dZ B w ts xs→xs.length=ts.length*3
 | [],xs=>by unfold dZ;rintro rfl;rfl
 | t :: ts,xs=>by
  unfold dZ;rintro ⟨vs,rest,rfl,h1,h2⟩;rw[length_append,h1.length,dZ.length h2,length_cons];omega
theorem dZ.snoc {B:Nat} {w:World}:∀ {ts:List LT} {xs:List Value} {t:LT} {vs:List Value},dZ B w ts xs→jK B w t vs→dZ B w (ts++[t]) (xs++vs)
 | [],xs,t,vs=>by
  unfold dZ;rintro rfl h
  exact ⟨vs,[],by simp,h,by unfold dZ;rfl⟩
 | s :: ts,xs,t,vs=>by
  intro h h';unfold dZ at h;obtain ⟨us,rest,rfl,h1,h2⟩:=h;rw[cons_append];unfold dZ
  exact ⟨us,rest++vs,by rw[append_assoc],h1,dZ.snoc h2 h'⟩
def Ty.nm:Ty→List UInt8
 | .num k=>k.name
 | .str=>[83,116,114,105,110,103]
 | .fix _=>[70,105,120,101,100,83,116,114,105,110,103]
 | .nul _=>[78,117,108,108,97,98,108,101]
 | .low=>[76,111,119,67,97,114,100,105,110,97,108,105,116,121]
 | .arr _=>[65,114,114,97,121]
 | .map _ _=>[77,97,112]
 | .tup _=>[84,117,112,108,101]
def Ty.sz:Ty→Nat
 | .num k=>k.size
 | .fix n=>n
 | _=>0
mutual
def Ty.lt:Ty→LT
 | .num k=>.mk k.name k.size []
 | .str=>.mk [83,116,114,105,110,103] 0 []
 | .fix n=>.mk [70,105,120,101,100,83,116,114,105,110,103] n []
 | .nul t=>.mk [78,117,108,108,97,98,108,101] 0 [t.lt]
 | .low=>.mk [76,111,119,67,97,114,100,105,110,97,108,105,116,121] 0 [.mk [83,116,114,105,110,103] 0 []]
 | .arr t=>.mk [65,114,114,97,121] 0 [t.lt]
 | .map k v=>.mk [77,97,112] 0 [k.lt,v.lt]
 | .tup ts=>.mk [84,117,112,108,101] 0 (lts ts)
def lts:List Ty→List LT
 | []=>[]
 | t :: ts=>t.lt :: lts ts
end
theorem aHq:∀ ts:List Ty,lts ts=ts.map Ty.lt
 | []=>rfl
 | t :: ts=>by rw[lts,aHq ts];rfl
def Ty.dU:Ty→Prop
 | .num _|.str=>True
 | .fix n=>n=5∨n=16
 | _=>False
def Ty.cells3 (T:Ty):List Value:=[.string (bJ T.nm),.int .i64 T.sz,.slice none 0 0]
theorem Ty.dU.lt {T:Ty} (h:T.dU) (B:Nat) (w:World):jK B w T.lt T.cells3:=by
 have hs:Sl B w 3 (.slice none 0 0) 0 []:=⟨rfl,none,0,rfl,Nat.le_refl _,Nat.zero_le _,fun _=>rfl,fun ad D9=>by cases D9⟩
 cases T<;>first
  | exact h.elim
  | (rw[Ty.lt];unfold jK;exact ⟨_,[],rfl,hs,by unfold dZ;rfl⟩)
def leaves:List Ty:=[.num .u8,.num .i16,.num .u32,.num .i64,.num .u64,.num .i128,.num .u256,.num .ip4,.num .ip6,.num .i8,.num .u16,.num .i32,.str,.str,.fix 5,.fix 16]
theorem aCb {i:Nat} {T:Ty} (h:leaves[i]?=some T):T.dU:=by
 have:T∈leaves:=mem_of_getElem? h;simp only[leaves,mem_cons,not_mem_nil,or_false] at this;rcases this with rfl|rfl|rfl|rfl|rfl|rfl|rfl|rfl|rfl|rfl|rfl|rfl|rfl|rfl|rfl|rfl<;>first|trivial|exact .inl rfl|exact .inr rfl
theorem aFC (w:World):Calls Tryz.prog 26 #[] w fun e w'=>e=.returned (.slice (some ⟨w.heap.size,0,none⟩) 16 16)∧w'=w.alloc (.cells (leaves.flatMap Ty.cells3).toArray 29):=by
 go_enter func26,ntmps26;go_wp2;go_ret
 exact ⟨rfl,rfl⟩
theorem aIL (k:Nat) (hk:k<16):∃ T:Ty,T.dU∧∀ j,j<3→(leaves.flatMap Ty.cells3)[k*3+j]?=T.cells3[j]?:=by
 have XQ:leaves.length=16:=rfl
 exact ⟨leaves[k]'(by omega),aCb (i:=k) (getElem?_eq_getElem _),fun j hj=>gJ Ty.cells3 3 (fun _=>rfl) leaves k j (by omega) hj⟩
theorem kP {w:World} {o:Obj} {n:Nat} (h:n=w.heap.size):(w.alloc o).heap[n]?=some o:=by
 subst h
 exact heap_alloc_new w o
theorem aFB {w w2:World} {p b:Nat} (CW:p<w.heap.size)
 (hf:Fr (fun q=>q=p) ((w.alloc (.cells #[.string ⟨#[]⟩,.int .i64 0,.slice none 0 0] 29)).alloc (.cells (leaves.flatMap Ty.cells3).toArray 29)) w2) :
 ∃ T:Ty,T.dU∧w2.cell? ⟨w.heap.size+1,b % 16*3,none⟩=some (.string (bJ T.nm))∧w2.cell? ⟨w.heap.size+1,b % 16*3+1,none⟩=some (.int .i64 T.sz)∧w2.cell? ⟨w.heap.size+1,b % 16*3+2,none⟩=some (.slice none 0 0) ∧
  w2.heap[w.heap.size]?=some (.cells #[.string ⟨#[]⟩,.int .i64 0,.slice none 0 0] 29 (0,0)):=by
 obtain ⟨T,hT,AL⟩:=aIL (b % 16) (by omega);have Ag:w2.heap[w.heap.size+1]?=some (.cells (leaves.flatMap Ty.cells3).toArray 29 (0,0)):=(hf.block _ (by simp) (by show ¬ w.heap.size+1=p;omega)).trans (kP (by simp));have Az:w2.heap[w.heap.size]?=some (.cells #[.string ⟨#[]⟩,.int .i64 0,.slice none 0 0] 29 (0,0)):=(hf.block _ (by simp;omega) (by show ¬ w.heap.size=p;omega)).trans ((Below.heap_alloc _ _ _ (by simp)).trans (heap_alloc_new w _))
 refine ⟨T,hT,?_,?_,?_,Az⟩<;>rw[cell_of_row _ _ _ _ _ _ Ag,getElem?_toArray]
 · exact AL 0 (by omega)
 · exact AL 1 (by omega)
 · exact AL 2 (by omega)
theorem yG (B:Nat) (w:World) (p:Nat) (h:bT B w p) (CW:p<w.heap.size):Calls Tryz.prog 15 #[.pointer (some ⟨p,0,none⟩)] w fun e w'=>∃ T:Ty,T.dU∧e=.returned (.agg T.cells3.toArray)∧bT B w' p∧Fr (fun q=>q=p) w w':=by
 go_enter func15,ntmps15
 go_wp2_with (first
  | (go_at_call 26;refine (aFC _).mono ?_;rintro e w1 ⟨rfl,rfl⟩)
  | (go_at_call 20;refine (fZ B _ p (h.fr (((Fr.refl (fun _=>False) w).alloc _).alloc _) (fun h=>h) (fun _ _ h=>h))).mono ?_;rintro e w2 ⟨b,hb,rfl,Bc,hf⟩;go_loud (obtain ⟨T,hT,q0,q1,q2,Az⟩:=aFB (b:=b) CW hf;have r0:w2.cell? ⟨w.heap.size,0,none⟩=some (.string ⟨#[]⟩):=(crw Az rfl);have r1:w2.cell? ⟨w.heap.size,1,none⟩=some (.int .i64 0):=(crw Az rfl);have r2:w2.cell? ⟨w.heap.size,2,none⟩=some (.slice none 0 0):=(crw Az rfl);have z0:=fzj 0 Az;have z1:=fzj 1 Az;have z2:=fzj 2 Az;clear Az)))
 refine bodyPost_ret (by simp[results,results15,go_sem,r0,r1,r2];try rfl) rfl ?_
 have Ak:Fr (fun q=>q=p) w w2:=(((Fr.refl (fun q=>q=p) w).alloc _).alloc _).trans hf (fun _ _ h=>h)
 refine ⟨T,hT,rfl,Bc.fr (((((Fr.refl (fun q=>q=w.heap.size) w2).setCell (.inl rfl) _).setCell (.inl rfl) _).setCell (.inl rfl) _)) (by show ¬ p=w.heap.size;omega) (fun k hk=>?_),((Ak.setCell (.inr (Nat.le_refl _)) _).setCell (.inr (Nat.le_refl _)) _).setCell (.inr (Nat.le_refl _)) _⟩;have:=h.1;show ¬ k=w.heap.size;omega
section
variable {P:Program} (w:World) {ops:Array Oper} {rest:List Oper} {o:Oper} {a:Act} {Q:Exit→Act→World→Prop} {K:Act→World→Prop} {E:Prop}
end
theorem xK {w:World} {v:Value} {bs:List UInt8} (h:Bytes w v bs):(convert 22 9 v).run Tryz.prog w=.ok (.string (bJ bs)) w:=by
 rcases h.2 with ⟨rfl,h0⟩|⟨g,cap,cur,rfl,_⟩
 · have:bs=[]:=eq_nil_of_length_eq_zero h0
   subst this
   exact run_convert_bytes_nil (P:=Tryz.prog) w 22 5 underlying22 underlying5 0 0 9 underlying9
 · have hc:=World.ownsRow.cells h (g:=g) rfl
   exact run_convert_bytes_back w _ _ 5 ⟨g,0,none⟩ cap bs underlying22 underlying5 underlying9 (fun j hj=>hc j _ (by simp[aN,hj]))
theorem qI (w:World) (x:Int) (b:UInt8) (hx:x=b.toNat):(convert 22 9 (.slice (some ⟨w.heap.size,0,none⟩) 1 1)).run Tryz.prog (w.alloc (.cells #[.int .u8 x] 5))=.ok (.string (bJ [b])) (w.alloc (.cells #[.int .u8 x] 5)):=by
 subst hx
 refine run_convert_bytes_back _ _ _ 5 ⟨w.heap.size,0,none⟩ 1 [b] underlying22 underlying5 underlying9 (fun j hj=>?_);have:j=0:=by simp at hj;omega
 subst this;rw[Addr.add_lit,aB rfl]
 rfl
theorem aAW (n:Nat) (hn:n<10):((48+n).toUInt8).toNat=48+n:=by
 simp[Nat.toUInt8,UInt8.toNat_ofNat'];omega
theorem aCR {w w2:World} {x:Int} (hf:F0 (w.alloc (.cells #[.int .u8 x] 5)) w2) (b:UInt8) (hx:x=b.toNat):(convert 22 9 (.slice (some ⟨w.heap.size,0,none⟩) 1 1)).run Tryz.prog w2=.ok (.string (bJ [b])) w2:=by
 subst hx
 refine run_convert_bytes_back _ _ _ 5 ⟨w.heap.size,0,none⟩ 1 [b] underlying22 underlying5 underlying9 (fun j hj=>?_);have:j=0:=by simp at hj;omega
 subst this;rw[Addr.add_lit]
 exact hf.aA (by rw[aB rfl];rfl) (fun h=>h)
theorem qJ (n:Nat) (hn:n<10) (w:World):Calls Tryz.prog 25 #[.int .i64 n] w fun e w'=>e=.returned (.string (bJ (digits n)))∧F0 w w':=by
 have h1:(n:Int)<10:=by omega
 rw[digits,dif_pos hn];have Jz:=aAW n hn;generalize (48+n).toUInt8=b at Jz;have hc:=qI w (48+n) b (by rw[Jz];rfl);have hb:=Lib.hid Jz;clear Jz;go_enter func25,ntmps25;go_wp2;go_ret
 exact ⟨rfl,(Fr.refl _ w).alloc _⟩
theorem gW (l:List UInt8):(bJ l).size=l.length:=by
 show l.toArray.size=_;simp
theorem fK (l m:List UInt8):bJ l++bJ m=bJ (l++m):=by
 show (⟨l.toArray⟩:ByteArray)++⟨m.toArray⟩=_;rw[ByteArray.mk_append_mk]
 rfl
theorem aCT (n:Nat) (h:n<10):(digits n).length=1:=by rw[digits,dif_pos h];rfl
theorem aEJ (n:Nat) (hn:n<100) (w:World):Calls Tryz.prog 25 #[.int .i64 n] w fun e w'=>e=.returned (.string (bJ (digits n)))∧F0 w w':=by
 by_cases h:n<10
 · exact qJ n h w
 · have h1:¬ (n:Int)<10:=by omega
   have h2:0≤(n:Int) % 10:=by omega
   have h3:(n:Int) % 10<10:=by omega
   rw[digits,dif_neg h];have Jz:=aAW (n % 10) (by omega);generalize (48+n % 10).toUInt8=b at Jz;have hb:Hid ((48:Int)+(n:Int) % 10=b.toNat):=Lib.hid (by rw[Jz];omega);have QP:∀ W,Calls Tryz.prog 25 #[.int .i64 ((n:Int) / 10)] W fun e w'=>e=.returned (.string (bJ (digits (n / 10))))∧F0 W w':=fun W=>qJ (n / 10) (by omega) W
   clear Jz;have FI:(bJ (digits (n / 10))).size=1:=by rw[gW,aCT _ (by omega)]
   rw[← fK];generalize bJ (digits (n / 10))=s1 at QP FI;have Cj:∀ W:World,(convert 22 9 (.slice (some ⟨W.heap.size,0,none⟩) 1 1)).run Tryz.prog (W.alloc (.cells #[.int .u8 (48+(n:Int) % 10)] 5))=.ok (.string (bJ [b])) (W.alloc (.cells #[.int .u8 (48+(n:Int) % 10)] 5)):=fun W=>qI W _ b hb.out
   have IV:∀ W w2:World,F0 (W.alloc (.cells #[.int .u8 (48+(n:Int) % 10)] 5)) w2→(convert 22 9 (.slice (some ⟨W.heap.size,0,none⟩) 1 1)).run Tryz.prog w2=.ok (.string (bJ [b])) w2:=fun W w2 hf=>aCR hf b hb.out
   have U7:(bJ [b]).size=1:=gW [b];generalize bJ [b]=s2 at Cj IV U7;have U6:¬ (9223372036854775807<s1.size+s2.size):=by omega
   clear FI U7;have hA:=IV w _ ((Fr.refl (fun _=>False) (w.alloc (.cells #[.int .u8 (48+(n:Int) % 10)] 5))).drew);have Wi:=Lib.hid Cj;have Wj:=Lib.hid IV;have q1:IntKind.i64.wrap ((n:Int) / 10)=(n:Int) / 10:=by rw[IntKind.wrap_i64];omega
   have q2:(n:Int).tmod 10=(n:Int) % 10:=Int.tmod_eq_emod_of_nonneg (by omega);have q3:IntKind.i64.wrap (48+(n:Int) % 10)=48+(n:Int) % 10:=by rw[IntKind.wrap_i64];omega
   have q4:IntKind.u8.wrap (48+(n:Int) % 10)=48+(n:Int) % 10:=by rw[IntKind.wrap_u8'];omega
   clear Cj IV hb;go_enter func25,ntmps25;go_wp2
   go_region_with (first
    | (go_at_call 25;refine (QP _).mono ?_;rintro e w2 ⟨rfl,hf⟩;have hB:=Wi.out w2;(try have hD:=Wj.out _ _ hf.aH)))
   all_goals
    go_wp2;go_ret
    refine ⟨rfl,?_⟩
    first
     | exact ((Fr.refl _ w).drew.trans hf (fun _ _ h=>h)).alloc _
     | exact (((Fr.refl _ w).alloc _).drew.trans hf (fun _ _ h=>h))
end Go.Proofs.YtcidlnjpabgioaaGreatDoor
