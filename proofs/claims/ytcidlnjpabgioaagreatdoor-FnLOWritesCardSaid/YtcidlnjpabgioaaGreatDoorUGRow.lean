import Derived.Test.YtcidlnjpabgioaaGreatDoorUGCell
import Derived.Lib.LaidU8
import Derived.OpenShut
import Derived.LaidMore
import Derived.Lay
import Derived.Deep.Strs
import Derived.Stop.Joined
import Derived.Test.YtcidlnjpabgioaaGreatDoorRows
import Derived.Test.YtcidlnjpabgioaaGreatDoorUGLowA
set_option maxRecDepth 100000
namespace Go.Proofs.YtcidlnjpabgioaaGreatDoor
open _root_.Go.Proofs.Tryz List Go.ChangeShapes Go.WideShapes Go.ChangeAt Go.RowKit
theorem aLX:ownKnob Tryz.prog.godebug=none:=by kernel_rfl
theorem aEC:Tryz.prog.globalNamed "strings.asciiSpace" = some 1:=by kernel_rfl
theorem aKe:(Tryz.prog.globals[1]?).map (·.type)=some 182:=by kernel_rfl
theorem aHM:Tryz.prog.cellsOf 182=256:=by kernel_rfl
theorem xJ:Tryz.prog.cellsOf 5=1:=by kernel_rfl
theorem rZ:Tryz.prog.cellsOf 9=1:=by kernel_rfl
theorem kZ:Tryz.prog.globalNamed "given.example/pub-bradawl/impl.kindNames" = some 0:=by kernel_rfl
theorem uK:(Tryz.prog.globals[0]?).map (·.type)=some 69:=by kernel_rfl
theorem aOG {W:World} (h:Lib.VarReads Tryz.prog W "strings.asciiSpace" (Lib.tabData .u8 Lib.asciiSpaceTab)):Lib.TabIs Tryz.prog W "strings.asciiSpace" .u8 Lib.asciiSpaceTab:=by
 obtain ⟨g,t,cs,fuel,p,hg,ht,hv,hd⟩:=h;obtain rfl:=Option.some.inj (aEC.symm.trans hg);obtain rfl:=Option.some.inj (aKe.symm.trans ht);unfold Lib.TabIs;rw[hv,← Lib.cells_of_tab underlying182 underlying5 xJ aHM hd]
def rD {H:Type}:DataW H:=.slice (kinds.map fun l=>.lit (.string l)) []
theorem aLE {W:World} (h:Lib.VarReads Tryz.prog W "given.example/pub-bradawl/impl.kindNames" rD):fB W:=by
 obtain ⟨g,t,cs,fuel,p,hg,ht,hv,hd⟩:=h;obtain rfl:=Option.some.inj (kZ.symm.trans hg);obtain rfl:=Option.some.inj (uK.symm.trans ht);rcases Deep.open_strs underlying69 underlying9 rZ hd with ⟨_,hx⟩|⟨a,len,cap,m,Sx,A8,_,hl,hm,Xp,hx,Ac⟩
 · simp[rD] at hx
 · simp only[rD,Prod.mk.injEq,DataW.slice.injEq] at hx
   obtain ⟨⟨F6,Ky⟩,-⟩:=hx
   have AA:len=20:=by
    have:=congrArg List.length F6;simp[kinds] at this;omega
   subst AA;simp only[if_true] at Xp
   have hc:W.cell? ⟨0,0,none⟩=some (.slice (some a) 20 cap):=by
    have:=World.var?_cell kZ hv 0
    have e:cs[0]?=some (.slice (some a) 20 cap):=by rw[← Array.getElem?_toList,A8];rfl
    rw[e] at this
    exact this
   obtain ⟨b,o,spot⟩:=a;have Nk:spot=none:=by simpa [Addr.add] using World.cell?_spot (Ac 0 (by omega)).1
   subst Nk
   refine ⟨b,o,cap,hc,fun i hi=>?_⟩;have h1:=(Ac i (by omega)).1;rw[Addr.add_lit] at h1;rw[h1];have h2:=congrArg (·[i]?) F6;simp only[getElem?_map,getElem?_range hi,Option.map_some] at h2;have h3:i<kinds.length:=hi;rw[getElem?_eq_getElem h3] at h2;simp only[Option.map_some,Option.some.injEq,DataW.lit.injEq,Lit.string.injEq] at h2;have h4:kinds.getD i []=kinds[i]:=by rw[getD_eq_getElem?_getD,getElem?_eq_getElem h3];rfl
   rw[h4,h2]
   rfl
theorem aNB {H:Type} {enc:TypeId × Value→H} {W:World} {base:Nat} {v:Value} {d:DataW H} {p:List MemPlace} (G9:Value.okWide Tryz.prog W .any base 22 v) (h:DataW.Trod enc Tryz.prog W 0 (fun _=>true) true 22 v d p) :
 ∃ n,xE W.heap.size W v n:=by
 obtain ⟨a1,len,cap,rfl⟩:=okWide_slice underlying22 G9;obtain ⟨fuel,hf⟩:=h;rcases open_ints underlying22 underlying5 xJ hf with ⟨A8,hx⟩|⟨a,len',cap',zs,A8,_,hl,hm,hz,hx,Ac,mg⟩
 · simp[Value.cells] at A8
   obtain ⟨rfl,rfl,rfl⟩:=A8
   exact ⟨0,none,0,rfl,Nat.le_refl _,Nat.zero_le _,fun _=>rfl,fun ad D9=>by cases D9⟩
 · simp[Value.cells] at A8
   obtain ⟨rfl,rfl,rfl⟩:=A8;simp only[if_true] at hz;have hv:len≤cap∧(cap:Int)≤IntKind.i64.max∧W.has Tryz.prog .any base a 5 cap:=by simpa [Value.okWide,underlying22,Cell.okWide,Cell.ok] using G9
   obtain ⟨_,_,_,Nk,row,cells,V7,_⟩:=hv
   have Ar:a.block<W.heap.size:=by
    rcases Nat.lt_or_ge a.block W.heap.size with h|h
    · exact h
    · simp[World.shape?,Array.getElem?_eq_none h] at V7
   refine ⟨len,some a,cap,rfl,hl,hm,nofun,fun ad D9=>?_⟩
   cases D9
   refine ⟨Ar,Nk,fun j hj=>?_⟩;have h1:=Ac j (by omega);have VD:=mg (zs.getD j 0) (by rw[getD_eq_getElem?_getD,getElem?_eq_getElem (show j<zs.length by omega)];exact getElem_mem _);generalize zs.getD j 0=z at h1 VD ⊢;have hw:=VD
   have hb:0≤z∧z<256:=by
    simp only[Lit.wf,Bool.and_eq_true,decide_eq_true_eq] at hw;simp[IntKind.min,IntKind.max,IntKind.signed,IntKind.bits] at hw;omega
   refine ⟨z.toNat.toUInt8,?_⟩;rw[h1];have:((z.toNat.toUInt8).toNat:Int)=z:=by simp[Nat.toUInt8,UInt8.toNat_ofNat'];omega
   rw[this]
end Go.Proofs.YtcidlnjpabgioaaGreatDoor
namespace Go.Proofs.YtcidlnjpabgioaaGreatDoor
open _root_.Go.Proofs.Tryz List Go
def listed:List (String × DataW Unit):=Rows.fnLONullsRow.laid
theorem rF:(listed.all fun x=>x.2.handleName?.isNone)=true:=by kernel_rfl
def great:List String:=["math/bits.deBruijn32tab", "math/bits.deBruijn64tab", "internal/strconv.uint64pow10", "unicode/utf8.acceptRanges", "unicode.White_Space", "strings.asciiSpace", "given.example/pub-bradawl/impl.kindNames", "unicode/utf8.first"]
def aEQ:List (String × DataW Unit):=listed.filter fun x=>great.contains x.1
def smalls:List (String × DataW Unit):=listed.filter fun x=>!great.contains x.1
def aGr:ByteArray:=bJ [105,110,118,97,108,105,100,32,115,121,110,116,97,120]
def rangeText:ByteArray:=bJ [118,97,108,117,101,32,111,117,116,32,111,102,32,114,97,110,103,101]
noncomputable def qM (os:Os):World:={ World.holding Tryz.prog os ⟨#[],#[],[]⟩ with heap:=(((World.holding Tryz.prog os ⟨#[],#[],[]⟩).heap.setIfInBounds 4 (.cells #[.iface 417 (.pointer (some ⟨19,0,none⟩))] 105)).setIfInBounds 5 (.cells #[.iface 417 (.pointer (some ⟨20,0,none⟩))] 105))++#[.cells #[.string aGr] 419,.cells #[.string rangeText] 419]}
noncomputable def laidWorld (os:Os):World:=(qM os).layVars Tryz.prog aEQ
theorem aCa (os:Os):(laidWorld os).os=os:=(World.layVars_os _ _ _).trans rfl
theorem aNq (os:Os):(qM os).layFits Tryz.prog aEQ [4,5,19,20]=true:=by kernel_rfl
theorem aGX (os:Os):(qM os).layIfaces Tryz.prog aEQ (laidWorld os)=true:=by kernel_rfl
theorem aNs (os:Os):(DataW.laidRun Tryz.prog (laidWorld os) 8 (smalls.map (·.1))).map (·.1)=some smalls:=by kernel_rfl
theorem aNr (os:Os):(DataW.laidRun Tryz.prog (laidWorld os) 8 (smalls.map (·.1))).map (fun x=>nodupB (x.2.map MemPlace.codeOf))=some true:=by kernel_rfl
theorem aNt (os:Os):(DataW.laidRun Tryz.prog (laidWorld os) 8 (smalls.map (·.1))).map (fun x=>laidRowsB Tryz.prog (laidWorld os) x.2)=some true:=by kernel_rfl
theorem aGW (os:Os):(DataW.laidRun Tryz.prog (laidWorld os) 8 (smalls.map (·.1))).map (fun x=>x.2.all fun p=>([4,5,19,20]:List Nat).contains p.block)=some true:=by kernel_rfl
theorem aDt (os:Os):(laidWorld os).Shaped Tryz.prog:=World.shaped_of_ZipB (by kernel_rfl) (by kernel_rfl)
theorem laid_met (os:Os) (args:Array Value):laidMetH Tryz.prog listed ((laidWorld os).forCall (fun _ _=>0) ⟨#[],args,[]⟩).memory:=by
 rw[MakeChecks.laidMetH_plain _ _ _ rF];have h:laidMet Tryz.prog listed (laidWorld os):=laidMet_layVars (w0:=qM os) great [4,5,19,20] rfl (aNq os) (aGX os) (LaidIn.of_run _ 8 (aNs os) (aNr os) (aNt os) (aGW os))
 exact h.of_heap (by simp[World.memory,World.forCall,Input.heap])
end Go.Proofs.YtcidlnjpabgioaaGreatDoor
namespace Go.Proofs.YtcidlnjpabgioaaGreatDoor
open _root_.Go.Proofs.Tryz List Go.ChangeShapes Go.WideShapes Go.ChangeAt Go.RowKit
theorem aKd:(Rows.laid_strings_asciiSpace:DataW Unit)=Lib.tabData .u8 Lib.asciiSpaceTab:=by kernel_rfl
theorem aIJ:(Rows.laid_given_example_pub_bradawl_impl_kindNames:DataW Unit)=rD:=by kernel_rfl
theorem aOj {W:World} (h:laidMetH Tryz.prog listed W):Tabs W:=by
 rw[MakeChecks.laidMetH_plain _ _ _ rF] at h
 refine ⟨aOG ?_,aLE ?_⟩
 · rw[← aKd]
   exact Lib.laidMet.reads h (by simp[listed,Rows.fnLONullsRow])
 · rw[← aIJ]
   exact Lib.laidMet.reads h (by simp[listed,Rows.fnLONullsRow])
theorem aEI:Tryz.prog.readableRec 22=true:=by kernel_rfl
theorem aFz:Tryz.prog.readableRec 69=true:=by kernel_rfl
theorem aKn:22<Tryz.prog.types.size:=of_decide_eq_true (by kernel_rfl)
theorem aLD:69<Tryz.prog.types.size:=of_decide_eq_true (by kernel_rfl)
theorem aFA {H:Type} {enc:TypeId × Value→H} {W W':World} {gs:List (DataW H)} {q:List MemPlace} (hV:DataW.TrodVars enc Tryz.prog W (fun _=>true) ["given.example/pub-bradawl/impl.kindNames"] gs q) (Ar:∀ x∈q,x.block<W.heap.size) (hb:Below W.heap.size W W') :
 DataW.TrodVars enc Tryz.prog W' (fun b=>decide (b<W.heap.size)) ["given.example/pub-bradawl/impl.kindNames"] gs q:=by
 obtain ⟨g,t,cs,fuel,d,p,rfl,hg,ht,hv,hd,rfl⟩:=trodVars_one hV;obtain rfl:=Option.some.inj (kZ.symm.trans hg);obtain rfl:=Option.some.inj (uK.symm.trans ht)
 obtain ⟨v,A8⟩:∃ v,cs.toList=(Value.cells v).toList:=by
  rcases Deep.open_strs underlying69 underlying9 rZ hd with ⟨h,_⟩|⟨a,len,cap,m,Sx,h,_⟩
  · exact ⟨.slice none 0 0,by rw[h];rfl⟩
  · exact ⟨.slice (some a) len cap,by rw[h];rfl⟩
 have hT:DataW.Trod enc Tryz.prog W 0 (fun _=>true) true 69 v d p:=⟨fuel,by rw[← A8];exact hd⟩;obtain ⟨n,hn⟩:=WideElems.Trod_stays (sp':=fun b=>decide (b<W.heap.size)) rE aFz aLD hT (fun x hx=>hb.same (Ar x (mem_append_right _ hx))) (fun x hx=>by simpa using Ar x (mem_append_right _ hx))
 refine trodVars_mk1 (fuel:=n) kZ uK (aAc hb hv) ?_
 rw[A8]
 exact hn
end Go.Proofs.YtcidlnjpabgioaaGreatDoor
