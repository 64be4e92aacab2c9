import Derived.Test.YtcidlnjpabgioaaGreatDoorWGCell
import Derived.Lib.LaidU8
import Derived.ProofKit
import Derived.OpenShut
import Derived.LaidMore
import Derived.Lay
import Derived.WideKeyArgs
import Derived.Deep.Strs
import Derived.ChangeVars
import Derived.Stop.Joined
import Derived.Test.YtcidlnjpabgioaaGreatDoorRows
import Derived.Lib.LaidIn
import Derived.Test.YtcidlnjpabgioaaGreatDoorWGLowA
set_option maxRecDepth 100000
namespace Go.Proofs.YtcidlnjpabgioaaGreatDoor
open Go.ChangeShapes Go.WideShapes Go.ChangeAt Go.RowKit
theorem aHe : ownKnob Tryz.prog.godebug = none := by kernel_rfl
theorem aCQ : Tryz.prog.globalNamed "strings.asciiSpace" = some 1 := by kernel_rfl
theorem aIY : (Tryz.prog.globals[1]?).map (·.type) = some 182 := by kernel_rfl
theorem aFQ : Tryz.prog.cellsOf 182 = 256 := by kernel_rfl
theorem uY : Tryz.prog.cellsOf 5 = 1 := by kernel_rfl
theorem oZ : Tryz.prog.cellsOf 9 = 1 := by kernel_rfl
theorem kF : Tryz.prog.globalNamed "given.example/pub-bradawl/impl.kindNames" = some 0 := by kernel_rfl
theorem sG : (Tryz.prog.globals[0]?).map (·.type) = some 69 := by kernel_rfl
theorem aKE {W : World} (h : Lib.VarReads Tryz.prog W "strings.asciiSpace" (Lib.tabData .u8 Lib.asciiSpaceTab)) : Lib.TabIs Tryz.prog W "strings.asciiSpace" .u8 Lib.asciiSpaceTab := by
 obtain ⟨g, t, cs, fuel, p, hg, ht, hv, hd⟩ := h
 obtain rfl := Option.some.inj (aCQ.symm.trans hg)
 obtain rfl := Option.some.inj (aIY.symm.trans ht)
 unfold Lib.TabIs
 rw [hv, ← Lib.cells_of_tab Tryz.underlying182 Tryz.underlying5 uY aFQ hd]
def qA {H : Type} : DataW H := .slice (kinds.map fun l => .lit (.string l)) []
theorem aHg {W : World} (h : Lib.VarReads Tryz.prog W "given.example/pub-bradawl/impl.kindNames" qA) : eG W := by
 obtain ⟨g, t, cs, fuel, p, hg, ht, hv, hd⟩ := h
 obtain rfl := Option.some.inj (kF.symm.trans hg)
 obtain rfl := Option.some.inj (sG.symm.trans ht)
 rcases Deep.open_strs Tryz.underlying69 Tryz.underlying9 oZ hd with ⟨_, hx⟩ | ⟨a, len, cap, m, Sx, hcs, _, hl, hm, hmm, hx, hcell⟩
 · simp [qA] at hx
 · simp only [qA, Prod.mk.injEq, DataW.slice.injEq] at hx
   obtain ⟨⟨hx1, hx2⟩, -⟩ := hx
   have hlen : len = 20 := by
    have := congrArg List.length hx1
    simp [kinds] at this
    omega
   subst hlen
   simp only [if_true] at hmm
   have hc : W.cell? ⟨0, 0, none⟩ = some (.slice (some a) 20 cap) := by
    have := World.var?_cell kF hv 0
    have e : cs[0]? = some (.slice (some a) 20 cap) := by rw [← Array.getElem?_toList, hcs]; rfl
    rw [e] at this
    exact this
   obtain ⟨b, o, spot⟩ := a
   have hspot : spot = none := by simpa [Addr.add] using World.cell?_spot (hcell 0 (by omega)).1
   subst hspot
   refine ⟨b, o, cap, hc, fun i hi => ?_⟩
   have h1 := (hcell i (by omega)).1
   rw [Addr.add_lit] at h1
   rw [h1]
   have h2 := congrArg (·[i]?) hx1
   simp only [List.getElem?_map, List.getElem?_range hi, Option.map_some] at h2
   have h3 : i < kinds.length := hi
   rw [List.getElem?_eq_getElem h3] at h2
   simp only [Option.map_some, Option.some.injEq, DataW.lit.injEq, Lit.string.injEq] at h2
   have h4 : kinds.getD i [] = kinds[i] := by rw [List.getD_eq_getElem?_getD, List.getElem?_eq_getElem h3]; rfl
   rw [h4, h2]
   rfl
theorem aKc {H : Type} {enc : TypeId × Value → H} {W : World} {base : Nat} {v : Value} {d : DataW H} {p : List MemPlace} (hval : Value.okWide Tryz.prog W .any base 22 v) (h : DataW.Trod enc Tryz.prog W 0 (fun _ => true) true 22 v d p) :
 ∃ n, aAU W.heap.size W v n := by
 obtain ⟨a1, len, cap, rfl⟩ := okWide_slice Tryz.underlying22 hval
 obtain ⟨fuel, hf⟩ := h
 rcases open_ints Tryz.underlying22 Tryz.underlying5 uY hf with ⟨hcs, hx⟩ | ⟨a, len', cap', zs, hcs, _, hl, hm, hz, hx, hcell, hwz⟩
 · simp [Value.cells] at hcs
   obtain ⟨rfl, rfl, rfl⟩ := hcs
   exact ⟨0, none, 0, rfl, Nat.le_refl _, Nat.zero_le _, fun _ => rfl, fun ad had => by cases had⟩
 · simp [Value.cells] at hcs
   obtain ⟨rfl, rfl, rfl⟩ := hcs
   simp only [if_true] at hz
   have hv : len ≤ cap ∧ (cap : Int) ≤ IntKind.i64.max ∧ W.has Tryz.prog .any base a 5 cap := by simpa [Value.okWide, Tryz.underlying22, Cell.okWide, Cell.ok] using hval
   obtain ⟨_, _, _, hspot, row, cells, hsh, _⟩ := hv
   have hlt : a.block < W.heap.size := by
    rcases Nat.lt_or_ge a.block W.heap.size with h | h
    · exact h
    · simp [World.shape?, Array.getElem?_eq_none h] at hsh
   refine ⟨len, some a, cap, rfl, hl, hm, nofun, fun ad had => ?_⟩
   cases had
   refine ⟨hlt, hspot, fun j hj => ?_⟩
   have h1 := hcell j (by omega)
   have hw0 := hwz (zs.getD j 0) (by rw [List.getD_eq_getElem?_getD, List.getElem?_eq_getElem (show j < zs.length by omega)]; exact List.getElem_mem _)
   generalize zs.getD j 0 = z at h1 hw0 ⊢
   have hw := hw0
   have hb : 0 ≤ z ∧ z < 256 := by
    simp only [Lit.wf, Bool.and_eq_true, decide_eq_true_eq] at hw
    simp [IntKind.min, IntKind.max, IntKind.signed, IntKind.bits] at hw
    omega
   refine ⟨z.toNat.toUInt8, ?_⟩
   rw [h1]
   have : ((z.toNat.toUInt8).toNat : Int) = z := by simp [Nat.toUInt8, UInt8.toNat_ofNat']; omega
   rw [this]
end Go.Proofs.YtcidlnjpabgioaaGreatDoor
namespace Go.Proofs.YtcidlnjpabgioaaGreatDoor
open Go
def listed : List (String × DataW Unit) := Rows.fnLONullsRow.laid
theorem qG : (listed.all fun x => x.2.handleName?.isNone) = true := by kernel_rfl
def great : List String := ["math/bits.deBruijn32tab", "math/bits.deBruijn64tab", "internal/strconv.uint64pow10", "unicode/utf8.acceptRanges", "unicode.White_Space", "strings.asciiSpace", "given.example/pub-bradawl/impl.kindNames", "unicode/utf8.first"]
def aDM : List (String × DataW Unit) := listed.filter fun x => great.contains x.1
def smalls : List (String × DataW Unit) := listed.filter fun x => !great.contains x.1
def aEb : ByteArray := aV [105, 110, 118, 97, 108, 105, 100, 32, 115, 121, 110, 116, 97, 120]
def rangeText : ByteArray := aV [118, 97, 108, 117, 101, 32, 111, 117, 116, 32, 111, 102, 32, 114, 97, 110, 103, 101]
noncomputable def qQ (os : Os) : World := { World.holding Tryz.prog os ⟨#[], #[], []⟩ with heap := (((World.holding Tryz.prog os ⟨#[], #[], []⟩).heap.setIfInBounds 4 (.cells #[.iface 417 (.pointer (some ⟨19, 0, none⟩))] 105)).setIfInBounds 5 (.cells #[.iface 417 (.pointer (some ⟨20, 0, none⟩))] 105)) ++ #[.cells #[.string aEb] 419, .cells #[.string rangeText] 419] }
noncomputable def laidWorld (os : Os) : World := (qQ os).layVars Tryz.prog aDM
theorem aBo (os : Os) : (laidWorld os).os = os := (World.layVars_os _ _ _).trans rfl
theorem aHD (os : Os) : (qQ os).layFits Tryz.prog aDM [4, 5, 19, 20] = true := by kernel_rfl
theorem aDL (os : Os) : (qQ os).layIfaces Tryz.prog aDM (laidWorld os) = true := by kernel_rfl
theorem aHo (os : Os) : (DataW.laidRun Tryz.prog (laidWorld os) 8 (smalls.map (·.1))).map (·.1) = some smalls := by kernel_rfl
theorem aIE (os : Os) : (DataW.laidRun Tryz.prog (laidWorld os) 8 (smalls.map (·.1))).map (fun x => nodupB (x.2.map MemPlace.codeOf)) = some true := by kernel_rfl
theorem aJu (os : Os) : (DataW.laidRun Tryz.prog (laidWorld os) 8 (smalls.map (·.1))).map (fun x => laidRowsB Tryz.prog (laidWorld os) x.2) = some true := by kernel_rfl
theorem aDT (os : Os) : (DataW.laidRun Tryz.prog (laidWorld os) 8 (smalls.map (·.1))).map (fun x => x.2.all fun p => ([4, 5, 19, 20] : List Nat).contains p.block) = some true := by kernel_rfl
theorem aCM (os : Os) : (laidWorld os).Shaped Tryz.prog := World.shaped_of_ZipB (by kernel_rfl) (by kernel_rfl)
theorem laid_met (os : Os) (args : Array Value) : laidMetH Tryz.prog listed ((laidWorld os).forCall (fun _ _ => 0) ⟨#[], args, []⟩).memory := by
 rw [MakeChecks.laidMetH_plain _ _ _ qG]
 have h : laidMet Tryz.prog listed (laidWorld os) := laidMet_layVars (w0 := qQ os) great [4, 5, 19, 20] rfl (aHD os) (aDL os) (LaidIn.of_run _ 8 (aHo os) (aIE os) (aJu os) (aDT os))
 exact h.of_heap (by simp [World.memory, World.forCall, Input.heap])
end Go.Proofs.YtcidlnjpabgioaaGreatDoor
namespace Go.Proofs.YtcidlnjpabgioaaGreatDoor
open Go.ChangeShapes Go.WideShapes Go.ChangeAt Go.RowKit
theorem aHk : (Rows.laid_strings_asciiSpace : DataW Unit) = Lib.tabData .u8 Lib.asciiSpaceTab := by kernel_rfl
theorem aFJ : (Rows.laid_given_example_pub_bradawl_impl_kindNames : DataW Unit) = qA := by kernel_rfl
theorem aJK {W : World} (h : laidMetH Tryz.prog listed W) : Tabs W := by
 rw [MakeChecks.laidMetH_plain _ _ _ qG] at h
 refine ⟨aKE ?_, aHg ?_⟩
 · rw [← aHk]
   exact Lib.laidMet.reads h (by simp [listed, Rows.fnLONullsRow])
 · rw [← aFJ]
   exact Lib.laidMet.reads h (by simp [listed, Rows.fnLONullsRow])
theorem aEN : Tryz.prog.readableRec 22 = true := by kernel_rfl
theorem aEK : Tryz.prog.readableRec 69 = true := by kernel_rfl
theorem aIf : 22 < Tryz.prog.types.size := of_decide_eq_true (by kernel_rfl)
theorem aGZ : 69 < Tryz.prog.types.size := of_decide_eq_true (by kernel_rfl)
theorem aDZ {H : Type} {enc : TypeId × Value → H} {W W' : World} {gs : List (DataW H)} {q : List MemPlace} (hV : DataW.TrodVars enc Tryz.prog W (fun _ => true) ["given.example/pub-bradawl/impl.kindNames"] gs q) (hlt : ∀ x ∈ q, x.block < W.heap.size) (hb : Below W.heap.size W W') :
 DataW.TrodVars enc Tryz.prog W' (fun b => decide (b < W.heap.size)) ["given.example/pub-bradawl/impl.kindNames"] gs q := by
 obtain ⟨g, t, cs, fuel, d, p, rfl, hg, ht, hv, hd, rfl⟩ := trodVars_one hV
 obtain rfl := Option.some.inj (kF.symm.trans hg)
 obtain rfl := Option.some.inj (sG.symm.trans ht)
 obtain ⟨v, hcs⟩ : ∃ v, cs.toList = (Value.cells v).toList := by
  rcases Deep.open_strs Tryz.underlying69 Tryz.underlying9 oZ hd with ⟨h, _⟩ | ⟨a, len, cap, m, Sx, h, _⟩
  · exact ⟨.slice none 0 0, by rw [h]; rfl⟩
  · exact ⟨.slice (some a) len cap, by rw [h]; rfl⟩
 have hT : DataW.Trod enc Tryz.prog W 0 (fun _ => true) true 69 v d p := ⟨fuel, by rw [← hcs]; exact hd⟩
 obtain ⟨n, hn⟩ := WideElems.Trod_stays (sp' := fun b => decide (b < W.heap.size)) oM aEK aGZ hT (fun x hx => hb.same (hlt x (List.mem_append_right _ hx))) (fun x hx => by simpa using hlt x (List.mem_append_right _ hx))
 refine trodVars_mk1 (fuel := n) kF sG (xO hb hv) ?_
 rw [hcs]
 exact hn
end Go.Proofs.YtcidlnjpabgioaaGreatDoor
