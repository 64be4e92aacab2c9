/- FnLONulls: the row: whatever the code and the number, the answer is true. -/
import Derived.Test.YtcidlnjpabgioaaGreatDoorLawNM
import Derived.Test.YtcidlnjpabgioaaGreatDoorGTree
import Derived.Test.YtcidlnjpabgioaaGreatDoorGCell
import Derived.Test.YtcidlnjpabgioaaGreatDoorCellNM
import Derived.Test.YtcidlnjpabgioaaGreatDoorGLaw
import Derived.Test.YtcidlnjpabgioaaGreatDoorRows
import Derived.Lib.LaidIn
import Derived.Test.YtcidlnjpabgioaaGreatDoorJoinA
namespace Go.Proofs.YtcidlnjpabgioaaGreatDoor
open Go.RowKit

theorem leaf_all (T : Ty) (hT : T.leafy) : TextOk T ∧ TreeOk T ∧ LeafCellOk T := by
  refine ⟨text_leafy T hT, ?_, ?_⟩
  · cases T with
    | num k => exact tree_num k fun w hk nm hl => plain_nums k w hk nm hl
    | str => exact tree_str
    | fix n => exact tree_fix n hT
    | _ => exact hT.elim
  · cases T with
    | num k => exact cell_num k
    | str => exact cell_str
    | fix n => exact cell_fix n (by have : n = 5 ∨ n = 16 := hT; omega)
    | _ => exact hT.elim

theorem nulls_any (w : World) (htab : Tabs w) (cv : Value) (cn : Nat) (hcode : CodeArg w.heap.size w cv cn) (m : Nat) (hm : m < 256) :
    Calls Tryz.prog 5 #[cv, .int .u8 m] w fun e w' => e = .returned (.bool true) ∧ Fr (fun _ => False) w w' := nulls_walk leaf_all w htab cv cn hcode m hm
end Go.Proofs.YtcidlnjpabgioaaGreatDoor
namespace Go.Proofs.YtcidlnjpabgioaaGreatDoor
open Go
set_option maxRecDepth 100000

/-- What each row lists. -/
def listed : List (String × DataW Unit) := Rows.fnLONullsRow.laid
theorem listed_plain : (listed.all fun x => x.2.handleName?.isNone) = true := by kernel_rfl
/-- What is laid by the function; the two errors are laid by hand. -/
def great : List String := ["math/bits.deBruijn32tab", "math/bits.deBruijn64tab", "internal/strconv.uint64pow10", "unicode/utf8.acceptRanges", "unicode.White_Space", "strings.asciiSpace", "given.example/pub-bradawl/impl.kindNames", "unicode/utf8.first"]
def greats : List (String × DataW Unit) := listed.filter fun x => great.contains x.1
def smalls : List (String × DataW Unit) := listed.filter fun x => !great.contains x.1

/-- The two errors' text. -/
def syntaxText : ByteArray := bstr [105, 110, 118, 97, 108, 105, 100, 32, 115, 121, 110, 116, 97, 120]
def rangeText : ByteArray := bstr [118, 97, 108, 117, 101, 32, 111, 117, 116, 32, 111, 102, 32, 114, 97, 110, 103, 101]
noncomputable def errWorld (os : Os) : World := { World.holding Tryz.prog os ⟨#[], #[], []⟩ with heap := (((World.holding Tryz.prog os ⟨#[], #[], []⟩).heap.setIfInBounds 4 (.cells #[.iface 417 (.pointer (some ⟨19, 0, none⟩))] 105)).setIfInBounds 5 (.cells #[.iface 417 (.pointer (some ⟨20, 0, none⟩))] 105)) ++ #[.cells #[.string syntaxText] 419, .cells #[.string rangeText] 419] }
noncomputable def laidWorld (os : Os) : World := (errWorld os).layVars Tryz.prog greats
theorem laidWorld_os (os : Os) : (laidWorld os).os = os := (World.layVars_os _ _ _).trans rfl

theorem wit_fits (os : Os) : (errWorld os).layFits Tryz.prog greats [4, 5, 19, 20] = true := by kernel_rfl
theorem wit_ifaces (os : Os) : (errWorld os).layIfaces Tryz.prog greats (laidWorld os) = true := by kernel_rfl
theorem wit_read (os : Os) : (DataW.laidRun Tryz.prog (laidWorld os) 8 (smalls.map (·.1))).map (·.1) = some smalls := by kernel_rfl
theorem wit_once (os : Os) : (DataW.laidRun Tryz.prog (laidWorld os) 8 (smalls.map (·.1))).map (fun x => nodupB (x.2.map MemPlace.codeOf)) = some true := by kernel_rfl
theorem wit_rows (os : Os) : (DataW.laidRun Tryz.prog (laidWorld os) 8 (smalls.map (·.1))).map (fun x => laidRowsB Tryz.prog (laidWorld os) x.2) = some true := by kernel_rfl
theorem wit_blocks (os : Os) : (DataW.laidRun Tryz.prog (laidWorld os) 8 (smalls.map (·.1))).map (fun x => x.2.all fun p => ([4, 5, 19, 20] : List Nat).contains p.block) = some true := by kernel_rfl
theorem laid_shaped (os : Os) : (laidWorld os).Shaped Tryz.prog := World.shaped_of_ZipB (by kernel_rfl) (by kernel_rfl)
theorem laid_met (os : Os) (args : Array Value) : laidMetH Tryz.prog listed ((laidWorld os).forCall (fun _ _ => 0) ⟨#[], args, []⟩).memory := by
  rw [MakeChecks.laidMetH_plain _ _ _ listed_plain]
  have h : laidMet Tryz.prog listed (laidWorld os) := laidMet_layVars (w0 := errWorld os) great [4, 5, 19, 20] rfl (wit_fits os) (wit_ifaces os) (LaidIn.of_run _ 8 (wit_read os) (wit_once os) (wit_rows os) (wit_blocks os))
  exact h.of_heap (by simp [World.memory, World.forCall, Input.heap])
end Go.Proofs.YtcidlnjpabgioaaGreatDoor
namespace Go.Proofs.YtcidlnjpabgioaaGreatDoor
open Go.ChangeShapes Go.WideShapes Go.ChangeAt Go.RowKit

theorem asc_data : (Rows.laid_strings_asciiSpace : DataW Unit) = Lib.tabData .u8 Lib.asciiSpaceTab := by kernel_rfl
theorem kind_data : (Rows.laid_given_example_pub_bradawl_impl_kindNames : DataW Unit) = kindData := by kernel_rfl
theorem tabs_of {W : World} (h : laidMetH Tryz.prog listed W) : Tabs W := by
  rw [MakeChecks.laidMetH_plain _ _ _ listed_plain] at h
  refine ⟨asc_of ?_, kinds_of ?_⟩
  · rw [← asc_data]
    exact Lib.laidMet.reads h (by simp [listed, Rows.fnLONullsRow])
  · rw [← kind_data]
    exact Lib.laidMet.reads h (by simp [listed, Rows.fnLONullsRow])

theorem code_reads : Tryz.prog.readableRec 22 = true := by kernel_rfl
theorem kind_reads : Tryz.prog.readableRec 69 = true := by kernel_rfl
theorem code_row : 22 < Tryz.prog.types.size := of_decide_eq_true (by kernel_rfl)
theorem kind_row : 69 < Tryz.prog.types.size := of_decide_eq_true (by kernel_rfl)
/-- The listed variable that is named reads as it did. -/
theorem kind_stays {H : Type} {enc : TypeId × Value → H} {W W' : World} {gs : List (DataW H)} {q : List MemPlace} (hV : DataW.TrodVars enc Tryz.prog W (fun _ => true) ["given.example/pub-bradawl/impl.kindNames"] gs q) (hlt : ∀ x ∈ q, x.block < W.heap.size) (hb : Below W.heap.size W W') :
    DataW.TrodVars enc Tryz.prog W' (fun b => decide (b < W.heap.size)) ["given.example/pub-bradawl/impl.kindNames"] gs q := by
  obtain ⟨g, t, cs, fuel, d, p, rfl, hg, ht, hv, hd, rfl⟩ := trodVars_one hV
  obtain rfl := Option.some.inj (kind_global.symm.trans hg)
  obtain rfl := Option.some.inj (kind_type.symm.trans ht)
  obtain ⟨v, hcs⟩ : ∃ v, cs.toList = (Value.cells v).toList := by
    rcases Deep.open_strs Tryz.underlying69 Tryz.underlying9 string_cells hd with ⟨h, _⟩ | ⟨a, len, cap, m, Sx, h, _⟩
    · exact ⟨.slice none 0 0, by rw [h]; rfl⟩
    · exact ⟨.slice (some a) len cap, by rw [h]; rfl⟩
  have hT : DataW.Trod enc Tryz.prog W 0 (fun _ => true) true 69 v d p := ⟨fuel, by rw [← hcs]; exact hd⟩
  obtain ⟨n, hn⟩ := WideElems.Trod_stays (sp' := fun b => decide (b < W.heap.size)) laid_out kind_reads kind_row hT (fun x hx => hb.same (hlt x (List.mem_append_right _ hx))) (fun x hx => by simpa using hlt x (List.mem_append_right _ hx))
  refine trodVars_mk1 (fuel := n) kind_global kind_type (var_kept hb hv) ?_
  rw [hcs]
  exact hn

set_option maxRecDepth 100000 in
theorem nulls_lifted (os : Os) (started : os.Started) (H : Type) (enc : TypeId × Value → H) :
    ReturnsInHanded {} Tryz.checked os 5 .any (fun w args => (Rows.fnLONullsSpec.pre enc Tryz.prog Tryz.f5 [] false w args ∧ laidMetH Tryz.prog listed w) ∧ sizedMet enc Tryz.prog Tryz.f5 (OpenSpec.ofChange Rows.fnLONullsSpec) false w args)
      (Rows.fnLONullsSpec.post enc Tryz.prog Tryz.f5 false true false false) := by
  refine returnsInHanded_of_change_and (C := Tryz.checked) (X := fun w _ => laidMetH Tryz.prog listed w) (fun _ _ _ hh h => h.of_heap hh) own_knob started (by kernel_rfl) Tryz.func5
    (ChangeSpec.witness_shaped (enc := enc) (C := Tryz.checked) (os := os) (X := fun w _ => laidMetH Tryz.prog listed w) false (laidWorld os) #[.slice none 0 0, .int .u8 0] 8 (laidWorld_os os)
      (laid_shaped os) (by kernel_rfl) (by kernel_rfl) (by kernel_rfl) (laid_met os _)) ?_
  intro W base args ds gs before hval0 hW _ _ hL _
  have hval : ∀ (j : Nat) t v, Tryz.f5.params[j]? = some t → args[j]? = some v → Value.okWide Tryz.prog W .any base t v := hval0
  have hW' := hW
  obtain ⟨p, q, hA0, hV0, rfl, _, _⟩ := hW
  have hA : DataW.TrodAll enc Tryz.prog W 0 (fun _ => true) true Tryz.f5.params.toList args.toList ds p := hA0
  have hV : DataW.TrodVars enc Tryz.prog W (fun _ => true) ["given.example/pub-bradawl/impl.kindNames"] gs q := hV0
  have hlt : ∀ x ∈ p ++ q, x.block < W.heap.size := fun x hx => hW'.lt x hx
  rw [Tryz.params5] at hA hval
  obtain ⟨v0, v1, d0, d1, p0, p1, rfl, rfl, rfl, h0, h1⟩ := trodAll_two hA
  obtain ⟨n, hcode⟩ := code_of (hval 0 _ v0 rfl rfl) h0
  obtain ⟨x, rfl, rfl, rfl, wx⟩ := open_int Tryz.underlying5 (hval 1 _ v1 rfl rfl) h1
  have hx : 0 ≤ x ∧ x < 256 := by
    have := wx
    simp only [Lit.wf, Bool.and_eq_true, decide_eq_true_eq] at this
    simp [IntKind.min, IntKind.max, IntKind.signed, IntKind.bits] at this
    omega
  obtain ⟨m, rfl⟩ : ∃ m : Nat, x = m := ⟨x.toNat, by omega⟩
  have htab := tabs_of hL
  refine (nulls_any W htab v0 n hcode m (by omega)).mono fun e W' ⟨he, hf⟩ => ?_
  subst he
  have hb := hf.below (Nat.le_refl _) (fun _ _ h => h)
  obtain ⟨g, _, _, _, d, _, rfl, _⟩ := trodVars_one hV
  exact ⟨_, rfl, _, _, _, [], p0 ++ [], q, hW', trodAll_mk1 (shut_bool Tryz.underlying4 _),
    trodAll_mk2 (WideElems.Trod_stays laid_out code_reads code_row h0 (fun x hx => hb.same (hlt x (by simp [hx]))) (fun x hx => by simpa using hlt x (by simp [hx]))) (shut_int Tryz.underlying5 wx),
    kind_stays hV (fun x hx => hlt x (by simp [hx])) hb, hb.frame _, fun h => by cases h⟩

end Go.Proofs.YtcidlnjpabgioaaGreatDoor
