/- FnLONulls: the walk. -/
import Derived.Test.YtcidlnjpabgioaaGreatDoorGLaw
namespace Go.Proofs.YtcidlnjpabgioaaGreatDoor
open Go.RowKit

set_option linter.unusedSimpArgs false in
set_option maxRecDepth 100000 in
set_option maxHeartbeats 4000000 in
theorem nulls_walk (hleaf : ∀ T : Ty, T.leafy → TextOk T ∧ TreeOk T ∧ LeafCellOk T) (w : World) (htab : Tabs w) (cv : Value) (cn : Nat) (hcode : CodeArg w.heap.size w cv cn) (m : Nat) (hm : m < 256) :
    Calls Tryz.prog 5 #[cv, .int .u8 m] w fun e w' => e = .returned (.bool true) ∧ Fr (fun _ => False) w w' := by
  have hca := law_code hcode
  obtain ⟨ca, cc, rfl, hcn, hcm, -, -⟩ := hcode
  unfold maxLen at hcm
  by_cases hbig : 2147483647 < cn
  · have hb' : (2147483647 : Int) < cn := by omega
    go_enter Tryz.func5, Tryz.ntmps5
    go_wp2
    go_ret
    exact ⟨rfl, Fr.refl _ _⟩
  · have hb' : ¬ (2147483647 : Int) < cn := by omega
    go_enter Tryz.func5, Tryz.ntmps5
    go_wp2_with (go_at_call 15; refine (leaf_any w.heap.size _ w.heap.size hca (by simp)).mono ?_; rintro e w1 ⟨T, hT, rfl, hc1, hf1⟩; unfold Ty.cells3)
    obtain ⟨s, hs⟩ : ∃ s, Hid (s = w1.heap.size) := ⟨_, Lib.hid rfl⟩
    have hpS : w.heap.size < w1.heap.size := by have := hf1.size; simp at this; omega
    generalize hW1 : ((w1.alloc _).alloc _).alloc _ = W1
    have hfW1 : Fr (fun _ => False) w1 W1 := by subst hW1; exact (((Fr.refl _ w1).alloc _).alloc _).alloc _
    have r6 : W1.heap[w1.heap.size]? = some (.cells T.cells3.toArray 29 (0, 0)) := by subst hW1; rw [Below.heap_alloc _ _ _ (by simp; omega), Below.heap_alloc _ _ _ (by simp)]; exact heap_alloc_new w1 _
    have rs : W1.heap[w1.heap.size + 1]? = some (.cells T.cells3.toArray 29 (0, 0)) := by subst hW1; rw [Below.heap_alloc _ _ _ (by simp)]; exact cell_block_new (by simp)
    have r7 : W1.heap[w1.heap.size + 1 + 1]? = some (.cells #[.string ⟨#[78, 117, 108, 108, 97, 98, 108, 101]⟩, .int .i64 0, .slice (some ⟨w1.heap.size + 1, 0, none⟩) 1 1] 29 (0, 0)) := by subst hW1; exact cell_block_new (by simp)
    have hsz : W1.heap.size = w1.heap.size + 3 := by subst hW1; simp
    have hcW : CodeAt w.heap.size W1 w.heap.size := hc1.fr hfW1 (fun h => h) (fun _ _ h => h)
    have hm30 : (0 : Int) ≤ (m : Int) % 30 ∧ (m : Int) % 30 < 30 := by omega
    clear hW1
    go_loopw [8, 9, 10, 11] (fun rv vv mk i wr => NRel T w.heap.size W1 wr rv vv mk i) (fun _ _ _ i _ => (intOf i).toNat)
    case atStart => exact NRel.start (k := 1 + m % 30) (by go_num) (by omega) hcW
    case round =>
      obtain ⟨k, σ, rfl, hk, rfl, hσ, htwo, hcode, hfr⟩ := hrel
      have hwr := hfr.size
      have n6 : ¬ w1.heap.size = w.heap.size := by omega
      have r6' := (hfr.block _ (by omega) n6).trans r6
      have rs' := (hfr.block _ (by omega) (by show ¬ w1.heap.size + 1 = w.heap.size; omega)).trans rs
      have r7' := (hfr.block _ (by omega) (by show ¬ w1.heap.size + 1 + 1 = w.heap.size; omega)).trans r7
      have a0 : wr.cell? ⟨w1.heap.size + 1 + 1, 0, none⟩ = some (.string ⟨#[78, 117, 108, 108, 97, 98, 108, 101]⟩) := by rw [cell_of_row _ _ _ _ _ _ r7']; rfl
      have a1 : wr.cell? ⟨w1.heap.size + 1 + 1, 1, none⟩ = some (.int .i64 0) := by rw [cell_of_row _ _ _ _ _ _ r7']; rfl
      have a2 : wr.cell? ⟨w1.heap.size + 1 + 1, 2, none⟩ = some (.slice (some ⟨w1.heap.size + 1, 0, none⟩) 1 1) := by rw [cell_of_row _ _ _ _ _ _ r7']; rfl
      by_cases hlt : 0 < k
      · have hlt' : (0 : Int) < k := by omega
        have hcl : Calls Tryz.prog 9 #[.pointer (some ⟨w.heap.size, 0, none⟩), .agg #[.string ⟨#[78, 117, 108, 108, 97, 98, 108, 101]⟩, .int .i64 0, .slice (some ⟨w1.heap.size + 1, 0, none⟩) 1 1]] wr fun e w' =>
            ∃ x, (x = nullCell ∨ Flat T x) ∧ e = .returned (.agg x.cells8.toArray) ∧ CodeAt w.heap.size w' w.heap.size ∧ Fr (fun k => k = w.heap.size) wr w' :=
          cell_nul T (hleaf T hT).2.2 w.heap.size wr w.heap.size hcode (by omega) (w1.heap.size + 1) 0 1 (by omega) (by omega) (fun j u hj => by rw [Nat.zero_add, cell_of_row _ _ _ _ _ _ rs', List.getElem?_toArray]; exact hj)
        go_wp2_with (go_at_call 9; refine hcl.mono ?_; rintro e w2 ⟨x, hx, rfl, hc2, hf2⟩; unfold Cell.cells8)
        · rename_i hnul
          obtain rfl := null_is hx hnul
          simp only [show nullCell.r0 = 0 from rfl, show nullCell.r1 = 0 from rfl, show nullCell.r2 = 0 from rfl, show nullCell.r3 = 0 from rfl, show nullCell.s = ⟨#[]⟩ from rfl, show nullCell.null = true from rfl]
          clear hnul
          generalize hW2 : (w2.alloc _).alloc _ = W2
          have hfW2 : Fr (fun _ => False) w2 W2 := by subst hW2; exact ((Fr.refl _ w2).alloc _).alloc _
          have hX0 : W2.heap[w2.heap.size]? = some (.cells #[.int .u64 0, .int .u64 0, .int .u64 0, .int .u64 0, .string ⟨#[]⟩, .bool true, .slice none 0 0, .slice none 0 0] 35 (0, 0)) := by subst hW2; rw [Below.heap_alloc _ _ _ (by simp)]; exact heap_alloc_new w2 _
          have hY0 : W2.heap[w2.heap.size + 1]? = some (.cells (rowCells 0 0 0 0 ⟨#[]⟩) 35 (0, 0)) := by subst hW2; exact cell_block_new (by simp)
          have hWs : W2.heap.size = w2.heap.size + 2 := by subst hW2; simp
          have hfrA : Fr (fun q => q = w.heap.size) wr W2 := hf2.trans hfW2 (fun _ _ h => h.elim)
          have hr6 := (hfrA.block _ (by omega) n6).trans r6'
          have t0 : W2.cell? ⟨w1.heap.size, 0, none⟩ = some (.string (bstr T.nm)) := by rw [cell_of_row _ _ _ _ _ _ hr6]; rfl
          have t1 : W2.cell? ⟨w1.heap.size, 1, none⟩ = some (.int .i64 T.sz) := by rw [cell_of_row _ _ _ _ _ _ hr6]; rfl
          have hfx := fix_name T hT
          have hsm := fix_small T hT
          clear hW2
          obtain ⟨we, hwe⟩ : ∃ we, we = wr := ⟨_, rfl⟩
          subst hwe
          have hw2 := hf2.size
          go_loopw [47] (fun _ wi => ZRel T (w2.heap.size + 1) W2 wi) (fun _ wi => fixLen T - strAt wi (w2.heap.size + 1))
          case atStart => exact ⟨0, Nat.zero_le _, rfl, hY0, Fr.refl _ _⟩
          case round =>
            obtain ⟨j, hj, hwis, hrow, hfi⟩ := hrel
            have s0 := hfi.cell_some t0 (by show ¬ w1.heap.size = w2.heap.size + 1; omega)
            have s1 := hfi.cell_some t1 (by show ¬ w1.heap.size = w2.heap.size + 1; omega)
            generalize hz : bstr (List.replicate j 0) = zs at hrow
            have hzs : zs.size = j := by rw [← hz, bstr_size]; simp
            have y4 : wr.cell? ⟨w2.heap.size + 1, 4, none⟩ = some (.string zs) := by rw [cell_of_row _ _ _ _ _ _ hrow]; rfl
            have f4 := frozen_of_row wr (w2.heap.size + 1) 4 _ _ hrow
            by_cases hgo : j < fixLen T
            · rcases hfx with ⟨hfx, hfs⟩ | ⟨hfx, hfs⟩
              · have hlt3 : (zs.size : Int) < T.sz := by omega
                have hsum : ¬ 9223372036854775807 < zs.size + 1 := by omega
                go_wp2
                go_roundw
                case rel => subst hz; exact ZRel.next hgo hwis hrow hfi
                case measure =>
                  subst hz
                  rw [strAt_row hrow, strAt_row (heap_setS hrow _), ByteArray.size_append]
                  simp only [hzs]
                  show fixLen T - (j + 1) < fixLen T - j
                  omega
              · omega
            · rcases hfx with ⟨hfx, hfs⟩ | ⟨hfx, hfs⟩
              case' inl => have hlt3 : ¬ (zs.size : Int) < T.sz := by omega
              all_goals clear hfs
              all_goals
                go_wp2
                have hzT : zs = zeroText T := by rw [← hz, show j = fixLen T by omega]; rfl
                have hX : wr.heap[w2.heap.size]? = some (.cells #[.int .u64 0, .int .u64 0, .int .u64 0, .int .u64 0, .string ⟨#[]⟩, .bool true, .slice none 0 0, .slice none 0 0] 35 (0, 0)) := (hfi.block _ (by omega) (by show ¬ w2.heap.size = w2.heap.size + 1; omega)).trans hX0
                have hY : wr.heap[w2.heap.size + 1]? = some (.cells #[.int .u64 0, .int .u64 0, .int .u64 0, .int .u64 0, .string zs, .bool false, .slice none 0 0, .slice none 0 0] 35 (0, 0)) := hrow
                have hW2s : wr.heap.size = w2.heap.size + 2 := hwis.trans hWs
                have hfr2 : Fr (fun q => q = w.heap.size) we wr := hfrA.trans hfi (fun q hq h => by have : q = w2.heap.size + 1 := h; omega)
                have hfr4 : Fr (fun q => q = w2.heap.size + 1) w2 wr := (hfW2.mono (fun _ _ h => h.elim)).trans hfi (fun _ _ h => h)
                have hX8 : [.int .u64 0, .int .u64 0, .int .u64 0, .int .u64 0, .string ⟨#[]⟩, .bool true, .slice none 0 0, .slice none 0 0] = nullCell.cells8 := rfl
                have hY8 : [.int .u64 0, .int .u64 0, .int .u64 0, .int .u64 0, .string zs, .bool false, .slice none 0 0, .slice none 0 0] = (valOf T nullCell).cells8 := by rw [hzT]; rfl
                have hmk : markOf nullCell = 1 := rfl
                have hX8' := Lib.hid hX8
                have hY8' := Lib.hid hY8
                have hmk' := Lib.hid hmk
                clear hX8 hY8 hmk hzT hz y4 f4 s0 s1 t0 t1 hX0 hY0
                have htW := htwo.fr hfr2 (fun q hq => by show ¬ q = w.heap.size; omega)
                obtain ⟨ra, rc, rfl⟩ := ownsRow_shape htW.a
                obtain ⟨va, vc, rfl⟩ := ownsRow_shape htW.b
                have hle2 : wr.heap.size ≤ w2.heap.size + 2 := Nat.le_of_eq hW2s
                have hle3 : wr.heap.size ≤ w2.heap.size + 2 + 1 := by omega
                have hs3 : ∀ o, w2.heap.size + 2 + 1 = (wr.alloc o).heap.size := fun o => by rw [World.size_alloc, hW2s]
                have hCX := CellsAt.of_block hX
                have hCY := CellsAt.of_block hY
                have hro : ∀ k, (Value.slice ra σ.length rc).ownBlock = some k → k < w2.heap.size := fun k hk => Nat.lt_of_lt_of_le (ownsRow_lt htwo.a hk) hf2.size
                have hvo : ∀ k, (Value.slice va σ.length vc).ownBlock = some k → k < w2.heap.size := fun k hk => Nat.lt_of_lt_of_le (ownsRow_lt htwo.b hk) hf2.size
                have hbs : ¬ 9223372036854775807 < (bstr (List.map markOf σ)).size + 1 := by rw [bstr_size]; simp; omega
                have hBW : w.heap.size < W1.heap.size := by omega
                have hfr3 : Fr (fun q => q = w.heap.size) W1 wr := hfr.trans hfr2 (fun _ _ h => h)
                have hcode3 : CodeAt w.heap.size wr w.heap.size := hc2.fr hfr4 (by show ¬ w.heap.size = w2.heap.size + 1; omega) (fun q hq => by show ¬ q = w2.heap.size + 1; omega)
                have d0 : wr.cell? ⟨w2.heap.size, 0, none⟩ = some (.int .u64 0) := by rw [cell_of_row _ _ _ _ _ _ hX]; rfl
                have da0 : ∀ o, (wr.alloc o).cell? ⟨w2.heap.size, 0, none⟩ = some (.int .u64 0) := fun o => (World.cell?_alloc_lt wr o _ (heap_lt hX)).trans d0
                have d1 : wr.cell? ⟨w2.heap.size, 1, none⟩ = some (.int .u64 0) := by rw [cell_of_row _ _ _ _ _ _ hX]; rfl
                have da1 : ∀ o, (wr.alloc o).cell? ⟨w2.heap.size, 1, none⟩ = some (.int .u64 0) := fun o => (World.cell?_alloc_lt wr o _ (heap_lt hX)).trans d1
                have d2 : wr.cell? ⟨w2.heap.size, 2, none⟩ = some (.int .u64 0) := by rw [cell_of_row _ _ _ _ _ _ hX]; rfl
                have da2 : ∀ o, (wr.alloc o).cell? ⟨w2.heap.size, 2, none⟩ = some (.int .u64 0) := fun o => (World.cell?_alloc_lt wr o _ (heap_lt hX)).trans d2
                have d3 : wr.cell? ⟨w2.heap.size, 3, none⟩ = some (.int .u64 0) := by rw [cell_of_row _ _ _ _ _ _ hX]; rfl
                have da3 : ∀ o, (wr.alloc o).cell? ⟨w2.heap.size, 3, none⟩ = some (.int .u64 0) := fun o => (World.cell?_alloc_lt wr o _ (heap_lt hX)).trans d3
                have d4 : wr.cell? ⟨w2.heap.size, 4, none⟩ = some (.string ⟨#[]⟩) := by rw [cell_of_row _ _ _ _ _ _ hX]; rfl
                have da4 : ∀ o, (wr.alloc o).cell? ⟨w2.heap.size, 4, none⟩ = some (.string ⟨#[]⟩) := fun o => (World.cell?_alloc_lt wr o _ (heap_lt hX)).trans d4
                have d5 : wr.cell? ⟨w2.heap.size, 5, none⟩ = some (.bool true) := by rw [cell_of_row _ _ _ _ _ _ hX]; rfl
                have da5 : ∀ o, (wr.alloc o).cell? ⟨w2.heap.size, 5, none⟩ = some (.bool true) := fun o => (World.cell?_alloc_lt wr o _ (heap_lt hX)).trans d5
                have d6 : wr.cell? ⟨w2.heap.size, 6, none⟩ = some (.slice none 0 0) := by rw [cell_of_row _ _ _ _ _ _ hX]; rfl
                have da6 : ∀ o, (wr.alloc o).cell? ⟨w2.heap.size, 6, none⟩ = some (.slice none 0 0) := fun o => (World.cell?_alloc_lt wr o _ (heap_lt hX)).trans d6
                have d7 : wr.cell? ⟨w2.heap.size, 7, none⟩ = some (.slice none 0 0) := by rw [cell_of_row _ _ _ _ _ _ hX]; rfl
                have da7 : ∀ o, (wr.alloc o).cell? ⟨w2.heap.size, 7, none⟩ = some (.slice none 0 0) := fun o => (World.cell?_alloc_lt wr o _ (heap_lt hX)).trans d7
                have e0 : wr.cell? ⟨w2.heap.size + 1, 0, none⟩ = some (.int .u64 0) := by rw [cell_of_row _ _ _ _ _ _ hY]; rfl
                have ea0 : ∀ o, (wr.alloc o).cell? ⟨w2.heap.size + 1, 0, none⟩ = some (.int .u64 0) := fun o => (World.cell?_alloc_lt wr o _ (heap_lt hY)).trans e0
                have e1 : wr.cell? ⟨w2.heap.size + 1, 1, none⟩ = some (.int .u64 0) := by rw [cell_of_row _ _ _ _ _ _ hY]; rfl
                have ea1 : ∀ o, (wr.alloc o).cell? ⟨w2.heap.size + 1, 1, none⟩ = some (.int .u64 0) := fun o => (World.cell?_alloc_lt wr o _ (heap_lt hY)).trans e1
                have e2 : wr.cell? ⟨w2.heap.size + 1, 2, none⟩ = some (.int .u64 0) := by rw [cell_of_row _ _ _ _ _ _ hY]; rfl
                have ea2 : ∀ o, (wr.alloc o).cell? ⟨w2.heap.size + 1, 2, none⟩ = some (.int .u64 0) := fun o => (World.cell?_alloc_lt wr o _ (heap_lt hY)).trans e2
                have e3 : wr.cell? ⟨w2.heap.size + 1, 3, none⟩ = some (.int .u64 0) := by rw [cell_of_row _ _ _ _ _ _ hY]; rfl
                have ea3 : ∀ o, (wr.alloc o).cell? ⟨w2.heap.size + 1, 3, none⟩ = some (.int .u64 0) := fun o => (World.cell?_alloc_lt wr o _ (heap_lt hY)).trans e3
                have e4 : wr.cell? ⟨w2.heap.size + 1, 4, none⟩ = some (.string zs) := by rw [cell_of_row _ _ _ _ _ _ hY]; rfl
                have ea4 : ∀ o, (wr.alloc o).cell? ⟨w2.heap.size + 1, 4, none⟩ = some (.string zs) := fun o => (World.cell?_alloc_lt wr o _ (heap_lt hY)).trans e4
                have e5 : wr.cell? ⟨w2.heap.size + 1, 5, none⟩ = some (.bool false) := by rw [cell_of_row _ _ _ _ _ _ hY]; rfl
                have ea5 : ∀ o, (wr.alloc o).cell? ⟨w2.heap.size + 1, 5, none⟩ = some (.bool false) := fun o => (World.cell?_alloc_lt wr o _ (heap_lt hY)).trans e5
                have e6 : wr.cell? ⟨w2.heap.size + 1, 6, none⟩ = some (.slice none 0 0) := by rw [cell_of_row _ _ _ _ _ _ hY]; rfl
                have ea6 : ∀ o, (wr.alloc o).cell? ⟨w2.heap.size + 1, 6, none⟩ = some (.slice none 0 0) := fun o => (World.cell?_alloc_lt wr o _ (heap_lt hY)).trans e6
                have e7 : wr.cell? ⟨w2.heap.size + 1, 7, none⟩ = some (.slice none 0 0) := by rw [cell_of_row _ _ _ _ _ _ hY]; rfl
                have ea7 : ∀ o, (wr.alloc o).cell? ⟨w2.heap.size + 1, 7, none⟩ = some (.slice none 0 0) := fun o => (World.cell?_alloc_lt wr o _ (heap_lt hY)).trans e7
                go_region_law (first
                  | (refine step_append _ rfl cellEl _ _ rfl (.slice ra σ.length rc) σ.length (σ.flatMap Cell.cells8) rfl ?_ _ 1 [.int .u64 0, .int .u64 0, .int .u64 0, .int .u64 0, .string ⟨#[]⟩, .bool true, .slice none 0 0, .slice none 0 0] rfl ?_ ?_ ?_ ?_; (first | exact htW.first (((Fr.refl (fun _ => False) wr).alloc _).drew) | exact htW.first ((((Fr.refl (fun _ => False) wr).alloc _).alloc _).drew) | exact htW.swap.mid (((Fr.refl (fun _ => False) wr).alloc _).drew) h9 (Fr.refl _ _) | exact htW.swap.mid (((Fr.refl (fun _ => False) wr).alloc _).drew) h9 ((Fr.refl _ _).alloc _) | exact htW.swap.mid ((((Fr.refl (fun _ => False) wr).alloc _).alloc _).drew) h9 (Fr.refl _ _) | exact htW.swap.mid ((((Fr.refl (fun _ => False) wr).alloc _).alloc _).drew) h9 ((Fr.refl _ _).alloc _)); (first | exact Src.ofSlice _ Tryz.underlying31 _ _ _ _ rfl ((CellsAt.new [.int .u64 0, .int .u64 0, .int .u64 0, .int .u64 0, .string ⟨#[]⟩, .bool true, .slice none 0 0, .slice none 0 0] _ hW2s.symm).drew) (by simp [Value.oneCell']) | exact Src.ofSlice _ Tryz.underlying31 _ _ _ _ rfl ((CellsAt.new [.int .u64 0, .int .u64 0, .int .u64 0, .int .u64 0, .string ⟨#[]⟩, .bool true, .slice none 0 0, .slice none 0 0] _ (hs3 _)).drew) (by simp [Value.oneCell']) | exact Src.ofSlice _ Tryz.underlying31 _ _ _ _ rfl (((CellsAt.new [.int .u64 0, .int .u64 0, .int .u64 0, .int .u64 0, .string ⟨#[]⟩, .bool true, .slice none 0 0, .slice none 0 0] _ hW2s.symm).fr ((Fr.refl (fun _ => False) _).alloc _) (fun h => h)).drew) (by simp [Value.oneCell']) | exact Src.ofSlice _ Tryz.underlying31 _ _ _ _ rfl (CellsAt.mid ((CellsAt.new [.int .u64 0, .int .u64 0, .int .u64 0, .int .u64 0, .string ⟨#[]⟩, .bool true, .slice none 0 0, .slice none 0 0] _ hW2s.symm).drew) hle2 htW.swap h9 (Fr.refl _ _)) (by simp [Value.oneCell']) | exact Src.ofSlice _ Tryz.underlying31 _ _ _ _ rfl (CellsAt.mid ((CellsAt.new [.int .u64 0, .int .u64 0, .int .u64 0, .int .u64 0, .string ⟨#[]⟩, .bool true, .slice none 0 0, .slice none 0 0] _ (hs3 _)).drew) hle3 htW.swap h9 (Fr.refl _ _)) (by simp [Value.oneCell']) | exact Src.ofSlice _ Tryz.underlying31 _ _ _ _ rfl (CellsAt.mid (((CellsAt.new [.int .u64 0, .int .u64 0, .int .u64 0, .int .u64 0, .string ⟨#[]⟩, .bool true, .slice none 0 0, .slice none 0 0] _ hW2s.symm).fr ((Fr.refl (fun _ => False) _).alloc _) (fun h => h)).drew) hle2 htW.swap h9 (Fr.refl _ _)) (by simp [Value.oneCell']) | exact Src.ofSlice _ Tryz.underlying31 _ _ _ _ rfl (CellsAt.new [.int .u64 0, .int .u64 0, .int .u64 0, .int .u64 0, .string ⟨#[]⟩, .bool true, .slice none 0 0, .slice none 0 0] _ rfl) (by simp [Value.oneCell'])); (unfold maxLen; omega); omega; intro v5 u5 h5; obtain ⟨pa5, pc5, rfl⟩ := h5.shape; first | (have hkk := CellsAt.past hCY (fun hk => Nat.not_succ_lt_self (hro _ hk)) (((Fr.refl (fun _ => False) wr).alloc _).drew) h5; obtain ⟨k50, k51, k52, k53, k54, k55, k56, k57⟩ := hkk.eight; clear hkk) | (have hkk := CellsAt.past hCY (fun hk => Nat.not_succ_lt_self (hro _ hk)) ((((Fr.refl (fun _ => False) wr).alloc _).alloc _).drew) h5; obtain ⟨k50, k51, k52, k53, k54, k55, k56, k57⟩ := hkk.eight; clear hkk) | skip)
                  | (refine step_append _ rfl cellEl _ _ rfl (.slice va σ.length vc) σ.length ((σ.map (valOf T)).flatMap Cell.cells8) rfl ?_ _ 1 [.int .u64 0, .int .u64 0, .int .u64 0, .int .u64 0, .string zs, .bool false, .slice none 0 0, .slice none 0 0] rfl ?_ ?_ ?_ ?_; (first | exact htW.swap.first (((Fr.refl (fun _ => False) wr).alloc _).drew) | exact htW.swap.first ((((Fr.refl (fun _ => False) wr).alloc _).alloc _).drew) | exact htW.mid (((Fr.refl (fun _ => False) wr).alloc _).drew) h5 (Fr.refl _ _) | exact htW.mid (((Fr.refl (fun _ => False) wr).alloc _).drew) h5 ((Fr.refl _ _).alloc _) | exact htW.mid ((((Fr.refl (fun _ => False) wr).alloc _).alloc _).drew) h5 (Fr.refl _ _) | exact htW.mid ((((Fr.refl (fun _ => False) wr).alloc _).alloc _).drew) h5 ((Fr.refl _ _).alloc _)); (first | exact Src.ofSlice _ Tryz.underlying31 _ _ _ _ rfl ((CellsAt.new [.int .u64 0, .int .u64 0, .int .u64 0, .int .u64 0, .string zs, .bool false, .slice none 0 0, .slice none 0 0] _ hW2s.symm).drew) (by simp [Value.oneCell']) | exact Src.ofSlice _ Tryz.underlying31 _ _ _ _ rfl ((CellsAt.new [.int .u64 0, .int .u64 0, .int .u64 0, .int .u64 0, .string zs, .bool false, .slice none 0 0, .slice none 0 0] _ (hs3 _)).drew) (by simp [Value.oneCell']) | exact Src.ofSlice _ Tryz.underlying31 _ _ _ _ rfl (((CellsAt.new [.int .u64 0, .int .u64 0, .int .u64 0, .int .u64 0, .string zs, .bool false, .slice none 0 0, .slice none 0 0] _ hW2s.symm).fr ((Fr.refl (fun _ => False) _).alloc _) (fun h => h)).drew) (by simp [Value.oneCell']) | exact Src.ofSlice _ Tryz.underlying31 _ _ _ _ rfl (CellsAt.mid ((CellsAt.new [.int .u64 0, .int .u64 0, .int .u64 0, .int .u64 0, .string zs, .bool false, .slice none 0 0, .slice none 0 0] _ hW2s.symm).drew) hle2 htW h5 (Fr.refl _ _)) (by simp [Value.oneCell']) | exact Src.ofSlice _ Tryz.underlying31 _ _ _ _ rfl (CellsAt.mid ((CellsAt.new [.int .u64 0, .int .u64 0, .int .u64 0, .int .u64 0, .string zs, .bool false, .slice none 0 0, .slice none 0 0] _ (hs3 _)).drew) hle3 htW h5 (Fr.refl _ _)) (by simp [Value.oneCell']) | exact Src.ofSlice _ Tryz.underlying31 _ _ _ _ rfl (CellsAt.mid (((CellsAt.new [.int .u64 0, .int .u64 0, .int .u64 0, .int .u64 0, .string zs, .bool false, .slice none 0 0, .slice none 0 0] _ hW2s.symm).fr ((Fr.refl (fun _ => False) _).alloc _) (fun h => h)).drew) hle2 htW h5 (Fr.refl _ _)) (by simp [Value.oneCell']) | exact Src.ofSlice _ Tryz.underlying31 _ _ _ _ rfl (CellsAt.new [.int .u64 0, .int .u64 0, .int .u64 0, .int .u64 0, .string zs, .bool false, .slice none 0 0, .slice none 0 0] _ rfl) (by simp [Value.oneCell'])); (unfold maxLen; omega); omega; intro v9 u9 h9; obtain ⟨pa9, pc9, rfl⟩ := h9.shape; first | (have hkk := CellsAt.past hCX (fun hk => Nat.ne_of_lt (hvo _ hk) rfl) (((Fr.refl (fun _ => False) wr).alloc _).drew) h9; obtain ⟨k90, k91, k92, k93, k94, k95, k96, k97⟩ := hkk.eight; clear hkk) | (have hkk := CellsAt.past hCX (fun hk => Nat.ne_of_lt (hvo _ hk) rfl) ((((Fr.refl (fun _ => False) wr).alloc _).alloc _).drew) h9; obtain ⟨k90, k91, k92, k93, k94, k95, k96, k97⟩ := hkk.eight; clear hkk) | skip))
                all_goals
                  clear d0 da0 d1 da1 d2 da2 d3 da3 d4 da4 d5 da5 d6 da6 d7 da7 e0 ea0 e1 ea1 e2 ea2 e3 ea3 e4 ea4 e5 ea5 e6 ea6 e7 ea7
                  go_wp2
                  go_roundw
                  case rel => first | exact NRel.next hBW hk hlt hσ (.inl rfl) htW hfr3 hcode3 (((Fr.refl (fun _ => False) wr).alloc _).drew) h5 (Fr.refl _ _) h9 hX8'.out hY8'.out rfl hmk'.out rfl | exact NRel.next hBW hk hlt hσ (.inl rfl) htW hfr3 hcode3 (((Fr.refl (fun _ => False) wr).alloc _).drew) h5 ((Fr.refl _ _).alloc _) h9 hX8'.out hY8'.out rfl hmk'.out rfl | exact NRel.next hBW hk hlt hσ (.inl rfl) htW hfr3 hcode3 ((((Fr.refl (fun _ => False) wr).alloc _).alloc _).drew) h5 (Fr.refl _ _) h9 hX8'.out hY8'.out rfl hmk'.out rfl | exact NRel.next hBW hk hlt hσ (.inl rfl) htW hfr3 hcode3 ((((Fr.refl (fun _ => False) wr).alloc _).alloc _).drew) h5 ((Fr.refl _ _).alloc _) h9 hX8'.out hY8'.out rfl hmk'.out rfl
                  case measure => show ((k : Int) - 1).toNat < (k : Int).toNat; omega
        · rename_i hnul
          generalize hW2 : (w2.alloc _).alloc _ = W2
          have hfW2 : Fr (fun _ => False) w2 W2 := by subst hW2; exact ((Fr.refl _ w2).alloc _).alloc _
          have hX : W2.heap[w2.heap.size]? = some (.cells #[.int .u64 x.r0, .int .u64 x.r1, .int .u64 x.r2, .int .u64 x.r3, .string x.s, .bool false, .slice none 0 0, .slice none 0 0] 35 (0, 0)) := by subst hW2; rw [Below.heap_alloc _ _ _ (by simp), ← hnul]; exact heap_alloc_new w2 _
          have hY : W2.heap[w2.heap.size + 1]? = some (.cells #[.int .u64 x.r0, .int .u64 x.r1, .int .u64 x.r2, .int .u64 x.r3, .string x.s, .bool false, .slice none 0 0, .slice none 0 0] 35 (0, 0)) := by subst hW2; rw [← hnul]; exact cell_block_new (by simp)
          have hW2s : W2.heap.size = w2.heap.size + 2 := by subst hW2; simp
          have hfr2 : Fr (fun q => q = w.heap.size) wr W2 := hf2.trans hfW2 (fun _ _ h => h.elim)
          have hfr4 := hfW2
          have hX8 : [.int .u64 x.r0, .int .u64 x.r1, .int .u64 x.r2, .int .u64 x.r3, .string x.s, .bool false, .slice none 0 0, .slice none 0 0] = x.cells8 := by unfold Cell.cells8; rw [hnul]
          have hY8 : [.int .u64 x.r0, .int .u64 x.r1, .int .u64 x.r2, .int .u64 x.r3, .string x.s, .bool false, .slice none 0 0, .slice none 0 0] = (valOf T x).cells8 := by rw [hX8]; unfold valOf; rw [hnul]; rfl
          have hmk : markOf x = 0 := by unfold markOf; rw [hnul]; rfl
          have hnul' := Lib.hid hnul
          have hX8' := Lib.hid hX8
          have hY8' := Lib.hid hY8
          have hmk' := Lib.hid hmk
          clear hW2 hnul hX8 hY8 hmk
          have htW := htwo.fr hfr2 (fun q hq => by show ¬ q = w.heap.size; omega)
          obtain ⟨ra, rc, rfl⟩ := ownsRow_shape htW.a
          obtain ⟨va, vc, rfl⟩ := ownsRow_shape htW.b
          have hle2 : W2.heap.size ≤ w2.heap.size + 2 := Nat.le_of_eq hW2s
          have hle3 : W2.heap.size ≤ w2.heap.size + 2 + 1 := by omega
          have hs3 : ∀ o, w2.heap.size + 2 + 1 = (W2.alloc o).heap.size := fun o => by rw [World.size_alloc, hW2s]
          have hCX := CellsAt.of_block hX
          have hCY := CellsAt.of_block hY
          have hro : ∀ k, (Value.slice ra σ.length rc).ownBlock = some k → k < w2.heap.size := fun k hk => Nat.lt_of_lt_of_le (ownsRow_lt htwo.a hk) hf2.size
          have hvo : ∀ k, (Value.slice va σ.length vc).ownBlock = some k → k < w2.heap.size := fun k hk => Nat.lt_of_lt_of_le (ownsRow_lt htwo.b hk) hf2.size
          have hbs : ¬ 9223372036854775807 < (bstr (List.map markOf σ)).size + 1 := by rw [bstr_size]; simp; omega
          have hBW : w.heap.size < W1.heap.size := by omega
          have hfr3 : Fr (fun q => q = w.heap.size) W1 W2 := hfr.trans hfr2 (fun _ _ h => h)
          have hcode3 : CodeAt w.heap.size W2 w.heap.size := hc2.fr hfr4 (fun h => h) (fun _ _ h => h)
          have d0 : W2.cell? ⟨w2.heap.size, 0, none⟩ = some (.int .u64 x.r0) := by rw [cell_of_row _ _ _ _ _ _ hX]; rfl
          have da0 : ∀ o, (W2.alloc o).cell? ⟨w2.heap.size, 0, none⟩ = some (.int .u64 x.r0) := fun o => (World.cell?_alloc_lt W2 o _ (heap_lt hX)).trans d0
          have d1 : W2.cell? ⟨w2.heap.size, 1, none⟩ = some (.int .u64 x.r1) := by rw [cell_of_row _ _ _ _ _ _ hX]; rfl
          have da1 : ∀ o, (W2.alloc o).cell? ⟨w2.heap.size, 1, none⟩ = some (.int .u64 x.r1) := fun o => (World.cell?_alloc_lt W2 o _ (heap_lt hX)).trans d1
          have d2 : W2.cell? ⟨w2.heap.size, 2, none⟩ = some (.int .u64 x.r2) := by rw [cell_of_row _ _ _ _ _ _ hX]; rfl
          have da2 : ∀ o, (W2.alloc o).cell? ⟨w2.heap.size, 2, none⟩ = some (.int .u64 x.r2) := fun o => (World.cell?_alloc_lt W2 o _ (heap_lt hX)).trans d2
          have d3 : W2.cell? ⟨w2.heap.size, 3, none⟩ = some (.int .u64 x.r3) := by rw [cell_of_row _ _ _ _ _ _ hX]; rfl
          have da3 : ∀ o, (W2.alloc o).cell? ⟨w2.heap.size, 3, none⟩ = some (.int .u64 x.r3) := fun o => (World.cell?_alloc_lt W2 o _ (heap_lt hX)).trans d3
          have d4 : W2.cell? ⟨w2.heap.size, 4, none⟩ = some (.string x.s) := by rw [cell_of_row _ _ _ _ _ _ hX]; rfl
          have da4 : ∀ o, (W2.alloc o).cell? ⟨w2.heap.size, 4, none⟩ = some (.string x.s) := fun o => (World.cell?_alloc_lt W2 o _ (heap_lt hX)).trans d4
          have d5 : W2.cell? ⟨w2.heap.size, 5, none⟩ = some (.bool false) := by rw [cell_of_row _ _ _ _ _ _ hX]; rfl
          have da5 : ∀ o, (W2.alloc o).cell? ⟨w2.heap.size, 5, none⟩ = some (.bool false) := fun o => (World.cell?_alloc_lt W2 o _ (heap_lt hX)).trans d5
          have d6 : W2.cell? ⟨w2.heap.size, 6, none⟩ = some (.slice none 0 0) := by rw [cell_of_row _ _ _ _ _ _ hX]; rfl
          have da6 : ∀ o, (W2.alloc o).cell? ⟨w2.heap.size, 6, none⟩ = some (.slice none 0 0) := fun o => (World.cell?_alloc_lt W2 o _ (heap_lt hX)).trans d6
          have d7 : W2.cell? ⟨w2.heap.size, 7, none⟩ = some (.slice none 0 0) := by rw [cell_of_row _ _ _ _ _ _ hX]; rfl
          have da7 : ∀ o, (W2.alloc o).cell? ⟨w2.heap.size, 7, none⟩ = some (.slice none 0 0) := fun o => (World.cell?_alloc_lt W2 o _ (heap_lt hX)).trans d7
          have e0 : W2.cell? ⟨w2.heap.size + 1, 0, none⟩ = some (.int .u64 x.r0) := by rw [cell_of_row _ _ _ _ _ _ hY]; rfl
          have ea0 : ∀ o, (W2.alloc o).cell? ⟨w2.heap.size + 1, 0, none⟩ = some (.int .u64 x.r0) := fun o => (World.cell?_alloc_lt W2 o _ (heap_lt hY)).trans e0
          have e1 : W2.cell? ⟨w2.heap.size + 1, 1, none⟩ = some (.int .u64 x.r1) := by rw [cell_of_row _ _ _ _ _ _ hY]; rfl
          have ea1 : ∀ o, (W2.alloc o).cell? ⟨w2.heap.size + 1, 1, none⟩ = some (.int .u64 x.r1) := fun o => (World.cell?_alloc_lt W2 o _ (heap_lt hY)).trans e1
          have e2 : W2.cell? ⟨w2.heap.size + 1, 2, none⟩ = some (.int .u64 x.r2) := by rw [cell_of_row _ _ _ _ _ _ hY]; rfl
          have ea2 : ∀ o, (W2.alloc o).cell? ⟨w2.heap.size + 1, 2, none⟩ = some (.int .u64 x.r2) := fun o => (World.cell?_alloc_lt W2 o _ (heap_lt hY)).trans e2
          have e3 : W2.cell? ⟨w2.heap.size + 1, 3, none⟩ = some (.int .u64 x.r3) := by rw [cell_of_row _ _ _ _ _ _ hY]; rfl
          have ea3 : ∀ o, (W2.alloc o).cell? ⟨w2.heap.size + 1, 3, none⟩ = some (.int .u64 x.r3) := fun o => (World.cell?_alloc_lt W2 o _ (heap_lt hY)).trans e3
          have e4 : W2.cell? ⟨w2.heap.size + 1, 4, none⟩ = some (.string x.s) := by rw [cell_of_row _ _ _ _ _ _ hY]; rfl
          have ea4 : ∀ o, (W2.alloc o).cell? ⟨w2.heap.size + 1, 4, none⟩ = some (.string x.s) := fun o => (World.cell?_alloc_lt W2 o _ (heap_lt hY)).trans e4
          have e5 : W2.cell? ⟨w2.heap.size + 1, 5, none⟩ = some (.bool false) := by rw [cell_of_row _ _ _ _ _ _ hY]; rfl
          have ea5 : ∀ o, (W2.alloc o).cell? ⟨w2.heap.size + 1, 5, none⟩ = some (.bool false) := fun o => (World.cell?_alloc_lt W2 o _ (heap_lt hY)).trans e5
          have e6 : W2.cell? ⟨w2.heap.size + 1, 6, none⟩ = some (.slice none 0 0) := by rw [cell_of_row _ _ _ _ _ _ hY]; rfl
          have ea6 : ∀ o, (W2.alloc o).cell? ⟨w2.heap.size + 1, 6, none⟩ = some (.slice none 0 0) := fun o => (World.cell?_alloc_lt W2 o _ (heap_lt hY)).trans e6
          have e7 : W2.cell? ⟨w2.heap.size + 1, 7, none⟩ = some (.slice none 0 0) := by rw [cell_of_row _ _ _ _ _ _ hY]; rfl
          have ea7 : ∀ o, (W2.alloc o).cell? ⟨w2.heap.size + 1, 7, none⟩ = some (.slice none 0 0) := fun o => (World.cell?_alloc_lt W2 o _ (heap_lt hY)).trans e7
          go_region_law (first
            | (refine step_append _ rfl cellEl _ _ rfl (.slice ra σ.length rc) σ.length (σ.flatMap Cell.cells8) rfl ?_ _ 1 [.int .u64 x.r0, .int .u64 x.r1, .int .u64 x.r2, .int .u64 x.r3, .string x.s, .bool false, .slice none 0 0, .slice none 0 0] rfl ?_ ?_ ?_ ?_; (first | exact htW.first (((Fr.refl (fun _ => False) W2).alloc _).drew) | exact htW.first ((((Fr.refl (fun _ => False) W2).alloc _).alloc _).drew) | exact htW.swap.mid (((Fr.refl (fun _ => False) W2).alloc _).drew) h9 (Fr.refl _ _) | exact htW.swap.mid (((Fr.refl (fun _ => False) W2).alloc _).drew) h9 ((Fr.refl _ _).alloc _) | exact htW.swap.mid ((((Fr.refl (fun _ => False) W2).alloc _).alloc _).drew) h9 (Fr.refl _ _) | exact htW.swap.mid ((((Fr.refl (fun _ => False) W2).alloc _).alloc _).drew) h9 ((Fr.refl _ _).alloc _)); (first | exact Src.ofSlice _ Tryz.underlying31 _ _ _ _ rfl ((CellsAt.new [.int .u64 x.r0, .int .u64 x.r1, .int .u64 x.r2, .int .u64 x.r3, .string x.s, .bool false, .slice none 0 0, .slice none 0 0] _ hW2s.symm).drew) (by simp [Value.oneCell']) | exact Src.ofSlice _ Tryz.underlying31 _ _ _ _ rfl ((CellsAt.new [.int .u64 x.r0, .int .u64 x.r1, .int .u64 x.r2, .int .u64 x.r3, .string x.s, .bool false, .slice none 0 0, .slice none 0 0] _ (hs3 _)).drew) (by simp [Value.oneCell']) | exact Src.ofSlice _ Tryz.underlying31 _ _ _ _ rfl (((CellsAt.new [.int .u64 x.r0, .int .u64 x.r1, .int .u64 x.r2, .int .u64 x.r3, .string x.s, .bool false, .slice none 0 0, .slice none 0 0] _ hW2s.symm).fr ((Fr.refl (fun _ => False) _).alloc _) (fun h => h)).drew) (by simp [Value.oneCell']) | exact Src.ofSlice _ Tryz.underlying31 _ _ _ _ rfl (CellsAt.mid ((CellsAt.new [.int .u64 x.r0, .int .u64 x.r1, .int .u64 x.r2, .int .u64 x.r3, .string x.s, .bool false, .slice none 0 0, .slice none 0 0] _ hW2s.symm).drew) hle2 htW.swap h9 (Fr.refl _ _)) (by simp [Value.oneCell']) | exact Src.ofSlice _ Tryz.underlying31 _ _ _ _ rfl (CellsAt.mid ((CellsAt.new [.int .u64 x.r0, .int .u64 x.r1, .int .u64 x.r2, .int .u64 x.r3, .string x.s, .bool false, .slice none 0 0, .slice none 0 0] _ (hs3 _)).drew) hle3 htW.swap h9 (Fr.refl _ _)) (by simp [Value.oneCell']) | exact Src.ofSlice _ Tryz.underlying31 _ _ _ _ rfl (CellsAt.mid (((CellsAt.new [.int .u64 x.r0, .int .u64 x.r1, .int .u64 x.r2, .int .u64 x.r3, .string x.s, .bool false, .slice none 0 0, .slice none 0 0] _ hW2s.symm).fr ((Fr.refl (fun _ => False) _).alloc _) (fun h => h)).drew) hle2 htW.swap h9 (Fr.refl _ _)) (by simp [Value.oneCell']) | exact Src.ofSlice _ Tryz.underlying31 _ _ _ _ rfl (CellsAt.new [.int .u64 x.r0, .int .u64 x.r1, .int .u64 x.r2, .int .u64 x.r3, .string x.s, .bool false, .slice none 0 0, .slice none 0 0] _ rfl) (by simp [Value.oneCell'])); (unfold maxLen; omega); omega; intro v5 u5 h5; obtain ⟨pa5, pc5, rfl⟩ := h5.shape; first | (have hkk := CellsAt.past hCY (fun hk => Nat.not_succ_lt_self (hro _ hk)) (((Fr.refl (fun _ => False) W2).alloc _).drew) h5; obtain ⟨k50, k51, k52, k53, k54, k55, k56, k57⟩ := hkk.eight; clear hkk) | (have hkk := CellsAt.past hCY (fun hk => Nat.not_succ_lt_self (hro _ hk)) ((((Fr.refl (fun _ => False) W2).alloc _).alloc _).drew) h5; obtain ⟨k50, k51, k52, k53, k54, k55, k56, k57⟩ := hkk.eight; clear hkk) | skip)
            | (refine step_append _ rfl cellEl _ _ rfl (.slice va σ.length vc) σ.length ((σ.map (valOf T)).flatMap Cell.cells8) rfl ?_ _ 1 [.int .u64 x.r0, .int .u64 x.r1, .int .u64 x.r2, .int .u64 x.r3, .string x.s, .bool false, .slice none 0 0, .slice none 0 0] rfl ?_ ?_ ?_ ?_; (first | exact htW.swap.first (((Fr.refl (fun _ => False) W2).alloc _).drew) | exact htW.swap.first ((((Fr.refl (fun _ => False) W2).alloc _).alloc _).drew) | exact htW.mid (((Fr.refl (fun _ => False) W2).alloc _).drew) h5 (Fr.refl _ _) | exact htW.mid (((Fr.refl (fun _ => False) W2).alloc _).drew) h5 ((Fr.refl _ _).alloc _) | exact htW.mid ((((Fr.refl (fun _ => False) W2).alloc _).alloc _).drew) h5 (Fr.refl _ _) | exact htW.mid ((((Fr.refl (fun _ => False) W2).alloc _).alloc _).drew) h5 ((Fr.refl _ _).alloc _)); (first | exact Src.ofSlice _ Tryz.underlying31 _ _ _ _ rfl ((CellsAt.new [.int .u64 x.r0, .int .u64 x.r1, .int .u64 x.r2, .int .u64 x.r3, .string x.s, .bool false, .slice none 0 0, .slice none 0 0] _ hW2s.symm).drew) (by simp [Value.oneCell']) | exact Src.ofSlice _ Tryz.underlying31 _ _ _ _ rfl ((CellsAt.new [.int .u64 x.r0, .int .u64 x.r1, .int .u64 x.r2, .int .u64 x.r3, .string x.s, .bool false, .slice none 0 0, .slice none 0 0] _ (hs3 _)).drew) (by simp [Value.oneCell']) | exact Src.ofSlice _ Tryz.underlying31 _ _ _ _ rfl (((CellsAt.new [.int .u64 x.r0, .int .u64 x.r1, .int .u64 x.r2, .int .u64 x.r3, .string x.s, .bool false, .slice none 0 0, .slice none 0 0] _ hW2s.symm).fr ((Fr.refl (fun _ => False) _).alloc _) (fun h => h)).drew) (by simp [Value.oneCell']) | exact Src.ofSlice _ Tryz.underlying31 _ _ _ _ rfl (CellsAt.mid ((CellsAt.new [.int .u64 x.r0, .int .u64 x.r1, .int .u64 x.r2, .int .u64 x.r3, .string x.s, .bool false, .slice none 0 0, .slice none 0 0] _ hW2s.symm).drew) hle2 htW h5 (Fr.refl _ _)) (by simp [Value.oneCell']) | exact Src.ofSlice _ Tryz.underlying31 _ _ _ _ rfl (CellsAt.mid ((CellsAt.new [.int .u64 x.r0, .int .u64 x.r1, .int .u64 x.r2, .int .u64 x.r3, .string x.s, .bool false, .slice none 0 0, .slice none 0 0] _ (hs3 _)).drew) hle3 htW h5 (Fr.refl _ _)) (by simp [Value.oneCell']) | exact Src.ofSlice _ Tryz.underlying31 _ _ _ _ rfl (CellsAt.mid (((CellsAt.new [.int .u64 x.r0, .int .u64 x.r1, .int .u64 x.r2, .int .u64 x.r3, .string x.s, .bool false, .slice none 0 0, .slice none 0 0] _ hW2s.symm).fr ((Fr.refl (fun _ => False) _).alloc _) (fun h => h)).drew) hle2 htW h5 (Fr.refl _ _)) (by simp [Value.oneCell']) | exact Src.ofSlice _ Tryz.underlying31 _ _ _ _ rfl (CellsAt.new [.int .u64 x.r0, .int .u64 x.r1, .int .u64 x.r2, .int .u64 x.r3, .string x.s, .bool false, .slice none 0 0, .slice none 0 0] _ rfl) (by simp [Value.oneCell'])); (unfold maxLen; omega); omega; intro v9 u9 h9; obtain ⟨pa9, pc9, rfl⟩ := h9.shape; first | (have hkk := CellsAt.past hCX (fun hk => Nat.ne_of_lt (hvo _ hk) rfl) (((Fr.refl (fun _ => False) W2).alloc _).drew) h9; obtain ⟨k90, k91, k92, k93, k94, k95, k96, k97⟩ := hkk.eight; clear hkk) | (have hkk := CellsAt.past hCX (fun hk => Nat.ne_of_lt (hvo _ hk) rfl) ((((Fr.refl (fun _ => False) W2).alloc _).alloc _).drew) h9; obtain ⟨k90, k91, k92, k93, k94, k95, k96, k97⟩ := hkk.eight; clear hkk) | skip))
          all_goals
            clear d0 da0 d1 da1 d2 da2 d3 da3 d4 da4 d5 da5 d6 da6 d7 da7 e0 ea0 e1 ea1 e2 ea2 e3 ea3 e4 ea4 e5 ea5 e6 ea6 e7 ea7
            go_wp2
            go_roundw
            case rel => first | exact NRel.next hBW hk hlt hσ hx htW hfr3 hcode3 (((Fr.refl (fun _ => False) W2).alloc _).drew) h5 (Fr.refl _ _) h9 hX8'.out hY8'.out rfl hmk'.out rfl | exact NRel.next hBW hk hlt hσ hx htW hfr3 hcode3 (((Fr.refl (fun _ => False) W2).alloc _).drew) h5 ((Fr.refl _ _).alloc _) h9 hX8'.out hY8'.out rfl hmk'.out rfl | exact NRel.next hBW hk hlt hσ hx htW hfr3 hcode3 ((((Fr.refl (fun _ => False) W2).alloc _).alloc _).drew) h5 (Fr.refl _ _) h9 hX8'.out hY8'.out rfl hmk'.out rfl | exact NRel.next hBW hk hlt hσ hx htW hfr3 hcode3 ((((Fr.refl (fun _ => False) W2).alloc _).alloc _).drew) h5 ((Fr.refl _ _).alloc _) h9 hX8'.out hY8'.out rfl hmk'.out rfl
            case measure => show ((k : Int) - 1).toNat < (k : Int).toNat; omega
      · have hk0 : ¬ (0 : Int) < k := by omega
        obtain ⟨hTx, hTr, -⟩ := hleaf T hT
        have hs30 : σ.length ≤ 30 := by omega
        obtain ⟨ra, rc, rfl⟩ := ownsRow_shape htwo.a
        obtain ⟨va, vc, rfl⟩ := ownsRow_shape htwo.b
        have hf0 : Fr (fun _ => False) w wr := ((((Fr.refl (fun _ => False) w).alloc _).trans hf1 (fun q hq h => by have : q = w.heap.size := h; omega)).trans hfW1 (fun _ _ h => h)).trans hfr (fun q hq h => by have : q = w.heap.size := h; omega)
        have htabr : Tabs wr := htab.below (hf0.below (Nat.le_refl _) (fun _ _ h => h))
        have htx := nul_textok hT hTx wr.heap.size wr _ (nul_lt hT rs' (by omega)) (Nat.le_refl _) (nul_text_len hT)
        have hce := fun wA (hf : Fr (fun _ => False) wr wA) => nulls_ce hT hTr htabr hs30 hσ htwo hf
        have hlo := fun wB (hf : Fr (fun _ => False) wr wB) => nulls_lo hT hTx hTr htabr hs30 hσ htwo hf
        have hle := nul_enc_le hT σ hσ hs30
        have hlaw : bstr (enc (.nul T) σ) = bstr (σ.map markOf) ++ bstr (enc T (σ.map (valOf T))) := by rw [bstr_append, nul_law hT]
        have hsum : ¬ 9223372036854775807 < (bstr (σ.map markOf)).size + (bstr (enc T (σ.map (valOf T)))).size := by rw [bstr_size, bstr_size, List.length_map]; omega
        have b0 : wr.cell? ⟨w1.heap.size, 0, none⟩ = some (.string (bstr T.nm)) := by rw [cell_of_row _ _ _ _ _ _ r6']; rfl
        have b1 : wr.cell? ⟨w1.heap.size, 1, none⟩ = some (.int .i64 T.sz) := by rw [cell_of_row _ _ _ _ _ _ r6']; rfl
        have b2 : wr.cell? ⟨w1.heap.size, 2, none⟩ = some (.slice none 0 0) := by rw [cell_of_row _ _ _ _ _ _ r6']; rfl
        have hle' := Lib.hid hle
        have hlaw' := Lib.hid hlaw
        clear hle hlaw htwo
        generalize bstr (text (.nul T)) = txt at htx hce
        go_wp2_with (first
          | (go_at_call 11; refine htx.mono ?_; rintro e wA ⟨rfl, hfA⟩)
          | (go_at_call 10; refine (hce _ hfA).mono ?_; rintro e wB ⟨v1, v2, rfl, hv2, hfB⟩; have hfAB := hfA.trans hfB (fun _ _ h => h); have c0 := hfAB.cell_some b0 (fun h => h); have c1 := hfAB.cell_some b1 (fun h => h); have c2 := hfAB.cell_some b2 (fun h => h); clear b0 b1 b2)
          | (go_at_call 12; refine (hlo _ hfAB).mono ?_; rintro e wC ⟨rfl, hfC⟩; have hcv := conv_bytes (Bytes.below hv2 (hfC.below (Nat.le_refl _) (fun _ _ h => h))); rw [hlaw'.out] at hcv))
        go_ret
        exact ⟨rfl, (hf0.trans hfAB (fun _ _ h => h)).trans hfC (fun _ _ h => h)⟩
end Go.Proofs.YtcidlnjpabgioaaGreatDoor
