/- What every row asks of the program: closed facts, each alone. -/
import Derived.Test.YtcidlnjpabgioaaGreatDoorRows
import Derived.ProofKit
namespace Go.Proofs.YtcidlnjpabgioaaGreatDoor
open Go
set_option maxRecDepth 100000

theorem of_piece {f : Nat → Bool} {a k : Nat} (h : (List.range' a k).all f = true) {i : Nat} (h1 : a ≤ i) (h2 : i < a + k) : f i = true := List.all_eq_true.1 h i (List.mem_range'_1.2 ⟨h1, h2⟩)
theorem types_size : Tryz.prog.types.size = 683 := by kernel_rfl
theorem rows_a : (List.range' 0 250).all (rowFine Tryz.prog) = true := by kernel_rfl
theorem rows_b : (List.range' 250 170).all (rowFine Tryz.prog) = true := by kernel_rfl
theorem rows_c : (List.range' 420 140).all (rowFine Tryz.prog) = true := by kernel_rfl
theorem rows_d : (List.range' 560 123).all (rowFine Tryz.prog) = true := by kernel_rfl
theorem rows_all : (List.range Tryz.prog.types.size).all (rowFine Tryz.prog) = true := by
  rw [types_size, List.all_eq_true]
  intro i hi
  have h : i < 683 := List.mem_range.1 hi
  rcases Nat.lt_or_ge i 250 with h1 | h1
  · exact of_piece rows_a (Nat.zero_le _) (by omega)
  · rcases Nat.lt_or_ge i 420 with h2 | h2
    · exact of_piece rows_b h1 (by omega)
    · rcases Nat.lt_or_ge i 560 with h3 | h3
      · exact of_piece rows_c h2 (by omega)
      · exact of_piece rows_d h3 (by omega)
theorem globals_fine : Tryz.prog.globals.all (fun g => decide (g.type < Tryz.prog.types.size)) = true := by kernel_rfl
theorem funcs_fine : Tryz.prog.funcs.all (fun f => f.params.all fun t => decide (t < Tryz.prog.types.size)) = true := by kernel_rfl
theorem laid_out : laidOutB Tryz.prog = true := by
  unfold laidOutB
  rw [rows_all, globals_fine, funcs_fine]
  rfl
end Go.Proofs.YtcidlnjpabgioaaGreatDoor
