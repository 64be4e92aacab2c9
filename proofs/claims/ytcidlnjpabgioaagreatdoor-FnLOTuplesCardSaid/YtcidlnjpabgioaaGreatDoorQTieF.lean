import Derived.Test.YtcidlnjpabgioaaGreatDoorQTieV
import Derived.Lib.LaidIn
namespace Go.Proofs.YtcidlnjpabgioaaGreatDoor
open Go
set_option maxRecDepth 100000
noncomputable def tieRun (os : Os) (tape : Tape) : Option (List (String × DataW Unit) × List MemPlace) := DataW.laidRun Tryz.prog (varsWorld Tryz.prog 400 716 os tape).memory 8 (tieList.map (·.1))
theorem tie_rows0 : ∀ os tape, (tieRun os tape).map (fun x => laidRowsB Tryz.prog (varsWorld Tryz.prog 400 716 os tape).memory x.2) = some true := fun _ _ => by kernel_rfl
theorem tie_once0 : ∀ os tape, (tieRun os tape).map (fun x => nodupB (x.2.map MemPlace.codeOf)) = some true := fun _ _ => by kernel_rfl
theorem tie_apart : ∀ os tape, (DataW.laidRun Tryz.prog (varsWorld Tryz.prog 400 (varsId Tryz.prog) os tape).memory 8 (tieList.map (·.1))).map (fun x => decide x.2.Nodup && laidRowsB Tryz.prog (varsWorld Tryz.prog 400 (varsId Tryz.prog) os tape).memory x.2) = some true := by
 rw [vars_id]
 intro os tape
 have h1 := tie_rows0 os tape
 have h2 := tie_once0 os tape
 show (tieRun os tape).map _ = some true
 cases hx : tieRun os tape with
 | none => rw [hx] at h1; cases h1
 | some x =>
  rw [hx] at h1 h2
  simp only [Option.map_some, Option.some.injEq] at h1 h2 ⊢
  rw [h1, decide_eq_true (nodup_of_code h2)]
  rfl
end Go.Proofs.YtcidlnjpabgioaaGreatDoor
