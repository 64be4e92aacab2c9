import Derived.Test.YtcidlnjpabgioaaGreatDoorUTieV
import Derived.Lib.LaidIn
set_option maxRecDepth 100000
namespace Go.Proofs.YtcidlnjpabgioaaGreatDoor
open Go
noncomputable def aCr (os:Os) (tape:Tape):Option (List (String × DataW Unit) × List MemPlace):=DataW.laidRun Tryz.prog (varsWorld Tryz.prog 400 716 os tape).memory 8 (jU.map (·.1))
theorem aJx:∀ os tape,(aCr os tape).map (fun x=>laidRowsB Tryz.prog (varsWorld Tryz.prog 400 716 os tape).memory x.2)=some true:=fun _ _=>by kernel_rfl
theorem aJv:∀ os tape,(aCr os tape).map (fun x=>nodupB (x.2.map MemPlace.codeOf))=some true:=fun _ _=>by kernel_rfl
theorem aJr:∀ os tape,(DataW.laidRun Tryz.prog (varsWorld Tryz.prog 400 (varsId Tryz.prog) os tape).memory 8 (jU.map (·.1))).map (fun x=>decide x.2.Nodup && laidRowsB Tryz.prog (varsWorld Tryz.prog 400 (varsId Tryz.prog) os tape).memory x.2)=some true:=by
 rw[xH];intro os tape;have h1:=aJx os tape;have h2:=aJv os tape;show (aCr os tape).map _=some true
 cases hx:aCr os tape with
 | none=>rw[hx] at h1;cases h1
 | some x =>
  rw[hx] at h1 h2;simp only[Option.map_some,Option.some.injEq] at h1 h2 ⊢;rw[h1,decide_eq_true (nodup_of_code h2)]
  rfl
end Go.Proofs.YtcidlnjpabgioaaGreatDoor
