/- The names that silk does not know: of celt. No condition. -/
import Derived.Test.YtngljoplalihkaaGreatDoorBcTab4
namespace Go.Proofs.YtngljoplalihkaaGreatDoor
open Go Go.RowKit Go.Proofs.YtngljoplalihkaaGreatDoorW.PrintWords

abbrev N_bandEdges : ByteArray := ⟨#[98, 97, 110, 100, 69, 100, 103, 101, 115]⟩

set_option maxRecDepth 100000 in
set_option maxHeartbeats 2000000 in
theorem M_icdfTapset (w : World) : Calls Tryz.prog 8 #[.string N_icdfTapset] w fun e w' => e = .returned (.tuple #[nilS, nilS]) ∧ w' = w := by
  refine calls_of_wp Tryz.func8 rfl ?_
  refine chain_start (N := 767) (c := 46) (nm := N_icdfTapset) (by simp [Tryz.ntmps8]) (by simp) rfl (by decide) (fun a h => ?_)
  iterate 106 refine chain_no h (by decide +kernel) (by decide) (fun a h => ?_)
  refine wp_skip ?_
  refine tail_two h (by decide) (fun a h => ?_)
  exact post_two h rfl ⟨rfl, rfl⟩

set_option maxRecDepth 100000 in
set_option maxHeartbeats 2000000 in
theorem M_icdfSpread (w : World) : Calls Tryz.prog 8 #[.string N_icdfSpread] w fun e w' => e = .returned (.tuple #[nilS, nilS]) ∧ w' = w := by
  refine calls_of_wp Tryz.func8 rfl ?_
  refine chain_start (N := 767) (c := 46) (nm := N_icdfSpread) (by simp [Tryz.ntmps8]) (by simp) rfl (by decide) (fun a h => ?_)
  iterate 106 refine chain_no h (by decide +kernel) (by decide) (fun a h => ?_)
  refine wp_skip ?_
  refine tail_two h (by decide) (fun a h => ?_)
  exact post_two h rfl ⟨rfl, rfl⟩

set_option maxRecDepth 100000 in
set_option maxHeartbeats 2000000 in
theorem M_icdfAllocationTrim (w : World) : Calls Tryz.prog 8 #[.string N_icdfAllocationTrim] w fun e w' => e = .returned (.tuple #[nilS, nilS]) ∧ w' = w := by
  refine calls_of_wp Tryz.func8 rfl ?_
  refine chain_start (N := 767) (c := 46) (nm := N_icdfAllocationTrim) (by simp [Tryz.ntmps8]) (by simp) rfl (by decide) (fun a h => ?_)
  iterate 106 refine chain_no h (by decide +kernel) (by decide) (fun a h => ?_)
  refine wp_skip ?_
  refine tail_two h (by decide) (fun a h => ?_)
  exact post_two h rfl ⟨rfl, rfl⟩

set_option maxRecDepth 100000 in
set_option maxHeartbeats 2000000 in
theorem M_icdfSmallEnergy (w : World) : Calls Tryz.prog 8 #[.string N_icdfSmallEnergy] w fun e w' => e = .returned (.tuple #[nilS, nilS]) ∧ w' = w := by
  refine calls_of_wp Tryz.func8 rfl ?_
  refine chain_start (N := 767) (c := 46) (nm := N_icdfSmallEnergy) (by simp [Tryz.ntmps8]) (by simp) rfl (by decide) (fun a h => ?_)
  iterate 106 refine chain_no h (by decide +kernel) (by decide) (fun a h => ?_)
  refine wp_skip ?_
  refine tail_two h (by decide) (fun a h => ?_)
  exact post_two h rfl ⟨rfl, rfl⟩

set_option maxRecDepth 100000 in
set_option maxHeartbeats 2000000 in
theorem M_bandEdges (w : World) : Calls Tryz.prog 8 #[.string N_bandEdges] w fun e w' => e = .returned (.tuple #[nilS, nilS]) ∧ w' = w := by
  refine calls_of_wp Tryz.func8 rfl ?_
  refine chain_start (N := 767) (c := 46) (nm := N_bandEdges) (by simp [Tryz.ntmps8]) (by simp) rfl (by decide) (fun a h => ?_)
  iterate 106 refine chain_no h (by decide +kernel) (by decide) (fun a h => ?_)
  refine wp_skip ?_
  refine tail_two h (by decide) (fun a h => ?_)
  exact post_two h rfl ⟨rfl, rfl⟩
end Go.Proofs.YtngljoplalihkaaGreatDoor
