/- The tables of probabilities of silk, by their names: the first ones. No condition. -/
import Derived.Test.YtngljoplalihkaaGreatDoorBbChain
namespace Go.Proofs.YtngljoplalihkaaGreatDoor
open Go Go.RowKit Go.Proofs.YtngljoplalihkaaGreatDoorW.PrintWords

def L_icdfFrameTypeVADActive : List Int := [256, 24, 98, 246, 256]
abbrev N_icdfFrameTypeVADActive : ByteArray := ⟨#[105, 99, 100, 102, 70, 114, 97, 109, 101, 84, 121, 112, 101, 86, 65, 68, 65, 99, 116, 105, 118, 101]⟩
theorem T_icdfFrameTypeVADActive (w : World) : Calls Tryz.prog 75 #[] w fun e w' => e = .returned (.slice (some ⟨w.heap.size, 0, none⟩) L_icdfFrameTypeVADActive.length L_icdfFrameTypeVADActive.length) ∧ w' = w.alloc (.cells (nums .u64 L_icdfFrameTypeVADActive).toArray 62) := by
  go_enter Tryz.func75, Tryz.ntmps75
  go_wp2
  go_ret
  exact ⟨rfl, rfl⟩
set_option maxRecDepth 100000 in
set_option maxHeartbeats 1000000 in
theorem R_icdfFrameTypeVADActive (w : World) : Calls Tryz.prog 8 #[.string N_icdfFrameTypeVADActive] w fun e w' => ∃ v, e = .returned (.tuple #[v, nilS]) ∧ w'.ownsRow w.heap.size 2 1 v L_icdfFrameTypeVADActive.length (nums .i64 L_icdfFrameTypeVADActive) ∧ Below w.heap.size w w' := by
  refine calls_of_wp Tryz.func8 rfl ?_
  refine chain_start (N := 767) (c := 46) (nm := N_icdfFrameTypeVADActive) (by simp [Tryz.ntmps8]) (by simp) rfl (by decide) (fun a h => ?_)
  iterate 57 refine chain_no h (by decide +kernel) (by decide) (fun a h => ?_)
  refine chain_yes h (by decide +kernel) (by decide) (fun a h => ?_)
  refine chain_arm h (fun _ => by kernel_rfl) (fun _ _ => by kernel_rfl) (by decide) (table_of L_icdfFrameTypeVADActive (by decide +kernel) (T_icdfFrameTypeVADActive w) numbers_any) (fun a v w2 hR h => ?_)
  refine tail_two h (by decide) (fun a h => ?_)
  exact post_two h rfl ⟨v, rfl, hR.1, hR.2⟩

def L_icdfFrameTypeVADInactive : List Int := [256, 26, 256]
abbrev N_icdfFrameTypeVADInactive : ByteArray := ⟨#[105, 99, 100, 102, 70, 114, 97, 109, 101, 84, 121, 112, 101, 86, 65, 68, 73, 110, 97, 99, 116, 105, 118, 101]⟩
theorem T_icdfFrameTypeVADInactive (w : World) : Calls Tryz.prog 76 #[] w fun e w' => e = .returned (.slice (some ⟨w.heap.size, 0, none⟩) L_icdfFrameTypeVADInactive.length L_icdfFrameTypeVADInactive.length) ∧ w' = w.alloc (.cells (nums .u64 L_icdfFrameTypeVADInactive).toArray 62) := by
  go_enter Tryz.func76, Tryz.ntmps76
  go_wp2
  go_ret
  exact ⟨rfl, rfl⟩
set_option maxRecDepth 100000 in
set_option maxHeartbeats 1000000 in
theorem R_icdfFrameTypeVADInactive (w : World) : Calls Tryz.prog 8 #[.string N_icdfFrameTypeVADInactive] w fun e w' => ∃ v, e = .returned (.tuple #[v, nilS]) ∧ w'.ownsRow w.heap.size 2 1 v L_icdfFrameTypeVADInactive.length (nums .i64 L_icdfFrameTypeVADInactive) ∧ Below w.heap.size w w' := by
  refine calls_of_wp Tryz.func8 rfl ?_
  refine chain_start (N := 767) (c := 46) (nm := N_icdfFrameTypeVADInactive) (by simp [Tryz.ntmps8]) (by simp) rfl (by decide) (fun a h => ?_)
  iterate 58 refine chain_no h (by decide +kernel) (by decide) (fun a h => ?_)
  refine chain_yes h (by decide +kernel) (by decide) (fun a h => ?_)
  refine chain_arm h (fun _ => by kernel_rfl) (fun _ _ => by kernel_rfl) (by decide) (table_of L_icdfFrameTypeVADInactive (by decide +kernel) (T_icdfFrameTypeVADInactive w) numbers_any) (fun a v w2 hR h => ?_)
  refine tail_two h (by decide) (fun a h => ?_)
  exact post_two h rfl ⟨v, rfl, hR.1, hR.2⟩

def L_icdfDeltaQuantizationGain : List Int := [256, 6, 11, 22, 53, 185, 206, 214, 218, 221, 223, 225, 227, 228, 229, 230, 231, 232, 233, 234, 235, 236, 237, 238, 239, 240, 241, 242, 243, 244, 245, 246, 247, 248, 249, 250, 251, 252, 253, 254, 255, 256]
abbrev N_icdfDeltaQuantizationGain : ByteArray := ⟨#[105, 99, 100, 102, 68, 101, 108, 116, 97, 81, 117, 97, 110, 116, 105, 122, 97, 116, 105, 111, 110, 71, 97, 105, 110]⟩
theorem T_icdfDeltaQuantizationGain (w : World) : Calls Tryz.prog 31 #[] w fun e w' => e = .returned (.slice (some ⟨w.heap.size, 0, none⟩) L_icdfDeltaQuantizationGain.length L_icdfDeltaQuantizationGain.length) ∧ w' = w.alloc (.cells (nums .u64 L_icdfDeltaQuantizationGain).toArray 62) := by
  go_enter Tryz.func31, Tryz.ntmps31
  go_wp2
  go_ret
  exact ⟨rfl, rfl⟩
set_option maxRecDepth 100000 in
set_option maxHeartbeats 1000000 in
theorem R_icdfDeltaQuantizationGain (w : World) : Calls Tryz.prog 8 #[.string N_icdfDeltaQuantizationGain] w fun e w' => ∃ v, e = .returned (.tuple #[v, nilS]) ∧ w'.ownsRow w.heap.size 2 1 v L_icdfDeltaQuantizationGain.length (nums .i64 L_icdfDeltaQuantizationGain) ∧ Below w.heap.size w w' := by
  refine calls_of_wp Tryz.func8 rfl ?_
  refine chain_start (N := 767) (c := 46) (nm := N_icdfDeltaQuantizationGain) (by simp [Tryz.ntmps8]) (by simp) rfl (by decide) (fun a h => ?_)
  iterate 13 refine chain_no h (by decide +kernel) (by decide) (fun a h => ?_)
  refine chain_yes h (by decide +kernel) (by decide) (fun a h => ?_)
  refine chain_arm h (fun _ => by kernel_rfl) (fun _ _ => by kernel_rfl) (by decide) (table_of L_icdfDeltaQuantizationGain (by decide +kernel) (T_icdfDeltaQuantizationGain w) numbers_any) (fun a v w2 hR h => ?_)
  refine tail_two h (by decide) (fun a h => ?_)
  exact post_two h rfl ⟨v, rfl, hR.1, hR.2⟩

def L_icdfExcitationLSB : List Int := [256, 136, 256]
abbrev N_icdfExcitationLSB : ByteArray := ⟨#[105, 99, 100, 102, 69, 120, 99, 105, 116, 97, 116, 105, 111, 110, 76, 83, 66]⟩
theorem T_icdfExcitationLSB (w : World) : Calls Tryz.prog 32 #[] w fun e w' => e = .returned (.slice (some ⟨w.heap.size, 0, none⟩) L_icdfExcitationLSB.length L_icdfExcitationLSB.length) ∧ w' = w.alloc (.cells (nums .u64 L_icdfExcitationLSB).toArray 62) := by
  go_enter Tryz.func32, Tryz.ntmps32
  go_wp2
  go_ret
  exact ⟨rfl, rfl⟩
set_option maxRecDepth 100000 in
set_option maxHeartbeats 1000000 in
theorem R_icdfExcitationLSB (w : World) : Calls Tryz.prog 8 #[.string N_icdfExcitationLSB] w fun e w' => ∃ v, e = .returned (.tuple #[v, nilS]) ∧ w'.ownsRow w.heap.size 2 1 v L_icdfExcitationLSB.length (nums .i64 L_icdfExcitationLSB) ∧ Below w.heap.size w w' := by
  refine calls_of_wp Tryz.func8 rfl ?_
  refine chain_start (N := 767) (c := 46) (nm := N_icdfExcitationLSB) (by simp [Tryz.ntmps8]) (by simp) rfl (by decide) (fun a h => ?_)
  iterate 14 refine chain_no h (by decide +kernel) (by decide) (fun a h => ?_)
  refine chain_yes h (by decide +kernel) (by decide) (fun a h => ?_)
  refine chain_arm h (fun _ => by kernel_rfl) (fun _ _ => by kernel_rfl) (by decide) (table_of L_icdfExcitationLSB (by decide +kernel) (T_icdfExcitationLSB w) numbers_any) (fun a v w2 hR h => ?_)
  refine tail_two h (by decide) (fun a h => ?_)
  exact post_two h rfl ⟨v, rfl, hR.1, hR.2⟩

def L_icdfStereoWeightsStageOne : List Int := [256, 7, 9, 10, 11, 12, 22, 46, 54, 55, 56, 59, 82, 174, 197, 200, 201, 202, 210, 234, 244, 245, 246, 247, 249, 256]
abbrev N_icdfStereoWeightsStageOne : ByteArray := ⟨#[105, 99, 100, 102, 83, 116, 101, 114, 101, 111, 87, 101, 105, 103, 104, 116, 115, 83, 116, 97, 103, 101, 79, 110, 101]⟩
theorem T_icdfStereoWeightsStageOne (w : World) : Calls Tryz.prog 109 #[] w fun e w' => e = .returned (.slice (some ⟨w.heap.size, 0, none⟩) L_icdfStereoWeightsStageOne.length L_icdfStereoWeightsStageOne.length) ∧ w' = w.alloc (.cells (nums .u64 L_icdfStereoWeightsStageOne).toArray 62) := by
  go_enter Tryz.func109, Tryz.ntmps109
  go_wp2
  go_ret
  exact ⟨rfl, rfl⟩
set_option maxRecDepth 100000 in
set_option maxHeartbeats 1000000 in
theorem R_icdfStereoWeightsStageOne (w : World) : Calls Tryz.prog 8 #[.string N_icdfStereoWeightsStageOne] w fun e w' => ∃ v, e = .returned (.tuple #[v, nilS]) ∧ w'.ownsRow w.heap.size 2 1 v L_icdfStereoWeightsStageOne.length (nums .i64 L_icdfStereoWeightsStageOne) ∧ Below w.heap.size w w' := by
  refine calls_of_wp Tryz.func8 rfl ?_
  refine chain_start (N := 767) (c := 46) (nm := N_icdfStereoWeightsStageOne) (by simp [Tryz.ntmps8]) (by simp) rfl (by decide) (fun a h => ?_)
  iterate 91 refine chain_no h (by decide +kernel) (by decide) (fun a h => ?_)
  refine chain_yes h (by decide +kernel) (by decide) (fun a h => ?_)
  refine chain_arm h (fun _ => by kernel_rfl) (fun _ _ => by kernel_rfl) (by decide) (table_of L_icdfStereoWeightsStageOne (by decide +kernel) (T_icdfStereoWeightsStageOne w) numbers_any) (fun a v w2 hR h => ?_)
  refine tail_two h (by decide) (fun a h => ?_)
  exact post_two h rfl ⟨v, rfl, hR.1, hR.2⟩

def L_icdfStereoWeightsStageTwo : List Int := [256, 85, 171, 256]
abbrev N_icdfStereoWeightsStageTwo : ByteArray := ⟨#[105, 99, 100, 102, 83, 116, 101, 114, 101, 111, 87, 101, 105, 103, 104, 116, 115, 83, 116, 97, 103, 101, 84, 119, 111]⟩
theorem T_icdfStereoWeightsStageTwo (w : World) : Calls Tryz.prog 111 #[] w fun e w' => e = .returned (.slice (some ⟨w.heap.size, 0, none⟩) L_icdfStereoWeightsStageTwo.length L_icdfStereoWeightsStageTwo.length) ∧ w' = w.alloc (.cells (nums .u64 L_icdfStereoWeightsStageTwo).toArray 62) := by
  go_enter Tryz.func111, Tryz.ntmps111
  go_wp2
  go_ret
  exact ⟨rfl, rfl⟩
set_option maxRecDepth 100000 in
set_option maxHeartbeats 1000000 in
theorem R_icdfStereoWeightsStageTwo (w : World) : Calls Tryz.prog 8 #[.string N_icdfStereoWeightsStageTwo] w fun e w' => ∃ v, e = .returned (.tuple #[v, nilS]) ∧ w'.ownsRow w.heap.size 2 1 v L_icdfStereoWeightsStageTwo.length (nums .i64 L_icdfStereoWeightsStageTwo) ∧ Below w.heap.size w w' := by
  refine calls_of_wp Tryz.func8 rfl ?_
  refine chain_start (N := 767) (c := 46) (nm := N_icdfStereoWeightsStageTwo) (by simp [Tryz.ntmps8]) (by simp) rfl (by decide) (fun a h => ?_)
  iterate 93 refine chain_no h (by decide +kernel) (by decide) (fun a h => ?_)
  refine chain_yes h (by decide +kernel) (by decide) (fun a h => ?_)
  refine chain_arm h (fun _ => by kernel_rfl) (fun _ _ => by kernel_rfl) (by decide) (table_of L_icdfStereoWeightsStageTwo (by decide +kernel) (T_icdfStereoWeightsStageTwo w) numbers_any) (fun a v w2 hR h => ?_)
  refine tail_two h (by decide) (fun a h => ?_)
  exact post_two h rfl ⟨v, rfl, hR.1, hR.2⟩

def L_icdfStereoWeightsStageThree : List Int := [256, 51, 102, 154, 205, 256]
abbrev N_icdfStereoWeightsStageThree : ByteArray := ⟨#[105, 99, 100, 102, 83, 116, 101, 114, 101, 111, 87, 101, 105, 103, 104, 116, 115, 83, 116, 97, 103, 101, 84, 104, 114, 101, 101]⟩
theorem T_icdfStereoWeightsStageThree (w : World) : Calls Tryz.prog 110 #[] w fun e w' => e = .returned (.slice (some ⟨w.heap.size, 0, none⟩) L_icdfStereoWeightsStageThree.length L_icdfStereoWeightsStageThree.length) ∧ w' = w.alloc (.cells (nums .u64 L_icdfStereoWeightsStageThree).toArray 62) := by
  go_enter Tryz.func110, Tryz.ntmps110
  go_wp2
  go_ret
  exact ⟨rfl, rfl⟩
set_option maxRecDepth 100000 in
set_option maxHeartbeats 1000000 in
theorem R_icdfStereoWeightsStageThree (w : World) : Calls Tryz.prog 8 #[.string N_icdfStereoWeightsStageThree] w fun e w' => ∃ v, e = .returned (.tuple #[v, nilS]) ∧ w'.ownsRow w.heap.size 2 1 v L_icdfStereoWeightsStageThree.length (nums .i64 L_icdfStereoWeightsStageThree) ∧ Below w.heap.size w w' := by
  refine calls_of_wp Tryz.func8 rfl ?_
  refine chain_start (N := 767) (c := 46) (nm := N_icdfStereoWeightsStageThree) (by simp [Tryz.ntmps8]) (by simp) rfl (by decide) (fun a h => ?_)
  iterate 92 refine chain_no h (by decide +kernel) (by decide) (fun a h => ?_)
  refine chain_yes h (by decide +kernel) (by decide) (fun a h => ?_)
  refine chain_arm h (fun _ => by kernel_rfl) (fun _ _ => by kernel_rfl) (by decide) (table_of L_icdfStereoWeightsStageThree (by decide +kernel) (T_icdfStereoWeightsStageThree w) numbers_any) (fun a v w2 hR h => ?_)
  refine tail_two h (by decide) (fun a h => ?_)
  exact post_two h rfl ⟨v, rfl, hR.1, hR.2⟩

def L_icdfStereoMidOnly : List Int := [256, 192, 256]
abbrev N_icdfStereoMidOnly : ByteArray := ⟨#[105, 99, 100, 102, 83, 116, 101, 114, 101, 111, 77, 105, 100, 79, 110, 108, 121]⟩
theorem T_icdfStereoMidOnly (w : World) : Calls Tryz.prog 108 #[] w fun e w' => e = .returned (.slice (some ⟨w.heap.size, 0, none⟩) L_icdfStereoMidOnly.length L_icdfStereoMidOnly.length) ∧ w' = w.alloc (.cells (nums .u64 L_icdfStereoMidOnly).toArray 62) := by
  go_enter Tryz.func108, Tryz.ntmps108
  go_wp2
  go_ret
  exact ⟨rfl, rfl⟩
set_option maxRecDepth 100000 in
set_option maxHeartbeats 1000000 in
theorem R_icdfStereoMidOnly (w : World) : Calls Tryz.prog 8 #[.string N_icdfStereoMidOnly] w fun e w' => ∃ v, e = .returned (.tuple #[v, nilS]) ∧ w'.ownsRow w.heap.size 2 1 v L_icdfStereoMidOnly.length (nums .i64 L_icdfStereoMidOnly) ∧ Below w.heap.size w w' := by
  refine calls_of_wp Tryz.func8 rfl ?_
  refine chain_start (N := 767) (c := 46) (nm := N_icdfStereoMidOnly) (by simp [Tryz.ntmps8]) (by simp) rfl (by decide) (fun a h => ?_)
  iterate 90 refine chain_no h (by decide +kernel) (by decide) (fun a h => ?_)
  refine chain_yes h (by decide +kernel) (by decide) (fun a h => ?_)
  refine chain_arm h (fun _ => by kernel_rfl) (fun _ _ => by kernel_rfl) (by decide) (table_of L_icdfStereoMidOnly (by decide +kernel) (T_icdfStereoMidOnly w) numbers_any) (fun a v w2 hR h => ?_)
  refine tail_two h (by decide) (fun a h => ?_)
  exact post_two h rfl ⟨v, rfl, hR.1, hR.2⟩
end Go.Proofs.YtngljoplalihkaaGreatDoor
