/- The tables of probabilities of silk, by their names: the last ones. No condition. -/
import Derived.Test.YtngljoplalihkaaGreatDoorBbChain
namespace Go.Proofs.YtngljoplalihkaaGreatDoor
open Go Go.RowKit Go.Proofs.YtngljoplalihkaaGreatDoorW.PrintWords

def L_icdfLTPScalingParameter : List Int := [256, 128, 192, 256]
abbrev N_icdfLTPScalingParameter : ByteArray := ⟨#[105, 99, 100, 102, 76, 84, 80, 83, 99, 97, 108, 105, 110, 103, 80, 97, 114, 97, 109, 101, 116, 101, 114]⟩
theorem T_icdfLTPScalingParameter (w : World) : Calls Tryz.prog 84 #[] w fun e w' => e = .returned (.slice (some ⟨w.heap.size, 0, none⟩) L_icdfLTPScalingParameter.length L_icdfLTPScalingParameter.length) ∧ w' = w.alloc (.cells (nums .u64 L_icdfLTPScalingParameter).toArray 62) := by
  go_enter Tryz.func84, Tryz.ntmps84
  go_wp2
  go_ret
  exact ⟨rfl, rfl⟩
set_option maxRecDepth 100000 in
set_option maxHeartbeats 1000000 in
theorem R_icdfLTPScalingParameter (w : World) : Calls Tryz.prog 8 #[.string N_icdfLTPScalingParameter] w fun e w' => ∃ v, e = .returned (.tuple #[v, nilS]) ∧ w'.ownsRow w.heap.size 2 1 v L_icdfLTPScalingParameter.length (nums .i64 L_icdfLTPScalingParameter) ∧ Below w.heap.size w w' := by
  refine calls_of_wp Tryz.func8 rfl ?_
  refine chain_start (N := 767) (c := 46) (nm := N_icdfLTPScalingParameter) (by simp [Tryz.ntmps8]) (by simp) rfl (by decide) (fun a h => ?_)
  iterate 66 refine chain_no h (by decide +kernel) (by decide) (fun a h => ?_)
  refine chain_yes h (by decide +kernel) (by decide) (fun a h => ?_)
  refine chain_arm h (fun _ => by kernel_rfl) (fun _ _ => by kernel_rfl) (by decide) (table_of L_icdfLTPScalingParameter (by decide +kernel) (T_icdfLTPScalingParameter w) numbers_any) (fun a v w2 hR h => ?_)
  refine tail_two h (by decide) (fun a h => ?_)
  exact post_two h rfl ⟨v, rfl, hR.1, hR.2⟩

def L_icdfLinearCongruentialGeneratorSeed : List Int := [256, 64, 128, 192, 256]
abbrev N_icdfLinearCongruentialGeneratorSeed : ByteArray := ⟨#[105, 99, 100, 102, 76, 105, 110, 101, 97, 114, 67, 111, 110, 103, 114, 117, 101, 110, 116, 105, 97, 108, 71, 101, 110, 101, 114, 97, 116, 111, 114, 83, 101, 101, 100]⟩
theorem T_icdfLinearCongruentialGeneratorSeed (w : World) : Calls Tryz.prog 85 #[] w fun e w' => e = .returned (.slice (some ⟨w.heap.size, 0, none⟩) L_icdfLinearCongruentialGeneratorSeed.length L_icdfLinearCongruentialGeneratorSeed.length) ∧ w' = w.alloc (.cells (nums .u64 L_icdfLinearCongruentialGeneratorSeed).toArray 62) := by
  go_enter Tryz.func85, Tryz.ntmps85
  go_wp2
  go_ret
  exact ⟨rfl, rfl⟩
set_option maxRecDepth 100000 in
set_option maxHeartbeats 1000000 in
theorem R_icdfLinearCongruentialGeneratorSeed (w : World) : Calls Tryz.prog 8 #[.string N_icdfLinearCongruentialGeneratorSeed] w fun e w' => ∃ v, e = .returned (.tuple #[v, nilS]) ∧ w'.ownsRow w.heap.size 2 1 v L_icdfLinearCongruentialGeneratorSeed.length (nums .i64 L_icdfLinearCongruentialGeneratorSeed) ∧ Below w.heap.size w w' := by
  refine calls_of_wp Tryz.func8 rfl ?_
  refine chain_start (N := 767) (c := 46) (nm := N_icdfLinearCongruentialGeneratorSeed) (by simp [Tryz.ntmps8]) (by simp) rfl (by decide) (fun a h => ?_)
  iterate 67 refine chain_no h (by decide +kernel) (by decide) (fun a h => ?_)
  refine chain_yes h (by decide +kernel) (by decide) (fun a h => ?_)
  refine chain_arm h (fun _ => by kernel_rfl) (fun _ _ => by kernel_rfl) (by decide) (table_of L_icdfLinearCongruentialGeneratorSeed (by decide +kernel) (T_icdfLinearCongruentialGeneratorSeed w) numbers_any) (fun a v w2 hR h => ?_)
  refine tail_two h (by decide) (fun a h => ?_)
  exact post_two h rfl ⟨v, rfl, hR.1, hR.2⟩

def L_icdfNormalizedLSFInterpolationIndex : List Int := [256, 13, 35, 64, 75, 256]
abbrev N_icdfNormalizedLSFInterpolationIndex : ByteArray := ⟨#[105, 99, 100, 102, 78, 111, 114, 109, 97, 108, 105, 122, 101, 100, 76, 83, 70, 73, 110, 116, 101, 114, 112, 111, 108, 97, 116, 105, 111, 110, 73, 110, 100, 101, 120]⟩
theorem T_icdfNormalizedLSFInterpolationIndex (w : World) : Calls Tryz.prog 88 #[] w fun e w' => e = .returned (.slice (some ⟨w.heap.size, 0, none⟩) L_icdfNormalizedLSFInterpolationIndex.length L_icdfNormalizedLSFInterpolationIndex.length) ∧ w' = w.alloc (.cells (nums .u64 L_icdfNormalizedLSFInterpolationIndex).toArray 62) := by
  go_enter Tryz.func88, Tryz.ntmps88
  go_wp2
  go_ret
  exact ⟨rfl, rfl⟩
set_option maxRecDepth 100000 in
set_option maxHeartbeats 1000000 in
theorem R_icdfNormalizedLSFInterpolationIndex (w : World) : Calls Tryz.prog 8 #[.string N_icdfNormalizedLSFInterpolationIndex] w fun e w' => ∃ v, e = .returned (.tuple #[v, nilS]) ∧ w'.ownsRow w.heap.size 2 1 v L_icdfNormalizedLSFInterpolationIndex.length (nums .i64 L_icdfNormalizedLSFInterpolationIndex) ∧ Below w.heap.size w w' := by
  refine calls_of_wp Tryz.func8 rfl ?_
  refine chain_start (N := 767) (c := 46) (nm := N_icdfNormalizedLSFInterpolationIndex) (by simp [Tryz.ntmps8]) (by simp) rfl (by decide) (fun a h => ?_)
  iterate 70 refine chain_no h (by decide +kernel) (by decide) (fun a h => ?_)
  refine chain_yes h (by decide +kernel) (by decide) (fun a h => ?_)
  refine chain_arm h (fun _ => by kernel_rfl) (fun _ _ => by kernel_rfl) (by decide) (table_of L_icdfNormalizedLSFInterpolationIndex (by decide +kernel) (T_icdfNormalizedLSFInterpolationIndex w) numbers_any) (fun a v w2 hR h => ?_)
  refine tail_two h (by decide) (fun a h => ?_)
  exact post_two h rfl ⟨v, rfl, hR.1, hR.2⟩

def L_icdfIndependentQuantizationGainLSB : List Int := [256, 32, 64, 96, 128, 160, 192, 224, 256]
abbrev N_icdfIndependentQuantizationGainLSB : ByteArray := ⟨#[105, 99, 100, 102, 73, 110, 100, 101, 112, 101, 110, 100, 101, 110, 116, 81, 117, 97, 110, 116, 105, 122, 97, 116, 105, 111, 110, 71, 97, 105, 110, 76, 83, 66]⟩
theorem T_icdfIndependentQuantizationGainLSB (w : World) : Calls Tryz.prog 77 #[] w fun e w' => e = .returned (.slice (some ⟨w.heap.size, 0, none⟩) L_icdfIndependentQuantizationGainLSB.length L_icdfIndependentQuantizationGainLSB.length) ∧ w' = w.alloc (.cells (nums .u64 L_icdfIndependentQuantizationGainLSB).toArray 62) := by
  go_enter Tryz.func77, Tryz.ntmps77
  go_wp2
  go_ret
  exact ⟨rfl, rfl⟩
set_option maxRecDepth 100000 in
set_option maxHeartbeats 1000000 in
theorem R_icdfIndependentQuantizationGainLSB (w : World) : Calls Tryz.prog 8 #[.string N_icdfIndependentQuantizationGainLSB] w fun e w' => ∃ v, e = .returned (.tuple #[v, nilS]) ∧ w'.ownsRow w.heap.size 2 1 v L_icdfIndependentQuantizationGainLSB.length (nums .i64 L_icdfIndependentQuantizationGainLSB) ∧ Below w.heap.size w w' := by
  refine calls_of_wp Tryz.func8 rfl ?_
  refine chain_start (N := 767) (c := 46) (nm := N_icdfIndependentQuantizationGainLSB) (by simp [Tryz.ntmps8]) (by simp) rfl (by decide) (fun a h => ?_)
  iterate 59 refine chain_no h (by decide +kernel) (by decide) (fun a h => ?_)
  refine chain_yes h (by decide +kernel) (by decide) (fun a h => ?_)
  refine chain_arm h (fun _ => by kernel_rfl) (fun _ _ => by kernel_rfl) (by decide) (table_of L_icdfIndependentQuantizationGainLSB (by decide +kernel) (T_icdfIndependentQuantizationGainLSB w) numbers_any) (fun a v w2 hR h => ?_)
  refine tail_two h (by decide) (fun a h => ?_)
  exact post_two h rfl ⟨v, rfl, hR.1, hR.2⟩

def L_icdfIndependentQuantizationGainMSBInactive : List Int := [256, 32, 144, 212, 241, 253, 254, 255, 256]
abbrev N_icdfIndependentQuantizationGainMSBInactive : ByteArray := ⟨#[105, 99, 100, 102, 73, 110, 100, 101, 112, 101, 110, 100, 101, 110, 116, 81, 117, 97, 110, 116, 105, 122, 97, 116, 105, 111, 110, 71, 97, 105, 110, 77, 83, 66, 73, 110, 97, 99, 116, 105, 118, 101]⟩
theorem T_icdfIndependentQuantizationGainMSBInactive (w : World) : Calls Tryz.prog 78 #[] w fun e w' => e = .returned (.slice (some ⟨w.heap.size, 0, none⟩) L_icdfIndependentQuantizationGainMSBInactive.length L_icdfIndependentQuantizationGainMSBInactive.length) ∧ w' = w.alloc (.cells (nums .u64 L_icdfIndependentQuantizationGainMSBInactive).toArray 62) := by
  go_enter Tryz.func78, Tryz.ntmps78
  go_wp2
  go_ret
  exact ⟨rfl, rfl⟩
set_option maxRecDepth 100000 in
set_option maxHeartbeats 1000000 in
theorem R_icdfIndependentQuantizationGainMSBInactive (w : World) : Calls Tryz.prog 8 #[.string N_icdfIndependentQuantizationGainMSBInactive] w fun e w' => ∃ v, e = .returned (.tuple #[v, nilS]) ∧ w'.ownsRow w.heap.size 2 1 v L_icdfIndependentQuantizationGainMSBInactive.length (nums .i64 L_icdfIndependentQuantizationGainMSBInactive) ∧ Below w.heap.size w w' := by
  refine calls_of_wp Tryz.func8 rfl ?_
  refine chain_start (N := 767) (c := 46) (nm := N_icdfIndependentQuantizationGainMSBInactive) (by simp [Tryz.ntmps8]) (by simp) rfl (by decide) (fun a h => ?_)
  iterate 60 refine chain_no h (by decide +kernel) (by decide) (fun a h => ?_)
  refine chain_yes h (by decide +kernel) (by decide) (fun a h => ?_)
  refine chain_arm h (fun _ => by kernel_rfl) (fun _ _ => by kernel_rfl) (by decide) (table_of L_icdfIndependentQuantizationGainMSBInactive (by decide +kernel) (T_icdfIndependentQuantizationGainMSBInactive w) numbers_any) (fun a v w2 hR h => ?_)
  refine tail_two h (by decide) (fun a h => ?_)
  exact post_two h rfl ⟨v, rfl, hR.1, hR.2⟩

def L_icdfIndependentQuantizationGainMSBUnvoiced : List Int := [256, 2, 19, 64, 124, 186, 233, 252, 256]
abbrev N_icdfIndependentQuantizationGainMSBUnvoiced : ByteArray := ⟨#[105, 99, 100, 102, 73, 110, 100, 101, 112, 101, 110, 100, 101, 110, 116, 81, 117, 97, 110, 116, 105, 122, 97, 116, 105, 111, 110, 71, 97, 105, 110, 77, 83, 66, 85, 110, 118, 111, 105, 99, 101, 100]⟩
theorem T_icdfIndependentQuantizationGainMSBUnvoiced (w : World) : Calls Tryz.prog 79 #[] w fun e w' => e = .returned (.slice (some ⟨w.heap.size, 0, none⟩) L_icdfIndependentQuantizationGainMSBUnvoiced.length L_icdfIndependentQuantizationGainMSBUnvoiced.length) ∧ w' = w.alloc (.cells (nums .u64 L_icdfIndependentQuantizationGainMSBUnvoiced).toArray 62) := by
  go_enter Tryz.func79, Tryz.ntmps79
  go_wp2
  go_ret
  exact ⟨rfl, rfl⟩
set_option maxRecDepth 100000 in
set_option maxHeartbeats 1000000 in
theorem R_icdfIndependentQuantizationGainMSBUnvoiced (w : World) : Calls Tryz.prog 8 #[.string N_icdfIndependentQuantizationGainMSBUnvoiced] w fun e w' => ∃ v, e = .returned (.tuple #[v, nilS]) ∧ w'.ownsRow w.heap.size 2 1 v L_icdfIndependentQuantizationGainMSBUnvoiced.length (nums .i64 L_icdfIndependentQuantizationGainMSBUnvoiced) ∧ Below w.heap.size w w' := by
  refine calls_of_wp Tryz.func8 rfl ?_
  refine chain_start (N := 767) (c := 46) (nm := N_icdfIndependentQuantizationGainMSBUnvoiced) (by simp [Tryz.ntmps8]) (by simp) rfl (by decide) (fun a h => ?_)
  iterate 61 refine chain_no h (by decide +kernel) (by decide) (fun a h => ?_)
  refine chain_yes h (by decide +kernel) (by decide) (fun a h => ?_)
  refine chain_arm h (fun _ => by kernel_rfl) (fun _ _ => by kernel_rfl) (by decide) (table_of L_icdfIndependentQuantizationGainMSBUnvoiced (by decide +kernel) (T_icdfIndependentQuantizationGainMSBUnvoiced w) numbers_any) (fun a v w2 hR h => ?_)
  refine tail_two h (by decide) (fun a h => ?_)
  exact post_two h rfl ⟨v, rfl, hR.1, hR.2⟩

def L_icdfIndependentQuantizationGainMSBVoiced : List Int := [256, 1, 4, 30, 101, 195, 245, 254, 256]
abbrev N_icdfIndependentQuantizationGainMSBVoiced : ByteArray := ⟨#[105, 99, 100, 102, 73, 110, 100, 101, 112, 101, 110, 100, 101, 110, 116, 81, 117, 97, 110, 116, 105, 122, 97, 116, 105, 111, 110, 71, 97, 105, 110, 77, 83, 66, 86, 111, 105, 99, 101, 100]⟩
theorem T_icdfIndependentQuantizationGainMSBVoiced (w : World) : Calls Tryz.prog 80 #[] w fun e w' => e = .returned (.slice (some ⟨w.heap.size, 0, none⟩) L_icdfIndependentQuantizationGainMSBVoiced.length L_icdfIndependentQuantizationGainMSBVoiced.length) ∧ w' = w.alloc (.cells (nums .u64 L_icdfIndependentQuantizationGainMSBVoiced).toArray 62) := by
  go_enter Tryz.func80, Tryz.ntmps80
  go_wp2
  go_ret
  exact ⟨rfl, rfl⟩
set_option maxRecDepth 100000 in
set_option maxHeartbeats 1000000 in
theorem R_icdfIndependentQuantizationGainMSBVoiced (w : World) : Calls Tryz.prog 8 #[.string N_icdfIndependentQuantizationGainMSBVoiced] w fun e w' => ∃ v, e = .returned (.tuple #[v, nilS]) ∧ w'.ownsRow w.heap.size 2 1 v L_icdfIndependentQuantizationGainMSBVoiced.length (nums .i64 L_icdfIndependentQuantizationGainMSBVoiced) ∧ Below w.heap.size w w' := by
  refine calls_of_wp Tryz.func8 rfl ?_
  refine chain_start (N := 767) (c := 46) (nm := N_icdfIndependentQuantizationGainMSBVoiced) (by simp [Tryz.ntmps8]) (by simp) rfl (by decide) (fun a h => ?_)
  iterate 62 refine chain_no h (by decide +kernel) (by decide) (fun a h => ?_)
  refine chain_yes h (by decide +kernel) (by decide) (fun a h => ?_)
  refine chain_arm h (fun _ => by kernel_rfl) (fun _ _ => by kernel_rfl) (by decide) (table_of L_icdfIndependentQuantizationGainMSBVoiced (by decide +kernel) (T_icdfIndependentQuantizationGainMSBVoiced w) numbers_any) (fun a v w2 hR h => ?_)
  refine tail_two h (by decide) (fun a h => ?_)
  exact post_two h rfl ⟨v, rfl, hR.1, hR.2⟩
end Go.Proofs.YtngljoplalihkaaGreatDoor
