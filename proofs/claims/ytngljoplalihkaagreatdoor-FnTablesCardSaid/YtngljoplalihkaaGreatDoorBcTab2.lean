/- The tables of probabilities of silk, by their names: more of them. No condition. -/
import Derived.Test.YtngljoplalihkaaGreatDoorBbChain
namespace Go.Proofs.YtngljoplalihkaaGreatDoor
open Go Go.RowKit Go.Proofs.YtngljoplalihkaaGreatDoorW.PrintWords

def L_icdfRateLevelUnvoiced : List Int := [256, 15, 66, 78, 124, 169, 182, 215, 242, 256]
abbrev N_icdfRateLevelUnvoiced : ByteArray := ⟨#[105, 99, 100, 102, 82, 97, 116, 101, 76, 101, 118, 101, 108, 85, 110, 118, 111, 105, 99, 101, 100]⟩
theorem T_icdfRateLevelUnvoiced (w : World) : Calls Tryz.prog 106 #[] w fun e w' => e = .returned (.slice (some ⟨w.heap.size, 0, none⟩) L_icdfRateLevelUnvoiced.length L_icdfRateLevelUnvoiced.length) ∧ w' = w.alloc (.cells (nums .u64 L_icdfRateLevelUnvoiced).toArray 62) := by
  go_enter Tryz.func106, Tryz.ntmps106
  go_wp2
  go_ret
  exact ⟨rfl, rfl⟩
set_option maxRecDepth 100000 in
set_option maxHeartbeats 1000000 in
theorem R_icdfRateLevelUnvoiced (w : World) : Calls Tryz.prog 8 #[.string N_icdfRateLevelUnvoiced] w fun e w' => ∃ v, e = .returned (.tuple #[v, nilS]) ∧ w'.ownsRow w.heap.size 2 1 v L_icdfRateLevelUnvoiced.length (nums .i64 L_icdfRateLevelUnvoiced) ∧ Below w.heap.size w w' := by
  refine calls_of_wp Tryz.func8 rfl ?_
  refine chain_start (N := 767) (c := 46) (nm := N_icdfRateLevelUnvoiced) (by simp [Tryz.ntmps8]) (by simp) rfl (by decide) (fun a h => ?_)
  iterate 88 refine chain_no h (by decide +kernel) (by decide) (fun a h => ?_)
  refine chain_yes h (by decide +kernel) (by decide) (fun a h => ?_)
  refine chain_arm h (fun _ => by kernel_rfl) (fun _ _ => by kernel_rfl) (by decide) (table_of L_icdfRateLevelUnvoiced (by decide +kernel) (T_icdfRateLevelUnvoiced w) numbers_any) (fun a v w2 hR h => ?_)
  refine tail_two h (by decide) (fun a h => ?_)
  exact post_two h rfl ⟨v, rfl, hR.1, hR.2⟩

def L_icdfRateLevelVoiced : List Int := [256, 33, 63, 99, 116, 150, 199, 217, 238, 256]
abbrev N_icdfRateLevelVoiced : ByteArray := ⟨#[105, 99, 100, 102, 82, 97, 116, 101, 76, 101, 118, 101, 108, 86, 111, 105, 99, 101, 100]⟩
theorem T_icdfRateLevelVoiced (w : World) : Calls Tryz.prog 107 #[] w fun e w' => e = .returned (.slice (some ⟨w.heap.size, 0, none⟩) L_icdfRateLevelVoiced.length L_icdfRateLevelVoiced.length) ∧ w' = w.alloc (.cells (nums .u64 L_icdfRateLevelVoiced).toArray 62) := by
  go_enter Tryz.func107, Tryz.ntmps107
  go_wp2
  go_ret
  exact ⟨rfl, rfl⟩
set_option maxRecDepth 100000 in
set_option maxHeartbeats 1000000 in
theorem R_icdfRateLevelVoiced (w : World) : Calls Tryz.prog 8 #[.string N_icdfRateLevelVoiced] w fun e w' => ∃ v, e = .returned (.tuple #[v, nilS]) ∧ w'.ownsRow w.heap.size 2 1 v L_icdfRateLevelVoiced.length (nums .i64 L_icdfRateLevelVoiced) ∧ Below w.heap.size w w' := by
  refine calls_of_wp Tryz.func8 rfl ?_
  refine chain_start (N := 767) (c := 46) (nm := N_icdfRateLevelVoiced) (by simp [Tryz.ntmps8]) (by simp) rfl (by decide) (fun a h => ?_)
  iterate 89 refine chain_no h (by decide +kernel) (by decide) (fun a h => ?_)
  refine chain_yes h (by decide +kernel) (by decide) (fun a h => ?_)
  refine chain_arm h (fun _ => by kernel_rfl) (fun _ _ => by kernel_rfl) (by decide) (table_of L_icdfRateLevelVoiced (by decide +kernel) (T_icdfRateLevelVoiced w) numbers_any) (fun a v w2 hR h => ?_)
  refine tail_two h (by decide) (fun a h => ?_)
  exact post_two h rfl ⟨v, rfl, hR.1, hR.2⟩

def L_icdfPeriodicityIndex : List Int := [256, 77, 157, 256]
abbrev N_icdfPeriodicityIndex : ByteArray := ⟨#[105, 99, 100, 102, 80, 101, 114, 105, 111, 100, 105, 99, 105, 116, 121, 73, 110, 100, 101, 120]⟩
theorem T_icdfPeriodicityIndex (w : World) : Calls Tryz.prog 95 #[] w fun e w' => e = .returned (.slice (some ⟨w.heap.size, 0, none⟩) L_icdfPeriodicityIndex.length L_icdfPeriodicityIndex.length) ∧ w' = w.alloc (.cells (nums .u64 L_icdfPeriodicityIndex).toArray 62) := by
  go_enter Tryz.func95, Tryz.ntmps95
  go_wp2
  go_ret
  exact ⟨rfl, rfl⟩
set_option maxRecDepth 100000 in
set_option maxHeartbeats 1000000 in
theorem R_icdfPeriodicityIndex (w : World) : Calls Tryz.prog 8 #[.string N_icdfPeriodicityIndex] w fun e w' => ∃ v, e = .returned (.tuple #[v, nilS]) ∧ w'.ownsRow w.heap.size 2 1 v L_icdfPeriodicityIndex.length (nums .i64 L_icdfPeriodicityIndex) ∧ Below w.heap.size w w' := by
  refine calls_of_wp Tryz.func8 rfl ?_
  refine chain_start (N := 767) (c := 46) (nm := N_icdfPeriodicityIndex) (by simp [Tryz.ntmps8]) (by simp) rfl (by decide) (fun a h => ?_)
  iterate 77 refine chain_no h (by decide +kernel) (by decide) (fun a h => ?_)
  refine chain_yes h (by decide +kernel) (by decide) (fun a h => ?_)
  refine chain_arm h (fun _ => by kernel_rfl) (fun _ _ => by kernel_rfl) (by decide) (table_of L_icdfPeriodicityIndex (by decide +kernel) (T_icdfPeriodicityIndex w) numbers_any) (fun a v w2 hR h => ?_)
  refine tail_two h (by decide) (fun a h => ?_)
  exact post_two h rfl ⟨v, rfl, hR.1, hR.2⟩

def L_icdfPrimaryPitchLagChange : List Int := [256, 46, 48, 50, 53, 57, 63, 73, 88, 114, 152, 182, 204, 219, 229, 236, 242, 246, 250, 252, 254, 256]
abbrev N_icdfPrimaryPitchLagChange : ByteArray := ⟨#[105, 99, 100, 102, 80, 114, 105, 109, 97, 114, 121, 80, 105, 116, 99, 104, 76, 97, 103, 67, 104, 97, 110, 103, 101]⟩
theorem T_icdfPrimaryPitchLagChange (w : World) : Calls Tryz.prog 96 #[] w fun e w' => e = .returned (.slice (some ⟨w.heap.size, 0, none⟩) L_icdfPrimaryPitchLagChange.length L_icdfPrimaryPitchLagChange.length) ∧ w' = w.alloc (.cells (nums .u64 L_icdfPrimaryPitchLagChange).toArray 62) := by
  go_enter Tryz.func96, Tryz.ntmps96
  go_wp2
  go_ret
  exact ⟨rfl, rfl⟩
set_option maxRecDepth 100000 in
set_option maxHeartbeats 1000000 in
theorem R_icdfPrimaryPitchLagChange (w : World) : Calls Tryz.prog 8 #[.string N_icdfPrimaryPitchLagChange] w fun e w' => ∃ v, e = .returned (.tuple #[v, nilS]) ∧ w'.ownsRow w.heap.size 2 1 v L_icdfPrimaryPitchLagChange.length (nums .i64 L_icdfPrimaryPitchLagChange) ∧ Below w.heap.size w w' := by
  refine calls_of_wp Tryz.func8 rfl ?_
  refine chain_start (N := 767) (c := 46) (nm := N_icdfPrimaryPitchLagChange) (by simp [Tryz.ntmps8]) (by simp) rfl (by decide) (fun a h => ?_)
  iterate 78 refine chain_no h (by decide +kernel) (by decide) (fun a h => ?_)
  refine chain_yes h (by decide +kernel) (by decide) (fun a h => ?_)
  refine chain_arm h (fun _ => by kernel_rfl) (fun _ _ => by kernel_rfl) (by decide) (table_of L_icdfPrimaryPitchLagChange (by decide +kernel) (T_icdfPrimaryPitchLagChange w) numbers_any) (fun a v w2 hR h => ?_)
  refine tail_two h (by decide) (fun a h => ?_)
  exact post_two h rfl ⟨v, rfl, hR.1, hR.2⟩

def L_icdfPrimaryPitchLagHighPart : List Int := [256, 3, 6, 12, 23, 44, 74, 106, 125, 136, 146, 158, 171, 184, 196, 207, 216, 224, 231, 237, 241, 243, 245, 247, 248, 249, 250, 251, 252, 253, 254, 255, 256]
abbrev N_icdfPrimaryPitchLagHighPart : ByteArray := ⟨#[105, 99, 100, 102, 80, 114, 105, 109, 97, 114, 121, 80, 105, 116, 99, 104, 76, 97, 103, 72, 105, 103, 104, 80, 97, 114, 116]⟩
theorem T_icdfPrimaryPitchLagHighPart (w : World) : Calls Tryz.prog 97 #[] w fun e w' => e = .returned (.slice (some ⟨w.heap.size, 0, none⟩) L_icdfPrimaryPitchLagHighPart.length L_icdfPrimaryPitchLagHighPart.length) ∧ w' = w.alloc (.cells (nums .u64 L_icdfPrimaryPitchLagHighPart).toArray 62) := by
  go_enter Tryz.func97, Tryz.ntmps97
  go_wp2
  go_ret
  exact ⟨rfl, rfl⟩
set_option maxRecDepth 100000 in
set_option maxHeartbeats 1000000 in
theorem R_icdfPrimaryPitchLagHighPart (w : World) : Calls Tryz.prog 8 #[.string N_icdfPrimaryPitchLagHighPart] w fun e w' => ∃ v, e = .returned (.tuple #[v, nilS]) ∧ w'.ownsRow w.heap.size 2 1 v L_icdfPrimaryPitchLagHighPart.length (nums .i64 L_icdfPrimaryPitchLagHighPart) ∧ Below w.heap.size w w' := by
  refine calls_of_wp Tryz.func8 rfl ?_
  refine chain_start (N := 767) (c := 46) (nm := N_icdfPrimaryPitchLagHighPart) (by simp [Tryz.ntmps8]) (by simp) rfl (by decide) (fun a h => ?_)
  iterate 79 refine chain_no h (by decide +kernel) (by decide) (fun a h => ?_)
  refine chain_yes h (by decide +kernel) (by decide) (fun a h => ?_)
  refine chain_arm h (fun _ => by kernel_rfl) (fun _ _ => by kernel_rfl) (by decide) (table_of L_icdfPrimaryPitchLagHighPart (by decide +kernel) (T_icdfPrimaryPitchLagHighPart w) numbers_any) (fun a v w2 hR h => ?_)
  refine tail_two h (by decide) (fun a h => ?_)
  exact post_two h rfl ⟨v, rfl, hR.1, hR.2⟩

def L_icdfLTPFilterIndex0 : List Int := [256, 185, 200, 213, 226, 235, 244, 250, 256]
abbrev N_icdfLTPFilterIndex0 : ByteArray := ⟨#[105, 99, 100, 102, 76, 84, 80, 70, 105, 108, 116, 101, 114, 73, 110, 100, 101, 120, 48]⟩
theorem T_icdfLTPFilterIndex0 (w : World) : Calls Tryz.prog 81 #[] w fun e w' => e = .returned (.slice (some ⟨w.heap.size, 0, none⟩) L_icdfLTPFilterIndex0.length L_icdfLTPFilterIndex0.length) ∧ w' = w.alloc (.cells (nums .u64 L_icdfLTPFilterIndex0).toArray 62) := by
  go_enter Tryz.func81, Tryz.ntmps81
  go_wp2
  go_ret
  exact ⟨rfl, rfl⟩
set_option maxRecDepth 100000 in
set_option maxHeartbeats 1000000 in
theorem R_icdfLTPFilterIndex0 (w : World) : Calls Tryz.prog 8 #[.string N_icdfLTPFilterIndex0] w fun e w' => ∃ v, e = .returned (.tuple #[v, nilS]) ∧ w'.ownsRow w.heap.size 2 1 v L_icdfLTPFilterIndex0.length (nums .i64 L_icdfLTPFilterIndex0) ∧ Below w.heap.size w w' := by
  refine calls_of_wp Tryz.func8 rfl ?_
  refine chain_start (N := 767) (c := 46) (nm := N_icdfLTPFilterIndex0) (by simp [Tryz.ntmps8]) (by simp) rfl (by decide) (fun a h => ?_)
  iterate 63 refine chain_no h (by decide +kernel) (by decide) (fun a h => ?_)
  refine chain_yes h (by decide +kernel) (by decide) (fun a h => ?_)
  refine chain_arm h (fun _ => by kernel_rfl) (fun _ _ => by kernel_rfl) (by decide) (table_of L_icdfLTPFilterIndex0 (by decide +kernel) (T_icdfLTPFilterIndex0 w) numbers_any) (fun a v w2 hR h => ?_)
  refine tail_two h (by decide) (fun a h => ?_)
  exact post_two h rfl ⟨v, rfl, hR.1, hR.2⟩

def L_icdfLTPFilterIndex1 : List Int := [256, 57, 91, 112, 132, 147, 160, 172, 185, 195, 205, 214, 224, 233, 241, 248, 256]
abbrev N_icdfLTPFilterIndex1 : ByteArray := ⟨#[105, 99, 100, 102, 76, 84, 80, 70, 105, 108, 116, 101, 114, 73, 110, 100, 101, 120, 49]⟩
theorem T_icdfLTPFilterIndex1 (w : World) : Calls Tryz.prog 82 #[] w fun e w' => e = .returned (.slice (some ⟨w.heap.size, 0, none⟩) L_icdfLTPFilterIndex1.length L_icdfLTPFilterIndex1.length) ∧ w' = w.alloc (.cells (nums .u64 L_icdfLTPFilterIndex1).toArray 62) := by
  go_enter Tryz.func82, Tryz.ntmps82
  go_wp2
  go_ret
  exact ⟨rfl, rfl⟩
set_option maxRecDepth 100000 in
set_option maxHeartbeats 1000000 in
theorem R_icdfLTPFilterIndex1 (w : World) : Calls Tryz.prog 8 #[.string N_icdfLTPFilterIndex1] w fun e w' => ∃ v, e = .returned (.tuple #[v, nilS]) ∧ w'.ownsRow w.heap.size 2 1 v L_icdfLTPFilterIndex1.length (nums .i64 L_icdfLTPFilterIndex1) ∧ Below w.heap.size w w' := by
  refine calls_of_wp Tryz.func8 rfl ?_
  refine chain_start (N := 767) (c := 46) (nm := N_icdfLTPFilterIndex1) (by simp [Tryz.ntmps8]) (by simp) rfl (by decide) (fun a h => ?_)
  iterate 64 refine chain_no h (by decide +kernel) (by decide) (fun a h => ?_)
  refine chain_yes h (by decide +kernel) (by decide) (fun a h => ?_)
  refine chain_arm h (fun _ => by kernel_rfl) (fun _ _ => by kernel_rfl) (by decide) (table_of L_icdfLTPFilterIndex1 (by decide +kernel) (T_icdfLTPFilterIndex1 w) numbers_any) (fun a v w2 hR h => ?_)
  refine tail_two h (by decide) (fun a h => ?_)
  exact post_two h rfl ⟨v, rfl, hR.1, hR.2⟩

def L_icdfLTPFilterIndex2 : List Int := [256, 15, 31, 45, 57, 69, 81, 92, 103, 114, 124, 133, 142, 151, 160, 168, 176, 184, 192, 199, 206, 212, 218, 223, 227, 232, 236, 240, 244, 247, 251, 254, 256]
abbrev N_icdfLTPFilterIndex2 : ByteArray := ⟨#[105, 99, 100, 102, 76, 84, 80, 70, 105, 108, 116, 101, 114, 73, 110, 100, 101, 120, 50]⟩
theorem T_icdfLTPFilterIndex2 (w : World) : Calls Tryz.prog 83 #[] w fun e w' => e = .returned (.slice (some ⟨w.heap.size, 0, none⟩) L_icdfLTPFilterIndex2.length L_icdfLTPFilterIndex2.length) ∧ w' = w.alloc (.cells (nums .u64 L_icdfLTPFilterIndex2).toArray 62) := by
  go_enter Tryz.func83, Tryz.ntmps83
  go_wp2
  go_ret
  exact ⟨rfl, rfl⟩
set_option maxRecDepth 100000 in
set_option maxHeartbeats 1000000 in
theorem R_icdfLTPFilterIndex2 (w : World) : Calls Tryz.prog 8 #[.string N_icdfLTPFilterIndex2] w fun e w' => ∃ v, e = .returned (.tuple #[v, nilS]) ∧ w'.ownsRow w.heap.size 2 1 v L_icdfLTPFilterIndex2.length (nums .i64 L_icdfLTPFilterIndex2) ∧ Below w.heap.size w w' := by
  refine calls_of_wp Tryz.func8 rfl ?_
  refine chain_start (N := 767) (c := 46) (nm := N_icdfLTPFilterIndex2) (by simp [Tryz.ntmps8]) (by simp) rfl (by decide) (fun a h => ?_)
  iterate 65 refine chain_no h (by decide +kernel) (by decide) (fun a h => ?_)
  refine chain_yes h (by decide +kernel) (by decide) (fun a h => ?_)
  refine chain_arm h (fun _ => by kernel_rfl) (fun _ _ => by kernel_rfl) (by decide) (table_of L_icdfLTPFilterIndex2 (by decide +kernel) (T_icdfLTPFilterIndex2 w) numbers_any) (fun a v w2 hR h => ?_)
  refine tail_two h (by decide) (fun a h => ?_)
  exact post_two h rfl ⟨v, rfl, hR.1, hR.2⟩
end Go.Proofs.YtngljoplalihkaaGreatDoor
