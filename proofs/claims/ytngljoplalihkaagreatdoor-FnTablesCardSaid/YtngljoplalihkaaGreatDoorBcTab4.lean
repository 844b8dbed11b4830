/- The tables of probabilities of celt, by their names. No condition. -/
import Derived.Test.YtngljoplalihkaaGreatDoorBbChain
namespace Go.Proofs.YtngljoplalihkaaGreatDoor
open Go Go.RowKit Go.Proofs.YtngljoplalihkaaGreatDoorW.PrintWords

def L_icdfTapset : List Int := [4, 2, 3, 4]
abbrev N_icdfTapset : ByteArray := ⟨#[105, 99, 100, 102, 84, 97, 112, 115, 101, 116]⟩
theorem T_icdfTapset (w : World) : Calls Tryz.prog 127 #[] w fun e w' => e = .returned (.slice (some ⟨w.heap.size, 0, none⟩) L_icdfTapset.length L_icdfTapset.length) ∧ w' = w.alloc (.cells (nums .u64 L_icdfTapset).toArray 62) := by
  go_enter Tryz.func127, Tryz.ntmps127
  go_wp2
  go_ret
  exact ⟨rfl, rfl⟩
set_option maxRecDepth 100000 in
set_option maxHeartbeats 1000000 in
theorem R_icdfTapset (w : World) : Calls Tryz.prog 9 #[.string N_icdfTapset] w fun e w' => ∃ v, e = .returned (.tuple #[v, (.int .i64 0)]) ∧ w'.ownsRow w.heap.size 2 1 v L_icdfTapset.length (nums .i64 L_icdfTapset) ∧ Below w.heap.size w w' := by
  refine calls_of_wp Tryz.func9 rfl ?_
  refine chain_start (N := 190) (c := 31) (nm := N_icdfTapset) (by simp [Tryz.ntmps9]) (by simp) rfl (by decide) (fun a h => ?_)
  iterate 10 refine chain_no h (by decide +kernel) (by decide) (fun a h => ?_)
  refine chain_yes h (by decide +kernel) (by decide) (fun a h => ?_)
  refine chain_arm h (fun _ => by kernel_rfl) (fun _ _ => by kernel_rfl) (by decide) (table_of L_icdfTapset (by decide +kernel) (T_icdfTapset w) told_any) (fun a v w2 hR h => ?_)
  refine tail_one h (by decide) (fun a h => ?_)
  exact post_two h rfl ⟨v, rfl, hR.1, hR.2⟩

def L_icdfSpread : List Int := [32, 7, 9, 30, 32]
abbrev N_icdfSpread : ByteArray := ⟨#[105, 99, 100, 102, 83, 112, 114, 101, 97, 100]⟩
theorem T_icdfSpread (w : World) : Calls Tryz.prog 128 #[] w fun e w' => e = .returned (.slice (some ⟨w.heap.size, 0, none⟩) L_icdfSpread.length L_icdfSpread.length) ∧ w' = w.alloc (.cells (nums .u64 L_icdfSpread).toArray 62) := by
  go_enter Tryz.func128, Tryz.ntmps128
  go_wp2
  go_ret
  exact ⟨rfl, rfl⟩
set_option maxRecDepth 100000 in
set_option maxHeartbeats 1000000 in
theorem R_icdfSpread (w : World) : Calls Tryz.prog 9 #[.string N_icdfSpread] w fun e w' => ∃ v, e = .returned (.tuple #[v, (.int .i64 0)]) ∧ w'.ownsRow w.heap.size 2 1 v L_icdfSpread.length (nums .i64 L_icdfSpread) ∧ Below w.heap.size w w' := by
  refine calls_of_wp Tryz.func9 rfl ?_
  refine chain_start (N := 190) (c := 31) (nm := N_icdfSpread) (by simp [Tryz.ntmps9]) (by simp) rfl (by decide) (fun a h => ?_)
  iterate 11 refine chain_no h (by decide +kernel) (by decide) (fun a h => ?_)
  refine chain_yes h (by decide +kernel) (by decide) (fun a h => ?_)
  refine chain_arm h (fun _ => by kernel_rfl) (fun _ _ => by kernel_rfl) (by decide) (table_of L_icdfSpread (by decide +kernel) (T_icdfSpread w) told_any) (fun a v w2 hR h => ?_)
  refine tail_one h (by decide) (fun a h => ?_)
  exact post_two h rfl ⟨v, rfl, hR.1, hR.2⟩

def L_icdfAllocationTrim : List Int := [128, 2, 4, 9, 19, 41, 87, 109, 119, 124, 126, 128]
abbrev N_icdfAllocationTrim : ByteArray := ⟨#[105, 99, 100, 102, 65, 108, 108, 111, 99, 97, 116, 105, 111, 110, 84, 114, 105, 109]⟩
theorem T_icdfAllocationTrim (w : World) : Calls Tryz.prog 129 #[] w fun e w' => e = .returned (.slice (some ⟨w.heap.size, 0, none⟩) L_icdfAllocationTrim.length L_icdfAllocationTrim.length) ∧ w' = w.alloc (.cells (nums .u64 L_icdfAllocationTrim).toArray 62) := by
  go_enter Tryz.func129, Tryz.ntmps129
  go_wp2
  go_ret
  exact ⟨rfl, rfl⟩
set_option maxRecDepth 100000 in
set_option maxHeartbeats 1000000 in
theorem R_icdfAllocationTrim (w : World) : Calls Tryz.prog 9 #[.string N_icdfAllocationTrim] w fun e w' => ∃ v, e = .returned (.tuple #[v, (.int .i64 0)]) ∧ w'.ownsRow w.heap.size 2 1 v L_icdfAllocationTrim.length (nums .i64 L_icdfAllocationTrim) ∧ Below w.heap.size w w' := by
  refine calls_of_wp Tryz.func9 rfl ?_
  refine chain_start (N := 190) (c := 31) (nm := N_icdfAllocationTrim) (by simp [Tryz.ntmps9]) (by simp) rfl (by decide) (fun a h => ?_)
  iterate 12 refine chain_no h (by decide +kernel) (by decide) (fun a h => ?_)
  refine chain_yes h (by decide +kernel) (by decide) (fun a h => ?_)
  refine chain_arm h (fun _ => by kernel_rfl) (fun _ _ => by kernel_rfl) (by decide) (table_of L_icdfAllocationTrim (by decide +kernel) (T_icdfAllocationTrim w) told_any) (fun a v w2 hR h => ?_)
  refine tail_one h (by decide) (fun a h => ?_)
  exact post_two h rfl ⟨v, rfl, hR.1, hR.2⟩

def L_icdfSmallEnergy : List Int := [4, 2, 3, 4]
abbrev N_icdfSmallEnergy : ByteArray := ⟨#[105, 99, 100, 102, 83, 109, 97, 108, 108, 69, 110, 101, 114, 103, 121]⟩
theorem T_icdfSmallEnergy (w : World) : Calls Tryz.prog 130 #[] w fun e w' => e = .returned (.slice (some ⟨w.heap.size, 0, none⟩) L_icdfSmallEnergy.length L_icdfSmallEnergy.length) ∧ w' = w.alloc (.cells (nums .u64 L_icdfSmallEnergy).toArray 62) := by
  go_enter Tryz.func130, Tryz.ntmps130
  go_wp2
  go_ret
  exact ⟨rfl, rfl⟩
set_option maxRecDepth 100000 in
set_option maxHeartbeats 1000000 in
theorem R_icdfSmallEnergy (w : World) : Calls Tryz.prog 9 #[.string N_icdfSmallEnergy] w fun e w' => ∃ v, e = .returned (.tuple #[v, (.int .i64 0)]) ∧ w'.ownsRow w.heap.size 2 1 v L_icdfSmallEnergy.length (nums .i64 L_icdfSmallEnergy) ∧ Below w.heap.size w w' := by
  refine calls_of_wp Tryz.func9 rfl ?_
  refine chain_start (N := 190) (c := 31) (nm := N_icdfSmallEnergy) (by simp [Tryz.ntmps9]) (by simp) rfl (by decide) (fun a h => ?_)
  iterate 13 refine chain_no h (by decide +kernel) (by decide) (fun a h => ?_)
  refine chain_yes h (by decide +kernel) (by decide) (fun a h => ?_)
  refine chain_arm h (fun _ => by kernel_rfl) (fun _ _ => by kernel_rfl) (by decide) (table_of L_icdfSmallEnergy (by decide +kernel) (T_icdfSmallEnergy w) told_any) (fun a v w2 hR h => ?_)
  refine tail_one h (by decide) (fun a h => ?_)
  exact post_two h rfl ⟨v, rfl, hR.1, hR.2⟩
end Go.Proofs.YtngljoplalihkaaGreatDoor
