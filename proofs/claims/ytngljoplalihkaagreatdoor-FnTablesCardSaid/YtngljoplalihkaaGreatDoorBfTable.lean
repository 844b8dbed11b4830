/- Contracts of laws.chances (no condition) and of impl.Table at its names. Condition, at bandEdges alone: the variable holds what its initialiser lays. -/
import Derived.Test.YtngljoplalihkaaGreatDoorBeNumS
import Derived.Test.YtngljoplalihkaaGreatDoorBcTab1
import Derived.Test.YtngljoplalihkaaGreatDoorBcTab2
import Derived.Test.YtngljoplalihkaaGreatDoorBcTab3
import Derived.Lib.LazyBuf
namespace Go.Proofs.YtngljoplalihkaaGreatDoor
open Go Go.RowKit Go.Proofs.YtngljoplalihkaaGreatDoorW.PrintWords

def NAMES : List ByteArray := [N_icdfTapset, N_icdfSpread, N_icdfAllocationTrim, N_icdfSmallEnergy, N_icdfFrameTypeVADActive, N_icdfFrameTypeVADInactive, N_icdfDeltaQuantizationGain, N_icdfExcitationLSB, N_icdfStereoWeightsStageOne, N_icdfStereoWeightsStageTwo, N_icdfStereoWeightsStageThree, N_icdfStereoMidOnly, N_icdfRateLevelUnvoiced, N_icdfRateLevelVoiced, N_icdfPeriodicityIndex, N_icdfPrimaryPitchLagChange, N_icdfPrimaryPitchLagHighPart, N_icdfLTPFilterIndex0, N_icdfLTPFilterIndex1, N_icdfLTPFilterIndex2, N_icdfLTPScalingParameter, N_icdfLinearCongruentialGeneratorSeed, N_icdfNormalizedLSFInterpolationIndex, N_icdfIndependentQuantizationGainLSB, N_icdfIndependentQuantizationGainMSBInactive, N_icdfIndependentQuantizationGainMSBUnvoiced, N_icdfIndependentQuantizationGainMSBVoiced]

set_option maxRecDepth 100000 in
set_option maxHeartbeats 1000000 in
theorem chances_any (w : World) : Calls Tryz.prog 5 #[] w fun e w' => e = .returned (.slice (some ⟨w.heap.size, 0, none⟩) 27 27) ∧ w' = w.alloc (.cells (NAMES.map Value.string).toArray 9) := by
  go_enter Tryz.func5, Tryz.ntmps5
  go_wp2_with fail
  go_ret
  exact ⟨rfl, rfl⟩

/-- What a call of impl.Table gives: a list of numbers of its own. -/
def Gives (w : World) (L : List Int) (e : Ending) (w' : World) : Prop :=
  ∃ g cap, e = .returned (.slice (some ⟨g, 0, none⟩) L.length cap) ∧ w.heap.size ≤ g ∧ g < w'.heap.size ∧ (∀ k, k < L.length → w'.cell? ⟨g, k, none⟩ = some (.int .i64 (L.getD k 0))) ∧ Below w.heap.size w w'
/-- What the law asks of a list. -/
def okL (L : List Int) : Bool :=
  decide (3 ≤ L.length) && decide (L.length ≤ 1000) && (L.all fun x => decide (0 ≤ x) && decide (x ≤ 65535)) && decide (2 ≤ L.getD 0 0) && decide (L.getD 0 0 ≤ 256) && decide (L.getD 0 0 ∈ ([4, 32, 128, 256] : List Int)) && decide (L.getD (L.length - 1) 0 = L.getD 0 0) && ((List.range L.length).all fun k => decide (k < 2) || decide (L.getD (k - 1) 0 ≤ L.getD k 0))

theorem gives_of {w w' : World} {L : List Int} {v : Value} (h0 : 0 < L.length) (h : w'.ownsRow w.heap.size 2 1 v L.length (nums .i64 L)) (hb : Below w.heap.size w w') : Gives w L (.returned v) w' := by
  obtain ⟨_, h2 | ⟨g, cap, cur, rfl, hg, hh, hn, hcap, hsz, htake⟩⟩ := h
  · omega
  · refine ⟨g, cap, rfl, hg, ?_, fun k hk => ?_, hb⟩
    · exact (Array.getElem?_eq_some_iff.mp hh).1
    · have hc : cur[k]? = some (.int .i64 (L.getD k 0)) := by
        have h3 : (nums .i64 L)[k]? = some (.int .i64 (L.getD k 0)) := by
          simp [nums, List.getElem?_eq_getElem hk]
        rw [← htake, List.getElem?_take, if_pos (by omega)] at h3
        rw [← Array.getElem?_toList]; exact h3
      simp [World.cell?, hh, hc]

theorem table_silk (w : World) (L : List Int) (nm : ByteArray) (h0 : 0 < L.length)
    (hR : Calls Tryz.prog 8 #[.string nm] w fun e w' => ∃ v, e = .returned (.tuple #[v, nilS]) ∧ w'.ownsRow w.heap.size 2 1 v L.length (nums .i64 L) ∧ Below w.heap.size w w') :
    Calls Tryz.prog 4 #[.string nm] w (Gives w L) := by
  go_enter Tryz.func4, Tryz.ntmps4
  go_wp2_with fail
  refine hR.mono ?_
  rintro e w1 ⟨v, rfl, ho, hb⟩
  have HG := gives_of h0 ho hb
  obtain ⟨g, cap, hv, hrest⟩ := HG
  injection hv with hv
  subst hv
  have HR := Lib.hid hrest
  clear hrest ho hb
  have hnil := fun W => Lib.run_eql_slice_nil (P := Tryz.prog) W 22 2 (some ⟨g, 0, none⟩) L.length cap 0 0 Tryz.underlying22
  go_wp2_with fail
  go_ret
  exact ⟨g, cap, rfl, HR.out⟩
theorem table_celt (w : World) (L : List Int) (nm : ByteArray) (h0 : 0 < L.length)
    (hM : Calls Tryz.prog 8 #[.string nm] w fun e w' => e = .returned (.tuple #[nilS, nilS]) ∧ w' = w)
    (hR : Calls Tryz.prog 9 #[.string nm] w fun e w' => ∃ v, e = .returned (.tuple #[v, .int .i64 0]) ∧ w'.ownsRow w.heap.size 2 1 v L.length (nums .i64 L) ∧ Below w.heap.size w w') :
    Calls Tryz.prog 4 #[.string nm] w (Gives w L) := by
  go_enter Tryz.func4, Tryz.ntmps4
  go_wp2_with fail
  refine hM.mono ?_
  rintro e w1 ⟨rfl, rfl⟩
  have hnil := fun W => Lib.run_eql_slice_nil (P := Tryz.prog) W 22 2 none 0 0 0 0 Tryz.underlying22
  go_wp2_with fail
  refine hR.mono ?_
  rintro e w2 ⟨v, rfl, ho, hb⟩
  have HG := gives_of h0 ho hb
  obtain ⟨g, cap, hv, hrest⟩ := HG
  injection hv with hv
  subst hv
  have HR := Lib.hid hrest
  clear hrest ho hb
  go_wp2_with fail
  go_ret
  exact ⟨g, cap, rfl, HR.out⟩

theorem T_bandEdges (w : World) (hE : ∃ t fr, w.heap[0]? = some (.cells (nums .i16 EDG).toArray t fr)) : Calls Tryz.prog 4 #[.string N_bandEdges] w (Gives w EDG) :=
  table_celt w _ _ (by decide) (M_bandEdges w) (R_bandEdges w hE)

theorem table_at (k : Nat) (hk : k < 27) : ∃ L nm, NAMES[k]? = some nm ∧ okL L = true ∧ ∀ w, Calls Tryz.prog 4 #[.string nm] w (Gives w L) := by
  match k, hk with
  | 0, _ => exact ⟨L_icdfTapset, N_icdfTapset, rfl, by decide +kernel, fun w => table_celt w _ _ (by decide) (M_icdfTapset w) (R_icdfTapset w)⟩
  | 1, _ => exact ⟨L_icdfSpread, N_icdfSpread, rfl, by decide +kernel, fun w => table_celt w _ _ (by decide) (M_icdfSpread w) (R_icdfSpread w)⟩
  | 2, _ => exact ⟨L_icdfAllocationTrim, N_icdfAllocationTrim, rfl, by decide +kernel, fun w => table_celt w _ _ (by decide) (M_icdfAllocationTrim w) (R_icdfAllocationTrim w)⟩
  | 3, _ => exact ⟨L_icdfSmallEnergy, N_icdfSmallEnergy, rfl, by decide +kernel, fun w => table_celt w _ _ (by decide) (M_icdfSmallEnergy w) (R_icdfSmallEnergy w)⟩
  | 4, _ => exact ⟨L_icdfFrameTypeVADActive, N_icdfFrameTypeVADActive, rfl, by decide +kernel, fun w => table_silk w _ _ (by decide) (R_icdfFrameTypeVADActive w)⟩
  | 5, _ => exact ⟨L_icdfFrameTypeVADInactive, N_icdfFrameTypeVADInactive, rfl, by decide +kernel, fun w => table_silk w _ _ (by decide) (R_icdfFrameTypeVADInactive w)⟩
  | 6, _ => exact ⟨L_icdfDeltaQuantizationGain, N_icdfDeltaQuantizationGain, rfl, by decide +kernel, fun w => table_silk w _ _ (by decide) (R_icdfDeltaQuantizationGain w)⟩
  | 7, _ => exact ⟨L_icdfExcitationLSB, N_icdfExcitationLSB, rfl, by decide +kernel, fun w => table_silk w _ _ (by decide) (R_icdfExcitationLSB w)⟩
  | 8, _ => exact ⟨L_icdfStereoWeightsStageOne, N_icdfStereoWeightsStageOne, rfl, by decide +kernel, fun w => table_silk w _ _ (by decide) (R_icdfStereoWeightsStageOne w)⟩
  | 9, _ => exact ⟨L_icdfStereoWeightsStageTwo, N_icdfStereoWeightsStageTwo, rfl, by decide +kernel, fun w => table_silk w _ _ (by decide) (R_icdfStereoWeightsStageTwo w)⟩
  | 10, _ => exact ⟨L_icdfStereoWeightsStageThree, N_icdfStereoWeightsStageThree, rfl, by decide +kernel, fun w => table_silk w _ _ (by decide) (R_icdfStereoWeightsStageThree w)⟩
  | 11, _ => exact ⟨L_icdfStereoMidOnly, N_icdfStereoMidOnly, rfl, by decide +kernel, fun w => table_silk w _ _ (by decide) (R_icdfStereoMidOnly w)⟩
  | 12, _ => exact ⟨L_icdfRateLevelUnvoiced, N_icdfRateLevelUnvoiced, rfl, by decide +kernel, fun w => table_silk w _ _ (by decide) (R_icdfRateLevelUnvoiced w)⟩
  | 13, _ => exact ⟨L_icdfRateLevelVoiced, N_icdfRateLevelVoiced, rfl, by decide +kernel, fun w => table_silk w _ _ (by decide) (R_icdfRateLevelVoiced w)⟩
  | 14, _ => exact ⟨L_icdfPeriodicityIndex, N_icdfPeriodicityIndex, rfl, by decide +kernel, fun w => table_silk w _ _ (by decide) (R_icdfPeriodicityIndex w)⟩
  | 15, _ => exact ⟨L_icdfPrimaryPitchLagChange, N_icdfPrimaryPitchLagChange, rfl, by decide +kernel, fun w => table_silk w _ _ (by decide) (R_icdfPrimaryPitchLagChange w)⟩
  | 16, _ => exact ⟨L_icdfPrimaryPitchLagHighPart, N_icdfPrimaryPitchLagHighPart, rfl, by decide +kernel, fun w => table_silk w _ _ (by decide) (R_icdfPrimaryPitchLagHighPart w)⟩
  | 17, _ => exact ⟨L_icdfLTPFilterIndex0, N_icdfLTPFilterIndex0, rfl, by decide +kernel, fun w => table_silk w _ _ (by decide) (R_icdfLTPFilterIndex0 w)⟩
  | 18, _ => exact ⟨L_icdfLTPFilterIndex1, N_icdfLTPFilterIndex1, rfl, by decide +kernel, fun w => table_silk w _ _ (by decide) (R_icdfLTPFilterIndex1 w)⟩
  | 19, _ => exact ⟨L_icdfLTPFilterIndex2, N_icdfLTPFilterIndex2, rfl, by decide +kernel, fun w => table_silk w _ _ (by decide) (R_icdfLTPFilterIndex2 w)⟩
  | 20, _ => exact ⟨L_icdfLTPScalingParameter, N_icdfLTPScalingParameter, rfl, by decide +kernel, fun w => table_silk w _ _ (by decide) (R_icdfLTPScalingParameter w)⟩
  | 21, _ => exact ⟨L_icdfLinearCongruentialGeneratorSeed, N_icdfLinearCongruentialGeneratorSeed, rfl, by decide +kernel, fun w => table_silk w _ _ (by decide) (R_icdfLinearCongruentialGeneratorSeed w)⟩
  | 22, _ => exact ⟨L_icdfNormalizedLSFInterpolationIndex, N_icdfNormalizedLSFInterpolationIndex, rfl, by decide +kernel, fun w => table_silk w _ _ (by decide) (R_icdfNormalizedLSFInterpolationIndex w)⟩
  | 23, _ => exact ⟨L_icdfIndependentQuantizationGainLSB, N_icdfIndependentQuantizationGainLSB, rfl, by decide +kernel, fun w => table_silk w _ _ (by decide) (R_icdfIndependentQuantizationGainLSB w)⟩
  | 24, _ => exact ⟨L_icdfIndependentQuantizationGainMSBInactive, N_icdfIndependentQuantizationGainMSBInactive, rfl, by decide +kernel, fun w => table_silk w _ _ (by decide) (R_icdfIndependentQuantizationGainMSBInactive w)⟩
  | 25, _ => exact ⟨L_icdfIndependentQuantizationGainMSBUnvoiced, N_icdfIndependentQuantizationGainMSBUnvoiced, rfl, by decide +kernel, fun w => table_silk w _ _ (by decide) (R_icdfIndependentQuantizationGainMSBUnvoiced w)⟩
  | 26, _ => exact ⟨L_icdfIndependentQuantizationGainMSBVoiced, N_icdfIndependentQuantizationGainMSBVoiced, rfl, by decide +kernel, fun w => table_silk w _ _ (by decide) (R_icdfIndependentQuantizationGainMSBVoiced w)⟩
  | k + 27, h => exact absurd h (by omega)
end Go.Proofs.YtngljoplalihkaaGreatDoor
