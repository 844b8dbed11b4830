-- PRINTED BY print.sh 35421559b90ae4d0a3588c463048766b98c2df88dd9212a6774a882060cdf62d: not written by this session
import Derived.Test.YtojdfjohmicopaaGreatDoorPFnOggHurtx0
namespace Go.Proofs.YtojdfjohmicopaaGreatDoor.PFnOggHurt
open Go.RowKit Go.Proofs.YtojdfjohmicopaaGreatDoorW.PrintWords Go.Proofs.YtojdfjohmicopaaGreatDoorW.PrintLast Go.Proofs.YtojdfjohmicopaaGreatDoorW.PrintMore
attribute [local go_sem] max2_int min2_int max_two min_two max_three min_three max_four min_four   -- for this text's walks alone
set_option linter.unusedVariables false
set_option linter.unusedSimpArgs false

/-! ### spec_segments: function 66 -/
mutual
def spec_segments.l0 : Nat → List Int → List ByteArray → Int → Int → Int → Int → Int → Int → List ByteArray → Bool → Option (List Int × Bool)
  | 0, _, _, _, _, _, _, _, _, _, _ => none
  | k + 1, x4, x9, x10, x11, x113000, x113001, x113002, x113003, x113004, x113005 => if x11 < x10 then (if 0 ≤ x11 then (if x11 < (x9.length : Int) then (spec_segments.l1 k x4 x11 (rdOf ByteArray.empty x9 x11) ((rdOf ByteArray.empty x9 x11).size : Int) x9 x10 x11 x113000 x113001 x113002 x113003 x113004 x113005) else (none)) else (none)) else (if (x4.length : Int) ≤ 255 then (if x113005 = true then (some (x4, decide ((x113004.length : Int) > 0))) else (some (x4, true))) else (some (x4, false)))
def spec_segments.l1 : Nat → List Int → Int → ByteArray → Int → List ByteArray → Int → Int → Int → Int → Int → Int → List ByteArray → Bool → Option (List Int × Bool)
  | 0, _, _, _, _, _, _, _, _, _, _, _, _, _ => none
  | k + 1, x4, x5, x6, x7, x9, x10, x11, x113000, x113001, x113002, x113003, x113004, x113005 => if x7 ≥ 255 then (if x4.length < 140737488355328 then (spec_segments.l1 k (x4 ++ [255]) x5 x6 (wrap64 (x7 - 255)) x9 x10 x11 x113000 x113001 x113002 x113003 x113004 x113005) else (none)) else (if x5 = (wrap64 ((x113004.length : Int) - 1)) then (spec_segments.j2 k x4 x6 x7 x9 x10 x11 x113005 x113000 x113001 x113002 x113003 x113004 x113005) else (spec_segments.j2 k x4 x6 x7 x9 x10 x11 false x113000 x113001 x113002 x113003 x113004 x113005))
def spec_segments.j2 : Nat → List Int → ByteArray → Int → List ByteArray → Int → Int → Bool → Int → Int → Int → Int → List ByteArray → Bool → Option (List Int × Bool)
  | 0, _, _, _, _, _, _, _, _, _, _, _, _, _ => none
  | k + 1, x4, x6, x7, x9, x10, x11, x34, x113000, x113001, x113002, x113003, x113004, x113005 => if x34 = true then (if x7 = 0 then (if x6.toList = ([] : List UInt8) then (some (([] : List Int), false)) else (if (x4.length : Int) ≤ 255 then (if x113005 = true then (some (x4, decide ((x113004.length : Int) > 0))) else (some (x4, true))) else (some (x4, false)))) else (some (([] : List Int), false))) else (if x4.length < 140737488355328 then (spec_segments.l0 k (x4 ++ [(x7) % 256]) x9 x10 (wrap64 (x11 + 1)) x113000 x113001 x113002 x113003 x113004 x113005) else (none))
end
def spec_segments.f (k : Nat) (a0_0 : Int) (a0_1 : Int) (a0_2 : Int) (a0_3 : Int) (l0_4 : List ByteArray) (a0_5 : Bool) : Option (List Int × Bool) := spec_segments.l0 k ([] : List Int) l0_4 (l0_4.length : Int) 0 a0_0 a0_1 a0_2 a0_3 l0_4 a0_5
theorem spec_segments.mono_l : ∀ k, (∀ y0 y1 y2 y3 y4 y5 y6 y7 y8 y9, LeO (spec_segments.l0 k y0 y1 y2 y3 y4 y5 y6 y7 y8 y9) (spec_segments.l0 (k + 1) y0 y1 y2 y3 y4 y5 y6 y7 y8 y9)) ∧ (∀ y0 y1 y2 y3 y4 y5 y6 y7 y8 y9 y10 y11 y12, LeO (spec_segments.l1 k y0 y1 y2 y3 y4 y5 y6 y7 y8 y9 y10 y11 y12) (spec_segments.l1 (k + 1) y0 y1 y2 y3 y4 y5 y6 y7 y8 y9 y10 y11 y12)) ∧ (∀ y0 y1 y2 y3 y4 y5 y6 y7 y8 y9 y10 y11 y12, LeO (spec_segments.j2 k y0 y1 y2 y3 y4 y5 y6 y7 y8 y9 y10 y11 y12) (spec_segments.j2 (k + 1) y0 y1 y2 y3 y4 y5 y6 y7 y8 y9 y10 y11 y12))
  | 0 => ⟨fun _ _ _ _ _ _ _ _ _ _ r h => by simp [spec_segments.l0] at h, fun _ _ _ _ _ _ _ _ _ _ _ _ _ r h => by simp [spec_segments.l1] at h, fun _ _ _ _ _ _ _ _ _ _ _ _ _ r h => by simp [spec_segments.j2] at h⟩
  | k + 1 => by
    obtain ⟨ih0, ih1, ih2⟩ := spec_segments.mono_l k
    refine ⟨?_, ?_, ?_⟩
    · intro y0 y1 y2 y3 y4 y5 y6 y7 y8 y9
      unfold spec_segments.l0
      repeat' first
      | (with_reducible exact ih0 _ _ _ _ _ _ _ _ _ _)
      | (with_reducible exact ih1 _ _ _ _ _ _ _ _ _ _ _ _ _)
      | (with_reducible exact ih2 _ _ _ _ _ _ _ _ _ _ _ _ _)
      | (with_reducible exact LeO.refl _)
      | (with_reducible exact LeO.none _)
      | (with_reducible refine LeO.ite ?_ ?_)
      | (with_reducible refine LeO.bind ?_ (fun _ => ?_))
      | exact ih0 _ _ _ _ _ _ _ _ _ _
      | exact ih1 _ _ _ _ _ _ _ _ _ _ _ _ _
      | exact ih2 _ _ _ _ _ _ _ _ _ _ _ _ _
      | exact LeO.none _
      | refine LeO.ite ?_ ?_
      | refine LeO.bind ?_ (fun _ => ?_)
    · intro y0 y1 y2 y3 y4 y5 y6 y7 y8 y9 y10 y11 y12
      unfold spec_segments.l1
      repeat' first
      | (with_reducible exact ih0 _ _ _ _ _ _ _ _ _ _)
      | (with_reducible exact ih1 _ _ _ _ _ _ _ _ _ _ _ _ _)
      | (with_reducible exact ih2 _ _ _ _ _ _ _ _ _ _ _ _ _)
      | (with_reducible exact LeO.refl _)
      | (with_reducible exact LeO.none _)
      | (with_reducible refine LeO.ite ?_ ?_)
      | (with_reducible refine LeO.bind ?_ (fun _ => ?_))
      | exact ih0 _ _ _ _ _ _ _ _ _ _
      | exact ih1 _ _ _ _ _ _ _ _ _ _ _ _ _
      | exact ih2 _ _ _ _ _ _ _ _ _ _ _ _ _
      | exact LeO.none _
      | refine LeO.ite ?_ ?_
      | refine LeO.bind ?_ (fun _ => ?_)
    · intro y0 y1 y2 y3 y4 y5 y6 y7 y8 y9 y10 y11 y12
      unfold spec_segments.j2
      repeat' first
      | (with_reducible exact ih0 _ _ _ _ _ _ _ _ _ _)
      | (with_reducible exact ih1 _ _ _ _ _ _ _ _ _ _ _ _ _)
      | (with_reducible exact ih2 _ _ _ _ _ _ _ _ _ _ _ _ _)
      | (with_reducible exact LeO.refl _)
      | (with_reducible exact LeO.none _)
      | (with_reducible refine LeO.ite ?_ ?_)
      | (with_reducible refine LeO.bind ?_ (fun _ => ?_))
      | exact ih0 _ _ _ _ _ _ _ _ _ _
      | exact ih1 _ _ _ _ _ _ _ _ _ _ _ _ _
      | exact ih2 _ _ _ _ _ _ _ _ _ _ _ _ _
      | exact LeO.none _
      | refine LeO.ite ?_ ?_
      | refine LeO.bind ?_ (fun _ => ?_)
theorem spec_segments.mono : ∀ a0 a1 a2 a3 a4 a5 k, LeO (spec_segments.f k a0 a1 a2 a3 a4 a5) (spec_segments.f (k + 1) a0 a1 a2 a3 a4 a5) := by
  intro a0 a1 a2 a3 a4 a5 k
  obtain ⟨ih0, ih1, ih2⟩ := spec_segments.mono_l k
  unfold spec_segments.f
  repeat' first
      | (with_reducible exact ih0 _ _ _ _ _ _ _ _ _ _)
      | (with_reducible exact ih1 _ _ _ _ _ _ _ _ _ _ _ _ _)
      | (with_reducible exact ih2 _ _ _ _ _ _ _ _ _ _ _ _ _)
      | (with_reducible exact LeO.refl _)
      | (with_reducible exact LeO.none _)
      | (with_reducible refine LeO.ite ?_ ?_)
      | (with_reducible refine LeO.bind ?_ (fun _ => ?_))
      | exact ih0 _ _ _ _ _ _ _ _ _ _
      | exact ih1 _ _ _ _ _ _ _ _ _ _ _ _ _
      | exact ih2 _ _ _ _ _ _ _ _ _ _ _ _ _
      | exact LeO.none _
      | refine LeO.ite ?_ ?_
      | refine LeO.bind ?_ (fun _ => ?_)
set_option maxHeartbeats 8000000 in
set_option maxRecDepth 100000 in
theorem spec_segments.calls (k : Nat) (a0_0 : Int) (a0_1 : Int) (a0_2 : Int) (a0_3 : Int) (A0_4 : Option Addr) (c0_4 : Nat) (l0_4 : List ByteArray) (a0_5 : Bool) (r1 : List Int) (r2 : Bool) (w : World) (hr0_4 : Kd.C Kd.string w A0_4 l0_4.length l0_4) (hc0_4 : l0_4.length ≤ c0_4) (h : spec_segments.f k a0_0 a0_1 a0_2 a0_3 l0_4 a0_5 = some (r1, r2)) :
    Calls Tryz.prog 66 #[.agg #[.int .u32 a0_0, .int .u32 a0_1, .int .u64 a0_2, .int .i64 a0_3, .slice A0_4 l0_4.length c0_4, .bool a0_5]] w fun e w' => ∃ v0_ : Value, e = .returned (.tuple #[v0_, .bool r2]) ∧ Kd.R (Kd.int .u8) 5 w' w.heap.size (fun _ => True) v0_ r1 ∧ Below w.heap.size w w' := by
  have hu47 := Tryz.underlying47
  have HR0_4 := Aside0.mk hr0_4
  have HC0_4 := Aside0.mk hc0_4
  clear hr0_4 hc0_4
  have HB := Aside0.mk (Below.refl w.heap.size w)
  have H : (spec_segments.l0 k ([] : List Int) l0_4 (l0_4.length : Int) 0 a0_0 a0_1 a0_2 a0_3 l0_4 a0_5) = some (r1, r2) := h
  clear h
  have H' := Aside0.mk H
  clear H
  go_enter Tryz.func66, Tryz.ntmps66
  go_wp2_with (first | ((with_reducible refine gate_dst (N := 1) rfl ?_); (try (refine gate_guard (by rfl) ?_; dsimp only)); refine box_event ?hg (N := 1) ?hd (cs := #[.int .u32 a0_0, .int .u32 a0_1, .int .u64 a0_2, .int .i64 a0_3, .slice A0_4 l0_4.length c0_4, .bool a0_5]) (t := 47) ?hr ?_; (case hd => rfl); (case hg => rfl); (case hr => first | (go_simp; done) | (go_simp; rfl)); intro gb112 hg w2 hbox hb; have n0_ := Aside0.mk (below_step (by repeat (first | (with_reducible first | exact HB.out | apply below_alloc | apply pw_below_drewN | apply below_drew1) | exact HB.out)) hb); have n1_ := Aside0.mk (hbox); have n2_ := Aside0.mk ((by rw [hg]; exact (below_size (by repeat (first | (with_reducible first | exact HB.out | apply below_alloc | apply pw_below_drewN | apply below_drew1) | exact HB.out))) : w.heap.size ≤ gb112)); have n3_ := Aside0.mk ((by rw [hg]; exact (below_size (by repeat (first | (with_reducible first | exact HB.out | apply below_alloc | apply pw_below_drewN | apply below_drew1) | exact HB.out))) : w.heap.size ≤ gb112)); clear HB; have HB := n0_; have BK112 := n1_; have GW112 := n2_; have GE112 := n3_; clear n0_ n1_ n2_ n3_; clear hb hbox hg; have hcz3_0 : w2.cell? ⟨gb112, 0, none⟩ = some (.int .u32 a0_0) := (blk_cell BK112.out 0).trans rfl; have hcz3_1 : w2.cell? ⟨gb112, 1, none⟩ = some (.int .u32 a0_1) := (blk_cell BK112.out 1).trans rfl; have hcz3_2 : w2.cell? ⟨gb112, 2, none⟩ = some (.int .u64 a0_2) := (blk_cell BK112.out 2).trans rfl; have hcz3_3 : w2.cell? ⟨gb112, 3, none⟩ = some (.int .i64 a0_3) := (blk_cell BK112.out 3).trans rfl; have hcz3_4 : w2.cell? ⟨gb112, 4, none⟩ = some (.slice A0_4 l0_4.length c0_4) := (blk_cell BK112.out 4).trans rfl; have hcz3_5 : w2.cell? ⟨gb112, 5, none⟩ = some (.bool a0_5) := (blk_cell BK112.out 5).trans rfl; have hfz3_0 := blk_frozen BK112.out 0; have hfz3_1 := blk_frozen BK112.out 1; have hfz3_2 := blk_frozen BK112.out 2; have hfz3_3 := blk_frozen BK112.out 3; have hfz3_4 := blk_frozen BK112.out 4; have hfz3_5 := blk_frozen BK112.out 5))
  repeat (go_quiet (first | ((with_reducible refine gate_dst (N := 1) rfl ?_); (try (refine gate_guard (by rfl) ?_; dsimp only)); refine box_event ?hg (N := 1) ?hd (cs := #[.int .u32 a0_0, .int .u32 a0_1, .int .u64 a0_2, .int .i64 a0_3, .slice A0_4 l0_4.length c0_4, .bool a0_5]) (t := 47) ?hr ?_; (case hd => rfl); (case hg => rfl); (case hr => first | (go_simp; done) | (go_simp; rfl)); intro gb112 hg w2 hbox hb; have n0_ := Aside0.mk (below_step (by repeat (first | (with_reducible first | exact HB.out | apply below_alloc | apply pw_below_drewN | apply below_drew1) | exact HB.out)) hb); have n1_ := Aside0.mk (hbox); have n2_ := Aside0.mk ((by rw [hg]; exact (below_size (by repeat (first | (with_reducible first | exact HB.out | apply below_alloc | apply pw_below_drewN | apply below_drew1) | exact HB.out))) : w.heap.size ≤ gb112)); have n3_ := Aside0.mk ((by rw [hg]; exact (below_size (by repeat (first | (with_reducible first | exact HB.out | apply below_alloc | apply pw_below_drewN | apply below_drew1) | exact HB.out))) : w.heap.size ≤ gb112)); clear HB; have HB := n0_; have BK112 := n1_; have GW112 := n2_; have GE112 := n3_; clear n0_ n1_ n2_ n3_; clear hb hbox hg; have hcz3_0 : w2.cell? ⟨gb112, 0, none⟩ = some (.int .u32 a0_0) := (blk_cell BK112.out 0).trans rfl; have hcz3_1 : w2.cell? ⟨gb112, 1, none⟩ = some (.int .u32 a0_1) := (blk_cell BK112.out 1).trans rfl; have hcz3_2 : w2.cell? ⟨gb112, 2, none⟩ = some (.int .u64 a0_2) := (blk_cell BK112.out 2).trans rfl; have hcz3_3 : w2.cell? ⟨gb112, 3, none⟩ = some (.int .i64 a0_3) := (blk_cell BK112.out 3).trans rfl; have hcz3_4 : w2.cell? ⟨gb112, 4, none⟩ = some (.slice A0_4 l0_4.length c0_4) := (blk_cell BK112.out 4).trans rfl; have hcz3_5 : w2.cell? ⟨gb112, 5, none⟩ = some (.bool a0_5) := (blk_cell BK112.out 5).trans rfl; have hfz3_0 := blk_frozen BK112.out 0; have hfz3_1 := blk_frozen BK112.out 1; have hfz3_2 := blk_frozen BK112.out 2; have hfz3_3 := blk_frozen BK112.out 3; have hfz3_4 := blk_frozen BK112.out 4; have hfz3_5 := blk_frozen BK112.out 5)); try go_wp2_with (first | ((with_reducible refine gate_dst (N := 1) rfl ?_); (try (refine gate_guard (by rfl) ?_; dsimp only)); refine box_event ?hg (N := 1) ?hd (cs := #[.int .u32 a0_0, .int .u32 a0_1, .int .u64 a0_2, .int .i64 a0_3, .slice A0_4 l0_4.length c0_4, .bool a0_5]) (t := 47) ?hr ?_; (case hd => rfl); (case hg => rfl); (case hr => first | (go_simp; done) | (go_simp; rfl)); intro gb112 hg w2 hbox hb; have n0_ := Aside0.mk (below_step (by repeat (first | (with_reducible first | exact HB.out | apply below_alloc | apply pw_below_drewN | apply below_drew1) | exact HB.out)) hb); have n1_ := Aside0.mk (hbox); have n2_ := Aside0.mk ((by rw [hg]; exact (below_size (by repeat (first | (with_reducible first | exact HB.out | apply below_alloc | apply pw_below_drewN | apply below_drew1) | exact HB.out))) : w.heap.size ≤ gb112)); have n3_ := Aside0.mk ((by rw [hg]; exact (below_size (by repeat (first | (with_reducible first | exact HB.out | apply below_alloc | apply pw_below_drewN | apply below_drew1) | exact HB.out))) : w.heap.size ≤ gb112)); clear HB; have HB := n0_; have BK112 := n1_; have GW112 := n2_; have GE112 := n3_; clear n0_ n1_ n2_ n3_; clear hb hbox hg; have hcz3_0 : w2.cell? ⟨gb112, 0, none⟩ = some (.int .u32 a0_0) := (blk_cell BK112.out 0).trans rfl; have hcz3_1 : w2.cell? ⟨gb112, 1, none⟩ = some (.int .u32 a0_1) := (blk_cell BK112.out 1).trans rfl; have hcz3_2 : w2.cell? ⟨gb112, 2, none⟩ = some (.int .u64 a0_2) := (blk_cell BK112.out 2).trans rfl; have hcz3_3 : w2.cell? ⟨gb112, 3, none⟩ = some (.int .i64 a0_3) := (blk_cell BK112.out 3).trans rfl; have hcz3_4 : w2.cell? ⟨gb112, 4, none⟩ = some (.slice A0_4 l0_4.length c0_4) := (blk_cell BK112.out 4).trans rfl; have hcz3_5 : w2.cell? ⟨gb112, 5, none⟩ = some (.bool a0_5) := (blk_cell BK112.out 5).trans rfl; have hfz3_0 := blk_frozen BK112.out 0; have hfz3_1 := blk_frozen BK112.out 1; have hfz3_2 := blk_frozen BK112.out 2; have hfz3_3 := blk_frozen BK112.out 3; have hfz3_4 := blk_frozen BK112.out 4; have hfz3_5 := blk_frozen BK112.out 5)))
  go_loopg [4, 11] k (fun kq v4 v11 w' => ∃ (x4_1 : List Int) (x11_1 : Int), v11 = .int .i64 x11_1 ∧ Aside0 (spec_segments.l0 kq x4_1 l0_4 (l0_4.length : Int) x11_1 a0_0 a0_1 a0_2 a0_3 l0_4 a0_5 = some (r1, r2)) ∧ Aside0 (kq ≤ k) ∧ Aside0 (Kd.R (Kd.int .u8) 5 w' w.heap.size (fun _ => True) v4 x4_1) ∧ Aside0 (w'.heap[gb112]? = some (.cells #[.int .u32 a0_0, .int .u32 a0_1, .int .u64 a0_2, .int .i64 a0_3, (.slice A0_4 l0_4.length c0_4), .bool a0_5] 47 (0, 0))) ∧ Aside0 (Below w.heap.size w w'))
  case atStart => exact ⟨(([] : List Int)), (0), (by first | rfl | (simp; done) | (simp [*]; done)), H', ⟨Nat.le_refl _⟩, ⟨by first | exact Kd.R_nil _ _ _ _ _ | exact Kd.N_nil _ _ _ _ _ | exact Kd.V_nil _ _ _ _ _ | exact Kd.Q_nil _ _ _ _ _ | exact Kd.S_nil _ _ _ _ _⟩, ⟨by (with_reducible repeat (first | refine blk_drewN ?_ _ | refine blk_drew ?_ | refine blk_alloc ?_ _)); exact BK112.out⟩, ⟨by repeat (first | (with_reducible first | exact HB.out | apply below_alloc | apply pw_below_drewN | apply below_drew1 | refine below_set ?_ GE112.out) | exact HB.out)⟩⟩
  case round =>
    clear H'
    try clear p2
    try clear hcz3_0
    try clear hcz3_1
    try clear hcz3_2
    try clear hcz3_3
    try clear hcz3_4
    try clear hcz3_5
    try clear hfz3_0
    try clear hfz3_1
    try clear hfz3_2
    try clear hfz3_3
    try clear hfz3_4
    try clear hfz3_5
    obtain ⟨x4_1, x11_1, rfl, HA, HK1, HO_4, BK112, HB⟩ := hrel
    cases gk with
    | zero => exact absurd HA.out (by simp [spec_segments.l0])
    | succ k1 =>
      have H := HA.out
      clear HA
      simp only [spec_segments.l0] at H
      by_cases c4 : x11_1 < (l0_4.length : Int)
      · rw [if_pos c4] at H
        have c4b0 : decide (x11_1 < (l0_4.length : Int)) = true := decide_eq_true c4
        clear c4
        by_cases c5 : 0 ≤ x11_1
        · rw [if_pos c5] at H
          have c5b0 : decide (0 ≤ x11_1) = true := decide_eq_true c5
          clear c5
          by_cases c6 : x11_1 < (l0_4.length : Int)
          · rw [if_pos c6] at H
            have c6b0 : decide (x11_1 < (l0_4.length : Int)) = true := decide_eq_true c6
            clear c6
            have H' := Aside0.mk H
            clear H
            have p113 : 0 ≤ (x11_1 : Int) := of_decide_eq_true (by first | (with_reducible assumption) | assumption)
            have q113 : x11_1 < (l0_4.length : Int) := of_decide_eq_true (by first | (with_reducible assumption) | assumption)
            obtain ⟨ad113, e113, hx113_0⟩ := Kd.at_string HR0_4.out x11_1 p113 q113
            cases e113
            replace hx113_0 := (HB.out.cell (World.block_lt_of_cell? w _ hx113_0)).trans hx113_0
            replace p113 := eq_true p113
            replace q113 := eq_true q113
            go_wp2
            repeat (go_quiet (fail); try go_wp2)
            go_loopg [4, 7] k1 (fun kq v4 v7 w' => ∃ (x4_2 : List Int) (x7_2 : Int), v7 = .int .i64 x7_2 ∧ Aside0 (spec_segments.l1 kq x4_2 x11_1 (rdOf ByteArray.empty l0_4 x11_1) x7_2 l0_4 (l0_4.length : Int) x11_1 a0_0 a0_1 a0_2 a0_3 l0_4 a0_5 = some (r1, r2)) ∧ Aside0 (kq ≤ k1) ∧ Aside0 (Kd.R (Kd.int .u8) 5 w' w.heap.size (fun _ => True) v4 x4_2) ∧ Aside0 (w'.heap[gb112]? = some (.cells #[.int .u32 a0_0, .int .u32 a0_1, .int .u64 a0_2, .int .i64 a0_3, (.slice (some ad113) l0_4.length c0_4), .bool a0_5] 47 (0, 0))) ∧ Aside0 (Below w.heap.size w w'))
            case atStart => exact ⟨(x4_1), (((rdOf ByteArray.empty l0_4 x11_1).size : Int)), (by first | rfl | (simp; done) | (simp [*]; done)), H', ⟨Nat.le_refl _⟩, ⟨by (with_reducible repeat (first | apply Kd.R_alloc | apply Kd.R_drewN | apply Kd.R_drew)); exact HO_4.out⟩, ⟨by (with_reducible repeat (first | refine blk_drewN ?_ _ | refine blk_drew ?_ | refine blk_alloc ?_ _)); exact BK112.out⟩, ⟨by repeat (first | (with_reducible first | exact HB.out | apply below_alloc | apply pw_below_drewN | apply below_drew1 | refine below_set ?_ GE112.out) | exact HB.out)⟩⟩
            case round =>
              clear H'
              try clear p1
              try clear q1
              try clear hx1
              try clear p2
              try clear c4
              try clear c4b0
              try clear c5
              try clear c5b0
              try clear c6
              try clear c6b0
              try clear hcz3_0
              try clear hcz3_1
              try clear hcz3_2
              try clear hcz3_3
              try clear hcz3_4
              try clear hcz3_5
              try clear hfz3_0
              try clear hfz3_1
              try clear hfz3_2
              try clear hfz3_3
              try clear hfz3_4
              try clear hfz3_5
              try clear hx113_0
              try clear p113
              try clear p2
              try clear q113
              obtain ⟨x4_2, x7_2, rfl, HA, HK2, HO_4, BK112, HB⟩ := hrel
              cases gk with
              | zero => exact absurd HA.out (by simp [spec_segments.l1])
              | succ k2 =>
                have H := HA.out
                clear HA
                simp only [spec_segments.l1] at H
                by_cases c7 : x7_2 ≥ 255
                · rw [if_pos c7] at H
                  have c7b0 : decide (255 ≤ x7_2) = true := decide_eq_true c7
                  clear c7
                  by_cases c8 : x4_2.length < 140737488355328
                  · rw [if_pos c8] at H
                    have LMc8 := Aside0.mk c8
                    clear c8
                    obtain ⟨y114, hy114⟩ : ∃ y_ : List Int, y_ = (x4_2 ++ [255]) := ⟨_, rfl⟩
                    replace H : (spec_segments.l1 k2 y114 x11_1 (rdOf ByteArray.empty l0_4 x11_1) (wrap64 (x7_2 - 255)) l0_4 (l0_4.length : Int) x11_1 a0_0 a0_1 a0_2 a0_3 l0_4 a0_5) = some (r1, r2) := by first | (rw [hy114]; with_reducible exact H) | (have H2_ := (Option.bind_some _ _).symm.trans H; rw [hy114]; with_reducible exact H2_) | (have H2_ := (Option.bind_some _ _).symm.trans H; with_reducible exact H2_) | with_reducible exact H | (rw [hy114]; exact H) | exact H
                    have Ny114 := Aside0.mk hy114
                    clear hy114
                    have H' := Aside0.mk H
                    clear H
                    go_wp2_with (first | ((with_reducible refine gate_builtin (b := .append) (xs := #[.tmp 22, .tmp 23]) rfl ?_); (try (refine gate_guard (by rfl) ?_; dsimp only)); at_builtin; refine Kd.R_append (Kd.int .u8) (w0 := w) w.heap.size rfl (.tmp 22) (.tmp 23) 33 5 (.int .u8 0) 1 rfl Tryz.underlying33 info5 rfl (by decide) (by omega) u4 x4_2 255 [.int .u8 255] (fun _ => True) (fun _ => False) rfl rfl ?aP (fun _ hk => hk.elim) ?aF ?aO ?aB ?aS ?aL ?_; (case aP => exact rfl); (case aB => exact (by repeat (first | (with_reducible first | exact HB.out | apply below_alloc | apply pw_below_drewN | apply below_drew1 | refine below_set ?_ GE112.out) | exact HB.out))); (case aF => exact (fun _ _ => trivial)); (case aO => exact (by (with_reducible repeat (first | apply Kd.R_alloc | apply Kd.R_drewN | apply Kd.R_drew)); exact HO_4.out)); (case aS => exact (below_size (by repeat (first | (with_reducible first | exact HB.out | apply below_alloc | apply pw_below_drewN | apply below_drew1 | refine below_set ?_ GE112.out) | exact HB.out)))); (case aL => have := LMc8.out; omega); intro v115 w9 ho hb hg hat; rw [← Ny114.out] at ho; have n0_ := Aside0.mk (blk_grown (g := gb112) (o := .cells #[.int .u32 a0_0, .int .u32 a0_1, .int .u64 a0_2, .int .i64 a0_3, .slice (some ad113) l0_4.length c0_4, .bool a0_5] 47 (0, 0)) (by (with_reducible repeat (first | refine blk_drewN ?_ _ | refine blk_drew ?_ | refine blk_alloc ?_ _)); exact BK112.out) hg (Kd.R_ne HO_4.out BK112.out (by decide))); have n1_ := Aside0.mk (hb); have n2_ := Aside0.mk (ho); clear BK112; clear HB; clear HO_4; have BK112 := n0_; have HB := n1_; have HO116 := n2_; clear n0_ n1_ n2_; clear ho hb hg hat))
                    repeat (go_quiet (first | ((with_reducible refine gate_builtin (b := .append) (xs := #[.tmp 22, .tmp 23]) rfl ?_); (try (refine gate_guard (by rfl) ?_; dsimp only)); at_builtin; refine Kd.R_append (Kd.int .u8) (w0 := w) w.heap.size rfl (.tmp 22) (.tmp 23) 33 5 (.int .u8 0) 1 rfl Tryz.underlying33 info5 rfl (by decide) (by omega) u4 x4_2 255 [.int .u8 255] (fun _ => True) (fun _ => False) rfl rfl ?aP (fun _ hk => hk.elim) ?aF ?aO ?aB ?aS ?aL ?_; (case aP => exact rfl); (case aB => exact (by repeat (first | (with_reducible first | exact HB.out | apply below_alloc | apply pw_below_drewN | apply below_drew1 | refine below_set ?_ GE112.out) | exact HB.out))); (case aF => exact (fun _ _ => trivial)); (case aO => exact (by (with_reducible repeat (first | apply Kd.R_alloc | apply Kd.R_drewN | apply Kd.R_drew)); exact HO_4.out)); (case aS => exact (below_size (by repeat (first | (with_reducible first | exact HB.out | apply below_alloc | apply pw_below_drewN | apply below_drew1 | refine below_set ?_ GE112.out) | exact HB.out)))); (case aL => have := LMc8.out; omega); intro v115 w9 ho hb hg hat; rw [← Ny114.out] at ho; have n0_ := Aside0.mk (blk_grown (g := gb112) (o := .cells #[.int .u32 a0_0, .int .u32 a0_1, .int .u64 a0_2, .int .i64 a0_3, .slice (some ad113) l0_4.length c0_4, .bool a0_5] 47 (0, 0)) (by (with_reducible repeat (first | refine blk_drewN ?_ _ | refine blk_drew ?_ | refine blk_alloc ?_ _)); exact BK112.out) hg (Kd.R_ne HO_4.out BK112.out (by decide))); have n1_ := Aside0.mk (hb); have n2_ := Aside0.mk (ho); clear BK112; clear HB; clear HO_4; have BK112 := n0_; have HB := n1_; have HO116 := n2_; clear n0_ n1_ n2_; clear ho hb hg hat)); try go_wp2_with (first | ((with_reducible refine gate_builtin (b := .append) (xs := #[.tmp 22, .tmp 23]) rfl ?_); (try (refine gate_guard (by rfl) ?_; dsimp only)); at_builtin; refine Kd.R_append (Kd.int .u8) (w0 := w) w.heap.size rfl (.tmp 22) (.tmp 23) 33 5 (.int .u8 0) 1 rfl Tryz.underlying33 info5 rfl (by decide) (by omega) u4 x4_2 255 [.int .u8 255] (fun _ => True) (fun _ => False) rfl rfl ?aP (fun _ hk => hk.elim) ?aF ?aO ?aB ?aS ?aL ?_; (case aP => exact rfl); (case aB => exact (by repeat (first | (with_reducible first | exact HB.out | apply below_alloc | apply pw_below_drewN | apply below_drew1 | refine below_set ?_ GE112.out) | exact HB.out))); (case aF => exact (fun _ _ => trivial)); (case aO => exact (by (with_reducible repeat (first | apply Kd.R_alloc | apply Kd.R_drewN | apply Kd.R_drew)); exact HO_4.out)); (case aS => exact (below_size (by repeat (first | (with_reducible first | exact HB.out | apply below_alloc | apply pw_below_drewN | apply below_drew1 | refine below_set ?_ GE112.out) | exact HB.out)))); (case aL => have := LMc8.out; omega); intro v115 w9 ho hb hg hat; rw [← Ny114.out] at ho; have n0_ := Aside0.mk (blk_grown (g := gb112) (o := .cells #[.int .u32 a0_0, .int .u32 a0_1, .int .u64 a0_2, .int .i64 a0_3, .slice (some ad113) l0_4.length c0_4, .bool a0_5] 47 (0, 0)) (by (with_reducible repeat (first | refine blk_drewN ?_ _ | refine blk_drew ?_ | refine blk_alloc ?_ _)); exact BK112.out) hg (Kd.R_ne HO_4.out BK112.out (by decide))); have n1_ := Aside0.mk (hb); have n2_ := Aside0.mk (ho); clear BK112; clear HB; clear HO_4; have BK112 := n0_; have HB := n1_; have HO116 := n2_; clear n0_ n1_ n2_; clear ho hb hg hat)))
                    go_roundg k2
                    case measure => have := HK1.out; have := HK2.out; omega
                    case rel => exact ⟨(y114), (wrap64 (x7_2 - 255)), (by first | rfl | (simp; done) | (simp [*]; done)), H', ⟨by have := HK1.out; have := HK2.out; omega⟩, ⟨by (with_reducible repeat (first | apply Kd.R_alloc | apply Kd.R_drewN | apply Kd.R_drew)); exact HO116.out⟩, ⟨by (with_reducible repeat (first | refine blk_drewN ?_ _ | refine blk_drew ?_ | refine blk_alloc ?_ _)); exact BK112.out⟩, ⟨by repeat (first | (with_reducible first | exact HB.out | apply below_alloc | apply pw_below_drewN | apply below_drew1 | refine below_set ?_ GE112.out) | exact HB.out)⟩⟩
                  · rw [if_neg c8] at H
                    exact absurd H (by simp)
                · rw [if_neg c7] at H
                  have c7b0 : decide (255 ≤ x7_2) = false := decide_eq_false c7
                  clear c7
                  have HC10 := Aside0.mk H
                  clear H
                  go_upto_region 9 with (fail)
                  repeat (go_quiet (fail); go_upto_region 9 with (fail))
                  go_cut [34] (fun v34 wc => ∃ (kq : Nat) (x34_9 : Bool), v34 = .bool x34_9 ∧ Aside0 (spec_segments.j2 kq x4_2 (rdOf ByteArray.empty l0_4 x11_1) x7_2 l0_4 (l0_4.length : Int) x11_1 x34_9 a0_0 a0_1 a0_2 a0_3 l0_4 a0_5 = some (r1, r2)) ∧ Aside0 (kq ≤ k2) ∧ Aside0 (Kd.R (Kd.int .u8) 5 wc w.heap.size (fun _ => True) u4 x4_2) ∧ Aside0 (wc.heap[gb112]? = some (.cells #[.int .u32 a0_0, .int .u32 a0_1, .int .u64 a0_2, .int .i64 a0_3, (.slice (some ad113) l0_4.length c0_4), .bool a0_5] 47 (0, 0))) ∧ Aside0 (Below w.heap.size w wc))
                  case first =>
                    have H := HC10.out
                    clear HC10
                    by_cases c11 : x11_1 = (wrap64 ((l0_4.length : Int) - 1))
                    · rw [if_pos c11] at H
                      have c11b0 : (x11_1 == (wrap64 ((l0_4.length : Int) - 1))) = true := beq_iff_eq.mpr c11
                      have c11b1 : (x11_1 != (wrap64 ((l0_4.length : Int) - 1))) = false := bne_eq_false_iff_eq.mpr c11
                      clear c11
                      (first | rw [c11b0] | (simp only [i64_w, i32_w]; rw [c11b0]) | skip)
                      have H' := Aside0.mk H
                      clear H
                      have hcz12_0 : wr.cell? ⟨gb112, 0, none⟩ = some (.int .u32 a0_0) := (blk_cell BK112.out 0).trans rfl
                      have hcz12_1 : wr.cell? ⟨gb112, 1, none⟩ = some (.int .u32 a0_1) := (blk_cell BK112.out 1).trans rfl
                      have hcz12_2 : wr.cell? ⟨gb112, 2, none⟩ = some (.int .u64 a0_2) := (blk_cell BK112.out 2).trans rfl
                      have hcz12_3 : wr.cell? ⟨gb112, 3, none⟩ = some (.int .i64 a0_3) := (blk_cell BK112.out 3).trans rfl
                      have hcz12_4 : wr.cell? ⟨gb112, 4, none⟩ = some (.slice (some ad113) l0_4.length c0_4) := (blk_cell BK112.out 4).trans rfl
                      have hcz12_5 : wr.cell? ⟨gb112, 5, none⟩ = some (.bool a0_5) := (blk_cell BK112.out 5).trans rfl
                      have hfz12_0 := blk_frozen BK112.out 0
                      have hfz12_1 := blk_frozen BK112.out 1
                      have hfz12_2 := blk_frozen BK112.out 2
                      have hfz12_3 := blk_frozen BK112.out 3
                      have hfz12_4 := blk_frozen BK112.out 4
                      have hfz12_5 := blk_frozen BK112.out 5
                      go_wp2
                      repeat (go_quiet (fail); try go_wp2)
                      go_meet
                      case rel => exact ⟨_, (a0_5), (by first | rfl | (simp; done) | (simp [*]; done)), H', ⟨by have := HK1.out; have := HK2.out; first | omega | exact Nat.le_refl _⟩, ⟨by (with_reducible repeat (first | apply Kd.R_alloc | apply Kd.R_drewN | apply Kd.R_drew)); exact HO_4.out⟩, ⟨by (with_reducible repeat (first | refine blk_drewN ?_ _ | refine blk_drew ?_ | refine blk_alloc ?_ _)); exact BK112.out⟩, ⟨by repeat (first | (with_reducible first | exact HB.out | apply below_alloc | apply pw_below_drewN | apply below_drew1 | refine below_set ?_ GE112.out) | exact HB.out)⟩⟩
                    · rw [if_neg c11] at H
                      have c11b0 : (x11_1 == (wrap64 ((l0_4.length : Int) - 1))) = false := beq_eq_false_iff_ne.mpr c11
                      have c11b1 : (x11_1 != (wrap64 ((l0_4.length : Int) - 1))) = true := bne_iff_ne.mpr c11
                      (first | rw [c11b0] | (simp only [i64_w, i32_w]; rw [c11b0]) | skip)
                      have H' := Aside0.mk H
                      clear H
                      have hcz13_0 : wr.cell? ⟨gb112, 0, none⟩ = some (.int .u32 a0_0) := (blk_cell BK112.out 0).trans rfl
                      have hcz13_1 : wr.cell? ⟨gb112, 1, none⟩ = some (.int .u32 a0_1) := (blk_cell BK112.out 1).trans rfl
                      have hcz13_2 : wr.cell? ⟨gb112, 2, none⟩ = some (.int .u64 a0_2) := (blk_cell BK112.out 2).trans rfl
                      have hcz13_3 : wr.cell? ⟨gb112, 3, none⟩ = some (.int .i64 a0_3) := (blk_cell BK112.out 3).trans rfl
                      have hcz13_4 : wr.cell? ⟨gb112, 4, none⟩ = some (.slice (some ad113) l0_4.length c0_4) := (blk_cell BK112.out 4).trans rfl
                      have hcz13_5 : wr.cell? ⟨gb112, 5, none⟩ = some (.bool a0_5) := (blk_cell BK112.out 5).trans rfl
                      have hfz13_0 := blk_frozen BK112.out 0
                      have hfz13_1 := blk_frozen BK112.out 1
                      have hfz13_2 := blk_frozen BK112.out 2
                      have hfz13_3 := blk_frozen BK112.out 3
                      have hfz13_4 := blk_frozen BK112.out 4
                      have hfz13_5 := blk_frozen BK112.out 5
                      go_wp2
                      repeat (go_quiet (fail); try go_wp2)
                      go_meet
                      case rel => exact ⟨_, (false), (by first | rfl | (simp; done) | (simp [*]; done)), H', ⟨by have := HK1.out; have := HK2.out; first | omega | exact Nat.le_refl _⟩, ⟨by (with_reducible repeat (first | apply Kd.R_alloc | apply Kd.R_drewN | apply Kd.R_drew)); exact HO_4.out⟩, ⟨by (with_reducible repeat (first | refine blk_drewN ?_ _ | refine blk_drew ?_ | refine blk_alloc ?_ _)); exact BK112.out⟩, ⟨by repeat (first | (with_reducible first | exact HB.out | apply below_alloc | apply pw_below_drewN | apply below_drew1 | refine below_set ?_ GE112.out) | exact HB.out)⟩⟩
                  case rest =>
                    clear HC10
                    try clear c1
                    try clear p1
                    try clear q1
                    try clear hx1
                    try clear p2
                    try clear c4
                    try clear c4b0
                    try clear c5
                    try clear c5b0
                    try clear c6
                    try clear c6b0
                    try clear p6
                    try clear c7
                    try clear c7b0
                    try clear c8
                    try clear c11
                    try clear c11b0
                    try clear c11b1
                    try clear p11
                    try clear q11
                    try clear hx11
                    try clear hcz12_0
                    try clear hcz12_1
                    try clear hcz12_2
                    try clear hcz12_3
                    try clear hcz12_4
                    try clear hcz12_5
                    try clear hcz13_0
                    try clear hcz13_1
                    try clear hcz13_2
                    try clear hcz13_3
                    try clear hcz13_4
                    try clear hcz13_5
                    try clear hcz3_0
                    try clear hcz3_1
                    try clear hcz3_2
                    try clear hcz3_3
                    try clear hcz3_4
                    try clear hcz3_5
                    try clear hfz12_0
                    try clear hfz12_1
                    try clear hfz12_2
                    try clear hfz12_3
                    try clear hfz12_4
                    try clear hfz12_5
                    try clear hfz13_0
                    try clear hfz13_1
                    try clear hfz13_2
                    try clear hfz13_3
                    try clear hfz13_4
                    try clear hfz13_5
                    try clear hfz3_0
                    try clear hfz3_1
                    try clear hfz3_2
                    try clear hfz3_3
                    try clear hfz3_4
                    try clear hfz3_5
                    try clear hx113_0
                    try clear p1
                    try clear p113
                    try clear p2
                    try clear q1
                    try clear q113
                    obtain ⟨kq, x34_9, rfl, HA, HJ9, HO_4, BK112, HB⟩ := hcut
                    cases kq with
                    | zero => exact absurd HA.out (by simp [spec_segments.j2])
                    | succ kj9 =>
                      have H := HA.out
                      clear HA
                      simp only [spec_segments.j2] at H
                      by_cases c14 : x34_9 = true
                      · subst c14
                        have H1 : (if x7_2 = 0 then (if (rdOf ByteArray.empty l0_4 x11_1).toList = ([] : List UInt8) then (some (([] : List Int), false)) else (if (x4_2.length : Int) ≤ 255 then (if a0_5 = true then (some (x4_2, decide ((l0_4.length : Int) > 0))) else (some (x4_2, true))) else (some (x4_2, false)))) else (some (([] : List Int), false))) = some (r1, r2) := by rw [if_pos rfl] at H; exact H
                        clear H
                        have H := H1
                        clear H1
                        by_cases c15 : x7_2 = 0
                        · rw [if_pos c15] at H
                          have c15b0 : (x7_2 == 0) = true := beq_iff_eq.mpr c15
                          have c15b1 : (x7_2 != 0) = false := bne_eq_false_iff_eq.mpr c15
                          clear c15
                          by_cases c16 : (rdOf ByteArray.empty l0_4 x11_1).toList = ([] : List UInt8)
                          · rw [if_pos c16] at H
                            have c16b0 : ((rdOf ByteArray.empty l0_4 x11_1).toList == ([] : List UInt8)) = true := beq_iff_eq.mpr c16
                            have c16b1 : ((rdOf ByteArray.empty l0_4 x11_1).toList != ([] : List UInt8)) = false := bne_eq_false_iff_eq.mpr c16
                            clear c16
                            simp only [Option.some.injEq, Prod.mk.injEq] at H
                            obtain ⟨rfl, rfl⟩ := H
                            go_wp2
                            repeat (go_quiet (fail); try go_wp2)
                            go_ret2
                            exact ⟨_, by first | rfl | (simp [errW_none, errW_some] <;> rfl) | (simp [*, errW_none, errW_some] <;> rfl), by first | exact Kd.R_nil _ _ _ _ _ | exact Kd.N_nil _ _ _ _ _ | exact Kd.V_nil _ _ _ _ _ | exact Kd.Q_nil _ _ _ _ _ | exact Kd.S_nil _ _ _ _ _, by repeat (first | (with_reducible first | exact HB.out | apply below_alloc | apply pw_below_drewN | apply below_drew1 | refine below_set ?_ GE112.out) | exact HB.out)⟩
                          · rw [if_neg c16] at H
                            have c16b0 : ((rdOf ByteArray.empty l0_4 x11_1).toList == ([] : List UInt8)) = false := beq_eq_false_iff_ne.mpr c16
                            have c16b1 : ((rdOf ByteArray.empty l0_4 x11_1).toList != ([] : List UInt8)) = true := bne_iff_ne.mpr c16
                            by_cases c17 : (x4_2.length : Int) ≤ 255
                            · rw [if_pos c17] at H
                              have c17b0 : decide ((x4_2.length : Int) ≤ 255) = true := decide_eq_true c17
                              have c17b1 : decide (x4_2.length ≤ 255) = true := decide_eq_true (by omega)
                              clear c17
                              by_cases c18 : a0_5 = true
                              · subst c18
                                have H1 : (some (x4_2, decide ((l0_4.length : Int) > 0))) = some (r1, r2) := by rw [if_pos rfl] at H; exact H
                                clear H
                                have H := H1
                                clear H1
                                simp only [Option.some.injEq, Prod.mk.injEq] at H
                                obtain ⟨rfl, rfl⟩ := H
                                obtain ⟨Ao19, co19, eo19⟩ := Kd.R_slice HO_4.out
                                subst eo19
                                have hcz20_0 : wc.cell? ⟨gb112, 0, none⟩ = some (.int .u32 a0_0) := (blk_cell BK112.out 0).trans rfl
                                have hcz20_1 : wc.cell? ⟨gb112, 1, none⟩ = some (.int .u32 a0_1) := (blk_cell BK112.out 1).trans rfl
                                have hcz20_2 : wc.cell? ⟨gb112, 2, none⟩ = some (.int .u64 a0_2) := (blk_cell BK112.out 2).trans rfl
                                have hcz20_3 : wc.cell? ⟨gb112, 3, none⟩ = some (.int .i64 a0_3) := (blk_cell BK112.out 3).trans rfl
                                have hcz20_4 : wc.cell? ⟨gb112, 4, none⟩ = some (.slice (some ad113) l0_4.length c0_4) := (blk_cell BK112.out 4).trans rfl
                                have hcz20_5 : wc.cell? ⟨gb112, 5, none⟩ = some (.bool true) := (blk_cell BK112.out 5).trans rfl
                                have hfz20_0 := blk_frozen BK112.out 0
                                have hfz20_1 := blk_frozen BK112.out 1
                                have hfz20_2 := blk_frozen BK112.out 2
                                have hfz20_3 := blk_frozen BK112.out 3
                                have hfz20_4 := blk_frozen BK112.out 4
                                have hfz20_5 := blk_frozen BK112.out 5
                                go_wp2
                                repeat (go_quiet (fail); try go_wp2)
                                go_ret2
                                exact ⟨_, by first | rfl | (simp [errW_none, errW_some] <;> rfl) | (simp [*, errW_none, errW_some] <;> rfl), by (with_reducible repeat (first | apply Kd.R_alloc | apply Kd.R_drewN | apply Kd.R_drew)); exact HO_4.out, by repeat (first | (with_reducible first | exact HB.out | apply below_alloc | apply pw_below_drewN | apply below_drew1 | refine below_set ?_ GE112.out) | exact HB.out)⟩
                              · replace c18 := Bool.eq_false_iff.mpr c18
                                subst c18
                                have H1 : (some (x4_2, true)) = some (r1, r2) := by rw [if_neg (show ¬ (false = true) by decide)] at H; exact H
                                clear H
                                have H := H1
                                clear H1
                                simp only [Option.some.injEq, Prod.mk.injEq] at H
                                obtain ⟨rfl, rfl⟩ := H
                                obtain ⟨Ao21, co21, eo21⟩ := Kd.R_slice HO_4.out
                                subst eo21
                                have hcz22_0 : wc.cell? ⟨gb112, 0, none⟩ = some (.int .u32 a0_0) := (blk_cell BK112.out 0).trans rfl
                                have hcz22_1 : wc.cell? ⟨gb112, 1, none⟩ = some (.int .u32 a0_1) := (blk_cell BK112.out 1).trans rfl
                                have hcz22_2 : wc.cell? ⟨gb112, 2, none⟩ = some (.int .u64 a0_2) := (blk_cell BK112.out 2).trans rfl
                                have hcz22_3 : wc.cell? ⟨gb112, 3, none⟩ = some (.int .i64 a0_3) := (blk_cell BK112.out 3).trans rfl
                                have hcz22_4 : wc.cell? ⟨gb112, 4, none⟩ = some (.slice (some ad113) l0_4.length c0_4) := (blk_cell BK112.out 4).trans rfl
                                have hcz22_5 : wc.cell? ⟨gb112, 5, none⟩ = some (.bool false) := (blk_cell BK112.out 5).trans rfl
                                have hfz22_0 := blk_frozen BK112.out 0
                                have hfz22_1 := blk_frozen BK112.out 1
                                have hfz22_2 := blk_frozen BK112.out 2
                                have hfz22_3 := blk_frozen BK112.out 3
                                have hfz22_4 := blk_frozen BK112.out 4
                                have hfz22_5 := blk_frozen BK112.out 5
                                go_wp2
                                repeat (go_quiet (fail); try go_wp2)
                                go_ret2
                                exact ⟨_, by first | rfl | (simp [errW_none, errW_some] <;> rfl) | (simp [*, errW_none, errW_some] <;> rfl), by (with_reducible repeat (first | apply Kd.R_alloc | apply Kd.R_drewN | apply Kd.R_drew)); exact HO_4.out, by repeat (first | (with_reducible first | exact HB.out | apply below_alloc | apply pw_below_drewN | apply below_drew1 | refine below_set ?_ GE112.out) | exact HB.out)⟩
                            · rw [if_neg c17] at H
                              have c17b0 : decide ((x4_2.length : Int) ≤ 255) = false := decide_eq_false c17
                              have c17b1 : decide (x4_2.length ≤ 255) = false := decide_eq_false (by omega)
                              clear c17
                              simp only [Option.some.injEq, Prod.mk.injEq] at H
                              obtain ⟨rfl, rfl⟩ := H
                              obtain ⟨Ao23, co23, eo23⟩ := Kd.R_slice HO_4.out
                              subst eo23
                              go_wp2
                              repeat (go_quiet (fail); try go_wp2)
                              go_ret2
                              exact ⟨_, by first | rfl | (simp [errW_none, errW_some] <;> rfl) | (simp [*, errW_none, errW_some] <;> rfl), by (with_reducible repeat (first | apply Kd.R_alloc | apply Kd.R_drewN | apply Kd.R_drew)); exact HO_4.out, by repeat (first | (with_reducible first | exact HB.out | apply below_alloc | apply pw_below_drewN | apply below_drew1 | refine below_set ?_ GE112.out) | exact HB.out)⟩
                        · rw [if_neg c15] at H
                          have c15b0 : (x7_2 == 0) = false := beq_eq_false_iff_ne.mpr c15
                          have c15b1 : (x7_2 != 0) = true := bne_iff_ne.mpr c15
                          simp only [Option.some.injEq, Prod.mk.injEq] at H
                          obtain ⟨rfl, rfl⟩ := H
                          go_wp2
                          repeat (go_quiet (fail); try go_wp2)
                          go_ret2
                          exact ⟨_, by first | rfl | (simp [errW_none, errW_some] <;> rfl) | (simp [*, errW_none, errW_some] <;> rfl), by first | exact Kd.R_nil _ _ _ _ _ | exact Kd.N_nil _ _ _ _ _ | exact Kd.V_nil _ _ _ _ _ | exact Kd.Q_nil _ _ _ _ _ | exact Kd.S_nil _ _ _ _ _, by repeat (first | (with_reducible first | exact HB.out | apply below_alloc | apply pw_below_drewN | apply below_drew1 | refine below_set ?_ GE112.out) | exact HB.out)⟩
                      · replace c14 := Bool.eq_false_iff.mpr c14
                        subst c14
                        have H1 : (if x4_2.length < 140737488355328 then (spec_segments.l0 kj9 (x4_2 ++ [(x7_2) % 256]) l0_4 (l0_4.length : Int) (wrap64 (x11_1 + 1)) a0_0 a0_1 a0_2 a0_3 l0_4 a0_5) else (none)) = some (r1, r2) := by rw [if_neg (show ¬ (false = true) by decide)] at H; exact H
                        clear H
                        have H := H1
                        clear H1
                        by_cases c24 : x4_2.length < 140737488355328
                        · rw [if_pos c24] at H
                          have LMc24 := Aside0.mk c24
                          clear c24
                          obtain ⟨y117, hy117⟩ : ∃ y_ : List Int, y_ = (x4_2 ++ [(x7_2) % 256]) := ⟨_, rfl⟩
                          replace H : (spec_segments.l0 kj9 y117 l0_4 (l0_4.length : Int) (wrap64 (x11_1 + 1)) a0_0 a0_1 a0_2 a0_3 l0_4 a0_5) = some (r1, r2) := by first | (rw [hy117]; with_reducible exact H) | (have H2_ := (Option.bind_some _ _).symm.trans H; rw [hy117]; with_reducible exact H2_) | (have H2_ := (Option.bind_some _ _).symm.trans H; with_reducible exact H2_) | with_reducible exact H | (rw [hy117]; exact H) | exact H
                          have Ny117 := Aside0.mk hy117
                          clear hy117
                          have H' := Aside0.mk H
                          clear H
                          go_wp2_with (first | ((with_reducible refine gate_builtin (b := .append) (xs := #[.tmp 41, .tmp 44]) rfl ?_); (try (refine gate_guard (by rfl) ?_; dsimp only)); at_builtin; refine Kd.R_append (Kd.int .u8) (w0 := w) w.heap.size rfl (.tmp 41) (.tmp 44) 33 5 (.int .u8 0) 1 rfl Tryz.underlying33 info5 rfl (by decide) (by omega) u4 x4_2 ((x7_2) % 256) [.int .u8 ((x7_2) % 256)] (fun _ => True) (fun _ => False) rfl rfl ?aP (fun _ hk => hk.elim) ?aF ?aO ?aB ?aS ?aL ?_; (case aP => exact rfl); (case aB => exact (by repeat (first | (with_reducible first | exact HB.out | apply below_alloc | apply pw_below_drewN | apply below_drew1 | refine below_set ?_ GE112.out) | exact HB.out))); (case aF => exact (fun _ _ => trivial)); (case aO => exact (by (with_reducible repeat (first | apply Kd.R_alloc | apply Kd.R_drewN | apply Kd.R_drew)); exact HO_4.out)); (case aS => exact (below_size (by repeat (first | (with_reducible first | exact HB.out | apply below_alloc | apply pw_below_drewN | apply below_drew1 | refine below_set ?_ GE112.out) | exact HB.out)))); (case aL => have := LMc24.out; omega); intro v118 w25 ho hb hg hat; rw [← Ny117.out] at ho; have n0_ := Aside0.mk (blk_grown (g := gb112) (o := .cells #[.int .u32 a0_0, .int .u32 a0_1, .int .u64 a0_2, .int .i64 a0_3, .slice (some ad113) l0_4.length c0_4, .bool a0_5] 47 (0, 0)) (by (with_reducible repeat (first | refine blk_drewN ?_ _ | refine blk_drew ?_ | refine blk_alloc ?_ _)); exact BK112.out) hg (Kd.R_ne HO_4.out BK112.out (by decide))); have n1_ := Aside0.mk (hb); have n2_ := Aside0.mk (ho); clear BK112; clear HB; clear HO_4; have BK112 := n0_; have HB := n1_; have HO119 := n2_; clear n0_ n1_ n2_; clear ho hb hg hat))
                          repeat (go_quiet (first | ((with_reducible refine gate_builtin (b := .append) (xs := #[.tmp 41, .tmp 44]) rfl ?_); (try (refine gate_guard (by rfl) ?_; dsimp only)); at_builtin; refine Kd.R_append (Kd.int .u8) (w0 := w) w.heap.size rfl (.tmp 41) (.tmp 44) 33 5 (.int .u8 0) 1 rfl Tryz.underlying33 info5 rfl (by decide) (by omega) u4 x4_2 ((x7_2) % 256) [.int .u8 ((x7_2) % 256)] (fun _ => True) (fun _ => False) rfl rfl ?aP (fun _ hk => hk.elim) ?aF ?aO ?aB ?aS ?aL ?_; (case aP => exact rfl); (case aB => exact (by repeat (first | (with_reducible first | exact HB.out | apply below_alloc | apply pw_below_drewN | apply below_drew1 | refine below_set ?_ GE112.out) | exact HB.out))); (case aF => exact (fun _ _ => trivial)); (case aO => exact (by (with_reducible repeat (first | apply Kd.R_alloc | apply Kd.R_drewN | apply Kd.R_drew)); exact HO_4.out)); (case aS => exact (below_size (by repeat (first | (with_reducible first | exact HB.out | apply below_alloc | apply pw_below_drewN | apply below_drew1 | refine below_set ?_ GE112.out) | exact HB.out)))); (case aL => have := LMc24.out; omega); intro v118 w25 ho hb hg hat; rw [← Ny117.out] at ho; have n0_ := Aside0.mk (blk_grown (g := gb112) (o := .cells #[.int .u32 a0_0, .int .u32 a0_1, .int .u64 a0_2, .int .i64 a0_3, .slice (some ad113) l0_4.length c0_4, .bool a0_5] 47 (0, 0)) (by (with_reducible repeat (first | refine blk_drewN ?_ _ | refine blk_drew ?_ | refine blk_alloc ?_ _)); exact BK112.out) hg (Kd.R_ne HO_4.out BK112.out (by decide))); have n1_ := Aside0.mk (hb); have n2_ := Aside0.mk (ho); clear BK112; clear HB; clear HO_4; have BK112 := n0_; have HB := n1_; have HO119 := n2_; clear n0_ n1_ n2_; clear ho hb hg hat)); try go_wp2_with (first | ((with_reducible refine gate_builtin (b := .append) (xs := #[.tmp 41, .tmp 44]) rfl ?_); (try (refine gate_guard (by rfl) ?_; dsimp only)); at_builtin; refine Kd.R_append (Kd.int .u8) (w0 := w) w.heap.size rfl (.tmp 41) (.tmp 44) 33 5 (.int .u8 0) 1 rfl Tryz.underlying33 info5 rfl (by decide) (by omega) u4 x4_2 ((x7_2) % 256) [.int .u8 ((x7_2) % 256)] (fun _ => True) (fun _ => False) rfl rfl ?aP (fun _ hk => hk.elim) ?aF ?aO ?aB ?aS ?aL ?_; (case aP => exact rfl); (case aB => exact (by repeat (first | (with_reducible first | exact HB.out | apply below_alloc | apply pw_below_drewN | apply below_drew1 | refine below_set ?_ GE112.out) | exact HB.out))); (case aF => exact (fun _ _ => trivial)); (case aO => exact (by (with_reducible repeat (first | apply Kd.R_alloc | apply Kd.R_drewN | apply Kd.R_drew)); exact HO_4.out)); (case aS => exact (below_size (by repeat (first | (with_reducible first | exact HB.out | apply below_alloc | apply pw_below_drewN | apply below_drew1 | refine below_set ?_ GE112.out) | exact HB.out)))); (case aL => have := LMc24.out; omega); intro v118 w25 ho hb hg hat; rw [← Ny117.out] at ho; have n0_ := Aside0.mk (blk_grown (g := gb112) (o := .cells #[.int .u32 a0_0, .int .u32 a0_1, .int .u64 a0_2, .int .i64 a0_3, .slice (some ad113) l0_4.length c0_4, .bool a0_5] 47 (0, 0)) (by (with_reducible repeat (first | refine blk_drewN ?_ _ | refine blk_drew ?_ | refine blk_alloc ?_ _)); exact BK112.out) hg (Kd.R_ne HO_4.out BK112.out (by decide))); have n1_ := Aside0.mk (hb); have n2_ := Aside0.mk (ho); clear BK112; clear HB; clear HO_4; have BK112 := n0_; have HB := n1_; have HO119 := n2_; clear n0_ n1_ n2_; clear ho hb hg hat)))
                          go_roundg kj9
                          case measure => have := HK1.out; have := HK2.out; have := HJ9.out; omega
                          case rel => exact ⟨(y117), (wrap64 (x11_1 + 1)), (by first | rfl | (simp; done) | (simp [*]; done)), H', ⟨by have := HK1.out; have := HK2.out; have := HJ9.out; omega⟩, ⟨by (with_reducible repeat (first | apply Kd.R_alloc | apply Kd.R_drewN | apply Kd.R_drew)); exact HO119.out⟩, ⟨by (with_reducible repeat (first | refine blk_drewN ?_ _ | refine blk_drew ?_ | refine blk_alloc ?_ _)); exact BK112.out⟩, ⟨by repeat (first | (with_reducible first | exact HB.out | apply below_alloc | apply pw_below_drewN | apply below_drew1 | refine below_set ?_ GE112.out) | exact HB.out)⟩⟩
                        · rw [if_neg c24] at H
                          exact absurd H (by simp)
          · rw [if_neg c6] at H
            exact absurd H (by simp)
        · rw [if_neg c5] at H
          exact absurd H (by simp)
      · rw [if_neg c4] at H
        have c4b0 : decide (x11_1 < (l0_4.length : Int)) = false := decide_eq_false c4
        clear c4
        by_cases c26 : (x4_1.length : Int) ≤ 255
        · rw [if_pos c26] at H
          have c26b0 : decide ((x4_1.length : Int) ≤ 255) = true := decide_eq_true c26
          have c26b1 : decide (x4_1.length ≤ 255) = true := decide_eq_true (by omega)
          clear c26
          by_cases c27 : a0_5 = true
          · subst c27
            have H1 : (some (x4_1, decide ((l0_4.length : Int) > 0))) = some (r1, r2) := by rw [if_pos rfl] at H; exact H
            clear H
            have H := H1
            clear H1
            simp only [Option.some.injEq, Prod.mk.injEq] at H
            obtain ⟨rfl, rfl⟩ := H
            obtain ⟨Ao28, co28, eo28⟩ := Kd.R_slice HO_4.out
            subst eo28
            have hcz29_0 : wr.cell? ⟨gb112, 0, none⟩ = some (.int .u32 a0_0) := (blk_cell BK112.out 0).trans rfl
            have hcz29_1 : wr.cell? ⟨gb112, 1, none⟩ = some (.int .u32 a0_1) := (blk_cell BK112.out 1).trans rfl
            have hcz29_2 : wr.cell? ⟨gb112, 2, none⟩ = some (.int .u64 a0_2) := (blk_cell BK112.out 2).trans rfl
            have hcz29_3 : wr.cell? ⟨gb112, 3, none⟩ = some (.int .i64 a0_3) := (blk_cell BK112.out 3).trans rfl
            have hcz29_4 : wr.cell? ⟨gb112, 4, none⟩ = some (.slice A0_4 l0_4.length c0_4) := (blk_cell BK112.out 4).trans rfl
            have hcz29_5 : wr.cell? ⟨gb112, 5, none⟩ = some (.bool true) := (blk_cell BK112.out 5).trans rfl
            have hfz29_0 := blk_frozen BK112.out 0
            have hfz29_1 := blk_frozen BK112.out 1
            have hfz29_2 := blk_frozen BK112.out 2
            have hfz29_3 := blk_frozen BK112.out 3
            have hfz29_4 := blk_frozen BK112.out 4
            have hfz29_5 := blk_frozen BK112.out 5
            go_wp2
            repeat (go_quiet (fail); try go_wp2)
            go_ret2
            exact ⟨_, by first | rfl | (simp [errW_none, errW_some] <;> rfl) | (simp [*, errW_none, errW_some] <;> rfl), by (with_reducible repeat (first | apply Kd.R_alloc | apply Kd.R_drewN | apply Kd.R_drew)); exact HO_4.out, by repeat (first | (with_reducible first | exact HB.out | apply below_alloc | apply pw_below_drewN | apply below_drew1 | refine below_set ?_ GE112.out) | exact HB.out)⟩
          · replace c27 := Bool.eq_false_iff.mpr c27
            subst c27
            have H1 : (some (x4_1, true)) = some (r1, r2) := by rw [if_neg (show ¬ (false = true) by decide)] at H; exact H
            clear H
            have H := H1
            clear H1
            simp only [Option.some.injEq, Prod.mk.injEq] at H
            obtain ⟨rfl, rfl⟩ := H
            obtain ⟨Ao30, co30, eo30⟩ := Kd.R_slice HO_4.out
            subst eo30
            have hcz31_0 : wr.cell? ⟨gb112, 0, none⟩ = some (.int .u32 a0_0) := (blk_cell BK112.out 0).trans rfl
            have hcz31_1 : wr.cell? ⟨gb112, 1, none⟩ = some (.int .u32 a0_1) := (blk_cell BK112.out 1).trans rfl
            have hcz31_2 : wr.cell? ⟨gb112, 2, none⟩ = some (.int .u64 a0_2) := (blk_cell BK112.out 2).trans rfl
            have hcz31_3 : wr.cell? ⟨gb112, 3, none⟩ = some (.int .i64 a0_3) := (blk_cell BK112.out 3).trans rfl
            have hcz31_4 : wr.cell? ⟨gb112, 4, none⟩ = some (.slice A0_4 l0_4.length c0_4) := (blk_cell BK112.out 4).trans rfl
            have hcz31_5 : wr.cell? ⟨gb112, 5, none⟩ = some (.bool false) := (blk_cell BK112.out 5).trans rfl
            have hfz31_0 := blk_frozen BK112.out 0
            have hfz31_1 := blk_frozen BK112.out 1
            have hfz31_2 := blk_frozen BK112.out 2
            have hfz31_3 := blk_frozen BK112.out 3
            have hfz31_4 := blk_frozen BK112.out 4
            have hfz31_5 := blk_frozen BK112.out 5
            go_wp2
            repeat (go_quiet (fail); try go_wp2)
            go_ret2
            exact ⟨_, by first | rfl | (simp [errW_none, errW_some] <;> rfl) | (simp [*, errW_none, errW_some] <;> rfl), by (with_reducible repeat (first | apply Kd.R_alloc | apply Kd.R_drewN | apply Kd.R_drew)); exact HO_4.out, by repeat (first | (with_reducible first | exact HB.out | apply below_alloc | apply pw_below_drewN | apply below_drew1 | refine below_set ?_ GE112.out) | exact HB.out)⟩
        · rw [if_neg c26] at H
          have c26b0 : decide ((x4_1.length : Int) ≤ 255) = false := decide_eq_false c26
          have c26b1 : decide (x4_1.length ≤ 255) = false := decide_eq_false (by omega)
          clear c26
          simp only [Option.some.injEq, Prod.mk.injEq] at H
          obtain ⟨rfl, rfl⟩ := H
          obtain ⟨Ao32, co32, eo32⟩ := Kd.R_slice HO_4.out
          subst eo32
          go_wp2
          repeat (go_quiet (fail); try go_wp2)
          go_ret2
          exact ⟨_, by first | rfl | (simp [errW_none, errW_some] <;> rfl) | (simp [*, errW_none, errW_some] <;> rfl), by (with_reducible repeat (first | apply Kd.R_alloc | apply Kd.R_drewN | apply Kd.R_drew)); exact HO_4.out, by repeat (first | (with_reducible first | exact HB.out | apply below_alloc | apply pw_below_drewN | apply below_drew1 | refine below_set ?_ GE112.out) | exact HB.out)⟩

/-! ### spec_OggSum: function 67 -/
mutual
def spec_OggSum.l0 : Nat → ByteArray → Int → Int → Int → Option (Int)
  | 0, _, _, _, _ => none
  | k + 1, x0, x3, x6, x7 => if x7 < x6 then (if 0 ≤ x7 then (if x7 < (x0.size : Int) then (spec_OggSum.l1 k x0 (Go.bits .xor .u32 x3 ((((bt x0 x7) % 4294967296) * 16777216) % 4294967296)) x6 x7 0) else (none)) else (none)) else (some x3)
def spec_OggSum.l1 : Nat → ByteArray → Int → Int → Int → Int → Option (Int)
  | 0, _, _, _, _, _ => none
  | k + 1, x0, x3, x6, x7, x17 => if x17 < 8 then (if (Go.bits .and .u32 x3 2147483648) = 0 then (spec_OggSum.l1 k x0 ((x3 * 2) % 4294967296) x6 x7 (wrap64 (x17 + 1))) else (spec_OggSum.l1 k x0 (Go.bits .xor .u32 ((x3 * 2) % 4294967296) 79764919) x6 x7 (wrap64 (x17 + 1)))) else (spec_OggSum.l0 k x0 x3 x6 (wrap64 (x7 + 1)))
end
def spec_OggSum.f (k : Nat) (a0 : ByteArray) : Option (Int) := spec_OggSum.l0 k a0 0 (a0.size : Int) 0
theorem spec_OggSum.mono_l : ∀ k, (∀ y0 y1 y2 y3, LeO (spec_OggSum.l0 k y0 y1 y2 y3) (spec_OggSum.l0 (k + 1) y0 y1 y2 y3)) ∧ (∀ y0 y1 y2 y3 y4, LeO (spec_OggSum.l1 k y0 y1 y2 y3 y4) (spec_OggSum.l1 (k + 1) y0 y1 y2 y3 y4))
  | 0 => ⟨fun _ _ _ _ r h => by simp [spec_OggSum.l0] at h, fun _ _ _ _ _ r h => by simp [spec_OggSum.l1] at h⟩
  | k + 1 => by
    obtain ⟨ih0, ih1⟩ := spec_OggSum.mono_l k
    refine ⟨?_, ?_⟩
    · intro y0 y1 y2 y3
      unfold spec_OggSum.l0
      repeat' first
      | (with_reducible exact ih0 _ _ _ _)
      | (with_reducible exact ih1 _ _ _ _ _)
      | (with_reducible exact LeO.refl _)
      | (with_reducible exact LeO.none _)
      | (with_reducible refine LeO.ite ?_ ?_)
      | (with_reducible refine LeO.bind ?_ (fun _ => ?_))
      | exact ih0 _ _ _ _
      | exact ih1 _ _ _ _ _
      | exact LeO.none _
      | refine LeO.ite ?_ ?_
      | refine LeO.bind ?_ (fun _ => ?_)
    · intro y0 y1 y2 y3 y4
      unfold spec_OggSum.l1
      repeat' first
      | (with_reducible exact ih0 _ _ _ _)
      | (with_reducible exact ih1 _ _ _ _ _)
      | (with_reducible exact LeO.refl _)
      | (with_reducible exact LeO.none _)
      | (with_reducible refine LeO.ite ?_ ?_)
      | (with_reducible refine LeO.bind ?_ (fun _ => ?_))
      | exact ih0 _ _ _ _
      | exact ih1 _ _ _ _ _
      | exact LeO.none _
      | refine LeO.ite ?_ ?_
      | refine LeO.bind ?_ (fun _ => ?_)
theorem spec_OggSum.mono : ∀ a0 k, LeO (spec_OggSum.f k a0) (spec_OggSum.f (k + 1) a0) := by
  intro a0 k
  obtain ⟨ih0, ih1⟩ := spec_OggSum.mono_l k
  unfold spec_OggSum.f
  repeat' first
      | (with_reducible exact ih0 _ _ _ _)
      | (with_reducible exact ih1 _ _ _ _ _)
      | (with_reducible exact LeO.refl _)
      | (with_reducible exact LeO.none _)
      | (with_reducible refine LeO.ite ?_ ?_)
      | (with_reducible refine LeO.bind ?_ (fun _ => ?_))
      | exact ih0 _ _ _ _
      | exact ih1 _ _ _ _ _
      | exact LeO.none _
      | refine LeO.ite ?_ ?_
      | refine LeO.bind ?_ (fun _ => ?_)
set_option maxHeartbeats 8000000 in
set_option maxRecDepth 100000 in
theorem spec_OggSum.calls (k : Nat) (a0 : ByteArray) (r : Int) (w : World) (h : spec_OggSum.f k a0 = some r) :
    Calls Tryz.prog 67 #[.string a0] w fun e w' => e = .returned (.int .u32 r) ∧ Drawn0 w w' := by
  have H : (spec_OggSum.l0 k a0 0 (a0.size : Int) 0) = some r := h
  clear h
  have H' := Aside0.mk H
  clear H
  go_enter Tryz.func67, Tryz.ntmps67
  go_wp2
  go_loopg [3, 7] k (fun kq v3 v7 w' => ∃ (x3_1 : Int) (x7_1 : Int), v3 = .int .u32 x3_1 ∧ v7 = .int .i64 x7_1 ∧ Aside0 (spec_OggSum.l0 kq a0 x3_1 (a0.size : Int) x7_1 = some r) ∧ Aside0 (kq ≤ k) ∧ Drawn0 w w')
  case atStart => exact ⟨(0), (0), (by first | rfl | (simp; done) | (simp [*]; done)), (by first | rfl | (simp; done) | (simp [*]; done)), H', ⟨Nat.le_refl _⟩, by repeat (first | exact Drawn0.refl _ | apply Drawn0.step)⟩
  case round =>
    clear H'
    obtain ⟨x3_1, x7_1, rfl, rfl, HA, HK1, ⟨m1, rfl⟩⟩ := hrel
    cases gk with
    | zero => exact absurd HA.out (by simp [spec_OggSum.l0])
    | succ k1 =>
      have H := HA.out
      clear HA
      simp only [spec_OggSum.l0] at H
      by_cases c2 : x7_1 < (a0.size : Int)
      · rw [if_pos c2] at H
        have c2b0 : decide (x7_1 < (a0.size : Int)) = true := decide_eq_true c2
        clear c2
        by_cases c3 : 0 ≤ x7_1
        · rw [if_pos c3] at H
          have c3b0 : decide (0 ≤ x7_1) = true := decide_eq_true c3
          clear c3
          by_cases c4 : x7_1 < (a0.size : Int)
          · rw [if_pos c4] at H
            have c4b0 : decide (x7_1 < (a0.size : Int)) = true := decide_eq_true c4
            clear c4
            have H' := Aside0.mk H
            clear H
            have p5 : 0 ≤ (x7_1 : Int) := of_decide_eq_true (by first | (with_reducible assumption) | assumption)
            have q5 : x7_1 < (a0.size : Int) := of_decide_eq_true (by first | (with_reducible assumption) | assumption)
            have hx5 := bt_at a0 x7_1
            replace p5 := eq_true p5
            replace q5 := eq_true q5
            go_wp2
            go_loopg [3, 17] k1 (fun kq v3 v17 w' => ∃ (x3_2 : Int) (x17_2 : Int), v3 = .int .u32 x3_2 ∧ v17 = .int .i64 x17_2 ∧ Aside0 (spec_OggSum.l1 kq a0 x3_2 (a0.size : Int) x7_1 x17_2 = some r) ∧ Aside0 (kq ≤ k1) ∧ Drawn0 w w')
            case atStart => exact ⟨(Go.bits .xor .u32 x3_1 ((((bt a0 x7_1) % 4294967296) * 16777216) % 4294967296)), (0), (by first | rfl | (simp; done) | (simp [*]; done)), (by first | rfl | (simp; done) | (simp [*]; done)), H', ⟨Nat.le_refl _⟩, by repeat (first | exact Drawn0.refl _ | apply Drawn0.step)⟩
            case round =>
              clear H'
              try clear c2
              try clear c2b0
              try clear p2
              try clear c3
              try clear c3b0
              try clear c4
              try clear c4b0
              try clear p5
              try clear q5
              try clear hx5
              try clear p5
              try clear q5
              obtain ⟨x3_2, x17_2, rfl, rfl, HA, HK2, ⟨m2, rfl⟩⟩ := hrel
              cases gk with
              | zero => exact absurd HA.out (by simp [spec_OggSum.l1])
              | succ k2 =>
                have H := HA.out
                clear HA
                simp only [spec_OggSum.l1] at H
                by_cases c6 : x17_2 < 8
                · rw [if_pos c6] at H
                  have c6b0 : decide (x17_2 < 8) = true := decide_eq_true c6
                  clear c6
                  by_cases c7 : (Go.bits .and .u32 x3_2 2147483648) = 0
                  · rw [if_pos c7] at H
                    have c7b0 : ((Go.bits .and .u32 x3_2 2147483648) == 0) = true := beq_iff_eq.mpr c7
                    have c7b1 : ((Go.bits .and .u32 x3_2 2147483648) != 0) = false := bne_eq_false_iff_eq.mpr c7
                    clear c7
                    have H' := Aside0.mk H
                    clear H
                    go_wp2
                    go_roundg k2
                    case measure => have := HK1.out; have := HK2.out; omega
                    case rel => exact ⟨((x3_2 * 2) % 4294967296), (wrap64 (x17_2 + 1)), (by first | rfl | (simp; done) | (simp [*]; done)), (by first | rfl | (simp; done) | (simp [*]; done)), H', ⟨by have := HK1.out; have := HK2.out; omega⟩, by repeat (first | exact Drawn0.refl _ | apply Drawn0.step)⟩
                  · rw [if_neg c7] at H
                    have c7b0 : ((Go.bits .and .u32 x3_2 2147483648) == 0) = false := beq_eq_false_iff_ne.mpr c7
                    have c7b1 : ((Go.bits .and .u32 x3_2 2147483648) != 0) = true := bne_iff_ne.mpr c7
                    have H' := Aside0.mk H
                    clear H
                    go_wp2
                    go_roundg k2
                    case measure => have := HK1.out; have := HK2.out; omega
                    case rel => exact ⟨(Go.bits .xor .u32 ((x3_2 * 2) % 4294967296) 79764919), (wrap64 (x17_2 + 1)), (by first | rfl | (simp; done) | (simp [*]; done)), (by first | rfl | (simp; done) | (simp [*]; done)), H', ⟨by have := HK1.out; have := HK2.out; omega⟩, by repeat (first | exact Drawn0.refl _ | apply Drawn0.step)⟩
                · rw [if_neg c6] at H
                  have c6b0 : decide (x17_2 < 8) = false := decide_eq_false c6
                  clear c6
                  have H' := Aside0.mk H
                  clear H
                  go_wp2
                  go_roundg k2
                  case measure => have := HK1.out; have := HK2.out; omega
                  case rel => exact ⟨(x3_2), (wrap64 (x7_1 + 1)), (by first | rfl | (simp; done) | (simp [*]; done)), (by first | rfl | (simp; done) | (simp [*]; done)), H', ⟨by have := HK1.out; have := HK2.out; omega⟩, by repeat (first | exact Drawn0.refl _ | apply Drawn0.step)⟩
          · rw [if_neg c4] at H
            exact absurd H (by simp)
        · rw [if_neg c3] at H
          exact absurd H (by simp)
      · rw [if_neg c2] at H
        have c2b0 : decide (x7_1 < (a0.size : Int)) = false := decide_eq_false c2
        clear c2
        obtain rfl := Option.some.inj H
        go_wp2
        go_ret
        exact ⟨by first | rfl | (simp; done) | (simp [*]; done), by repeat (first | exact Drawn0.refl _ | apply Drawn0.step)⟩

end Go.Proofs.YtojdfjohmicopaaGreatDoor.PFnOggHurt
