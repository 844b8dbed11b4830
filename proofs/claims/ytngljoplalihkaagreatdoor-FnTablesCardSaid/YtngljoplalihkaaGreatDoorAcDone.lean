/- Contracts of the range encoder's carry and of Done at the states that laws.alive comes to. No condition. -/
import Derived.Test.YtngljoplalihkaaGreatDoorAbEnc
import Derived.Test.YtngljoplalihkaaGreatDoorWWords
import Derived.Deep.RegionLaw
import Derived.Deep.QuietTactic
import Derived.BigQuiet
namespace Go.Proofs.YtngljoplalihkaaGreatDoor
open Go Go.RowKit Go.Proofs.YtngljoplalihkaaGreatDoorW.PrintWords

theorem info_u8 : (Tryz.prog.info? 5).map (fun i => (i.zero, i.size, i.bytes)) = some (some (.int .u8 0), 1, 1) := by kernel_rfl

set_option maxRecDepth 100000 in
theorem e_carry1 (w : World) (g : Nat) (hB : Blk w g 86 (encAt nilS (-1))) :
    Calls Tryz.prog 169 #[.pointer (some ⟨g, 0, none⟩), .int .i64 199] w fun e w' => e = .returned (.tuple #[]) ∧ Blk w' g 86 (encAt nilS 199) ∧ Below g w w' := by
  obtain ⟨c0, c1, c2, c3, c4, c5, c6, c7, c8⟩ := hB.nine
  have f := hB.frozen
  have hb1 : bits BinOp.and IntKind.i64 199 255 = 199 := by decide +kernel
  go_enter Tryz.func169, Tryz.ntmps169
  go_wp2
  refine bodyPost_ret (results_none rfl _ _ _) rfl ?_
  exact ⟨rfl, by simpa [encAt, hb1] using (hB.set_ 6 _), by repeat (first | with_reducible exact Below.refl _ _ | with_reducible refine below_at ?_ _ _ | with_reducible refine below_drew' ?_)⟩

set_option maxRecDepth 100000 in
theorem e_carry2 (w : World) (g : Nat) (v : Value) (xs : List Value) (r : Int) (hr : r = 199 ∨ r = 0) (hl : xs.length ≤ 1000) (hB : Blk w g 86 (encAt v r)) (hown : w.ownsRow (g + 1) 5 1 v xs.length xs) :
    Calls Tryz.prog 169 #[.pointer (some ⟨g, 0, none⟩), .int .i64 0] w fun e w' => ∃ v', e = .returned (.tuple #[]) ∧ Blk w' g 86 (encAt v' 0) ∧ w'.ownsRow (g + 1) 5 1 v' (xs.length + 1) (xs ++ [.int .u8 r]) ∧ Below g w w' := by
  have f := hB.frozen
  have hne := own_blk_ne hown hB (by decide)
  have hsz := hB.lt
  have hb0 : bits BinOp.and IntKind.i64 0 255 = 0 := by decide +kernel
  rcases hr with rfl | rfl
  all_goals
    obtain ⟨c0, c1, c2, c3, c4, c5, c6, c7, c8⟩ := hB.nine
    go_enter Tryz.func169, Tryz.ntmps169
    go_wp2
  · go_region_law (refine step_append_cells (w0 := w) (W := w.drew) (g + 1) (by simp [Region.wanted]) (.tmp 19) (.tmp 27) 65 5 (.int .u8 0) 1 1 rfl Tryz.underlying65 info_u8 rfl (by omega) (by omega) v xs.length xs [.int .u8 199] (by simp [Act.eval, Act.put]) (by simp [Act.eval, Act.put]) rfl (by simp [Value.oneCell']) hown (below_drew' (Below.refl _ _)) (by show g + 1 ≤ w.heap.size; omega) (by omega) ?_; intro v1 w1 hown1 hb1 hg1 hat1; obtain ⟨A1, k1, rfl⟩ := own_slice hown1; have hB1 := (hB.drew).grown hg1 (Ne.symm hne); obtain ⟨d0, d1, d2, d3, d4, d5, d6, d7, d8⟩ := hB1.nine; have f1 := hB1.frozen)
    all_goals
      go_wp2
      have hn1 := own_blk_ne hown1 hB1 (by decide)
      refine bodyPost_ret (results_none rfl _ _ _) rfl ?_
      exact ⟨_, rfl, by simpa [encAt, hb0] using ((hB1.set_ 0 _).set_ 6 _), own_set (own_set hown1 _ hn1 _) _ hn1 _, below_at (below_at (hb1.mono (by omega)) _ _) _ _⟩
  · go_region_law (refine step_append_cells (w0 := w) (W := w.drew) (g + 1) (by simp [Region.wanted]) (.tmp 19) (.tmp 27) 65 5 (.int .u8 0) 1 1 rfl Tryz.underlying65 info_u8 rfl (by omega) (by omega) v xs.length xs [.int .u8 0] (by simp [Act.eval, Act.put]) (by simp [Act.eval, Act.put]) rfl (by simp [Value.oneCell']) hown (below_drew' (Below.refl _ _)) (by show g + 1 ≤ w.heap.size; omega) (by omega) ?_; intro v1 w1 hown1 hb1 hg1 hat1; obtain ⟨A1, k1, rfl⟩ := own_slice hown1; have hB1 := (hB.drew).grown hg1 (Ne.symm hne); obtain ⟨d0, d1, d2, d3, d4, d5, d6, d7, d8⟩ := hB1.nine; have f1 := hB1.frozen)
    all_goals
      go_wp2
      have hn1 := own_blk_ne hown1 hB1 (by decide)
      refine bodyPost_ret (results_none rfl _ _ _) rfl ?_
      exact ⟨_, rfl, by simpa [encAt, hb0] using ((hB1.set_ 0 _).set_ 6 _), own_set (own_set hown1 _ hn1 _) _ hn1 _, below_at (below_at (hb1.mono (by omega)) _ _) _ _⟩

end Go.Proofs.YtngljoplalihkaaGreatDoor
