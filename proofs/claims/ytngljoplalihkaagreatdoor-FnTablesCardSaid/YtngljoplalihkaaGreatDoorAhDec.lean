/- Contracts of the range decoder's methods at the states that laws.alive comes to, to the end. No condition. -/
import Derived.Test.YtngljoplalihkaaGreatDoorAgDec
namespace Go.Proofs.YtngljoplalihkaaGreatDoor
open Go Go.RowKit

abbrev decZero : Array Value := #[nilS, .int .u64 0, .int .u64 0, .int .u64 0, .int .u32 0, .int .u32 0]

set_option maxRecDepth 100000 in
theorem d_init (w : World) (g db c : Nat) (hB : Blk w g 96 decZero) (hD : Dat w db) (hne : db ≠ g) :
    Calls Tryz.prog 147 #[.pointer (some ⟨g, 0, none⟩), .slice (some ⟨db, 0, none⟩) 2 c] w fun e w' => e = .returned (.tuple #[]) ∧ Blk w' g 96 (decAt db c 16 0 33 2147483648 478117887) ∧ w.grownBy w' (some g) := by
  obtain ⟨c0, c1, c2, c3, c4, c5⟩ := hB.six
  have f := hB.frozen
  go_enter Tryz.func147, Tryz.ntmps147
  go_wp2_with fail
  have hA : Blk (((((w.setCell ⟨g, 0, none⟩ (.slice (some ⟨db, 0, none⟩) 2 c)).setCell ⟨g, 1, none⟩ (.int .u64 0)).setCell ⟨g, 2, none⟩ (.int .u64 0)).setCell ⟨g, 3, none⟩ (.int .u64 9)).setCell ⟨g, 4, none⟩ (.int .u32 128)) g 96 (decAt db c 0 0 9 128 0) := by
    simpa [decZero] using ((((hB.set_ 0 (.slice (some ⟨db, 0, none⟩) 2 c)).set_ 1 (.int .u64 0)).set_ 2 (.int .u64 0)).set_ 3 (.int .u64 9)).set_ 4 (.int .u32 128)
  have gA : w.grownBy (((((w.setCell ⟨g, 0, none⟩ (.slice (some ⟨db, 0, none⟩) 2 c)).setCell ⟨g, 1, none⟩ (.int .u64 0)).setCell ⟨g, 2, none⟩ (.int .u64 0)).setCell ⟨g, 3, none⟩ (.int .u64 9)).setCell ⟨g, 4, none⟩ (.int .u32 128)) (some g) :=
    only_set (only_set (only_set (only_set (only_set (only_refl _ _) _ _) _ _) _ _) _ _) _ _
  refine (g_7 _ g db c 9 128 0 hA (hD.grown gA hne) hne).mono ?_
  rintro e w1 ⟨rfl, hB1, g1⟩
  clear hA c0 c1 c2 c3 c4 c5 f
  obtain ⟨c0, c1, c2, c3, c4, c5⟩ := hB1.six
  have f := hB1.frozen
  have GA := only_trans gA g1
  clear gA g1
  go_wp2_with fail
  have hB2 : Blk (w1.setCell ⟨g, 5, none⟩ (.int .u32 28)) g 96 (decAt db c 7 0 9 128 28) := by simpa using hB1.set_ 5 (.int .u32 28)
  have GB : w.grownBy (w1.setCell ⟨g, 5, none⟩ (.int .u32 28)) (some g) := only_set GA _ _
  refine (d_norm _ g db c hB2 (hD.grown GB hne) hne).mono ?_
  rintro e w2 ⟨rfl, hB3, g3⟩
  go_wp2_with fail
  go_end0
  exact ⟨rfl, hB3, only_trans GB g3⟩

set_option maxRecDepth 100000 in
theorem d_sym (w : World) (g db c : Nat) (hB : Blk w g 96 (decAt db c 16 0 33 2147483648 478117887)) :
    Calls Tryz.prog 174 #[.pointer (some ⟨g, 0, none⟩), .int .u32 250] w fun e w' => e = .returned (.int .u32 194) ∧ w = w' := by
  obtain ⟨c0, c1, c2, c3, c4, c5⟩ := hB.six
  go_enter Tryz.func174, Tryz.ntmps174
  go_wp2
  go_ret
  exact ⟨rfl, rfl⟩

set_option maxRecDepth 100000 in
theorem d_update (w : World) (g db c : Nat) (hB : Blk w g 96 (decAt db c 16 0 33 2147483648 478117887)) :
    Calls Tryz.prog 175 #[.pointer (some ⟨g, 0, none⟩), .int .u32 8589934, .int .u32 194, .int .u32 195, .int .u32 250] w fun e w' => e = .returned (.tuple #[]) ∧ Blk w' g 96 (decAt db c 16 0 33 8589934 5671517) ∧ w.grownBy w' (some g) := by
  obtain ⟨c0, c1, c2, c3, c4, c5⟩ := hB.six
  have f := hB.frozen
  go_enter Tryz.func175, Tryz.ntmps175
  go_wp2_with fail
  have hA : Blk ((w.setCell ⟨g, 5, none⟩ (.int .u32 5671517)).setCell ⟨g, 4, none⟩ (.int .u32 8589934)) g 96 (decAt db c 16 0 33 8589934 5671517) := by
    simpa using (hB.set_ 5 (.int .u32 5671517)).set_ 4 (.int .u32 8589934)
  refine (d_norm0 _ g db c 5671517 hA).mono ?_
  rintro e w1 ⟨rfl, rfl⟩
  go_wp2_with fail
  go_end0
  exact ⟨rfl, hA, only_set (only_set (only_refl _ _) _ _) _ _⟩

set_option maxRecDepth 100000 in
theorem d_and (w : World) (g db c : Nat) (hB : Blk w g 96 (decAt db c 16 0 33 2147483648 478117887)) :
    Calls Tryz.prog 177 #[.pointer (some ⟨g, 0, none⟩), .int .u32 250] w fun e w' => e = .returned (.int .u32 194) ∧ Blk w' g 96 (decAt db c 16 0 33 8589934 5671517) ∧ w.grownBy w' (some g) := by
  obtain ⟨c0, c1, c2, c3, c4, c5⟩ := hB.six
  go_enter Tryz.func177, Tryz.ntmps177
  go_wp2_with (go_at_call 174; refine (d_sym _ g db c hB).mono ?_; rintro e w1 ⟨rfl, rfl⟩)
  refine (d_update _ g db c hB).mono ?_
  rintro e w2 ⟨rfl, hB2, g2⟩
  go_wp2_with fail
  go_ret
  exact ⟨rfl, hB2, g2⟩

set_option maxRecDepth 100000 in
theorem d_bitA (w : World) (g db c : Nat) (hB : Blk w g 96 (decAt db c 16 0 33 8589934 5671517)) (hD : Dat w db) :
    Calls Tryz.prog 186 #[.pointer (some ⟨g, 0, none⟩)] w fun e w' => e = .returned (.int .u32 1) ∧ Blk w' g 96 (decAt db c 16 1 34 8589934 5671517) ∧ w.grownBy w' (some g) := by
  obtain ⟨c0, c1, c2, c3, c4, c5⟩ := hB.six
  have n1 := hD.n1
  have f := hB.frozen
  have hne : db ≠ g := by
    rintro rfl
    rw [hD.n0] at c0; simp at c0
  have a1 : bits BinOp.and IntKind.u8 1 1 = 1 := by decide +kernel
  go_enter Tryz.func186, Tryz.ntmps186
  go_wp2
  go_ret
  exact ⟨rfl, by simpa using (hB.set_ 2 (.int .u64 1)).set_ 3 (.int .u64 34), only_set (only_set (only_refl _ _) _ _) _ _⟩

set_option maxRecDepth 100000 in
theorem d_bitB (w : World) (g db c : Nat) (hB : Blk w g 96 (decAt db c 16 1 34 8589934 5671517)) (hD : Dat w db) :
    Calls Tryz.prog 186 #[.pointer (some ⟨g, 0, none⟩)] w fun e w' => e = .returned (.int .u32 0) ∧ Blk w' g 96 (decAt db c 16 2 35 8589934 5671517) ∧ w.grownBy w' (some g) := by
  obtain ⟨c0, c1, c2, c3, c4, c5⟩ := hB.six
  have n1 := hD.n1
  have f := hB.frozen
  have hne : db ≠ g := by
    rintro rfl
    rw [hD.n0] at c0; simp at c0
  have a1 : bits BinOp.and IntKind.u8 0 1 = 0 := by decide +kernel
  go_enter Tryz.func186, Tryz.ntmps186
  go_wp2
  go_ret
  exact ⟨rfl, by simpa using (hB.set_ 2 (.int .u64 2)).set_ 3 (.int .u64 35), only_set (only_set (only_refl _ _) _ _) _ _⟩

set_option maxRecDepth 100000 in
theorem d_raw (w : World) (g db c : Nat) (hB : Blk w g 96 (decAt db c 16 0 33 8589934 5671517)) (hD : Dat w db) (hne : db ≠ g) :
    Calls Tryz.prog 153 #[.pointer (some ⟨g, 0, none⟩), .int .u64 2] w fun e w' => e = .returned (.int .u32 1) ∧ Blk w' g 96 (decAt db c 16 2 35 8589934 5671517) ∧ w.grownBy w' (some g) := by
  have a1 : bits BinOp.or IntKind.u32 0 1 = 1 := by decide +kernel
  have a2 : bits BinOp.or IntKind.u32 1 0 = 1 := by decide +kernel
  go_enter Tryz.func153, Tryz.ntmps153
  go_wp2_with (go_at_call 178; go_in)
  refine wp_loop_rounds 3 ?_
  rw [rounds_succ]
  go_wp2_with fail
  refine (d_bitA _ g db c hB hD).mono ?_
  rintro e w1 ⟨rfl, hB1, g1⟩
  go_wp2_with fail
  rw [rounds_succ]
  go_wp2_with fail
  refine (d_bitB _ g db c hB1 (hD.grown g1 hne)).mono ?_
  rintro e w2 ⟨rfl, hB2, g2⟩
  go_wp2_with fail
  rw [rounds_succ]
  go_wp2_with fail
  refine wp_loop_rounds 1 ?_
  rw [rounds_succ]
  go_wp2_with fail
  go_ret
  exact ⟨rfl, hB2, only_trans g1 g2⟩

set_option maxRecDepth 100000 in
set_option maxHeartbeats 1000000 in
theorem d_uniform (w : World) (g db c : Nat) (hB : Blk w g 96 (decAt db c 16 0 33 2147483648 478117887)) (hD : Dat w db) (hne : db ≠ g) :
    Calls Tryz.prog 152 #[.pointer (some ⟨g, 0, none⟩), .int .u32 1000] w fun e w' => e = .returned (.tuple #[.int .u32 777, .bool true]) ∧ Blk w' g 96 (decAt db c 16 2 35 8589934 5671517) ∧ w.grownBy w' (some g) := by
  go_enter Tryz.func152, Tryz.ntmps152
  go_wp2_with (go_at_call 165; refine (len_999 _).mono ?_; rintro e w' ⟨rfl, rfl⟩)
  refine (d_and _ g db c hB).mono ?_
  rintro e w1 ⟨rfl, hB1, g1⟩
  have a2 : bits BinOp.or IntKind.u32 776 1 = 777 := by decide +kernel
  go_wp2_with fail
  go_region_law (go_simp; go_at_call 153; refine (d_raw _ g db c hB1.drew ((hD.grown g1 hne).drew) hne).mono ?_; rintro e w2 ⟨rfl, hB2, g2⟩)
  all_goals
    go_wp2_with fail
    go_ret2
    exact ⟨rfl, hB2, only_trans (only_drew g1) g2⟩

theorem d_range (w : World) (g db c : Nat) (hB : Blk w g 96 (decAt db c 16 2 35 8589934 5671517)) :
    Calls Tryz.prog 156 #[.pointer (some ⟨g, 0, none⟩)] w fun e w' => e = .returned (.int .u32 8589934) ∧ w = w' := by
  obtain ⟨c0, c1, c2, c3, c4, c5⟩ := hB.six
  go_enter Tryz.func156, Tryz.ntmps156
  go_wp2
  go_ret
  exact ⟨rfl, rfl⟩
theorem d_tell (w : World) (g db c : Nat) (hB : Blk w g 96 (decAt db c 16 2 35 8589934 5671517)) :
    Calls Tryz.prog 157 #[.pointer (some ⟨g, 0, none⟩)] w fun e w' => e = .returned (.int .u64 11) ∧ w = w' := by
  obtain ⟨c0, c1, c2, c3, c4, c5⟩ := hB.six
  go_enter Tryz.func157, Tryz.ntmps157
  go_wp2_with (go_at_call 165; refine (len_rng _).mono ?_; rintro e w' ⟨rfl, rfl⟩)
  go_ret
  exact ⟨rfl, rfl⟩
set_option maxRecDepth 100000 in
theorem d_frac (w : World) (g db c : Nat) (hB : Blk w g 96 (decAt db c 16 2 35 8589934 5671517)) :
    Calls Tryz.prog 158 #[.pointer (some ⟨g, 0, none⟩)] w fun e w' => e = .returned (.int .u64 88) ∧ w = w' := by
  obtain ⟨c0, c1, c2, c3, c4, c5⟩ := hB.six
  go_enter Tryz.func158, Tryz.ntmps158
  go_wp2_with (go_at_call 165; refine (len_rng _).mono ?_; rintro e w' ⟨rfl, rfl⟩)
  refine wp_loop_rounds 4 ?_
  repeat any_goals (rw [rounds_succ]; go_wp2)
  go_ret
  exact ⟨rfl, rfl⟩
set_option maxRecDepth 100000 in
theorem d_left (w : World) (g db c : Nat) (hB : Blk w g 96 (decAt db c 16 2 35 8589934 5671517)) :
    Calls Tryz.prog 159 #[.pointer (some ⟨g, 0, none⟩)] w fun e w' => e = .returned (.int .i64 (-2)) ∧ ∃ n, w' = w.drewN n := by
  obtain ⟨c0, c1, c2, c3, c4, c5⟩ := hB.six
  go_enter Tryz.func159, Tryz.ntmps159
  go_wp2_with fail
  go_quiet (fail)
  go_wp2_with fail
  go_ret
  exact ⟨rfl, _, rfl⟩
end Go.Proofs.YtngljoplalihkaaGreatDoor
