/- Contracts of the range decoder's methods at the states that laws.alive comes to, continued. No condition. -/
import Derived.Test.YtngljoplalihkaaGreatDoorAfDec
namespace Go.Proofs.YtngljoplalihkaaGreatDoor
open Go Go.RowKit

set_option maxRecDepth 100000 in
set_option maxHeartbeats 2000000 in
theorem d_norm (w : World) (g db c : Nat) (hB : Blk w g 96 (decAt db c 7 0 9 128 28)) (hD : Dat w db) (hne : db ≠ g) :
    Calls Tryz.prog 173 #[.pointer (some ⟨g, 0, none⟩)] w fun e w' => e = .returned (.tuple #[]) ∧ Blk w' g 96 (decAt db c 16 0 33 2147483648 478117887) ∧ w.grownBy w' (some g) := by
  have e1 : bits BinOp.and IntKind.u32 (IntKind.u32.wrap (IntKind.u32.wrap 7168 + IntKind.u32.wrap 127)) 2147483647 = 7295 := by decide +kernel
  have e2 : bits BinOp.and IntKind.u32 (IntKind.u32.wrap (IntKind.u32.wrap 1867520 + IntKind.u32.wrap 127)) 2147483647 = 1867647 := by decide +kernel
  have e3 : bits BinOp.and IntKind.u32 (IntKind.u32.wrap (IntKind.u32.wrap 478117632 + IntKind.u32.wrap 255)) 2147483647 = 478117887 := by decide +kernel
  obtain ⟨c0, c1, c2, c3, c4, c5⟩ := hB.six
  have f := hB.frozen
  go_enter Tryz.func173, Tryz.ntmps173
  go_wp2_with fail
  refine wp_loop_rounds 4 ?_
  rw [rounds_succ]
  go_wp2_with fail
  have hA1 : Blk ((w.setCell ⟨g, 4, none⟩ (.int .u32 32768)).setCell ⟨g, 3, none⟩ (.int .u64 17)) g 96 (decAt db c 7 0 17 32768 28) := by simpa using (hB.set_ 4 (.int .u32 32768)).set_ 3 (.int .u64 17)
  have gA1 : w.grownBy ((w.setCell ⟨g, 4, none⟩ (.int .u32 32768)).setCell ⟨g, 3, none⟩ (.int .u64 17)) (some g) := only_set (only_set (only_refl _ _) _ _) _ _
  generalize ((w.setCell ⟨g, 4, none⟩ (.int .u32 32768)).setCell ⟨g, 3, none⟩ (.int .u64 17)) = u1 at hA1 gA1 ⊢
  clear c0 c1 c2 c3 c4 c5 f
  obtain ⟨c0, c1, c2, c3, c4, c5⟩ := hA1.six
  have f := hA1.frozen
  have GA1 := only_trans (only_refl w _) gA1
  go_region_law (go_simp; go_at_call 172; refine (g_8a _ g db c 17 32768 28 hA1.drew ((hD.grown GA1 hne).drew) hne).mono ?_; rintro e v1 ⟨rfl, hV1, gV1⟩; obtain ⟨d0, d1, d2, d3, d4, d5⟩ := hV1.six; have f2 := hV1.frozen)
  all_goals
    try rw [e1]
    have hB1 : Blk (v1.setCell ⟨g, 5, none⟩ (.int .u32 7295)) g 96 (decAt db c 15 0 17 32768 7295) := by simpa using hV1.set_ 5 (.int .u32 7295)
    have GB1 : w.grownBy (v1.setCell ⟨g, 5, none⟩ (.int .u32 7295)) (some g) := only_set (only_trans (only_drew GA1) gV1) _ _
    generalize v1.setCell ⟨g, 5, none⟩ (.int .u32 7295) = w1 at hB1 GB1 ⊢
    clear c0 c1 c2 c3 c4 c5 f d0 d1 d2 d3 d4 d5 f2
    obtain ⟨c0, c1, c2, c3, c4, c5⟩ := hB1.six
    have f := hB1.frozen
    go_wp2_with fail
    rw [rounds_succ]
    go_wp2_with fail
    have hA2 : Blk ((w1.setCell ⟨g, 4, none⟩ (.int .u32 8388608)).setCell ⟨g, 3, none⟩ (.int .u64 25)) g 96 (decAt db c 15 0 25 8388608 7295) := by simpa using (hB1.set_ 4 (.int .u32 8388608)).set_ 3 (.int .u64 25)
    have gA2 : w1.grownBy ((w1.setCell ⟨g, 4, none⟩ (.int .u32 8388608)).setCell ⟨g, 3, none⟩ (.int .u64 25)) (some g) := only_set (only_set (only_refl _ _) _ _) _ _
    generalize ((w1.setCell ⟨g, 4, none⟩ (.int .u32 8388608)).setCell ⟨g, 3, none⟩ (.int .u64 25)) = u2 at hA2 gA2 ⊢
    clear c0 c1 c2 c3 c4 c5 f
    obtain ⟨c0, c1, c2, c3, c4, c5⟩ := hA2.six
    have f := hA2.frozen
    have GA2 := only_trans GB1 gA2
    go_region_law (go_simp; go_at_call 172; refine (g_8b _ g db c 25 8388608 7295 hA2.drew ((hD.grown GA2 hne).drew) hne).mono ?_; rintro e v2 ⟨rfl, hV2, gV2⟩; obtain ⟨d0, d1, d2, d3, d4, d5⟩ := hV2.six; have f2 := hV2.frozen)
    all_goals
      try rw [e2]
      have hB2 : Blk (v2.setCell ⟨g, 5, none⟩ (.int .u32 1867647)) g 96 (decAt db c 16 0 25 8388608 1867647) := by simpa using hV2.set_ 5 (.int .u32 1867647)
      have GB2 : w.grownBy (v2.setCell ⟨g, 5, none⟩ (.int .u32 1867647)) (some g) := only_set (only_trans (only_drew GA2) gV2) _ _
      generalize v2.setCell ⟨g, 5, none⟩ (.int .u32 1867647) = w2 at hB2 GB2 ⊢
      clear c0 c1 c2 c3 c4 c5 f d0 d1 d2 d3 d4 d5 f2
      obtain ⟨c0, c1, c2, c3, c4, c5⟩ := hB2.six
      have f := hB2.frozen
      go_wp2_with fail
      rw [rounds_succ]
      go_wp2_with fail
      have hA3 : Blk ((w2.setCell ⟨g, 4, none⟩ (.int .u32 2147483648)).setCell ⟨g, 3, none⟩ (.int .u64 33)) g 96 (decAt db c 16 0 33 2147483648 1867647) := by simpa using (hB2.set_ 4 (.int .u32 2147483648)).set_ 3 (.int .u64 33)
      have gA3 : w2.grownBy ((w2.setCell ⟨g, 4, none⟩ (.int .u32 2147483648)).setCell ⟨g, 3, none⟩ (.int .u64 33)) (some g) := only_set (only_set (only_refl _ _) _ _) _ _
      generalize ((w2.setCell ⟨g, 4, none⟩ (.int .u32 2147483648)).setCell ⟨g, 3, none⟩ (.int .u64 33)) = u3 at hA3 gA3 ⊢
      clear c0 c1 c2 c3 c4 c5 f
      obtain ⟨c0, c1, c2, c3, c4, c5⟩ := hA3.six
      have f := hA3.frozen
      have GA3 := only_trans GB2 gA3
      go_region_law (go_simp; go_at_call 172; refine (g_8c _ g db c 33 2147483648 1867647 hA3.drew ).mono ?_; rintro e v3 ⟨rfl, hV3, gV3⟩; obtain ⟨d0, d1, d2, d3, d4, d5⟩ := hV3.six; have f2 := hV3.frozen)
      all_goals
        try rw [e3]
        have hB3 : Blk (v3.setCell ⟨g, 5, none⟩ (.int .u32 478117887)) g 96 (decAt db c 16 0 33 2147483648 478117887) := by simpa using hV3.set_ 5 (.int .u32 478117887)
        have GB3 : w.grownBy (v3.setCell ⟨g, 5, none⟩ (.int .u32 478117887)) (some g) := only_set (only_trans (only_drew GA3) gV3) _ _
        generalize v3.setCell ⟨g, 5, none⟩ (.int .u32 478117887) = w3 at hB3 GB3 ⊢
        clear c0 c1 c2 c3 c4 c5 f d0 d1 d2 d3 d4 d5 f2
        obtain ⟨c0, c1, c2, c3, c4, c5⟩ := hB3.six
        have f := hB3.frozen
        go_wp2_with fail
        rw [rounds_succ]
        go_wp2_with fail
        go_end0
        exact ⟨rfl, hB3, GB3⟩

theorem d_norm0 (w : World) (g db c : Nat) (hi : Int) (hB : Blk w g 96 (decAt db c 16 0 33 8589934 hi)) :
    Calls Tryz.prog 173 #[.pointer (some ⟨g, 0, none⟩)] w fun e w' => e = .returned (.tuple #[]) ∧ w = w' := by
  obtain ⟨c0, c1, c2, c3, c4, c5⟩ := hB.six
  go_enter Tryz.func173, Tryz.ntmps173
  go_wp2_with fail
  refine wp_loop_rounds 1 ?_
  rw [rounds_succ]
  go_wp2_with fail
  go_end0
  exact ⟨rfl, rfl⟩
end Go.Proofs.YtngljoplalihkaaGreatDoor
