/- Contracts of the range decoder's methods at the states that laws.alive comes to. No condition. Contracts of the range decoder's methods at the states that laws.alive comes to, continued. No condition. Contracts of the range decoder's methods at the states that laws.alive comes to, to the end. No condition. A contract of impl.Decode at the one operation that laws.alive reads. No condition. A contract of laws.alive: it returns true, and nothing that was there has turned. No condition. -/
import Derived.Test.YtojdfjohmicopaaGreatDoorMb
import Derived.Deep.RegionLaw
import Derived.Deep.QuietTactic
import Derived.BigQuiet
import Derived.Lib.ConvBytes
namespace Go.Proofs.YtojdfjohmicopaaGreatDoor
open Go Go.RowKit

/-- The decoder's cells: its data lie in block db. -/
abbrev decAt (db c : Nat) (br rb nb rs hi : Int) : Array Value := #[.slice (some ⟨db, 0, none⟩) 2 c, .int .u64 br, .int .u64 rb, .int .u64 nb, .int .u32 rs, .int .u32 hi]
structure Dat (w : World) (db : Nat) : Prop where
  n0 : w.cell? ⟨db, 0, none⟩ = some (.int .u8 199)
  n1 : w.cell? ⟨db, 1, none⟩ = some (.int .u8 1)
theorem Dat.grown {w w' : World} {db g : Nat} (h : Dat w db) (hg : w.grownBy w' (some g)) (hne : db ≠ g) : Dat w' db :=
  ⟨hg.cell h.n0 (by simpa using hne), hg.cell h.n1 (by simpa using hne)⟩
theorem Dat.drew {w : World} {db : Nat} (h : Dat w db) : Dat w.drew db := ⟨h.n0, h.n1⟩
theorem Dat.drewN {w : World} {db : Nat} (h : Dat w db) (n : Nat) : Dat (w.drewN n) db := ⟨h.n0, h.n1⟩
theorem only_refl (a : World) (row : Option Nat) : a.grownBy a row := World.grownBy.refl a row
theorem only_drew {a w : World} {row : Option Nat} (h : a.grownBy w row) : a.grownBy w.drew row := ⟨h.os, h.tape, h.output, h.size, h.block⟩
theorem only_drewN {a w : World} {row : Option Nat} (h : a.grownBy w row) (n : Nat) : a.grownBy (w.drewN n) row := ⟨h.os, h.tape, h.output, h.size, h.block⟩
theorem only_set {a w : World} {g : Nat} (h : a.grownBy w (some g)) (i : Nat) (u : Value) : a.grownBy (w.setCell ⟨g, i, none⟩ u) (some g) := h.trans (grown_set w ⟨g, i, none⟩ u)
theorem only_trans {a b c : World} {row : Option Nat} (h : a.grownBy b row) (k : b.grownBy c row) : a.grownBy c row := h.trans k

set_option maxRecDepth 100000 in
theorem g_7 (w : World) (g db c : Nat) (nb rs hi : Int) (hB : Blk w g 112 (decAt db c 0 0 nb rs hi)) (hD : Dat w db) (hne : db ≠ g) :
    Calls Tryz.prog 87 #[.pointer (some ⟨g, 0, none⟩), .int .i64 7] w fun e w' => e = .returned (.int .u32 99) ∧ Blk w' g 112 (decAt db c 7 0 nb rs hi) ∧ w.grownBy w' (some g) := by
  obtain ⟨c0, c1, c2, c3, c4, c5⟩ := hB.six
  have n0 := hD.n0; have n1 := hD.n1
  have f := hB.frozen
  have a1 : bits BinOp.or IntKind.u32 50944 1 = 50945 := by decide +kernel
  have a2 : bits BinOp.and IntKind.u32 99 127 = 99 := by decide +kernel
  go_enter Tryz.func87, Tryz.ntmps87
  go_wp2_with fail
  go_quiet (fail)
  go_wp2_with fail
  go_ret
  exact ⟨rfl, by simpa using (hB.drewN _).set_ 1 (.int .u64 7), only_set (only_drewN (only_refl _ _) _) _ _⟩

set_option maxRecDepth 100000 in
theorem g_8a (w : World) (g db c : Nat) (nb rs hi : Int) (hB : Blk w g 112 (decAt db c 7 0 nb rs hi)) (hD : Dat w db) (hne : db ≠ g) :
    Calls Tryz.prog 87 #[.pointer (some ⟨g, 0, none⟩), .int .i64 8] w fun e w' => e = .returned (.int .u32 128) ∧ Blk w' g 112 (decAt db c 15 0 nb rs hi) ∧ w.grownBy w' (some g) := by
  obtain ⟨c0, c1, c2, c3, c4, c5⟩ := hB.six
  have n0 := hD.n0; have n1 := hD.n1
  have f := hB.frozen
  have a1 : bits BinOp.or IntKind.u32 50944 1 = 50945 := by decide +kernel
  have a2 : bits BinOp.and IntKind.u32 25472 255 = 128 := by decide +kernel
  go_enter Tryz.func87, Tryz.ntmps87
  go_wp2_with fail
  go_quiet (fail)
  go_wp2_with fail
  go_ret
  exact ⟨rfl, by simpa using (hB.drewN _).set_ 1 (.int .u64 15), only_set (only_drewN (only_refl _ _) _) _ _⟩

set_option maxRecDepth 100000 in
theorem g_bit1 (w : World) (g db c : Nat) (nb rs hi : Int) (hB : Blk w g 112 (decAt db c 15 0 nb rs hi)) (hD : Dat w db) (hne : db ≠ g) :
    Calls Tryz.prog 104 #[.pointer (some ⟨g, 0, none⟩)] w fun e w' => e = .returned (.int .u32 1) ∧ Blk w' g 112 (decAt db c 16 0 nb rs hi) ∧ w.grownBy w' (some g) := by
  obtain ⟨c0, c1, c2, c3, c4, c5⟩ := hB.six
  have n0 := hD.n0; have n1 := hD.n1
  have f := hB.frozen
  have a1 : bits BinOp.and IntKind.u8 1 1 = 1 := by decide +kernel
  go_enter Tryz.func104, Tryz.ntmps104
  go_wp2_with fail
  go_ret
  exact ⟨rfl, by simpa using hB.set_ 1 (.int .u64 16), only_set (only_refl _ _) _ _⟩

set_option maxRecDepth 100000 in
theorem g_bit0 (w : World) (g db c : Nat) (nb rs hi : Int) (hB : Blk w g 112 (decAt db c 16 0 nb rs hi)) :
    Calls Tryz.prog 104 #[.pointer (some ⟨g, 0, none⟩)] w fun e w' => e = .returned (.int .u32 0) ∧ w = w' := by
  obtain ⟨c0, c1, c2, c3, c4, c5⟩ := hB.six
  go_enter Tryz.func104, Tryz.ntmps104
  go_wp2_with fail
  go_ret
  exact ⟨rfl, rfl⟩

set_option maxRecDepth 100000 in
set_option maxHeartbeats 1000000 in
theorem g_8b (w : World) (g db c : Nat) (nb rs hi : Int) (hB : Blk w g 112 (decAt db c 15 0 nb rs hi)) (hD : Dat w db) (hne : db ≠ g) :
    Calls Tryz.prog 87 #[.pointer (some ⟨g, 0, none⟩), .int .i64 8] w fun e w' => e = .returned (.int .u32 128) ∧ Blk w' g 112 (decAt db c 16 0 nb rs hi) ∧ w.grownBy w' (some g) := by
  obtain ⟨c0, c1, c2, c3, c4, c5⟩ := hB.six
  have a1 : bits BinOp.or IntKind.u32 0 1 = 1 := by decide +kernel
  have a2 : bits BinOp.or IntKind.u32 2 0 = 2 := by decide +kernel
  have a3 : bits BinOp.or IntKind.u32 4 0 = 4 := by decide +kernel
  have a4 : bits BinOp.or IntKind.u32 8 0 = 8 := by decide +kernel
  have a5 : bits BinOp.or IntKind.u32 16 0 = 16 := by decide +kernel
  have a6 : bits BinOp.or IntKind.u32 32 0 = 32 := by decide +kernel
  have a7 : bits BinOp.or IntKind.u32 64 0 = 64 := by decide +kernel
  have a8 : bits BinOp.or IntKind.u32 128 0 = 128 := by decide +kernel
  go_enter Tryz.func87, Tryz.ntmps87
  go_wp2_with fail
  go_quiet (fail)
  go_wp2_with fail
  refine wp_loop_rounds 9 ?_
  rw [rounds_succ]
  go_wp2_with fail
  refine (g_bit1 _ g db c nb rs hi (hB.drewN _) (hD.drewN _) hne).mono ?_
  rintro e w1 ⟨rfl, hB1, g1⟩
  repeat (go_wp2_with (first | (go_at_call 104; refine (g_bit0 _ g db c nb rs hi hB1).mono ?_; rintro e w2 ⟨rfl, rfl⟩)); rw [rounds_succ])
  go_wp2_with fail
  go_ret
  exact ⟨rfl, hB1, only_trans (only_drewN (only_refl _ _) _) g1⟩

set_option maxRecDepth 100000 in
set_option maxHeartbeats 1000000 in
theorem g_8c (w : World) (g db c : Nat) (nb rs hi : Int) (hB : Blk w g 112 (decAt db c 16 0 nb rs hi)) :
    Calls Tryz.prog 87 #[.pointer (some ⟨g, 0, none⟩), .int .i64 8] w fun e w' => e = .returned (.int .u32 0) ∧ Blk w' g 112 (decAt db c 16 0 nb rs hi) ∧ w.grownBy w' (some g) := by
  obtain ⟨c0, c1, c2, c3, c4, c5⟩ := hB.six
  have a1 : bits BinOp.or IntKind.u32 0 0 = 0 := by decide +kernel
  go_enter Tryz.func87, Tryz.ntmps87
  go_wp2_with fail
  go_quiet (fail)
  go_wp2_with fail
  refine wp_loop_rounds 9 ?_
  rw [rounds_succ]
  repeat (go_wp2_with (first | (go_at_call 104; refine (g_bit0 _ g db c nb rs hi (hB.drewN _)).mono ?_; rintro e w2 ⟨rfl, rfl⟩)); rw [rounds_succ])
  go_wp2_with fail
  go_ret
  exact ⟨rfl, hB.drewN _, only_drewN (only_refl _ _) _⟩
end Go.Proofs.YtojdfjohmicopaaGreatDoor
namespace Go.Proofs.YtojdfjohmicopaaGreatDoor
open Go Go.RowKit

set_option maxRecDepth 100000 in
set_option maxHeartbeats 2000000 in
theorem d_norm (w : World) (g db c : Nat) (hB : Blk w g 112 (decAt db c 7 0 9 128 28)) (hD : Dat w db) (hne : db ≠ g) :
    Calls Tryz.prog 88 #[.pointer (some ⟨g, 0, none⟩)] w fun e w' => e = .returned (.tuple #[]) ∧ Blk w' g 112 (decAt db c 16 0 33 2147483648 478117887) ∧ w.grownBy w' (some g) := by
  have e1 : bits BinOp.and IntKind.u32 (IntKind.u32.wrap (IntKind.u32.wrap 7168 + IntKind.u32.wrap 127)) 2147483647 = 7295 := by decide +kernel
  have e2 : bits BinOp.and IntKind.u32 (IntKind.u32.wrap (IntKind.u32.wrap 1867520 + IntKind.u32.wrap 127)) 2147483647 = 1867647 := by decide +kernel
  have e3 : bits BinOp.and IntKind.u32 (IntKind.u32.wrap (IntKind.u32.wrap 478117632 + IntKind.u32.wrap 255)) 2147483647 = 478117887 := by decide +kernel
  obtain ⟨c0, c1, c2, c3, c4, c5⟩ := hB.six
  have f := hB.frozen
  go_enter Tryz.func88, Tryz.ntmps88
  go_wp2_with fail
  refine wp_loop_rounds 4 ?_
  rw [rounds_succ]
  go_wp2_with fail
  have hA1 : Blk ((w.setCell ⟨g, 4, none⟩ (.int .u32 32768)).setCell ⟨g, 3, none⟩ (.int .u64 17)) g 112 (decAt db c 7 0 17 32768 28) := by simpa using (hB.set_ 4 (.int .u32 32768)).set_ 3 (.int .u64 17)
  have gA1 : w.grownBy ((w.setCell ⟨g, 4, none⟩ (.int .u32 32768)).setCell ⟨g, 3, none⟩ (.int .u64 17)) (some g) := only_set (only_set (only_refl _ _) _ _) _ _
  generalize ((w.setCell ⟨g, 4, none⟩ (.int .u32 32768)).setCell ⟨g, 3, none⟩ (.int .u64 17)) = u1 at hA1 gA1 ⊢
  clear c0 c1 c2 c3 c4 c5 f
  obtain ⟨c0, c1, c2, c3, c4, c5⟩ := hA1.six
  have f := hA1.frozen
  have GA1 := only_trans (only_refl w _) gA1
  go_region_law (go_simp; go_at_call 87; refine (g_8a _ g db c 17 32768 28 hA1.drew ((hD.grown GA1 hne).drew) hne).mono ?_; rintro e v1 ⟨rfl, hV1, gV1⟩; obtain ⟨d0, d1, d2, d3, d4, d5⟩ := hV1.six; have f2 := hV1.frozen)
  all_goals
    try rw [e1]
    have hB1 : Blk (v1.setCell ⟨g, 5, none⟩ (.int .u32 7295)) g 112 (decAt db c 15 0 17 32768 7295) := by simpa using hV1.set_ 5 (.int .u32 7295)
    have GB1 : w.grownBy (v1.setCell ⟨g, 5, none⟩ (.int .u32 7295)) (some g) := only_set (only_trans (only_drew GA1) gV1) _ _
    generalize v1.setCell ⟨g, 5, none⟩ (.int .u32 7295) = w1 at hB1 GB1 ⊢
    clear c0 c1 c2 c3 c4 c5 f d0 d1 d2 d3 d4 d5 f2
    obtain ⟨c0, c1, c2, c3, c4, c5⟩ := hB1.six
    have f := hB1.frozen
    go_wp2_with fail
    rw [rounds_succ]
    go_wp2_with fail
    have hA2 : Blk ((w1.setCell ⟨g, 4, none⟩ (.int .u32 8388608)).setCell ⟨g, 3, none⟩ (.int .u64 25)) g 112 (decAt db c 15 0 25 8388608 7295) := by simpa using (hB1.set_ 4 (.int .u32 8388608)).set_ 3 (.int .u64 25)
    have gA2 : w1.grownBy ((w1.setCell ⟨g, 4, none⟩ (.int .u32 8388608)).setCell ⟨g, 3, none⟩ (.int .u64 25)) (some g) := only_set (only_set (only_refl _ _) _ _) _ _
    generalize ((w1.setCell ⟨g, 4, none⟩ (.int .u32 8388608)).setCell ⟨g, 3, none⟩ (.int .u64 25)) = u2 at hA2 gA2 ⊢
    clear c0 c1 c2 c3 c4 c5 f
    obtain ⟨c0, c1, c2, c3, c4, c5⟩ := hA2.six
    have f := hA2.frozen
    have GA2 := only_trans GB1 gA2
    go_region_law (go_simp; go_at_call 87; refine (g_8b _ g db c 25 8388608 7295 hA2.drew ((hD.grown GA2 hne).drew) hne).mono ?_; rintro e v2 ⟨rfl, hV2, gV2⟩; obtain ⟨d0, d1, d2, d3, d4, d5⟩ := hV2.six; have f2 := hV2.frozen)
    all_goals
      try rw [e2]
      have hB2 : Blk (v2.setCell ⟨g, 5, none⟩ (.int .u32 1867647)) g 112 (decAt db c 16 0 25 8388608 1867647) := by simpa using hV2.set_ 5 (.int .u32 1867647)
      have GB2 : w.grownBy (v2.setCell ⟨g, 5, none⟩ (.int .u32 1867647)) (some g) := only_set (only_trans (only_drew GA2) gV2) _ _
      generalize v2.setCell ⟨g, 5, none⟩ (.int .u32 1867647) = w2 at hB2 GB2 ⊢
      clear c0 c1 c2 c3 c4 c5 f d0 d1 d2 d3 d4 d5 f2
      obtain ⟨c0, c1, c2, c3, c4, c5⟩ := hB2.six
      have f := hB2.frozen
      go_wp2_with fail
      rw [rounds_succ]
      go_wp2_with fail
      have hA3 : Blk ((w2.setCell ⟨g, 4, none⟩ (.int .u32 2147483648)).setCell ⟨g, 3, none⟩ (.int .u64 33)) g 112 (decAt db c 16 0 33 2147483648 1867647) := by simpa using (hB2.set_ 4 (.int .u32 2147483648)).set_ 3 (.int .u64 33)
      have gA3 : w2.grownBy ((w2.setCell ⟨g, 4, none⟩ (.int .u32 2147483648)).setCell ⟨g, 3, none⟩ (.int .u64 33)) (some g) := only_set (only_set (only_refl _ _) _ _) _ _
      generalize ((w2.setCell ⟨g, 4, none⟩ (.int .u32 2147483648)).setCell ⟨g, 3, none⟩ (.int .u64 33)) = u3 at hA3 gA3 ⊢
      clear c0 c1 c2 c3 c4 c5 f
      obtain ⟨c0, c1, c2, c3, c4, c5⟩ := hA3.six
      have f := hA3.frozen
      have GA3 := only_trans GB2 gA3
      go_region_law (go_simp; go_at_call 87; refine (g_8c _ g db c 33 2147483648 1867647 hA3.drew ).mono ?_; rintro e v3 ⟨rfl, hV3, gV3⟩; obtain ⟨d0, d1, d2, d3, d4, d5⟩ := hV3.six; have f2 := hV3.frozen)
      all_goals
        try rw [e3]
        have hB3 : Blk (v3.setCell ⟨g, 5, none⟩ (.int .u32 478117887)) g 112 (decAt db c 16 0 33 2147483648 478117887) := by simpa using hV3.set_ 5 (.int .u32 478117887)
        have GB3 : w.grownBy (v3.setCell ⟨g, 5, none⟩ (.int .u32 478117887)) (some g) := only_set (only_trans (only_drew GA3) gV3) _ _
        generalize v3.setCell ⟨g, 5, none⟩ (.int .u32 478117887) = w3 at hB3 GB3 ⊢
        clear c0 c1 c2 c3 c4 c5 f d0 d1 d2 d3 d4 d5 f2
        obtain ⟨c0, c1, c2, c3, c4, c5⟩ := hB3.six
        have f := hB3.frozen
        go_wp2_with fail
        rw [rounds_succ]
        go_wp2_with fail
        go_end0
        exact ⟨rfl, hB3, GB3⟩

theorem d_norm0 (w : World) (g db c : Nat) (hi : Int) (hB : Blk w g 112 (decAt db c 16 0 33 8589934 hi)) :
    Calls Tryz.prog 88 #[.pointer (some ⟨g, 0, none⟩)] w fun e w' => e = .returned (.tuple #[]) ∧ w = w' := by
  obtain ⟨c0, c1, c2, c3, c4, c5⟩ := hB.six
  go_enter Tryz.func88, Tryz.ntmps88
  go_wp2_with fail
  refine wp_loop_rounds 1 ?_
  rw [rounds_succ]
  go_wp2_with fail
  go_end0
  exact ⟨rfl, rfl⟩
end Go.Proofs.YtojdfjohmicopaaGreatDoor
namespace Go.Proofs.YtojdfjohmicopaaGreatDoor
open Go Go.RowKit

abbrev decZero : Array Value := #[nilS, .int .u64 0, .int .u64 0, .int .u64 0, .int .u32 0, .int .u32 0]

set_option maxRecDepth 100000 in
theorem d_init (w : World) (g db c : Nat) (hB : Blk w g 112 decZero) (hD : Dat w db) (hne : db ≠ g) :
    Calls Tryz.prog 51 #[.pointer (some ⟨g, 0, none⟩), .slice (some ⟨db, 0, none⟩) 2 c] w fun e w' => e = .returned (.tuple #[]) ∧ Blk w' g 112 (decAt db c 16 0 33 2147483648 478117887) ∧ w.grownBy w' (some g) := by
  obtain ⟨c0, c1, c2, c3, c4, c5⟩ := hB.six
  have f := hB.frozen
  go_enter Tryz.func51, Tryz.ntmps51
  go_wp2_with fail
  have hA : Blk (((((w.setCell ⟨g, 0, none⟩ (.slice (some ⟨db, 0, none⟩) 2 c)).setCell ⟨g, 1, none⟩ (.int .u64 0)).setCell ⟨g, 2, none⟩ (.int .u64 0)).setCell ⟨g, 3, none⟩ (.int .u64 9)).setCell ⟨g, 4, none⟩ (.int .u32 128)) g 112 (decAt db c 0 0 9 128 0) := by
    simpa [decZero] using ((((hB.set_ 0 (.slice (some ⟨db, 0, none⟩) 2 c)).set_ 1 (.int .u64 0)).set_ 2 (.int .u64 0)).set_ 3 (.int .u64 9)).set_ 4 (.int .u32 128)
  have gA : w.grownBy (((((w.setCell ⟨g, 0, none⟩ (.slice (some ⟨db, 0, none⟩) 2 c)).setCell ⟨g, 1, none⟩ (.int .u64 0)).setCell ⟨g, 2, none⟩ (.int .u64 0)).setCell ⟨g, 3, none⟩ (.int .u64 9)).setCell ⟨g, 4, none⟩ (.int .u32 128)) (some g) :=
    only_set (only_set (only_set (only_set (only_set (only_refl _ _) _ _) _ _) _ _) _ _) _ _
  refine (g_7 _ g db c 9 128 0 hA (hD.grown gA hne) hne).mono ?_
  rintro e w1 ⟨rfl, hB1, g1⟩
  clear hA c0 c1 c2 c3 c4 c5 f
  obtain ⟨c0, c1, c2, c3, c4, c5⟩ := hB1.six
  have f := hB1.frozen
  have GA := only_trans gA g1
  clear gA g1
  go_wp2_with fail
  have hB2 : Blk (w1.setCell ⟨g, 5, none⟩ (.int .u32 28)) g 112 (decAt db c 7 0 9 128 28) := by simpa using hB1.set_ 5 (.int .u32 28)
  have GB : w.grownBy (w1.setCell ⟨g, 5, none⟩ (.int .u32 28)) (some g) := only_set GA _ _
  refine (d_norm _ g db c hB2 (hD.grown GB hne) hne).mono ?_
  rintro e w2 ⟨rfl, hB3, g3⟩
  go_wp2_with fail
  go_end0
  exact ⟨rfl, hB3, only_trans GB g3⟩

set_option maxRecDepth 100000 in
theorem d_sym (w : World) (g db c : Nat) (hB : Blk w g 112 (decAt db c 16 0 33 2147483648 478117887)) :
    Calls Tryz.prog 89 #[.pointer (some ⟨g, 0, none⟩), .int .u32 250] w fun e w' => e = .returned (.int .u32 194) ∧ w = w' := by
  obtain ⟨c0, c1, c2, c3, c4, c5⟩ := hB.six
  go_enter Tryz.func89, Tryz.ntmps89
  go_wp2
  go_ret
  exact ⟨rfl, rfl⟩

set_option maxRecDepth 100000 in
theorem d_update (w : World) (g db c : Nat) (hB : Blk w g 112 (decAt db c 16 0 33 2147483648 478117887)) :
    Calls Tryz.prog 90 #[.pointer (some ⟨g, 0, none⟩), .int .u32 8589934, .int .u32 194, .int .u32 195, .int .u32 250] w fun e w' => e = .returned (.tuple #[]) ∧ Blk w' g 112 (decAt db c 16 0 33 8589934 5671517) ∧ w.grownBy w' (some g) := by
  obtain ⟨c0, c1, c2, c3, c4, c5⟩ := hB.six
  have f := hB.frozen
  go_enter Tryz.func90, Tryz.ntmps90
  go_wp2_with fail
  have hA : Blk ((w.setCell ⟨g, 5, none⟩ (.int .u32 5671517)).setCell ⟨g, 4, none⟩ (.int .u32 8589934)) g 112 (decAt db c 16 0 33 8589934 5671517) := by
    simpa using (hB.set_ 5 (.int .u32 5671517)).set_ 4 (.int .u32 8589934)
  refine (d_norm0 _ g db c 5671517 hA).mono ?_
  rintro e w1 ⟨rfl, rfl⟩
  go_wp2_with fail
  go_end0
  exact ⟨rfl, hA, only_set (only_set (only_refl _ _) _ _) _ _⟩

set_option maxRecDepth 100000 in
theorem d_and (w : World) (g db c : Nat) (hB : Blk w g 112 (decAt db c 16 0 33 2147483648 478117887)) :
    Calls Tryz.prog 92 #[.pointer (some ⟨g, 0, none⟩), .int .u32 250] w fun e w' => e = .returned (.int .u32 194) ∧ Blk w' g 112 (decAt db c 16 0 33 8589934 5671517) ∧ w.grownBy w' (some g) := by
  obtain ⟨c0, c1, c2, c3, c4, c5⟩ := hB.six
  go_enter Tryz.func92, Tryz.ntmps92
  go_wp2_with (go_at_call 89; refine (d_sym _ g db c hB).mono ?_; rintro e w1 ⟨rfl, rfl⟩)
  refine (d_update _ g db c hB).mono ?_
  rintro e w2 ⟨rfl, hB2, g2⟩
  go_wp2_with fail
  go_ret
  exact ⟨rfl, hB2, g2⟩

set_option maxRecDepth 100000 in
theorem d_bitA (w : World) (g db c : Nat) (hB : Blk w g 112 (decAt db c 16 0 33 8589934 5671517)) (hD : Dat w db) :
    Calls Tryz.prog 105 #[.pointer (some ⟨g, 0, none⟩)] w fun e w' => e = .returned (.int .u32 1) ∧ Blk w' g 112 (decAt db c 16 1 34 8589934 5671517) ∧ w.grownBy w' (some g) := by
  obtain ⟨c0, c1, c2, c3, c4, c5⟩ := hB.six
  have n1 := hD.n1
  have f := hB.frozen
  have hne : db ≠ g := by
    rintro rfl
    rw [hD.n0] at c0; simp at c0
  have a1 : bits BinOp.and IntKind.u8 1 1 = 1 := by decide +kernel
  go_enter Tryz.func105, Tryz.ntmps105
  go_wp2
  go_ret
  exact ⟨rfl, by simpa using (hB.set_ 2 (.int .u64 1)).set_ 3 (.int .u64 34), only_set (only_set (only_refl _ _) _ _) _ _⟩

set_option maxRecDepth 100000 in
theorem d_bitB (w : World) (g db c : Nat) (hB : Blk w g 112 (decAt db c 16 1 34 8589934 5671517)) (hD : Dat w db) :
    Calls Tryz.prog 105 #[.pointer (some ⟨g, 0, none⟩)] w fun e w' => e = .returned (.int .u32 0) ∧ Blk w' g 112 (decAt db c 16 2 35 8589934 5671517) ∧ w.grownBy w' (some g) := by
  obtain ⟨c0, c1, c2, c3, c4, c5⟩ := hB.six
  have n1 := hD.n1
  have f := hB.frozen
  have hne : db ≠ g := by
    rintro rfl
    rw [hD.n0] at c0; simp at c0
  have a1 : bits BinOp.and IntKind.u8 0 1 = 0 := by decide +kernel
  go_enter Tryz.func105, Tryz.ntmps105
  go_wp2
  go_ret
  exact ⟨rfl, by simpa using (hB.set_ 2 (.int .u64 2)).set_ 3 (.int .u64 35), only_set (only_set (only_refl _ _) _ _) _ _⟩

set_option maxRecDepth 100000 in
theorem d_raw (w : World) (g db c : Nat) (hB : Blk w g 112 (decAt db c 16 0 33 8589934 5671517)) (hD : Dat w db) (hne : db ≠ g) :
    Calls Tryz.prog 57 #[.pointer (some ⟨g, 0, none⟩), .int .u64 2] w fun e w' => e = .returned (.int .u32 1) ∧ Blk w' g 112 (decAt db c 16 2 35 8589934 5671517) ∧ w.grownBy w' (some g) := by
  have a1 : bits BinOp.or IntKind.u32 0 1 = 1 := by decide +kernel
  have a2 : bits BinOp.or IntKind.u32 1 0 = 1 := by decide +kernel
  go_enter Tryz.func57, Tryz.ntmps57
  go_wp2_with (go_at_call 93; go_in)
  refine wp_loop_rounds 3 ?_
  rw [rounds_succ]
  go_wp2_with fail
  refine (d_bitA _ g db c hB hD).mono ?_
  rintro e w1 ⟨rfl, hB1, g1⟩
  go_wp2_with fail
  rw [rounds_succ]
  go_wp2_with fail
  refine (d_bitB _ g db c hB1 (hD.grown g1 hne)).mono ?_
  rintro e w2 ⟨rfl, hB2, g2⟩
  go_wp2_with fail
  rw [rounds_succ]
  go_wp2_with fail
  refine wp_loop_rounds 1 ?_
  rw [rounds_succ]
  go_wp2_with fail
  go_ret
  exact ⟨rfl, hB2, only_trans g1 g2⟩

set_option maxRecDepth 100000 in
set_option maxHeartbeats 1000000 in
theorem d_uniform (w : World) (g db c : Nat) (hB : Blk w g 112 (decAt db c 16 0 33 2147483648 478117887)) (hD : Dat w db) (hne : db ≠ g) :
    Calls Tryz.prog 56 #[.pointer (some ⟨g, 0, none⟩), .int .u32 1000] w fun e w' => e = .returned (.tuple #[.int .u32 777, .bool true]) ∧ Blk w' g 112 (decAt db c 16 2 35 8589934 5671517) ∧ w.grownBy w' (some g) := by
  go_enter Tryz.func56, Tryz.ntmps56
  go_wp2_with (go_at_call 80; refine (len_999 _).mono ?_; rintro e w' ⟨rfl, rfl⟩)
  refine (d_and _ g db c hB).mono ?_
  rintro e w1 ⟨rfl, hB1, g1⟩
  have a2 : bits BinOp.or IntKind.u32 776 1 = 777 := by decide +kernel
  go_wp2_with fail
  go_region_law (go_simp; go_at_call 57; refine (d_raw _ g db c hB1.drew ((hD.grown g1 hne).drew) hne).mono ?_; rintro e w2 ⟨rfl, hB2, g2⟩)
  all_goals
    go_wp2_with fail
    go_ret2
    exact ⟨rfl, hB2, only_trans (only_drew g1) g2⟩

theorem d_range (w : World) (g db c : Nat) (hB : Blk w g 112 (decAt db c 16 2 35 8589934 5671517)) :
    Calls Tryz.prog 60 #[.pointer (some ⟨g, 0, none⟩)] w fun e w' => e = .returned (.int .u32 8589934) ∧ w = w' := by
  obtain ⟨c0, c1, c2, c3, c4, c5⟩ := hB.six
  go_enter Tryz.func60, Tryz.ntmps60
  go_wp2
  go_ret
  exact ⟨rfl, rfl⟩
theorem d_tell (w : World) (g db c : Nat) (hB : Blk w g 112 (decAt db c 16 2 35 8589934 5671517)) :
    Calls Tryz.prog 61 #[.pointer (some ⟨g, 0, none⟩)] w fun e w' => e = .returned (.int .u64 11) ∧ w = w' := by
  obtain ⟨c0, c1, c2, c3, c4, c5⟩ := hB.six
  go_enter Tryz.func61, Tryz.ntmps61
  go_wp2_with (go_at_call 80; refine (len_rng _).mono ?_; rintro e w' ⟨rfl, rfl⟩)
  go_ret
  exact ⟨rfl, rfl⟩
set_option maxRecDepth 100000 in
theorem d_frac (w : World) (g db c : Nat) (hB : Blk w g 112 (decAt db c 16 2 35 8589934 5671517)) :
    Calls Tryz.prog 62 #[.pointer (some ⟨g, 0, none⟩)] w fun e w' => e = .returned (.int .u64 88) ∧ w = w' := by
  obtain ⟨c0, c1, c2, c3, c4, c5⟩ := hB.six
  go_enter Tryz.func62, Tryz.ntmps62
  go_wp2_with (go_at_call 80; refine (len_rng _).mono ?_; rintro e w' ⟨rfl, rfl⟩)
  refine wp_loop_rounds 4 ?_
  repeat any_goals (rw [rounds_succ]; go_wp2)
  go_ret
  exact ⟨rfl, rfl⟩
set_option maxRecDepth 100000 in
theorem d_left (w : World) (g db c : Nat) (hB : Blk w g 112 (decAt db c 16 2 35 8589934 5671517)) :
    Calls Tryz.prog 63 #[.pointer (some ⟨g, 0, none⟩)] w fun e w' => e = .returned (.int .i64 (-2)) ∧ ∃ n, w' = w.drewN n := by
  obtain ⟨c0, c1, c2, c3, c4, c5⟩ := hB.six
  go_enter Tryz.func63, Tryz.ntmps63
  go_wp2_with fail
  go_quiet (fail)
  go_wp2_with fail
  go_ret
  exact ⟨rfl, _, rfl⟩
end Go.Proofs.YtojdfjohmicopaaGreatDoor
namespace Go.Proofs.YtojdfjohmicopaaGreatDoor
open Go Go.RowKit Go.Proofs.YtojdfjohmicopaaGreatDoorW.PrintWords

theorem dec_idle (p q : Addr) (w : World) :
    CallsD Tryz.prog 50 #[.pointer (some p), .pointer (some q)] .returning w fun e u' w' => e = .returned (.tuple #[]) ∧ u' = .returning ∧ w' = w := by
  refine callsD_of_wpS Tryz.func50 rfl fun c₀ cs hu => ?_
  apply wpS_seq
  apply wpS_region
  simp [wpOpsS, go_sem, recoverD, hu, Tryz.ntmps50, Exit.thenS]
  refine wpS_cond (t := false) (by simp [Act.eval, Array.replicate]) ?_
  simp only [Bool.false_eq_true, if_false]
  refine wpS_of_wp (wp_skip ?_)
  cases c₀
  simp_all [bodyPostS, results, Tryz.results50]

theorem Dat.alloc {w : World} {db : Nat} (h : Dat w db) (hlt : db < w.heap.size) (o : Obj) : Dat (w.alloc o) db :=
  ⟨(World.cell?_alloc_lt w o ⟨db, 0, none⟩ hlt).trans h.n0, (World.cell?_alloc_lt w o ⟨db, 1, none⟩ hlt).trans h.n1⟩
theorem conv_str (W : World) : ∃ W' cap, (convert 9 33 (.string ⟨#[199, 1]⟩)).run Tryz.prog W = .ok (.slice (some ⟨W.heap.size, 0, none⟩) 2 cap) W' ∧ Below W.heap.size W W' ∧ W'.heap.size = W.heap.size + 1 ∧ Dat W' W.heap.size := by
  refine ⟨_, _, Go.Lib.run_convert_string_bytes W 9 33 5 ⟨#[199, 1]⟩ Tryz.underlying9 Tryz.underlying33 Tryz.underlying5, ?_, ?_, ?_⟩
  · refine ⟨rfl, rfl, rfl, ?_, fun i hi => ?_⟩
    · rw [Go.Lib.bytesWorld_size]; omega
    · exact Go.Lib.bytesWorld_at_old W 5 _ i hi
  · exact Go.Lib.bytesWorld_size _ _ _
  · exact ⟨Go.Lib.bytesWorld_cell W 5 ⟨#[199, 1]⟩ 0 (by decide), Go.Lib.bytesWorld_cell W 5 ⟨#[199, 1]⟩ 1 (by decide)⟩

set_option maxRecDepth 100000 in
set_option maxHeartbeats 4000000 in
theorem dec_any (w : World) (b c : Nat) (hb : b < w.heap.size)
    (o0 : w.cell? ⟨b, 0, none⟩ = some (.int .i64 3)) (o1 : w.cell? ⟨b, 1, none⟩ = some (.int .u32 1000)) (o2 : w.cell? ⟨b, 2, none⟩ = some (.int .u32 777))
    (o3 : w.cell? ⟨b, 3, none⟩ = some (.int .u32 0)) (o4 : w.cell? ⟨b, 4, none⟩ = some (.int .i64 0)) (o5 : w.cell? ⟨b, 5, none⟩ = some nilS) :
    Calls Tryz.prog 26 #[.string ⟨#[199, 1]⟩, .slice (some ⟨b, 0, none⟩) 1 c] w fun e w' => (∃ q k, e = .returned (.tuple #[.slice (some ⟨q, 0, none⟩) 1 k, .int .i64 0]) ∧ w'.cell? ⟨q, 0, none⟩ = some (.int .i64 777) ∧ w'.cell? ⟨q, 1, none⟩ = some (.bool true)) ∧ Below w.heap.size w w' := by
  obtain ⟨i0, hi0, hz0, hz1, hz2⟩ := info_parts info_seen
  have hmf : ∀ (fn : Fn) (first cap : Array Value) (w : World), (Instr.makeFunc fn first cap).run Tryz.prog w = .ok (.func fn first cap) w := fun _ _ _ _ => rfl
  obtain ⟨W1, cap1, hcv, bW, szW, hD⟩ := conv_str (((w.alloc (.cells #[nilS] 77)).alloc (.cells #[.int .i64 0] 3)).alloc (.cells decZero 112))
  simp only [World.size_alloc] at hcv bW szW hD
  go_enter_defers Tryz.func26, Tryz.ntmps26
  go_wp2_with fail
  have B0 : Blk W1 (w.heap.size + 1 + 1) 112 decZero := by
    have h := (Blk.new' (w := ((w.alloc (.cells #[nilS] 77)).alloc (.cells #[.int .i64 0] 3))) (t := 112) (cs := decZero) (g := w.heap.size + 1 + 1) (by simp))
    exact h.below bW (by omega)
  have R0 : Blk W1 w.heap.size 77 #[nilS] := Blk.below (((Blk.new' rfl).alloc _).alloc _) bW (by omega)
  have R1 : Blk W1 (w.heap.size + 1) 3 #[.int .i64 0] := Blk.below ((Blk.new' (by simp)).alloc _) bW (by omega)
  have bw1 : Below w.heap.size w W1 := (((((Below.refl _ _).alloc (Nat.le_refl _) _).alloc (by simp) _).alloc (by simp; omega) _).trans (bW.mono (by omega)))
  clear hcv bW
  refine (d_init W1 (w.heap.size + 1 + 1) (w.heap.size + 1 + 1 + 1) cap1 B0 hD (by omega)).mono ?_
  rintro e w2 ⟨rfl, hB2, g2⟩
  replace R0 := R0.grown g2 (fun h => by injection h; omega)
  replace R1 := R1.grown g2 (fun h => by injection h; omega)
  replace hD := hD.grown g2 (by omega)
  have hs2 : w.heap.size + 1 + 1 + 1 + 1 ≤ w2.heap.size := by have := g2.size; omega
  have b2 : Below w.heap.size W1 w2 := (Below.refl _ _).grown g2 (by omega) (by simp; omega)
  replace b2 := bw1.trans b2
  clear g2 B0 bw1 szW
  replace o0 := (b2.cell (p := ⟨b, 0, none⟩) hb).trans o0
  replace o1 := (b2.cell (p := ⟨b, 1, none⟩) hb).trans o1
  replace o2 := (b2.cell (p := ⟨b, 2, none⟩) hb).trans o2
  replace o3 := (b2.cell (p := ⟨b, 3, none⟩) hb).trans o3
  replace o4 := (b2.cell (p := ⟨b, 4, none⟩) hb).trans o4
  replace o5 := (b2.cell (p := ⟨b, 5, none⟩) hb).trans o5
  have hb2 : b < w2.heap.size := by omega
  go_wp2_with fail
  refine wp_loop_rounds 2 ?_
  rw [rounds_succ]
  go_wp2_with fail
  have hD2 := (hD.alloc (by omega) (.cells #[.int .i64 3, .int .u32 1000, .int .u32 777, .int .u32 0, .int .i64 0, nilS] 97)).alloc (by simp; omega) (.cells #[.int .i64 0, .bool true, .int .u32 0, .int .u32 0, .int .u32 0, .int .i64 0] 83)
  refine (d_uniform _ (w.heap.size + 1 + 1) (w.heap.size + 1 + 1 + 1) cap1 ((hB2.alloc _).alloc _) hD2 (by omega)).mono ?_
  rintro e w3 ⟨rfl, hB3, g3⟩
  have hs3 : w2.heap.size + 1 + 1 ≤ w3.heap.size := by have := g3.size; simp at this; omega
  have S3 : Blk w3 (w2.heap.size + 1) 83 #[.int .i64 0, .bool true, .int .u32 0, .int .u32 0, .int .u32 0, .int .i64 0] := Blk.grown (Blk.new' (by simp)) g3 (fun h => by injection h; omega)
  have b3 : Below w.heap.size w w3 := b2.trans (Below.grown (((Below.refl _ _).alloc (by omega) _).alloc (by simp; omega) _) g3 (by simp; omega) (by simp; omega))
  replace R0 := ((R0.alloc _).alloc _).grown g3 (fun h => by injection h; omega)
  replace R1 := ((R1.alloc _).alloc _).grown g3 (fun h => by injection h; omega)
  clear o0 o1 o2 o3 o4 o5 hD hD2 hB2 b2 g3
  obtain ⟨s0, s1, s2, s3, s4, s5⟩ := S3.six
  have sf := S3.frozen
  have r0 := R0.one; have r1 := R1.one
  have f0 := R0.frozen 0; have f1 := R1.frozen 0
  go_wp2_with fail
  have S4 : Blk ((w3.setCell ⟨w2.heap.size + 1, 0, none⟩ (.int .i64 777)).setCell ⟨w2.heap.size + 1, 1, none⟩ (.bool true)) (w2.heap.size + 1) 83 #[.int .i64 777, .bool true, .int .u32 0, .int .u32 0, .int .u32 0, .int .i64 0] := by simpa using (S3.set_ 0 (.int .i64 777)).set_ 1 (.bool true)
  have hB4 := (hB3.far (p := ⟨w2.heap.size + 1, 0, none⟩) (by show _ ≠ w2.heap.size + 1; omega) (.int .i64 777)).far (p := ⟨w2.heap.size + 1, 1, none⟩) (by show _ ≠ w2.heap.size + 1; omega) (.bool true)
  have Q0 := (R0.far (p := ⟨w2.heap.size + 1, 0, none⟩) (by show _ ≠ w2.heap.size + 1; omega) (.int .i64 777)).far (p := ⟨w2.heap.size + 1, 1, none⟩) (by show _ ≠ w2.heap.size + 1; omega) (.bool true)
  have Q1 := (R1.far (p := ⟨w2.heap.size + 1, 0, none⟩) (by show _ ≠ w2.heap.size + 1; omega) (.int .i64 777)).far (p := ⟨w2.heap.size + 1, 1, none⟩) (by show _ ≠ w2.heap.size + 1; omega) (.bool true)
  have b4 := (b3.setCell (p := ⟨w2.heap.size + 1, 0, none⟩) (by show _ ≤ w2.heap.size + 1; omega) (.int .i64 777)).setCell (p := ⟨w2.heap.size + 1, 1, none⟩) (by show _ ≤ w2.heap.size + 1; omega) (.bool true)
  have hs4 : w2.heap.size + 1 + 1 ≤ ((w3.setCell ⟨w2.heap.size + 1, 0, none⟩ (.int .i64 777)).setCell ⟨w2.heap.size + 1, 1, none⟩ (.bool true)).heap.size := by simpa [World.setCell] using hs3
  generalize ((w3.setCell ⟨w2.heap.size + 1, 0, none⟩ (.int .i64 777)).setCell ⟨w2.heap.size + 1, 1, none⟩ (.bool true)) = w4 at S4 hB4 Q0 Q1 b4 hs4 ⊢
  clear s0 s1 s2 s3 s4 s5 sf r0 r1 f0 f1 S3 hB3 R0 R1 b3 hs3
  obtain ⟨s0, s1, s2, s3, s4, s5⟩ := S4.six
  have sf := S4.frozen
  have r0 := Q0.one; have r1 := Q1.one
  have f0 := Q0.frozen 0; have f1 := Q1.frozen 0
  refine (d_range _ _ _ _ hB4).mono ?_
  rintro e w5 ⟨rfl, rfl⟩
  go_wp2_with fail
  refine (d_tell _ _ _ _ hB4).mono ?_
  rintro e w5 ⟨rfl, rfl⟩
  go_wp2_with fail
  refine (d_frac _ _ _ _ hB4).mono ?_
  rintro e w5 ⟨rfl, rfl⟩
  go_wp2_with fail
  refine (d_left _ _ _ _ hB4).mono ?_
  rintro e w5 ⟨rfl, n5, rfl⟩
  go_upto_region 30 with (fail)
  have S6 : Blk (((((w4.drewN n5).setCell ⟨w2.heap.size + 1, 2, none⟩ (.int .u32 8589934)).setCell ⟨w2.heap.size + 1, 3, none⟩ (.int .u32 11)).setCell ⟨w2.heap.size + 1, 4, none⟩ (.int .u32 88)).setCell ⟨w2.heap.size + 1, 5, none⟩ (.int .i64 (-2))) (w2.heap.size + 1) 83 #[.int .i64 777, .bool true, .int .u32 8589934, .int .u32 11, .int .u32 88, .int .i64 (-2)] := by simpa using (((((S4.drewN n5).set_ 2 (.int .u32 8589934)).set_ 3 (.int .u32 11)).set_ 4 (.int .u32 88)).set_ 5 (.int .i64 (-2)))
  have P0 := (((((Q0.drewN n5).far (p := ⟨w2.heap.size + 1, 2, none⟩) (by show _ ≠ w2.heap.size + 1; omega) (.int .u32 8589934)).far (p := ⟨w2.heap.size + 1, 3, none⟩) (by show _ ≠ w2.heap.size + 1; omega) (.int .u32 11)).far (p := ⟨w2.heap.size + 1, 4, none⟩) (by show _ ≠ w2.heap.size + 1; omega) (.int .u32 88)).far (p := ⟨w2.heap.size + 1, 5, none⟩) (by show _ ≠ w2.heap.size + 1; omega) (.int .i64 (-2)))
  have P1 := (((((Q1.drewN n5).far (p := ⟨w2.heap.size + 1, 2, none⟩) (by show _ ≠ w2.heap.size + 1; omega) (.int .u32 8589934)).far (p := ⟨w2.heap.size + 1, 3, none⟩) (by show _ ≠ w2.heap.size + 1; omega) (.int .u32 11)).far (p := ⟨w2.heap.size + 1, 4, none⟩) (by show _ ≠ w2.heap.size + 1; omega) (.int .u32 88)).far (p := ⟨w2.heap.size + 1, 5, none⟩) (by show _ ≠ w2.heap.size + 1; omega) (.int .i64 (-2)))
  have b6 := (((((below_drewN' b4 n5).setCell (p := ⟨w2.heap.size + 1, 2, none⟩) (by show _ ≤ w2.heap.size + 1; omega) (.int .u32 8589934)).setCell (p := ⟨w2.heap.size + 1, 3, none⟩) (by show _ ≤ w2.heap.size + 1; omega) (.int .u32 11)).setCell (p := ⟨w2.heap.size + 1, 4, none⟩) (by show _ ≤ w2.heap.size + 1; omega) (.int .u32 88)).setCell (p := ⟨w2.heap.size + 1, 5, none⟩) (by show _ ≤ w2.heap.size + 1; omega) (.int .i64 (-2)))
  have hs6 : w2.heap.size + 1 + 1 ≤ (((((w4.drewN n5).setCell ⟨w2.heap.size + 1, 2, none⟩ (.int .u32 8589934)).setCell ⟨w2.heap.size + 1, 3, none⟩ (.int .u32 11)).setCell ⟨w2.heap.size + 1, 4, none⟩ (.int .u32 88)).setCell ⟨w2.heap.size + 1, 5, none⟩ (.int .i64 (-2))).heap.size := by simpa [World.setCell] using hs4
  generalize (((((w4.drewN n5).setCell ⟨w2.heap.size + 1, 2, none⟩ (.int .u32 8589934)).setCell ⟨w2.heap.size + 1, 3, none⟩ (.int .u32 11)).setCell ⟨w2.heap.size + 1, 4, none⟩ (.int .u32 88)).setCell ⟨w2.heap.size + 1, 5, none⟩ (.int .i64 (-2))) = w6 at S6 P0 P1 b6 hs6 ⊢
  clear s0 s1 s2 s3 s4 s5 sf r0 r1 f0 f1 S4 hB4 Q0 Q1 b4 hs4
  obtain ⟨s0, s1, s2, s3, s4, s5⟩ := S6.six
  have r0 := P0.one; have r1 := P1.one
  have f0 := P0.frozen 0; have f1 := P1.frozen 0
  have hs7 : w.heap.size < w6.heap.size := by omega
  go_wp2_with (at_builtin; refine wpList_append_own_at (w6.alloc (.cells #[.int .i64 777, .bool true, .int .u32 8589934, .int .u32 11, .int .u32 88, .int .i64 (-2)] 83)) rfl (.tmp 118) (.tmp 120) 77 rfl w6.heap.size 83 i0 _ 6 32 Tryz.underlying77 hi0 hz0 hz1 hz2 rfl (by omega) nilS 0 [] rfl (World.ownsRow_nil _ _ _ _) ⟨w6.heap.size, 0, none⟩ 1 1 [.int .i64 777, .bool true, .int .u32 8589934, .int .u32 11, .int .u32 88, .int .i64 (-2)] rfl rfl (World.news_of_block (cs := #[.int .i64 777, .bool true, .int .u32 8589934, .int .u32 11, .int .u32 88, .int .i64 (-2)]) (t := 83) (fr := (0, 0)) (heap_alloc_new w6 _)) (by simp [Value.oneCell']) (by simp [maxLen]) (by omega) (by simp) ?_; intro v7 w7 hown7 hg7 _ hat7; obtain ⟨q7, k7, rfl, hq7, hl7⟩ := hown7.form (by omega); have R7 := (P0.alloc _).grown hg7 (by simp [Value.ownBlock]); have R8 := (P1.alloc _).grown hg7 (by simp [Value.ownBlock]); have t0 := R7.one; have t1 := R8.one; have tf := R7.frozen 0; have tg := R8.frozen 0)
  clear s0 s1 s2 s3 s4 s5 r0 r1 f0 f1
  have hc0 : w7.cell? ⟨q7, 0, none⟩ = some (.int .i64 777) := by simpa using hown7.cellAt 0 (by omega)
  have hc1 : w7.cell? ⟨q7, 1, none⟩ = some (.bool true) := by simpa using hown7.cellAt 1 (by omega)
  have b7 : Below w.heap.size w w7 := b6.trans (Below.grown ((Below.refl _ _).alloc (by omega) _) hg7 (by simp; omega) (by simp [Value.ownBlock]))
  have hne1 : ¬ q7 = w.heap.size := by omega
  have hne2 : ¬ q7 = w.heap.size + 1 := by omega
  rw [rounds_succ]
  go_wp2_with fail
  refine leaves_cons (f := 50) (args := #[.pointer (some ⟨w.heap.size, 0, none⟩), .pointer (some ⟨w.heap.size + 1, 0, none⟩)]) (by simp) (by simp [go_sem]) ?_
  refine (dec_idle _ _ _).mono ?_
  rintro e u' w'' ⟨rfl, rfl, rfl⟩
  simp [Leaves, settle, results, Tryz.results26, go_sem, t0, t1]
  exact ⟨⟨hc0, hc1⟩, ((b7.setCell (p := ⟨w.heap.size, 0, none⟩) (Nat.le_refl _) _).setCell (p := ⟨w.heap.size, 0, none⟩) (Nat.le_refl _) _).setCell (p := ⟨w.heap.size + 1, 0, none⟩) (by simp) _⟩
end Go.Proofs.YtojdfjohmicopaaGreatDoor
namespace Go.Proofs.YtojdfjohmicopaaGreatDoor
open Go Go.RowKit Go.Proofs.YtojdfjohmicopaaGreatDoorW.PrintWords

theorem info_op : (Tryz.prog.info? 97).map (fun i => (i.zero, i.size, i.bytes)) = some (some (.agg #[.int .i64 0, .int .u32 0, .int .u32 0, .int .u32 0, .int .i64 0, nilS]), 6, 56) := by kernel_rfl

set_option maxRecDepth 100000 in
set_option maxHeartbeats 1000000 in
theorem ops_any (w : World) (b c : Nat)
    (o0 : w.cell? ⟨b, 0, none⟩ = some (.int .i64 3)) (o1 : w.cell? ⟨b, 1, none⟩ = some (.int .u32 1000)) (o2 : w.cell? ⟨b, 2, none⟩ = some (.int .u32 777))
    (o3 : w.cell? ⟨b, 3, none⟩ = some (.int .u32 0)) (o4 : w.cell? ⟨b, 4, none⟩ = some (.int .i64 0)) (o5 : w.cell? ⟨b, 5, none⟩ = some nilS) :
    Calls Tryz.prog 24 #[.slice (some ⟨b, 0, none⟩) 1 c] w fun e w' => (∃ q k, e = .returned (.slice (some ⟨q, 0, none⟩) 1 k) ∧ q < w'.heap.size ∧ w.heap.size ≤ q ∧ w'.cell? ⟨q, 0, none⟩ = some (.int .i64 3) ∧ w'.cell? ⟨q, 1, none⟩ = some (.int .u32 1000) ∧ w'.cell? ⟨q, 2, none⟩ = some (.int .u32 777) ∧ w'.cell? ⟨q, 3, none⟩ = some (.int .u32 0) ∧ w'.cell? ⟨q, 4, none⟩ = some (.int .i64 0) ∧ w'.cell? ⟨q, 5, none⟩ = some nilS) ∧ Below w.heap.size w w' := by
  obtain ⟨i0, hi0, hz0, hz1, hz2⟩ := info_parts info_op
  go_enter Tryz.func24, Tryz.ntmps24
  go_wp2_with fail
  refine wp_loop_rounds 2 ?_
  rw [rounds_succ]
  go_wp2_with (at_builtin; refine wpList_append_own_at ((w.alloc (.cells #[.int .i64 3, .int .u32 1000, .int .u32 777, .int .u32 0, .int .i64 0, nilS] 75)).alloc (.cells #[.int .i64 3, .int .u32 1000, .int .u32 777, .int .u32 0, .int .i64 0, nilS] 97)) rfl (.tmp 12) (.tmp 14) 71 rfl w.heap.size 97 i0 _ 6 56 Tryz.underlying71 hi0 hz0 hz1 hz2 rfl (by omega) nilS 0 [] rfl (World.ownsRow_nil _ _ _ _) ⟨w.heap.size + 1, 0, none⟩ 1 1 [.int .i64 3, .int .u32 1000, .int .u32 777, .int .u32 0, .int .i64 0, nilS] rfl rfl (World.news_of_block (cs := #[.int .i64 3, .int .u32 1000, .int .u32 777, .int .u32 0, .int .i64 0, nilS]) (t := 97) (fr := (0, 0)) (Blk.new' (by simp))) (by simp [Value.oneCell']) (by simp [maxLen]) (by omega) (by simp; omega) ?_; intro v7 w7 hown7 hg7 _ hat7; obtain ⟨q7, k7, rfl, hq7, hl7⟩ := hown7.form (by omega))
  rw [rounds_succ]
  go_wp2_with fail
  go_ret
  refine ⟨⟨q7, k7, rfl, hl7, hq7, by simpa using hown7.cellAt 0 (by omega), by simpa using hown7.cellAt 1 (by omega), by simpa using hown7.cellAt 2 (by omega), by simpa using hown7.cellAt 3 (by omega), by simpa using hown7.cellAt 4 (by omega), by simpa using hown7.cellAt 5 (by omega)⟩, ?_⟩
  exact Below.grown (((Below.refl _ _).alloc (Nat.le_refl _) _).alloc (by simp) _) hg7 (by simp; omega) (by simp [Value.ownBlock])

set_option maxRecDepth 100000 in
set_option maxHeartbeats 1000000 in
theorem alive_any (w : World) : Calls Tryz.prog 12 #[] w fun e w' => e = .returned (.bool true) ∧ Below w.heap.size w w' := by
  go_enter Tryz.func12, Tryz.ntmps12
  go_wp2_with fail
  obtain ⟨a0, a1, a2, a3, a4, a5⟩ := (Blk.new w 75 #[.int .i64 3, .int .u32 1000, .int .u32 777, .int .u32 0, .int .i64 0, nilS]).six
  refine (ops_any _ w.heap.size 1 a0 a1 a2 a3 a4 a5).mono ?_
  rintro e w1 ⟨⟨q, k, rfl, hq, hq2, p0, p1, p2, p3, p4, p5⟩, b1⟩
  clear a0 a1 a2 a3 a4 a5
  replace b1 : Below w.heap.size w w1 := ((Below.refl _ _).alloc (Nat.le_refl _) _).trans (b1.mono (by simp))
  go_wp2_with fail
  refine (enc_any w1 q k hq p0 p1 p2 p3 p4 p5).mono ?_
  rintro e w2 ⟨⟨v, rfl⟩, b2⟩
  replace p0 := (b2.cell (p := ⟨q, 0, none⟩) hq).trans p0
  replace p1 := (b2.cell (p := ⟨q, 1, none⟩) hq).trans p1
  replace p2 := (b2.cell (p := ⟨q, 2, none⟩) hq).trans p2
  replace p3 := (b2.cell (p := ⟨q, 3, none⟩) hq).trans p3
  replace p4 := (b2.cell (p := ⟨q, 4, none⟩) hq).trans p4
  replace p5 := (b2.cell (p := ⟨q, 5, none⟩) hq).trans p5
  replace hq : q < w2.heap.size := Nat.lt_of_lt_of_le hq b2.size
  have hs1 := b1.size
  replace b2 : Below w.heap.size w w2 := b1.trans (b2.mono hs1)
  clear b1 hs1
  go_wp2_with fail
  refine (dec_any w2 q k hq p0 p1 p2 p3 p4 p5).mono ?_
  rintro e w3 ⟨⟨q3, k3, rfl, c0, c1⟩, b3⟩
  have b4 : Below w.heap.size w w3 := b2.trans (b3.mono b2.size)
  clear p0 p1 p2 p3 p4 p5
  go_wp2_with fail
  go_ret
  exact ⟨rfl, b4⟩
end Go.Proofs.YtojdfjohmicopaaGreatDoor
