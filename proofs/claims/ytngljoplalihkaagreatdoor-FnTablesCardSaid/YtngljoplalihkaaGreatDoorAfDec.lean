/- Contracts of the range decoder's methods at the states that laws.alive comes to. No condition. -/
import Derived.Test.YtngljoplalihkaaGreatDoorAbEnc
import Derived.Deep.RegionLaw
import Derived.Deep.QuietTactic
import Derived.BigQuiet
namespace Go.Proofs.YtngljoplalihkaaGreatDoor
open Go Go.RowKit

/-- The decoder's cells: its data lie in block db. -/
abbrev decAt (db c : Nat) (br rb nb rs hi : Int) : Array Value := #[.slice (some ⟨db, 0, none⟩) 2 c, .int .u64 br, .int .u64 rb, .int .u64 nb, .int .u32 rs, .int .u32 hi]
structure Dat (w : World) (db : Nat) : Prop where
  n0 : w.cell? ⟨db, 0, none⟩ = some (.int .u8 199)
  n1 : w.cell? ⟨db, 1, none⟩ = some (.int .u8 1)
theorem Dat.grown {w w' : World} {db g : Nat} (h : Dat w db) (hg : w.grownBy w' (some g)) (hne : db ≠ g) : Dat w' db :=
  ⟨hg.cell h.n0 (by simpa using hne), hg.cell h.n1 (by simpa using hne)⟩
theorem Dat.drew {w : World} {db : Nat} (h : Dat w db) : Dat w.drew db := ⟨h.n0, h.n1⟩
theorem Dat.drewN {w : World} {db : Nat} (h : Dat w db) (n : Nat) : Dat (w.drewN n) db := ⟨h.n0, h.n1⟩
theorem only_refl (a : World) (row : Option Nat) : a.grownBy a row := World.grownBy.refl a row
theorem only_drew {a w : World} {row : Option Nat} (h : a.grownBy w row) : a.grownBy w.drew row := ⟨h.os, h.tape, h.output, h.size, h.block⟩
theorem only_drewN {a w : World} {row : Option Nat} (h : a.grownBy w row) (n : Nat) : a.grownBy (w.drewN n) row := ⟨h.os, h.tape, h.output, h.size, h.block⟩
theorem only_set {a w : World} {g : Nat} (h : a.grownBy w (some g)) (i : Nat) (u : Value) : a.grownBy (w.setCell ⟨g, i, none⟩ u) (some g) := h.trans (grown_set w ⟨g, i, none⟩ u)
theorem only_trans {a b c : World} {row : Option Nat} (h : a.grownBy b row) (k : b.grownBy c row) : a.grownBy c row := h.trans k

set_option maxRecDepth 100000 in
theorem g_7 (w : World) (g db c : Nat) (nb rs hi : Int) (hB : Blk w g 96 (decAt db c 0 0 nb rs hi)) (hD : Dat w db) (hne : db ≠ g) :
    Calls Tryz.prog 172 #[.pointer (some ⟨g, 0, none⟩), .int .i64 7] w fun e w' => e = .returned (.int .u32 99) ∧ Blk w' g 96 (decAt db c 7 0 nb rs hi) ∧ w.grownBy w' (some g) := by
  obtain ⟨c0, c1, c2, c3, c4, c5⟩ := hB.six
  have n0 := hD.n0; have n1 := hD.n1
  have f := hB.frozen
  have a1 : bits BinOp.or IntKind.u32 50944 1 = 50945 := by decide +kernel
  have a2 : bits BinOp.and IntKind.u32 99 127 = 99 := by decide +kernel
  go_enter Tryz.func172, Tryz.ntmps172
  go_wp2_with fail
  go_quiet (fail)
  go_wp2_with fail
  go_ret
  exact ⟨rfl, by simpa using (hB.drewN _).set_ 1 (.int .u64 7), only_set (only_drewN (only_refl _ _) _) _ _⟩

set_option maxRecDepth 100000 in
theorem g_8a (w : World) (g db c : Nat) (nb rs hi : Int) (hB : Blk w g 96 (decAt db c 7 0 nb rs hi)) (hD : Dat w db) (hne : db ≠ g) :
    Calls Tryz.prog 172 #[.pointer (some ⟨g, 0, none⟩), .int .i64 8] w fun e w' => e = .returned (.int .u32 128) ∧ Blk w' g 96 (decAt db c 15 0 nb rs hi) ∧ w.grownBy w' (some g) := by
  obtain ⟨c0, c1, c2, c3, c4, c5⟩ := hB.six
  have n0 := hD.n0; have n1 := hD.n1
  have f := hB.frozen
  have a1 : bits BinOp.or IntKind.u32 50944 1 = 50945 := by decide +kernel
  have a2 : bits BinOp.and IntKind.u32 25472 255 = 128 := by decide +kernel
  go_enter Tryz.func172, Tryz.ntmps172
  go_wp2_with fail
  go_quiet (fail)
  go_wp2_with fail
  go_ret
  exact ⟨rfl, by simpa using (hB.drewN _).set_ 1 (.int .u64 15), only_set (only_drewN (only_refl _ _) _) _ _⟩

set_option maxRecDepth 100000 in
theorem g_bit1 (w : World) (g db c : Nat) (nb rs hi : Int) (hB : Blk w g 96 (decAt db c 15 0 nb rs hi)) (hD : Dat w db) (hne : db ≠ g) :
    Calls Tryz.prog 185 #[.pointer (some ⟨g, 0, none⟩)] w fun e w' => e = .returned (.int .u32 1) ∧ Blk w' g 96 (decAt db c 16 0 nb rs hi) ∧ w.grownBy w' (some g) := by
  obtain ⟨c0, c1, c2, c3, c4, c5⟩ := hB.six
  have n0 := hD.n0; have n1 := hD.n1
  have f := hB.frozen
  have a1 : bits BinOp.and IntKind.u8 1 1 = 1 := by decide +kernel
  go_enter Tryz.func185, Tryz.ntmps185
  go_wp2_with fail
  go_ret
  exact ⟨rfl, by simpa using hB.set_ 1 (.int .u64 16), only_set (only_refl _ _) _ _⟩

set_option maxRecDepth 100000 in
theorem g_bit0 (w : World) (g db c : Nat) (nb rs hi : Int) (hB : Blk w g 96 (decAt db c 16 0 nb rs hi)) :
    Calls Tryz.prog 185 #[.pointer (some ⟨g, 0, none⟩)] w fun e w' => e = .returned (.int .u32 0) ∧ w = w' := by
  obtain ⟨c0, c1, c2, c3, c4, c5⟩ := hB.six
  go_enter Tryz.func185, Tryz.ntmps185
  go_wp2_with fail
  go_ret
  exact ⟨rfl, rfl⟩

set_option maxRecDepth 100000 in
set_option maxHeartbeats 1000000 in
theorem g_8b (w : World) (g db c : Nat) (nb rs hi : Int) (hB : Blk w g 96 (decAt db c 15 0 nb rs hi)) (hD : Dat w db) (hne : db ≠ g) :
    Calls Tryz.prog 172 #[.pointer (some ⟨g, 0, none⟩), .int .i64 8] w fun e w' => e = .returned (.int .u32 128) ∧ Blk w' g 96 (decAt db c 16 0 nb rs hi) ∧ w.grownBy w' (some g) := by
  obtain ⟨c0, c1, c2, c3, c4, c5⟩ := hB.six
  have a1 : bits BinOp.or IntKind.u32 0 1 = 1 := by decide +kernel
  have a2 : bits BinOp.or IntKind.u32 2 0 = 2 := by decide +kernel
  have a3 : bits BinOp.or IntKind.u32 4 0 = 4 := by decide +kernel
  have a4 : bits BinOp.or IntKind.u32 8 0 = 8 := by decide +kernel
  have a5 : bits BinOp.or IntKind.u32 16 0 = 16 := by decide +kernel
  have a6 : bits BinOp.or IntKind.u32 32 0 = 32 := by decide +kernel
  have a7 : bits BinOp.or IntKind.u32 64 0 = 64 := by decide +kernel
  have a8 : bits BinOp.or IntKind.u32 128 0 = 128 := by decide +kernel
  go_enter Tryz.func172, Tryz.ntmps172
  go_wp2_with fail
  go_quiet (fail)
  go_wp2_with fail
  refine wp_loop_rounds 9 ?_
  rw [rounds_succ]
  go_wp2_with fail
  refine (g_bit1 _ g db c nb rs hi (hB.drewN _) (hD.drewN _) hne).mono ?_
  rintro e w1 ⟨rfl, hB1, g1⟩
  repeat (go_wp2_with (first | (go_at_call 185; refine (g_bit0 _ g db c nb rs hi hB1).mono ?_; rintro e w2 ⟨rfl, rfl⟩)); rw [rounds_succ])
  go_wp2_with fail
  go_ret
  exact ⟨rfl, hB1, only_trans (only_drewN (only_refl _ _) _) g1⟩

set_option maxRecDepth 100000 in
set_option maxHeartbeats 1000000 in
theorem g_8c (w : World) (g db c : Nat) (nb rs hi : Int) (hB : Blk w g 96 (decAt db c 16 0 nb rs hi)) :
    Calls Tryz.prog 172 #[.pointer (some ⟨g, 0, none⟩), .int .i64 8] w fun e w' => e = .returned (.int .u32 0) ∧ Blk w' g 96 (decAt db c 16 0 nb rs hi) ∧ w.grownBy w' (some g) := by
  obtain ⟨c0, c1, c2, c3, c4, c5⟩ := hB.six
  have a1 : bits BinOp.or IntKind.u32 0 0 = 0 := by decide +kernel
  go_enter Tryz.func172, Tryz.ntmps172
  go_wp2_with fail
  go_quiet (fail)
  go_wp2_with fail
  refine wp_loop_rounds 9 ?_
  rw [rounds_succ]
  repeat (go_wp2_with (first | (go_at_call 185; refine (g_bit0 _ g db c nb rs hi (hB.drewN _)).mono ?_; rintro e w2 ⟨rfl, rfl⟩)); rw [rounds_succ])
  go_wp2_with fail
  go_ret
  exact ⟨rfl, hB.drewN _, only_drewN (only_refl _ _) _⟩
end Go.Proofs.YtngljoplalihkaaGreatDoor
