/- Contracts of the range encoder's methods at the states that laws.alive comes to. No condition. -/
import Derived.Test.YtngljoplalihkaaGreatDoorProg
import Derived.Test.YtngljoplalihkaaGreatDoorAaWords
import Derived.Test.YtngljoplalihkaaGreatDoorShelf
import Derived.WalkKit
import Derived.WalkLawsBesides
import Derived.WalkSpells
import Derived.RegionTactic
import Derived.ChangeAlike
import Derived.Outline
import Derived.BigRegion
namespace Go.Proofs.YtngljoplalihkaaGreatDoor
open Go Go.RowKit

theorem e_init (w : World) (g : Nat) (hB : Blk w g 86 encZero) :
    Calls Tryz.prog 134 #[.pointer (some ⟨g, 0, none⟩)] w fun e w' => e = .returned (.tuple #[]) ∧ Blk w' g 86 encInit ∧ Below g w w' := by
  obtain ⟨c0, c1, c2, c3, c4, c5, c6, c7, c8⟩ := hB.nine
  have f := hB.frozen
  go_enter Tryz.func134, Tryz.ntmps134
  go_wp2
  go_end0
  exact ⟨rfl, by simpa [encZero, encInit] using (((((((((hB.set_ 0 _).set_ 1 _).set_ 2 _).set_ 3 _).set_ 4 _).set_ 5 _).set_ 6 _).set_ 7 _).set_ 8 _), by repeat (first | with_reducible exact Below.refl _ _ | with_reducible refine below_at ?_ _ _ | with_reducible refine below_drew' ?_)⟩


theorem hbits : bits BinOp.or IntKind.u64 0 (IntKind.u64.wrap (IntKind.u64.wrap (bits BinOp.and IntKind.u32 1 3))) = 1 := by decide +kernel
theorem len_999 (w : World) : Calls Tryz.prog 165 #[.int .u32 999] w fun e w' => e = .returned (.int .i64 10) ∧ w = w' :=
  (Tryz.bits_Len32 999 w (by omega) (by omega)).mono fun _ _ ⟨h1, h2⟩ => ⟨h1.trans (by rw [show Lib.bitLen (999 : Int).toNat = 10 by decide]; rfl), h2.symm⟩
theorem len_rng (w : World) : Calls Tryz.prog 165 #[.int .u32 8589934] w fun e w' => e = .returned (.int .i64 24) ∧ w = w' :=
  (Tryz.bits_Len32 8589934 w (by omega) (by omega)).mono fun _ _ ⟨h1, h2⟩ => ⟨h1.trans (by rw [show Lib.bitLen (8589934 : Int).toNat = 24 by decide +kernel]; rfl), h2.symm⟩

set_option maxRecDepth 100000 in
theorem e_cum (w : World) (g : Nat) (hB : Blk w g 86 encInit) :
    Calls Tryz.prog 135 #[.pointer (some ⟨g, 0, none⟩), .int .u32 194, .int .u32 195, .int .u32 250] w fun e w' => e = .returned (.tuple #[]) ∧ Blk w' g 86 encCum ∧ Below g w w' := by
  obtain ⟨c0, c1, c2, c3, c4, c5, c6, c7, c8⟩ := hB.nine
  have f := hB.frozen
  go_enter Tryz.func135, Tryz.ntmps135
  go_wp2
  go_region
  all_goals go_wp2
  refine wp_loop_rounds 1 ?_
  rw [rounds_succ]
  go_wp2
  go_end0
  go_wp2
  go_end0
  exact ⟨rfl, by simpa [encInit, encCum] using ((hB.set_ 5 _).set_ 4 _).drew, by repeat (first | with_reducible exact Below.refl _ _ | with_reducible refine below_at ?_ _ _ | with_reducible refine below_drew' ?_)⟩

set_option maxRecDepth 100000 in
theorem e_raw (w : World) (g : Nat) (hB : Blk w g 86 encCum) :
    Calls Tryz.prog 140 #[.pointer (some ⟨g, 0, none⟩), .int .u64 2, .int .u32 1] w fun e w' => e = .returned (.tuple #[]) ∧ Blk w' g 86 encUni ∧ Below g w w' := by
  obtain ⟨c0, c1, c2, c3, c4, c5, c6, c7, c8⟩ := hB.nine
  have f := hB.frozen
  go_enter Tryz.func140, Tryz.ntmps140
  go_wp2
  go_region
  all_goals go_wp2
  refine wp_loop_rounds 1 ?_
  rw [rounds_succ]
  go_wp2
  go_end0
  exact ⟨rfl, by simpa [encCum, encUni, hbits] using (((hB.set_ 2 _).set_ 3 _).set_ 8 _).drew, by repeat (first | with_reducible exact Below.refl _ _ | with_reducible refine below_at ?_ _ _ | with_reducible refine below_drew' ?_)⟩

set_option maxRecDepth 100000 in
theorem e_uniform (w : World) (g : Nat) (hB : Blk w g 86 encInit) :
    Calls Tryz.prog 139 #[.pointer (some ⟨g, 0, none⟩), .int .u32 1000, .int .u32 777] w fun e w' => e = .returned (.tuple #[]) ∧ Blk w' g 86 encUni ∧ Below g w w' := by
  go_enter Tryz.func139, Tryz.ntmps139
  go_wp2_with (go_at_call 165; refine (len_999 _).mono ?_; rintro e w' ⟨rfl, rfl⟩)
  refine (e_cum w g hB).mono ?_
  rintro e w1 ⟨rfl, h1, b1⟩
  go_wp2_with (go_at_call 166; go_in)
  refine (e_raw w1 g h1).mono ?_
  rintro e w2 ⟨rfl, h2, b2⟩
  go_wp2
  go_end0
  exact ⟨rfl, h2, b1.trans b2⟩

theorem e_range (w : World) (g : Nat) (hB : Blk w g 86 encUni) :
    Calls Tryz.prog 142 #[.pointer (some ⟨g, 0, none⟩)] w fun e w' => e = .returned (.int .u32 8589934) ∧ w = w' := by
  obtain ⟨c0, c1, c2, c3, c4, c5, c6, c7, c8⟩ := hB.nine
  go_enter Tryz.func142, Tryz.ntmps142
  go_wp2
  go_ret
  exact ⟨rfl, rfl⟩
theorem e_tell (w : World) (g : Nat) (hB : Blk w g 86 encUni) :
    Calls Tryz.prog 143 #[.pointer (some ⟨g, 0, none⟩)] w fun e w' => e = .returned (.int .u64 11) ∧ w = w' := by
  obtain ⟨c0, c1, c2, c3, c4, c5, c6, c7, c8⟩ := hB.nine
  go_enter Tryz.func143, Tryz.ntmps143
  go_wp2_with (go_at_call 165; refine (len_rng _).mono ?_; rintro e w' ⟨rfl, rfl⟩)
  go_ret
  exact ⟨rfl, rfl⟩
set_option maxRecDepth 100000 in
theorem e_frac (w : World) (g : Nat) (hB : Blk w g 86 encUni) :
    Calls Tryz.prog 144 #[.pointer (some ⟨g, 0, none⟩)] w fun e w' => e = .returned (.int .u64 88) ∧ w = w' := by
  obtain ⟨c0, c1, c2, c3, c4, c5, c6, c7, c8⟩ := hB.nine
  go_enter Tryz.func144, Tryz.ntmps144
  go_wp2_with (go_at_call 165; refine (len_rng _).mono ?_; rintro e w' ⟨rfl, rfl⟩)
  refine wp_loop_rounds 4 ?_
  repeat any_goals (rw [rounds_succ]; go_wp2)
  go_ret
  exact ⟨rfl, rfl⟩
end Go.Proofs.YtngljoplalihkaaGreatDoor
