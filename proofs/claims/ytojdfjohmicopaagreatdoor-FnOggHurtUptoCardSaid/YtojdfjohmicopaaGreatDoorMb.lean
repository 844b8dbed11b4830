/- Contracts of the range encoder's methods at the states that laws.alive comes to. No condition. Contracts of the range encoder's carry and of Done at the states that laws.alive comes to. No condition. Contracts of the range encoder's end at the state that laws.alive comes to. No condition. A contract of impl.Encode at the one operation that laws.alive writes. No condition. -/
import Derived.Test.YtojdfjohmicopaaGreatDoorProg
import Derived.Test.YtojdfjohmicopaaGreatDoorMa
import Derived.Test.YtojdfjohmicopaaGreatDoorShelf
import Derived.WalkKit
import Derived.WalkLawsBesides
import Derived.WalkSpells
import Derived.RegionTactic
import Derived.ChangeAlike
import Derived.Outline
import Derived.BigRegion
import Derived.Test.YtojdfjohmicopaaGreatDoorWWords
import Derived.Deep.RegionLaw
import Derived.Deep.QuietTactic
import Derived.BigQuiet
import Derived.StillTailTactics
import Derived.Deep.Cut
import Derived.Deep.DeepMust
import Derived.Laws.CopyOwn
import Derived.Defers
import Derived.Recover
import Derived.Laws.Pointers
import Derived.Deep.RegionHeld3
import Derived.Deep.AppendLies
import Derived.Deep.CutRange
namespace Go.Proofs.YtojdfjohmicopaaGreatDoor
open Go Go.RowKit

theorem e_init (w : World) (g : Nat) (hB : Blk w g 100 encZero) :
    Calls Tryz.prog 38 #[.pointer (some ⟨g, 0, none⟩)] w fun e w' => e = .returned (.tuple #[]) ∧ Blk w' g 100 encInit ∧ Below g w w' := by
  obtain ⟨c0, c1, c2, c3, c4, c5, c6, c7, c8⟩ := hB.nine
  have f := hB.frozen
  go_enter Tryz.func38, Tryz.ntmps38
  go_wp2
  go_end0
  exact ⟨rfl, by simpa [encZero, encInit] using (((((((((hB.set_ 0 _).set_ 1 _).set_ 2 _).set_ 3 _).set_ 4 _).set_ 5 _).set_ 6 _).set_ 7 _).set_ 8 _), by repeat (first | with_reducible exact Below.refl _ _ | with_reducible refine below_at ?_ _ _ | with_reducible refine below_drew' ?_)⟩


theorem hbits : bits BinOp.or IntKind.u64 0 (IntKind.u64.wrap (IntKind.u64.wrap (bits BinOp.and IntKind.u32 1 3))) = 1 := by decide +kernel
theorem len_999 (w : World) : Calls Tryz.prog 80 #[.int .u32 999] w fun e w' => e = .returned (.int .i64 10) ∧ w = w' :=
  (Tryz.bits_Len32 999 w (by omega) (by omega)).mono fun _ _ ⟨h1, h2⟩ => ⟨h1.trans (by rw [show Lib.bitLen (999 : Int).toNat = 10 by decide]; rfl), h2.symm⟩
theorem len_rng (w : World) : Calls Tryz.prog 80 #[.int .u32 8589934] w fun e w' => e = .returned (.int .i64 24) ∧ w = w' :=
  (Tryz.bits_Len32 8589934 w (by omega) (by omega)).mono fun _ _ ⟨h1, h2⟩ => ⟨h1.trans (by rw [show Lib.bitLen (8589934 : Int).toNat = 24 by decide +kernel]; rfl), h2.symm⟩

set_option maxRecDepth 100000 in
theorem e_cum (w : World) (g : Nat) (hB : Blk w g 100 encInit) :
    Calls Tryz.prog 39 #[.pointer (some ⟨g, 0, none⟩), .int .u32 194, .int .u32 195, .int .u32 250] w fun e w' => e = .returned (.tuple #[]) ∧ Blk w' g 100 encCum ∧ Below g w w' := by
  obtain ⟨c0, c1, c2, c3, c4, c5, c6, c7, c8⟩ := hB.nine
  have f := hB.frozen
  go_enter Tryz.func39, Tryz.ntmps39
  go_wp2
  go_region
  all_goals go_wp2
  refine wp_loop_rounds 1 ?_
  rw [rounds_succ]
  go_wp2
  go_end0
  go_wp2
  go_end0
  exact ⟨rfl, by simpa [encInit, encCum] using ((hB.set_ 5 _).set_ 4 _).drew, by repeat (first | with_reducible exact Below.refl _ _ | with_reducible refine below_at ?_ _ _ | with_reducible refine below_drew' ?_)⟩

set_option maxRecDepth 100000 in
theorem e_raw (w : World) (g : Nat) (hB : Blk w g 100 encCum) :
    Calls Tryz.prog 44 #[.pointer (some ⟨g, 0, none⟩), .int .u64 2, .int .u32 1] w fun e w' => e = .returned (.tuple #[]) ∧ Blk w' g 100 encUni ∧ Below g w w' := by
  obtain ⟨c0, c1, c2, c3, c4, c5, c6, c7, c8⟩ := hB.nine
  have f := hB.frozen
  go_enter Tryz.func44, Tryz.ntmps44
  go_wp2
  go_region
  all_goals go_wp2
  refine wp_loop_rounds 1 ?_
  rw [rounds_succ]
  go_wp2
  go_end0
  exact ⟨rfl, by simpa [encCum, encUni, hbits] using (((hB.set_ 2 _).set_ 3 _).set_ 8 _).drew, by repeat (first | with_reducible exact Below.refl _ _ | with_reducible refine below_at ?_ _ _ | with_reducible refine below_drew' ?_)⟩

set_option maxRecDepth 100000 in
theorem e_uniform (w : World) (g : Nat) (hB : Blk w g 100 encInit) :
    Calls Tryz.prog 43 #[.pointer (some ⟨g, 0, none⟩), .int .u32 1000, .int .u32 777] w fun e w' => e = .returned (.tuple #[]) ∧ Blk w' g 100 encUni ∧ Below g w w' := by
  go_enter Tryz.func43, Tryz.ntmps43
  go_wp2_with (go_at_call 80; refine (len_999 _).mono ?_; rintro e w' ⟨rfl, rfl⟩)
  refine (e_cum w g hB).mono ?_
  rintro e w1 ⟨rfl, h1, b1⟩
  go_wp2_with (go_at_call 81; go_in)
  refine (e_raw w1 g h1).mono ?_
  rintro e w2 ⟨rfl, h2, b2⟩
  go_wp2
  go_end0
  exact ⟨rfl, h2, b1.trans b2⟩

theorem e_range (w : World) (g : Nat) (hB : Blk w g 100 encUni) :
    Calls Tryz.prog 46 #[.pointer (some ⟨g, 0, none⟩)] w fun e w' => e = .returned (.int .u32 8589934) ∧ w = w' := by
  obtain ⟨c0, c1, c2, c3, c4, c5, c6, c7, c8⟩ := hB.nine
  go_enter Tryz.func46, Tryz.ntmps46
  go_wp2
  go_ret
  exact ⟨rfl, rfl⟩
theorem e_tell (w : World) (g : Nat) (hB : Blk w g 100 encUni) :
    Calls Tryz.prog 47 #[.pointer (some ⟨g, 0, none⟩)] w fun e w' => e = .returned (.int .u64 11) ∧ w = w' := by
  obtain ⟨c0, c1, c2, c3, c4, c5, c6, c7, c8⟩ := hB.nine
  go_enter Tryz.func47, Tryz.ntmps47
  go_wp2_with (go_at_call 80; refine (len_rng _).mono ?_; rintro e w' ⟨rfl, rfl⟩)
  go_ret
  exact ⟨rfl, rfl⟩
set_option maxRecDepth 100000 in
theorem e_frac (w : World) (g : Nat) (hB : Blk w g 100 encUni) :
    Calls Tryz.prog 48 #[.pointer (some ⟨g, 0, none⟩)] w fun e w' => e = .returned (.int .u64 88) ∧ w = w' := by
  obtain ⟨c0, c1, c2, c3, c4, c5, c6, c7, c8⟩ := hB.nine
  go_enter Tryz.func48, Tryz.ntmps48
  go_wp2_with (go_at_call 80; refine (len_rng _).mono ?_; rintro e w' ⟨rfl, rfl⟩)
  refine wp_loop_rounds 4 ?_
  repeat any_goals (rw [rounds_succ]; go_wp2)
  go_ret
  exact ⟨rfl, rfl⟩
end Go.Proofs.YtojdfjohmicopaaGreatDoor
namespace Go.Proofs.YtojdfjohmicopaaGreatDoor
open Go Go.RowKit Go.Proofs.YtojdfjohmicopaaGreatDoorW.PrintWords

theorem info_u8 : (Tryz.prog.info? 5).map (fun i => (i.zero, i.size, i.bytes)) = some (some (.int .u8 0), 1, 1) := by kernel_rfl

set_option maxRecDepth 100000 in
theorem e_carry1 (w : World) (g : Nat) (hB : Blk w g 100 (encAt nilS (-1))) :
    Calls Tryz.prog 84 #[.pointer (some ⟨g, 0, none⟩), .int .i64 199] w fun e w' => e = .returned (.tuple #[]) ∧ Blk w' g 100 (encAt nilS 199) ∧ Below g w w' := by
  obtain ⟨c0, c1, c2, c3, c4, c5, c6, c7, c8⟩ := hB.nine
  have f := hB.frozen
  have hb1 : bits BinOp.and IntKind.i64 199 255 = 199 := by decide +kernel
  go_enter Tryz.func84, Tryz.ntmps84
  go_wp2
  refine bodyPost_ret (results_none rfl _ _ _) rfl ?_
  exact ⟨rfl, by simpa [encAt, hb1] using (hB.set_ 6 _), by repeat (first | with_reducible exact Below.refl _ _ | with_reducible refine below_at ?_ _ _ | with_reducible refine below_drew' ?_)⟩

set_option maxRecDepth 100000 in
theorem e_carry2 (w : World) (g : Nat) (v : Value) (xs : List Value) (r : Int) (hr : r = 199 ∨ r = 0) (hl : xs.length ≤ 1000) (hB : Blk w g 100 (encAt v r)) (hown : w.ownsRow (g + 1) 5 1 v xs.length xs) :
    Calls Tryz.prog 84 #[.pointer (some ⟨g, 0, none⟩), .int .i64 0] w fun e w' => ∃ v', e = .returned (.tuple #[]) ∧ Blk w' g 100 (encAt v' 0) ∧ w'.ownsRow (g + 1) 5 1 v' (xs.length + 1) (xs ++ [.int .u8 r]) ∧ Below g w w' := by
  have f := hB.frozen
  have hne := own_blk_ne hown hB (by decide)
  have hsz := hB.lt
  have hb0 : bits BinOp.and IntKind.i64 0 255 = 0 := by decide +kernel
  rcases hr with rfl | rfl
  all_goals
    obtain ⟨c0, c1, c2, c3, c4, c5, c6, c7, c8⟩ := hB.nine
    go_enter Tryz.func84, Tryz.ntmps84
    go_wp2
  · go_region_law (refine step_append_cells (w0 := w) (W := w.drew) (g + 1) (by simp [Region.wanted]) (.tmp 19) (.tmp 27) 33 5 (.int .u8 0) 1 1 rfl Tryz.underlying33 info_u8 rfl (by omega) (by omega) v xs.length xs [.int .u8 199] (by simp [Act.eval, Act.put]) (by simp [Act.eval, Act.put]) rfl (by simp [Value.oneCell']) hown (below_drew' (Below.refl _ _)) (by show g + 1 ≤ w.heap.size; omega) (by omega) ?_; intro v1 w1 hown1 hb1 hg1 hat1; obtain ⟨A1, k1, rfl⟩ := own_slice hown1; have hB1 := (hB.drew).grown hg1 (Ne.symm hne); obtain ⟨d0, d1, d2, d3, d4, d5, d6, d7, d8⟩ := hB1.nine; have f1 := hB1.frozen)
    all_goals
      go_wp2
      have hn1 := own_blk_ne hown1 hB1 (by decide)
      refine bodyPost_ret (results_none rfl _ _ _) rfl ?_
      exact ⟨_, rfl, by simpa [encAt, hb0] using ((hB1.set_ 0 _).set_ 6 _), own_set (own_set hown1 _ hn1 _) _ hn1 _, below_at (below_at (hb1.mono (by omega)) _ _) _ _⟩
  · go_region_law (refine step_append_cells (w0 := w) (W := w.drew) (g + 1) (by simp [Region.wanted]) (.tmp 19) (.tmp 27) 33 5 (.int .u8 0) 1 1 rfl Tryz.underlying33 info_u8 rfl (by omega) (by omega) v xs.length xs [.int .u8 0] (by simp [Act.eval, Act.put]) (by simp [Act.eval, Act.put]) rfl (by simp [Value.oneCell']) hown (below_drew' (Below.refl _ _)) (by show g + 1 ≤ w.heap.size; omega) (by omega) ?_; intro v1 w1 hown1 hb1 hg1 hat1; obtain ⟨A1, k1, rfl⟩ := own_slice hown1; have hB1 := (hB.drew).grown hg1 (Ne.symm hne); obtain ⟨d0, d1, d2, d3, d4, d5, d6, d7, d8⟩ := hB1.nine; have f1 := hB1.frozen)
    all_goals
      go_wp2
      have hn1 := own_blk_ne hown1 hB1 (by decide)
      refine bodyPost_ret (results_none rfl _ _ _) rfl ?_
      exact ⟨_, rfl, by simpa [encAt, hb0] using ((hB1.set_ 0 _).set_ 6 _), own_set (own_set hown1 _ hn1 _) _ hn1 _, below_at (below_at (hb1.mono (by omega)) _ _) _ _⟩

end Go.Proofs.YtojdfjohmicopaaGreatDoor
namespace Go.Proofs.YtojdfjohmicopaaGreatDoor
open Go Go.RowKit Go.Proofs.YtojdfjohmicopaaGreatDoorW.PrintWords

set_option maxRecDepth 100000 in
theorem e_flush (w : World) (g : Nat) (hB : Blk w g 100 (encAt nilS (-1))) :
    Calls Tryz.prog 83 #[.pointer (some ⟨g, 0, none⟩)] w fun e w' => ∃ v', e = .returned (.int .i64 (-7)) ∧ Blk w' g 100 (encAt v' 0) ∧ w'.ownsRow (g + 1) 5 1 v' 1 [.int .u8 199] ∧ Below g w w' := by
  obtain ⟨c0, c1, c2, c3, c4, c5, c6, c7, c8⟩ := hB.nine
  go_enter Tryz.func83, Tryz.ntmps83
  have a1 : bits BinOp.andNot IntKind.u32 1674835951 8388607 = 1669332992 := by decide +kernel
  have a2 : bits BinOp.andNot IntKind.u32 1670641647 4194303 = 1669332992 := by decide +kernel
  have a3 : bits BinOp.or IntKind.u32 1669332992 8388607 = 1677721599 := by decide +kernel
  go_wp2_with (go_at_call 80; refine (len_rng _).mono ?_; rintro e w' ⟨rfl, rfl⟩)
  go_quiet (fail)
  have a4 : bits BinOp.and IntKind.u32 2147483648 2147483647 = 0 := by decide +kernel
  have a5 : bits BinOp.and IntKind.u32 0 2147483647 = 0 := by decide +kernel
  go_wp2
  refine wp_loop_rounds 3 ?_
  rw [rounds_succ]
  go_wp2_with fail
  refine (e_carry1 _ g (hB.drewN _)).mono ?_
  rintro e w1 ⟨rfl, hB1, b1⟩
  go_wp2_with fail
  rw [rounds_succ]
  go_wp2_with fail
  refine (e_carry2 w1 g nilS [] 199 (.inl rfl) (by simp) hB1 (own_nil _ _ _ _)).mono ?_
  rintro e w2 ⟨v2, rfl, hB2, hown2, b2⟩
  go_wp2_with fail
  rw [rounds_succ]
  go_wp2_with fail
  go_ret
  exact ⟨v2, rfl, hB2, by simpa using hown2, (below_drewN' (Below.refl _ _) _).trans (b1.trans b2)⟩

theorem e_bool (w : World) : Calls Tryz.prog 85 #[.bool false] w fun e w' => e = .returned (.int .i64 0) ∧ w' = w := by
  go_enter Tryz.func85, Tryz.ntmps85
  go_wp2
  go_ret
  exact ⟨rfl, rfl⟩

set_option maxRecDepth 100000 in
theorem e_should (w : World) (g : Nat) (A : Option Addr) (c : Nat) (hB : Blk w g 100 (encAt (.slice A 2 c) 0)) :
    Calls Tryz.prog 86 #[.pointer (some ⟨g, 0, none⟩), .int .u64 7] w fun e w' => e = .returned (.bool false) ∧ w' = w := by
  obtain ⟨c0, c1, c2, c3, c4, c5, c6, c7, c8⟩ := hB.nine
  go_enter Tryz.func86, Tryz.ntmps86
  go_wp2
  go_ret
  exact ⟨rfl, rfl⟩

set_option maxRecDepth 100000 in
set_option maxHeartbeats 2000000 in
theorem e_done (w : World) (g : Nat) (hB : Blk w g 100 (encAt nilS (-1))) :
    Calls Tryz.prog 49 #[.pointer (some ⟨g, 0, none⟩)] w fun e w' => ∃ b, e = .returned (.slice (some ⟨b, 0, none⟩) 2 2) ∧ Blk w' b 5 #[.int .u8 199, .int .u8 1] ∧ Below g w w' := by
  go_enter Tryz.func49, Tryz.ntmps49
  go_wp2_with fail
  refine (e_flush _ g hB).mono ?_
  rintro e w1 ⟨v1, rfl, hB1, hown1, b1⟩
  obtain ⟨c0, c1, c2, c3, c4, c5, c6, c7, c8⟩ := hB1.nine
  go_wp2_with fail
  refine (e_carry2 w1 g v1 _ 0 (.inr rfl) (by simp) hB1 hown1).mono ?_
  rintro e w2 ⟨v2, rfl, hB2, hown2, b2⟩
  obtain ⟨gb, k, rfl, hgb, hlt⟩ := hown2.form (by simp)
  have hcs := hown2.cells (g := gb) rfl
  clear hown1 c0 c1 c2 c3 c4 c5 c6 c7 c8 hB1 hB
  obtain ⟨c0, c1, c2, c3, c4, c5, c6, c7, c8⟩ := hB2.nine
  have hw2 : IntKind.i64.wrap 2 = 2 := by decide +kernel
  have hmk : ∀ w, (Instr.makeSlice 33 (.int .i64 2) (.int .i64 2)).run Tryz.prog w = .ok (.slice (some ⟨w.heap.size, 0, none⟩) 2 2) (w.alloc (.cells #[.int .u8 0, .int .u8 0] 5)) := fun _ => by kernel_rfl
  have hcs' := Lib.hid hcs
  clear hcs
  go_wp2_with fail
  refine wp_region_still_tail 16 (by kernel_rfl) (by kernel_rfl) ?_
  simp only [List.take_succ_cons, List.take_zero, List.drop_succ_cons, List.drop_zero]
  repeat (first | still_call (e_should _ g (some ⟨gb, 0, none⟩) k hB2.drew) | still_call (e_bool _) | still_step)
  refine wpStill_nil ?_
  change wpList _ _ _ _ _ w2.drew
  have hnew : (w2.alloc (.cells #[.int .u8 0, .int .u8 0] 5)).drew.heap[w2.heap.size]? = some (.cells [Value.int .u8 0, Value.int .u8 0].toArray 5 (0, 0)) := Blk.new w2 5 _
  have Hnew := Lib.hid hnew
  clear hnew
  go_upto_region 8 with (fail)
  have hg2 : g < w2.heap.size := hB2.lt
  apply wp_region_lit
  iterate 15 go_step
  refine wpList_copy_splice rfl (.tmp 47) (.tmp 51) 33 33 rfl 5 Tryz.underlying33 (by kernel_rfl) (some ⟨w2.heap.size, 0, none⟩) (some ⟨gb, 0, none⟩) 2 2 2 k ?hd ?hs w2.heap.size 0 [.int .u8 0, .int .u8 0] 5 Hnew.out [.int .u8 199, .int .u8 0] rfl ?c2 (by simp) (by simp [Value.oneCell']) w2.heap.size w2 ?c3 (Nat.le_refl _) ?_
  case hd => simp [Act.eval]
  case hs => simp [Act.eval]
  case c2 =>
    refine fun _ => ⟨rfl, _, rfl, fun j u hu => ?_⟩
    have := hcs'.out j u hu
    rw [show (⟨gb, 0, none⟩ : Addr).add j = ⟨gb, j, none⟩ from add_plain gb j] at this ⊢
    exact (World.cell?_alloc_lt w2 _ ⟨gb, j, none⟩ hlt).trans this
  case c3 => exact below_drew' ((Below.refl _ _).alloc (Nat.le_refl _) _)
  intro w3 H3 b3
  have hB3 : Blk w3 g 100 _ := hB2.below b3 (Nat.lt_trans (Nat.lt_of_succ_le hgb) hlt)
  have hN3 : Blk w3 w2.heap.size 5 #[.int .u8 199, .int .u8 0] := H3.out
  clear c0 c1 c2 c3 c4 c5 c6 c7 c8
  obtain ⟨c0, c1, c2, c3, c4, c5, c6, c7, c8⟩ := hB3.nine
  have n0 : w3.cell? ⟨w2.heap.size, 0, none⟩ = some (.int .u8 199) := by simpa using hN3.cell 0
  have n1 : w3.cell? ⟨w2.heap.size, 1, none⟩ = some (.int .u8 0) := by simpa using hN3.cell 1
  have nf := hN3.frozen
  have a1 : bits BinOp.and IntKind.u64 1 3 = 1 := by decide +kernel
  have a2 : bits BinOp.or IntKind.u8 0 1 = 1 := by decide +kernel
  have hmask : ∀ W, Calls Tryz.prog 81 #[.int .u64 2] W fun e W' => e = .returned (.int .u32 3) ∧ W' = W := fun W => by
    go_enter Tryz.func81, Tryz.ntmps81
    go_wp2
    go_ret
    exact ⟨rfl, rfl⟩
  have Hmask := Lib.hid hmask
  clear hmask
  go_wp2_with fail
  refine wp_loop_rounds 1 ?_
  rw [rounds_succ]
  go_wp2_with fail
  go_quiet ((go_at_call 81; exact Calls.quiet_of_same (Hmask.out _)))
  go_wp2_with fail
  refine (e_should _ g (some ⟨gb, 0, none⟩) k (hB3.drewN _)).mono ?_
  rintro e w4 ⟨rfl, rfl⟩
  go_wp2_with fail
  go_ret
  refine ⟨w2.heap.size, rfl, by simpa using (hN3.drewN _).set_ 1 (.int .u8 1), ?_⟩
  exact b1.trans (b2.trans ((below_drewN' (b3.mono (Nat.le_of_lt hg2)) _).setCell (Nat.le_of_lt hg2) _))
end Go.Proofs.YtojdfjohmicopaaGreatDoor
namespace Go.Proofs.YtojdfjohmicopaaGreatDoor
open Go Go.RowKit Go.Proofs.YtojdfjohmicopaaGreatDoorW.PrintWords

theorem enc_idle (p q r : Addr) (w : World) :
    CallsD Tryz.prog 37 #[.pointer (some p), .pointer (some q), .pointer (some r)] .returning w fun e u' w' => e = .returned (.tuple #[]) ∧ u' = .returning ∧ w' = w := by
  refine callsD_of_wpS Tryz.func37 rfl fun c₀ cs hu => ?_
  apply wpS_seq
  apply wpS_region
  simp [wpOpsS, go_sem, recoverD, hu, Tryz.ntmps37, Exit.thenS]
  refine wpS_cond (t := false) (by simp [Act.eval, Array.replicate]) ?_
  simp only [Bool.false_eq_true, if_false]
  refine wpS_of_wp (wp_skip ?_)
  cases c₀
  simp_all [bodyPostS, results, Tryz.results37]

theorem conv_two (w : World) (b : Nat) (h : Blk w b 5 #[.int .u8 199, .int .u8 1]) : (convert 33 9 (.slice (some ⟨b, 0, none⟩) 2 2)).run Tryz.prog w = .ok (.string ⟨#[199, 1]⟩) w :=
  run_convert_bytes_arg w 33 5 Tryz.underlying33 Tryz.underlying5 b 0 2 2 [199, 1] rfl (fun i hi => by
    have := h.cell i
    rw [Nat.zero_add, this]
    match i, hi with
    | 0, _ => rfl
    | 1, _ => rfl) 9 Tryz.underlying9
theorem info_seen : (Tryz.prog.info? 83).map (fun i => (i.zero, i.size, i.bytes)) = some (some (.agg #[.int .i64 0, .bool false, .int .u32 0, .int .u32 0, .int .u32 0, .int .i64 0]), 6, 32) := by kernel_rfl

set_option maxRecDepth 100000 in
set_option maxHeartbeats 4000000 in
theorem enc_any (w : World) (b c : Nat) (hb : b < w.heap.size)
    (o0 : w.cell? ⟨b, 0, none⟩ = some (.int .i64 3)) (o1 : w.cell? ⟨b, 1, none⟩ = some (.int .u32 1000)) (o2 : w.cell? ⟨b, 2, none⟩ = some (.int .u32 777))
    (o3 : w.cell? ⟨b, 3, none⟩ = some (.int .u32 0)) (o4 : w.cell? ⟨b, 4, none⟩ = some (.int .i64 0)) (o5 : w.cell? ⟨b, 5, none⟩ = some nilS) :
    Calls Tryz.prog 25 #[.slice (some ⟨b, 0, none⟩) 1 c] w fun e w' => (∃ v, e = .returned (.tuple #[.string ⟨#[199, 1]⟩, v, .int .i64 0])) ∧ Below w.heap.size w w' := by
  obtain ⟨i0, hi0, hz0, hz1, hz2⟩ := info_parts info_seen
  have hmf : ∀ (fn : Fn) (first cap : Array Value) (w : World), (Instr.makeFunc fn first cap).run Tryz.prog w = .ok (.func fn first cap) w := fun _ _ _ _ => rfl
  go_enter_defers Tryz.func25, Tryz.ntmps25
  go_wp2_with fail
  refine (e_init _ (w.heap.size + 1 + 1 + 1) (Blk.new' (by simp))).mono ?_
  rintro e w1 ⟨rfl, hB1, b1⟩
  have hsz1 : w.heap.size + 1 + 1 + 1 + 1 ≤ w1.heap.size := by have := b1.size; simpa using this
  have bw1 : Below w.heap.size w w1 := ((((((Below.refl _ _).alloc (Nat.le_refl _) _).alloc (by simp) _).alloc (by simp; omega) _).alloc (by simp; omega) _).trans (b1.mono (by omega)))
  have R0 : Blk w1 w.heap.size 9 #[.string ⟨#[]⟩] := Blk.below ((((Blk.new' rfl).alloc _).alloc _).alloc _) b1 (by omega)
  have R1 : Blk w1 (w.heap.size + 1) 77 #[nilS] := Blk.below (((Blk.new' (by simp)).alloc _).alloc _) b1 (by omega)
  have R2 : Blk w1 (w.heap.size + 1 + 1) 3 #[.int .i64 0] := Blk.below ((Blk.new' (by simp)).alloc _) b1 (by omega)
  have r0 := R0.one; have r1 := R1.one; have r2 := R2.one
  have f0 := R0.frozen 0; have f1 := R1.frozen 0; have f2 := R2.frozen 0
  replace o0 := (bw1.cell (p := ⟨b, 0, none⟩) hb).trans o0
  replace o1 := (bw1.cell (p := ⟨b, 1, none⟩) hb).trans o1
  replace o2 := (bw1.cell (p := ⟨b, 2, none⟩) hb).trans o2
  replace o3 := (bw1.cell (p := ⟨b, 3, none⟩) hb).trans o3
  replace o4 := (bw1.cell (p := ⟨b, 4, none⟩) hb).trans o4
  replace o5 := (bw1.cell (p := ⟨b, 5, none⟩) hb).trans o5
  have hb1 : b < w1.heap.size := by omega
  go_wp2_with fail
  refine wp_loop_rounds 2 ?_
  rw [rounds_succ]
  go_wp2_with fail
  refine (e_uniform _ (w.heap.size + 1 + 1 + 1) (hB1.alloc _)).mono ?_
  rintro e w2 ⟨rfl, hB2, b2⟩
  have hsz2 : w1.heap.size + 1 ≤ w2.heap.size := by have := b2.size; simpa using this
  have bw2 : Below (w.heap.size + 1 + 1 + 1) w1 w2 := ((Below.refl _ _).alloc (by omega) _).trans b2
  replace R0 := R0.below bw2 (by omega); replace R1 := R1.below bw2 (by omega); replace R2 := R2.below bw2 (by omega)
  clear r0 r1 r2 f0 f1 f2 o1 o2 o3 o4 o5 b1 b2 hB1
  have r0 := R0.one; have r1 := R1.one; have r2 := R2.one
  have f0 := R0.frozen 0; have f1 := R1.frozen 0; have f2 := R2.frozen 0
  go_upto_region 21 with (fail)
  have r1a : ∀ o, (w2.alloc o).cell? ⟨w.heap.size + 1, 0, none⟩ = some nilS := fun o => (R1.alloc o).one
  refine wp_region_noPanic ?_
  go_region_law (first | (refine step_append_lies _ (by rfl) (.tmp 67) (.tmp 74) _ (by rfl) w2.heap.size 83 i0 _ 6 32 Tryz.underlying77 hi0 hz0 hz1 hz2 rfl (by omega) nilS 0 [] (by rfl) (World.ownsRow_nil _ _ _ _) ⟨w2.heap.size, 0, none⟩ 1 1 [.int .i64 0, .bool true, .int .u32 8589934, .int .u32 11, .int .u32 88, .int .i64 0] (by rfl) (by rfl) (World.news_of_block (cs := #[.int .i64 0, .bool true, .int .u32 8589934, .int .u32 11, .int .u32 88, .int .i64 0]) (t := 83) (fr := (0, 0)) (heap_alloc_new w2 _)) (by simp [Value.oneCell']) (by omega) (by simp [maxLen]) (by omega) (by simp) (w2.heap.size + 1) (by simp) ?_; intro gg cap w3 hown3 hgrow hat hlt; have hk := ((R1.alloc _).drew).grown hgrow (by simp [Value.ownBlock]); have hk1 := hk.one; have hkf := hk.frozen 0) | (go_simp; go_at_call 46; refine (e_range _ (w.heap.size + 1 + 1 + 1) hB2.drew).mono ?_; rintro e w' ⟨rfl, rfl⟩) | (go_simp; go_at_call 47; refine (e_tell _ (w.heap.size + 1 + 1 + 1) hB2.drew).mono ?_; rintro e w' ⟨rfl, rfl⟩) | (go_simp; go_at_call 48; refine (e_frac _ (w.heap.size + 1 + 1 + 1) hB2.drew).mono ?_; rintro e w' ⟨rfl, rfl⟩))
  all_goals
    refine NoPanic.normal ?_
    have Q0 := ((R0.alloc _).drew).grown hgrow (by simp [Value.ownBlock])
    have Q2 := ((R2.alloc _).drew).grown hgrow (by simp [Value.ownBlock])
    have QE := ((hB2.alloc _).drew).grown hgrow (by simp [Value.ownBlock])
    have K1 : Blk (w3.setCell ⟨w.heap.size + 1, 0, none⟩ (Value.slice (some ⟨gg, 0, none⟩) 1 cap)) (w.heap.size + 1) 77 #[Value.slice (some ⟨gg, 0, none⟩) 1 cap] := by simpa using hk.set_ 0 (Value.slice (some ⟨gg, 0, none⟩) 1 cap)
    have K0 := Q0.far (p := ⟨w.heap.size + 1, 0, none⟩) (by show w.heap.size ≠ w.heap.size + 1; omega) (Value.slice (some ⟨gg, 0, none⟩) 1 cap)
    have K2 := Q2.far (p := ⟨w.heap.size + 1, 0, none⟩) (by show w.heap.size + 1 + 1 ≠ w.heap.size + 1; omega) (Value.slice (some ⟨gg, 0, none⟩) 1 cap)
    have KE := QE.far (p := ⟨w.heap.size + 1, 0, none⟩) (by show w.heap.size + 1 + 1 + 1 ≠ w.heap.size + 1; omega) (Value.slice (some ⟨gg, 0, none⟩) 1 cap)
    have bK : Below w.heap.size w2 (w3.setCell ⟨w.heap.size + 1, 0, none⟩ (Value.slice (some ⟨gg, 0, none⟩) 1 cap)) := ((below_drew' ((Below.refl _ _).alloc (by omega) _)).grown hgrow (by simp; omega) (by simp [Value.ownBlock])).setCell (by simp) _
    generalize w3.setCell ⟨w.heap.size + 1, 0, none⟩ (Value.slice (some ⟨gg, 0, none⟩) 1 cap) = w4 at K0 K1 K2 KE bK ⊢
    clear hk hk1 hkf r1a r0 r1 r2 f0 f1 f2 hown3
    have r0 := K0.one; have r1 := K1.one; have r2 := K2.one
    have f0 := K0.frozen 0; have f1 := K1.frozen 0; have f2 := K2.frozen 0
    go_wp2_with fail
    rw [rounds_succ]
    go_wp2_with fail
    refine wp_region_noPanic ?_
    go_region_law (go_simp; go_at_call 49; refine (e_done _ (w.heap.size + 1 + 1 + 1) KE.drew).mono ?_; rintro e w5 ⟨bb, rfl, hD, b5⟩; have hcv := conv_two w5 bb hD; have P0 := (K0.drew).below b5 (by omega); have P1 := (K1.drew).below b5 (by omega); have P2 := (K2.drew).below b5 (by omega); have p0 := P0.one; have p1 := P1.one; have p2 := P2.one; have q0 := P0.frozen 0; have q1 := P1.frozen 0; have q2 := P2.frozen 0)
    all_goals
      refine NoPanic.normal ?_
      go_wp2_with fail
  all_goals
    refine leaves_cons (f := 37) (args := #[.pointer (some ⟨w.heap.size, 0, none⟩), .pointer (some ⟨w.heap.size + 1, 0, none⟩), .pointer (some ⟨w.heap.size + 1 + 1, 0, none⟩)]) (by simp) (by simp [go_sem]) ?_
    refine (enc_idle _ _ _ _).mono ?_
    rintro e u' w'' ⟨rfl, rfl, rfl⟩
    have bF : Below w.heap.size w w5 := bw1.trans ((bw2.mono (by omega)).trans (bK.trans ((below_drew' (Below.refl _ _)).trans (b5.mono (by omega)))))
    have bG := ((bF.setCell (p := ⟨w.heap.size, 0, none⟩) (Nat.le_refl _) (Value.string { data := #[199, 1] })).setCell (p := ⟨w.heap.size + 1, 0, none⟩) (by simp) (Value.slice (some ⟨gg, 0, none⟩) 1 cap)).setCell (p := ⟨w.heap.size + 1 + 1, 0, none⟩) (by simp; omega) (Value.int IntKind.i64 0)
    simp [Leaves, settle, results, Tryz.results25, go_sem, p0, p1, p2]
    exact bG
end Go.Proofs.YtojdfjohmicopaaGreatDoor
