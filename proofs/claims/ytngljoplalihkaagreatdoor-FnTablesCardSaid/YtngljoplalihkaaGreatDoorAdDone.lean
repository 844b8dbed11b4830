/- Contracts of the range encoder's end at the state that laws.alive comes to. No condition. -/
import Derived.Test.YtngljoplalihkaaGreatDoorAcDone
import Derived.StillTailTactics
import Derived.Deep.Cut
import Derived.Deep.DeepMust
import Derived.Laws.CopyOwn
namespace Go.Proofs.YtngljoplalihkaaGreatDoor
open Go Go.RowKit Go.Proofs.YtngljoplalihkaaGreatDoorW.PrintWords

set_option maxRecDepth 100000 in
theorem e_flush (w : World) (g : Nat) (hB : Blk w g 86 (encAt nilS (-1))) :
    Calls Tryz.prog 168 #[.pointer (some ⟨g, 0, none⟩)] w fun e w' => ∃ v', e = .returned (.int .i64 (-7)) ∧ Blk w' g 86 (encAt v' 0) ∧ w'.ownsRow (g + 1) 5 1 v' 1 [.int .u8 199] ∧ Below g w w' := by
  obtain ⟨c0, c1, c2, c3, c4, c5, c6, c7, c8⟩ := hB.nine
  go_enter Tryz.func168, Tryz.ntmps168
  have a1 : bits BinOp.andNot IntKind.u32 1674835951 8388607 = 1669332992 := by decide +kernel
  have a2 : bits BinOp.andNot IntKind.u32 1670641647 4194303 = 1669332992 := by decide +kernel
  have a3 : bits BinOp.or IntKind.u32 1669332992 8388607 = 1677721599 := by decide +kernel
  go_wp2_with (go_at_call 165; refine (len_rng _).mono ?_; rintro e w' ⟨rfl, rfl⟩)
  go_quiet (fail)
  have a4 : bits BinOp.and IntKind.u32 2147483648 2147483647 = 0 := by decide +kernel
  have a5 : bits BinOp.and IntKind.u32 0 2147483647 = 0 := by decide +kernel
  go_wp2
  refine wp_loop_rounds 3 ?_
  rw [rounds_succ]
  go_wp2_with fail
  refine (e_carry1 _ g (hB.drewN _)).mono ?_
  rintro e w1 ⟨rfl, hB1, b1⟩
  go_wp2_with fail
  rw [rounds_succ]
  go_wp2_with fail
  refine (e_carry2 w1 g nilS [] 199 (.inl rfl) (by simp) hB1 (own_nil _ _ _ _)).mono ?_
  rintro e w2 ⟨v2, rfl, hB2, hown2, b2⟩
  go_wp2_with fail
  rw [rounds_succ]
  go_wp2_with fail
  go_ret
  exact ⟨v2, rfl, hB2, by simpa using hown2, (below_drewN' (Below.refl _ _) _).trans (b1.trans b2)⟩

theorem e_bool (w : World) : Calls Tryz.prog 170 #[.bool false] w fun e w' => e = .returned (.int .i64 0) ∧ w' = w := by
  go_enter Tryz.func170, Tryz.ntmps170
  go_wp2
  go_ret
  exact ⟨rfl, rfl⟩

set_option maxRecDepth 100000 in
theorem e_should (w : World) (g : Nat) (A : Option Addr) (c : Nat) (hB : Blk w g 86 (encAt (.slice A 2 c) 0)) :
    Calls Tryz.prog 171 #[.pointer (some ⟨g, 0, none⟩), .int .u64 7] w fun e w' => e = .returned (.bool false) ∧ w' = w := by
  obtain ⟨c0, c1, c2, c3, c4, c5, c6, c7, c8⟩ := hB.nine
  go_enter Tryz.func171, Tryz.ntmps171
  go_wp2
  go_ret
  exact ⟨rfl, rfl⟩

set_option maxRecDepth 100000 in
set_option maxHeartbeats 2000000 in
theorem e_done (w : World) (g : Nat) (hB : Blk w g 86 (encAt nilS (-1))) :
    Calls Tryz.prog 145 #[.pointer (some ⟨g, 0, none⟩)] w fun e w' => ∃ b, e = .returned (.slice (some ⟨b, 0, none⟩) 2 2) ∧ Blk w' b 5 #[.int .u8 199, .int .u8 1] ∧ Below g w w' := by
  go_enter Tryz.func145, Tryz.ntmps145
  go_wp2_with fail
  refine (e_flush _ g hB).mono ?_
  rintro e w1 ⟨v1, rfl, hB1, hown1, b1⟩
  obtain ⟨c0, c1, c2, c3, c4, c5, c6, c7, c8⟩ := hB1.nine
  go_wp2_with fail
  refine (e_carry2 w1 g v1 _ 0 (.inr rfl) (by simp) hB1 hown1).mono ?_
  rintro e w2 ⟨v2, rfl, hB2, hown2, b2⟩
  obtain ⟨gb, k, rfl, hgb, hlt⟩ := hown2.form (by simp)
  have hcs := hown2.cells (g := gb) rfl
  clear hown1 c0 c1 c2 c3 c4 c5 c6 c7 c8 hB1 hB
  obtain ⟨c0, c1, c2, c3, c4, c5, c6, c7, c8⟩ := hB2.nine
  have hw2 : IntKind.i64.wrap 2 = 2 := by decide +kernel
  have hmk : ∀ w, (Instr.makeSlice 65 (.int .i64 2) (.int .i64 2)).run Tryz.prog w = .ok (.slice (some ⟨w.heap.size, 0, none⟩) 2 2) (w.alloc (.cells #[.int .u8 0, .int .u8 0] 5)) := fun _ => by kernel_rfl
  have hcs' := Lib.hid hcs
  clear hcs
  go_wp2_with fail
  refine wp_region_still_tail 16 (by kernel_rfl) (by kernel_rfl) ?_
  simp only [List.take_succ_cons, List.take_zero, List.drop_succ_cons, List.drop_zero]
  repeat (first | still_call (e_should _ g (some ⟨gb, 0, none⟩) k hB2.drew) | still_call (e_bool _) | still_step)
  refine wpStill_nil ?_
  change wpList _ _ _ _ _ w2.drew
  have hnew : (w2.alloc (.cells #[.int .u8 0, .int .u8 0] 5)).drew.heap[w2.heap.size]? = some (.cells [Value.int .u8 0, Value.int .u8 0].toArray 5 (0, 0)) := Blk.new w2 5 _
  have Hnew := Lib.hid hnew
  clear hnew
  go_upto_region 8 with (fail)
  have hg2 : g < w2.heap.size := hB2.lt
  apply wp_region_lit
  iterate 15 go_step
  refine wpList_copy_splice rfl (.tmp 47) (.tmp 51) 65 65 rfl 5 Tryz.underlying65 (by kernel_rfl) (some ⟨w2.heap.size, 0, none⟩) (some ⟨gb, 0, none⟩) 2 2 2 k ?hd ?hs w2.heap.size 0 [.int .u8 0, .int .u8 0] 5 Hnew.out [.int .u8 199, .int .u8 0] rfl ?c2 (by simp) (by simp [Value.oneCell']) w2.heap.size w2 ?c3 (Nat.le_refl _) ?_
  case hd => simp [Act.eval]
  case hs => simp [Act.eval]
  case c2 =>
    refine fun _ => ⟨rfl, _, rfl, fun j u hu => ?_⟩
    have := hcs'.out j u hu
    rw [show (⟨gb, 0, none⟩ : Addr).add j = ⟨gb, j, none⟩ from add_plain gb j] at this ⊢
    exact (World.cell?_alloc_lt w2 _ ⟨gb, j, none⟩ hlt).trans this
  case c3 => exact below_drew' ((Below.refl _ _).alloc (Nat.le_refl _) _)
  intro w3 H3 b3
  have hB3 : Blk w3 g 86 _ := hB2.below b3 (Nat.lt_trans (Nat.lt_of_succ_le hgb) hlt)
  have hN3 : Blk w3 w2.heap.size 5 #[.int .u8 199, .int .u8 0] := H3.out
  clear c0 c1 c2 c3 c4 c5 c6 c7 c8
  obtain ⟨c0, c1, c2, c3, c4, c5, c6, c7, c8⟩ := hB3.nine
  have n0 : w3.cell? ⟨w2.heap.size, 0, none⟩ = some (.int .u8 199) := by simpa using hN3.cell 0
  have n1 : w3.cell? ⟨w2.heap.size, 1, none⟩ = some (.int .u8 0) := by simpa using hN3.cell 1
  have nf := hN3.frozen
  have a1 : bits BinOp.and IntKind.u64 1 3 = 1 := by decide +kernel
  have a2 : bits BinOp.or IntKind.u8 0 1 = 1 := by decide +kernel
  have hmask : ∀ W, Calls Tryz.prog 166 #[.int .u64 2] W fun e W' => e = .returned (.int .u32 3) ∧ W' = W := fun W => by
    go_enter Tryz.func166, Tryz.ntmps166
    go_wp2
    go_ret
    exact ⟨rfl, rfl⟩
  have Hmask := Lib.hid hmask
  clear hmask
  go_wp2_with fail
  refine wp_loop_rounds 1 ?_
  rw [rounds_succ]
  go_wp2_with fail
  go_quiet ((go_at_call 166; exact Calls.quiet_of_same (Hmask.out _)))
  go_wp2_with fail
  refine (e_should _ g (some ⟨gb, 0, none⟩) k (hB3.drewN _)).mono ?_
  rintro e w4 ⟨rfl, rfl⟩
  go_wp2_with fail
  go_ret
  refine ⟨w2.heap.size, rfl, by simpa using (hN3.drewN _).set_ 1 (.int .u8 1), ?_⟩
  exact b1.trans (b2.trans ((below_drewN' (b3.mono (Nat.le_of_lt hg2)) _).setCell (Nat.le_of_lt hg2) _))
end Go.Proofs.YtngljoplalihkaaGreatDoor
