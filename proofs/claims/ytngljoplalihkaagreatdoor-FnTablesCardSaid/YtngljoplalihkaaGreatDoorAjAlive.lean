/- A contract of laws.alive: it returns true, and nothing that was there has turned. No condition. -/
import Derived.Test.YtngljoplalihkaaGreatDoorAiDecode
namespace Go.Proofs.YtngljoplalihkaaGreatDoor
open Go Go.RowKit Go.Proofs.YtngljoplalihkaaGreatDoorW.PrintWords

theorem info_op : (Tryz.prog.info? 84).map (fun i => (i.zero, i.size, i.bytes)) = some (some (.agg #[.int .i64 0, .int .u32 0, .int .u32 0, .int .u32 0, .int .i64 0, nilS]), 6, 56) := by kernel_rfl

set_option maxRecDepth 100000 in
set_option maxHeartbeats 1000000 in
theorem ops_any (w : World) (b c : Nat)
    (o0 : w.cell? ⟨b, 0, none⟩ = some (.int .i64 3)) (o1 : w.cell? ⟨b, 1, none⟩ = some (.int .u32 1000)) (o2 : w.cell? ⟨b, 2, none⟩ = some (.int .u32 777))
    (o3 : w.cell? ⟨b, 3, none⟩ = some (.int .u32 0)) (o4 : w.cell? ⟨b, 4, none⟩ = some (.int .i64 0)) (o5 : w.cell? ⟨b, 5, none⟩ = some nilS) :
    Calls Tryz.prog 12 #[.slice (some ⟨b, 0, none⟩) 1 c] w fun e w' => (∃ q k, e = .returned (.slice (some ⟨q, 0, none⟩) 1 k) ∧ q < w'.heap.size ∧ w.heap.size ≤ q ∧ w'.cell? ⟨q, 0, none⟩ = some (.int .i64 3) ∧ w'.cell? ⟨q, 1, none⟩ = some (.int .u32 1000) ∧ w'.cell? ⟨q, 2, none⟩ = some (.int .u32 777) ∧ w'.cell? ⟨q, 3, none⟩ = some (.int .u32 0) ∧ w'.cell? ⟨q, 4, none⟩ = some (.int .i64 0) ∧ w'.cell? ⟨q, 5, none⟩ = some nilS) ∧ Below w.heap.size w w' := by
  obtain ⟨i0, hi0, hz0, hz1, hz2⟩ := info_parts info_op
  go_enter Tryz.func12, Tryz.ntmps12
  go_wp2_with fail
  refine wp_loop_rounds 2 ?_
  rw [rounds_succ]
  go_wp2_with (at_builtin; refine wpList_append_own_at ((w.alloc (.cells #[.int .i64 3, .int .u32 1000, .int .u32 777, .int .u32 0, .int .i64 0, nilS] 42)).alloc (.cells #[.int .i64 3, .int .u32 1000, .int .u32 777, .int .u32 0, .int .i64 0, nilS] 84)) rfl (.tmp 12) (.tmp 14) 37 rfl w.heap.size 84 i0 _ 6 56 Tryz.underlying37 hi0 hz0 hz1 hz2 rfl (by omega) nilS 0 [] rfl (World.ownsRow_nil _ _ _ _) ⟨w.heap.size + 1, 0, none⟩ 1 1 [.int .i64 3, .int .u32 1000, .int .u32 777, .int .u32 0, .int .i64 0, nilS] rfl rfl (World.news_of_block (cs := #[.int .i64 3, .int .u32 1000, .int .u32 777, .int .u32 0, .int .i64 0, nilS]) (t := 84) (fr := (0, 0)) (Blk.new' (by simp))) (by simp [Value.oneCell']) (by simp [maxLen]) (by omega) (by simp; omega) ?_; intro v7 w7 hown7 hg7 _ hat7; obtain ⟨q7, k7, rfl, hq7, hl7⟩ := hown7.form (by omega))
  rw [rounds_succ]
  go_wp2_with fail
  go_ret
  refine ⟨⟨q7, k7, rfl, hl7, hq7, by simpa using hown7.cellAt 0 (by omega), by simpa using hown7.cellAt 1 (by omega), by simpa using hown7.cellAt 2 (by omega), by simpa using hown7.cellAt 3 (by omega), by simpa using hown7.cellAt 4 (by omega), by simpa using hown7.cellAt 5 (by omega)⟩, ?_⟩
  exact Below.grown (((Below.refl _ _).alloc (Nat.le_refl _) _).alloc (by simp) _) hg7 (by simp; omega) (by simp [Value.ownBlock])

set_option maxRecDepth 100000 in
set_option maxHeartbeats 1000000 in
theorem alive_any (w : World) : Calls Tryz.prog 7 #[] w fun e w' => e = .returned (.bool true) ∧ Below w.heap.size w w' := by
  go_enter Tryz.func7, Tryz.ntmps7
  go_wp2_with fail
  obtain ⟨a0, a1, a2, a3, a4, a5⟩ := (Blk.new w 42 #[.int .i64 3, .int .u32 1000, .int .u32 777, .int .u32 0, .int .i64 0, nilS]).six
  refine (ops_any _ w.heap.size 1 a0 a1 a2 a3 a4 a5).mono ?_
  rintro e w1 ⟨⟨q, k, rfl, hq, hq2, p0, p1, p2, p3, p4, p5⟩, b1⟩
  clear a0 a1 a2 a3 a4 a5
  replace b1 : Below w.heap.size w w1 := ((Below.refl _ _).alloc (Nat.le_refl _) _).trans (b1.mono (by simp))
  go_wp2_with fail
  refine (enc_any w1 q k hq p0 p1 p2 p3 p4 p5).mono ?_
  rintro e w2 ⟨⟨v, rfl⟩, b2⟩
  replace p0 := (b2.cell (p := ⟨q, 0, none⟩) hq).trans p0
  replace p1 := (b2.cell (p := ⟨q, 1, none⟩) hq).trans p1
  replace p2 := (b2.cell (p := ⟨q, 2, none⟩) hq).trans p2
  replace p3 := (b2.cell (p := ⟨q, 3, none⟩) hq).trans p3
  replace p4 := (b2.cell (p := ⟨q, 4, none⟩) hq).trans p4
  replace p5 := (b2.cell (p := ⟨q, 5, none⟩) hq).trans p5
  replace hq : q < w2.heap.size := Nat.lt_of_lt_of_le hq b2.size
  have hs1 := b1.size
  replace b2 : Below w.heap.size w w2 := b1.trans (b2.mono hs1)
  clear b1 hs1
  go_wp2_with fail
  refine (dec_any w2 q k hq p0 p1 p2 p3 p4 p5).mono ?_
  rintro e w3 ⟨⟨q3, k3, rfl, c0, c1⟩, b3⟩
  have b4 : Below w.heap.size w w3 := b2.trans (b3.mono b2.size)
  clear p0 p1 p2 p3 p4 p5
  go_wp2_with fail
  go_ret
  exact ⟨rfl, b4⟩
end Go.Proofs.YtngljoplalihkaaGreatDoor
