/- A contract of impl.Decode at the one operation that laws.alive reads. No condition. -/
import Derived.Test.YtngljoplalihkaaGreatDoorAhDec
import Derived.Test.YtngljoplalihkaaGreatDoorAeEncode
import Derived.Lib.ConvBytes
namespace Go.Proofs.YtngljoplalihkaaGreatDoor
open Go Go.RowKit Go.Proofs.YtngljoplalihkaaGreatDoorW.PrintWords

theorem dec_idle (p q : Addr) (w : World) :
    CallsD Tryz.prog 146 #[.pointer (some p), .pointer (some q)] .returning w fun e u' w' => e = .returned (.tuple #[]) ∧ u' = .returning ∧ w' = w := by
  refine callsD_of_wpS Tryz.func146 rfl fun c₀ cs hu => ?_
  apply wpS_seq
  apply wpS_region
  simp [wpOpsS, go_sem, recoverD, hu, Tryz.ntmps146, Exit.thenS]
  refine wpS_cond (t := false) (by simp [Act.eval, Array.replicate]) ?_
  simp only [Bool.false_eq_true, if_false]
  refine wpS_of_wp (wp_skip ?_)
  cases c₀
  simp_all [bodyPostS, results, Tryz.results146]

theorem Dat.alloc {w : World} {db : Nat} (h : Dat w db) (hlt : db < w.heap.size) (o : Obj) : Dat (w.alloc o) db :=
  ⟨(World.cell?_alloc_lt w o ⟨db, 0, none⟩ hlt).trans h.n0, (World.cell?_alloc_lt w o ⟨db, 1, none⟩ hlt).trans h.n1⟩
theorem conv_str (W : World) : ∃ W' cap, (convert 9 65 (.string ⟨#[199, 1]⟩)).run Tryz.prog W = .ok (.slice (some ⟨W.heap.size, 0, none⟩) 2 cap) W' ∧ Below W.heap.size W W' ∧ W'.heap.size = W.heap.size + 1 ∧ Dat W' W.heap.size := by
  refine ⟨_, _, Go.Lib.run_convert_string_bytes W 9 65 5 ⟨#[199, 1]⟩ Tryz.underlying9 Tryz.underlying65 Tryz.underlying5, ?_, ?_, ?_⟩
  · refine ⟨rfl, rfl, rfl, ?_, fun i hi => ?_⟩
    · rw [Go.Lib.bytesWorld_size]; omega
    · exact Go.Lib.bytesWorld_at_old W 5 _ i hi
  · exact Go.Lib.bytesWorld_size _ _ _
  · exact ⟨Go.Lib.bytesWorld_cell W 5 ⟨#[199, 1]⟩ 0 (by decide), Go.Lib.bytesWorld_cell W 5 ⟨#[199, 1]⟩ 1 (by decide)⟩

set_option maxRecDepth 100000 in
set_option maxHeartbeats 4000000 in
theorem dec_any (w : World) (b c : Nat) (hb : b < w.heap.size)
    (o0 : w.cell? ⟨b, 0, none⟩ = some (.int .i64 3)) (o1 : w.cell? ⟨b, 1, none⟩ = some (.int .u32 1000)) (o2 : w.cell? ⟨b, 2, none⟩ = some (.int .u32 777))
    (o3 : w.cell? ⟨b, 3, none⟩ = some (.int .u32 0)) (o4 : w.cell? ⟨b, 4, none⟩ = some (.int .i64 0)) (o5 : w.cell? ⟨b, 5, none⟩ = some nilS) :
    Calls Tryz.prog 14 #[.string ⟨#[199, 1]⟩, .slice (some ⟨b, 0, none⟩) 1 c] w fun e w' => (∃ q k, e = .returned (.tuple #[.slice (some ⟨q, 0, none⟩) 1 k, .int .i64 0]) ∧ w'.cell? ⟨q, 0, none⟩ = some (.int .i64 777) ∧ w'.cell? ⟨q, 1, none⟩ = some (.bool true)) ∧ Below w.heap.size w w' := by
  obtain ⟨i0, hi0, hz0, hz1, hz2⟩ := info_parts info_seen
  have hmf : ∀ (fn : Fn) (first cap : Array Value) (w : World), (Instr.makeFunc fn first cap).run Tryz.prog w = .ok (.func fn first cap) w := fun _ _ _ _ => rfl
  obtain ⟨W1, cap1, hcv, bW, szW, hD⟩ := conv_str (((w.alloc (.cells #[nilS] 44)).alloc (.cells #[.int .i64 0] 3)).alloc (.cells decZero 96))
  simp only [World.size_alloc] at hcv bW szW hD
  go_enter_defers Tryz.func14, Tryz.ntmps14
  go_wp2_with fail
  have B0 : Blk W1 (w.heap.size + 1 + 1) 96 decZero := by
    have h := (Blk.new' (w := ((w.alloc (.cells #[nilS] 44)).alloc (.cells #[.int .i64 0] 3))) (t := 96) (cs := decZero) (g := w.heap.size + 1 + 1) (by simp))
    exact h.below bW (by omega)
  have R0 : Blk W1 w.heap.size 44 #[nilS] := Blk.below (((Blk.new' rfl).alloc _).alloc _) bW (by omega)
  have R1 : Blk W1 (w.heap.size + 1) 3 #[.int .i64 0] := Blk.below ((Blk.new' (by simp)).alloc _) bW (by omega)
  have bw1 : Below w.heap.size w W1 := (((((Below.refl _ _).alloc (Nat.le_refl _) _).alloc (by simp) _).alloc (by simp; omega) _).trans (bW.mono (by omega)))
  clear hcv bW
  refine (d_init W1 (w.heap.size + 1 + 1) (w.heap.size + 1 + 1 + 1) cap1 B0 hD (by omega)).mono ?_
  rintro e w2 ⟨rfl, hB2, g2⟩
  replace R0 := R0.grown g2 (fun h => by injection h; omega)
  replace R1 := R1.grown g2 (fun h => by injection h; omega)
  replace hD := hD.grown g2 (by omega)
  have hs2 : w.heap.size + 1 + 1 + 1 + 1 ≤ w2.heap.size := by have := g2.size; omega
  have b2 : Below w.heap.size W1 w2 := (Below.refl _ _).grown g2 (by omega) (by simp; omega)
  replace b2 := bw1.trans b2
  clear g2 B0 bw1 szW
  replace o0 := (b2.cell (p := ⟨b, 0, none⟩) hb).trans o0
  replace o1 := (b2.cell (p := ⟨b, 1, none⟩) hb).trans o1
  replace o2 := (b2.cell (p := ⟨b, 2, none⟩) hb).trans o2
  replace o3 := (b2.cell (p := ⟨b, 3, none⟩) hb).trans o3
  replace o4 := (b2.cell (p := ⟨b, 4, none⟩) hb).trans o4
  replace o5 := (b2.cell (p := ⟨b, 5, none⟩) hb).trans o5
  have hb2 : b < w2.heap.size := by omega
  go_wp2_with fail
  refine wp_loop_rounds 2 ?_
  rw [rounds_succ]
  go_wp2_with fail
  have hD2 := (hD.alloc (by omega) (.cells #[.int .i64 3, .int .u32 1000, .int .u32 777, .int .u32 0, .int .i64 0, nilS] 84)).alloc (by simp; omega) (.cells #[.int .i64 0, .bool true, .int .u32 0, .int .u32 0, .int .u32 0, .int .i64 0] 50)
  refine (d_uniform _ (w.heap.size + 1 + 1) (w.heap.size + 1 + 1 + 1) cap1 ((hB2.alloc _).alloc _) hD2 (by omega)).mono ?_
  rintro e w3 ⟨rfl, hB3, g3⟩
  have hs3 : w2.heap.size + 1 + 1 ≤ w3.heap.size := by have := g3.size; simp at this; omega
  have S3 : Blk w3 (w2.heap.size + 1) 50 #[.int .i64 0, .bool true, .int .u32 0, .int .u32 0, .int .u32 0, .int .i64 0] := Blk.grown (Blk.new' (by simp)) g3 (fun h => by injection h; omega)
  have b3 : Below w.heap.size w w3 := b2.trans (Below.grown (((Below.refl _ _).alloc (by omega) _).alloc (by simp; omega) _) g3 (by simp; omega) (by simp; omega))
  replace R0 := ((R0.alloc _).alloc _).grown g3 (fun h => by injection h; omega)
  replace R1 := ((R1.alloc _).alloc _).grown g3 (fun h => by injection h; omega)
  clear o0 o1 o2 o3 o4 o5 hD hD2 hB2 b2 g3
  obtain ⟨s0, s1, s2, s3, s4, s5⟩ := S3.six
  have sf := S3.frozen
  have r0 := R0.one; have r1 := R1.one
  have f0 := R0.frozen 0; have f1 := R1.frozen 0
  go_wp2_with fail
  have S4 : Blk ((w3.setCell ⟨w2.heap.size + 1, 0, none⟩ (.int .i64 777)).setCell ⟨w2.heap.size + 1, 1, none⟩ (.bool true)) (w2.heap.size + 1) 50 #[.int .i64 777, .bool true, .int .u32 0, .int .u32 0, .int .u32 0, .int .i64 0] := by simpa using (S3.set_ 0 (.int .i64 777)).set_ 1 (.bool true)
  have hB4 := (hB3.far (p := ⟨w2.heap.size + 1, 0, none⟩) (by show _ ≠ w2.heap.size + 1; omega) (.int .i64 777)).far (p := ⟨w2.heap.size + 1, 1, none⟩) (by show _ ≠ w2.heap.size + 1; omega) (.bool true)
  have Q0 := (R0.far (p := ⟨w2.heap.size + 1, 0, none⟩) (by show _ ≠ w2.heap.size + 1; omega) (.int .i64 777)).far (p := ⟨w2.heap.size + 1, 1, none⟩) (by show _ ≠ w2.heap.size + 1; omega) (.bool true)
  have Q1 := (R1.far (p := ⟨w2.heap.size + 1, 0, none⟩) (by show _ ≠ w2.heap.size + 1; omega) (.int .i64 777)).far (p := ⟨w2.heap.size + 1, 1, none⟩) (by show _ ≠ w2.heap.size + 1; omega) (.bool true)
  have b4 := (b3.setCell (p := ⟨w2.heap.size + 1, 0, none⟩) (by show _ ≤ w2.heap.size + 1; omega) (.int .i64 777)).setCell (p := ⟨w2.heap.size + 1, 1, none⟩) (by show _ ≤ w2.heap.size + 1; omega) (.bool true)
  have hs4 : w2.heap.size + 1 + 1 ≤ ((w3.setCell ⟨w2.heap.size + 1, 0, none⟩ (.int .i64 777)).setCell ⟨w2.heap.size + 1, 1, none⟩ (.bool true)).heap.size := by simpa [World.setCell] using hs3
  generalize ((w3.setCell ⟨w2.heap.size + 1, 0, none⟩ (.int .i64 777)).setCell ⟨w2.heap.size + 1, 1, none⟩ (.bool true)) = w4 at S4 hB4 Q0 Q1 b4 hs4 ⊢
  clear s0 s1 s2 s3 s4 s5 sf r0 r1 f0 f1 S3 hB3 R0 R1 b3 hs3
  obtain ⟨s0, s1, s2, s3, s4, s5⟩ := S4.six
  have sf := S4.frozen
  have r0 := Q0.one; have r1 := Q1.one
  have f0 := Q0.frozen 0; have f1 := Q1.frozen 0
  refine (d_range _ _ _ _ hB4).mono ?_
  rintro e w5 ⟨rfl, rfl⟩
  go_wp2_with fail
  refine (d_tell _ _ _ _ hB4).mono ?_
  rintro e w5 ⟨rfl, rfl⟩
  go_wp2_with fail
  refine (d_frac _ _ _ _ hB4).mono ?_
  rintro e w5 ⟨rfl, rfl⟩
  go_wp2_with fail
  refine (d_left _ _ _ _ hB4).mono ?_
  rintro e w5 ⟨rfl, n5, rfl⟩
  go_upto_region 30 with (fail)
  have S6 : Blk (((((w4.drewN n5).setCell ⟨w2.heap.size + 1, 2, none⟩ (.int .u32 8589934)).setCell ⟨w2.heap.size + 1, 3, none⟩ (.int .u32 11)).setCell ⟨w2.heap.size + 1, 4, none⟩ (.int .u32 88)).setCell ⟨w2.heap.size + 1, 5, none⟩ (.int .i64 (-2))) (w2.heap.size + 1) 50 #[.int .i64 777, .bool true, .int .u32 8589934, .int .u32 11, .int .u32 88, .int .i64 (-2)] := by simpa using (((((S4.drewN n5).set_ 2 (.int .u32 8589934)).set_ 3 (.int .u32 11)).set_ 4 (.int .u32 88)).set_ 5 (.int .i64 (-2)))
  have P0 := (((((Q0.drewN n5).far (p := ⟨w2.heap.size + 1, 2, none⟩) (by show _ ≠ w2.heap.size + 1; omega) (.int .u32 8589934)).far (p := ⟨w2.heap.size + 1, 3, none⟩) (by show _ ≠ w2.heap.size + 1; omega) (.int .u32 11)).far (p := ⟨w2.heap.size + 1, 4, none⟩) (by show _ ≠ w2.heap.size + 1; omega) (.int .u32 88)).far (p := ⟨w2.heap.size + 1, 5, none⟩) (by show _ ≠ w2.heap.size + 1; omega) (.int .i64 (-2)))
  have P1 := (((((Q1.drewN n5).far (p := ⟨w2.heap.size + 1, 2, none⟩) (by show _ ≠ w2.heap.size + 1; omega) (.int .u32 8589934)).far (p := ⟨w2.heap.size + 1, 3, none⟩) (by show _ ≠ w2.heap.size + 1; omega) (.int .u32 11)).far (p := ⟨w2.heap.size + 1, 4, none⟩) (by show _ ≠ w2.heap.size + 1; omega) (.int .u32 88)).far (p := ⟨w2.heap.size + 1, 5, none⟩) (by show _ ≠ w2.heap.size + 1; omega) (.int .i64 (-2)))
  have b6 := (((((below_drewN' b4 n5).setCell (p := ⟨w2.heap.size + 1, 2, none⟩) (by show _ ≤ w2.heap.size + 1; omega) (.int .u32 8589934)).setCell (p := ⟨w2.heap.size + 1, 3, none⟩) (by show _ ≤ w2.heap.size + 1; omega) (.int .u32 11)).setCell (p := ⟨w2.heap.size + 1, 4, none⟩) (by show _ ≤ w2.heap.size + 1; omega) (.int .u32 88)).setCell (p := ⟨w2.heap.size + 1, 5, none⟩) (by show _ ≤ w2.heap.size + 1; omega) (.int .i64 (-2)))
  have hs6 : w2.heap.size + 1 + 1 ≤ (((((w4.drewN n5).setCell ⟨w2.heap.size + 1, 2, none⟩ (.int .u32 8589934)).setCell ⟨w2.heap.size + 1, 3, none⟩ (.int .u32 11)).setCell ⟨w2.heap.size + 1, 4, none⟩ (.int .u32 88)).setCell ⟨w2.heap.size + 1, 5, none⟩ (.int .i64 (-2))).heap.size := by simpa [World.setCell] using hs4
  generalize (((((w4.drewN n5).setCell ⟨w2.heap.size + 1, 2, none⟩ (.int .u32 8589934)).setCell ⟨w2.heap.size + 1, 3, none⟩ (.int .u32 11)).setCell ⟨w2.heap.size + 1, 4, none⟩ (.int .u32 88)).setCell ⟨w2.heap.size + 1, 5, none⟩ (.int .i64 (-2))) = w6 at S6 P0 P1 b6 hs6 ⊢
  clear s0 s1 s2 s3 s4 s5 sf r0 r1 f0 f1 S4 hB4 Q0 Q1 b4 hs4
  obtain ⟨s0, s1, s2, s3, s4, s5⟩ := S6.six
  have r0 := P0.one; have r1 := P1.one
  have f0 := P0.frozen 0; have f1 := P1.frozen 0
  have hs7 : w.heap.size < w6.heap.size := by omega
  go_wp2_with (at_builtin; refine wpList_append_own_at (w6.alloc (.cells #[.int .i64 777, .bool true, .int .u32 8589934, .int .u32 11, .int .u32 88, .int .i64 (-2)] 50)) rfl (.tmp 118) (.tmp 120) 44 rfl w6.heap.size 50 i0 _ 6 32 Tryz.underlying44 hi0 hz0 hz1 hz2 rfl (by omega) nilS 0 [] rfl (World.ownsRow_nil _ _ _ _) ⟨w6.heap.size, 0, none⟩ 1 1 [.int .i64 777, .bool true, .int .u32 8589934, .int .u32 11, .int .u32 88, .int .i64 (-2)] rfl rfl (World.news_of_block (cs := #[.int .i64 777, .bool true, .int .u32 8589934, .int .u32 11, .int .u32 88, .int .i64 (-2)]) (t := 50) (fr := (0, 0)) (heap_alloc_new w6 _)) (by simp [Value.oneCell']) (by simp [maxLen]) (by omega) (by simp) ?_; intro v7 w7 hown7 hg7 _ hat7; obtain ⟨q7, k7, rfl, hq7, hl7⟩ := hown7.form (by omega); have R7 := (P0.alloc _).grown hg7 (by simp [Value.ownBlock]); have R8 := (P1.alloc _).grown hg7 (by simp [Value.ownBlock]); have t0 := R7.one; have t1 := R8.one; have tf := R7.frozen 0; have tg := R8.frozen 0)
  clear s0 s1 s2 s3 s4 s5 r0 r1 f0 f1
  have hc0 : w7.cell? ⟨q7, 0, none⟩ = some (.int .i64 777) := by simpa using hown7.cellAt 0 (by omega)
  have hc1 : w7.cell? ⟨q7, 1, none⟩ = some (.bool true) := by simpa using hown7.cellAt 1 (by omega)
  have b7 : Below w.heap.size w w7 := b6.trans (Below.grown ((Below.refl _ _).alloc (by omega) _) hg7 (by simp; omega) (by simp [Value.ownBlock]))
  have hne1 : ¬ q7 = w.heap.size := by omega
  have hne2 : ¬ q7 = w.heap.size + 1 := by omega
  rw [rounds_succ]
  go_wp2_with fail
  refine leaves_cons (f := 146) (args := #[.pointer (some ⟨w.heap.size, 0, none⟩), .pointer (some ⟨w.heap.size + 1, 0, none⟩)]) (by simp) (by simp [go_sem]) ?_
  refine (dec_idle _ _ _).mono ?_
  rintro e u' w'' ⟨rfl, rfl, rfl⟩
  simp [Leaves, settle, results, Tryz.results14, go_sem, t0, t1]
  exact ⟨⟨hc0, hc1⟩, ((b7.setCell (p := ⟨w.heap.size, 0, none⟩) (Nat.le_refl _) _).setCell (p := ⟨w.heap.size, 0, none⟩) (Nat.le_refl _) _).setCell (p := ⟨w.heap.size + 1, 0, none⟩) (by simp) _⟩
end Go.Proofs.YtngljoplalihkaaGreatDoor
