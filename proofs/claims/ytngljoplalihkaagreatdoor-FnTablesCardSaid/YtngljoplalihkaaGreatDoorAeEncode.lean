/- A contract of impl.Encode at the one operation that laws.alive writes. No condition. -/
import Derived.Test.YtngljoplalihkaaGreatDoorAdDone
import Derived.Defers
import Derived.Recover
import Derived.Laws.Pointers
import Derived.Deep.RegionHeld3
import Derived.Deep.AppendLies
import Derived.Deep.CutRange
namespace Go.Proofs.YtngljoplalihkaaGreatDoor
open Go Go.RowKit Go.Proofs.YtngljoplalihkaaGreatDoorW.PrintWords

theorem enc_idle (p q r : Addr) (w : World) :
    CallsD Tryz.prog 133 #[.pointer (some p), .pointer (some q), .pointer (some r)] .returning w fun e u' w' => e = .returned (.tuple #[]) ∧ u' = .returning ∧ w' = w := by
  refine callsD_of_wpS Tryz.func133 rfl fun c₀ cs hu => ?_
  apply wpS_seq
  apply wpS_region
  simp [wpOpsS, go_sem, recoverD, hu, Tryz.ntmps133, Exit.thenS]
  refine wpS_cond (t := false) (by simp [Act.eval, Array.replicate]) ?_
  simp only [Bool.false_eq_true, if_false]
  refine wpS_of_wp (wp_skip ?_)
  cases c₀
  simp_all [bodyPostS, results, Tryz.results133]

theorem conv_two (w : World) (b : Nat) (h : Blk w b 5 #[.int .u8 199, .int .u8 1]) : (convert 65 9 (.slice (some ⟨b, 0, none⟩) 2 2)).run Tryz.prog w = .ok (.string ⟨#[199, 1]⟩) w :=
  run_convert_bytes_arg w 65 5 Tryz.underlying65 Tryz.underlying5 b 0 2 2 [199, 1] rfl (fun i hi => by
    have := h.cell i
    rw [Nat.zero_add, this]
    match i, hi with
    | 0, _ => rfl
    | 1, _ => rfl) 9 Tryz.underlying9
theorem info_seen : (Tryz.prog.info? 50).map (fun i => (i.zero, i.size, i.bytes)) = some (some (.agg #[.int .i64 0, .bool false, .int .u32 0, .int .u32 0, .int .u32 0, .int .i64 0]), 6, 32) := by kernel_rfl

set_option maxRecDepth 100000 in
set_option maxHeartbeats 4000000 in
theorem enc_any (w : World) (b c : Nat) (hb : b < w.heap.size)
    (o0 : w.cell? ⟨b, 0, none⟩ = some (.int .i64 3)) (o1 : w.cell? ⟨b, 1, none⟩ = some (.int .u32 1000)) (o2 : w.cell? ⟨b, 2, none⟩ = some (.int .u32 777))
    (o3 : w.cell? ⟨b, 3, none⟩ = some (.int .u32 0)) (o4 : w.cell? ⟨b, 4, none⟩ = some (.int .i64 0)) (o5 : w.cell? ⟨b, 5, none⟩ = some nilS) :
    Calls Tryz.prog 13 #[.slice (some ⟨b, 0, none⟩) 1 c] w fun e w' => (∃ v, e = .returned (.tuple #[.string ⟨#[199, 1]⟩, v, .int .i64 0])) ∧ Below w.heap.size w w' := by
  obtain ⟨i0, hi0, hz0, hz1, hz2⟩ := info_parts info_seen
  have hmf : ∀ (fn : Fn) (first cap : Array Value) (w : World), (Instr.makeFunc fn first cap).run Tryz.prog w = .ok (.func fn first cap) w := fun _ _ _ _ => rfl
  go_enter_defers Tryz.func13, Tryz.ntmps13
  go_wp2_with fail
  refine (e_init _ (w.heap.size + 1 + 1 + 1) (Blk.new' (by simp))).mono ?_
  rintro e w1 ⟨rfl, hB1, b1⟩
  have hsz1 : w.heap.size + 1 + 1 + 1 + 1 ≤ w1.heap.size := by have := b1.size; simpa using this
  have bw1 : Below w.heap.size w w1 := ((((((Below.refl _ _).alloc (Nat.le_refl _) _).alloc (by simp) _).alloc (by simp; omega) _).alloc (by simp; omega) _).trans (b1.mono (by omega)))
  have R0 : Blk w1 w.heap.size 9 #[.string ⟨#[]⟩] := Blk.below ((((Blk.new' rfl).alloc _).alloc _).alloc _) b1 (by omega)
  have R1 : Blk w1 (w.heap.size + 1) 44 #[nilS] := Blk.below (((Blk.new' (by simp)).alloc _).alloc _) b1 (by omega)
  have R2 : Blk w1 (w.heap.size + 1 + 1) 3 #[.int .i64 0] := Blk.below ((Blk.new' (by simp)).alloc _) b1 (by omega)
  have r0 := R0.one; have r1 := R1.one; have r2 := R2.one
  have f0 := R0.frozen 0; have f1 := R1.frozen 0; have f2 := R2.frozen 0
  replace o0 := (bw1.cell (p := ⟨b, 0, none⟩) hb).trans o0
  replace o1 := (bw1.cell (p := ⟨b, 1, none⟩) hb).trans o1
  replace o2 := (bw1.cell (p := ⟨b, 2, none⟩) hb).trans o2
  replace o3 := (bw1.cell (p := ⟨b, 3, none⟩) hb).trans o3
  replace o4 := (bw1.cell (p := ⟨b, 4, none⟩) hb).trans o4
  replace o5 := (bw1.cell (p := ⟨b, 5, none⟩) hb).trans o5
  have hb1 : b < w1.heap.size := by omega
  go_wp2_with fail
  refine wp_loop_rounds 2 ?_
  rw [rounds_succ]
  go_wp2_with fail
  refine (e_uniform _ (w.heap.size + 1 + 1 + 1) (hB1.alloc _)).mono ?_
  rintro e w2 ⟨rfl, hB2, b2⟩
  have hsz2 : w1.heap.size + 1 ≤ w2.heap.size := by have := b2.size; simpa using this
  have bw2 : Below (w.heap.size + 1 + 1 + 1) w1 w2 := ((Below.refl _ _).alloc (by omega) _).trans b2
  replace R0 := R0.below bw2 (by omega); replace R1 := R1.below bw2 (by omega); replace R2 := R2.below bw2 (by omega)
  clear r0 r1 r2 f0 f1 f2 o1 o2 o3 o4 o5 b1 b2 hB1
  have r0 := R0.one; have r1 := R1.one; have r2 := R2.one
  have f0 := R0.frozen 0; have f1 := R1.frozen 0; have f2 := R2.frozen 0
  go_upto_region 21 with (fail)
  have r1a : ∀ o, (w2.alloc o).cell? ⟨w.heap.size + 1, 0, none⟩ = some nilS := fun o => (R1.alloc o).one
  refine wp_region_noPanic ?_
  go_region_law (first | (refine step_append_lies _ (by rfl) (.tmp 67) (.tmp 74) _ (by rfl) w2.heap.size 50 i0 _ 6 32 Tryz.underlying44 hi0 hz0 hz1 hz2 rfl (by omega) nilS 0 [] (by rfl) (World.ownsRow_nil _ _ _ _) ⟨w2.heap.size, 0, none⟩ 1 1 [.int .i64 0, .bool true, .int .u32 8589934, .int .u32 11, .int .u32 88, .int .i64 0] (by rfl) (by rfl) (World.news_of_block (cs := #[.int .i64 0, .bool true, .int .u32 8589934, .int .u32 11, .int .u32 88, .int .i64 0]) (t := 50) (fr := (0, 0)) (heap_alloc_new w2 _)) (by simp [Value.oneCell']) (by omega) (by simp [maxLen]) (by omega) (by simp) (w2.heap.size + 1) (by simp) ?_; intro gg cap w3 hown3 hgrow hat hlt; have hk := ((R1.alloc _).drew).grown hgrow (by simp [Value.ownBlock]); have hk1 := hk.one; have hkf := hk.frozen 0) | (go_simp; go_at_call 142; refine (e_range _ (w.heap.size + 1 + 1 + 1) hB2.drew).mono ?_; rintro e w' ⟨rfl, rfl⟩) | (go_simp; go_at_call 143; refine (e_tell _ (w.heap.size + 1 + 1 + 1) hB2.drew).mono ?_; rintro e w' ⟨rfl, rfl⟩) | (go_simp; go_at_call 144; refine (e_frac _ (w.heap.size + 1 + 1 + 1) hB2.drew).mono ?_; rintro e w' ⟨rfl, rfl⟩))
  all_goals
    refine NoPanic.normal ?_
    have Q0 := ((R0.alloc _).drew).grown hgrow (by simp [Value.ownBlock])
    have Q2 := ((R2.alloc _).drew).grown hgrow (by simp [Value.ownBlock])
    have QE := ((hB2.alloc _).drew).grown hgrow (by simp [Value.ownBlock])
    have K1 : Blk (w3.setCell ⟨w.heap.size + 1, 0, none⟩ (Value.slice (some ⟨gg, 0, none⟩) 1 cap)) (w.heap.size + 1) 44 #[Value.slice (some ⟨gg, 0, none⟩) 1 cap] := by simpa using hk.set_ 0 (Value.slice (some ⟨gg, 0, none⟩) 1 cap)
    have K0 := Q0.far (p := ⟨w.heap.size + 1, 0, none⟩) (by show w.heap.size ≠ w.heap.size + 1; omega) (Value.slice (some ⟨gg, 0, none⟩) 1 cap)
    have K2 := Q2.far (p := ⟨w.heap.size + 1, 0, none⟩) (by show w.heap.size + 1 + 1 ≠ w.heap.size + 1; omega) (Value.slice (some ⟨gg, 0, none⟩) 1 cap)
    have KE := QE.far (p := ⟨w.heap.size + 1, 0, none⟩) (by show w.heap.size + 1 + 1 + 1 ≠ w.heap.size + 1; omega) (Value.slice (some ⟨gg, 0, none⟩) 1 cap)
    have bK : Below w.heap.size w2 (w3.setCell ⟨w.heap.size + 1, 0, none⟩ (Value.slice (some ⟨gg, 0, none⟩) 1 cap)) := ((below_drew' ((Below.refl _ _).alloc (by omega) _)).grown hgrow (by simp; omega) (by simp [Value.ownBlock])).setCell (by simp) _
    generalize w3.setCell ⟨w.heap.size + 1, 0, none⟩ (Value.slice (some ⟨gg, 0, none⟩) 1 cap) = w4 at K0 K1 K2 KE bK ⊢
    clear hk hk1 hkf r1a r0 r1 r2 f0 f1 f2 hown3
    have r0 := K0.one; have r1 := K1.one; have r2 := K2.one
    have f0 := K0.frozen 0; have f1 := K1.frozen 0; have f2 := K2.frozen 0
    go_wp2_with fail
    rw [rounds_succ]
    go_wp2_with fail
    refine wp_region_noPanic ?_
    go_region_law (go_simp; go_at_call 145; refine (e_done _ (w.heap.size + 1 + 1 + 1) KE.drew).mono ?_; rintro e w5 ⟨bb, rfl, hD, b5⟩; have hcv := conv_two w5 bb hD; have P0 := (K0.drew).below b5 (by omega); have P1 := (K1.drew).below b5 (by omega); have P2 := (K2.drew).below b5 (by omega); have p0 := P0.one; have p1 := P1.one; have p2 := P2.one; have q0 := P0.frozen 0; have q1 := P1.frozen 0; have q2 := P2.frozen 0)
    all_goals
      refine NoPanic.normal ?_
      go_wp2_with fail
  all_goals
    refine leaves_cons (f := 133) (args := #[.pointer (some ⟨w.heap.size, 0, none⟩), .pointer (some ⟨w.heap.size + 1, 0, none⟩), .pointer (some ⟨w.heap.size + 1 + 1, 0, none⟩)]) (by simp) (by simp [go_sem]) ?_
    refine (enc_idle _ _ _ _).mono ?_
    rintro e u' w'' ⟨rfl, rfl, rfl⟩
    have bF : Below w.heap.size w w5 := bw1.trans ((bw2.mono (by omega)).trans (bK.trans ((below_drew' (Below.refl _ _)).trans (b5.mono (by omega)))))
    have bG := ((bF.setCell (p := ⟨w.heap.size, 0, none⟩) (Nat.le_refl _) (Value.string { data := #[199, 1] })).setCell (p := ⟨w.heap.size + 1, 0, none⟩) (by simp) (Value.slice (some ⟨gg, 0, none⟩) 1 cap)).setCell (p := ⟨w.heap.size + 1 + 1, 0, none⟩) (by simp; omega) (Value.int IntKind.i64 0)
    simp [Leaves, settle, results, Tryz.results13, go_sem, p0, p1, p2]
    exact bG
end Go.Proofs.YtngljoplalihkaaGreatDoor
