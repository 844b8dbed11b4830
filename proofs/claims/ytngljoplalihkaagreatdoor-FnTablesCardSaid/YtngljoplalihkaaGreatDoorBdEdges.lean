/- A contract of celt.Table at bandEdges: the table's own list. Condition: the variable holds what its initialiser lays. -/
import Derived.Test.YtngljoplalihkaaGreatDoorBcTab5
import Derived.Lib.LaidTab
import Derived.WalkSmall
namespace Go.Proofs.YtngljoplalihkaaGreatDoor
open Go Go.RowKit Go.Proofs.YtngljoplalihkaaGreatDoorW.PrintWords

def EDG : List Int := [0, 1, 2, 3, 4, 5, 6, 7, 8, 10, 12, 14, 16, 20, 24, 28, 34, 40, 48, 60, 78, 100]

theorem heap_of_tab {w : World} {name : String} {k : IntKind} {zs : List Int} {g : Nat} (h : Lib.TabIs Tryz.prog w name k zs) (hg : Tryz.prog.globalNamed name = some g) : ∃ t fr, w.heap[g]? = some (.cells (nums k zs).toArray t fr) := by
  unfold Lib.TabIs World.var? at h
  simp only [hg, Option.bind_some] at h
  split at h
  · rename_i cs t fr he
    injection h with h
    exact ⟨t, fr, by rw [he, h]; rfl⟩
  · cases h

set_option maxRecDepth 100000 in
theorem edge_at (k : Nat) (hk : k < 22) : ∀ W : World, (Instr.index 71 (.agg (nums .i16 EDG).toArray) (.int .i64 (k : Int))).run Tryz.prog W = .ok (.int .i16 (EDG.getD k 0)) W := by
  match k, hk with
  | 0, _ => exact fun _ => by kernel_rfl
  | 1, _ => exact fun _ => by kernel_rfl
  | 2, _ => exact fun _ => by kernel_rfl
  | 3, _ => exact fun _ => by kernel_rfl
  | 4, _ => exact fun _ => by kernel_rfl
  | 5, _ => exact fun _ => by kernel_rfl
  | 6, _ => exact fun _ => by kernel_rfl
  | 7, _ => exact fun _ => by kernel_rfl
  | 8, _ => exact fun _ => by kernel_rfl
  | 9, _ => exact fun _ => by kernel_rfl
  | 10, _ => exact fun _ => by kernel_rfl
  | 11, _ => exact fun _ => by kernel_rfl
  | 12, _ => exact fun _ => by kernel_rfl
  | 13, _ => exact fun _ => by kernel_rfl
  | 14, _ => exact fun _ => by kernel_rfl
  | 15, _ => exact fun _ => by kernel_rfl
  | 16, _ => exact fun _ => by kernel_rfl
  | 17, _ => exact fun _ => by kernel_rfl
  | 18, _ => exact fun _ => by kernel_rfl
  | 19, _ => exact fun _ => by kernel_rfl
  | 20, _ => exact fun _ => by kernel_rfl
  | 21, _ => exact fun _ => by kernel_rfl
  | k + 22, h => exact absurd h (by omega)

set_option maxRecDepth 100000 in
set_option maxHeartbeats 2000000 in
theorem R_bandEdges (w : World) (hE : ∃ t fr, w.heap[0]? = some (.cells (nums .i16 EDG).toArray t fr)) :
    Calls Tryz.prog 9 #[.string N_bandEdges] w fun e w' => ∃ v, e = .returned (.tuple #[v, .int .i64 0]) ∧ w'.ownsRow w.heap.size 2 1 v EDG.length (nums .i64 EDG) ∧ Below w.heap.size w w' := by
  obtain ⟨tt, fr, hE⟩ := hE
  have HE := Lib.hid hE
  clear hE
  have HIX := Lib.hid edge_at
  go_enter Tryz.func9, Tryz.ntmps9
  go_wp2_with (refine wpList_load_row (o := ⟨some 34, _, _, _, _, _⟩) rfl 71 _ rfl 0 rfl tt _ fr _ HE.out Tryz.underlying71 rfl (by kernel_rfl) ?_)
  have HX : ∀ k, k < 22 → 0 ≤ EDG.getD k 0 ∧ EDG.getD k 0 ≤ 100 := by decide
  have HXX := Lib.hid HX
  clear HX
  have HLEN : Hid (EDG.length = 22) := Lib.hid rfl
  go_loopw [2, 35] (fun v i wr => ∃ k : Nat, k ≤ 22 ∧ i = .int .i64 k ∧ Hid (wr.ownsRow w.heap.size 2 1 v (EDG.take k).length (nums .i64 (EDG.take k))) ∧ Hid (Below w.heap.size w wr)) (fun _ i _ => 22 - (intOf i).toNat)
  case atStart => exact ⟨0, Nat.zero_le _, rfl, Lib.hid (own_nil _ _ _ _), Lib.hid (Below.refl _ _)⟩
  case round =>
    obtain ⟨k, hk, rfl, HO, HB⟩ := hrel
    have hbs := HB.out.size
    by_cases hlt : k < 22
    · have hix := HIX.out k hlt
      obtain ⟨h0, h1⟩ := HXX.out k hlt
      have hsn := take_snoc' EDG k (by rw [HLEN.out]; exact hlt)
      generalize EDG.getD k 0 = x at hix h0 h1 hsn
      have HS := Lib.hid hsn
      clear hsn
      have hlen : (EDG.take k).length = k := by rw [List.length_take, HLEN.out]; omega
      have HL := Lib.hid hlen
      clear hlen
      go_wp2_with (at_builtin; refine print_append_num (w0 := w) (W := wr) w.heap.size rfl (.tmp 38) (.tmp 41) 22 2 .i64 8 rfl Tryz.underlying22 info_i64 (by omega) _ (EDG.take k) x rfl rfl HO.out HB.out hbs (by rw [HL.out]; omega) ?_; intro v1 w1 hown1 hb1 _ _)
      have HN := Lib.hid (show w1.ownsRow w.heap.size 2 1 v1 (EDG.take (k + 1)).length (nums .i64 (EDG.take (k + 1))) by rw [HS.out]; exact hown1)
      have HB1 := Lib.hid hb1
      clear hown1 hb1 hix
      go_roundw
      case rel => exact ⟨k + 1, by omega, by go_num, HN, HB1⟩
      case measure => simp [intOf]; omega
    · obtain rfl : k = 22 := by omega
      have HO' := Lib.hid (show wr.ownsRow w.heap.size 2 1 _ EDG.length (nums .i64 EDG) from HO.out)
      clear HO
      go_wp2
      go_ret2
      exact ⟨_, rfl, HO'.out, HB.out⟩
end Go.Proofs.YtngljoplalihkaaGreatDoor
