/- Contracts of the functions that turn a table of uint into one of int64. Conditions: at most 1000 numbers, each from 0 to 65535. -/
import Derived.Test.YtngljoplalihkaaGreatDoorAaWords
import Derived.Test.YtngljoplalihkaaGreatDoorWWords
import Derived.Test.YtngljoplalihkaaGreatDoorProg
import Derived.WalkKit
import Derived.WalkLawsBesides
import Derived.WalkSpells
import Derived.Outline
namespace Go.Proofs.YtngljoplalihkaaGreatDoor
open Go Go.RowKit Go.Proofs.YtngljoplalihkaaGreatDoorW.PrintWords

theorem info_i64 : (Tryz.prog.info? 2).map (fun i => (i.zero, i.size, i.bytes)) = some (some (.int .i64 0), 1, 8) := by kernel_rfl

theorem take_snoc' (xs : List Int) (k : Nat) (h : k < xs.length) : xs.take (k + 1) = xs.take k ++ [xs.getD k 0] := by
  rw [List.take_succ_eq_append_getElem h, List.getD_eq_getElem?_getD, List.getElem?_eq_getElem h]; rfl

set_option maxHeartbeats 1000000 in
theorem numbers_any (w : World) (b c : Nat) (xs : List Int) (hn : xs.length ≤ 1000) (hb : b < w.heap.size)
    (hc : ∀ k, k < xs.length → w.cell? ⟨b, k, none⟩ = some (.int .u64 (xs.getD k 0))) (hx : ∀ k, k < xs.length → 0 ≤ xs.getD k 0 ∧ xs.getD k 0 ≤ 65535) :
    Calls Tryz.prog 23 #[.slice (some ⟨b, 0, none⟩) xs.length c] w fun e w' => (∃ v, e = .returned v ∧ w'.ownsRow w.heap.size 2 1 v xs.length (nums .i64 xs)) ∧ Below w.heap.size w w' := by
  have HC := Lib.hid hc; have HX := Lib.hid hx
  clear hc hx
  go_enter Tryz.func23, Tryz.ntmps23
  go_wp2
  go_loopw [2, 7] (fun v i wr => ∃ k : Nat, k ≤ xs.length ∧ i = .int .i64 k ∧ Hid (wr.ownsRow w.heap.size 2 1 v (xs.take k).length (nums .i64 (xs.take k))) ∧ Hid (Below w.heap.size w wr)) (fun _ i _ => xs.length - (intOf i).toNat)
  case atStart => exact ⟨0, Nat.zero_le _, rfl, Lib.hid (own_nil _ _ _ _), Lib.hid (Below.refl _ _)⟩
  case round =>
    obtain ⟨k, hk, rfl, HO, HB⟩ := hrel
    have hbs := HB.out.size
    by_cases hlt : k < xs.length
    · have hcell := (HB.out.cell (p := ⟨b, k, none⟩) hb).trans (HC.out k hlt)
      obtain ⟨h0, h1⟩ := HX.out k hlt
      have hsn := take_snoc' xs k hlt
      generalize xs.getD k 0 = x at hcell h0 h1 hsn
      have HS := Lib.hid hsn
      clear hsn
      have hlen : (xs.take k).length = k := by rw [List.length_take]; omega
      have HL := Lib.hid hlen
      clear hlen
      go_wp2_with (at_builtin; refine print_append_num (w0 := w) (W := wr) w.heap.size rfl (.tmp 11) (.tmp 14) 22 2 .i64 8 rfl Tryz.underlying22 info_i64 (by omega) _ (xs.take k) x rfl rfl HO.out HB.out hbs (by rw [HL.out]; omega) ?_; intro v1 w1 hown1 hb1 _ _)
      have HN := Lib.hid (show w1.ownsRow w.heap.size 2 1 v1 (xs.take (k + 1)).length (nums .i64 (xs.take (k + 1))) by rw [HS.out]; exact hown1)
      have HB1 := Lib.hid hb1
      clear hown1 hb1
      go_roundw
      case rel => exact ⟨k + 1, by omega, by go_num, HN, HB1⟩
      case measure => simp [intOf]; omega
    · obtain rfl : xs.length = k := by omega
      rw [List.take_length] at HO
      go_wp2
      go_ret
      exact ⟨⟨_, rfl, HO.out⟩, HB.out⟩

set_option maxHeartbeats 1000000 in
theorem told_any (w : World) (b c : Nat) (xs : List Int) (hn : xs.length ≤ 1000) (hb : b < w.heap.size)
    (hc : ∀ k, k < xs.length → w.cell? ⟨b, k, none⟩ = some (.int .u64 (xs.getD k 0))) (hx : ∀ k, k < xs.length → 0 ≤ xs.getD k 0 ∧ xs.getD k 0 ≤ 65535) :
    Calls Tryz.prog 126 #[.slice (some ⟨b, 0, none⟩) xs.length c] w fun e w' => (∃ v, e = .returned v ∧ w'.ownsRow w.heap.size 2 1 v xs.length (nums .i64 xs)) ∧ Below w.heap.size w w' := by
  have HC := Lib.hid hc; have HX := Lib.hid hx
  clear hc hx
  go_enter Tryz.func126, Tryz.ntmps126
  go_wp2
  go_loopw [2, 7] (fun v i wr => ∃ k : Nat, k ≤ xs.length ∧ i = .int .i64 k ∧ Hid (wr.ownsRow w.heap.size 2 1 v (xs.take k).length (nums .i64 (xs.take k))) ∧ Hid (Below w.heap.size w wr)) (fun _ i _ => xs.length - (intOf i).toNat)
  case atStart => exact ⟨0, Nat.zero_le _, rfl, Lib.hid (own_nil _ _ _ _), Lib.hid (Below.refl _ _)⟩
  case round =>
    obtain ⟨k, hk, rfl, HO, HB⟩ := hrel
    have hbs := HB.out.size
    by_cases hlt : k < xs.length
    · have hcell := (HB.out.cell (p := ⟨b, k, none⟩) hb).trans (HC.out k hlt)
      obtain ⟨h0, h1⟩ := HX.out k hlt
      have hsn := take_snoc' xs k hlt
      generalize xs.getD k 0 = x at hcell h0 h1 hsn
      have HS := Lib.hid hsn
      clear hsn
      have hlen : (xs.take k).length = k := by rw [List.length_take]; omega
      have HL := Lib.hid hlen
      clear hlen
      go_wp2_with (at_builtin; refine print_append_num (w0 := w) (W := wr) w.heap.size rfl (.tmp 11) (.tmp 14) 22 2 .i64 8 rfl Tryz.underlying22 info_i64 (by omega) _ (xs.take k) x rfl rfl HO.out HB.out hbs (by rw [HL.out]; omega) ?_; intro v1 w1 hown1 hb1 _ _)
      have HN := Lib.hid (show w1.ownsRow w.heap.size 2 1 v1 (xs.take (k + 1)).length (nums .i64 (xs.take (k + 1))) by rw [HS.out]; exact hown1)
      have HB1 := Lib.hid hb1
      clear hown1 hb1
      go_roundw
      case rel => exact ⟨k + 1, by omega, by go_num, HN, HB1⟩
      case measure => simp [intOf]; omega
    · obtain rfl : xs.length = k := by omega
      rw [List.take_length] at HO
      go_wp2
      go_ret
      exact ⟨⟨_, rfl, HO.out⟩, HB.out⟩
end Go.Proofs.YtngljoplalihkaaGreatDoor
