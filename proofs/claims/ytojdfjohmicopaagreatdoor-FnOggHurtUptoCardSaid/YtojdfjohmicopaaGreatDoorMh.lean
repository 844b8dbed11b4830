/- A contract of the reader's look at the first packet. -/
import Derived.Test.YtojdfjohmicopaaGreatDoorMg
import Derived.Deep.RegionHeld3
namespace Go.Proofs.YtojdfjohmicopaaGreatDoor
open Go Go.RowKit Go.Proofs.YtojdfjohmicopaaGreatDoorW.PrintWords Go.Proofs.YtojdfjohmicopaaGreatDoor.Crc

set_option maxRecDepth 100000 in
set_option maxHeartbeats 20000000 in
theorem idhead_any (w : World) (gh gk c : Nat) (K : List Int) (g v s i n : Int) (hK : HeadPk K) (hG : Blk w gh 67 (hdr g 79 103 103 83 v 2 s i n)) (hB : Row w gk K) (hc : K.length ≤ c) :
    Calls Tryz.prog 107 #[.pointer (some ⟨gh, 0, none⟩), .slice (some ⟨gk, 0, none⟩) K.length c] w fun e w' => (∃ gi o w4 w3 w5, e = .returned (.tuple #[.pointer (some ⟨gi, 0, none⟩), .nilIface]) ∧ w.heap.size ≤ gi ∧ Blk w' gi 183 #[.int .u8 (K.getD 18 0), .int .u8 (K.getD 9 0), .int .u16 w5, .int .u16 w3, .int .u32 w4, .int .u8 o]) ∧ Below w.heap.size w w' := by
  obtain ⟨g0, g1, g2, g3, g4, g5, g6, g7, g8, g9⟩ := hG.ten
  have h19 : 19 ≤ K.length := by
    rcases hK.kind with ⟨_, h⟩ | ⟨_, h⟩
    · omega
    · have := hK.nine
      omega
  have hsig := str_at w gh 1 4 [79, 103, 103, 83] (by decide) (fun k hk => by
    match k, hk with
    | 0, _ => exact g1
    | 1, _ => exact g2
    | 2, _ => exact g3
    | 3, _ => exact g4)
  have hsg : strOfNums [79, 103, 103, 83] = ⟨#[79, 103, 103, 83]⟩ := by decide
  rw [hsg] at hsig
  have h8 : (K.take 8).length = 8 := by simp; omega
  have hnm := str_at w gk 0 c (K.take 8) (by rw [h8]; decide) (fun k hk => by
    rw [h8] at hk
    rw [Nat.zero_add, hB.at_ k (by omega)]
    simp [List.getD_eq_getElem?_getD, List.getElem?_take, hk])
  rw [h8, hK.name] at hnm
  have hns : strOfNums [79, 112, 117, 115, 72, 101, 97, 100] = ⟨#[79, 112, 117, 115, 72, 101, 97, 100]⟩ := by decide
  rw [hns] at hnm
  simp only [List.length_cons, List.length_nil, Nat.reduceAdd] at hsig
  go_enter Tryz.func107, Tryz.ntmps107
  have hcl := fun (W : World) (hb : Hid (Below w.heap.size w W)) (k : Nat) (hk : k < K.length) => (hB.below hb.out hB.lt).at_ k hk
  have HCL := Lib.hid hcl
  have h16 : ∀ (W : World) (o c : Nat), Hid (Below w.heap.size w W) → o + 2 ≤ K.length → Calls Tryz.prog 112 #[.agg #[], .slice (some ⟨gk, o, none⟩) 2 c] W fun e w' => ∃ z, e = .returned (.int .u16 z) ∧ Hid (Below w.heap.size w w') ∧ w'.cell? ⟨gk, 8, none⟩ = some (.int .u8 (K.getD 8 0)) ∧ w'.cell? ⟨gk, 9, none⟩ = some (.int .u8 (K.getD 9 0)) ∧ w'.cell? ⟨gk, 18, none⟩ = some (.int .u8 (K.getD 18 0)) := by
    intro W o c hb ho
    refine (le16_any W gk o c K (hB.below hb.out hB.lt) hK.bytes ho).mono ?_
    rintro e w' ⟨rfl, hb'⟩
    have hb2 := Lib.hid (hb.out.trans (hb'.mono hb.out.size))
    exact ⟨_, rfl, hb2, HCL.out _ hb2 8 (by omega), HCL.out _ hb2 9 (by omega), HCL.out _ hb2 18 (by omega)⟩
  have h32 : ∀ (W : World) (o c : Nat), Hid (Below w.heap.size w W) → o + 4 ≤ K.length → Calls Tryz.prog 72 #[.agg #[], .slice (some ⟨gk, o, none⟩) 4 c] W fun e w' => ∃ z, e = .returned (.int .u32 z) ∧ Hid (Below w.heap.size w w') ∧ w'.cell? ⟨gk, 8, none⟩ = some (.int .u8 (K.getD 8 0)) ∧ w'.cell? ⟨gk, 9, none⟩ = some (.int .u8 (K.getD 9 0)) ∧ w'.cell? ⟨gk, 18, none⟩ = some (.int .u8 (K.getD 18 0)) := by
    intro W o c hb ho
    refine (le32r_any W gk o c K (hB.below hb.out hB.lt) hK.bytes ho).mono ?_
    rintro e w' ⟨rfl, hb'⟩
    have hb2 := Lib.hid (hb.out.trans (hb'.mono hb.out.size))
    exact ⟨_, rfl, hb2, HCL.out _ hb2 8 (by omega), HCL.out _ hb2 9 (by omega), HCL.out _ hb2 18 (by omega)⟩
  have H16 := Lib.hid h16; have H32 := Lib.hid h32
  have hb0 := Lib.hid (below_drew' (Below.refl w.heap.size w))
  have q8 := hcl w (Lib.hid (Below.refl _ w)) 8 (by omega)
  have q9 := hcl w (Lib.hid (Below.refl _ w)) 9 (by omega)
  have q18 := hcl w (Lib.hid (Below.refl _ w)) 18 (by omega)
  clear hcl h16 h32 HCL
  generalize K.getD 8 0 = k8 at H16 H32 q8
  generalize K.getD 9 0 = k9 at H16 H32 q9 ⊢
  generalize K.getD 18 0 = k18 at H16 H32 q18 ⊢
  go_wp2_with fail
  have hBB := Lib.hid (Nat.le_refl w.heap.size)
  have i8 : (8 : Int) < (K.length : Int) := by omega
  have i9 : (9 : Int) < (K.length : Int) := by omega
  have i18 : (18 : Int) < (K.length : Int) := by omega
  have j8 : 8 < K.length := by omega
  have j9 : 9 < K.length := by omega
  have j18 : 18 < K.length := by omega
  have s12 : (12 : Int) ≤ (c : Int) := by omega
  have s16 : (16 : Int) ≤ (c : Int) := by omega
  have s18 : (18 : Int) ≤ (c : Int) := by omega
  have t12 : 12 ≤ c := by omega
  have t16 : 16 ≤ c := by omega
  have t18 : 18 ≤ c := by omega
  have n10 : ¬ c = 10 := by omega
  have n12 : ¬ c = 12 := by omega
  have n16 : ¬ c = 16 := by omega
  go_region_held3 (fun W => W.cell? ⟨gk, 8, none⟩ = some (.int .u8 k8) ∧ W.cell? ⟨gk, 9, none⟩ = some (.int .u8 k9) ∧ W.cell? ⟨gk, 18, none⟩ = some (.int .u8 k18) ∧ Hid (Below w.heap.size w W)) (first | exact ⟨q8, q9, q18, hb0⟩ | exact ⟨r8, r9, r18, hb⟩ | exact ks_alloc r8 r9 r18 hb hBB _) (first | (go_at_call 112; refine (H16.out _ _ _ (by first | exact hb | exact hb0) (by omega)).mono ?_; rintro e w' ⟨z, rfl, hb, r8, r9, r18⟩) | (go_at_call 72; refine (H32.out _ _ _ (by first | exact hb | exact hb0) (by omega)).mono ?_; rintro e w' ⟨z, rfl, hb, r8, r9, r18⟩))
  all_goals go_wp2_with fail
  all_goals go_ret2
  exact ⟨⟨_, _, _, _, _, rfl, hb.out.size, Blk.new _ _ _⟩, hb.out.alloc hb.out.size _⟩
end Go.Proofs.YtojdfjohmicopaaGreatDoor
