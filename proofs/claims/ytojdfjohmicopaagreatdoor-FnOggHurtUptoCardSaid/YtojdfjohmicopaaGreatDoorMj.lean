/- Contracts of the reader's channel mapping: the head with a mapping. Condition: the head's packet has the length that its kind asks. -/
import Derived.Test.YtojdfjohmicopaaGreatDoorMg
import Derived.Deep.AppendLies
import Derived.Deep.RegionHeld3
import Derived.Deep.CutRange
namespace Go.Proofs.YtojdfjohmicopaaGreatDoor
open Go Go.RowKit Go.Proofs.YtojdfjohmicopaaGreatDoorW.PrintWords Go.Proofs.YtojdfjohmicopaaGreatDoor.Crc

theorem info_u8 : (Tryz.prog.info? 5).map (fun i => (i.zero, i.size, i.bytes)) = some (some (.int .u8 0), 1, 1) := by kernel_rfl

set_option maxRecDepth 100000 in
set_option maxHeartbeats 4000000 in
theorem smap_any (w : World) (go gi gk c : Nat) (K : List Int) (v0 v1 v2 v3 v4 v5 : Value) (ch : Int) (hO : Blk w go 136 #[v0, v1, v2, v3, v4, v5])
    (hI : w.cell? ⟨gi, 1, none⟩ = some (.int .u8 ch)) (h0 : 1 ≤ ch) (h1 : ch ≤ 255) (hK : Row w gk K) (hl : (K.length : Int) = 21 + ch) (hc : K.length ≤ c) (hgk : gk ≠ go) :
    Calls Tryz.prog 113 #[.pointer (some ⟨go, 0, none⟩), .pointer (some ⟨gi, 0, none⟩), .slice (some ⟨gk, 0, none⟩) K.length c] w fun e w' => e = .returned .nilIface ∧ (∃ v, Blk w' go 136 #[v0, v1, v2, v3, v4, v]) ∧ Fr (fun k => k = go) w w' := by
  obtain ⟨i0, hi0, hz0, hz1, hz2⟩ := info_parts info_u8
  have HO := Lib.hid hO
  have HK := Lib.hid hK
  have hgo := hO.lt
  clear hO hK
  go_enter Tryz.func113, Tryz.ntmps113
  go_upto_region 4 with fail
  have HL := Lib.hid hl
  have hl21 : 22 ≤ K.length := by omega
  have hl276 : K.length ≤ 276 := by omega
  clear hl
  have r19 := HK.out.at_ 19 (by omega)
  have r20 := HK.out.at_ 20 (by omega)
  have o5 : w.cell? ⟨go, 5, none⟩ = some v5 := by simpa using HO.out.cell 5
  have of := HO.out.frozen
  have n21 : ¬ c = 21 := by omega
  have j19 : 19 < K.length := by omega
  have j20 : 20 < K.length := by omega
  have i19 : (19 : Int) < (K.length : Int) := by omega
  have i20 : (20 : Int) < (K.length : Int) := by omega
  have s21 : (21 : Int) ≤ (K.length : Int) := by omega
  have t21 : 21 ≤ K.length := by omega
  have hnews : ∀ j u, (nums .u8 (K.drop 21))[j]? = some u → w.drew.cell? ((⟨gk, 21, none⟩ : Addr).add j) = some u := by
    intro j u hu
    rw [Go.WideShapes.add_plain]
    simp only [nums, List.getElem?_map, List.getElem?_drop, Option.map_eq_some_iff] at hu
    obtain ⟨z, hz, rfl⟩ := hu
    obtain ⟨hlt, hz⟩ := List.getElem?_eq_some_iff.1 hz
    have := HK.out.at_ (21 + j) hlt
    rw [List.getD_eq_getElem?_getD, List.getElem?_eq_getElem hlt, hz] at this
    exact this
  have HN := Lib.hid hnews
  clear hnews
  have HX := Lib.hid (show (nums .u8 (K.drop 21)).length = (K.length - 21) * 1 by simp [nums])
  have HB := Lib.hid (show (0 + (K.length - 21)) * 1 ≤ 140737488355328 by omega)
  have HM := Lib.hid (show 0 + (K.length - 21) ≤ maxLen by unfold maxLen; omega)
  refine wp_region_noPanic ?_
  go_region_law (refine step_append_lies _ (by rfl) (.const (.slice none 0 0)) (.tmp 27) _ (by rfl) w.heap.size 5 i0 (.int .u8 0) 1 1 Tryz.underlying33 hi0 hz0 hz1 hz2 rfl (by omega) nilS 0 [] (by rfl) (World.ownsRow_nil _ _ _ _) ⟨gk, 21, none⟩ (K.length - 21) (c - 21) (nums .u8 (K.drop 21)) (by rfl) HX.out HN.out (by intro u hu; simp only [nums, List.mem_map] at hu; obtain ⟨z, _, rfl⟩ := hu; rfl) (by omega) HM.out HB.out (Nat.le_refl _) w.heap.size rfl ?_; intro gg cap w3 hown3 hgrow hat hlt; have HO3 := Lib.hid ((HO.out.drew).grown hgrow (by simp [Value.ownBlock])); have o5b : w3.cell? ⟨go, 5, none⟩ = some v5 := (by simpa using HO3.out.cell 5); have o5c : ∀ o, (w3.alloc o).cell? ⟨go, 5, none⟩ = some v5 := (fun o => by simpa using (HO3.out.alloc o).cell 5); have ofc : ∀ o i, (w3.alloc o).frozen? ⟨go, i, none⟩ = false := (fun o => (HO3.out.alloc o).frozen); have HF3 := Lib.hid (Fr.of_below (S := fun k => k = go) (B := w.heap.size) ((below_drew' (Below.refl _ w)).grown hgrow (Nat.le_refl _) (by simp [Value.ownBlock])) (Nat.le_refl _)); have HK3 := Lib.hid (HK.out.fr HF3.out hgk); have r19b := HK3.out.at_ 19 j19; have r20b := HK3.out.at_ 20 j20)
  all_goals
    refine NoPanic.normal ?_
    go_wp2_with fail
    go_ret
    exact ⟨rfl, ⟨_, (HO3.out.alloc _).store rfl⟩, (HF3.out.alloc _).set (p := ⟨go, 5, none⟩) (.inl rfl) _⟩
end Go.Proofs.YtojdfjohmicopaaGreatDoor
