/- Contracts of the reader's sum over a page. No condition. -/
import Derived.Test.YtojdfjohmicopaaGreatDoorMd
import Derived.Test.YtojdfjohmicopaaGreatDoorShelf
namespace Go.Proofs.YtojdfjohmicopaaGreatDoor
open Go Go.RowKit Go.Proofs.YtojdfjohmicopaaGreatDoorW.PrintWords Go.Proofs.YtojdfjohmicopaaGreatDoor.Crc

set_option maxRecDepth 100000 in
set_option maxHeartbeats 2000000 in
theorem byte_any (w : World) (v : Nat) (c : BitVec 32) (gc gx go gt : Nat) (hv : v < 256) (hC : Blk w gc 22 #[.int .u32 (c.toNat : Int)]) (hX : Blk w gx 55 #[.pointer (some ⟨go, 0, none⟩)])
    (hO : w.cell? ⟨go, 2, none⟩ = some (.pointer (some ⟨gt, 0, none⟩))) (hT : Blk w gt 172 (row 256).toArray) :
    Calls Tryz.prog 98 #[.int .u8 v, .pointer (some ⟨gc, 0, none⟩), .pointer (some ⟨gx, 0, none⟩)] w fun e w' => e = .returned (.tuple #[]) ∧ ∃ n, w' = (w.drewN n).setCell ⟨gc, 0, none⟩ (.int .u32 ((upd c v).toNat : Int)) := by
  have c0 := hC.one
  have f0 := hC.frozen
  have x0 := hX.one
  have hb := c.isLt
  have hhi : (c.toNat : Int) / 16777216 = ((c.toNat / 16777216 : Nat) : Int) := by omega
  have hlt : c.toNat / 16777216 < 256 := by omega
  have h8 := xor8 (c.toNat / 16777216) v hlt hv
  have hi8 : (c.toNat / 16777216) ^^^ v < 256 := by have : (c.toNat / 16777216) ^^^ v < 2 ^ 8 := Nat.xor_lt_two_pow (by omega) (by omega); omega
  have ht : w.cell? ⟨gt, (c.toNat / 16777216) ^^^ v, none⟩ = some (.int .u32 ((tab ((c.toNat / 16777216) ^^^ v)).toNat : Int)) := by
    rw [hT.cell]
    have := row_get 256 _ hi8
    rw [if_pos hi8] at this
    simpa using this
  have hs8 := shl8 c
  rw [Int.ofNat_eq_natCast] at hs8
  have hx := xor32 (c <<< 8) (tab ((c.toNat / 16777216) ^^^ v))
  rw [← upd_tab c v hv] at hx
  generalize tab ((c.toNat / 16777216) ^^^ v) = te at ht hx
  generalize (c.toNat / 16777216) ^^^ v = ix at h8 hi8 ht
  generalize c.toNat / 16777216 = hi at hhi h8 hlt
  generalize upd c v = r at hx ⊢
  generalize c <<< 8 = sh at hs8 hx
  go_enter Tryz.func98, Tryz.ntmps98
  go_region
  go_end0
  exact ⟨rfl, 1, rfl⟩

/-- The sum over whole numbers. -/
def sumI (c : BitVec 32) (l : List Int) : BitVec 32 := sum c (l.map Int.toNat)
theorem sumI_snoc (c : BitVec 32) (l : List Int) (v : Int) : sumI c (l ++ [v]) = upd (sumI c l) v.toNat := by simp [sumI, sum, List.foldl_append]
theorem sumI_append (c : BitVec 32) (l m : List Int) : sumI c (l ++ m) = sumI (sumI c l) m := by simp [sumI, sum, List.foldl_append]
/-- Whole numbers that are bytes. -/
def Bytes (l : List Int) : Prop := ∀ v ∈ l, 0 ≤ v ∧ v < 256
theorem take_snocD (xs : List Int) (k : Nat) (h : k < xs.length) : xs.take (k + 1) = xs.take k ++ [xs.getD k 0] := by
  rw [List.take_succ_eq_append_getElem h, List.getD_eq_getElem?_getD, List.getElem?_eq_getElem h]; rfl
theorem bytes_getD {l : List Int} (h : Bytes l) (k : Nat) (hk : k < l.length) : 0 ≤ l.getD k 0 ∧ l.getD k 0 < 256 := by
  rw [List.getD_eq_getElem?_getD, List.getElem?_eq_getElem hk]
  exact h _ (List.getElem_mem hk)
/-- What the reader's sum reads. -/
structure Sums (w : World) (gc gx go gt : Nat) (c : BitVec 32) : Prop where
  C : Blk w gc 22 #[.int .u32 (c.toNat : Int)]
  X : Blk w gx 55 #[.pointer (some ⟨go, 0, none⟩)]
  O : w.cell? ⟨go, 2, none⟩ = some (.pointer (some ⟨gt, 0, none⟩))
  T : Blk w gt 172 (row 256).toArray
theorem byteI_any (w : World) (v : Int) (c : BitVec 32) (gc gx go gt : Nat) (h0 : 0 ≤ v) (hv : v < 256) (h : Sums w gc gx go gt c) (hcx : gc ≠ gx) (hco : gc ≠ go) (hct : gc ≠ gt) :
    Calls Tryz.prog 98 #[.int .u8 v, .pointer (some ⟨gc, 0, none⟩), .pointer (some ⟨gx, 0, none⟩)] w fun e w' => e = .returned (.tuple #[]) ∧ Sums w' gc gx go gt (upd c v.toNat) ∧ Fr (fun k => k = gc) w w' := by
  obtain ⟨n, rfl⟩ := Int.eq_ofNat_of_zero_le h0
  refine (byte_any w n c gc gx go gt (by omega) h.C h.X h.O h.T).mono ?_
  rintro e w' ⟨rfl, m, rfl⟩
  refine ⟨rfl, ⟨(h.C.drewN m).store rfl, (h.X.drewN m).far hcx.symm _, ?_, (h.T.drewN m).far hct.symm _⟩, ((Fr.refl (fun k => k = gc) w).drewN m).set (.inl rfl) _⟩
  exact (World.cell?_setCell_other (w.drewN m) ⟨gc, 0, none⟩ ⟨go, 2, none⟩ _ (by intro e; injection e; omega)).trans h.O

theorem Sums.fr {w w' : World} {S : Nat → Prop} {gc gx go gt : Nat} {c : BitVec 32} (h : Sums w gc gx go gt c) (hf : Fr S w w') (h1 : ¬ S gc) (h2 : ¬ S gx) (h3 : ¬ S go) (h4 : ¬ S gt) : Sums w' gc gx go gt c :=
  ⟨h.C.fr hf h1, h.X.fr hf h2, by
    have hlt := World.block_lt_of_cell? w _ h.O
    have e := hf.block go hlt h3
    have := h.O
    simpa [World.cell?, e] using this, h.T.fr hf h4⟩
theorem cell_fr {w w' : World} {S : Nat → Prop} {a : Addr} {v : Value} (h : w.cell? a = some v) (hf : Fr S w w') (hn : ¬ S a.block) : w'.cell? a = some v := by
  have hlt := World.block_lt_of_cell? w _ h
  have e := hf.block a.block hlt hn
  simpa [World.cell?, e] using h
/-- A header with its own sum struck. -/
def zeroed (H : List Int) : List Int := H.take 22 ++ [0, 0, 0, 0] ++ H.drop 26
theorem zeroed_length (H : List Int) (h : H.length = 27) : (zeroed H).length = 27 := by simp [zeroed, h]
theorem zeroed_in (H : List Int) (h : H.length = 27) (k : Nat) (h1 : 22 ≤ k) (h2 : k < 26) : (zeroed H).getD k 0 = 0 := by
  have : k = 22 ∨ k = 23 ∨ k = 24 ∨ k = 25 := by omega
  have hl : (H.take 22).length = 22 := by simp [h]
  rcases this with rfl | rfl | rfl | rfl <;> simp [zeroed, List.getD_eq_getElem?_getD, List.getElem?_append, hl]
theorem zeroed_out (H : List Int) (h : H.length = 27) (k : Nat) (h1 : k < 22 ∨ 26 ≤ k) : (zeroed H).getD k 0 = H.getD k 0 := by
  have hl : (H.take 22).length = 22 := by simp [h]
  rcases h1 with h1 | h1
  · rw [List.getD_eq_getElem?_getD, List.getD_eq_getElem?_getD]
    simp only [zeroed]
    rw [List.append_assoc, List.getElem?_append_left (by omega), List.getElem?_take, if_pos h1]
  · have h3 : ¬ k < 22 := by omega
    have h4 : ¬ k - 22 < 4 := by omega
    rw [List.getD_eq_getElem?_getD, List.getD_eq_getElem?_getD]
    congr 1
    simp only [zeroed]
    rw [List.getElem?_append_right (by simp [h]; omega), List.getElem?_drop]
    congr 1
    simp [h]
    omega

/-- The segments, as they are read. -/
def rdL (xs : List (List Int)) (i : Int) : List Int := xs.getD i.toNat []
theorem at_L {w : World} {A : Option Addr} {n : Nat} {xs : List (List Int)} (h : Kd.C (Kd.slice 5 (Kd.int .u8)) w A n xs) (i : Int) (h0 : 0 ≤ i) (h1 : i < n) : ∃ ad A0 c0, A = some ad ∧ w.cell? (ad.add i.toNat) = some (.slice A0 (rdL xs i).length c0) ∧ (rdL xs i).length ≤ c0 ∧ (Kd.int .u8).C w A0 (rdL xs i).length (rdL xs i) := by
  obtain ⟨ad, c, e, _, hK, hc0⟩ := Kd.C_get h ([] : List Int) i h0 h1
  have hc : ∀ j u, c[j]? = some u → w.cell? (ad.add (i.toNat * 1 + j)) = some u := hc0
  obtain ⟨A0, c0, rfl, l0, g0⟩ := hK
  exact ⟨ad, A0, c0, e, by have hq := hc 0 _ rfl; rwa [Nat.mul_one, Nat.add_zero] at hq, l0, g0⟩

theorem start_sums (w : World) (go gt : Nat) (hO : w.cell? ⟨go, 2, none⟩ = some (.pointer (some ⟨gt, 0, none⟩))) (hT : Blk w gt 172 (row 256).toArray) :
    Sums ((w.alloc (.cells #[.pointer (some ⟨go, 0, none⟩)] 55)).alloc (.cells #[.int .u32 0] 22)) (w.heap.size + 1) w.heap.size go gt 0#32 ∧
    Fr (fun _ => False) w ((w.alloc (.cells #[.pointer (some ⟨go, 0, none⟩)] 55)).alloc (.cells #[.int .u32 0] 22)) := by
  have f1 := (Fr.refl (fun _ => False) w).alloc (.cells #[.pointer (some ⟨go, 0, none⟩)] 55)
  have f2 := f1.alloc (.cells #[.int .u32 0] 22)
  refine ⟨⟨?_, ?_, cell_fr hO f2 (fun h => h), hT.fr f2 (fun h => h)⟩, f2⟩
  · exact Blk.new' (by simp)
  · exact (Blk.new w _ _).alloc _
theorem cells_num (w : World) (g t : Nat) (L : List Int) (h : Blk w g t (nums .u8 L).toArray) (k : Nat) (hk : k < L.length) : w.cell? ⟨g, k, none⟩ = some (.int .u8 (L.getD k 0)) := by
  rw [h.cell k]
  simp [nums, List.getElem?_eq_getElem hk]

theorem wf_of_bytes {L : List Int} (h : Bytes L) : ∀ z ∈ L, (Lit.int .u8 z).wf = true := by
  intro z hz
  have := h z hz
  have e1 : IntKind.u8.min = 0 := by decide
  have e2 : IntKind.u8.max = 255 := by decide
  simp [Lit.wf, e1, e2]
  omega
theorem le32_any (w : World) (g o c : Nat) (L : List Int) (hB : Blk w g 5 (nums .u8 L).toArray) (hL : Bytes L) (ho : o + 4 ≤ L.length) :
    Calls Tryz.prog 72 #[.agg #[], .slice (some ⟨g, o, none⟩) 4 c] w fun e w' => e = .returned (.int .u32 (Lib.leZ ((L.drop o).take 4))) ∧ Below w.heap.size w w' := by
  refine (Tryz.binary_LE_Uint32_z ⟨g, o, none⟩ 4 c (L.drop o) w (by omega) (by simp; omega) (fun i hi => ?_) (wf_of_bytes fun v hv => hL v (List.mem_of_mem_drop hv)))
  rw [Go.WideShapes.add_plain]
  rw [List.length_drop] at hi
  have := cells_num w g _ L hB (o + i) (by omega)
  simpa [List.getD_eq_getElem?_getD, List.getElem?_drop] using this
theorem le64_any (w : World) (g o c : Nat) (L : List Int) (hB : Blk w g 5 (nums .u8 L).toArray) (hL : Bytes L) (ho : o + 8 ≤ L.length) :
    Calls Tryz.prog 71 #[.agg #[], .slice (some ⟨g, o, none⟩) 8 c] w fun e w' => e = .returned (.int .u64 (Lib.leZ ((L.drop o).take 8))) ∧ Below w.heap.size w w' := by
  refine (Tryz.binary_LE_Uint64_z ⟨g, o, none⟩ 8 c (L.drop o) w (by omega) (by simp; omega) (fun i hi => ?_) (wf_of_bytes fun v hv => hL v (List.mem_of_mem_drop hv)))
  rw [Go.WideShapes.add_plain]
  rw [List.length_drop] at hi
  have := cells_num w g _ L hB (o + i) (by omega)
  simpa [List.getD_eq_getElem?_getD, List.getElem?_drop] using this

set_option maxRecDepth 100000 in
set_option maxHeartbeats 4000000 in
theorem check_any (w : World) (go gt gh gz : Nat) (H Z : List Int) (zcap : Nat) (A : Option Addr) (scap : Nat) (segs : List (List Int)) (u : Value)
    (hO : w.cell? ⟨go, 2, none⟩ = some (.pointer (some ⟨gt, 0, none⟩))) (hT : Blk w gt 172 (row 256).toArray)
    (hH : Blk w gh 5 (nums .u8 H).toArray) (hHl : H.length = 27) (hHb : Bytes H) (hZ : Blk w gz 5 (nums .u8 Z).toArray) (hZl : Z.length ≤ 255) (hZb : Bytes Z)
    (hS : Kd.C (Kd.slice 5 (Kd.int .u8)) w A segs.length segs) (hSl : segs.length ≤ 255) (hSb : ∀ s ∈ segs, Bytes s ∧ s.length ≤ 255)
    (hE : w.cell? ⟨4, 0, none⟩ = some u) :
    Calls Tryz.prog 73 #[.pointer (some ⟨go, 0, none⟩), .slice (some ⟨gh, 0, none⟩) 27 27, .slice (some ⟨gz, 0, none⟩) Z.length zcap, .slice A segs.length scap] w fun e w' =>
      e = .returned (if (Lib.leZ ((H.drop 22).take 4) = ((sumI 0#32 (zeroed H ++ Z ++ segs.flatten)).toNat : Int)) then .nilIface else u) ∧ Fr (fun _ => False) w w' := by
  have HO := Lib.hid hO; have HT := Lib.hid hT; have HH := Lib.hid hH; have HHb := Lib.hid hHb; have HZ := Lib.hid hZ; have HZb := Lib.hid hZb; have HS := Lib.hid hS; have HSb := Lib.hid hSb; have HE := Lib.hid hE
  have hgo : go < w.heap.size := World.block_lt_of_cell? w _ hO
  have hgt : gt < w.heap.size := hT.lt
  clear hO hT hH hHb hZ hZb hS hSb hE
  go_enter Tryz.func73, Tryz.ntmps73
  go_wp2_with fail
  obtain ⟨hs0, hf0⟩ := start_sums w go gt HO.out HT.out
  have HS0 := Lib.hid hs0; have HF0 := Lib.hid hf0
  clear hs0 hf0
  generalize (w.alloc (.cells #[.pointer (some ⟨go, 0, none⟩)] 55)).alloc (.cells #[.int .u32 0] 22) = W0 at HS0 HF0 ⊢
  have hgc : w.heap.size + 1 ≠ w.heap.size := by omega
  have hcall : ∀ (wr : World) (v : Int) (c : BitVec 32), 0 ≤ v → v < 256 → Hid (Sums wr (w.heap.size + 1) w.heap.size go gt c) → Hid (Fr (fun _ => False) w wr) →
      Calls Tryz.prog 98 #[.int .u8 v, .pointer (some ⟨w.heap.size + 1, 0, none⟩), .pointer (some ⟨w.heap.size, 0, none⟩)] wr fun e w' => e = .returned (.tuple #[]) ∧ Hid (Sums w' (w.heap.size + 1) w.heap.size go gt (upd c v.toNat)) ∧ Hid (Fr (fun _ => False) w w') := by
    intro wr v c h0 h1 hs hf
    refine (byteI_any wr v c _ _ go gt h0 h1 hs.out hgc (by omega) (by omega)).mono ?_
    rintro e w' ⟨rfl, hs', hf'⟩
    exact ⟨rfl, Lib.hid hs', Lib.hid (hf.out.call hf' (fun j hj => .inr (by omega)))⟩
  have HCALL := Lib.hid hcall
  clear hcall
  go_loopw [19] (fun i wr => ∃ k : Nat, k ≤ 27 ∧ i = .int .i64 k ∧ Hid (Sums wr (w.heap.size + 1) w.heap.size go gt (sumI 0#32 ((zeroed H).take k))) ∧ Hid (Fr (fun _ => False) w wr)) (fun i _ => 27 - (intOf i).toNat)
  case atStart => exact ⟨0, by omega, rfl, HS0, HF0⟩
  case round =>
    obtain ⟨k, hk, rfl, HSk, HFk⟩ := hrel
    clear HS0 HF0
    by_cases hlt : k < 27
    · have hnx : (zeroed H).take (k + 1) = (zeroed H).take k ++ [(zeroed H).getD k 0] := take_snocD _ _ (by rw [zeroed_length H hHl]; exact hlt)
      have HNX := Lib.hid (show sumI 0#32 ((zeroed H).take (k + 1)) = upd (sumI 0#32 ((zeroed H).take k)) ((zeroed H).getD k 0).toNat by rw [hnx, sumI_snoc])
      clear hnx
      rcases (show k < 22 ∨ (22 ≤ k ∧ k < 26) ∨ 26 ≤ k by omega) with hin | ⟨h1, h2⟩ | hin
      · have hz := zeroed_out H hHl k (by omega)
        rw [hz] at HNX
        have hck := cell_fr (cells_num w gh _ H HH.out k (by omega)) HFk.out (fun h => h)
        obtain ⟨hv0, hv1⟩ := bytes_getD HHb.out k (by omega)
        generalize H.getD k 0 = v at hck hv0 hv1 HNX
        have hn22 : ¬ 22 ≤ k := by omega
        go_wp2_with fail
        refine (HCALL.out wr v _ hv0 hv1 HSk HFk).mono ?_
        rintro e w1 ⟨rfl, HS1, HF1⟩
        go_wp2_with fail
        refine ⟨⟨k + 1, by omega, by rw [Int.natCast_add]; rfl, Lib.hid (by rw [HNX.out]; exact HS1.out), HF1⟩, ?_⟩
        show 27 - ((k : Int) + 1).toNat < 27 - (k : Int).toNat
        omega
      · have hz := zeroed_in H hHl k h1 h2
        rw [hz] at HNX
        go_wp2_with fail
        refine (HCALL.out wr 0 _ (by decide) (by decide) HSk HFk).mono ?_
        rintro e w1 ⟨rfl, HS1, HF1⟩
        go_wp2_with fail
        refine ⟨⟨k + 1, by omega, by rw [Int.natCast_add]; rfl, Lib.hid (by rw [HNX.out]; exact HS1.out), HF1⟩, ?_⟩
        show 27 - ((k : Int) + 1).toNat < 27 - (k : Int).toNat
        omega
      · have hz := zeroed_out H hHl k (by omega)
        rw [hz] at HNX
        have hck := cell_fr (cells_num w gh _ H HH.out k (by omega)) HFk.out (fun h => h)
        obtain ⟨hv0, hv1⟩ := bytes_getD HHb.out k (by omega)
        generalize H.getD k 0 = v at hck hv0 hv1 HNX
        have h22 : 22 ≤ k := by omega
        have hn26 : ¬ k < 26 := by omega
        go_wp2_with fail
        refine (HCALL.out wr v _ hv0 hv1 HSk HFk).mono ?_
        rintro e w1 ⟨rfl, HS1, HF1⟩
        go_wp2_with fail
        refine ⟨⟨k + 1, by omega, by rw [Int.natCast_add]; rfl, Lib.hid (by rw [HNX.out]; exact HS1.out), HF1⟩, ?_⟩
        show 27 - ((k : Int) + 1).toNat < 27 - (k : Int).toNat
        omega
    · obtain rfl : k = 27 := by omega
      have hz27 : (zeroed H).take 27 = zeroed H := List.take_of_length_le (by rw [zeroed_length H hHl]; omega)
      rw [hz27] at HSk
      clear hz27
      go_wp2_with fail
      go_loopw [39] (fun i wr => ∃ k : Nat, k ≤ Z.length ∧ i = .int .i64 k ∧ Hid (Sums wr (w.heap.size + 1) w.heap.size go gt (sumI 0#32 (zeroed H ++ Z.take k))) ∧ Hid (Fr (fun _ => False) w wr)) (fun i _ => Z.length - (intOf i).toNat)
      case atStart => exact ⟨0, by omega, rfl, Lib.hid (by simpa using HSk.out), HFk⟩
      case round =>
        obtain ⟨k, hk, rfl, HSz, HFz⟩ := hrel
        clear HSk HFk
        by_cases hlt : k < Z.length
        · have HNX := Lib.hid (show sumI 0#32 (zeroed H ++ Z.take (k + 1)) = upd (sumI 0#32 (zeroed H ++ Z.take k)) (Z.getD k 0).toNat by rw [take_snocD Z k hlt, ← List.append_assoc, sumI_snoc])
          have hck := cell_fr (cells_num w gz _ Z HZ.out k hlt) HFz.out (fun h => h)
          obtain ⟨hv0, hv1⟩ := bytes_getD HZb.out k hlt
          generalize Z.getD k 0 = v at hck hv0 hv1 HNX
          go_wp2_with fail
          refine (HCALL.out wr v _ hv0 hv1 HSz HFz).mono ?_
          rintro e w1 ⟨rfl, HS1, HF1⟩
          go_wp2_with fail
          refine ⟨⟨k + 1, by omega, by rw [Int.natCast_add]; rfl, Lib.hid (by rw [HNX.out]; exact HS1.out), HF1⟩, ?_⟩
          show Z.length - ((k : Int) + 1).toNat < Z.length - (k : Int).toNat
          omega
        · obtain rfl : k = Z.length := by omega
          rw [List.take_length] at HSz
          go_wp2_with fail
          go_loopw [49] (fun i wr => ∃ k : Nat, k ≤ segs.length ∧ i = .int .i64 k ∧ Hid (Sums wr (w.heap.size + 1) w.heap.size go gt (sumI 0#32 (zeroed H ++ Z ++ (segs.take k).flatten))) ∧ Hid (Fr (fun _ => False) w wr)) (fun i _ => segs.length - (intOf i).toNat)
          case atStart => exact ⟨0, by omega, rfl, Lib.hid (by simpa using HSz.out), HFz⟩
          case round =>
            obtain ⟨k, hk, rfl, HSs, HFs⟩ := hrel
            clear HSz HFz
            by_cases hlt : k < segs.length
            · obtain ⟨ad, A0, c0, rfl, hc0, hl0, hC0⟩ := at_L HS.out (k : Int) (by omega) (by omega)
              have hmem : rdL segs (k : Int) = segs[k] := by simp [rdL, List.getD_eq_getElem?_getD, List.getElem?_eq_getElem hlt]
              have hb := HSb.out _ (List.getElem_mem hlt)
              have hnx : segs.take (k + 1) = segs.take k ++ [segs[k]] := by rw [List.take_succ_eq_append_getElem hlt]
              rw [hmem] at hc0 hl0 hC0
              generalize segs[k] = s at hc0 hl0 hC0 hb hnx
              rw [Int.toNat_natCast] at hc0
              have HCK := Lib.hid hc0
              have hck := cell_fr hc0 HFs.out (fun h => h)
              have HNX := Lib.hid (show (segs.take (k + 1)).flatten = (segs.take k).flatten ++ s by rw [hnx, List.flatten_append]; simp)
              have HC0 := Lib.hid hC0
              obtain ⟨hb1, hb2⟩ := hb
              have HB1 := Lib.hid hb1
              clear hnx hC0 hc0 hmem hb1
              generalize (segs.take k).flatten = pre at HSs HNX
              go_wp2_with fail
              go_loopw [57] (fun i wr => ∃ j : Nat, j ≤ s.length ∧ i = .int .i64 j ∧ Hid (Sums wr (w.heap.size + 1) w.heap.size go gt (sumI 0#32 (zeroed H ++ Z ++ pre ++ s.take j))) ∧ Hid (Fr (fun _ => False) w wr)) (fun i _ => s.length - (intOf i).toNat)
              case atStart => exact ⟨0, by omega, rfl, Lib.hid (by simpa using HSs.out), HFs⟩
              case round =>
                obtain ⟨j, hj, rfl, HSj, HFj⟩ := hrel
                clear HSs HFs hck
                have hck := cell_fr HCK.out HFj.out (fun h => h)
                by_cases hjl : j < s.length
                · obtain ⟨ad1, rfl, hc1⟩ := Kd.at_int HC0.out (j : Int) (by omega) (by omega)
                  rw [Int.toNat_natCast] at hc1
                  have hcj := cell_fr hc1 HFj.out (fun h => h)
                  have hrd : rd s (j : Int) = s.getD j 0 := by simp [rd]
                  obtain ⟨hv0, hv1⟩ := bytes_getD HB1.out j hjl
                  have HNJ := Lib.hid (show sumI 0#32 (zeroed H ++ Z ++ pre ++ s.take (j + 1)) = upd (sumI 0#32 (zeroed H ++ Z ++ pre ++ s.take j)) (s.getD j 0).toNat by rw [take_snocD s j hjl, ← List.append_assoc, sumI_snoc])
                  rw [hrd] at hcj
                  generalize s.getD j 0 = v at hcj hv0 hv1 HNJ
                  clear hc1 hrd
                  go_wp2_with fail
                  refine (HCALL.out wr v _ hv0 hv1 HSj HFj).mono ?_
                  rintro e w1 ⟨rfl, HS1, HF1⟩
                  go_wp2_with fail
                  refine ⟨⟨j + 1, by omega, by rw [Int.natCast_add]; rfl, Lib.hid (by rw [HNJ.out]; exact HS1.out), HF1⟩, ?_⟩
                  show s.length - ((j : Int) + 1).toNat < s.length - (j : Int).toNat
                  omega
                · obtain rfl : j = s.length := by omega
                  rw [List.take_length] at HSj
                  go_wp2_with fail
                  refine ⟨⟨k + 1, by omega, by rw [Int.natCast_add]; rfl, Lib.hid (by rw [HNX.out, ← List.append_assoc]; exact HSj.out), HFj⟩, ?_⟩
                  show segs.length - ((k : Int) + 1).toNat < segs.length - (k : Int).toNat
                  omega
            · obtain rfl : k = segs.length := by omega
              rw [List.take_length] at HSs
              generalize hcrc : sumI 0#32 (zeroed H ++ Z ++ segs.flatten) = crc at HSs ⊢
              go_wp2_with fail
              have hle : Calls Tryz.prog 72 #[.agg #[], .slice (some ⟨gh, 22, none⟩) 4 5] wr.drew fun e w' => e = .returned (.int .u32 (Lib.leZ ((H.drop 22).take 4))) ∧ w'.cell? ⟨w.heap.size + 1, 0, none⟩ = some (.int .u32 (crc.toNat : Int)) ∧ w'.cell? ⟨4, 0, none⟩ = some u ∧ Hid (Fr (fun _ => False) w w') := by
                refine (le32_any wr.drew gh 22 _ H ((HH.out.fr HFs.out (fun h => h)).drew) HHb.out (by omega)).mono ?_
                rintro e w' ⟨rfl, hb⟩
                have hf := (HFs.out.drew).trans (Fr.of_below hb (Nat.le_refl _))
                have hc := (HSs.out.C.drew).below hb HSs.out.C.lt
                exact ⟨rfl, hc.one, cell_fr HE.out hf (fun h => h), Lib.hid hf⟩
              have hcc : wr.cell? ⟨w.heap.size + 1, 0, none⟩ = some (.int .u32 (crc.toNat : Int)) := HSs.out.C.one
              have HLE := Lib.hid hle
              clear hle
              go_region_with (refine HLE.out.mono ?_; rintro e w1 ⟨rfl, hc1, hu1, HF1⟩)
              all_goals
                go_wp2_with fail
                all_goals go_ret
                all_goals refine ⟨?_, HF1.out⟩
                all_goals first | rfl | (exfalso; rename_i hx1 hx2; subst hcrc; simp_all; done) | (exfalso; subst hcrc; simp_all; done)
end Go.Proofs.YtojdfjohmicopaaGreatDoor
