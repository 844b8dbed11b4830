/- A contract of the reader's channel mapping at every head that spec.HeadWrite writes. Condition: the head's packet has the length that its kind asks. A contract of the reader's queue: a packet is put in. Condition: the queue is empty, the packet is not. A contract of the reader's queue of a page's packets: the first page, one packet. Conditions: the queue and the piece are empty, the page's lengths are those of one packet. -/
import Derived.Test.YtojdfjohmicopaaGreatDoorMj
import Derived.Test.YtojdfjohmicopaaGreatDoorMg
namespace Go.Proofs.YtojdfjohmicopaaGreatDoor
open Go Go.RowKit Go.Proofs.YtojdfjohmicopaaGreatDoorW.PrintWords Go.Proofs.YtojdfjohmicopaaGreatDoor.Crc

set_option maxRecDepth 100000 in
set_option maxHeartbeats 2000000 in
theorem map_any (w : World) (go gi gk c : Nat) (K : List Int) (v0 v1 v2 v3 v4 v5 x2 x3 x4 x5 : Value) (hO : Blk w go 136 #[v0, v1, v2, v3, v4, v5])
    (hI : Blk w gi 183 #[.int .u8 (K.getD 18 0), .int .u8 (K.getD 9 0), x2, x3, x4, x5]) (hK : HeadPk K) (hR : Row w gk K) (hc : K.length ≤ c) (hgk : gk ≠ go) :
    Calls Tryz.prog 108 #[.pointer (some ⟨go, 0, none⟩), .pointer (some ⟨gi, 0, none⟩), .slice (some ⟨gk, 0, none⟩) K.length c] w fun e w' => e = .returned .nilIface ∧ (∃ v, Blk w' go 136 #[v0, v1, v2, v3, v4, v]) ∧ Fr (fun k => k = go) w w' := by
  have c0 := hI.six.1
  rcases hK.kind with ⟨h18, hl⟩ | ⟨h18, hl⟩
  · rw [h18] at c0
    rw [hl]
    refine (map0_any w go gi (some ⟨gk, 0, none⟩) c v0 v1 v2 v3 v4 v5 v5 hO c0).mono ?_
    rintro e w' ⟨rfl, h1, h2⟩
    exact ⟨rfl, ⟨_, h1⟩, h2⟩
  · have hb9 := (bytes_getD hK.bytes 9 (by have := hK.nine; omega)).2
    have HS := Lib.hid (smap_any w go gi gk c K v0 v1 v2 v3 v4 v5 (K.getD 9 0) hO hI.six.2.1 hK.nine (by omega) hR hl hc hgk)
    clear hO hI hR hl hc hgk hK hb9
    generalize K.getD 18 0 = kd at c0 h18
    rcases h18 with rfl | rfl
    all_goals
      go_enter Tryz.func108, Tryz.ntmps108
      go_wp2_with (go_at_call 113; refine HS.out.mono ?_; rintro e w' ⟨rfl, hx, hf⟩; have HX := Lib.hid hx; have HF := Lib.hid hf; clear hx hf)
      go_ret
      exact ⟨rfl, HX.out, HF.out⟩
end Go.Proofs.YtojdfjohmicopaaGreatDoor
namespace Go.Proofs.YtojdfjohmicopaaGreatDoor
open Go Go.RowKit Go.Proofs.YtojdfjohmicopaaGreatDoorW.PrintWords Go.Proofs.YtojdfjohmicopaaGreatDoor.Crc

theorem info_pk : (Tryz.prog.info? 179).map (fun i => (i.zero, i.size, i.bytes)) = some (some (.agg #[.slice none 0 0, .pointer none]), 2, 32) := by kernel_rfl
/-- The queue with one packet. -/
def Queued (w : World) (q : Value) (K : List Int) (g b0 b1 b2 b3 v ty s i n : Int) (B : Nat) : Prop :=
  ∃ gq cap gd cap2 gh, q = .slice (some ⟨gq, 0, none⟩) 1 cap ∧ B ≤ gq ∧ B ≤ gd ∧ B ≤ gh ∧ 1 ≤ cap ∧ K.length ≤ cap2 ∧ w.cell? ⟨gq, 0, none⟩ = some (.slice (some ⟨gd, 0, none⟩) K.length cap2) ∧ w.cell? ⟨gq, 1, none⟩ = some (.pointer (some ⟨gh, 0, none⟩)) ∧
    Row w gd K ∧ Blk w gh 67 (hdr g b0 b1 b2 b3 v ty s i n)

theorem own_cap {w : World} {base n cap g size : Nat} {e : TypeId} {xs : List Value} (h : w.ownsRow base e size (.slice (some ⟨g, 0, none⟩) n cap) n xs) : n ≤ cap := by
  rcases h.2 with ⟨h, _⟩ | ⟨g', cap', cur, h, _, _, hc, _⟩
  · cases h
  · injection h with _ _ h
    omega
theorem row_of_own {w : World} {base n cap g : Nat} {e : TypeId} {K : List Int} (h : w.ownsRow base e 1 (.slice (some ⟨g, 0, none⟩) n cap) n ([] ++ nums .u8 K)) (hl : g < w.heap.size) : Row w g K :=
  ⟨hl, fun j hj => by
    have hjl' : (nums .u8 K).length = K.length := by simp [nums]
    have hn := h.1
    rw [List.nil_append, hjl'] at hn
    have := h.cellAt j (by omega)
    simpa [nums, List.getD_eq_getElem?_getD, List.getElem?_eq_getElem hj] using this⟩
set_option maxRecDepth 100000 in
set_option maxHeartbeats 8000000 in
theorem enqueue_any (w : World) (go gp gh gk c : Nat) (K : List Int) (pp : Value) (d : Bool) (li : Int) (hl : Bool) (g b0 b1 b2 b3 v ty s i n : Int) (hO : w.cell? ⟨go, 4, none⟩ = some (.pointer (some ⟨gp, 0, none⟩))) (hgo : go ≠ gp)
    (hP : Pst w gp (.slice none 0 0) pp d li hl) (hG : Blk w gh 67 (hdr g b0 b1 b2 b3 v ty s i n)) (hK : Row w gk K) (h0 : 0 < K.length) (hm : K.length ≤ 300) (hgk : gk ≠ gp) :
    Calls Tryz.prog 117 #[.pointer (some ⟨go, 0, none⟩), .pointer (some ⟨gh, 0, none⟩), .slice (some ⟨gk, 0, none⟩) K.length c] w fun e w' => e = .returned (.tuple #[]) ∧ (∃ q, Pst w' gp q pp d li hl ∧ Queued w' q K g b0 b1 b2 b3 v ty s i n w.heap.size) ∧ Fr (fun k => k = gp) w w' := by
  obtain ⟨i0, hi0, hz0, hz1, hz2⟩ := info_parts info_u8
  obtain ⟨i1, hi1, hy0, hy1, hy2⟩ := info_parts info_pk
  obtain ⟨g0, g1, g2, g3, g4, g5, g6, g7, g8, g9⟩ := hG.ten
  have hgpl : gp < w.heap.size := Blk.lt hP
  have hgkl := hK.lt
  have hgol : go < w.heap.size := World.block_lt_of_cell? w _ hO
  have HK := Lib.hid hK
  have HP := Lib.hid hP
  clear hK hP hG
  go_enter Tryz.func117, Tryz.ntmps117
  go_upto_region 1 with fail
  have hb1 : Blk (w.alloc (.cells (hdr g b0 b1 b2 b3 v ty s i n) 67)) w.heap.size 67 (hdr g b0 b1 b2 b3 v ty s i n) := Blk.new w _ _
  have hf1 := (Fr.refl (fun k => k = gp) w).alloc (.cells (hdr g b0 b1 b2 b3 v ty s i n) 67)
  have HH1 := Lib.hid hb1
  have HF1 := Lib.hid hf1
  have HP1 := Lib.hid (show Pst _ gp _ pp d li hl from Blk.alloc HP.out (.cells (hdr g b0 b1 b2 b3 v ty s i n) 67))
  have HK1 := Lib.hid (HK.out.fr hf1 hgk)
  have k0 := cell_fr hO hf1 hgo
  have hsz1 : w.heap.size < (w.alloc (.cells (hdr g b0 b1 b2 b3 v ty s i n) 67)).heap.size := hb1.lt
  clear hb1 hf1 HP HK hO g0 g1 g2 g3 g4 g5 g6 g7 g8 g9
  generalize w.alloc (.cells (hdr g b0 b1 b2 b3 v ty s i n) 67) = W1 at HH1 HF1 HP1 HK1 k0 hsz1 ⊢
  generalize hgn : w.heap.size = gn at HH1 hsz1 hgpl hgkl hgol ⊢
  obtain ⟨p0, -, -, -, -⟩ := Blk.five HP1.out
  have pf := Blk.frozen HP1.out
  have HN := Lib.hid (show ∀ j u, (nums .u8 K)[j]? = some u → W1.drew.cell? ((⟨gk, 0, none⟩ : Addr).add j) = some u by
    intro j u hu
    rw [Go.WideShapes.add_plain]
    simp only [nums, List.getElem?_map, Option.map_eq_some_iff] at hu
    obtain ⟨z, hz, rfl⟩ := hu
    obtain ⟨hlt, hz⟩ := List.getElem?_eq_some_iff.1 hz
    have := HK1.out.at_ j hlt
    rw [List.getD_eq_getElem?_getD, List.getElem?_eq_getElem hlt, hz] at this
    simpa using this)
  have HX := Lib.hid (show (nums .u8 K).length = K.length * 1 by simp [nums])
  have HB := Lib.hid (show (0 + K.length) * 1 ≤ 140737488355328 by omega)
  have HM := Lib.hid (show 0 + K.length ≤ maxLen by unfold maxLen; omega)
  refine wp_region_noPanic ?_
  go_region_law (first | (refine step_append_lies _ (by rfl) (.const (.slice none 0 0)) (.tmp 17) _ (by rfl) W1.heap.size 5 i0 (.int .u8 0) 1 1 Tryz.underlying33 hi0 hz0 hz1 hz2 rfl (by omega) nilS 0 [] (by rfl) (World.ownsRow_nil _ _ _ _) ⟨gk, 0, none⟩ K.length c (nums .u8 K) (by rfl) HX.out HN.out (by intro u hu; simp only [nums, List.mem_map] at hu; obtain ⟨z, _, rfl⟩ := hu; rfl) h0 HM.out HB.out (Nat.le_refl _) W1.heap.size rfl ?_; intro gd capd w3 hown3 hgrow hat hlt; have HO3 := Lib.hid hown3; have HAT := Lib.hid hat; have HF3 := Lib.hid (Fr.of_below (S := fun k => k = gp) (B := W1.heap.size) ((below_drew' (Below.refl _ W1)).grown hgrow (Nat.le_refl _) (by simp [Value.ownBlock])) (Nat.le_refl _)); have HP3 := Lib.hid (show Pst w3 gp (.slice none 0 0) pp d li hl from Blk.grown (Blk.drew HP1.out) hgrow (by simp [Value.ownBlock])); have p0b := (Blk.five HP3.out).1; have pfb := Blk.frozen HP3.out; have p0c : ∀ o, (w3.alloc o).cell? ⟨gp, 0, none⟩ = some (.slice none 0 0) := (fun o => (Blk.five (Blk.alloc HP3.out o)).1); clear hown3 hgrow hat) | (refine step_append_lies _ (by rfl) (.tmp 16) (.tmp 20) _ (by rfl) w3.heap.size 179 i1 _ 2 32 Tryz.underlying143 hi1 hy0 hy1 hy2 rfl (by omega) nilS 0 [] (by rfl) (World.ownsRow_nil _ _ _ _) ⟨w3.heap.size, 0, none⟩ 1 1 [.slice (some ⟨gd, 0, none⟩) K.length capd, .pointer (some ⟨gn, 0, none⟩)] (by rfl) (by rfl) (World.news_of_block (cs := #[.slice (some ⟨gd, 0, none⟩) K.length capd, .pointer (some ⟨gn, 0, none⟩)]) (t := 179) (fr := (0, 0)) (heap_alloc_new w3 _)) (by simp [Value.oneCell']) (by omega) (by simp [maxLen]) (by omega) (by simp) (w3.heap.size + 1) (by simp) ?_; intro gq capq w4 hown4 hgrow4 hat4 hlt4; have HO4 := Lib.hid hown4; have HAT4 := Lib.hid hat4; have HF4 := Lib.hid (Fr.of_below (S := fun k => k = gp) (B := w3.heap.size) ((((Below.refl _ w3).alloc (Nat.le_refl _) _)).grown hgrow4 (by simp) (by simp [Value.ownBlock])) (Nat.le_refl _)); have HP4 := Lib.hid (show Pst w4 gp (.slice none 0 0) pp d li hl from Blk.grown (Blk.alloc HP3.out _) hgrow4 (by simp [Value.ownBlock])); have p0d := (Blk.five HP4.out).1; have pfd := Blk.frozen HP4.out; clear hown4 hgrow4 hat4) | (go_simp; go_at_call 74; refine (state_any _ go gp (by first | exact k0 | exact cell_fr k0 HF3.out hgo | exact cell_fr k0 (HF3.out.alloc _) hgo | exact cell_fr (cell_fr k0 HF3.out hgo) HF4.out hgo)).mono ?_; rintro e w' ⟨rfl, rfl⟩))
  all_goals
    refine NoPanic.normal ?_
    go_wp2_with fail
    first | go_end0 | refine bodyPost_ret (results_none rfl _ _ _) rfl ?_
    have hgq : gq = w3.heap.size + 1 := by
      rcases HAT4.out with h | h
      · simp [Value.ownBlock] at h
      · exact h
    have hgd : gd = W1.heap.size := by
      rcases HAT.out with h | h
      · simp [Value.ownBlock] at h
      · exact h
    have hS := (Fr.refl (fun k => k = gp) w4).set (p := ⟨gp, 0, none⟩) (.inl rfl) (.slice (some ⟨gq, 0, none⟩) 1 capq)
    have hF := HF4.out.trans hS
    have hs3 := HF3.out.size
    have hc3 := own_cap HO3.out
    have hc4 := own_cap HO4.out
    refine ⟨rfl, ⟨.slice (some ⟨gq, 0, none⟩) 1 capq, Blk.store HP4.out rfl, gq, capq, gd, capd, gn, rfl, by omega, by omega, by omega, by omega, by omega, cell_fr (by simpa using HO4.out.cellAt 0 (by omega)) hS (by show ¬ gq = gp; omega), cell_fr (by simpa using HO4.out.cellAt 1 (by omega)) hS (by show ¬ gq = gp; omega), (row_of_own HO3.out hlt).fr hF (by omega), HH1.out.fr (HF3.out.trans hF) (by omega)⟩, HF1.out.trans (HF3.out.trans hF)⟩
end Go.Proofs.YtojdfjohmicopaaGreatDoor
namespace Go.Proofs.YtojdfjohmicopaaGreatDoor
open Go Go.RowKit Go.Proofs.YtojdfjohmicopaaGreatDoorW.PrintWords Go.Proofs.YtojdfjohmicopaaGreatDoor.Crc

theorem row_of_R {w : World} {base g cap : Nat} {ok : Nat → Prop} {K : List Int} (h : (Kd.int .u8).R 5 w base ok (.slice (some ⟨g, 0, none⟩) K.length cap) K) (hl : g < w.heap.size) : Row w g K :=
  ⟨hl, fun j hj => by
    have := (Kd.R_cell (0 : Int) h (j : Int) (by omega) (by omega)).1
    simpa [rdOf] using this⟩
/-- Lengths of one packet. -/
structure OnePk (L : List Int) : Prop where
  bytes : Bytes L
  pos : 0 < L.length
  max : L.length ≤ 255
  full : ∀ j, j + 1 < L.length → L.getD j 0 = 255
  last : L.getD (L.length - 1) 0 ≠ 255

theorem Queued.fr {S : Nat → Prop} {w w' : World} {q : Value} {K : List Int} {g b0 b1 b2 b3 v ty s i n : Int} {B : Nat} (h : Queued w q K g b0 b1 b2 b3 v ty s i n B) (hf : Fr S w w') (hn : ∀ k, B ≤ k → ¬ S k) : Queued w' q K g b0 b1 b2 b3 v ty s i n B := by
  obtain ⟨gq, cap, gd, cap2, gh, rfl, h1, h2, h3, h4, h5, h6, h7, h8, h9⟩ := h
  exact ⟨gq, cap, gd, cap2, gh, rfl, h1, h2, h3, h4, h5, cell_fr h6 hf (hn _ h1), cell_fr h7 hf (hn _ h1), h8.fr hf (hn _ h2), h9.fr hf (hn _ h3)⟩
theorem Queued.lower {w : World} {q : Value} {K : List Int} {g b0 b1 b2 b3 v ty s i n : Int} {B B' : Nat} (h : Queued w q K g b0 b1 b2 b3 v ty s i n B) (hB : B' ≤ B) : Queued w q K g b0 b1 b2 b3 v ty s i n B' := by
  obtain ⟨gq, cap, gd, cap2, gh, rfl, h1, h2, h3, h⟩ := h
  exact ⟨gq, cap, gd, cap2, gh, rfl, by omega, by omega, by omega, h⟩

set_option maxRecDepth 100000 in
set_option maxHeartbeats 8000000 in
theorem queue_any (w : World) (go gp gh gz gv : Nat) (L : List Int) (segs : List (List Int)) (sv : Value) (li : Int) (g b0 b1 b2 b3 v s i n : Int) (hO : w.cell? ⟨go, 4, none⟩ = some (.pointer (some ⟨gp, 0, none⟩))) (hgo : go ≠ gp)
    (hP : Pst w gp (.slice none 0 0) (.slice none 0 0) false li false) (hG : Blk w gh 67 (hdr g b0 b1 b2 b3 v 2 s i n)) (hgh : gh ≠ gp)
    (hZ : Blk w gz 5 (nums .u8 L).toArray) (hgz : gz ≠ gp) (hL : OnePk L) (hV : SegK.R 33 w gv (fun j => gv ≤ j) sv segs) (hgv : gp < gv) (hsl : segs.length = L.length)
    (K : List Int) (hKe : segs.flatten = K) (h0 : 0 < K.length) (hm : K.length ≤ 300) :
    Calls Tryz.prog 111 #[.pointer (some ⟨go, 0, none⟩), sv, .slice (some ⟨gz, 0, none⟩) L.length L.length, .pointer (some ⟨gh, 0, none⟩)] w fun e w' => e = .returned .nilIface ∧ (∃ q pp li hl, Pst w' gp q pp false li hl ∧ Queued w' q K g b0 b1 b2 b3 v 2 s i n w.heap.size) ∧ Fr (fun k => k = gp) w w' := by
  obtain ⟨A, cA, rfl, hcA, hC⟩ := Kd.R_reads hV
  have HP := Lib.hid hP; have HG := Lib.hid hG; have HZ := Lib.hid hZ; have HL := Lib.hid hL; have HC := Lib.hid hC; have HO := Lib.hid hO; have HV := Lib.hid hV
  have hgpl : gp < w.heap.size := Blk.lt hP
  have hgol : go < w.heap.size := World.block_lt_of_cell? w _ hO
  have HSL := Lib.hid hsl
  have hlp := hL.pos; have hlm := hL.max
  have hnp : 0 < segs.length := by omega
  have HKE := Lib.hid hKe
  clear hP hG hZ hL hC hV hsl hKe
  go_enter Tryz.func111, Tryz.ntmps111
  go_wp2_with (first | (go_at_call 74; refine (state_any _ go gp HO.out).mono ?_; rintro e w' ⟨rfl, hw⟩; obtain rfl := hw.symm; clear hw) | (go_at_call 115; refine (prepare_any _ go gp gh li g b0 b1 b2 b3 v s i n HO.out HP.out HG.out).mono ?_; rintro e w1 ⟨rfl, nd, rfl⟩))
  have HF0 := Lib.hid ((Fr.refl (fun k => k = gp) w).drewN nd)
  have HP0 := Lib.hid (show Pst (w.drewN nd) gp _ _ false li false from Blk.drewN HP.out nd)
  generalize w.drewN nd = w0 at HF0 HP0 ⊢
  go_loopw [24] (fun i' wr => ∃ k : Nat, k ≤ segs.length ∧ i' = .int .i64 k ∧ Hid (Fr (fun k => k = gp) w wr) ∧ Hid (k < segs.length → ∃ pp, Pst wr gp (.slice none 0 0) pp false li false ∧ (Kd.int .u8).R 5 wr w.heap.size (fun j => w.heap.size ≤ j) pp (segs.take k).flatten) ∧ Hid (k = segs.length → ∃ q, Pst wr gp q (.slice none 0 0) false li false ∧ Queued wr q K g b0 b1 b2 b3 v 2 s i n w.heap.size)) (fun i' _ => segs.length - (intOf i').toNat)
  case atStart => exact ⟨0, by omega, rfl, HF0, Lib.hid (fun _ => ⟨_, HP0.out, Kd.R_nil _ _ _ _ _⟩), Lib.hid (fun h => by omega)⟩
  case round =>
    obtain ⟨k, hk, rfl, HFr, HA, HB⟩ := hrel
    clear HF0 HP0
    by_cases hlt : k < segs.length
    · obtain ⟨pp, hpp, hR⟩ := HA.out hlt
      have HR := Lib.hid hR
      have HPP := Lib.hid hpp
      clear HA HB hR
      have HVr := Kd.R_step HV.out (fun j (ho : gv ≤ j) hlt => HFr.out.block j hlt (by omega))
      obtain ⟨-, -, hCr⟩ := Kd.R_reads' HVr
      obtain ⟨ad, A0, c0, rfl, hc0, hl0, hC0⟩ := at_L hCr (k : Int) (by omega) (by omega)
      have hmem : rdL segs (k : Int) = segs[k] := by simp [rdL, List.getD_eq_getElem?_getD, List.getElem?_eq_getElem hlt]
      rw [hmem] at hc0 hl0 hC0
      have HNX := Lib.hid (show (segs.take (k + 1)).flatten = (segs.take k).flatten ++ segs[k] by rw [List.take_succ_eq_append_getElem hlt, List.flatten_append]; simp)
      have hlen : (segs.take (k + 1)).flatten.length ≤ K.length := by
        conv => rhs; rw [← HKE.out, ← List.take_append_drop (k + 1) segs, List.flatten_append, List.length_append]
        omega
      rw [HNX.out, List.length_append] at hlen
      generalize segs[k] = sg at hc0 hl0 hC0 HNX hlen
      rw [Int.toNat_natCast] at hc0
      have hkl : k < L.length := by rw [← HSL.out]; exact hlt
      have HC0 := Lib.hid hC0
      have hck := cell_fr (cells_num w gz _ L HZ.out k hkl) HFr.out hgz
      obtain ⟨p0, p1, p2, p3, p4⟩ := Blk.five HPP.out
      have pf := Blk.frozen HPP.out
      have HOW := Lib.hid (show some gp ≠ pp.ownBlock from fun h => by have := HR.out.1 gp h.symm; omega)
      have hszr : w.heap.size ≤ wr.heap.size := HFr.out.size
      have HLN := Lib.hid (show ((segs.take k).flatten.length + sg.length) * 1 ≤ 140737488355328 by omega)
      clear hCr HVr hC0 hmem hlen
      by_cases hlast : k + 1 < segs.length
      · have h255 := HL.out.full k (by rw [← HSL.out]; exact hlast)
        rw [h255] at hck
        clear h255
        go_wp2_with (at_builtin; refine Kd.R_append_row (Value.int .u8) (0 : Int) (w0 := wr) w.heap.size rfl (.tmp 44) (.tmp 45) 33 5 (.int .u8 0) 1 rfl Tryz.underlying33 info_u8 rfl (by decide) pp (segs.take k).flatten sg A0 sg.length c0 (fun j => w.heap.size ≤ j) rfl rfl (fun j hj => Nat.le_trans hszr hj) HR.out HC0.out (Below.refl _ _) hszr HLN.out ?_; intro v1 w1 hR1 hb1 hg1 hat1; obtain ⟨A1, c1, hv1⟩ := Kd.R_slice hR1; generalize hN1 : ((segs.take k).flatten ++ sg).length = n1 at hv1; have HN1 := Lib.hid hN1; clear hN1; subst hv1; have HR1 := Lib.hid hR1; have HB1 := Lib.hid hb1; have HP1 := Lib.hid (show Pst w1 gp _ pp false li false from Blk.grown HPP.out hg1 HOW.out); have HF1 := Lib.hid (show Fr (fun j => w.heap.size ≤ j) wr w1 from ⟨hb1.os, hb1.tape, hb1.output, hb1.size, fun j hj hn => hb1.block j (Nat.lt_of_not_le hn)⟩); clear hR1 hb1 hg1 hat1; obtain ⟨q0, q1, q2, q3, q4⟩ := Blk.five HP1.out; have qf := Blk.frozen HP1.out)
        refine ⟨⟨k + 1, by omega, by rw [Int.natCast_add]; rfl, Lib.hid ((HFr.out.call HF1.out (fun j hj => .inr hj)).set (p := ⟨gp, 1, none⟩) (.inl rfl) _), Lib.hid (fun _ => ⟨_, Blk.store (i := 1) HP1.out rfl, by rw [HNX.out]; exact Kd.R_far HR1.out (p := ⟨gp, 1, none⟩) (fun j hj => by show j ≠ gp; omega) _⟩), Lib.hid (fun h => by omega)⟩, ?_⟩
        show segs.length - ((k : Int) + 1).toNat < segs.length - (k : Int).toNat
        omega
      · have hl1 : k + 1 = segs.length := by omega
        have hz : ¬ L.getD k 0 = 255 := by
          have := HL.out.last
          rw [← HSL.out, ← hl1, Nat.add_sub_cancel] at this
          exact this
        have HK := Lib.hid (show (segs.take k).flatten ++ sg = K by rw [← HKE.out, ← HNX.out, hl1, List.take_length])
        generalize L.getD k 0 = z at hz hck
        have HL1 := Lib.hid hl1
        clear hl1
        go_upto_region 13 with (at_builtin; refine Kd.R_append_row (Value.int .u8) (0 : Int) (w0 := wr) w.heap.size rfl (.tmp 44) (.tmp 45) 33 5 (.int .u8 0) 1 rfl Tryz.underlying33 info_u8 rfl (by decide) pp (segs.take k).flatten sg A0 sg.length c0 (fun j => w.heap.size ≤ j) rfl rfl (fun j hj => Nat.le_trans hszr hj) HR.out HC0.out (Below.refl _ _) hszr HLN.out ?_; intro v1 w1 hR1 hb1 hg1 hat1; obtain ⟨A1, c1, hv1⟩ := Kd.R_slice hR1; generalize hN1 : ((segs.take k).flatten ++ sg).length = n1 at hv1; have HN1 := Lib.hid hN1; clear hN1; subst hv1; have HR1 := Lib.hid hR1; have HB1 := Lib.hid hb1; have HP1 := Lib.hid (show Pst w1 gp _ pp false li false from Blk.grown HPP.out hg1 HOW.out); have HF1 := Lib.hid (show Fr (fun j => w.heap.size ≤ j) wr w1 from ⟨hb1.os, hb1.tape, hb1.output, hb1.size, fun j hj hn => hb1.block j (Nat.lt_of_not_le hn)⟩); clear hR1 hb1 hg1 hat1; obtain ⟨q0, q1, q2, q3, q4⟩ := Blk.five HP1.out; have qf := Blk.frozen HP1.out)
        rw [HK.out] at HR1 HN1
        have hn1 := HN1.out
        subst hn1
        obtain ⟨gx, cx, hgx, hgx1, hgx2, _⟩ := Kd.R_form HR1.out h0
        injection hgx with e1 e2 e3
        subst e1 e3
        have HF2 := Lib.hid ((HFr.out.call HF1.out (fun j hj => .inr hj)).set (p := ⟨gp, 1, none⟩) (.inl rfl) (.slice (some ⟨gx, 0, none⟩) K.length c1))
        have HP2 := Lib.hid (show Pst _ gp _ _ false li false from Blk.store (i := 1) (u := .slice (some ⟨gx, 0, none⟩) K.length c1) HP1.out rfl)
        have HR2 := Lib.hid ((row_of_R HR1.out hgx2).fr ((Fr.refl (fun k => k = gp) w1).set (p := ⟨gp, 1, none⟩) (.inl rfl) (.slice (some ⟨gx, 0, none⟩) K.length c1)) (show ¬ gx = gp by omega))
        clear q0 q1 q2 q3 q4 qf HR1 HB1 HP1 HF1 p0 p1 p2 p3 p4 pf hck hc0
        generalize w1.setCell ⟨gp, 1, none⟩ (.slice (some ⟨gx, 0, none⟩) K.length c1) = w2 at HF2 HP2 HR2 ⊢
        obtain ⟨q0, q1, q2, q3, q4⟩ := Blk.five HP2.out
        have qf := Blk.frozen HP2.out
        have hx : gx ≠ gp := by omega
        have HE := Lib.hid (enqueue_any w2 go gp gh gx c1 K _ false li false g b0 b1 b2 b3 v 2 s i n (cell_fr HO.out HF2.out hgo) hgo HP2.out (HG.out.fr HF2.out hgh) HR2.out h0 hm hx)
        have hsz2 : w.heap.size ≤ w2.heap.size := HF2.out.size
        clear HP2 HR2
        go_wp2_with fail
        refine HE.out.mono ?_
        rintro e w3 ⟨rfl, ⟨q, hp3, hq3⟩, hf3⟩
        have HP3 := Lib.hid hp3; have HQ3 := Lib.hid hq3; have HF3 := Lib.hid (HF2.out.trans hf3)
        clear hp3 hq3 hf3 q0 q1 q2 q3 q4 qf
        obtain ⟨q0, q1, q2, q3, q4⟩ := Blk.five HP3.out
        have qf := Blk.frozen HP3.out
        go_wp2_with fail
        refine ⟨⟨k + 1, by omega, by rw [Int.natCast_add]; rfl, Lib.hid (HF3.out.set (p := ⟨gp, 1, none⟩) (.inl rfl) _), Lib.hid (fun h => absurd h hlast), Lib.hid (fun _ => ⟨q, Blk.store (i := 1) HP3.out rfl, (HQ3.out.fr ((Fr.refl (fun k => k = gp) w3).set (p := ⟨gp, 1, none⟩) (.inl rfl) _) (fun j hj => by omega)).lower hsz2⟩)⟩, ?_⟩
        show segs.length - ((k : Int) + 1).toNat < segs.length - (k : Int).toNat
        omega
    · obtain rfl : k = segs.length := by omega
      obtain ⟨q, hp, hq⟩ := HB.out rfl
      have HQ := Lib.hid hq
      have HM := Lib.hid (mark_any wr go gp gh q _ false li false g b0 b1 b2 b3 v 2 s i n (cell_fr HO.out HFr.out hgo) hp (HG.out.fr HFr.out hgh))
      clear HA HB hp hq
      go_wp2_with fail
      refine HM.out.mono ?_
      rintro e w3 ⟨rfl, ⟨li3, hl3, hp3⟩, hf3⟩
      have HP3 := Lib.hid hp3; have HF3 := Lib.hid hf3
      clear hp3 hf3
      go_wp2_with fail
      go_ret
      exact ⟨rfl, ⟨q, _, li3, hl3, HP3.out, HQ.out.fr HF3.out (fun j hj => by omega)⟩, HFr.out.trans HF3.out⟩
end Go.Proofs.YtojdfjohmicopaaGreatDoor
