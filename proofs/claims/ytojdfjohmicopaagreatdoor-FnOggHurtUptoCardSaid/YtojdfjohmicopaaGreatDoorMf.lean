/- A contract of the reader's walk over one page that lies whole in the bytes. Conditions: the page lies whole in the bytes; the variable of the sums' error is set. -/
import Derived.Test.YtojdfjohmicopaaGreatDoorMe
import Derived.Deep.DeepCutAuto
namespace Go.Proofs.YtojdfjohmicopaaGreatDoor
open Go Go.RowKit Go.Proofs.YtojdfjohmicopaaGreatDoorW.PrintWords Go.Proofs.YtojdfjohmicopaaGreatDoor.Crc

/-- A row of bytes in memory, at its block's head. -/
structure Row (w : World) (g : Nat) (K : List Int) : Prop where
  lt : g < w.heap.size
  at_ : ∀ j, j < K.length → w.cell? ⟨g, j, none⟩ = some (.int .u8 (K.getD j 0))
theorem Row.fr {S : Nat → Prop} {w w' : World} {g : Nat} {K : List Int} (h : Row w g K) (hf : Fr S w w') (hn : ¬ S g) : Row w' g K := ⟨Nat.lt_of_lt_of_le h.lt hf.size, fun j hj => cell_fr (h.at_ j hj) hf hn⟩
theorem Row.below {B : Nat} {w w' : World} {g : Nat} {K : List Int} (h : Row w g K) (hb : Below B w w') (hg : g < B) : Row w' g K := ⟨Nat.lt_of_lt_of_le h.lt hb.size, fun j hj => (hb.cell (p := ⟨g, j, none⟩) hg).trans (h.at_ j hj)⟩
/-- The reader over bytes Z, at a place. -/
structure Rdr (w : World) (go gs gb gt gp : Nat) (x : Value) (Z : List Int) (pos : Nat) : Prop where
  O : Blk w go 136 #[.iface 91 (.pointer (some ⟨gs, 0, none⟩)), .int .i64 0, .pointer (some ⟨gt, 0, none⟩), .bool true, .pointer (some ⟨gp, 0, none⟩), x]
  S : pos < Z.length → ∃ c, Z.length - pos ≤ c ∧ c ≤ 9223372036854775807 ∧ Src w gs gb pos (Z.length - pos) c
  s : gs < w.heap.size
  D : Row w gb Z
  T : Blk w gt 172 (row 256).toArray
  ne : gs ≠ go ∧ gs ≠ gb ∧ gs ≠ gt
theorem Rdr.fr {w w' : World} {S : Nat → Prop} {go gs gb gt gp : Nat} {x : Value} {Z : List Int} {pos : Nat} (h : Rdr w go gs gb gt gp x Z pos) (hf : Fr S w w') (h1 : ¬ S go) (h2 : ¬ S gs) (h3 : ¬ S gb) (h4 : ¬ S gt) : Rdr w' go gs gb gt gp x Z pos :=
  ⟨h.O.fr hf h1, fun hp => (by obtain ⟨c, h1, h3, h4⟩ := h.S hp; exact ⟨c, h1, h3, Blk.fr h4 hf h2⟩), Nat.lt_of_lt_of_le h.s hf.size, h.D.fr hf h3, h.T.fr hf h4, h.ne⟩
theorem Rdr.cells {w : World} {go gs gb gt gp : Nat} {x : Value} {Z : List Int} {pos : Nat} (h : Rdr w go gs gb gt gp x Z pos) :
    w.cell? ⟨go, 0, none⟩ = some (.iface 91 (.pointer (some ⟨gs, 0, none⟩))) ∧ w.cell? ⟨go, 2, none⟩ = some (.pointer (some ⟨gt, 0, none⟩)) ∧ w.cell? ⟨go, 3, none⟩ = some (.bool true) ∧ w.cell? ⟨go, 4, none⟩ = some (.pointer (some ⟨gp, 0, none⟩)) :=
  ⟨by simpa using h.O.cell 0, by simpa using h.O.cell 2, by simpa using h.O.cell 3, by simpa using h.O.cell 4⟩
/-- So many bytes from a place on. -/
def cut (Z : List Int) (p n : Nat) : List Int := (Z.drop p).take n
theorem cut_length (Z : List Int) (p n : Nat) (h : p + n ≤ Z.length) : (cut Z p n).length = n := by simp [cut]; omega
theorem cut_bytes {Z : List Int} (h : Bytes Z) (p n : Nat) : Bytes (cut Z p n) := fun v hv => h v (List.mem_of_mem_drop (List.mem_of_mem_take hv))
theorem cut_get (Z : List Int) (p n k : Nat) (h : k < n) : (cut Z p n).getD k 0 = Z.getD (p + k) 0 := by
  simp [cut, List.getD_eq_getElem?_getD, List.getElem?_take, h, List.getElem?_drop]

/-- io.ReadFull by the reader: the next bytes into a buffer. -/
theorem take_any (w : World) (go gs gb gt gp gx pos n : Nat) (x : Value) (Z : List Int) (cur : Array Value) (hR : Rdr w go gs gb gt gp x Z pos) (hfit : pos + n ≤ Z.length) (hZ : Z.length < 4611686018427387904)
    (hX : Blk w gx 5 cur) (hc : cur.size = n) (hgx : gx ≠ gs ∧ gx ≠ gb ∧ gx ≠ gt ∧ gx ≠ go) :
    Calls Tryz.prog 70 #[.iface 91 (.pointer (some ⟨gs, 0, none⟩)), .slice (some ⟨gx, 0, none⟩) n n] w fun e w' => e = .returned (.tuple #[.int .i64 n, .nilIface]) ∧
      Blk w' gx 5 (nums .u8 (cut Z pos n)).toArray ∧ Rdr w' go gs gb gt gp x Z (pos + n) ∧ Fr (fun k => k = gs ∨ k = gx) w w' := by
  have hl : (nums .u8 (cut Z pos n)).length = n := by simp [nums, cut_length Z pos n hfit]
  obtain ⟨cp, hcp, hcm, hSS⟩ : ∃ cp, Z.length - pos ≤ cp ∧ cp ≤ 9223372036854775807 ∧ (0 < n → Src w gs gb pos (Z.length - pos) cp) := by
    by_cases hn : 0 < n
    · obtain ⟨c, h1, h2, h3⟩ := hR.S (by omega)
      exact ⟨c, h1, h2, fun _ => h3⟩
    · exact ⟨Z.length, by omega, by omega, fun h => absurd h hn⟩
  refine (full_any w gs gb gx pos n (Z.length - pos) cp (nums .u8 (cut Z pos n)) cur (by omega) hcm hcp hSS hX hc hl ?_ ?_ hgx.1).mono ?_
  · intro v hv
    simp only [nums, List.mem_map] at hv
    obtain ⟨z, _, rfl⟩ := hv
    rfl
  · intro j v hv
    have hj : j < n := by rw [← hl]; exact (List.getElem?_eq_some_iff.mp hv).1
    have := hR.D.at_ (pos + j) (by omega)
    rw [this, ← hv]
    simp [nums, cut, List.getElem?_take, hj, List.getElem?_drop, List.getD_eq_getElem?_getD]
    have hlt : pos + j < Z.length := by omega
    simp [List.getElem?_eq_getElem hlt]
  · rintro e w' ⟨rfl, hX', hS', h0, hf⟩
    refine ⟨rfl, hX', ?_, hf⟩
    by_cases hn : n = 0
    · subst hn
      rw [h0 rfl]
      exact hR
    · have n1 : ¬ (gs = gs ∨ gs = gx) → False := fun h => h (.inl rfl)
      refine ⟨hR.O.fr hf (by rintro (h | h); exact hR.ne.1 h.symm; exact hgx.2.2.2 h.symm), fun hp => ?_, Nat.lt_of_lt_of_le hR.s hf.size, hR.D.fr hf (by rintro (h | h); exact hR.ne.2.1 h.symm; exact hgx.2.1 h.symm), hR.T.fr hf (by rintro (h | h); exact hR.ne.2.2 h.symm; exact hgx.2.2.1 h.symm), hR.ne⟩
      have := hS' (by omega) (by omega)
      rw [show Z.length - pos - n = Z.length - (pos + n) by omega] at this
      exact ⟨cp - n, by omega, by omega, this⟩

theorem zeros27 (W : World) : (Instr.makeSlice 33 (.int .i64 27) (.int .i64 27)).run Tryz.prog W = .ok (.slice (some ⟨W.heap.size, 0, none⟩) 27 27) (W.alloc (.cells (Array.replicate 27 (.int .u8 0)) 5)) := by kernel_rfl

theorem info_row : (Tryz.prog.info? 33).map (fun i => (i.zero, i.size, i.bytes)) = some (some (.slice none 0 0), 1, 24) := by kernel_rfl
/-- A row of slices of bytes. -/
abbrev SegK : Kd (List Int) := Kd.slice 5 (Kd.int .u8)
theorem seg_M (W : World) (base g : Nat) (s : List Int) (hB : Blk W g 5 (nums .u8 s).toArray) (hb : base ≤ g) (hl : s.length ≤ 255) : SegK.M W base (fun j => j = g) s [.slice (some ⟨g, 0, none⟩) s.length s.length] := by
  refine ⟨_, rfl, Kd.R_of_own (h1 := fun _ => rfl) ⟨by simp [encs], .inr ⟨g, s.length, _, rfl, hb, hB, Nat.le_refl _, ?_, by simp [nums], ?_⟩⟩ (fun k hk => by simpa [Value.ownBlock] using hk.symm)⟩
  · simp [maxLen]; omega
  · simp only [Nat.mul_one]; exact List.take_of_length_le (by simp [nums])
theorem empty_R (W : World) (g base : Nat) (ok : Nat → Prop) (hB : Blk W g 33 #[]) (hb : base ≤ g) (hk : ok g) : SegK.R 33 W base ok (.slice (some ⟨g, 0, none⟩) 0 0) [] :=
  ⟨fun k h => by have : g = k := by simpa [Value.ownBlock] using h
                 subst this; exact hk, [], ⟨rfl, .inr ⟨g, 0, #[], rfl, hb, hB, Nat.le_refl _, by simp [maxLen], rfl, rfl⟩⟩, Reps.none _ _⟩
/-- So many noughts, as make lays them. -/
def zc (n : Nat) : Array Value := madeCells #[Value.int .u8 0] n
theorem zc_size (n : Nat) : (zc n).size = n := by simp [zc, madeCells]
theorem make8 (n : Nat) (hn : n < 256) (W : World) : (Instr.makeSlice 33 (.int .u8 n) (.int .u8 n)).run Tryz.prog W = .ok (.slice (some ⟨W.heap.size, 0, none⟩) n n) (W.alloc (.cells (zc n) 5)) := by
  obtain ⟨i, hi, hx⟩ := Option.map_eq_some_iff.1 (show (Tryz.prog.info? 5).map (fun i => (i.zero, i.size, i.bytes)) = some (some (.int .u8 0), 1, 1) by kernel_rfl)
  simp only [Prod.mk.injEq] at hx
  have := run_make (P := Tryz.prog) W 33 5 i (.int .u8 0) Tryz.underlying33 hi hx.1 .u8 .u8 n n (by omega) (Int.le_refl _) (by rw [hx.2.2]; omega) (by omega)
  simpa [hx.2.1, zc, Value.cells] using this
theorem make64 (n : Nat) (hn : n < 256) (W : World) : (Instr.makeSlice 33 (.int .i64 n) (.int .i64 n)).run Tryz.prog W = .ok (.slice (some ⟨W.heap.size, 0, none⟩) n n) (W.alloc (.cells (zc n) 5)) := by
  obtain ⟨i, hi, hx⟩ := Option.map_eq_some_iff.1 (show (Tryz.prog.info? 5).map (fun i => (i.zero, i.size, i.bytes)) = some (some (.int .u8 0), 1, 1) by kernel_rfl)
  simp only [Prod.mk.injEq] at hx
  have := run_make (P := Tryz.prog) W 33 5 i (.int .u8 0) Tryz.underlying33 hi hx.1 .i64 .i64 n n (by omega) (Int.le_refl _) (by rw [hx.2.2]; omega) (by omega)
  simpa [hx.2.1, zc, Value.cells] using this
/-- The lengths' bodies. -/
def bodies (Z : List Int) : Nat → List Int → List (List Int)
  | _, [] => []
  | p, l :: ls => cut Z p l.toNat :: bodies Z (p + l.toNat) ls
def total (L : List Int) : Nat := (L.map Int.toNat).sum
theorem bodies_length (Z : List Int) : ∀ (p : Nat) (L : List Int), (bodies Z p L).length = L.length
  | _, [] => rfl
  | p, l :: ls => by simp [bodies, bodies_length Z _ ls]
theorem bodies_get (Z : List Int) : ∀ (p : Nat) (L : List Int) (k : Nat) (hk : k < L.length), (bodies Z p L)[k]? = some (cut Z (p + total (L.take k)) (L.getD k 0).toNat)
  | p, l :: ls, 0, _ => by simp [bodies, total]
  | p, l :: ls, k + 1, h => by
    have := bodies_get Z (p + l.toNat) ls k (by simpa using h)
    simp only [bodies, List.getElem?_cons_succ, this, List.take_succ_cons, total, List.map_cons, List.sum_cons, List.getD_cons_succ]
    rw [Nat.add_assoc]
theorem total_snoc (L : List Int) (k : Nat) (hk : k < L.length) : total (L.take (k + 1)) = total (L.take k) + (L.getD k 0).toNat := by
  rw [take_snocD L k hk]; simp [total]
theorem total_le (L : List Int) (k : Nat) : total (L.take k) ≤ total L := by
  have h : total L = total (L.take k) + total (L.drop k) := by
    unfold total
    rw [← List.sum_append, ← List.map_append, List.take_append_drop]
  omega

/-- A number read off the header's bytes, beside a block that stays. -/
theorem le64_beside (W : World) (g o c gh t : Nat) (L : List Int) (cs : Array Value) (hB : Blk W g 5 (nums .u8 L).toArray) (hL : Bytes L) (ho : o + 8 ≤ L.length) (hG : Blk W gh t cs) :
    Calls Tryz.prog 71 #[.agg #[], .slice (some ⟨g, o, none⟩) 8 c] W.drew fun e w' => e = .returned (.int .u64 (Lib.leZ ((L.drop o).take 8))) ∧ (∀ i, w'.cell? ⟨gh, i, none⟩ = cs[i]?) ∧ (∀ i, w'.frozen? ⟨gh, i, none⟩ = false) ∧ Hid (Blk w' gh t cs) ∧ Hid (Below W.heap.size W w') := by
  refine (le64_any W.drew g o c L hB hL ho).mono ?_
  rintro e w' ⟨rfl, hb⟩
  have hb' : Below W.heap.size W w' := (below_drew' (Below.refl _ W)).trans hb
  have h := hG.below hb' hG.lt
  exact ⟨rfl, h.cell, h.frozen, Lib.hid h, Lib.hid hb'⟩
theorem le32_beside (W : World) (g o c gh t : Nat) (L : List Int) (cs : Array Value) (hB : Blk W g 5 (nums .u8 L).toArray) (hL : Bytes L) (ho : o + 4 ≤ L.length) (hG : Blk W gh t cs) :
    Calls Tryz.prog 72 #[.agg #[], .slice (some ⟨g, o, none⟩) 4 c] W.drew fun e w' => e = .returned (.int .u32 (Lib.leZ ((L.drop o).take 4))) ∧ (∀ i, w'.cell? ⟨gh, i, none⟩ = cs[i]?) ∧ (∀ i, w'.frozen? ⟨gh, i, none⟩ = false) ∧ Hid (Blk w' gh t cs) ∧ Hid (Below W.heap.size W w') := by
  refine (le32_any W.drew g o c L hB hL ho).mono ?_
  rintro e w' ⟨rfl, hb⟩
  have hb' : Below W.heap.size W w' := (below_drew' (Below.refl _ W)).trans hb
  have h := hG.below hb' hG.lt
  exact ⟨rfl, h.cell, h.frozen, Lib.hid h, Lib.hid hb'⟩
/-- The header's cells. -/
abbrev hdr (g b0 b1 b2 b3 v ty s i n : Int) : Array Value := #[.int .u64 g, .int .u8 b0, .int .u8 b1, .int .u8 b2, .int .u8 b3, .int .u8 v, .int .u8 ty, .int .u32 s, .int .u32 i, .int .u8 n]
theorem Blk.ten {w : World} {g t : Nat} {v0 v1 v2 v3 v4 v5 v6 v7 v8 v9 : Value} (h : Blk w g t #[v0, v1, v2, v3, v4, v5, v6, v7, v8, v9]) :
    w.cell? ⟨g, 0, none⟩ = some v0 ∧ w.cell? ⟨g, 1, none⟩ = some v1 ∧ w.cell? ⟨g, 2, none⟩ = some v2 ∧ w.cell? ⟨g, 3, none⟩ = some v3 ∧ w.cell? ⟨g, 4, none⟩ = some v4 ∧ w.cell? ⟨g, 5, none⟩ = some v5 ∧ w.cell? ⟨g, 6, none⟩ = some v6 ∧ w.cell? ⟨g, 7, none⟩ = some v7 ∧ w.cell? ⟨g, 8, none⟩ = some v8 ∧ w.cell? ⟨g, 9, none⟩ = some v9 :=
  ⟨by simpa using h.cell 0, by simpa using h.cell 1, by simpa using h.cell 2, by simpa using h.cell 3, by simpa using h.cell 4, by simpa using h.cell 5, by simpa using h.cell 6, by simpa using h.cell 7, by simpa using h.cell 8, by simpa using h.cell 9⟩

theorem bodies_bytes {Z : List Int} (hZ : Bytes Z) : ∀ {L : List Int} (_ : Bytes L) (p : Nat), ∀ s ∈ bodies Z p L, Bytes s ∧ s.length ≤ 255
  | [], _, _, _, h => by simp [bodies] at h
  | l :: ls, hL, p, s, h => by
    rcases List.mem_cons.1 h with rfl | h
    · have := hL l List.mem_cons_self
      exact ⟨cut_bytes hZ _ _, by simp [cut]; omega⟩
    · exact bodies_bytes hZ (fun v hv => hL v (List.mem_cons_of_mem _ hv)) _ s h
/-- The page's sum is the one that it tells. -/
def pageOk (Z : List Int) (pos N : Nat) : Prop := Lib.leZ (((cut Z pos 27).drop 22).take 4) = ((sumI 0#32 (zeroed (cut Z pos 27) ++ cut Z (pos + 27) N ++ (bodies Z (pos + 27 + N) (cut Z (pos + 27) N)).flatten)).toNat : Int)
/-- What the walk over a page gives. -/
def PagePost (w : World) (go gs gb gt gp : Nat) (x : Value) (Z : List Int) (pos N : Nat) (u : Value) (e : Ending) (w' : World) : Prop :=
  Rdr w' go gs gb gt gp x Z (pos + 27 + N + total (cut Z (pos + 27) N)) ∧ Fr (fun j => j = gs) w w' ∧
  (pageOk Z pos N → ∃ v gz gh gv, e = .returned (.tuple #[v, .slice (some ⟨gz, 0, none⟩) N N, .pointer (some ⟨gh, 0, none⟩), .nilIface]) ∧ w.heap.size ≤ gz ∧ gz < gv ∧ w.heap.size ≤ gh ∧ gh < gv ∧ gh ≠ gz ∧
    SegK.R 33 w' gv (fun j => gv ≤ j) v (bodies Z (pos + 27 + N) (cut Z (pos + 27) N)) ∧ Blk w' gz 5 (nums .u8 (cut Z (pos + 27) N)).toArray ∧
    Blk w' gh 67 (hdr (Lib.leZ (((cut Z pos 27).drop 6).take 8)) ((cut Z pos 27).getD 0 0) ((cut Z pos 27).getD 1 0) ((cut Z pos 27).getD 2 0) ((cut Z pos 27).getD 3 0) ((cut Z pos 27).getD 4 0) ((cut Z pos 27).getD 5 0) (Lib.leZ (((cut Z pos 27).drop 14).take 4)) (Lib.leZ (((cut Z pos 27).drop 18).take 4)) N)) ∧
  (¬ pageOk Z pos N → e = .returned (.tuple #[.slice none 0 0, .slice none 0 0, .pointer none, u]))

set_option maxRecDepth 100000 in
set_option maxHeartbeats 4000000 in
theorem page_any (w : World) (go gs gb gt gp pos : Nat) (x : Value) (Z : List Int) (u : Value) (hR : Rdr w go gs gb gt gp x Z pos) (hZ : Z.length < 4611686018427387904) (hB : Bytes Z)
    (hE : w.cell? ⟨4, 0, none⟩ = some u) (hEs : 4 ≠ gs) (hu : ∃ tE pE, u = .iface tE (.pointer (some pE)))
    (N : Nat) (hN : Z.getD (pos + 26) 0 = (N : Int)) (hN8 : N < 256) (hfit : pos + 27 + N + total (cut Z (pos + 27) N) ≤ Z.length) :
    Calls Tryz.prog 33 #[.pointer (some ⟨go, 0, none⟩)] w (PagePost w go gs gb gt gp x Z pos N u) := by
  have HR := Lib.hid hR; have HB := Lib.hid hB; have HE := Lib.hid hE
  clear hR hB hE
  go_enter Tryz.func33, Tryz.ntmps33
  have hz27 := zeros27
  have hne := HR.out.ne
  have hgb := HR.out.D.lt; have hgt := HR.out.T.lt; have hgo := HR.out.O.lt; have hgs := HR.out.s
  go_upto_region 2 with fail
  have hR1 := HR.out.fr ((Fr.refl (fun _ => False) w).alloc (.cells (Array.replicate 27 (.int .u8 0)) 5)) (fun h => h) (fun h => h) (fun h => h) (fun h => h)
  have hX1 : Blk (w.alloc (.cells (Array.replicate 27 (.int .u8 0)) 5)) w.heap.size 5 (Array.replicate 27 (.int .u8 0)) := Blk.new w _ _
  have hF1 := (Fr.refl (fun k => k = gs) w).alloc (.cells (Array.replicate 27 (.int .u8 0)) 5)
  have HR1 := Lib.hid hR1; have HF1 := Lib.hid hF1
  clear hR1 hF1
  generalize w.alloc (.cells (Array.replicate 27 (.int .u8 0)) 5) = W1 at HR1 HF1 hX1 ⊢
  obtain ⟨k0, k2, k3, k4⟩ := HR1.out.cells
  go_wp2_with fail
  refine (take_any W1 go gs gb gt gp w.heap.size pos 27 x Z _ HR1.out (by omega) hZ hX1 (by simp) ⟨by omega, by omega, by omega, by omega⟩).mono ?_
  rintro e w2 ⟨rfl, hH2, hR2, hf2⟩
  have HR2 := Lib.hid hR2
  have HF2 := Lib.hid (HF1.out.call hf2 (fun j hj => by rcases hj with h | h; exact .inl h; exact .inr (by omega)))
  clear hR2 hf2 k0 k2 k3 k4 hX1
  have hHl := cut_length Z pos 27 (by omega)
  have HHb := Lib.hid (cut_bytes HB.out pos 27)
  have h26 : (cut Z pos 27).getD 26 0 = (N : Int) := (cut_get Z pos 27 26 (by decide)).trans hN
  generalize hHe : cut Z pos 27 = H at hH2 hHl HHb h26
  have HHE := Lib.hid hHe
  clear hHe
  have HH2 := Lib.hid hH2
  have hc := fun k (hk : k < 27) => cells_num w2 w.heap.size _ H hH2 k (by omega)
  have q0 := hc 0 (by decide); have q1 := hc 1 (by decide); have q2 := hc 2 (by decide); have q3 := hc 3 (by decide); have q4 := hc 4 (by decide); have q5 := hc 5 (by decide); have q26 := hc 26 (by decide)
  have hz := hH2.lt
  clear hc hH2
  generalize hb0 : H.getD 0 0 = b0 at q0
  generalize hb1 : H.getD 1 0 = b1 at q1
  generalize hb2 : H.getD 2 0 = b2 at q2
  generalize hb3 : H.getD 3 0 = b3 at q3
  generalize hb4 : H.getD 4 0 = b4 at q4
  generalize hb5 : H.getD 5 0 = b5 at q5
  rw [h26] at q26
  have HBS := Lib.hid (And.intro hb0 (And.intro hb1 (And.intro hb2 (And.intro hb3 (And.intro hb4 hb5)))))
  clear hb0 hb1 hb2 hb3 hb4 hb5
  go_upto_region 7 with fail
  go_cut [9] (fun v wx => v = .pointer (some ⟨w2.heap.size, 0, none⟩) ∧ Hid (Blk wx w2.heap.size 67 (hdr 0 b0 b1 b2 b3 0 0 0 0 0)) ∧ Hid (Below w2.heap.size w2 wx))
  case first =>
    go_region
    all_goals go_wp2_with fail
    all_goals go_meet
    exact ⟨rfl, Lib.hid (Blk.drew (Blk.new w2 _ _)), Lib.hid (below_drew' ((Below.refl _ _).alloc (Nat.le_refl _) _))⟩
  case rest =>
    obtain ⟨rfl, HG3, HB3⟩ := hcut
    have hgw : w.heap.size < w2.heap.size := hz
    generalize hgh : w2.heap.size = gh at HG3 HB3 ⊢
    have hw2 : ∀ (k : Nat) (v : Value), w2.cell? ⟨w.heap.size, k, none⟩ = some v → wc.cell? ⟨w.heap.size, k, none⟩ = some v := fun k v h => HB3.out.cell (p := ⟨w.heap.size, k, none⟩) (by simpa [hgh] using hz) ▸ h
    replace q4 := hw2 4 _ q4
    replace q5 := hw2 5 _ q5
    replace q26 := hw2 26 _ q26
    clear q0 q1 q2 q3
    obtain ⟨g0, g1, g2, g3, g4, g5, g6, g7, g8, g9⟩ := HG3.out.ten
    have gf := HG3.out.frozen
    go_upto_region 10 with fail
    have hgh2 : gh ≠ w.heap.size := by omega
    have hG4 := (HG3.out.store (i := 5) (u := .int .u8 b4) rfl).store (i := 6) (u := .int .u8 b5) rfl
    have hH4 := ((HH2.out.below HB3.out (by omega)).far (p := ⟨gh, 5, none⟩) (fun e => hgh2 e.symm) (.int .u8 b4)).far (p := ⟨gh, 6, none⟩) (fun e => hgh2 e.symm) (.int .u8 b5)
    have hf4 := (((Fr.refl (fun k => k = gh) w2).trans (Fr.of_below HB3.out (by omega))).set (p := ⟨gh, 5, none⟩) (.inl rfl) (.int .u8 b4)).set (p := ⟨gh, 6, none⟩) (.inl rfl) (.int .u8 b5)
    have HG4 := Lib.hid hG4; have HH4 := Lib.hid hH4
    have hs2 : w.heap.size ≤ w2.heap.size := HF2.out.size
    have HF4 := Lib.hid (HF2.out.call hf4 (fun j hj => .inr (by omega)))
    have HR4 := Lib.hid (HR2.out.fr hf4 (by omega) (by omega) (by omega) (by omega))
    clear hG4 hH4 hf4 g0 g1 g2 g3 g4 g5 g6 g7 g8 g9 gf hw2 HG3 HB3 HH2 HR2 HF2 HR1 HF1
    have hs4 : ((wc.setCell ⟨gh, 5, none⟩ (.int .u8 b4)).setCell ⟨gh, 6, none⟩ (.int .u8 b5)).cell? ⟨w.heap.size, 26, none⟩ = some (.int .u8 (N : Int)) := by
      have := cells_num _ w.heap.size _ H HH4.out 26 (by omega)
      rw [this, h26]
    clear q4 q5 q26
    generalize (wc.setCell ⟨gh, 5, none⟩ (.int .u8 b4)).setCell ⟨gh, 6, none⟩ (.int .u8 b5) = W4 at HG4 HH4 HF4 HR4 hs4 ⊢
    have hle := le64_beside W4 w.heap.size 6 21 gh _ H _ HH4.out HHb.out (by omega) HG4.out
    generalize hgr : Lib.leZ ((H.drop 6).take 8) = gr at hle
    have HGR := Lib.hid hgr
    clear hgr
    have HLE := Lib.hid hle
    clear hle
    go_cut [] (fun wx => Hid (Blk wx gh 67 (hdr gr b0 b1 b2 b3 b4 b5 0 0 0)) ∧ Hid (Fr (fun k => k = gh) W4 wx))
    case first =>
      go_region_with (refine HLE.out.mono ?_; rintro e w' ⟨rfl, hcs, hfz, HGx, HBx⟩)
      all_goals go_wp2_with fail
      all_goals go_meet
      all_goals exact ⟨Lib.hid (HGx.out.store rfl), Lib.hid ((Fr.of_below (S := fun k => k = gh) HBx.out (Nat.le_refl _)).set (p := ⟨gh, 0, none⟩) (.inl rfl) _)⟩
    case rest =>
    obtain ⟨HG5, hf5⟩ := hcut
    have HH5 := Lib.hid (HH4.out.fr hf5.out (fun e => hgh2 e.symm))
    have HR5 := Lib.hid (HR4.out.fr hf5.out (by omega) (by omega) (by omega) (by omega))
    have HF5 := Lib.hid (HF4.out.call hf5.out (fun j hj => .inr (by omega)))
    have hs5 := cell_fr hs4 hf5.out (fun e => hgh2 e.symm)
    clear HG4 HH4 HR4 HF4 hs4 hf5 HLE
    generalize wc = W5 at HG5 HH5 HR5 HF5 hs5 ⊢
    go_upto_region 11 with fail
    have hle := le32_beside W5 w.heap.size 14 13 gh _ H _ HH5.out HHb.out (by omega) HG5.out
    generalize hse : Lib.leZ ((H.drop 14).take 4) = se at hle
    have HSE := Lib.hid hse
    clear hse
    have HLE := Lib.hid hle
    clear hle
    go_cut [] (fun wx => Hid (Blk wx gh 67 (hdr gr b0 b1 b2 b3 b4 b5 se 0 0)) ∧ Hid (Fr (fun k => k = gh) W5 wx))
    case first =>
      go_region_with (refine HLE.out.mono ?_; rintro e w' ⟨rfl, hcs, hfz, HGx, HBx⟩)
      all_goals go_wp2_with fail
      all_goals go_meet
      all_goals exact ⟨Lib.hid (HGx.out.store rfl), Lib.hid ((Fr.of_below (S := fun k => k = gh) HBx.out (Nat.le_refl _)).set (p := ⟨gh, 7, none⟩) (.inl rfl) _)⟩
    case rest =>
    obtain ⟨HG6, hf6⟩ := hcut
    have HH6 := Lib.hid (HH5.out.fr hf6.out (fun e => hgh2 e.symm))
    have HR6 := Lib.hid (HR5.out.fr hf6.out (by omega) (by omega) (by omega) (by omega))
    have HF6 := Lib.hid (HF5.out.call hf6.out (fun j hj => .inr (by omega)))
    have hs6 := cell_fr hs5 hf6.out (fun e => hgh2 e.symm)
    clear HG5 HH5 HR5 HF5 hs5 hf6 HLE
    generalize wc = W6 at HG6 HH6 HR6 HF6 hs6 ⊢
    go_upto_region 12 with fail
    have hle := le32_beside W6 w.heap.size 18 9 gh _ H _ HH6.out HHb.out (by omega) HG6.out
    generalize hix : Lib.leZ ((H.drop 18).take 4) = ix at hle
    have HIX := Lib.hid hix
    clear hix
    have HLE := Lib.hid hle
    clear hle
    go_cut [] (fun wx => Hid (Blk wx gh 67 (hdr gr b0 b1 b2 b3 b4 b5 se ix 0)) ∧ Hid (Fr (fun k => k = gh) W6 wx))
    case first =>
      go_region_with (refine HLE.out.mono ?_; rintro e w' ⟨rfl, hcs, hfz, HGx, HBx⟩)
      all_goals go_wp2_with fail
      all_goals go_meet
      all_goals exact ⟨Lib.hid (HGx.out.store rfl), Lib.hid ((Fr.of_below (S := fun k => k = gh) HBx.out (Nat.le_refl _)).set (p := ⟨gh, 8, none⟩) (.inl rfl) _)⟩
    case rest =>
    obtain ⟨HG7, hf7⟩ := hcut
    have HH7 := Lib.hid (HH6.out.fr hf7.out (fun e => hgh2 e.symm))
    have HR7 := Lib.hid (HR6.out.fr hf7.out (by omega) (by omega) (by omega) (by omega))
    have HF7 := Lib.hid (HF6.out.call hf7.out (fun j hj => .inr (by omega)))
    have hs7 := cell_fr hs6 hf7.out (fun e => hgh2 e.symm)
    clear HG6 HH6 HR6 HF6 hs6 hf7 HLE
    generalize wc = W7 at HG7 HH7 HR7 HF7 hs7 ⊢
    obtain ⟨g0, g1, g2, g3, g4, g5, g6, g7, g8, g9⟩ := HG7.out.ten
    have gf := HG7.out.frozen
    have hG8 := HG7.out.store (i := 9) (u := .int .u8 (N : Int)) rfl
    have hf8 := (Fr.refl (fun k => k = gh) W7).set (p := ⟨gh, 9, none⟩) (.inl rfl) (.int .u8 (N : Int))
    have HG8 := Lib.hid hG8
    have HH8 := Lib.hid (HH7.out.fr hf8 (fun e => hgh2 e.symm))
    have HR8 := Lib.hid (HR7.out.fr hf8 (by omega) (by omega) (by omega) (by omega))
    have HF8 := Lib.hid (HF7.out.call hf8 (fun j hj => .inr (by omega)))
    go_upto_region 14 with fail
    clear hG8 hf8 HG7 HH7 HR7 HF7 g0 g1 g2 g3 g4 g5 g6 g7 g8 g9 gf hs7
    generalize W7.setCell ⟨gh, 9, none⟩ (.int .u8 (N : Int)) = W8 at HG8 HH8 HR8 HF8 ⊢
    have g9 := HG8.out.ten.2.2.2.2.2.2.2.2.2
    have hmk := make8 N hN8
    obtain ⟨k0, k2, k3, k4⟩ := HR8.out.cells
    have hX9 : Blk (W8.alloc (.cells (zc N) 5)) W8.heap.size 5 (zc N) := Blk.new W8 _ _
    have hf9 := (Fr.refl (fun k => k = gs) W8).alloc (.cells (zc N) 5)
    have HX9 := Lib.hid hX9
    have HR9 := Lib.hid (HR8.out.fr ((Fr.refl (fun _ => False) W8).alloc (.cells (zc N) 5)) (fun h => h) (fun h => h) (fun h => h) (fun h => h))
    have hw8 : w.heap.size ≤ W8.heap.size := HF8.out.size
    have hgh8 : gh < W8.heap.size := HG8.out.lt
    have HF9 := Lib.hid (HF8.out.trans hf9)
    have HG9 := Lib.hid (HG8.out.alloc (.cells (zc N) 5))
    have HH9 := Lib.hid (HH8.out.alloc (.cells (zc N) 5))
    clear hX9 hf9
    go_upto_region 15 with fail
    generalize hgz : W8.heap.size = gz at HX9 hw8 hgh8 ⊢
    generalize W8.alloc (.cells (zc N) 5) = W9 at HX9 HR9 HF9 HG9 HH9 ⊢
    clear k0 k2 k3 k4 g9 hmk HG8 HH8 HR8 HF8
    obtain ⟨k0, k2, k3, k4⟩ := HR9.out.cells
    go_wp2_with fail
    refine (take_any W9 go gs gb gt gp gz (pos + 27) N x Z _ HR9.out (by omega) hZ HX9.out (zc_size N) ⟨by omega, by omega, by omega, by omega⟩).mono ?_
    rintro e wA ⟨rfl, hZA, hRA, hfA⟩
    have HZA := Lib.hid hZA; have HRA := Lib.hid hRA
    have HFA := Lib.hid (HF9.out.call hfA (fun j hj => by rcases hj with h | h; exact .inl h; exact .inr (by omega)))
    have HGA := Lib.hid (HG9.out.fr hfA (by rintro (h | h) <;> omega))
    have HHA := Lib.hid (HH9.out.fr hfA (by rintro (h | h) <;> omega))
    clear hZA hRA hfA HG9 HH9 HF9 HR9 HX9 k0 k2 k3 k4
    have hLl := cut_length Z (pos + 27) N (by omega)
    have HLb := Lib.hid (cut_bytes HB.out (pos + 27) N)
    generalize hLe : cut Z (pos + 27) N = L at HZA hfit hLl HLb
    have HLE2 := Lib.hid hLe
    clear hLe
    have hwA : w.heap.size ≤ wA.heap.size := HFA.out.size
    have hghA : gh < wA.heap.size := HGA.out.lt
    have hgzA : gz < wA.heap.size := HZA.out.lt
    have hE0 : Blk (wA.alloc (.cells #[] 33)) wA.heap.size 33 #[] := Blk.new wA _ _
    have hfB := (Fr.refl (fun _ => False) wA).alloc (.cells #[] 33)
    have HRB := Lib.hid (HRA.out.fr hfB (fun h => h) (fun h => h) (fun h => h) (fun h => h))
    have HFB := Lib.hid (HFA.out.alloc (.cells #[] 33))
    have HGB := Lib.hid (HGA.out.alloc (.cells #[] 33))
    have HHB := Lib.hid (HHA.out.alloc (.cells #[] 33))
    have HZB := Lib.hid (HZA.out.alloc (.cells #[] 33))
    have HVB := Lib.hid (empty_R _ wA.heap.size wA.heap.size (fun j => wA.heap.size ≤ j) hE0 (Nat.le_refl _) (Nat.le_refl _))
    have hszB : wA.heap.size ≤ (wA.alloc (.cells #[] 33)).heap.size := hfB.size
    clear hE0 hfB HRA HFA HGA HHA HZA
    go_upto_region 19 with fail
    generalize hgv : wA.heap.size = gv at HVB hszB hghA hgzA hwA ⊢
    generalize wA.alloc (.cells #[] 33) = wB at HRB HFB HGB HHB HZB HVB hszB ⊢
    go_wp2_with fail
    go_loopw [11, 107] (fun v i wr => ∃ k : Nat, k ≤ N ∧ i = .int .i64 k ∧ Hid (SegK.R 33 wr gv (fun j => gv ≤ j) v ((bodies Z (pos + 27 + N) L).take k)) ∧ Hid (Rdr wr go gs gb gt gp x Z (pos + 27 + N + total (L.take k))) ∧ Hid (Fr (fun j => j = gs) w wr) ∧ Hid (Blk wr gh 67 (hdr gr b0 b1 b2 b3 b4 b5 se ix N)) ∧ Hid (Blk wr w.heap.size 5 (nums .u8 H).toArray) ∧ Hid (Blk wr gz 5 (nums .u8 L).toArray) ∧ gv ≤ wr.heap.size) (fun _ i _ => N - (intOf i).toNat)
    case atStart => exact ⟨0, by omega, rfl, HVB, HRB, HFB, HGB, HHB, HZB, hszB⟩
    case round =>
      obtain ⟨k, hk, rfl, HV, HRk, HFk, HGk, HHk, HZk, hszk⟩ := hrel
      clear HVB HRB HFB HGB HHB HZB hszB
      by_cases hlt : k < N
      · obtain ⟨hl0, hl1⟩ := bytes_getD HLb.out k (by omega)
        have hgk := bodies_get Z (pos + 27 + N) L k (by omega)
        have htot := total_snoc L k (by omega)
        have htle := total_le L (k + 1)
        have hcl := cells_num wr gz _ L HZk.out k (by omega)
        generalize L.getD k 0 = lk at hl0 hl1 hgk htot hcl
        obtain ⟨l, rfl⟩ := Int.eq_ofNat_of_zero_le hl0
        rw [Int.toNat_natCast] at hgk htot
        have HNX := Lib.hid (show (bodies Z (pos + 27 + N) L).take (k + 1) = (bodies Z (pos + 27 + N) L).take k ++ [cut Z (pos + 27 + N + total (L.take k)) l] by
          rw [List.take_add_one, hgk]; rfl)
        clear hgk
        have hmk := make64 l (by omega)
        go_upto_region 23 with fail
        have hXc : Blk (wr.alloc (.cells (zc l) 5)) wr.heap.size 5 (zc l) := Blk.new wr _ _
        have hfc := (Fr.refl (fun _ => False) wr).alloc (.cells (zc l) 5)
        have HRc := Lib.hid (HRk.out.fr hfc (fun h => h) (fun h => h) (fun h => h) (fun h => h))
        have hfrg : wr.heap.size < (wr.alloc (.cells (zc l) 5)).heap.size := hXc.lt
        clear hmk hcl
        generalize wr.alloc (.cells (zc l) 5) = wc2 at hXc hfc HRc hfrg ⊢
        have hgbk := HRk.out.D.lt; have hgtk := HRk.out.T.lt; have hgok := HRk.out.O.lt; have hgsk := HRk.out.s
        obtain ⟨k0, k2, k3, k4⟩ := HRc.out.cells
        go_wp2_with fail
        refine (take_any wc2 go gs gb gt gp wr.heap.size (pos + 27 + N + total (L.take k)) l x Z _ HRc.out (by omega) hZ hXc (zc_size l) ⟨by omega, by omega, by omega, by omega⟩).mono ?_
        rintro e wd ⟨rfl, hXd, hRd, hfd⟩
        have hfk : Fr (fun j => j = gs) wr wd := (hfc.mono (fun _ _ h => h.elim)).call hfd (fun j hj => by rcases hj with h | h; exact .inl h; exact .inr (by omega))
        have hsl := cut_length Z (pos + 27 + N + total (L.take k)) l (by omega)
        generalize cut Z (pos + 27 + N + total (L.take k)) l = s at hXd HNX hsl
        have hM := seg_M wd gv wr.heap.size s hXd hszk (by omega)
        rw [hsl] at hM
        have HM := Lib.hid hM
        have HVd := Lib.hid (Kd.R_step HV.out (fun j ho hlt2 => hfk.block j hlt2 (by omega)))
        have HXd := Lib.hid hXd
        have HRd := Lib.hid (show Rdr wd go gs gb gt gp x Z (pos + 27 + N + total (L.take (k + 1))) by rw [htot, ← Nat.add_assoc]; exact hRd)
        have HFd := Lib.hid (HFk.out.trans hfk)
        have HGd := Lib.hid (HGk.out.fr hfk (by omega))
        have HHd := Lib.hid (HHk.out.fr hfk (by omega))
        have HZd := Lib.hid (HZk.out.fr hfk (by omega))
        have hszd : gv ≤ wd.heap.size := Nat.le_trans hszk hfk.size
        have hbl : ((bodies Z (pos + 27 + N) L).take k).length ≤ 255 := by rw [List.length_take, bodies_length]; omega
        have hgbd := HRd.out.D.lt; have hgtd := HRd.out.T.lt; have hgod := HRd.out.O.lt
        clear hM hXd hRd hfd hfk hfc hXc HRc HV HRk HFk HGk HHk HZk k0 k2 k3 k4
        generalize hgx : wr.heap.size = gx at HM HXd hszk ⊢
        generalize (bodies Z (pos + 27 + N) L).take k = old at HVd HNX hbl
        go_wp2_with (at_builtin; refine Kd.R_append SegK (w0 := wd) gv rfl (.tmp 126) (.tmp 128) 61 33 (.slice none 0 0) 24 rfl Tryz.underlying61 info_row rfl (by decide) (by omega) _ old s [.slice (some ⟨gx, 0, none⟩) l l] (fun j => gv ≤ j) (fun j => j = gx) rfl rfl HM.out (fun j hj => by subst hj; exact ⟨hszk, Kd.R_ne HVd.out HXd.out (by decide)⟩) (fun _ h => Nat.le_trans hszd h) HVd.out (Below.refl _ _) hszd (by omega) ?_; intro v1 w1 ho hb hg hat)
        have hF1 : Fr (fun j => gv ≤ j) wd w1 := ⟨hb.os, hb.tape, hb.output, hb.size, fun j hj hn => hb.block j (by omega)⟩
        refine ⟨⟨k + 1, by omega, by rw [Int.natCast_add]; rfl, Lib.hid (by rw [HNX.out]; exact ho), Lib.hid (HRd.out.fr hF1 (by omega) (by omega) (by omega) (by omega)), Lib.hid (HFd.out.call hF1 (fun j hj => .inr (by omega))), Lib.hid (HGd.out.fr hF1 (by omega)), Lib.hid (HHd.out.fr hF1 (by omega)), Lib.hid (HZd.out.fr hF1 (by omega)), Nat.le_trans hszd hb.size⟩, ?_⟩
        show N - ((k : Int) + 1).toNat < N - (k : Int).toNat
        omega
      · obtain rfl : k = N := by omega
        have ht1 : (bodies Z (pos + 27 + k) L).take k = bodies Z (pos + 27 + k) L := List.take_of_length_le (by rw [bodies_length]; omega)
        have ht2 : L.take k = L := List.take_of_length_le (by omega)
        rw [ht1] at HV
        rw [ht2] at HRk
        clear ht1 ht2
        obtain ⟨A, cA, rfl, hcA, hC⟩ := Kd.R_reads HV.out
        obtain ⟨tE, pE, rfl⟩ := hu
        obtain ⟨k0, k2, k3, k4⟩ := HRk.out.cells
        have hchk := check_any wr go gt w.heap.size gz H L k A cA (bodies Z (pos + 27 + k) L) _ k2 HRk.out.T HHk.out hHl HHb.out HZk.out (by omega) HLb.out hC (by rw [bodies_length]; omega) (bodies_bytes HB.out HLb.out _) (cell_fr HE.out HFk.out hEs)
        rw [hLl] at hchk
        have HCHK := Lib.hid hchk
        clear hchk hC
        go_wp2_with fail
        refine HCHK.out.mono ?_
        rintro e we ⟨he, hfe⟩
        by_cases hok : Lib.leZ ((H.drop 22).take 4) = ((sumI 0#32 (zeroed H ++ L ++ (bodies Z (pos + 27 + k) L).flatten)).toNat : Int)
        · rw [if_pos hok] at he
          subst he
          have HRe := Lib.hid (HRk.out.fr hfe (fun h => h) (fun h => h) (fun h => h) (fun h => h))
          have HFe := Lib.hid (HFk.out.call hfe (fun j hj => hj.elim))
          have HVe := Lib.hid (Kd.R_step HV.out (fun j ho hlt2 => hfe.block j hlt2 (fun h => h)))
          have HGe := Lib.hid (HGk.out.fr hfe (fun h => h))
          have HZe := Lib.hid (HZk.out.fr hfe (fun h => h))
          have HOK := Lib.hid hok
          clear hok hfe HRk HFk HV HGk HZk HHk k0 k2 k3 k4
          go_wp2_with fail
          refine bodyPost_ret (v := .tuple #[.slice A (bodies Z (pos + 27 + k) L).length cA, .slice (some ⟨gz, 0, none⟩) k k, .pointer (some ⟨gh, 0, none⟩), .nilIface]) (by simp [results, Tryz.results33, go_sem]) rfl ?_
          obtain ⟨e0, e1, e2, e3, e4, e5⟩ := HBS.out
          unfold PagePost pageOk
          rw [HHE.out, HLE2.out, e0, e1, e2, e3, e4, e5, HGR.out, HSE.out, HIX.out]
          exact ⟨HRe.out, HFe.out, fun _ => ⟨_, gz, gh, gv, rfl, by omega, by omega, by omega, by omega, by omega, HVe.out, HZe.out, HGe.out⟩, fun h => absurd HOK.out h⟩
        · rw [if_neg hok] at he
          subst he
          have HRe := Lib.hid (HRk.out.fr hfe (fun h => h) (fun h => h) (fun h => h) (fun h => h))
          have HFe := Lib.hid (HFk.out.call hfe (fun j hj => hj.elim))
          have HOK := Lib.hid hok
          clear hok hfe HRk HFk HV HGk HZk HHk k0 k2 k3 k4
          go_wp2_with fail
          refine bodyPost_ret (v := .tuple #[.slice none 0 0, .slice none 0 0, .pointer none, .iface tE (.pointer (some pE))]) (by simp [results, Tryz.results33, go_sem]) rfl ?_
          unfold PagePost pageOk
          rw [HHE.out, HLE2.out]
          exact ⟨HRe.out, HFe.out, fun h => absurd h HOK.out, fun _ => rfl⟩
end Go.Proofs.YtojdfjohmicopaaGreatDoor
