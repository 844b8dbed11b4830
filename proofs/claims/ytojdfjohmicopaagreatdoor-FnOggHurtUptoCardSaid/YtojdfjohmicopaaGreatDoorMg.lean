/- Contracts of the reader's next page. Conditions: the page lies whole in the bytes; the variable of the sums' error is set. Contracts of the reader's look at the first packet. Conditions: the first page is one of a head that spec.HeadWrite writes. Contracts of the reader's channel mapping: the head without a mapping. Condition: the head's packet has the length that its kind asks. -/
import Derived.Test.YtojdfjohmicopaaGreatDoorMf
import Derived.Deep.RegionHeld3
namespace Go.Proofs.YtojdfjohmicopaaGreatDoor
open Go Go.RowKit Go.Proofs.YtojdfjohmicopaaGreatDoorW.PrintWords Go.Proofs.YtojdfjohmicopaaGreatDoor.Crc

/-- The packets' state: a queue, a piece, whether it is dropped, the last page. -/
def Pst (w : World) (gp : Nat) (q pp : Value) (d : Bool) (li : Int) (hl : Bool) : Prop := Blk w gp 145 #[q, pp, .bool d, .int .u32 li, .bool hl]
theorem Blk.five {w : World} {g t : Nat} {v0 v1 v2 v3 v4 : Value} (h : Blk w g t #[v0, v1, v2, v3, v4]) :
    w.cell? ⟨g, 0, none⟩ = some v0 ∧ w.cell? ⟨g, 1, none⟩ = some v1 ∧ w.cell? ⟨g, 2, none⟩ = some v2 ∧ w.cell? ⟨g, 3, none⟩ = some v3 ∧ w.cell? ⟨g, 4, none⟩ = some v4 :=
  ⟨by simpa using h.cell 0, by simpa using h.cell 1, by simpa using h.cell 2, by simpa using h.cell 3, by simpa using h.cell 4⟩
set_option maxRecDepth 100000 in
theorem state_any (w : World) (go gp : Nat) (hO : w.cell? ⟨go, 4, none⟩ = some (.pointer (some ⟨gp, 0, none⟩))) :
    Calls Tryz.prog 74 #[.pointer (some ⟨go, 0, none⟩)] w fun e w' => e = .returned (.pointer (some ⟨gp, 0, none⟩)) ∧ w' = w := by
  go_enter Tryz.func74, Tryz.ntmps74
  go_wp2_with fail
  go_ret
  exact ⟨rfl, rfl⟩
set_option maxRecDepth 100000 in
set_option maxHeartbeats 2000000 in
theorem mark_any (w : World) (go gp gh : Nat) (q pp : Value) (d : Bool) (li : Int) (hl : Bool) (g b0 b1 b2 b3 v ty s i n : Int) (hO : w.cell? ⟨go, 4, none⟩ = some (.pointer (some ⟨gp, 0, none⟩)))
    (hP : Pst w gp q pp d li hl) (hG : Blk w gh 67 (hdr g b0 b1 b2 b3 v ty s i n)) :
    Calls Tryz.prog 34 #[.pointer (some ⟨go, 0, none⟩), .pointer (some ⟨gh, 0, none⟩)] w fun e w' => e = .returned (.tuple #[]) ∧ (∃ li hl, Pst w' gp q pp d li hl) ∧ Fr (fun k => k = gp) w w' := by
  obtain ⟨g0, g1, g2, g3, g4, g5, g6, g7, g8, g9⟩ := hG.ten
  obtain ⟨p0, p1, p2, p3, p4⟩ := Blk.five hP
  have pf := Blk.frozen hP
  go_enter Tryz.func34, Tryz.ntmps34
  by_cases h0 : n = 0
  · subst h0
    go_wp2_with fail
    refine bodyPost_ret (results_none rfl _ _ _) rfl ?_
    exact ⟨rfl, ⟨_, _, hP⟩, Fr.refl _ _⟩
  · go_wp2_with fail
    refine (state_any w go gp hO).mono ?_
    rintro e w' ⟨rfl, rfl⟩
    go_wp2_with fail
    first | go_end0 | refine bodyPost_ret (results_none rfl _ _ _) rfl ?_
    refine ⟨rfl, ⟨i, true, ?_⟩, ((Fr.refl (fun k => k = gp) _).set (p := ⟨gp, 3, none⟩) (.inl rfl) _).set (p := ⟨gp, 4, none⟩) (.inl rfl) _⟩
    exact (Blk.store (i := 3) (u := .int .u32 i) hP rfl).store (i := 4) (u := .bool true) rfl

/-- What the next page gives. -/
def NextPost (w : World) (go gs gb gt gp : Nat) (x : Value) (Z : List Int) (pos N : Nat) (u : Value) (q pp : Value) (d : Bool) (e : Ending) (w' : World) : Prop :=
  Rdr w' go gs gb gt gp x Z (pos + 27 + N + total (cut Z (pos + 27) N)) ∧ Fr (fun j => j = gs ∨ j = gp) w w' ∧ (∃ li hl, Pst w' gp q pp d li hl) ∧
  (pageOk Z pos N → ∃ v gh gv, e = .returned (.tuple #[v, .pointer (some ⟨gh, 0, none⟩), .nilIface]) ∧ w.heap.size ≤ gh ∧ gh < gv ∧
    SegK.R 33 w' gv (fun j => gv ≤ j) v (bodies Z (pos + 27 + N) (cut Z (pos + 27) N)) ∧
    w'.cell? ⟨gh, 0, none⟩ = some (.int .u64 (Lib.leZ (((cut Z pos 27).drop 6).take 8)))) ∧
  (¬ pageOk Z pos N → e = .returned (.tuple #[.slice none 0 0, .pointer none, u]))

set_option maxRecDepth 100000 in
set_option maxHeartbeats 4000000 in
theorem next_any (w : World) (go gs gb gt gp pos : Nat) (x : Value) (Z : List Int) (tE : TypeId) (pE : Addr) (q pp : Value) (d : Bool) (li : Int) (hl : Bool) (hR : Rdr w go gs gb gt gp x Z pos) (hP : Pst w gp q pp d li hl) (hgp : gp ≠ gs ∧ gp ≠ go ∧ gp ≠ gb ∧ gp ≠ gt) (hZ : Z.length < 4611686018427387904) (hB : Bytes Z)
    (hE : w.cell? ⟨4, 0, none⟩ = some (.iface tE (.pointer (some pE)))) (hEs : 4 ≠ gs)
    (N : Nat) (hN : Z.getD (pos + 26) 0 = (N : Int)) (hN8 : N < 256) (hfit : pos + 27 + N + total (cut Z (pos + 27) N) ≤ Z.length) :
    Calls Tryz.prog 20 #[.pointer (some ⟨go, 0, none⟩)] w (NextPost w go gs gb gt gp x Z pos N (.iface tE (.pointer (some pE))) q pp d) := by
  have HPG := Lib.hid (page_any w go gs gb gt gp pos x Z _ hR hZ hB hE hEs ⟨tE, pE, rfl⟩ N hN hN8 hfit)
  have HP := Lib.hid hP
  clear hP hE hN hfit hB
  go_enter Tryz.func20, Tryz.ntmps20
  go_wp2_with fail
  refine HPG.out.mono ?_
  rintro e w1 ⟨hR1, hF1, hok, hno⟩
  have HR1 := Lib.hid hR1; have HF1 := Lib.hid hF1; have HNO := Lib.hid hno
  have hgpl : gp < w.heap.size := Blk.lt HP.out
  have HP1 := Lib.hid (show Pst w1 gp q pp d li hl from Blk.fr HP.out hF1 hgp.1)
  clear hR1 hF1 hno HPG
  by_cases hk : pageOk Z pos N
  · obtain ⟨v, gz, gh, gv, rfl, hz1, hz2, hh1, hh2, hhz, hV, hZb, hG⟩ := hok hk
    have HV := Lib.hid hV; have HG := Lib.hid hG
    have hvs : ∃ A n c, v = .slice A n c := by obtain ⟨A, c, h, _⟩ := Kd.R_reads hV; exact ⟨A, _, c, h⟩
    clear hok hV hG hZb
    obtain ⟨k0, k2, k3, k4⟩ := HR1.out.cells
    go_wp2_with fail
    refine (mark_any w1 go gp gh q pp d li hl _ _ _ _ _ _ _ _ _ _ k4 HP1.out HG.out).mono ?_
    rintro e w2 ⟨rfl, hP2, hF2⟩
    have HP2 := Lib.hid hP2
    have HF2 := Lib.hid hF2
    clear hP2 hF2 k0 k2 k3 k4
    go_wp2_with fail
    go_ret3
    have hgpv : gp < gv := by omega
    refine ⟨HR1.out.fr HF2.out (by omega) (by omega) (by omega) (by omega), (HF1.out.mono (fun _ _ h => .inl h)).call HF2.out (fun j hj => .inl (.inr hj)), HP2.out, fun _ => ⟨v, gh, gv, rfl, hh1, hh2, Kd.R_step HV.out (fun j ho hlt => HF2.out.block j hlt (by omega)), ?_⟩, fun h => absurd hk h⟩
    exact cell_fr HG.out.ten.1 HF2.out (show ¬ gh = gp by omega)
  · obtain rfl := HNO.out hk
    clear hok
    go_wp2_with fail
    go_ret3
    exact ⟨HR1.out, HF1.out.mono (fun _ _ h => .inl h), ⟨_, _, HP1.out⟩, fun h => absurd h hk, fun _ => rfl⟩
end Go.Proofs.YtojdfjohmicopaaGreatDoor
namespace Go.Proofs.YtojdfjohmicopaaGreatDoor
open Go Go.RowKit Go.Proofs.YtojdfjohmicopaaGreatDoorW.PrintWords Go.Proofs.YtojdfjohmicopaaGreatDoor.Crc

set_option maxRecDepth 100000 in
set_option maxHeartbeats 2000000 in
theorem prepare_any (w : World) (go gp gh : Nat) (li g b0 b1 b2 b3 v s i n : Int) (hO : w.cell? ⟨go, 4, none⟩ = some (.pointer (some ⟨gp, 0, none⟩)))
    (hP : Pst w gp (.slice none 0 0) (.slice none 0 0) false li false) (hG : Blk w gh 67 (hdr g b0 b1 b2 b3 v 2 s i n)) :
    Calls Tryz.prog 115 #[.pointer (some ⟨go, 0, none⟩), .pointer (some ⟨gh, 0, none⟩)] w fun e w' => e = .returned .nilIface ∧ ∃ n, w' = w.drewN n := by
  obtain ⟨g0, g1, g2, g3, g4, g5, g6, g7, g8, g9⟩ := hG.ten
  obtain ⟨p0, p1, p2, p3, p4⟩ := Blk.five hP
  have hand : bits BinOp.and IntKind.u8 2 1 = 0 := by decide +kernel
  go_enter Tryz.func115, Tryz.ntmps115
  go_wp2_with fail
  refine (state_any w go gp hO).mono ?_
  rintro e w' ⟨rfl, rfl⟩
  go_wp2_with fail
  go_quiet (fail)
  rename_i nq
  go_wp2_with fail
  go_ret
  exact ⟨rfl, _, rfl⟩

theorem C_cells (w : World) (g o : Nat) (xs : List Int) (hl : xs.length ≤ 9223372036854775807) (h : ∀ k, k < xs.length → w.cell? ⟨g, o + k, none⟩ = some (.int .u8 (xs.getD k 0))) : (Kd.int .u8).C w (some ⟨g, o, none⟩) xs.length xs := by
  refine ⟨rfl, hl, fun _ => ⟨_, rfl, fun j p hj => ⟨[.int .u8 p], rfl, rfl, fun i u hi => ?_⟩⟩⟩
  have hjl : j < xs.length := (List.getElem?_eq_some_iff.mp hj).1
  have hp : xs.getD j 0 = p := by rw [List.getD_eq_getElem?_getD, hj]; rfl
  cases i with
  | zero =>
    simp only [List.getElem?_cons_zero, Option.some.injEq] at hi
    subst hi
    have := h j hjl
    rw [hp] at this
    rw [show j * (Kd.int .u8).sz + 0 = j from by show j * 1 + 0 = j; omega, Go.WideShapes.add_plain]
    exact this
  | succ i => simp at hi
theorem str_at (w : World) (g o c : Nat) (xs : List Int) (hl : xs.length ≤ 9223372036854775807) (h : ∀ k, k < xs.length → w.cell? ⟨g, o + k, none⟩ = some (.int .u8 (xs.getD k 0))) :
    (convert 33 9 (.slice (some ⟨g, o, none⟩) xs.length c)).run Tryz.prog w = .ok (.string (strOfNums xs)) w :=
  Kd.C_string Tryz.underlying33 Tryz.underlying5 Tryz.underlying9 (C_cells w g o xs hl h)
theorem le16_any (w : World) (g o c : Nat) (L : List Int) (hB : Row w g L) (hL : Bytes L) (ho : o + 2 ≤ L.length) :
    Calls Tryz.prog 112 #[.agg #[], .slice (some ⟨g, o, none⟩) 2 c] w fun e w' => e = .returned (.int .u16 (Lib.leZ ((L.drop o).take 2))) ∧ Below w.heap.size w w' := by
  refine (Tryz.binary_LE_Uint16_z ⟨g, o, none⟩ 2 c (L.drop o) w (by omega) (by simp; omega) (fun i hi => ?_) (wf_of_bytes fun v hv => hL v (List.mem_of_mem_drop hv)))
  rw [Go.WideShapes.add_plain]
  rw [List.length_drop] at hi
  have := hB.at_ (o + i) (by omega)
  simpa [List.getD_eq_getElem?_getD, List.getElem?_drop] using this
theorem le32r_any (w : World) (g o c : Nat) (L : List Int) (hB : Row w g L) (hL : Bytes L) (ho : o + 4 ≤ L.length) :
    Calls Tryz.prog 72 #[.agg #[], .slice (some ⟨g, o, none⟩) 4 c] w fun e w' => e = .returned (.int .u32 (Lib.leZ ((L.drop o).take 4))) ∧ Below w.heap.size w w' := by
  refine (Tryz.binary_LE_Uint32_z ⟨g, o, none⟩ 4 c (L.drop o) w (by omega) (by simp; omega) (fun i hi => ?_) (wf_of_bytes fun v hv => hL v (List.mem_of_mem_drop hv)))
  rw [Go.WideShapes.add_plain]
  rw [List.length_drop] at hi
  have := hB.at_ (o + i) (by omega)
  simpa [List.getD_eq_getElem?_getD, List.getElem?_drop] using this
theorem ks_alloc {B : Nat} {w W : World} {a8 a9 a18 : Addr} {v8 v9 v18 : Value} (h8 : W.cell? a8 = some v8) (h9 : W.cell? a9 = some v9) (h18 : W.cell? a18 = some v18) (hb : Hid (Below B w W)) (hB : Hid (B ≤ w.heap.size)) (o : Obj) :
    (W.alloc o).cell? a8 = some v8 ∧ (W.alloc o).cell? a9 = some v9 ∧ (W.alloc o).cell? a18 = some v18 ∧ Hid (Below B w (W.alloc o)) := by
  have hf := (Fr.refl (fun _ => False) W).alloc o
  exact ⟨cell_fr h8 hf (fun h => h), cell_fr h9 hf (fun h => h), cell_fr h18 hf (fun h => h), Lib.hid (hb.out.alloc (Nat.le_trans hB.out hb.out.size) _)⟩
/-- A head's packet, as the reader reads it. -/
structure HeadPk (K : List Int) : Prop where
  bytes : Bytes K
  len : K.length ≤ 300
  nine : 1 ≤ K.getD 9 0
  name : K.take 8 = [79, 112, 117, 115, 72, 101, 97, 100]
  kind : (K.getD 18 0 = 0 ∧ K.length = 19) ∨ ((K.getD 18 0 = 1 ∨ K.getD 18 0 = 255) ∧ (K.length : Int) = 21 + K.getD 9 0)

end Go.Proofs.YtojdfjohmicopaaGreatDoor
namespace Go.Proofs.YtojdfjohmicopaaGreatDoor
open Go Go.RowKit Go.Proofs.YtojdfjohmicopaaGreatDoorW.PrintWords Go.Proofs.YtojdfjohmicopaaGreatDoor.Crc

set_option maxRecDepth 100000 in
set_option maxHeartbeats 2000000 in
theorem map0_any (w : World) (go gi : Nat) (A : Option Addr) (c : Nat) (v0 v1 v2 v3 v4 v5 : Value) (h1 : Value) (hO : Blk w go 136 #[v0, v1, v2, v3, v4, v5])
    (hI : w.cell? ⟨gi, 0, none⟩ = some (.int .u8 0)) :
    Calls Tryz.prog 108 #[.pointer (some ⟨go, 0, none⟩), .pointer (some ⟨gi, 0, none⟩), .slice A 19 c] w fun e w' => e = .returned .nilIface ∧ Blk w' go 136 #[v0, v1, v2, v3, v4, .pointer none] ∧ Fr (fun k => k = go) w w' := by
  have c5 : w.cell? ⟨go, 5, none⟩ = some v5 := by simpa using hO.cell 5
  have cf := hO.frozen
  go_enter Tryz.func108, Tryz.ntmps108
  go_wp2_with fail
  go_ret
  exact ⟨rfl, hO.store rfl, (Fr.refl (fun k => k = go) w).set (p := ⟨go, 5, none⟩) (.inl rfl) _⟩
end Go.Proofs.YtojdfjohmicopaaGreatDoor
