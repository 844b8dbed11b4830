/- A contract of the reader's next packet: the first page, one packet. Conditions: the page lies whole in the bytes, its sum is right, its lengths are those of one packet. Contracts of the opening of a stream. Conditions: the first page lies whole in the bytes, its sum is right, it bears a head that spec.HeadWrite writes. A contract of impl.open. Conditions: the first page lies whole in the bytes, its sum is right, it bears a head that spec.HeadWrite writes. Contracts of the reader's next page, said of pages as lists. Conditions: the page lies whole in the bytes; the variable of the sums' error is set. -/
import Derived.Test.YtojdfjohmicopaaGreatDoorMk
import Derived.Test.YtojdfjohmicopaaGreatDoorMh
import Derived.Defers
import Derived.Recover
import Derived.Test.YtojdfjohmicopaaGreatDoorMi
namespace Go.Proofs.YtojdfjohmicopaaGreatDoor
open Go Go.RowKit Go.Proofs.YtojdfjohmicopaaGreatDoorW.PrintWords Go.Proofs.YtojdfjohmicopaaGreatDoor.Crc

/-- What the first packet gives. -/
def PacketPost (w : World) (go gs gb gt gp : Nat) (x : Value) (Z : List Int) (pos' : Nat) (K : List Int) (b0 b1 b2 b3 : Int) (e : Ending) (w' : World) : Prop :=
  ∃ gd c gh g v s i n, e = .returned (.tuple #[.slice (some ⟨gd, 0, none⟩) K.length c, .pointer (some ⟨gh, 0, none⟩), .nilIface]) ∧ w.heap.size ≤ gd ∧ w.heap.size ≤ gh ∧ K.length ≤ c ∧ Row w' gd K ∧ Blk w' gh 67 (hdr g b0 b1 b2 b3 v 2 s i n) ∧
    Rdr w' go gs gb gt gp x Z pos' ∧ (∃ q pp li hl, Pst w' gp q pp false li hl) ∧ Fr (fun j => j = gs ∨ j = gp) w w'

set_option maxRecDepth 100000 in
set_option maxHeartbeats 8000000 in
theorem packet_any (w : World) (go gs gb gt gp pos : Nat) (x : Value) (Z : List Int) (tE : TypeId) (pE : Addr) (li : Int) (hR : Rdr w go gs gb gt gp x Z pos) (hP : Pst w gp (.slice none 0 0) (.slice none 0 0) false li false) (hgp : gp ≠ gs ∧ gp ≠ go ∧ gp ≠ gb ∧ gp ≠ gt) (hZ : Z.length < 4611686018427387904) (hB : Bytes Z)
    (hE : w.cell? ⟨4, 0, none⟩ = some (.iface tE (.pointer (some pE)))) (hEs : 4 ≠ gs)
    (N : Nat) (hN : Z.getD (pos + 26) 0 = (N : Int)) (hN8 : N < 256) (hfit : pos + 27 + N + total (cut Z (pos + 27) N) ≤ Z.length) (hok : pageOk Z pos N) (h5 : (cut Z pos 27).getD 5 0 = 2) (hL : OnePk (cut Z (pos + 27) N))
    (K : List Int) (hK : (bodies Z (pos + 27 + N) (cut Z (pos + 27) N)).flatten = K) (h0 : 0 < K.length) (hm : K.length ≤ 300) :
    Calls Tryz.prog 106 #[.pointer (some ⟨go, 0, none⟩)] w (PacketPost w go gs gb gt gp x Z (pos + 27 + N + total (cut Z (pos + 27) N)) K ((cut Z pos 27).getD 0 0) ((cut Z pos 27).getD 1 0) ((cut Z pos 27).getD 2 0) ((cut Z pos 27).getD 3 0)) := by
  have hLl := cut_length Z (pos + 27) N (by omega)
  have HPG := Lib.hid (page_any w go gs gb gt gp pos x Z _ hR hZ hB hE hEs ⟨tE, pE, rfl⟩ N hN hN8 hfit)
  have HP := Lib.hid hP; have HR := Lib.hid hR; have HOK := Lib.hid hok; have HL := Lib.hid hL; have HLl := Lib.hid hLl; have HKe := Lib.hid hK; have H5 := Lib.hid h5
  have hgpl : gp < w.heap.size := Blk.lt hP
  clear hP hR hE hN hfit hB hok hL hLl hK h5
  obtain ⟨k0, k2, k3, k4⟩ := HR.out.cells
  obtain ⟨p0, p1, p2, p3, p4⟩ := Blk.five HP.out
  go_enter Tryz.func106, Tryz.ntmps106
  go_wp2_with fail
  refine (state_any w go gp k4).mono ?_
  rintro e w' ⟨rfl, hw⟩
  obtain rfl := hw.symm
  clear hw
  go_wp2_with fail
  refine wp_loop_rounds 1 ?_
  rw [rounds_succ]
  go_wp2_with fail
  refine HPG.out.mono ?_
  rintro e w1 ⟨hR1, hF1, hok1, -⟩
  obtain ⟨v, gz, gh, gv, rfl, hz1, hz2, hh1, hh2, hhz, hV, hZb, hG⟩ := hok1 HOK.out
  have HR1 := Lib.hid hR1; have HF1 := Lib.hid hF1
  have HP1 := Lib.hid (show Pst w1 gp _ _ false li false from Blk.fr HP.out hF1 hgp.1)
  rw [H5.out] at hG
  have hq := queue_any w1 go gp gh gz gv _ _ v li _ _ _ _ _ _ _ _ _ hR1.cells.2.2.2 hgp.2.1.symm HP1.out hG (by omega) hZb (by omega) HL.out hV (by omega) (bodies_length _ _ _) K HKe.out h0 hm
  rw [HLl.out] at hq
  have HQ := Lib.hid hq
  obtain ⟨A, c, rfl, -⟩ := Kd.R_reads hV
  clear hR1 hF1 hok1 hV hZb hG hq HPG k0 k2 k3 k4 p0 p1 p2 p3 p4
  generalize hbn : (bodies Z (pos + 27 + N) (cut Z (pos + 27) N)).length = bn at HQ ⊢
  clear hbn
  go_wp2_with fail
  refine HQ.out.mono ?_
  rintro e w2 ⟨rfl, ⟨q, pp, li2, hl2, hp2, hq2⟩, hf2⟩
  have HP2 := Lib.hid hp2
  have HF2 := Lib.hid ((HF1.out.mono (fun _ _ h => .inl h)).call (S := fun j => j = gs ∨ j = gp) hf2 (fun j hj => .inl (.inr hj)))
  have HR2 := Lib.hid (HR1.out.fr hf2 (by omega) (by omega) (by omega) (by omega))
  obtain ⟨gq, cap, gd, cap2, gh2, rfl, hq1, hq3, hq4, hq5, hq6, hq7, hq8, hq9, hq10⟩ := hq2
  have HRow := Lib.hid hq9; have HG2 := Lib.hid hq10
  have hs1 : w.heap.size ≤ w1.heap.size := HF1.out.size
  clear hp2 hf2 hq9 hq10 HQ HP1 HR1 HF1
  obtain ⟨p0, p1, p2, p3, p4⟩ := Blk.five HP2.out
  go_upto_region 16 with fail
  have hb3 : Blk (w2.alloc (.cells #[.slice (some ⟨gd, 0, none⟩) K.length cap2, .pointer (some ⟨gh2, 0, none⟩)] 179)) w2.heap.size 179 #[.slice (some ⟨gd, 0, none⟩) K.length cap2, .pointer (some ⟨gh2, 0, none⟩)] := Blk.new w2 _ _
  have hf3 := (Fr.refl (fun j => j = gp) w2).alloc (.cells #[.slice (some ⟨gd, 0, none⟩) K.length cap2, .pointer (some ⟨gh2, 0, none⟩)] 179)
  have HP3 := Lib.hid (show Pst _ gp _ _ false li2 hl2 from Blk.alloc HP2.out (.cells #[.slice (some ⟨gd, 0, none⟩) K.length cap2, .pointer (some ⟨gh2, 0, none⟩)] 179))
  have HB3 := Lib.hid hb3
  have HF3 := Lib.hid hf3
  have hs2 : w.heap.size ≤ w2.heap.size := HF2.out.size
  have hs3 := hb3.lt
  clear p0 p1 p2 p3 p4 hb3 hf3 HP2 hq7 hq8
  generalize w2.alloc (.cells #[.slice (some ⟨gd, 0, none⟩) K.length cap2, .pointer (some ⟨gh2, 0, none⟩)] 179) = w3 at HP3 HB3 HF3 hs3 ⊢
  generalize hgx : w2.heap.size = gx at HB3 hs2 hs3 ⊢
  obtain ⟨p0, p1, p2, p3, p4⟩ := Blk.five HP3.out
  have pf := Blk.frozen HP3.out
  have hcap1 : (1 : Int) ≤ (cap : Int) := by omega
  have hxp : gx ≠ gp := by omega
  by_cases hcap : cap = 1
  · go_upto_region 17 with fail
    have HF4 := Lib.hid (HF3.out.set (p := ⟨gp, 0, none⟩) (.inl rfl) (.slice (some ⟨gq, 0, none⟩) 0 0))
    have HB4 := Lib.hid (Blk.far (p := ⟨gp, 0, none⟩) HB3.out hxp (.slice (some ⟨gq, 0, none⟩) 0 0))
    have HP4 := Lib.hid (show Pst _ gp _ pp false li2 hl2 from Blk.store (i := 0) (u := .slice (some ⟨gq, 0, none⟩) 0 0) HP3.out rfl)
    clear p0 p1 p2 p3 p4 pf HF3 HB3 HP3
    generalize w3.setCell ⟨gp, 0, none⟩ (.slice (some ⟨gq, 0, none⟩) 0 0) = w4 at HF4 HB4 HP4 ⊢
    have x0 : w4.cell? ⟨gx, 0, none⟩ = some (.slice (some ⟨gd, 0, none⟩) K.length cap2) := by simpa using HB4.out.cell 0
    have x1 : w4.cell? ⟨gx, 1, none⟩ = some (.pointer (some ⟨gh2, 0, none⟩)) := by simpa using HB4.out.cell 1
    go_quiet (fail)
    rename_i nq
    go_wp2_with fail
    refine bodyPost_ret (v := .tuple #[.slice (some ⟨gd, 0, none⟩) K.length cap2, .pointer (some ⟨gh2, 0, none⟩), .nilIface]) (by simp [results, Tryz.results106, go_sem]) rfl ?_
    refine ⟨gd, cap2, gh2, _, _, _, _, _, rfl, by omega, by omega, hq6, (HRow.out.fr HF4.out (by omega)).fr ((Fr.refl (fun _ => False) w4).drewN nq) (fun h => h), (HG2.out.fr HF4.out (by omega)).drewN nq, (HR2.out.fr HF4.out (by omega) (by omega) (by omega) (by omega)).fr ((Fr.refl (fun _ => False) w4).drewN nq) (fun h => h) (fun h => h) (fun h => h) (fun h => h), ⟨_, _, _, _, Blk.drewN HP4.out nq⟩, (HF2.out.call (S := fun j => j = gs ∨ j = gp) HF4.out (fun j hj => .inl (.inr hj))).drewN nq⟩
  · go_upto_region 17 with fail
    have HF4 := Lib.hid (HF3.out.set (p := ⟨gp, 0, none⟩) (.inl rfl) (.slice (some ⟨gq, 2, none⟩) 0 (cap - 1)))
    have HB4 := Lib.hid (Blk.far (p := ⟨gp, 0, none⟩) HB3.out hxp (.slice (some ⟨gq, 2, none⟩) 0 (cap - 1)))
    have HP4 := Lib.hid (show Pst _ gp _ pp false li2 hl2 from Blk.store (i := 0) (u := .slice (some ⟨gq, 2, none⟩) 0 (cap - 1)) HP3.out rfl)
    clear p0 p1 p2 p3 p4 pf HF3 HB3 HP3
    generalize w3.setCell ⟨gp, 0, none⟩ (.slice (some ⟨gq, 2, none⟩) 0 (cap - 1)) = w4 at HF4 HB4 HP4 ⊢
    have x0 : w4.cell? ⟨gx, 0, none⟩ = some (.slice (some ⟨gd, 0, none⟩) K.length cap2) := by simpa using HB4.out.cell 0
    have x1 : w4.cell? ⟨gx, 1, none⟩ = some (.pointer (some ⟨gh2, 0, none⟩)) := by simpa using HB4.out.cell 1
    go_quiet (fail)
    rename_i nq
    go_wp2_with fail
    refine bodyPost_ret (v := .tuple #[.slice (some ⟨gd, 0, none⟩) K.length cap2, .pointer (some ⟨gh2, 0, none⟩), .nilIface]) (by simp [results, Tryz.results106, go_sem]) rfl ?_
    refine ⟨gd, cap2, gh2, _, _, _, _, _, rfl, by omega, by omega, hq6, (HRow.out.fr HF4.out (by omega)).fr ((Fr.refl (fun _ => False) w4).drewN nq) (fun h => h), (HG2.out.fr HF4.out (by omega)).drewN nq, (HR2.out.fr HF4.out (by omega) (by omega) (by omega) (by omega)).fr ((Fr.refl (fun _ => False) w4).drewN nq) (fun h => h) (fun h => h) (fun h => h) (fun h => h), ⟨_, _, _, _, Blk.drewN HP4.out nq⟩, (HF2.out.call (S := fun j => j = gs ∨ j = gp) HF4.out (fun j hj => .inl (.inr hj))).drewN nq⟩
end Go.Proofs.YtojdfjohmicopaaGreatDoor
namespace Go.Proofs.YtojdfjohmicopaaGreatDoor
open Go Go.RowKit Go.Proofs.YtojdfjohmicopaaGreatDoorW.PrintWords Go.Proofs.YtojdfjohmicopaaGreatDoor.Crc

/-- A first page with a head. -/
structure FirstPg (Z : List Int) (pos N : Nat) (K : List Int) : Prop where
  n : Z.getD (pos + 26) 0 = (N : Int)
  n8 : N < 256
  fit : pos + 27 + N + total (cut Z (pos + 27) N) ≤ Z.length
  ok : pageOk Z pos N
  ty : (cut Z pos 27).getD 5 0 = 2
  one : OnePk (cut Z (pos + 27) N)
  pk : (bodies Z (pos + 27 + N) (cut Z (pos + 27) N)).flatten = K
  head : HeadPk K
  s0 : (cut Z pos 27).getD 0 0 = 79
  s1 : (cut Z pos 27).getD 1 0 = 103
  s2 : (cut Z pos 27).getD 2 0 = 103
  s3 : (cut Z pos 27).getD 3 0 = 83
theorem HeadPk.pos {K : List Int} (h : HeadPk K) : 0 < K.length := by
  rcases h.kind with ⟨_, hl⟩ | ⟨_, hl⟩
  · omega
  · have := h.nine; omega

set_option maxRecDepth 100000 in
set_option maxHeartbeats 8000000 in
theorem heads_any (w : World) (go gs gb gt gp pos : Nat) (x : Value) (Z : List Int) (tE : TypeId) (pE : Addr) (li : Int) (hR : Rdr w go gs gb gt gp x Z pos) (hP : Pst w gp (.slice none 0 0) (.slice none 0 0) false li false) (hgp : gp ≠ gs ∧ gp ≠ go ∧ gp ≠ gb ∧ gp ≠ gt) (hgo : go ≠ gb ∧ go ≠ gt) (hZ : Z.length < 4611686018427387904) (hB : Bytes Z)
    (hE : w.cell? ⟨4, 0, none⟩ = some (.iface tE (.pointer (some pE)))) (hEs : 4 ≠ gs)
    (N : Nat) (K : List Int) (hF : FirstPg Z pos N K) :
    Calls Tryz.prog 96 #[.pointer (some ⟨go, 0, none⟩)] w fun e w' => ∃ gi x', e = .returned (.tuple #[.pointer (some ⟨gi, 0, none⟩), .nilIface]) ∧ Rdr w' go gs gb gt gp x' Z (pos + 27 + N + total (cut Z (pos + 27) N)) ∧ (∃ q pp li hl, Pst w' gp q pp false li hl) ∧ Fr (fun j => j = gs ∨ j = gp ∨ j = go) w w' := by
  have HPK := Lib.hid (packet_any w go gs gb gt gp pos x Z tE pE li hR hP hgp hZ hB hE hEs N hF.n hF.n8 hF.fit hF.ok hF.ty hF.one K hF.pk hF.head.pos hF.head.len)
  rw [hF.s0, hF.s1, hF.s2, hF.s3] at HPK
  have hgol := hR.O.lt
  have HH := Lib.hid hF.head
  have hne := hR.ne
  clear hR hP hE hF hB
  go_enter Tryz.func96, Tryz.ntmps96
  go_wp2_with fail
  refine HPK.out.mono ?_
  rintro e w1 ⟨gd, c, gh, g, v, s, i, n, rfl, h1, h2, h3, hrow, hg, hR1, hP1, hF1⟩
  have HR1 := Lib.hid hR1; have HP1 := Lib.hid hP1; have HF1 := Lib.hid hF1; have HROW := Lib.hid hrow
  have HID := Lib.hid (idhead_any w1 gh gd c K g v s i n HH.out hg hrow h3)
  clear hrow hg hR1 hP1 hF1 HPK
  go_wp2_with fail
  refine HID.out.mono ?_
  rintro e w2 ⟨⟨gi, o, w4, w3, w5, rfl, hgi, hI⟩, hb2⟩
  have hb2' := Fr.of_below (S := fun _ => False) hb2 (Nat.le_refl _)
  have HR2 := Lib.hid (HR1.out.fr hb2' (fun h => h) (fun h => h) (fun h => h) (fun h => h))
  have hrow2 := HROW.out.fr hb2' (fun h => h)
  have HF2 := Lib.hid (HF1.out.call hb2' (fun j h => h.elim))
  have HP2 := Lib.hid (show ∃ q pp li hl, Pst w2 gp q pp false li hl from by obtain ⟨q, pp, li, hl, h⟩ := HP1.out; exact ⟨q, pp, li, hl, Blk.fr h hb2' (fun h => h)⟩)
  have HM := Lib.hid (map_any w2 go gi gd c K _ _ _ _ _ _ _ _ _ _ HR2.out.O hI HH.out hrow2 h3 (by omega))
  clear hb2 hb2' hrow2 hI HR1 HF1 HP1 HROW HID
  go_wp2_with fail
  refine HM.out.mono ?_
  rintro e w3' ⟨rfl, ⟨x', hO⟩, hF3⟩
  have HO := Lib.hid hO; have HF3 := Lib.hid hF3
  clear hO hF3 HM
  go_wp2_with fail
  go_ret2
  have ha : gs ≠ go := hne.1
  have hp : gp ≠ go := hgp.2.1
  obtain ⟨q, pp, li2, hl2, hP2⟩ := HP2.out
  exact ⟨gi, x', rfl, ⟨HO.out, fun h => (by obtain ⟨c, h1, h3, h4⟩ := HR2.out.S h; exact ⟨c, h1, h3, Blk.fr h4 HF3.out ha⟩), Nat.lt_of_lt_of_le HR2.out.s HF3.out.size, HR2.out.D.fr HF3.out hgo.1.symm, HR2.out.T.fr HF3.out hgo.2.symm, HR2.out.ne⟩, ⟨q, pp, li2, hl2, Blk.fr hP2 HF3.out hp⟩, (HF2.out.mono (fun _ _ h => by rcases h with h | h; exact .inl h; exact .inr (.inl h))).trans (HF3.out.mono (fun _ _ h => .inr (.inr h)))⟩
/-- What an opened stream is. -/
def Opened (w : World) (gs gb : Nat) (Z : List Int) (pos' : Nat) (e : Ending) (w' : World) : Prop :=
  ∃ go gt gp gi x, e = .returned (.tuple #[.pointer (some ⟨go, 0, none⟩), .pointer (some ⟨gi, 0, none⟩), .nilIface]) ∧ w.heap.size ≤ go ∧ w.heap.size ≤ gp ∧ w.heap.size ≤ gt ∧ go ≠ gp ∧ gp ≠ gt ∧ go ≠ gt ∧
    Rdr w' go gs gb gt gp x Z pos' ∧ (∃ q pp li hl, Pst w' gp q pp false li hl) ∧ Fr (fun j => j = gs) w w'

set_option maxRecDepth 100000 in
set_option maxHeartbeats 8000000 in
theorem newwith_any (w : World) (gs gb : Nat) (Z : List Int) (tE : TypeId) (pE : Addr) (cp : Nat) (hcp : Z.length ≤ cp) (hcm : cp ≤ 9223372036854775807) (hS : Src w gs gb 0 Z.length cp) (hD : Row w gb Z) (hne : gs ≠ gb) (hZ : Z.length < 4611686018427387904) (hB : Bytes Z)
    (hE : w.cell? ⟨4, 0, none⟩ = some (.iface tE (.pointer (some pE)))) (hEs : 4 ≠ gs)
    (N : Nat) (K : List Int) (hF : FirstPg Z 0 N K) :
    Calls Tryz.prog 69 #[.iface 91 (.pointer (some ⟨gs, 0, none⟩)), .bool true] w (Opened w gs gb Z (0 + 27 + N + total (cut Z (0 + 27) N))) := by
  have HS := Lib.hid hS; have HD := Lib.hid hD; have HF := Lib.hid hF; have HB := Lib.hid hB; have HE := Lib.hid hE
  have hgs : gs < w.heap.size := Blk.lt hS
  have hgb := hD.lt
  clear hS hD hF hB hE
  go_enter Tryz.func69, Tryz.ntmps69
  go_wp2_with fail
  refine (table_any w).mono ?_
  rintro e w1 ⟨rfl, hT1, hb1⟩
  have HT1 := Lib.hid hT1
  have HF1 := Lib.hid (Fr.of_below (S := fun _ => False) hb1 (Nat.le_refl _))
  have hs1 : w.heap.size < w1.heap.size := hT1.lt
  clear hT1 hb1
  go_upto_region 4 with fail
  have hp : Pst ((w1.alloc (.cells #[.slice none 0 0, .slice none 0 0, .bool false, .int .u32 0, .bool false] 145)).alloc (.cells #[.iface 91 (.pointer (some ⟨gs, 0, none⟩)), .int .i64 0, .pointer (some ⟨w.heap.size, 0, none⟩), .bool true, .pointer (some ⟨w1.heap.size, 0, none⟩), .pointer none] 136)) w1.heap.size (.slice none 0 0) (.slice none 0 0) false 0 false := Blk.alloc (Blk.new w1 _ _) _
  have ho : Blk ((w1.alloc (.cells #[.slice none 0 0, .slice none 0 0, .bool false, .int .u32 0, .bool false] 145)).alloc (.cells #[.iface 91 (.pointer (some ⟨gs, 0, none⟩)), .int .i64 0, .pointer (some ⟨w.heap.size, 0, none⟩), .bool true, .pointer (some ⟨w1.heap.size, 0, none⟩), .pointer none] 136)) (w1.heap.size + 1) 136 #[.iface 91 (.pointer (some ⟨gs, 0, none⟩)), .int .i64 0, .pointer (some ⟨w.heap.size, 0, none⟩), .bool true, .pointer (some ⟨w1.heap.size, 0, none⟩), .pointer none] := Blk.new' (by simp)
  have hf2 := ((Fr.refl (fun _ => False) w1).alloc (.cells #[.slice none 0 0, .slice none 0 0, .bool false, .int .u32 0, .bool false] 145)).alloc (.cells #[.iface 91 (.pointer (some ⟨gs, 0, none⟩)), .int .i64 0, .pointer (some ⟨w.heap.size, 0, none⟩), .bool true, .pointer (some ⟨w1.heap.size, 0, none⟩), .pointer none] 136)
  have hT2 := HT1.out.fr hf2 (fun h => h)
  have hsz2 : w1.heap.size + 1 < ((w1.alloc (.cells #[.slice none 0 0, .slice none 0 0, .bool false, .int .u32 0, .bool false] 145)).alloc (.cells #[.iface 91 (.pointer (some ⟨gs, 0, none⟩)), .int .i64 0, .pointer (some ⟨w.heap.size, 0, none⟩), .bool true, .pointer (some ⟨w1.heap.size, 0, none⟩), .pointer none] 136)).heap.size := ho.lt
  generalize ((w1.alloc (.cells #[.slice none 0 0, .slice none 0 0, .bool false, .int .u32 0, .bool false] 145)).alloc (.cells #[.iface 91 (.pointer (some ⟨gs, 0, none⟩)), .int .i64 0, .pointer (some ⟨w.heap.size, 0, none⟩), .bool true, .pointer (some ⟨w1.heap.size, 0, none⟩), .pointer none] 136)) = w2 at hp ho hf2 hT2 hsz2 ⊢
  have hf3 := HF1.out.trans hf2
  generalize hgt : w.heap.size = gt at ho hT2 hs1 hgs hgb ⊢
  generalize hgp : w1.heap.size = gp at hp ho hs1 hsz2 ⊢
  have hR : Rdr w2 (gp + 1) gs gb gt gp (.pointer none) Z 0 := ⟨ho, fun _ => ⟨cp, by omega, hcm, Blk.fr HS.out hf3 (fun h => h)⟩, by omega, HD.out.fr hf3 (fun h => h), hT2, by omega, by omega, by omega⟩
  have HH := Lib.hid (heads_any w2 (gp + 1) gs gb gt gp 0 _ Z tE pE 0 hR hp (by omega) (by omega) hZ HB.out (cell_fr HE.out hf3 (fun h => h)) hEs N K HF.out)
  have HF3 := Lib.hid hf3
  clear hR hp ho hf2 hT2 hf3 HT1 HF1 HE HD HS
  go_wp2_with fail
  refine HH.out.mono ?_
  rintro e w3 ⟨gi, x', rfl, hR3, hP3, hF4⟩
  have HR3 := Lib.hid hR3; have HP3 := Lib.hid hP3
  have HF4 := Lib.hid (HF3.out.mono (S' := fun j => j = gs) (fun _ _ h => h.elim))
  have HF5 := Lib.hid (HF4.out.call hF4 (fun j h => by rcases h with h | h | h; exact .inl h; exact .inr (by omega); exact .inr (by omega)))
  clear hR3 hP3 hF4
  go_wp2_with fail
  go_ret3
  exact ⟨gp + 1, gt, gp, gi, x', rfl, by omega, by omega, by omega, by omega, by omega, by omega, HR3.out, HP3.out, HF5.out⟩

set_option maxRecDepth 100000 in
set_option maxHeartbeats 2000000 in
theorem new_any (w : World) (gs gb : Nat) (Z : List Int) (tE : TypeId) (pE : Addr) (cp : Nat) (hcp : Z.length ≤ cp) (hcm : cp ≤ 9223372036854775807) (hS : Src w gs gb 0 Z.length cp) (hD : Row w gb Z) (hne : gs ≠ gb) (hZ : Z.length < 4611686018427387904) (hB : Bytes Z)
    (hE : w.cell? ⟨4, 0, none⟩ = some (.iface tE (.pointer (some pE)))) (hEs : 4 ≠ gs)
    (N : Nat) (K : List Int) (hF : FirstPg Z 0 N K) :
    Calls Tryz.prog 32 #[.iface 91 (.pointer (some ⟨gs, 0, none⟩))] w (Opened w gs gb Z (0 + 27 + N + total (cut Z (0 + 27) N))) := by
  have HN := Lib.hid (newwith_any w gs gb Z tE pE cp hcp hcm hS hD hne hZ hB hE hEs N K hF)
  clear hS hD hne hZ hB hE hEs hF
  go_enter Tryz.func32, Tryz.ntmps32
  go_wp2_with fail
  refine HN.out.mono ?_
  rintro e w3 ⟨go, gt, gp, gi, x, rfl, h⟩
  have H := Lib.hid h
  clear h
  go_wp2_with fail
  go_ret3
  exact ⟨go, gt, gp, gi, x, rfl, H.out⟩
end Go.Proofs.YtojdfjohmicopaaGreatDoor
namespace Go.Proofs.YtojdfjohmicopaaGreatDoor
open Go Go.RowKit Go.Proofs.YtojdfjohmicopaaGreatDoorW.PrintWords Go.Proofs.YtojdfjohmicopaaGreatDoor.Crc

/-- What impl.open gives. -/
def OpenPost (w : World) (Z : List Int) (pos' : Nat) (e : Ending) (w' : World) : Prop :=
  ∃ go gs gb gt gp gi x, e = .returned (.tuple #[.pointer (some ⟨go, 0, none⟩), .pointer (some ⟨gi, 0, none⟩), .nilIface]) ∧ w.heap.size ≤ go ∧ w.heap.size ≤ gs ∧ w.heap.size ≤ gb ∧ w.heap.size ≤ gp ∧ w.heap.size ≤ gt ∧ (gp ≠ gs ∧ gp ≠ go ∧ gp ≠ gb ∧ gp ≠ gt) ∧
    Rdr w' go gs gb gt gp x Z pos' ∧ (∃ q pp li hl, Pst w' gp q pp false li hl) ∧ Below w.heap.size w w'

set_option maxRecDepth 100000 in
set_option maxHeartbeats 8000000 in
theorem open_any (w : World) (b : ByteArray) (tE : TypeId) (pE : Addr) (hb : b.size ≤ 1000000000)
    (hE : w.cell? ⟨4, 0, none⟩ = some (.iface tE (.pointer (some pE))))
    (N : Nat) (K : List Int) (hB : Bytes (bytesOf b)) (hF : FirstPg (bytesOf b) 0 N K) :
    Calls Tryz.prog 19 #[.string b] w (OpenPost w (bytesOf b) (0 + 27 + N + total (cut (bytesOf b) (0 + 27) N))) := by
  have hEl : 4 < w.heap.size := World.block_lt_of_cell? w _ hE
  have hZl := bytesOf_length b
  have HB := Lib.hid hB; have HF := Lib.hid hF
  have kb := print_bytes (P := Tryz.prog) 9 33 5 Tryz.underlying9 Tryz.underlying33 Tryz.underlying5 b w
  have hcap := grownCap_ge w b.size 0 5
  have hcm := grownCap_le_maxLen w b.size 0 5 (by unfold maxLen; omega)
  unfold maxLen at hcm
  clear hB hF
  generalize hcp : grownCap w b.size 0 5 = cp at kb hcap hcm
  clear hcp
  have hr : ReadsInt (Lib.bytesWorld w 5 b) .u8 (some ⟨w.heap.size, 0, none⟩) b.size (bytesOf b) := bytes_reads w 5 b (by omega)
  have hbw := bytes_below (Below.refl w.heap.size w) (Nat.le_refl _) 5 b
  have hsz := Lib.bytesWorld_size w 5 b
  have hrow : Row (Lib.bytesWorld w 5 b) w.heap.size (bytesOf b) := ⟨by omega, fun j hj => by
    rw [bytesOf_length] at hj
    obtain ⟨ad, e, hc⟩ := hr.at_ (j : Int) (by omega) (by omega)
    injection e with e
    subst e
    simpa [rd, add_plain, Go.WideShapes.add_plain] using hc⟩
  have HROW := Lib.hid hrow; have HBW := Lib.hid hbw
  have HSZ := Lib.hid hsz
  clear hr hrow hbw hsz
  have HE := Lib.hid hE
  clear hE
  go_enter Tryz.func19, Tryz.ntmps19
  generalize Lib.bytesWorld w 5 b = w1 at kb HROW HBW HSZ
  go_wp2_with fail
  have hsz := HSZ.out
  have hs2 := (Blk.new w1 93 #[.slice (some ⟨w.heap.size, 0, none⟩) b.size cp])
  have hf2 := (Fr.refl (fun _ => False) w1).alloc (.cells #[.slice (some ⟨w.heap.size, 0, none⟩) b.size cp] 93)
  have hrow2 := HROW.out.fr hf2 (fun h => h)
  have hF1 := (Fr.of_below (S := fun _ => False) HBW.out (Nat.le_refl _)).trans hf2
  have HE2 := cell_fr HE.out hF1 (fun h => h)
  have hs2' : Src (w1.alloc (.cells #[.slice (some ⟨w.heap.size, 0, none⟩) b.size cp] 93)) w1.heap.size w.heap.size 0 (bytesOf b).length cp := by rw [hZl]; exact hs2
  have hsz2 : (w1.alloc (.cells #[.slice (some ⟨w.heap.size, 0, none⟩) b.size cp] 93)).heap.size = w1.heap.size + 1 := by simp
  have HN := Lib.hid (new_any _ w1.heap.size w.heap.size (bytesOf b) tE pE cp (by omega) hcm hs2' hrow2 (by omega) (by omega) HB.out HE2 (by omega) N K HF.out)
  have HF1 := Lib.hid hF1
  clear hs2 hs2' hf2 hrow2 hF1 HE2 HE HROW HBW kb
  generalize w1.alloc (.cells #[.slice (some ⟨w.heap.size, 0, none⟩) b.size cp] 93) = w2 at HN HF1 hsz2 ⊢
  refine HN.out.mono ?_
  rintro e w3 ⟨go, gt, gp, gi, x, rfl, hgo, hgp, hgt, n1, n2, n3, hR, hP, hF⟩
  have HSZ2 := Lib.hid hsz2
  have HR := Lib.hid hR; have HP := Lib.hid hP
  have HB3 := Lib.hid ((HF1.out.call hF (fun j h => .inr (by omega))).below (Nat.le_refl _) (fun k h => h.elim))
  clear hR hP hF HN hsz hsz2
  go_wp2_with fail
  go_ret3
  have hsz := HSZ.out
  have hsz2 := HSZ2.out
  exact ⟨go, w1.heap.size, w.heap.size, gt, gp, gi, x, rfl, by omega, by omega, by omega, by omega, by omega, by omega, HR.out, HP.out, HB3.out⟩
end Go.Proofs.YtojdfjohmicopaaGreatDoor
namespace Go.Proofs.YtojdfjohmicopaaGreatDoor
open Go Go.RowKit Go.Proofs.YtojdfjohmicopaaGreatDoorW.PrintWords Go.Proofs.YtojdfjohmicopaaGreatDoor.Crc

theorem Pg.Fit.tot {P : Pg} (h : P.Fit) (a b : List Int) : a.length + 27 + P.L.length + total (cut (a ++ (P.bytes ++ b)) (a.length + 27) P.L.length) ≤ (a ++ (P.bytes ++ b)).length := by
  rw [pg_next h]; simp
theorem gran_head {P : Pg} (h : P.Fit) (l : List Int) : Lib.leZ (((P.A ++ l).drop 6).take 8) = gran P := by
  have ha := h.a
  unfold gran
  rw [List.drop_append, List.take_append]
  have h1 : 6 - P.A.length = 0 := by omega
  have h2 : 8 - (P.A.drop 6).length = 0 := by rw [List.length_drop]; omega
  rw [h1, h2]; simp
/-- What the next page gives, said of pages. -/
def NextPg (w : World) (go gs gb gt gp : Nat) (x : Value) (Z : List Int) (p : Nat) (P : Pg) (u : Value) (q pp : Value) (d : Bool) (e : Ending) (w' : World) : Prop :=
  Rdr w' go gs gb gt gp x Z (p + P.bytes.length) ∧ Fr (fun j => j = gs ∨ j = gp) w w' ∧ (∃ li hl, Pst w' gp q pp d li hl) ∧
  (P.ok → ∃ v gh gv, e = .returned (.tuple #[v, .pointer (some ⟨gh, 0, none⟩), .nilIface]) ∧ w.heap.size ≤ gh ∧ gh < gv ∧
    SegK.R 33 w' gv (fun j => gv ≤ j) v (bods P.B P.L) ∧ w'.cell? ⟨gh, 0, none⟩ = some (.int .u64 (gran P))) ∧
  (¬ P.ok → e = .returned (.tuple #[.slice none 0 0, .pointer none, u]))
theorem nextpg_any (w : World) (go gs gb gt gp : Nat) (x : Value) (Z a b : List Int) (P : Pg) (hP : P.Fit) (hz : Z = a ++ (P.bytes ++ b)) (tE : TypeId) (pE : Addr) (q pp : Value) (d : Bool) (li : Int) (hl : Bool) (hR : Rdr w go gs gb gt gp x Z a.length) (hS : Pst w gp q pp d li hl) (hgp : gp ≠ gs ∧ gp ≠ go ∧ gp ≠ gb ∧ gp ≠ gt) (hZ : Z.length < 4611686018427387904) (hB : Bytes Z)
    (hE : w.cell? ⟨4, 0, none⟩ = some (.iface tE (.pointer (some pE)))) (hEs : 4 ≠ gs) :
    Calls Tryz.prog 20 #[.pointer (some ⟨go, 0, none⟩)] w (NextPg w go gs gb gt gp x Z a.length P (.iface tE (.pointer (some pE))) q pp d) := by
  subst hz
  refine (next_any w go gs gb gt gp a.length x _ tE pE q pp d li hl hR hS hgp hZ hB hE hEs P.L.length (pg_count hP a b) (by have := hP.l; omega) (hP.tot a b)).mono ?_
  rintro e w' ⟨h1, h2, h3, h4, h5⟩
  rw [pg_next hP] at h1
  rw [pg_lens hP, pg_bodies hP, pg_ok hP, pg_head hP, gran_head hP] at h4
  rw [pg_ok hP] at h5
  exact ⟨h1, h2, h3, h4, h5⟩

theorem pages_idle (p q r : Addr) (w : World) :
    CallsD Tryz.prog 18 #[.pointer (some p), .pointer (some q), .pointer (some r)] .returning w fun e u' w' => e = .returned (.tuple #[]) ∧ u' = .returning ∧ w' = w := by
  refine callsD_of_wpS Tryz.func18 rfl fun c₀ cs hu => ?_
  apply wpS_seq
  apply wpS_region
  simp [wpOpsS, go_sem, recoverD, hu, Tryz.ntmps18, Exit.thenS]
  refine wpS_cond (t := false) (by simp [Act.eval, Array.replicate]) ?_
  simp only [Bool.false_eq_true, if_false]
  refine wpS_of_wp (wp_skip ?_)
  cases c₀
  simp_all [bodyPostS, results, Tryz.results18]

theorem info_strs : (Tryz.prog.info? 45).map (fun i => (i.zero, i.size, i.bytes)) = some (some (.slice none 0 0), 1, 24) := by kernel_rfl
theorem info_str : (Tryz.prog.info? 9).map (fun i => (i.zero, i.size, i.bytes)) = some (some (.string ⟨#[]⟩), 1, 16) := by kernel_rfl
theorem info_u64 : (Tryz.prog.info? 42).map (fun i => (i.zero, i.size, i.bytes)) = some (some (.int .u64 0), 1, 8) := by kernel_rfl
end Go.Proofs.YtojdfjohmicopaaGreatDoor
