/- A contract of impl.OggPages over a stream whose pages are whole, one of them hurt. Conditions: the first page bears a head that spec.HeadWrite writes; the variables of the errors are set. -/
import Derived.Test.YtojdfjohmicopaaGreatDoorMl
import Derived.Test.YtojdfjohmicopaaGreatDoorMs
import Derived.LaidEql
import Derived.Deep.CutRange
namespace Go.Proofs.YtojdfjohmicopaaGreatDoor
open Go Go.RowKit Go.Proofs.YtojdfjohmicopaaGreatDoorW.PrintWords Go.Proofs.YtojdfjohmicopaaGreatDoor.Crc

/-- What is left of the source. -/
def remOf (w : World) (gs : Nat) : Nat := match w.cell? ⟨gs, 0, none⟩ with
  | some (.slice _ n _) => n
  | _ => 0
theorem Rdr.rem {w : World} {go gs gb gt gp : Nat} {x : Value} {Z : List Int} {pos : Nat} (h : Rdr w go gs gb gt gp x Z pos) (hp : pos < Z.length) : remOf w gs = Z.length - pos := by
  obtain ⟨c, _, _, hs⟩ := h.S hp
  unfold remOf
  rw [show w.cell? ⟨gs, 0, none⟩ = _ from Blk.one hs]
/-- The variables of the errors. -/
structure Errs (w : World) (pE pF : Addr) : Prop where
  E : w.cell? ⟨4, 0, none⟩ = some (.iface 194 (.pointer (some pE)))
  F : w.cell? ⟨0, 0, none⟩ = some (.iface 194 (.pointer (some pF)))
  ne : pE ≠ pF
  bE : ∃ ca ta, Blk w pE.block ta ca
  bF : ∃ ca ta, Blk w pF.block ta ca
theorem Errs.fr {S : Nat → Prop} {w w' : World} {pE pF : Addr} (h : Errs w pE pF) (hf : Fr S w w') (hn : ∀ k, k < w.heap.size → ¬ S k) : Errs w' pE pF := by
  obtain ⟨ca, ta, h1⟩ := h.bE
  obtain ⟨cb, tb, h2⟩ := h.bF
  exact ⟨cell_fr h.E hf (hn _ (World.block_lt_of_cell? w _ h.E)), cell_fr h.F hf (hn _ (World.block_lt_of_cell? w _ h.F)), h.ne, ⟨ca, ta, h1.fr hf (hn _ h1.lt)⟩, ⟨cb, tb, h2.fr hf (hn _ h2.lt)⟩⟩
theorem comp_err : (Tryz.prog.info? 194).map (fun i => i.comparable) = some true := by kernel_rfl
theorem size_err : (Tryz.prog.info? 211).map (fun i => decide (i.size = 0)) = some false := by kernel_rfl
theorem Errs.parts {w : World} {pE pF : Addr} (h : Errs w pE pF) : (binOp .eql 58 (.iface 194 (.pointer (some pE))) (.iface 194 (.pointer (some pF)))).run Tryz.prog w = .ok (.bool false) w := by
  obtain ⟨i, hi, hc⟩ := Option.map_eq_some_iff.1 comp_err
  obtain ⟨j, hj, hs⟩ := Option.map_eq_some_iff.1 size_err
  obtain ⟨ca, ta, h1⟩ := h.bE
  obtain ⟨cb, tb, h2⟩ := h.bF
  exact run_eql_iface_ptr_other w Tryz.underlying58 Tryz.underlying194 hi hc hj (of_decide_eq_false hs) h.ne h1 h2
theorem nil_eof (v : Value) (w : World) : (binOp .eql 58 .nilIface (.iface 194 v)).run Tryz.prog w = .ok (.bool false) w := run_eql_iface_nil_left w _ _ Tryz.underlying58

/-- What holds between two pages. -/
structure PInv (w : World) (B go gs gb gt gp r : Nat) (x : Value) (Z : List Int) (h : Nat) (ps : List Pg) (k : Nat) (wr : World) : Prop where
  R : Rdr wr go gs gb gt gp x Z (h + (flat (ps.take k)).length)
  P : ∃ q pp li hl, Pst wr gp q pp false li hl
  V0 : ∃ v, Blk wr r 34 #[v] ∧ StrsK.R 45 wr B (fun j => B ≤ j) v ((ps.take k).map strsOf)
  V1 : ∃ v, Blk wr (r + 1) 35 #[v] ∧ (Kd.int .u64).R 42 wr B (fun j => B ≤ j) v ((ps.take k).map gran)
  V2 : Blk wr (r + 1 + 1) 3 #[.int .i64 0]
  F : Fr (fun _ => False) w wr
  sz : B ≤ wr.heap.size
theorem flat_take (ps : List Pg) (k : Nat) (hk : k < ps.length) : flat (ps.take (k + 1)) = flat (ps.take k) ++ (ps[k]).bytes := by
  rw [List.take_succ_eq_append_getElem hk, flat_append]; simp [flat]
theorem flat_split (ps : List Pg) (k : Nat) (hk : k < ps.length) : flat ps = flat (ps.take k) ++ ((ps[k]).bytes ++ flat (ps.drop (k + 1))) := by
  conv => lhs; rw [← List.take_append_drop k ps, flat_append, List.drop_eq_getElem_cons hk, flat_cons]

set_option maxRecDepth 100000 in
set_option maxHeartbeats 8000000 in
theorem pages_any (w : World) (b : ByteArray) (H0 Q : Pg) (ps : List Pg) (rest : List Int) (pE pF : Addr) (hZ : bytesOf b = H0.bytes ++ (flat ps ++ (Q.bytes ++ rest))) (hb : b.size ≤ 1000000000) (K : List Int) (hF0 : FirstPg (bytesOf b) 0 H0.L.length K) (hH : H0.Fit)
    (hps : ∀ P ∈ ps, P.Fit ∧ P.ok) (hQ : Q.Fit) (hQn : ¬ Q.ok) (hl : ps.length ≤ 100) (hB : Bytes (bytesOf b)) (hE : Errs w pE pF) :
    Calls Tryz.prog 9 #[.string b] w fun e w' => ∃ v0 v1, e = .returned (.tuple #[v0, v1, .int .i64 1]) ∧ StrsK.R 45 w' w.heap.size (fun j => w.heap.size ≤ j) v0 (ps.map strsOf) ∧ (Kd.int .u64).R 42 w' w.heap.size (fun j => w.heap.size ≤ j) v1 (ps.map gran) ∧ Below w.heap.size w w' := by
  have e0 : 0 + 27 + H0.L.length + total (cut (bytesOf b) (0 + 27) H0.L.length) = H0.bytes.length := by
    have := pg_next hH [] (flat ps ++ (Q.bytes ++ rest))
    rw [List.nil_append, ← hZ] at this
    simpa using this
  have hmf : ∀ (fn : Fn) (first cap : Array Value) (w : World), (Instr.makeFunc fn first cap).run Tryz.prog w = .ok (.func fn first cap) w := fun _ _ _ _ => rfl
  have HF0 := Lib.hid hF0; have HB := Lib.hid hB; have HE := Lib.hid hE; have HZ := Lib.hid hZ; have HPS := Lib.hid hps; have HE0 := Lib.hid e0
  have hZl := bytesOf_length b
  clear hF0 hB hE hZ hps e0
  go_enter_defers Tryz.func9, Tryz.ntmps9
  go_wp2_with fail
  have hW0 : Blk (((w.alloc (.cells #[nilS] 34)).alloc (.cells #[nilS] 35)).alloc (.cells #[.int .i64 0] 3)) w.heap.size 34 #[nilS] := (((Blk.new' rfl).alloc _).alloc _)
  have hW1 : Blk (((w.alloc (.cells #[nilS] 34)).alloc (.cells #[nilS] 35)).alloc (.cells #[.int .i64 0] 3)) (w.heap.size + 1) 35 #[nilS] := ((Blk.new' (by simp)).alloc _)
  have hW2 : Blk (((w.alloc (.cells #[nilS] 34)).alloc (.cells #[nilS] 35)).alloc (.cells #[.int .i64 0] 3)) (w.heap.size + 1 + 1) 3 #[.int .i64 0] := Blk.new' (by simp)
  have hF := ((((Fr.refl (fun _ => False) w).alloc (.cells #[nilS] 34)).alloc (.cells #[nilS] 35)).alloc (.cells #[.int .i64 0] 3))
  have hsz : (((w.alloc (.cells #[nilS] 34)).alloc (.cells #[nilS] 35)).alloc (.cells #[.int .i64 0] 3)).heap.size = w.heap.size + 1 + 1 + 1 := by simp
  generalize ((w.alloc (.cells #[nilS] 34)).alloc (.cells #[nilS] 35)).alloc (.cells #[.int .i64 0] 3) = W0 at hW0 hW1 hW2 hF hsz ⊢
  have hE0 := HE.out.fr hF (fun _ _ h => h)
  have HO := Lib.hid (open_any W0 b 194 pE hb hE0.E H0.L.length K HB.out HF0.out)
  rw [HE0.out] at HO
  generalize hr : w.heap.size = r at hW0 hW1 hW2 hsz ⊢
  have HSZ := Lib.hid hsz; have HR := Lib.hid hr; have HF := Lib.hid hF; have HW0 := Lib.hid hW0; have HW1 := Lib.hid hW1; have HW2 := Lib.hid hW2
  clear hsz hr hF hW0 hW1 hW2 hE0 HE0 HF0
  refine HO.out.mono ?_
  rintro e w1 ⟨go, gs, gb, gt, gp, gi, x, rfl, g1, g2, g3, g4, g5, g6, hR, hP, hBl⟩
  have hs0 := HSZ.out
  have hr0 := HR.out
  have hbl := Fr.of_below (S := fun _ => False) hBl (Nat.le_refl _)
  have hI : PInv w w1.heap.size go gs gb gt gp r x (bytesOf b) H0.bytes.length ps 0 w1 := ⟨by simpa [flat] using hR, hP, ⟨_, HW0.out.fr hbl (fun h => h), Kd.R_nil _ _ _ _ _⟩, ⟨_, HW1.out.fr hbl (fun h => h), Kd.R_nil _ _ _ _ _⟩, HW2.out.fr hbl (fun h => h), HF.out.trans hbl, Nat.le_refl _⟩
  have HI := Lib.hid hI
  have hgsl := hR.s; have hgol := hR.O.lt; have hgbl := hR.D.lt; have hgtl := hR.T.lt
  have hgpl : gp < w1.heap.size := by obtain ⟨q, pp, li, hl, h⟩ := hP; exact Blk.lt h
  have hW0l := (HW0.out.fr hbl (fun h => h)).lt; have hW1l := (HW1.out.fr hbl (fun h => h)).lt; have hW2l := (HW2.out.fr hbl (fun h => h)).lt
  have d0 : r < go ∧ r < gs ∧ r < gb ∧ r < gp ∧ r < gt := by omega
  have d1 : r + 1 < go ∧ r + 1 < gs ∧ r + 1 < gb ∧ r + 1 < gp ∧ r + 1 < gt := by omega
  have d2 : r + 1 + 1 < go ∧ r + 1 + 1 < gs ∧ r + 1 + 1 < gb ∧ r + 1 + 1 < gp ∧ r + 1 + 1 < gt := by omega
  clear hs0 hr0 hbl hI hR hP hBl HO HW0 HW1 HW2 HF HSZ
  go_wp2_with fail
  go_loopw [] (fun wr => ∃ k : Nat, k ≤ ps.length ∧ Hid (PInv w w1.heap.size go gs gb gt gp r x (bytesOf b) H0.bytes.length ps k wr)) (fun wr => remOf wr gs)
  case atStart => exact ⟨0, by omega, HI⟩
  case round =>
    obtain ⟨k, hk, HIk⟩ := hrel
    clear HI
    generalize hBB : w1.heap.size = B at HIk hgsl hgol hgbl hgtl hgpl hW0l hW1l hW2l ⊢
    clear hBB
    have HEk := Lib.hid (HE.out.fr HIk.out.F (fun _ _ h => h))
    have eof := HEk.out.F
    have hnil := nil_eof (.pointer (some pF))
    by_cases hlt : k < ps.length
    · have h4 : 4 < r := by rw [← HR.out]; exact World.block_lt_of_cell? w _ HE.out.E
      have hR := HIk.out.R
      obtain ⟨q, pp, li, hl2, hp⟩ := HIk.out.P
      obtain ⟨v0, hb0, hv0⟩ := HIk.out.V0
      obtain ⟨v1, hb1, hv1⟩ := HIk.out.V1
      have hb2 := HIk.out.V2
      rw [← List.length_append] at hR
      have hPk := HPS.out _ (List.getElem_mem hlt)
      have hft := flat_take ps k hlt
      have hz : bytesOf b = (H0.bytes ++ flat (ps.take k)) ++ ((ps[k]).bytes ++ (flat (ps.drop (k + 1)) ++ (Q.bytes ++ rest))) := by
        rw [HZ.out, flat_split ps k hlt]; simp
      have HT0 := Lib.hid (show (ps.take (k + 1)).map strsOf = (ps.take k).map strsOf ++ [strsOf ps[k]] by rw [List.take_succ_eq_append_getElem hlt, List.map_append]; rfl)
      have HT1 := Lib.hid (show (ps.take (k + 1)).map gran = (ps.take k).map gran ++ [gran ps[k]] by rw [List.take_succ_eq_append_getElem hlt, List.map_append]; rfl)
      generalize ps[k] = P at hPk hft hz HT0 HT1
      have HN := Lib.hid (nextpg_any wr go gs gb gt gp x (bytesOf b) (H0.bytes ++ flat (ps.take k)) _ P hPk.1 hz 194 pE q pp false li hl2 hR hp g6 (by omega) HB.out HEk.out.E (by omega))
      have hposl : (H0.bytes ++ flat (ps.take k)).length + P.bytes.length < (bytesOf b).length := by
        rw [hz]
        simp only [List.length_append]
        have := hQ.len
        omega
      have hrem0 := hR.rem (by omega)
      have HREM0 := Lib.hid hrem0
      have hpb := hPk.1.len
      obtain ⟨A0, k0, e0⟩ := Kd.R_slice hv0
      obtain ⟨A1, k1, e1⟩ := Kd.R_slice hv1
      have hln0 : ((ps.take k).map strsOf).length ≤ 100 := by rw [List.length_map, List.length_take]; omega
      have hln1 : ((ps.take k).map gran).length ≤ 100 := by rw [List.length_map, List.length_take]; omega
      have HLE1 := Lib.hid (rfl : ((ps.take k).map gran).length = ((ps.take k).map gran).length)
      generalize hn0 : ((ps.take k).map strsOf).length = n0 at e0 hln0
      generalize hn1 : ((ps.take k).map gran).length = n1 at e1 hln1 HLE1
      subst e0 e1
      have HN0 := Lib.hid hn0; have HN1 := Lib.hid hn1
      have HB0 := Lib.hid hb0; have HB1 := Lib.hid hb1; have HB2 := Lib.hid hb2; have HV0 := Lib.hid hv0; have HV1 := Lib.hid hv1; have HFT := Lib.hid hft; have HPK := Lib.hid hPk; have HPOS := Lib.hid hposl
      have hll := hPk.1.l
      clear hR hp hb0 hb1 hb2 hv0 hv1 eof hz hft hPk hrem0 hposl hn0 hn1 HLE1 hpb
      go_wp2_with fail
      refine HN.out.mono ?_
      rintro e W1 ⟨hR1, hF1, hP1, hok, -⟩
      obtain ⟨v, gh, gv, rfl, hg1, hg2, hV, hg⟩ := hok HPK.out.2
      obtain ⟨A, c, rfl, -⟩ := Kd.R_reads hV
      have hsl : (bods P.B P.L).length ≤ 255 := by
        have : ∀ (L B : List Int), (bods B L).length = L.length := by
          intro L
          induction L with
          | nil => intro B; rfl
          | cons l ls ih => intro B; simp [bods, ih]
        rw [this]; exact hll
      have hSO : strsOf P = (bods P.B P.L).map strOfNums := rfl
      have HSO := Lib.hid hSO
      have HNSL := Lib.hid (rfl : (bods P.B P.L).length = (bods P.B P.L).length)
      generalize bods P.B P.L = segs at hV hsl HSO HNSL ⊢
      have hFW := HIk.out.F.call (S := fun _ => False) hF1 (fun j h => .inr (by rw [HR.out]; omega))
      have HE1 := Lib.hid (HE.out.fr hFW (fun _ _ h => h))
      have HC0 := Lib.hid (HB0.out.fr hF1 (by omega)); have HC1 := Lib.hid (HB1.out.fr hF1 (by omega)); have HC2 := Lib.hid (HB2.out.fr hF1 (by omega))
      have HVF0 := Lib.hid (Kd.R_step HV0.out (fun j (ho : B ≤ j) hlt => hF1.block j hlt (by omega)))
      have HVF1 := Lib.hid (Kd.R_step HV1.out (fun j (ho : B ≤ j) hlt => hF1.block j hlt (by omega)))
      have HFW := Lib.hid hFW; have HR1 := Lib.hid hR1; have HP1 := Lib.hid hP1; have HV := Lib.hid hV; have HG := Lib.hid hg
      have hszr : B ≤ wr.heap.size := HIk.out.sz
      have hszW : wr.heap.size ≤ W1.heap.size := hF1.size
      have HO0 := Lib.hid (show ∀ j, (Value.slice A0 n0 k0).ownBlock = some j → j < wr.heap.size from Kd.R_lt HV0.out)
      have HO1 := Lib.hid (show ∀ j, (Value.slice A1 n1 k1).ownBlock = some j → j < wr.heap.size from Kd.R_lt HV1.out)
      have hghl : gh < W1.heap.size := World.block_lt_of_cell? W1 _ hg
      clear hR1 hF1 hP1 hok hV hg hFW HN HB0 HB1 HB2 HV0 HV1 HEk HIk hSO HNSL
      have eof := HE1.out.F
      obtain ⟨wo, rfl⟩ : ∃ wo : World, wo = wr := ⟨_, rfl⟩
      go_wp2_with fail
      go_loopw [11, 40] (fun pg i' w2 => ∃ j : Nat, j ≤ segs.length ∧ i' = .int .i64 j ∧ Hid (Fr (fun _ => False) W1 w2) ∧ Hid (Kd.string.R 9 w2 W1.heap.size (fun l => W1.heap.size ≤ l) pg ((segs.take j).map strOfNums))) (fun _ i' _ => segs.length - (intOf i').toNat)
      case atStart => exact ⟨0, by omega, rfl, Lib.hid (Fr.refl _ _), Lib.hid (Kd.R_nil _ _ _ _ _)⟩
      case round =>
        obtain ⟨j, hj, rfl, HFj, HPg⟩ := hrel
        by_cases hjl : j < segs.length
        · have HVj := Kd.R_step HV.out (fun l (ho : gv ≤ l) hlt => HFj.out.block l hlt (fun h => h))
          obtain ⟨-, -, hCr⟩ := Kd.R_reads' HVj
          obtain ⟨ad, A2, c2, rfl, hc0, hl0, hC0⟩ := at_L hCr (j : Int) (by omega) (by omega)
          have hmem : rdL segs (j : Int) = segs[j] := by simp [rdL, List.getD_eq_getElem?_getD, List.getElem?_eq_getElem hjl]
          rw [hmem] at hc0 hl0 hC0
          have HNX := Lib.hid (show (segs.take (j + 1)).map strOfNums = (segs.take j).map strOfNums ++ [strOfNums segs[j]] by rw [List.take_succ_eq_append_getElem hjl, List.map_append]; rfl)
          have hlen : ((segs.take j).map strOfNums).length ≤ 255 := by rw [List.length_map, List.length_take]; omega
          generalize segs[j] = sg at hc0 hl0 hC0 HNX
          generalize (segs.take j).map strOfNums = old at HPg HNX hlen
          rw [Int.toNat_natCast] at hc0
          have hcv := Kd.C_string Tryz.underlying33 Tryz.underlying5 Tryz.underlying9 hC0 (c := c2)
          have hszj : W1.heap.size ≤ _ := HFj.out.size
          clear HVj hCr hmem hl0 hC0
          go_wp2_with (at_builtin; refine Kd.R_append Kd.string (w0 := _) W1.heap.size rfl (.tmp 44) (.tmp 47) 45 9 (.string ⟨#[]⟩) 16 rfl Tryz.underlying45 info_str rfl (by decide) (by decide) _ old (strOfNums sg) [.string (strOfNums sg)] (fun l => W1.heap.size ≤ l) (fun _ => False) rfl rfl rfl (fun _ h => h.elim) (fun _ h => Nat.le_trans hszj h) HPg.out (Below.refl _ _) hszj (by omega) ?_; intro v2 w3 ho hb hg hat)
          have hF3 : Fr (fun l => W1.heap.size ≤ l) wr w3 := ⟨hb.os, hb.tape, hb.output, hb.size, fun l hl hn => hb.block l (Nat.lt_of_not_le hn)⟩
          refine ⟨⟨j + 1, by omega, by rw [Int.natCast_add]; rfl, Lib.hid (HFj.out.call hF3 (fun l h => .inr h)), Lib.hid (by rw [HNX.out]; exact ho)⟩, ?_⟩
          show segs.length - ((j : Int) + 1).toNat < segs.length - (j : Int).toNat
          omega
        · obtain rfl : j = segs.length := by omega
          rw [List.take_length, ← HSO.out] at HPg
          obtain ⟨A2, k2, e2⟩ := Kd.R_slice HPg.out
          generalize hn2 : (strsOf P).length = n2 at e2
          subst e2
          have HN2 := Lib.hid hn2
          clear hn2
          have HD0 := Lib.hid (HC0.out.fr HFj.out (fun h => h)); have HD1 := Lib.hid (HC1.out.fr HFj.out (fun h => h)); have HD2 := Lib.hid (HC2.out.fr HFj.out (fun h => h))
          have HW0 := Lib.hid (Kd.R_step HVF0.out (fun l (ho : B ≤ l) hlt => HFj.out.block l hlt (fun h => h)))
          have HW1 := Lib.hid (Kd.R_step HVF1.out (fun l (ho : B ≤ l) hlt => HFj.out.block l hlt (fun h => h)))
          have HRj := Lib.hid (HR1.out.fr HFj.out (fun h => h) (fun h => h) (fun h => h) (fun h => h))
          have HPj := Lib.hid (show ∃ li hl, Pst wr gp q pp false li hl from by obtain ⟨li, hl, h⟩ := HP1.out; exact ⟨li, hl, Blk.fr h HFj.out (fun h => h)⟩)
          have HGj := Lib.hid (cell_fr HG.out HFj.out (fun h => h))
          have HFWj := Lib.hid (HFW.out.trans HFj.out)
          have hszj : W1.heap.size ≤ wr.heap.size := HFj.out.size
          have c0 := HD0.out.one
          have f0 := HD0.out.frozen
          have HHL := Lib.hid (show (((ps.take k).map strsOf).length + 1) * 24 ≤ 140737488355328 by rw [HN0.out]; omega)
          have HMM := Lib.hid (show StrsK.M wr B (fun l => W1.heap.size ≤ l) (strsOf P) [.slice A2 n2 k2] from Kd.M_row (Kd.R_lower HPg.out (show B ≤ W1.heap.size by omega)))
          clear HC0 HC1 HC2 HVF0 HVF1 HR1 HP1 HG HFW HFj HV eof HE1
          go_upto_region 17 with (at_builtin; refine Kd.R_append StrsK (w0 := wr) B rfl (.tmp 50) (.tmp 52) 34 45 (.slice none 0 0) 24 rfl Tryz.underlying34 info_strs rfl (by decide) (by decide) (.slice A0 n0 k0) ((ps.take k).map strsOf) (strsOf P) [.slice A2 n2 k2] (fun l => B ≤ l) (fun l => W1.heap.size ≤ l) rfl rfl HMM.out (fun l hl => ⟨by omega, fun e => by have := HO0.out l e.symm; omega⟩) (fun l hl => by omega) HW0.out (Below.refl _ _) (by omega) HHL.out ?_; intro v2 w3 ho hb hg hat; obtain ⟨A3, k3, e3⟩ := Kd.R_slice ho; generalize hn3 : (List.map strsOf (List.take k ps) ++ [strsOf P]).length = n3 at e3; subst e3; have HN3 := Lib.hid hn3; clear hn3; have HO3 := Lib.hid ho; have HB3 := Lib.hid hb; have HGR := Lib.hid hg; have HX0 := Lib.hid (HD0.out.grown hg (fun e => by have := HO0.out r e.symm; have := Kd.R_base HW0.out r e.symm; omega)); clear ho hb hg hat c0 f0; have c0 := HX0.out.one; have f0 := HX0.out.frozen)
          have hbase0 : ∀ l, some l = (Value.slice A0 n0 k0).ownBlock → B ≤ l ∧ l < wo.heap.size := fun l e => ⟨Kd.R_base HW0.out l e.symm, HO0.out l e.symm⟩
          have hFG : Fr (fun l => some l = (Value.slice A0 n0 k0).ownBlock ∨ l = r) wr (w3.setCell ⟨r, 0, none⟩ (.slice A3 n3 k3)) := (Fr.mono (S := fun l => some l = (Value.slice A0 n0 k0).ownBlock) ⟨HGR.out.os, HGR.out.tape, HGR.out.output, HGR.out.size, fun l hl hn => HGR.out.block l hl hn⟩ (fun _ _ h => .inl h)).set (p := ⟨r, 0, none⟩) (.inl (.inr rfl)) _
          have hne : ∀ l, l < B → l ≠ r → ¬ (some l = (Value.slice A0 n0 k0).ownBlock ∨ l = r) := fun l h1 h2 h => by rcases h with h | h; have := (hbase0 l h).1; omega; exact h2 h
          have HR4 := Lib.hid (HRj.out.fr hFG (hne _ hgol (by omega)) (hne _ hgsl (by omega)) (hne _ hgbl (by omega)) (hne _ hgtl (by omega)))
          have HP4 := Lib.hid (show ∃ li hl, Pst (w3.setCell ⟨r, 0, none⟩ (.slice A3 n3 k3)) gp q pp false li hl from by obtain ⟨li, hl, h⟩ := HPj.out; exact ⟨li, hl, Blk.fr h hFG (hne _ hgpl (by omega))⟩)
          have HX1 := Lib.hid (HD1.out.fr hFG (hne _ hW1l (by omega))); have HX2 := Lib.hid (HD2.out.fr hFG (hne _ hW2l (by omega)))
          have HX0' := Lib.hid (HX0.out.store (i := 0) (u := .slice A3 n3 k3) rfl)
          have HG4 := Lib.hid (cell_fr HGj.out hFG (fun h => by
            rcases h with h | h
            · have h2 : gh < wo.heap.size := (hbase0 _ h).2
              omega
            · have h2 : gh = r := h
              omega))
          have HV40 := Lib.hid (Kd.R_far HO3.out (p := ⟨r, 0, none⟩) (fun l (hl : B ≤ l) => by show l ≠ r; omega) (.slice A3 n3 k3))
          have HV41 := Lib.hid (Kd.R_far (Kd.R_over HW1.out HW0.out (by decide) HGR.out) (p := ⟨r, 0, none⟩) (fun l (hl : B ≤ l) => by show l ≠ r; omega) (.slice A3 n3 k3))
          have HF4 := Lib.hid (HFWj.out.call (S := fun _ => False) hFG (fun l h => .inr (by rw [HR.out]; rcases h with h | h; have := (hbase0 _ h).1; omega; omega)))
          have hsz4 : wr.heap.size ≤ (w3.setCell ⟨r, 0, none⟩ (.slice A3 n3 k3)).heap.size := hFG.size
          clear hFG hne c0 f0 HRj HPj HD0 HD1 HD2 HX0 HGj HO3 HW0 HW1 HGR HB3 HFWj HMM HHL HPg
          generalize w3.setCell ⟨r, 0, none⟩ (.slice A3 n3 k3) = w4 at HR4 HP4 HX1 HX2 HX0' HG4 HV40 HV41 HF4 hsz4 ⊢
          obtain ⟨i2, hi2, hx0, hx1, hx2⟩ := info_parts info_u64
          have hown := Kd.own_of_R HV41.out
          rw [HN1.out] at hown
          have HOW := Lib.hid hown
          have c1 := HX1.out.one
          have f1 := HX1.out.frozen
          have c1o : ∀ o, (w4.alloc o).cell? ⟨r + 1, 0, none⟩ = some (.slice A1 n1 k1) := fun o => (HX1.out.alloc o).one
          have gc := HG4.out
          have gco : ∀ o, (w4.alloc o).cell? ⟨gh, 0, none⟩ = some (.int .u64 (gran P)) := fun o => cell_fr HG4.out ((Fr.refl (fun _ => False) w4).alloc o) (fun h => h)
          have hB4 : B ≤ w4.heap.size := by omega
          have HM1 := Lib.hid (show n1 + 1 ≤ maxLen by unfold maxLen; omega)
          have HM2 := Lib.hid (show (n1 + 1) * 8 ≤ 140737488355328 by omega)
          clear hown
          refine wp_region_noPanic ?_
          go_region_law (refine step_append_lies _ (by rfl) (.tmp 54) (.tmp 59) _ (by rfl) B 42 i2 (.int .u64 0) 1 8 Tryz.underlying35 hi2 hx0 hx1 hx2 rfl (by omega) (.slice A1 n1 k1) n1 _ (by rfl) ((HOW.out.alloc _).drew) ⟨w4.heap.size, 0, none⟩ 1 1 [.int .u64 (gran P)] (by rfl) (by rfl) (World.news_of_block (cs := #[.int .u64 (gran P)]) (t := 42) (fr := (0, 0)) (heap_alloc_new w4 _)) (by simp [Value.oneCell']) (by omega) HM1.out HM2.out (by simp; omega) (w4.heap.size + 1) (by simp) ?_; intro g5 cap5 w5 hown5 hgrow5 hat5 hlt5; have HO5 := Lib.hid hown5; have HG5 := Lib.hid hgrow5; have HX15 := Lib.hid ((HX1.out.alloc _).drew.grown hgrow5 (fun e => by have := HO1.out (r + 1) e.symm; have := Kd.R_base HV41.out (r + 1) e.symm; omega)); have c15 := HX15.out.one; have f15 := HX15.out.frozen; clear hown5 hgrow5 hat5)
          all_goals
            refine NoPanic.normal ?_
            go_wp2_with fail
            have hbase1 : ∀ l, some l = (Value.slice A1 n1 k1).ownBlock → B ≤ l ∧ l < wo.heap.size := fun l e => ⟨Kd.R_base HV41.out l e.symm, HO1.out l e.symm⟩
            have hF5 : Fr (fun l => some l = (Value.slice A1 n1 k1).ownBlock ∨ l = r + 1) w4 (w5.setCell ⟨r + 1, 0, none⟩ (.slice (some ⟨g5, 0, none⟩) (n1 + 1) cap5)) := (((((Fr.refl (fun l => some l = (Value.slice A1 n1 k1).ownBlock ∨ l = r + 1) w4).alloc (.cells #[.int .u64 (gran P)] 42)).drew).trans (Fr.mono (S := fun l => some l = (Value.slice A1 n1 k1).ownBlock) ⟨HG5.out.os, HG5.out.tape, HG5.out.output, HG5.out.size, fun l hl hn => HG5.out.block l hl hn⟩ (fun _ _ h => .inl h))).set (p := ⟨r + 1, 0, none⟩) (.inl (.inr rfl)) _)
            have hne : ∀ l, l < B → l ≠ r + 1 → ¬ (some l = (Value.slice A1 n1 k1).ownBlock ∨ l = r + 1) := fun l h1 h2 h => by rcases h with h | h; have := (hbase1 _ h).1; omega; exact h2 h
            have hv40 := Kd.R_far (Kd.R_over (Kd.R_drew (Kd.R_alloc HV40.out (.cells #[.int .u64 (gran P)] 42))) (Kd.R_drew (Kd.R_alloc HV41.out (.cells #[.int .u64 (gran P)] 42))) (by decide) HG5.out) (p := ⟨r + 1, 0, none⟩) (fun l (hl : B ≤ l) => by show l ≠ r + 1; omega) (.slice (some ⟨g5, 0, none⟩) (n1 + 1) cap5)
            have ho5 := HO5.out
            have hlen5 : ((ps.take k).map gran ++ [gran P]).length = n1 + 1 := by rw [List.length_append, HN1.out]; rfl
            have hv41 : (Kd.int .u64).R 42 w5 B (fun l => B ≤ l) (.slice (some ⟨g5, 0, none⟩) (n1 + 1) cap5) ((ps.take k).map gran ++ [gran P]) := Kd.R_of_own (h1 := fun _ => rfl) (by rw [hlen5, encs_append]; exact ho5) (fun l hl => own_base ho5 l hl)
            have hpos := hF5
            refine ⟨⟨k + 1, by omega, Lib.hid ⟨?_, ?_, ⟨_, HX0'.out.fr hF5 (hne _ hW0l (by omega)), by rw [HT0.out]; exact hv40⟩, ⟨_, HX15.out.store rfl, by rw [HT1.out]; exact Kd.R_far hv41 (p := ⟨r + 1, 0, none⟩) (fun l (hl : B ≤ l) => by show l ≠ r + 1; omega) _⟩, HX2.out.fr hF5 (hne _ hW2l (by omega)), HF4.out.call hF5 (fun l h => .inr (by rw [HR.out]; rcases h with h | h; have := (hbase1 _ h).1; omega; omega)), Nat.le_trans hB4 hF5.size⟩⟩, ?_⟩
            · have := HR4.out.fr hF5 (hne _ hgol (by omega)) (hne _ hgsl (by omega)) (hne _ hgbl (by omega)) (hne _ hgtl (by omega))
              rw [HFT.out, List.length_append, ← Nat.add_assoc, ← List.length_append]
              exact this
            · obtain ⟨li, hl, h⟩ := HP4.out
              exact ⟨q, pp, li, hl, Blk.fr h hF5 (hne _ hgpl (by omega))⟩
            · have h6 := (HR4.out.fr hF5 (hne _ hgol (by omega)) (hne _ hgsl (by omega)) (hne _ hgbl (by omega)) (hne _ hgtl (by omega))).rem HPOS.out
              rw [h6, HREM0.out]
              have := HPOS.out
              have := HPK.out.1.len
              omega
    · obtain rfl : k = ps.length := by omega
      have h4 : 4 < r := by rw [← HR.out]; exact World.block_lt_of_cell? w _ HE.out.E
      have hR := HIk.out.R
      obtain ⟨q, pp, li, hl2, hp⟩ := HIk.out.P
      obtain ⟨v0, hb0, hv0⟩ := HIk.out.V0
      obtain ⟨v1, hb1, hv1⟩ := HIk.out.V1
      have hb2 := HIk.out.V2
      rw [List.take_length] at hR hv0 hv1
      rw [← List.length_append] at hR
      have HN := Lib.hid (nextpg_any wr go gs gb gt gp x (bytesOf b) (H0.bytes ++ flat ps) rest Q hQ (by rw [HZ.out]; simp) 194 pE q pp false li hl2 hR hp g6 (by omega) HB.out HEk.out.E (by omega))
      obtain ⟨A0, k0, e0⟩ := Kd.R_slice hv0
      obtain ⟨A1, k1, e1⟩ := Kd.R_slice hv1
      generalize (ps.map strsOf).length = n0 at e0
      generalize (ps.map gran).length = n1 at e1
      subst e0 e1
      have HB0 := Lib.hid hb0; have HB1 := Lib.hid hb1; have HB2 := Lib.hid hb2; have HV0 := Lib.hid hv0; have HV1 := Lib.hid hv1
      clear hR hp hb0 hb1 hb2 hv0 hv1 hlt eof hnil
      go_wp2_with fail
      refine HN.out.mono ?_
      rintro e W1 ⟨-, hF1, -, -, hno⟩
      obtain rfl := hno hQn
      have hFW := HIk.out.F.call (S := fun _ => False) hF1 (fun j h => .inr (by rw [HR.out]; omega))
      have HE1 := Lib.hid (HE.out.fr hFW (fun _ _ h => h))
      have HC0 := Lib.hid (HB0.out.fr hF1 (by omega)); have HC1 := Lib.hid (HB1.out.fr hF1 (by omega)); have HC2 := Lib.hid (HB2.out.fr hF1 (by omega))
      have HVF0 := Lib.hid (Kd.R_step HV0.out (fun j (ho : B ≤ j) hlt => hF1.block j hlt (by omega)))
      have HVF1 := Lib.hid (Kd.R_step HV1.out (fun j (ho : B ≤ j) hlt => hF1.block j hlt (by omega)))
      have HFW := Lib.hid hFW
      have hszW : B ≤ W1.heap.size := Nat.le_trans HIk.out.sz hF1.size
      clear hno hF1 hFW HN HB0 HB1 HB2 HV0 HV1 HEk HIk
      have eof := HE1.out.F
      have hparts := HE1.out.parts
      have c0 := HC0.out.one; have c1 := HC1.out.one; have c2 := HC2.out.one
      have f0 := HC0.out.frozen; have f1 := HC1.out.frozen; have f2 := HC2.out.frozen
      go_upto_region 9 with fail
      go_region
      all_goals go_wp2_with fail
      have hS := (((((Fr.refl (fun j => j = r ∨ j = r + 1 ∨ j = r + 1 + 1) W1).set (p := ⟨r, 0, none⟩) (.inl (.inl rfl)) (.slice A0 n0 k0)).set (p := ⟨r + 1, 0, none⟩) (.inl (.inr (.inl rfl))) (.slice A1 n1 k1)).set (p := ⟨r + 1 + 1, 0, none⟩) (.inl (.inr (.inr rfl))) (.int .i64 1))).drew
      have D0 := ((((HC0.out.store (i := 0) (u := .slice A0 n0 k0) rfl).far (p := ⟨r + 1, 0, none⟩) (show r ≠ r + 1 by omega) (.slice A1 n1 k1)).far (p := ⟨r + 1 + 1, 0, none⟩) (show r ≠ r + 1 + 1 by omega) (.int .i64 1))).drew
      have D1 := ((((HC1.out.far (p := ⟨r, 0, none⟩) (show r + 1 ≠ r by omega) (.slice A0 n0 k0)).store (i := 0) (u := .slice A1 n1 k1) rfl).far (p := ⟨r + 1 + 1, 0, none⟩) (show r + 1 ≠ r + 1 + 1 by omega) (.int .i64 1))).drew
      have D2 := ((((HC2.out.far (p := ⟨r, 0, none⟩) (show r + 1 + 1 ≠ r by omega) (.slice A0 n0 k0)).far (p := ⟨r + 1, 0, none⟩) (show r + 1 + 1 ≠ r + 1 by omega) (.slice A1 n1 k1)).store (i := 0) (u := .int .i64 1) rfl)).drew
      generalize (((W1.setCell ⟨r, 0, none⟩ (.slice A0 n0 k0)).setCell ⟨r + 1, 0, none⟩ (.slice A1 n1 k1)).setCell ⟨r + 1 + 1, 0, none⟩ (.int .i64 1)).drew = W9 at hS D0 D1 D2 ⊢
      have q0 := D0.one; have q1 := D1.one; have q2 := D2.one
      have hFin : Below w.heap.size w W9 := (HFW.out.call (S := fun _ => False) hS (fun j h => .inr (by rw [HR.out]; omega))).below (Nat.le_refl _) (fun k h => h.elim)
      have hR0 := Kd.R_mono (ok' := fun j => w.heap.size ≤ j) (Kd.R_lower (Kd.R_step HVF0.out (fun j (ho : B ≤ j) hlt => hS.block j hlt (by omega))) (show w.heap.size ≤ B by rw [HR.out]; omega)) (fun j (hj : B ≤ j) => by rw [HR.out]; omega)
      have hR1 := Kd.R_mono (ok' := fun j => w.heap.size ≤ j) (Kd.R_lower (Kd.R_step HVF1.out (fun j (ho : B ≤ j) hlt => hS.block j hlt (by omega))) (show w.heap.size ≤ B by rw [HR.out]; omega)) (fun j (hj : B ≤ j) => by rw [HR.out]; omega)
      have HR0 := Lib.hid hR0; have HR1 := Lib.hid hR1; have HFin := Lib.hid hFin
      clear hS D0 D1 D2 c0 c1 c2 f0 f1 f2 hparts eof hR0 hR1 hFin HC0 HC1 HC2 HVF0 HVF1
      refine leaves_cons (f := 18) (args := #[.pointer (some ⟨r, 0, none⟩), .pointer (some ⟨r + 1, 0, none⟩), .pointer (some ⟨r + 1 + 1, 0, none⟩)]) (by simp) (by simp [go_sem]) ?_
      refine (pages_idle _ _ _ _).mono ?_
      rintro e u' w'' ⟨rfl, rfl, rfl⟩
      simp [Leaves, settle, results, Tryz.results9, go_sem, q0, q1, q2]
      exact ⟨_, _, ⟨rfl, rfl⟩, HR0.out, HR1.out, HFin.out⟩
end Go.Proofs.YtojdfjohmicopaaGreatDoor
