/- A contract of spec.pageRead at a page that is there whole: it is read, or refused for its sum. Conditions: the page fits, bounded sizes. -/
import Derived.Test.YtojdfjohmicopaaGreatDoorMp
import Derived.Test.YtojdfjohmicopaaGreatDoorMo
import Derived.StillTailTactics
import Derived.Deep.AppendLies
import Derived.Deep.RegionHeld3
import Derived.Deep.CutRange
namespace Go.Proofs.YtojdfjohmicopaaGreatDoor
open Go Go.RowKit Go.Proofs.YtojdfjohmicopaaGreatDoorW.PrintWords Go.Proofs.YtojdfjohmicopaaGreatDoor.Crc Go.Proofs.YtojdfjohmicopaaGreatDoor.PFnOggHurt

/-- What pageRead gives. -/
def RdPost (P : Pg) (w : World) (e : Ending) (w' : World) : Prop := ∃ (s q g f : Int) (A : Option Addr) (m c : Nat) (mo : Bool) (n : Int) (ok : Bool), e = .returned (.tuple #[.agg #[.int .u32 s, .int .u32 q, .int .u64 g, .int .i64 f, .slice A m c, .bool mo], .int .i64 n, .bool ok]) ∧ Below w.heap.size w w' ∧
  (¬ P.ok → ok = false) ∧ (P.ok → P.A.take 5 = sig5 → ok = true ∧ g = gran P ∧ n = (P.bytes.length : Int) ∧ mo = mor [] (bods P.B P.L) ∧ Kd.string.R 9 w' w.heap.size (fun j => w.heap.size ≤ j) (.slice A m c) (partsOf (bods P.B P.L)))
theorem least_still (b : ByteArray) (hb : b.size ≤ 8) (w : World) : Calls Tryz.prog 68 #[.string b] w fun e w' => e = .returned (.int .u64 (Lib.leZ (bytesOf b))) ∧ w' = w :=
  (leastOf_any b hb w).mono fun _ _ h => ⟨h.1, h.2.symm⟩
set_option maxRecDepth 100000 in
set_option maxHeartbeats 8000000 in
theorem pageRead_any {P : Pg} (hP : P.Fit) (b : ByteArray) (post : List Int) (hZ : bytesOf b = P.bytes ++ post) (hb : b.size ≤ 1000000000) (w : World) : Calls Tryz.prog 31 #[.string b] w (RdPost P w) := by
  have hsz := rd_size hP b post hZ
  have hct := rd_count hP b post hZ
  have hlen := hP.len
  have hl := hP.l
  have hov := rd_over hP b post hZ
  have hsm := rd_sum hP b post hZ
  have e5 := rd_cutA hP b post hZ 0 5 (by omega)
  have e6 := rd_cutA hP b post hZ 6 14 (by omega)
  rw [show (P.A.drop 6).take (14 - 6) = (P.A.drop 6).take 8 from rfl] at e6
  rw [List.drop_zero] at e5
  have h27 : 27 ≤ b.size := by omega
  have hx26 : ∀ h : 26 < b.size, ((b[26]'h).toNat : Int) = (P.L.length : Int) := fun h => by rw [← hct]; exact bt_at b ((26 : Nat) : Int) h
  obtain ⟨f5, hf5⟩ : ∃ f5 : Nat, bt b 5 = (f5 : Int) := ⟨(bt b 5).toNat, by have := (bt_range b 5).1; omega⟩
  have hf5l : f5 ≤ 255 := by have := (bt_range b 5).2; omega
  have hx5 : ∀ h : 5 < b.size, ((b[5]'h).toNat : Int) = (f5 : Int) := fun h => by rw [← hf5]; exact bt_at b ((5 : Nat) : Int) h
  have hxl := fun i (hi : i < P.L.length) => rd_len hP b post hZ i hi
  have HXL := Lib.hid hxl; have HP := Lib.hid hP; have HZ := Lib.hid hZ; have HLEN := Lib.hid hlen; have HOV := Lib.hid hov; have HSM := Lib.hid hsm; have HE5 := Lib.hid e5; have HE6 := Lib.hid e6
  clear hxl hP hZ hov hsm e5 e6 hct hf5 hlen
  generalize hpl : P.bytes.length = pl at HOV HLEN
  have hplb : pl ≤ b.size := by have := HLEN.out; omega
  generalize hql : P.L.length = ql at hx26 hl hsz HLEN
  have HPL := Lib.hid hpl; have HQL := Lib.hid hql
  clear hpl hql
  go_enter Tryz.func31, Tryz.ntmps31
  by_cases hs : (b.extract 0 5).toList = ([79, 103, 103, 83, 0] : List UInt8)
  case neg =>
    have hne : ((b.extract 0 5).toList == ([79, 103, 103, 83, 0] : List UInt8)) = false := by simpa using hs
    have HS := Lib.hid hs
    clear hs hx26 hx5
    go_wp2_with fail
    refine bodyPost_ret (v := .tuple #[.agg #[.int .u32 0, .int .u32 0, .int .u64 0, .int .i64 0, .slice none 0 0, .bool false], .int .i64 0, .bool false]) (by simp [results, Tryz.results31, go_sem]) rfl ⟨0, 0, 0, 0, none, 0, 0, false, 0, false, rfl, (Below.refl w.heap.size w).alloc (Nat.le_refl _) _, fun _ => rfl, fun _ hsg => absurd ?_ HS.out⟩
    have e : bytesOf (b.extract 0 5) = sig5 := by rw [HE5.out]; exact hsg
    have e2 : b.extract 0 5 = ⟨#[79, 103, 103, 83, 0]⟩ := bytesOf_inj (by rw [e]; decide)
    rw [e2]; decide +kernel
  case pos =>
    have hne : ((b.extract 0 5).toList == ([79, 103, 103, 83, 0] : List UInt8)) = true := by simpa using hs
    clear hs
    have hB0 := Blk.new w 47 #[.int .u32 0, .int .u32 0, .int .u64 0, .int .i64 0, .slice none 0 0, .bool false]
    have hb0 := (Below.refl w.heap.size w).alloc (Nat.le_refl _) (.cells #[.int .u32 0, .int .u32 0, .int .u64 0, .int .i64 0, .slice none 0 0, .bool false] 47)
    have HB0 := Lib.hid hB0; have Hb0 := Lib.hid hb0
    clear hB0 hb0
    go_upto_region 6 with fail
    clear hne hx26
    generalize w.alloc (.cells #[.int .u32 0, .int .u32 0, .int .u64 0, .int .i64 0, .slice none 0 0, .bool false] 47) = w0 at HB0 Hb0 ⊢
    have c5 : 5 < b.size := by omega
    have c14 : 14 ≤ b.size := by omega
    have c18 : 18 ≤ b.size := by omega
    have c22 : 22 ≤ b.size := by omega
    have i5 : (5 : Int) < (b.size : Int) := by omega
    have i14 : (14 : Int) ≤ (b.size : Int) := by omega
    have i18 : (18 : Int) ≤ (b.size : Int) := by omega
    have i22 : (22 : Int) ≤ (b.size : Int) := by omega
    have k1 := least_still (b.extract 6 14) (by rw [ByteArray.size_extract]; omega) w0.drew
    have k2 := least_still (b.extract 14 18) (by rw [ByteArray.size_extract]; omega) w0.drew
    have k3 := least_still (b.extract 18 22) (by rw [ByteArray.size_extract]; omega) w0.drew
    rw [HE6.out, show Lib.leZ ((P.A.drop 6).take 8) = gran P from rfl] at k1
    generalize Lib.leZ (bytesOf (b.extract 14 18)) = x2 at k2
    generalize Lib.leZ (bytesOf (b.extract 18 22)) = x3 at k3
    have K1 := Lib.hid k1; have K2 := Lib.hid k2; have K3 := Lib.hid k3
    clear k1 k2 k3
    have hw5 : IntKind.i64.wrap (f5 : Int) = (f5 : Int) := by simp [IntKind.wrap, IntKind.bits, IntKind.signed]; omega
    refine wp_region_still_tail 15 (by kernel_rfl) (by kernel_rfl) ?_
    simp only [List.take_succ_cons, List.take_zero, List.drop_succ_cons, List.drop_zero]
    iterate 5 still_step
    still_call K1.out
    iterate 2 still_step
    still_call K2.out
    iterate 3 still_step
    still_call K3.out
    iterate 2 still_step
    refine wpStill_nil ?_
    change wpList _ _ _ _ _ w0.drew
    generalize IntKind.u32.wrap x2 = s
    generalize IntKind.u32.wrap x3 = q
    have HB1 := Lib.hid HB0.out.drew
    have Hb1 := Lib.hid (below_drew' Hb0.out)
    have hgl : w.heap.size < w0.drew.heap.size := HB0.out.drew.lt
    generalize w0.drew = w1 at HB1 Hb1 hgl ⊢
    clear HB0 Hb0 hw5
    generalize hge : w.heap.size = gp at HB1 hgl ⊢
    have HGE := Lib.hid hge
    clear hge
    obtain ⟨d0, d1, d2, d3, d4, d5⟩ : w1.cell? ⟨gp, 0, none⟩ = some (.int .u32 0) ∧ w1.cell? ⟨gp, 1, none⟩ = some (.int .u32 0) ∧ w1.cell? ⟨gp, 2, none⟩ = some (.int .u64 0) ∧ w1.cell? ⟨gp, 3, none⟩ = some (.int .i64 0) ∧ w1.cell? ⟨gp, 4, none⟩ = some (.slice none 0 0) ∧ w1.cell? ⟨gp, 5, none⟩ = some (.bool false) := ⟨by simpa using HB1.out.cell 0, by simpa using HB1.out.cell 1, by simpa using HB1.out.cell 2, by simpa using HB1.out.cell 3, by simpa using HB1.out.cell 4, by simpa using HB1.out.cell 5⟩
    have df := HB1.out.frozen
    go_wp2_with fail
    have hb2 : Below w.heap.size w ((((((w1.setCell ⟨gp, 0, none⟩ (.int .u32 s)).setCell ⟨gp, 1, none⟩ (.int .u32 q)).setCell ⟨gp, 2, none⟩ (.int .u64 (gran P))).setCell ⟨gp, 3, none⟩ (.int .i64 (f5 : Int))).setCell ⟨gp, 4, none⟩ (.slice none 0 0)).setCell ⟨gp, 5, none⟩ (.bool false)) := by
      have hg := Nat.le_of_eq HGE.out
      exact (((((Hb1.out.setCell (p := ⟨gp, 0, none⟩) hg _).setCell (p := ⟨gp, 1, none⟩) hg _).setCell (p := ⟨gp, 2, none⟩) hg _).setCell (p := ⟨gp, 3, none⟩) hg _).setCell (p := ⟨gp, 4, none⟩) hg _).setCell (p := ⟨gp, 5, none⟩) hg _
    have hB2 := (((((HB1.out.store (i := 0) (u := .int .u32 s) rfl).store (i := 1) (u := .int .u32 q) rfl).store (i := 2) (u := .int .u64 (gran P)) rfl).store (i := 3) (u := .int .i64 (f5 : Int)) rfl).store (i := 4) (u := .slice none 0 0) rfl).store (i := 5) (u := .bool false) rfl
    have HB2 := Lib.hid hB2; have Hb2 := Lib.hid hb2
    clear hB2 hb2 HB1 Hb1 d0 d1 d2 d3 d4 d5 df hx5 hgl
    generalize ((((((w1.setCell ⟨gp, 0, none⟩ (.int .u32 s)).setCell ⟨gp, 1, none⟩ (.int .u32 q)).setCell ⟨gp, 2, none⟩ (.int .u64 (gran P))).setCell ⟨gp, 3, none⟩ (.int .i64 (f5 : Int))).setCell ⟨gp, 4, none⟩ (.slice none 0 0)).setCell ⟨gp, 5, none⟩ (.bool false)) = w2 at HB2 Hb2 ⊢
    go_loopw [6, 7, 47] (fun v6 v7 v47 wr => ∃ (i fr at_ : Nat) (pts : List ByteArray) (mo : Bool) (v : Value), i ≤ ql ∧ v47 = .int .i64 (i : Int) ∧ v6 = .int .i64 (at_ : Int) ∧ v7 = .int .i64 (fr : Int) ∧ fr ≤ at_ ∧ at_ ≤ b.size ∧ pts.length ≤ i ∧ Hid (27 + P.L.length + total (P.L.take i) = at_) ∧ Hid (∃ acc, PRd P b i fr acc pts mo) ∧ Hid (Below w.heap.size w wr) ∧ Hid (Blk wr gp 47 #[.int .u32 s, .int .u32 q, .int .u64 (gran P), .int .i64 (f5 : Int), v, .bool mo]) ∧ Hid (Kd.string.R 9 wr (gp + 1) (fun j => gp + 1 ≤ j) v pts)) (fun _ _ v47 _ => ql - (intOf v47).toNat)
    case atStart => exact ⟨0, 27 + ql, 27 + ql, [], false, .slice none 0 0, by omega, rfl, by simp, by simp, by omega, by omega, by simp, Lib.hid (by rw [HQL.out]; rfl), Lib.hid ⟨[], by rw [← HQL.out]; exact PRd.start P b⟩, Hb2, HB2, Lib.hid (Kd.R_nil _ _ _ _ _)⟩
    case round =>
      clear HB2 Hb2
      obtain ⟨i, fr, at_, pts, mo, v, hi, rfl, rfl, rfl, hfr, hat, hpl2, HAT, HPR, Hb, HB, HV⟩ := hrel
      have hgl : gp < wr.heap.size := HB.out.lt
      by_cases hlt : i < ql
      · have hip : i < P.L.length := by rw [HQL.out]; exact hlt
        obtain ⟨l, hll⟩ : ∃ l : Nat, P.L[i] = (l : Int) := Int.eq_ofNat_of_zero_le (HP.out.bl _ (List.getElem_mem hip)).1
        obtain ⟨acc, hpr⟩ := HPR.out
        obtain ⟨ht, hl255, hle, hyes, hno⟩ := hpr.step HP.out HZ.out hip l hll
        rw [HAT.out] at hle hyes
        have hbt := HXL.out i hip
        rw [hll] at hbt
        have hx : ∀ h : 27 + i < b.size, ((b[27 + i]'h).toNat : Int) = (l : Int) := fun h => by rw [← hbt]; exact bt_at b ((27 + i : Nat) : Int) h
        have h27i : 27 + i < b.size := by omega
        have HYES := Lib.hid hyes; have HNO := Lib.hid hno
        have HAT2 := Lib.hid (show 27 + P.L.length + total (P.L.take (i + 1)) = at_ + l by rw [ht, ← HAT.out]; omega)
        clear hyes hno ht hll hbt hpr HPR HAT
        by_cases hyn : l < 255 ∨ i + 1 = ql
        · have HN := Lib.hid (HYES.out (by rw [HQL.out]; exact hyn))
          clear HYES HNO
          obtain ⟨i2, hi2, hx0, hx1, hx2⟩ := info_parts info9
          have hown := Kd.own_of_R HV.out
          obtain ⟨A1, k1, e1⟩ := Kd.R_slice HV.out
          have HO1 := Lib.hid (show ∀ j, v.ownBlock = some j → gp + 1 ≤ j ∧ j < wr.heap.size from fun j h => ⟨Kd.R_base HV.out j h, Kd.R_lt HV.out j h⟩)
          generalize hn1 : pts.length = n1 at e1 hown hpl2
          have HN1 := Lib.hid hn1
          clear hn1
          subst e1
          have HOW := Lib.hid hown
          have c1 : wr.cell? ⟨gp, 4, none⟩ = some (.slice A1 n1 k1) := by simpa using HB.out.cell 4
          have f1 := HB.out.frozen
          have c1o : ∀ o, (wr.alloc o).cell? ⟨gp, 4, none⟩ = some (.slice A1 n1 k1) := fun o => by simpa using (HB.out.alloc o).cell 4
          have HM1 := Lib.hid (show n1 + 1 ≤ maxLen by unfold maxLen; omega)
          have HM2 := Lib.hid (show (n1 + 1) * 16 ≤ 140737488355328 by omega)
          clear hown
          have hyn2 : l < 255 ∨ (¬ l < 255 ∧ ((i : Int) == (ql : Int) - 1) = true) := by
            rcases hyn with h | h
            · exact .inl h
            · by_cases h2 : l < 255
              · exact .inl h2
              · exact .inr ⟨h2, by simp; omega⟩
          clear hyn
          have HNW := Lib.hid (fun (y : ByteArray) => World.news_of_block (cs := #[.string y]) (t := 9) (fr := (0, 0)) (heap_alloc_new wr (.cells #[.string y] 9)))
          rcases hyn2 with h255 | ⟨h255, hi1⟩
          all_goals
            go_upto_region 15 with fail
            have HX := Lib.hid hx
            clear hx
            have z0 : (0 : Int) ≤ (at_ : Int) + (l : Int) := by omega
            have z1 : (fr : Int) ≤ (at_ : Int) + (l : Int) := by omega
            have z2 : ((at_ : Int) + (l : Int)).toNat = at_ + l := by omega
            refine wp_region_noPanic ?_
            go_region_law (refine step_append_lies _ (by rfl) (.tmp 74) (.tmp 79) _ (by rfl) (gp + 1) 9 i2 (.string ⟨#[]⟩) 1 16 Tryz.underlying45 hi2 hx0 hx1 hx2 rfl (by omega) (.slice A1 n1 k1) n1 _ (by rfl) ((HOW.out.alloc _).drew) ⟨wr.heap.size, 0, none⟩ 1 1 [.string (b.extract fr (at_ + l))] (by rfl) (by rfl) (HNW.out _) (by simp [Value.oneCell']) (by omega) HM1.out HM2.out (by simp; omega) (wr.heap.size + 1) (by simp) ?_; intro g5 cap5 w5 hown5 hgrow5 hat5 hlt5; have HO5 := Lib.hid hown5; have HG5 := Lib.hid hgrow5; have HX5 := Lib.hid ((HB.out.alloc _).drew.grown hgrow5 (fun e => by have := HO1.out gp e.symm; omega)); have c5 : w5.cell? ⟨gp, 4, none⟩ = some (.slice A1 n1 k1) := (by simpa using HX5.out.cell 4); have c55 : w5.cell? ⟨gp, 5, none⟩ = some (.bool mo) := (by simpa using HX5.out.cell 5); have f5' := HX5.out.frozen; clear hown5 hgrow5 hat5)
          all_goals
            refine NoPanic.normal ?_
            have hx := HX.out
            go_wp2_with fail
            go_roundw
            case rel =>
              obtain ⟨acc', hpr⟩ := HN.out
              have hg := Nat.le_of_eq HGE.out
              have ho5 := HO5.out
              have hl5 : (pts ++ [b.extract fr (at_ + l)]).length = n1 + 1 := by rw [List.length_append, HN1.out]; rfl
              have hv5 : Kd.string.R 9 w5 (gp + 1) (fun j => gp + 1 ≤ j) (.slice (some ⟨g5, 0, none⟩) (n1 + 1) cap5) (pts ++ [b.extract fr (at_ + l)]) := Kd.R_of_own (h1 := fun _ => rfl) (by rw [hl5, encs_append]; exact ho5) (fun j hj => own_base ho5 j hj)
              refine ⟨i + 1, at_ + l, at_ + l, pts ++ [b.extract fr (at_ + l)], ((l : Int) == 255), .slice (some ⟨g5, 0, none⟩) (n1 + 1) cap5, by omega, by go_num, by go_num, by go_num, by omega, hle, by rw [hl5]; omega, HAT2, Lib.hid ⟨acc', hpr⟩, Lib.hid ?_, Lib.hid ((HX5.out.store (i := 4) rfl).store (i := 5) rfl), Lib.hid ?_⟩
              · exact ((((below_drew' (Hb.out.alloc (by omega) _)).grown HG5.out (by simp; omega) (fun k h => by have := HO1.out k h; omega)).setCell (p := ⟨gp, 4, none⟩) hg _).setCell (p := ⟨gp, 5, none⟩) hg _)
              · exact Kd.R_far (Kd.R_far hv5 (p := ⟨gp, 4, none⟩) (fun j (hj : gp + 1 ≤ j) => by show j ≠ gp; omega) _) (p := ⟨gp, 5, none⟩) (fun j (hj : gp + 1 ≤ j) => by show j ≠ gp; omega) _
            case measure => simp [intOf]; omega
        · have HN := Lib.hid (HNO.out (by omega) (by rw [HQL.out]; omega))
          have h255 : ¬ l < 255 := by omega
          have hne1 : ((i : Int) == (ql : Int) - 1) = false := by simp; omega
          clear HYES HNO hyn
          go_wp2_with fail
          go_roundw
          case rel =>
            obtain ⟨acc', hpr⟩ := HN.out
            exact ⟨i + 1, fr, at_ + l, pts, mo, v, by omega, by go_num, by go_num, rfl, by omega, hle, by omega, HAT2, Lib.hid ⟨acc', hpr⟩, Hb, HB, HV⟩
          case measure => simp [intOf]; omega
      · obtain rfl : i = ql := by omega
        have hpr : pts = partsOf (bods P.B P.L) ∧ mo = mor [] (bods P.B P.L) := by
          obtain ⟨acc, h⟩ := HPR.out
          rw [← HQL.out] at h
          exact h.done
        have hatpl : at_ = pl := by
          have h1 := HAT.out
          rw [← HQL.out, List.take_length, HQL.out] at h1
          rw [HLEN.out]; exact h1.symm
        subst hatpl
        have HPR := Lib.hid hpr
        obtain ⟨A1, k1, e1⟩ := Kd.R_slice HV.out
        generalize pts.length = n1 at e1
        subst e1
        have c22 : 22 ≤ b.size := by omega
        have c26 : 26 ≤ b.size := by omega
        have i22 : (22 : Int) ≤ (b.size : Int) := by omega
        have i26 : (26 : Int) ≤ (b.size : Int) := by omega
        have j26 : (26 : Int) ≤ (at_ : Int) := by have := HLEN.out; omega
        have j26' : 26 ≤ at_ := by omega
        have z4 : (⟨#[0, 0, 0, 0]⟩ : ByteArray).size = 4 := rfl
        have zz : (b.extract 0 22).size = 22 := by rw [ByteArray.size_extract]; omega
        have zs : (b.extract 0 22 ++ (⟨#[0, 0, 0, 0]⟩ : ByteArray)).size = 26 := by rw [size_ba, zz, z4]
        have zt : (b.extract 26 at_).size ≤ b.size := by rw [ByteArray.size_extract]; omega
        have ksum := fun W => sum_any ((b.extract 0 22 ++ (⟨#[0, 0, 0, 0]⟩ : ByteArray)) ++ b.extract 26 at_) (by rw [size_ba, zs]; omega) W
        rw [HOV.out] at ksum
        have klo := fun W => least_still (b.extract 22 26) (by rw [ByteArray.size_extract]; omega) W
        rw [HSM.out] at klo
        have hcl := sum_lt (sumI 0#32 P.over)
        have HOK := Lib.hid (show P.ok ↔ Lib.leZ P.S = ((sumI 0#32 P.over).toNat : Int) from Iff.rfl)
        generalize ((sumI 0#32 P.over).toNat : Int) = sm at ksum hcl HOK
        generalize Lib.leZ P.S = sl at klo HOK
        have hwm : IntKind.u64.wrap sm = sm := u64_in sm (by omega) (by omega)
        have KS1 : ∀ n, Calls Tryz.prog 67 #[.string ((b.extract 0 22 ++ (⟨#[0, 0, 0, 0]⟩ : ByteArray)) ++ b.extract 26 at_)] (wr.drewN n) fun e w' => e = .returned (.int .u32 sm) ∧ ∃ m, w' = (wr.drewN n).drewN m := fun n => (ksum (wr.drewN n)).mono fun e w' h => ⟨h.1, h.2.out⟩
        have KS1 := Lib.hid KS1
        have KL := Lib.hid klo
        clear ksum klo hpr
        have hg := Nat.le_of_eq HGE.out
        have HBN := Lib.hid (fun n => HB.out.drewN n)
        by_cases hok : sm = sl
        · have hq : (sm == sl) = true := by simpa using hok
          have HQ := Lib.hid hok
          clear hok
          go_wp2_with fail
          go_quiet ((first | (go_at_call 67; exact Calls.quiet_of (KS1.out _)) | (go_at_call 68; exact Calls.quiet_of_same (KL.out _))))
          have HBn := HBN.out nq
          have HFn := below_drewN' Hb.out nq
          obtain ⟨q0, q1, q2, q3, q4, q5⟩ := HBn.six
          have qf := HBn.frozen
          go_wp2_with fail
          clear q0 q1 q2 q3 q4 q5 qf
          have D : Blk (((((((wr.drewN nq).setCell ⟨gp, 0, none⟩ (.int .u32 s)).setCell ⟨gp, 1, none⟩ (.int .u32 q)).setCell ⟨gp, 2, none⟩ (.int .u64 (gran P))).setCell ⟨gp, 3, none⟩ (.int .i64 (f5 : Int))).setCell ⟨gp, 4, none⟩ (.slice A1 n1 k1)).setCell ⟨gp, 5, none⟩ (.bool mo)) gp 47 #[.int .u32 s, .int .u32 q, .int .u64 (gran P), .int .i64 (f5 : Int), .slice A1 n1 k1, .bool mo] := ((((((HBn).store (i := 0) (u := .int .u32 s) rfl).store (i := 1) (u := .int .u32 q) rfl).store (i := 2) (u := .int .u64 (gran P)) rfl).store (i := 3) (u := .int .i64 (f5 : Int)) rfl).store (i := 4) (u := .slice A1 n1 k1) rfl).store (i := 5) (u := .bool mo) rfl
          have DF : Below w.heap.size w (((((((wr.drewN nq).setCell ⟨gp, 0, none⟩ (.int .u32 s)).setCell ⟨gp, 1, none⟩ (.int .u32 q)).setCell ⟨gp, 2, none⟩ (.int .u64 (gran P))).setCell ⟨gp, 3, none⟩ (.int .i64 (f5 : Int))).setCell ⟨gp, 4, none⟩ (.slice A1 n1 k1)).setCell ⟨gp, 5, none⟩ (.bool mo)) := ((((((HFn).setCell (p := ⟨gp, 0, none⟩) hg (.int .u32 s)).setCell (p := ⟨gp, 1, none⟩) hg (.int .u32 q)).setCell (p := ⟨gp, 2, none⟩) hg (.int .u64 (gran P))).setCell (p := ⟨gp, 3, none⟩) hg (.int .i64 (f5 : Int))).setCell (p := ⟨gp, 4, none⟩) hg (.slice A1 n1 k1)).setCell (p := ⟨gp, 5, none⟩) hg (.bool mo)
          have hfar : ∀ j : Nat, gp + 1 ≤ j → j ≠ gp := fun j hj => by omega
          have hR9 : Kd.string.R 9 (((((((wr.drewN nq).setCell ⟨gp, 0, none⟩ (.int .u32 s)).setCell ⟨gp, 1, none⟩ (.int .u32 q)).setCell ⟨gp, 2, none⟩ (.int .u64 (gran P))).setCell ⟨gp, 3, none⟩ (.int .i64 (f5 : Int))).setCell ⟨gp, 4, none⟩ (.slice A1 n1 k1)).setCell ⟨gp, 5, none⟩ (.bool mo)) (gp + 1) (fun j => gp + 1 ≤ j) (.slice A1 n1 k1) pts := (Kd.R_far (Kd.R_far (Kd.R_far (Kd.R_far (Kd.R_far (Kd.R_far (Kd.R_drewN HV.out nq) (p := ⟨gp, 0, none⟩) hfar (.int .u32 s)) (p := ⟨gp, 1, none⟩) hfar (.int .u32 q)) (p := ⟨gp, 2, none⟩) hfar (.int .u64 (gran P))) (p := ⟨gp, 3, none⟩) hfar (.int .i64 (f5 : Int))) (p := ⟨gp, 4, none⟩) hfar (.slice A1 n1 k1)) (p := ⟨gp, 5, none⟩) hfar (.bool mo))
          generalize (((((((wr.drewN nq).setCell ⟨gp, 0, none⟩ (.int .u32 s)).setCell ⟨gp, 1, none⟩ (.int .u32 q)).setCell ⟨gp, 2, none⟩ (.int .u64 (gran P))).setCell ⟨gp, 3, none⟩ (.int .i64 (f5 : Int))).setCell ⟨gp, 4, none⟩ (.slice A1 n1 k1)).setCell ⟨gp, 5, none⟩ (.bool mo)) = W9 at D DF hR9 ⊢
          obtain ⟨q0, q1, q2, q3, q4, q5⟩ := D.six
          refine bodyPost_ret (v := .tuple #[.agg #[.int .u32 s, .int .u32 q, .int .u64 (gran P), .int .i64 (f5 : Int), .slice A1 n1 k1, .bool mo], .int .i64 (at_ : Int), .bool true]) (by simp [results, Tryz.results31, go_sem, q0, q1, q2, q3, q4, q5]) rfl ⟨s, q, gran P, f5, A1, n1, k1, mo, at_, true, rfl, DF, fun h => absurd (HOK.out.2 HQ.out.symm) h, fun _ _ => ⟨rfl, rfl, by rw [HPL.out], HPR.out.2, ?_⟩⟩
          rw [HPR.out.1] at hR9
          exact Kd.R_mono (Kd.R_lower hR9 (show w.heap.size ≤ gp + 1 by omega)) (fun j (hj : gp + 1 ≤ j) => by omega)
        · have hq : (sm == sl) = false := by simpa using hok
          have HQ := Lib.hid hok
          clear hok
          go_wp2_with fail
          go_quiet ((first | (go_at_call 67; exact Calls.quiet_of (KS1.out _)) | (go_at_call 68; exact Calls.quiet_of_same (KL.out _))))
          have HBn := HBN.out nq
          have HFn := below_drewN' Hb.out nq
          obtain ⟨q0, q1, q2, q3, q4, q5⟩ := HBn.six
          have qf := HBn.frozen
          go_wp2_with fail
          clear q0 q1 q2 q3 q4 q5 qf
          have D : Blk (((((((wr.drewN nq).setCell ⟨gp, 0, none⟩ (.int .u32 0)).setCell ⟨gp, 1, none⟩ (.int .u32 0)).setCell ⟨gp, 2, none⟩ (.int .u64 0)).setCell ⟨gp, 3, none⟩ (.int .i64 0)).setCell ⟨gp, 4, none⟩ (.slice none 0 0)).setCell ⟨gp, 5, none⟩ (.bool false)) gp 47 #[.int .u32 0, .int .u32 0, .int .u64 0, .int .i64 0, .slice none 0 0, .bool false] := ((((((HBn).store (i := 0) (u := .int .u32 0) rfl).store (i := 1) (u := .int .u32 0) rfl).store (i := 2) (u := .int .u64 0) rfl).store (i := 3) (u := .int .i64 0) rfl).store (i := 4) (u := .slice none 0 0) rfl).store (i := 5) (u := .bool false) rfl
          have DF : Below w.heap.size w (((((((wr.drewN nq).setCell ⟨gp, 0, none⟩ (.int .u32 0)).setCell ⟨gp, 1, none⟩ (.int .u32 0)).setCell ⟨gp, 2, none⟩ (.int .u64 0)).setCell ⟨gp, 3, none⟩ (.int .i64 0)).setCell ⟨gp, 4, none⟩ (.slice none 0 0)).setCell ⟨gp, 5, none⟩ (.bool false)) := ((((((HFn).setCell (p := ⟨gp, 0, none⟩) hg (.int .u32 0)).setCell (p := ⟨gp, 1, none⟩) hg (.int .u32 0)).setCell (p := ⟨gp, 2, none⟩) hg (.int .u64 0)).setCell (p := ⟨gp, 3, none⟩) hg (.int .i64 0)).setCell (p := ⟨gp, 4, none⟩) hg (.slice none 0 0)).setCell (p := ⟨gp, 5, none⟩) hg (.bool false)
          generalize (((((((wr.drewN nq).setCell ⟨gp, 0, none⟩ (.int .u32 0)).setCell ⟨gp, 1, none⟩ (.int .u32 0)).setCell ⟨gp, 2, none⟩ (.int .u64 0)).setCell ⟨gp, 3, none⟩ (.int .i64 0)).setCell ⟨gp, 4, none⟩ (.slice none 0 0)).setCell ⟨gp, 5, none⟩ (.bool false)) = W9 at D DF ⊢
          obtain ⟨q0, q1, q2, q3, q4, q5⟩ := D.six
          exact bodyPost_ret (v := .tuple #[.agg #[.int .u32 0, .int .u32 0, .int .u64 0, .int .i64 0, .slice none 0 0, .bool false], .int .i64 0, .bool false]) (by simp [results, Tryz.results31, go_sem, q0, q1, q2, q3, q4, q5]) rfl ⟨0, 0, 0, 0, none, 0, 0, false, 0, false, rfl, DF, fun _ => rfl, fun h _ => absurd (HOK.out.1 h).symm HQ.out⟩
end Go.Proofs.YtojdfjohmicopaaGreatDoor
