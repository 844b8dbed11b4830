/- A contract of laws.FnOggHurt: it returns true, and nothing that was there has turned. Conditions: spec.headText's contract; bounded sizes; the variables that the row lists read as it says. -/
import Derived.Test.YtojdfjohmicopaaGreatDoorMu
import Derived.Test.YtojdfjohmicopaaGreatDoorMm
import Derived.Test.YtojdfjohmicopaaGreatDoorMt
import Derived.Test.YtojdfjohmicopaaGreatDoorMc
import Derived.Test.YtojdfjohmicopaaGreatDoorMs
import Derived.Test.YtojdfjohmicopaaGreatDoorMq
namespace Go.Proofs.YtojdfjohmicopaaGreatDoor
open Go Go.RowKit Go.Proofs.YtojdfjohmicopaaGreatDoorW.PrintWords Go.Proofs.YtojdfjohmicopaaGreatDoor.Crc Go.Proofs.YtojdfjohmicopaaGreatDoor.PFnOggHurt

theorem bw_frozen (w : World) (e : TypeId) (s : ByteArray) (k : Nat) (hk : k < s.size) : (Lib.bytesWorld w e s).frozen? ⟨w.heap.size, k, none⟩ = false := by
  have h := Lib.bytesWorld_at_new w e s
  have hc := Lib.bytesWorld_cell w e s k hk
  have hlt : k < (Lib.bytesCells w e s).size := by
    simp only [World.cell?, h] at hc
    exact (Array.getElem?_eq_some_iff.1 hc).1
  simp [World.frozen?, h]
  omega
theorem bw_row (w : World) (s : ByteArray) (hs : s.size ≤ 1000000000) : Row (Lib.bytesWorld w 5 s) w.heap.size (bytesOf s) := by
  have hr : ReadsInt (Lib.bytesWorld w 5 s) .u8 (some ⟨w.heap.size, 0, none⟩) s.size (bytesOf s) := bytes_reads w 5 s (by omega)
  refine ⟨by rw [Lib.bytesWorld_size]; omega, fun j hj => ?_⟩
  rw [bytesOf_length] at hj
  obtain ⟨ad, e, hc⟩ := hr.at_ (j : Int) (by omega) (by omega)
  injection e with e
  subst e
  simpa [rd, add_plain, Go.WideShapes.add_plain] using hc
theorem row_set {W : World} {g k : Nat} {L : List Int} {v : Int} (h : Row W g L) (hk : k < L.length) : Row (W.setCell ⟨g, k, none⟩ (.int .u8 v)) g (L.set k v) := by
  refine ⟨by rw [show (W.setCell ⟨g, k, none⟩ (.int .u8 v)).heap.size = W.heap.size by simp]; exact h.lt, fun j hj => ?_⟩
  rw [List.length_set] at hj
  by_cases hjk : j = k
  · subst hjk
    rw [World.cell?_setCell_same _ _ _ (h.at_ j hj)]
    simp [List.getD_eq_getElem?_getD, hj]
  · rw [World.cell?_setCell_other _ ⟨g, k, none⟩ ⟨g, j, none⟩ _ (by intro e; injection e; omega), h.at_ j hj]
    simp [List.getD_eq_getElem?_getD, List.getElem?_set, Ne.symm hjk]
theorem gran_lt {P : Pg} (h : P.Fit) : 0 ≤ gran P ∧ gran P < 18446744073709551616 := by
  have hl : ((P.A.drop 6).take 8).length = 8 := by rw [List.length_take, List.length_drop, h.a]; rfl
  have := leZ_lt (l := (P.A.drop 6).take 8) (fun v hv => h.ba v (List.mem_of_mem_drop (List.mem_of_mem_take hv)))
  rw [hl] at this
  exact this
theorem fits7 (a b c d e f g h : Int) (i : ByteArray) (M : List Int) : ∃ r, laws_zzFits7.f a b c d e f g h i M = some r := by
  unfold laws_zzFits7.f
  split
  · exact ⟨_, rfl⟩
  · split <;> exact ⟨_, rfl⟩
set_option maxRecDepth 100000 in
set_option maxHeartbeats 8000000 in
theorem hurt_any (a b c d e : Int) (f : Int) (g h : Int) (i : ByteArray) (j : Option Addr) (Ms : List Int) (m : Nat) (hh : ∀ w, Calls Tryz.prog 28 #[.agg #[.int .i64 a, .int .i64 b, .int .i64 c, .int .i64 d, .int .i64 e, .int .u32 f, .int .i64 g, .int .i64 h, .string i, .slice j Ms.length m]] w (HeadPost w))
    (w : World) (A : Option Addr) (cA : Nat) (l : List S47) (hs : Sized l) (hC : Kd.C k47 w A l.length l) (hc : l.length ≤ cA) (hM : Kd.C (Kd.int .i64) w j Ms.length Ms) (hmc : Ms.length ≤ m) (at_ by_ : Int) (ha0 : 0 ≤ at_) (ha1 : at_ < 65536) (hb0 : 0 ≤ by_) (hb1 : by_ < 256)
    (pE pF : Addr) (hE : Errs w pE pF) (hT : Pow w) (hTl : 5 < w.heap.size) :
    Calls Tryz.prog 3 #[.agg #[.int .i64 a, .int .i64 b, .int .i64 c, .int .i64 d, .int .i64 e, .int .u32 f, .int .i64 g, .int .i64 h, .string i, .slice j Ms.length m], .slice A l.length cA, .int .u16 at_, .int .u8 by_] w fun e w' => e = .returned (.bool true) ∧ Below w.heap.size w w' := by
  obtain ⟨r7, h7⟩ := fits7 a b c d e f g h i Ms
  obtain ⟨r8, h8⟩ := ev_fits8 hs
  obtain ⟨k8, h8⟩ := h8.rounds
  have HC := Lib.hid hC; have HS := Lib.hid hs; have HM := Lib.hid hM; have HE := Lib.hid hE; have HT := Lib.hid hT; have HH := Lib.hid hh
  have H7 := Lib.hid h7; have H8 := Lib.hid h8
  clear hC hs hM hE hT hh h7 h8
  go_enter Tryz.func3, Tryz.ntmps3
  have hB0 := Blk.new w 25 #[.int .i64 a, .int .i64 b, .int .i64 c, .int .i64 d, .int .i64 e, .int .u32 f, .int .i64 g, .int .i64 h, .string i, .slice j Ms.length m]
  have hb0' := (Below.refl w.heap.size w).alloc (Nat.le_refl _) (.cells #[.int .i64 a, .int .i64 b, .int .i64 c, .int .i64 d, .int .i64 e, .int .u32 f, .int .i64 g, .int .i64 h, .string i, .slice j Ms.length m] 25)
  have HB0 := Lib.hid hB0; have Hb0 := Lib.hid hb0'
  clear hB0 hb0'
  go_upto_region 1 with fail
  generalize w.alloc (.cells #[.int .i64 a, .int .i64 b, .int .i64 c, .int .i64 d, .int .i64 e, .int .u32 f, .int .i64 g, .int .i64 h, .string i, .slice j Ms.length m] 25) = w0 at HB0 Hb0 ⊢
  obtain ⟨q0, q1, q2, q3, q4, q5, q6, q7, q8, q9⟩ := HB0.out.ten
  go_wp2_with fail
  refine (laws_zzFits7.calls a b c d e f g h i j m Ms r7 w0 (Kd.C_below HM.out Hb0.out) hmc H7.out).mono ?_
  rintro e1 w1 ⟨rfl, hb1'⟩
  have HB1 := Lib.hid (Hb0.out.trans (hb1'.mono Hb0.out.size))
  have HX1 := Lib.hid (HB0.out.below hb1' HB0.out.lt)
  clear hb1' q0 q1 q2 q3 q4 q5 q6 q7 q8 q9 HB0 Hb0
  have hw1 : w.heap.size ≤ w1.heap.size := HB1.out.size
  cases r7
  · go_wp2_with fail
    go_ret
    exact ⟨rfl, HB1.out⟩
  · go_wp2_with fail
    refine (laws_zzFits8.calls k8 A cA l r8 w1 (Kd.C_below HC.out HB1.out) hc H8.out).mono ?_
    rintro e2 w2 ⟨rfl, hb2'⟩
    have HB2 := Lib.hid (HB1.out.trans (hb2'.mono hw1))
    have HX2 := Lib.hid (HX1.out.below hb2' HX1.out.lt)
    have hw2 : w.heap.size ≤ w2.heap.size := HB2.out.size
    clear hb2' HB1 HX1
    cases r8
    · go_wp2_with fail
      go_ret
      exact ⟨rfl, HB2.out⟩
    · obtain ⟨q0, q1, q2, q3, q4, q5, q6, q7, q8, q9⟩ := HX2.out.ten
      have HST := Lib.hid (stream_any a b c d e f g h i j Ms.length m HH.out w2 A cA l HS.out (Kd.C_below HC.out HB2.out) hc)
      go_wp2_with fail
      refine HST.out.mono ?_
      rintro e3 w3 ⟨r, t, ok, rfl, hok, hb3'⟩
      have HB3 := Lib.hid (HB2.out.trans (hb3'.mono hw2))
      have hw3 : w.heap.size ≤ w3.heap.size := HB3.out.size
      have HOK := Lib.hid hok
      clear hb3' HB2 HX2 q0 q1 q2 q3 q4 q5 q6 q7 q8 q9 HST hok
      cases ok
      · go_wp2_with fail
        go_ret
        exact ⟨rfl, HB3.out⟩
      · by_cases ht0 : t.toList = ([] : List UInt8)
        · go_wp2_with fail
          go_ret
          exact ⟨rfl, HB3.out⟩
        · by_cases hby : by_ = 0
          · subst hby
            go_wp2_with fail
            all_goals (try go_ret)
            all_goals (try exact ⟨rfl, HB3.out⟩)
          · obtain ⟨⟨H, T, K, hp⟩, hrs, ⟨ps, hw, hte⟩, h20, hts⟩ := HOK.out rfl
            have htp : 0 < t.size := by
              have : t.toList.length = t.size := by rw [ByteArray.toList_eq, data_length]
              cases hl : t.toList with
              | nil => exact absurd hl ht0
              | cons x y => rw [hl] at this; simp at this; omega
            have hgood := hw.good
            have hfb : Bytes (flat ps) := flat_bytes fun P hP => (hgood P hP).1
            have hbt : bytesOf t = flat ps := by rw [hte, bytesOf_str hfb]
            obtain ⟨kn, hkn⟩ : ∃ kn : Nat, at_ % (t.size : Int) = (kn : Int) := ⟨(at_ % (t.size : Int)).toNat, by have := Int.emod_nonneg at_ (show (t.size : Int) ≠ 0 by omega); omega⟩
            have hklt : kn < t.size := by have := Int.emod_lt_of_pos at_ (show 0 < (t.size : Int) by omega); omega
            have HRL := Lib.hid (lengths_any t kn (by omega) ps (fun P hP => (hgood P hP).1) hbt hklt w3)
            have HP := Lib.hid hp; have HW := Lib.hid hw; have HTE := Lib.hid hte; have HBT := Lib.hid hbt
            clear hgood hfb hbt hp hw hte
            have c1 : (1 : Int) ≤ (t.size : Int) := by omega
            have HKN := Lib.hid hkn
            clear hkn
            go_upto_region 6 with fail
            all_goals (try (go_ret; exact ⟨rfl, HB3.out⟩))
            · have hkn := HKN.out
              go_wp2_with fail
              refine HRL.out.mono ?_
              rintro e4 w4 ⟨⟨rl, rfl, hout⟩, hww⟩
              have HB4 := Lib.hid (show Below w.heap.size w w4 from hww ▸ HB3.out)
              have hw4 : w.heap.size ≤ w4.heap.size := HB4.out.size
              have HOUT := Lib.hid hout
              clear hww hout HB3 HRL
              cases rl
              · rw [hkn]
                clear hkn
                obtain ⟨v, hxv, hv0, hv1, hvne⟩ := xorb ((bytesOf t).getD kn 0) by_ (bytes_getD (bytesOf_bytes t) kn (by rw [bytesOf_length]; exact hklt)) ⟨hb0, hb1⟩ hby
                obtain ⟨Q, ms, rest, hhurt⟩ := hurt_of HP.out hrs HW.out h20 HTE.out hts kn hklt (HOUT.out rfl) ⟨hv0, hv1⟩ hvne
                have HHU := Lib.hid hhurt
                clear hhurt hvne
                have kb := print_bytes (P := Tryz.prog) 9 33 5 Tryz.underlying9 Tryz.underlying33 Tryz.underlying5 t w4
                have hcap := grownCap_ge w4 t.size 0 5
                have hcm := grownCap_le_maxLen w4 t.size 0 5 (by unfold maxLen; omega)
                unfold maxLen at hcm
                generalize grownCap w4 t.size 0 5 = cp at kb hcap hcm
                have hrow := bw_row w4 t (by omega)
                have hfz := bw_frozen w4 5 t kn hklt
                have hb5 := bytes_below HB4.out hw4 5 t
                have hcell := hrow.at_ kn (by rw [bytesOf_length]; exact hklt)
                have hlen := bytesOf_length t
                have HLEN := Lib.hid hlen
                have HROW := Lib.hid hrow; have HB5 := Lib.hid hb5
                have hX5 : w4.heap.size < (Lib.bytesWorld w4 5 t).heap.size := hrow.lt
                clear hrow hb5 hlen
                generalize Lib.bytesWorld w4 5 t = w5 at kb HROW HB5 hfz hcell hX5 ⊢
                generalize hx : (bytesOf t).getD kn 0 = x0 at hcell hxv
                clear hx
                generalize hg4 : w4.heap.size = g4 at kb HROW hfz hcell hw4 hX5 ⊢
                clear hg4
                go_upto_region 11 with fail
                have hrow6 := row_set (v := v) HROW.out (show kn < (bytesOf t).length by rw [HLEN.out]; exact hklt)
                have hb6 := HB5.out.setCell (p := ⟨g4, kn, none⟩) hw4 (.int .u8 v)
                have HB6 := Lib.hid hb6
                have hw6 : w.heap.size ≤ (w5.setCell ⟨g4, kn, none⟩ (.int .u8 v)).heap.size := hb6.size
                clear hb6 kb hfz hcell HROW HB5
                have HXL := Lib.hid (show ((bytesOf t).set kn v).length = t.size by rw [List.length_set, HLEN.out])
                generalize (bytesOf t).set kn v = X at hrow6 HHU HXL
                have HROW6 := Lib.hid hrow6
                clear hrow6
                generalize w5.setCell ⟨g4, kn, none⟩ (.int .u8 v) = w6 at HROW6 HB6 hw6 ⊢
                have hg6 := HROW6.out.lt
                have hconv : ∀ W : World, Row W g4 X → (convert 33 9 (.slice (some ⟨g4, 0, none⟩) t.size cp)).run Tryz.prog W = .ok (.string (strOfNums X)) W := fun W hW => by
                  have := str_at W g4 0 cp X (by rw [HXL.out]; omega) (fun k hk => by rw [Nat.zero_add]; exact hW.at_ k hk)
                  rw [HXL.out] at this
                  exact this
                have HCV := Lib.hid hconv
                clear hconv
                have hcv6 := HCV.out w6 HROW6.out
                have hsx : (strOfNums X).size = t.size := by rw [strOfNums_size]; exact HXL.out
                have hsr : (r ++ strOfNums X).size = r.size + t.size := by rw [size_ba, hsx]
                have HBH := Lib.hid (behind_any H ms Q rest (r ++ strOfNums X) HHU.out.h HHU.out.m HHU.out.q HHU.out.n HHU.out.z (by rw [hsr]; omega) (by have := HHU.out.l; omega) w6)
                go_wp2_with fail
                refine HBH.out.mono ?_
                rintro e7 w7 ⟨v0, v1, rfl, hn0, hn1, hb7⟩
                have HB7 := Lib.hid (HB6.out.trans (hb7.mono hw6))
                have hw7 : w.heap.size ≤ w7.heap.size := HB7.out.size
                have HN0 := Lib.hid hn0; have HN1 := Lib.hid hn1
                have hrow7 := HROW6.out.below hb7 hg6
                have HROW7 := Lib.hid hrow7
                have hcv7 := HCV.out w7 hrow7
                clear hcv6 hn0 hn1 hb7 hrow7 HBH HB6 HROW6
                have hE7 := HE.out.fr (Fr.of_below (S := fun _ => False) HB7.out (Nat.le_refl _)) (fun _ _ h => h)
                have HPG := Lib.hid (pages_any w7 (r ++ strOfNums X) H Q ms rest pE pF HHU.out.z (by rw [hsr]; omega) K HHU.out.f HHU.out.h.1 (fun P hP => ⟨(HHU.out.m P hP).1, (HHU.out.m P hP).2.1⟩) HHU.out.q HHU.out.n HHU.out.l (bytesOf_bytes _) hE7)
                clear hE7
                go_wp2_with fail
                refine HPG.out.mono ?_
                rintro e8 w8 ⟨v2, v3, rfl, hr2, hr3, hb8⟩
                have HB8 := Lib.hid (HB7.out.trans (hb8.mono hw7))
                have hw8 : w.heap.size ≤ w8.heap.size := HB8.out.size
                obtain ⟨B0, d0, rfl, hd0, hc0⟩ := Kd.R_reads (Kd.R_below HN0.out hb8)
                obtain ⟨B1, d1, rfl, hd1, hc1⟩ := Kd.R_reads (Kd.R_below HN1.out hb8)
                obtain ⟨B2, d2, rfl, hd2, hc2⟩ := Kd.R_reads hr2
                obtain ⟨B3, d3, rfl, hd3, hc3⟩ := Kd.R_reads hr3
                clear hcv7 hb8 hr2 hr3 HB7 HN0 HN1 HPG
                have hml : ms.length ≤ 100 := HHU.out.l
                have HSL := Lib.hid (sameLists_any (ms.map strsOf) (by rw [List.length_map]; omega) (fun s hs => by
                  obtain ⟨P, hP, rfl⟩ := List.mem_map.1 hs
                  have := (HHU.out.m P hP).1.l
                  simp only [strsOf, List.length_map, bods_length]; omega) B2 B0 d2 d0 w8 hc2 hc0)
                have hgx : ∀ v ∈ ms.map gran, 0 ≤ v ∧ v < 18446744073709551616 := fun v hv => by
                  obtain ⟨P, hP, rfl⟩ := List.mem_map.1 hv
                  exact gran_lt (HHU.out.m P hP).1
                have HGX := Lib.hid hgx
                have HC1 := Lib.hid hc1; have HC3 := Lib.hid hc3
                have hgl : (ms.map gran).length ≤ 1000 := by rw [List.length_map]; omega
                generalize ms.map gran = gs at HGX HC1 HC3 hgl hd1 hd3 ⊢
                generalize ms.map strsOf = ss at HSL ⊢
                clear hgx hc0 hc1 hc2 hc3 hd0 hd1 hd2 hd3 hsx hsr
                go_wp2_with fail
                refine HSL.out.mono ?_
                rintro e9 w9 ⟨rfl, hdr⟩
                have HB9 := Lib.hid (HB8.out.trans (hdr.below.mono hw8))
                have hw9 : w.heap.size ≤ w9.heap.size := HB9.out.size
                have HC1' := Lib.hid (Kd.C_below HC1.out hdr.below); have HC3' := Lib.hid (Kd.C_below HC3.out hdr.below)
                clear hdr HB8 HC1 HC3
                go_wp2_with fail
                refine (nums_any w9 B3 d3 gs hgl (by omega) HC3'.out HGX.out (tab_below HT.out HB9.out hTl)).mono ?_
                rintro e10 w10 ⟨rfl, hb10⟩
                have HB10 := Lib.hid (HB9.out.trans (hb10.mono hw9))
                have hw10 : w.heap.size ≤ w10.heap.size := HB10.out.size
                have HC1'' := Lib.hid (Kd.C_below HC1'.out hb10)
                clear hb10 HB9 HC1' HC3'
                go_wp2_with fail
                refine (nums_any w10 B1 d1 gs hgl (by omega) HC1''.out HGX.out (tab_below HT.out HB10.out hTl)).mono ?_
                rintro e11 w11 ⟨rfl, hb11⟩
                have HB11 := Lib.hid (HB10.out.trans (hb11.mono hw10))
                have hw11 : w.heap.size ≤ w11.heap.size := HB11.out.size
                clear hb11 HB10 HC1''
                generalize numS gs ++ (⟨#[93]⟩ : ByteArray) = sn
                go_wp2_with fail
                refine (alive_any w11).mono ?_
                rintro e12 w12 ⟨rfl, hb12⟩
                have HB12 := Lib.hid (HB11.out.trans (hb12.mono hw11))
                clear hb12 HB11
                go_wp2_with fail
                go_ret
                exact ⟨rfl, HB12.out⟩
              · go_wp2_with fail
                go_ret
                exact ⟨rfl, HB4.out⟩
end Go.Proofs.YtojdfjohmicopaaGreatDoor
