/- A contract of laws.lengths: where it says no, the place is none of a page's count or lengths. Conditions: the bytes are whole pages, the place lies in them, bounded sizes. -/
import Derived.Test.YtojdfjohmicopaaGreatDoorMp
import Derived.Test.YtojdfjohmicopaaGreatDoorMf
namespace Go.Proofs.YtojdfjohmicopaaGreatDoor
open Go Go.RowKit Go.Proofs.YtojdfjohmicopaaGreatDoorW.PrintWords Go.Proofs.YtojdfjohmicopaaGreatDoor.Crc Go.Proofs.YtojdfjohmicopaaGreatDoor.PFnOggHurt

/-- A place is none of a page's count or lengths. -/
def Out (base : Nat) (l : List Pg) (at_ : Nat) : Prop := ∀ (l1 : List Pg) (P : Pg) (l2 : List Pg), l = l1 ++ P :: l2 → base + (flat l1).length ≤ at_ → at_ < base + (flat l1).length + P.bytes.length → at_ < base + (flat l1).length + 26 ∨ base + (flat l1).length + 27 + P.L.length ≤ at_
/-- What lengths tells. -/
def LenPost (l : List Pg) (at_ : Nat) (e : Ending) : Prop := ∃ r, e = .returned (.bool r) ∧ (r = false → Out 0 l at_)
theorem out_of {l1 l2 : List Pg} {P : Pg} {at_ : Nat} (h1 : (flat l1).length ≤ at_) (h2 : at_ < (flat l1).length + P.bytes.length) (h3 : at_ < (flat l1).length + 26 ∨ (flat l1).length + 27 + P.L.length ≤ at_) : Out 0 (l1 ++ P :: l2) at_ := by
  intro m1 R m2 he hm hr
  rw [Nat.zero_add] at hm hr ⊢
  have key : ∀ (l1 m1 : List Pg) (at_ : Nat), l1 ++ P :: l2 = m1 ++ R :: m2 → (flat m1).length ≤ at_ → at_ < (flat m1).length + R.bytes.length → (flat l1).length ≤ at_ → at_ < (flat l1).length + P.bytes.length → m1 = l1 ∧ R = P := by
    intro l1
    induction l1 with
    | nil =>
      intro m1 at_ he a1 a2 b1 b2
      cases m1 with
      | nil => simp at he; exact ⟨rfl, he.1.symm⟩
      | cons T m1 =>
        exfalso
        rw [List.nil_append, List.cons_append] at he
        injection he with h4 h5
        subst h4
        rw [flat_cons, List.length_append] at a1
        simp [flat] at b2
        omega
    | cons T l1 ih =>
      intro m1 at_ he a1 a2 b1 b2
      cases m1 with
      | nil =>
        exfalso
        rw [List.nil_append, List.cons_append] at he
        injection he with h4 h5
        subst h4
        rw [flat_cons, List.length_append] at b1
        simp [flat] at a2
        omega
      | cons U m1 =>
        rw [List.cons_append, List.cons_append] at he
        injection he with h4 h5
        subst h4
        rw [flat_cons, List.length_append] at a1 a2 b1 b2
        obtain ⟨rfl, rfl⟩ := ih m1 (at_ - T.bytes.length) h5 (by omega) (by omega) (by omega) (by omega)
        exact ⟨rfl, rfl⟩
  obtain ⟨rfl, rfl⟩ := key l1 m1 at_ he hm hr h1 h2
  exact h3
set_option maxRecDepth 100000 in
set_option maxHeartbeats 1000000 in
theorem lengths_any (b : ByteArray) (at_ : Nat) (hb : b.size ≤ 1000000000) (l : List Pg) (hl : ∀ P ∈ l, P.Fit) (hZ : bytesOf b = flat l) (h2 : at_ < b.size) (w : World) :
    Calls Tryz.prog 7 #[.string b, .int .i64 (at_ : Int)] w fun e w' => LenPost l at_ e ∧ w = w' := by
  have HL := Lib.hid hl
  have HZ := Lib.hid hZ
  clear hl hZ
  go_enter Tryz.func7, Tryz.ntmps7
  go_wp2_with fail
  go_loop [5] (fun p => ∃ (l1 l2 : List Pg) (n0 : Nat), Hid (l = l1 ++ l2) ∧ Hid ((flat l1).length = n0) ∧ n0 ≤ at_ ∧ p = .int .i64 (n0 : Int)) (fun p => b.size - (intOf p).toNat)
  case atStart => exact ⟨[], l, 0, Lib.hid rfl, Lib.hid rfl, by omega, rfl⟩
  case round =>
    obtain ⟨l1, l2, n0, HS, HN, hle, rfl⟩ := hrel
    have hbl := bytesOf_length b
    cases l2 with
    | nil =>
      exfalso
      have h1 := HS.out
      have h3 := HZ.out
      rw [h1, List.append_nil] at h3
      rw [h3, HN.out] at hbl
      omega
    | cons P l2 =>
      have hP := HL.out P (by rw [HS.out]; simp)
      have hZ' : bytesOf b = flat l1 ++ (P.bytes ++ flat l2) := by rw [HZ.out, HS.out, flat_append, flat_cons]
      have hlen := hP.len
      have hn := hP.l
      have hsz : n0 + P.bytes.length ≤ b.size := by
        rw [← HN.out, ← hbl, hZ', List.length_append, List.length_append]; omega
      have hcount := pg_count hP (flat l1) (flat l2)
      rw [← hZ', HN.out] at hcount
      have hlens := pg_lens hP (flat l1) (flat l2)
      rw [← hZ', HN.out] at hlens
      have e26 : bt b ((n0 + 26 : Nat) : Int) = (P.L.length : Int) := by rw [bt_get]; exact hcount
      have egt : ∀ i, (hi : i < P.L.length) → bt b ((n0 + 27 + i : Nat) : Int) = P.L[i] := fun i hi => by
        have h2 := cut_get (bytesOf b) (n0 + 27) P.L.length i hi
        rw [hlens] at h2
        rw [bt_get, ← h2, List.getD_eq_getElem?_getD, List.getElem?_eq_getElem hi]; rfl
      have h26 := Lib.hid ((bt_at b ((n0 + 26 : Nat) : Int)))
      have E26 := Lib.hid e26; have EGT := Lib.hid egt; have HP := Lib.hid hP
      have hx : ∀ h : n0 + 26 < b.size, ((b[n0 + 26]'h).toNat : Int) = (P.L.length : Int) := fun h => by rw [← e26]; exact bt_at b ((n0 + 26 : Nat) : Int) h
      have HLEN := Lib.hid hlen
      have hn27 : n0 + 27 ≤ b.size := by omega
      generalize hpl : P.bytes.length = pl at HLEN hsz
      generalize hql : P.L.length = ql at HLEN hx hn
      clear e26 egt hcount hlens hZ' hlen hbl hP
      replace hpl := Lib.hid hpl
      replace hql := Lib.hid hql
      go_upto_region 6 with fail
      go_loop [7, 24] (fun nx i => ∃ (j tj : Nat), j ≤ ql ∧ Hid (total (P.L.take j) = tj) ∧ i = .int .i64 (j : Int) ∧ nx = .int .i64 ((n0 + 27 + ql + tj : Nat) : Int)) (fun _ i => ql - (intOf i).toNat)
      case atStart => exact ⟨0, 0, by omega, Lib.hid rfl, rfl, by simp⟩
      case round =>
        obtain ⟨j, tj, hj, HT, rfl, rfl⟩ := hrel
        by_cases hjl : j < ql
        · have hjp : j < P.L.length := by rw [hql.out]; exact hjl
          have htot := total_snoc P.L j hjp
          rw [List.getD_eq_getElem?_getD, List.getElem?_eq_getElem hjp, Option.getD_some, HT.out] at htot
          have htl := total_le P.L (j + 1)
          obtain ⟨hv0, hv1⟩ := HP.out.bl _ (List.getElem_mem hjp)
          have hbt := EGT.out j hjp
          have hle2 := HLEN.out
          generalize P.L[j] = v at htot hv0 hv1 hbt
          obtain ⟨v, rfl⟩ := Int.eq_ofNat_of_zero_le hv0
          rw [Int.toNat_natCast] at htot
          have hx2 : ∀ h : n0 + 27 + j < b.size, ((b[n0 + 27 + j]'h).toNat : Int) = (v : Int) := fun h => by rw [← hbt]; exact bt_at b ((n0 + 27 + j : Nat) : Int) h
          have hjb : n0 + 27 + j < b.size := by omega
          have hvb : n0 + 27 + ql + tj + v ≤ b.size := by omega
          have hv255 : v ≤ 255 := by omega
          have HTOT := Lib.hid htot
          clear htot htl hbt hle2 hx
          go_wp2_with fail
          go_round
          case rel => exact ⟨j + 1, tj + v, by omega, HTOT, by go_num, by go_num⟩
          case measure => simp [intOf]; omega
        · obtain rfl : j = ql := by omega
          have hpl2 : n0 + pl = n0 + 27 + j + tj := by
            have h1 := HLEN.out
            have h2 := HT.out
            rw [← hql.out, List.take_length] at h2
            omega
          clear hx
          by_cases hin : at_ < n0 + 27 + j + tj
          · by_cases h26 : n0 + 26 ≤ at_
            · go_wp2_with fail
              go_ret
              refine ⟨⟨_, rfl, fun h => ?_⟩, rfl⟩
              have h27 := of_decide_eq_false h
              rw [HS.out]
              exact out_of (by rw [HN.out]; exact hle) (by rw [HN.out, hpl.out]; omega) (by rw [HN.out, hql.out]; omega)
            · go_wp2_with fail
              go_ret
              refine ⟨⟨false, rfl, fun _ => ?_⟩, rfl⟩
              rw [HS.out]
              exact out_of (by rw [HN.out]; exact hle) (by rw [HN.out, hpl.out]; omega) (by rw [HN.out]; omega)
          · go_wp2_with fail
            go_round
            case rel => exact ⟨l1 ++ [P], l2, n0 + 27 + j + tj, Lib.hid (by rw [HS.out]; simp), Lib.hid (by rw [flat_append, List.length_append, HN.out, flat_cons]; simp [flat, hpl.out]; omega), by omega, rfl⟩
            case measure => simp [intOf]; omega
end Go.Proofs.YtojdfjohmicopaaGreatDoor
