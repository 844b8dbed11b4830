/- Contracts of the library's FormatUint at base 10, and of laws.nums over uint64: it spells the numbers. Conditions: at most 1000 numbers; the library's table of powers of ten as its initialiser lays it. A contract of laws.nums over uint64: it spells the numbers. Conditions: at most 1000 numbers; the library's table of powers of ten as its initialiser lays it. -/
import Derived.Test.YtojdfjohmicopaaGreatDoorMg
import Derived.Test.YtojdfjohmicopaaGreatDoorShelf
import Derived.BigQuiet
import Derived.Deep.QuietTactic
import Derived.Lib.ItoaLen
import Derived.Lib.ItoaWalk
import Derived.Lib.ItoaMem
import Derived.Lib.AppendIntMem
import Derived.BigGuard
import Derived.Test.YtojdfjohmicopaaGreatDoorPFnOggHurtx2
namespace Go.Proofs.YtojdfjohmicopaaGreatDoor
open Go Go.RowKit Go.Proofs.YtojdfjohmicopaaGreatDoorW.PrintWords Go.Sort Go.Lib

theorem gPow : Tryz.prog.globalNamed "internal/strconv.uint64pow10" = some 5 := by kernel_rfl
abbrev Pow (w : World) : Prop := Lib.TabIs Tryz.prog w "internal/strconv.uint64pow10" .u64 Lib.pow10Tab
theorem tab_below {W W' : World} {B : Nat} (h : Pow W) (hb : Below B W W') (hB : 5 < B) : Pow W' := var?_below hb gPow hB h

set_option maxHeartbeats 12800000 in
set_option maxRecDepth 100000 in
theorem iunit_any (u : Nat) (h0 : 100 ≤ u) (hu64 : u < 18446744073709551616) (w : World) (htab : Pow w) :
    Calls Tryz.prog 35 #[.int .u64 u, .int .i64 10] w fun e w' => e = .returned (.string ⟨(Lib.decDigits u).toArray⟩) ∧ Below w.heap.size w w' := by
  have hu1 : 1 ≤ u := by omega
  have hnd20 : Lib.nDigits u ≤ 20 := by have := Lib.numDigits_eq u hu1 hu64; split at this <;> omega
  have hal : Tryz.prog.arrayLen 147 = 24 := by kernel_rfl
  have hsl : ∀ W, (Instr.sliceAt 147 (.pointer (some ⟨w.heap.size, 0, none⟩)) none (some (.int .i64 (Lib.nDigits u : Int))) none).run Tryz.prog W = .ok (.slice (some ⟨w.heap.size, 0, none⟩) (Lib.nDigits u) 24) W := fun W => by
    rw [run_sliceAt_array_h W 147 ⟨w.heap.size, 0, none⟩ (by simp [Program.arrayLen, Program.elem, Tryz.underlying147]) .i64 (Lib.nDigits u : Int) (by omega) (by rw [hal]; omega)]
    go_simp
  have hH0 := Lib.holds_zero0 w 147 (Lib.nDigits u) (by omega)
  have hfmt := Tryz.internal_strconv_formatBase10 w.heap.size 0 24 u (Array.replicate (Lib.nDigits u) 0) (w.alloc (.cells Lib.zeros24 147)) hH0 (by rw [Array.size_replicate]; exact Lib.lt_pow_nDigits u) hu64 (by rw [Array.size_replicate]; omega)
  rw [Array.size_replicate] at hfmt
  have HH0 := Lib.hid hH0
  have iu : (100 : Int) ≤ (u : Int) := by omega
  clear hH0 hal
  go_enter Tryz.func35, Tryz.ntmps35
  go_wp2_with fail
  refine (Tryz.internal_strconv_numDigits u hu1 hu64 _ (Lib.tabIs_alloc htab _)).mono ?_
  rintro e w' ⟨rfl, rfl⟩
  go_wp2_with fail
  refine hfmt.mono ?_
  rintro e w' ⟨rfl, k, v', dk, rfl, hF⟩
  have hcv : (convert 33 9 (.slice (some ⟨w.heap.size, 0, none⟩) (Lib.nDigits u) 24)).run Tryz.prog ((putRow (fun (b : UInt8) => Value.int .u8 (b.toNat : Int)) (w.alloc (.cells Lib.zeros24 147)) w.heap.size 0 dk).drewN k) = .ok (.string ⟨(Lib.decDigits u).toArray⟩) ((putRow (fun (b : UInt8) => Value.int .u8 (b.toNat : Int)) (w.alloc (.cells Lib.zeros24 147)) w.heap.size 0 dk).drewN k) := by
    have h := run_convert_bytes_back (P := Tryz.prog) ((putRow (fun (b : UInt8) => Value.int .u8 (b.toNat : Int)) (w.alloc (.cells Lib.zeros24 147)) w.heap.size 0 dk).drewN k) 33 9 5 ⟨w.heap.size, 0, none⟩ 24 (Lib.decDigits u) Tryz.underlying33 Tryz.underlying5 Tryz.underlying9 (fun j hj => by
      rw [Lib.row_is_numeral hF j hj, Lib.add_plain, World.cell?_drewN]
      exact cell?_putRow (fun (b : UInt8) => Value.int .u8 (b.toNat : Int)) _ w.heap.size 0 _ dk HH0.out (by rw [hF.size, Array.size_replicate]) j (by rw [hF.size]; rw [Lib.decDigits_length] at hj; exact hj))
    rw [Lib.decDigits_length] at h
    exact h
  obtain ⟨os, eo⟩ := Lib.fin_at w (.cells Lib.zeros24 147) dk k 0
  have HB := Lib.hid (show Below w.heap.size w ((putRow (fun (b : UInt8) => Value.int .u8 (b.toNat : Int)) (w.alloc (.cells Lib.zeros24 147)) w.heap.size 0 dk).drewN k) by rw [eo]; exact Lib.below_grow w.heap.size w (Nat.le_refl _) k os)
  clear eo
  generalize (putRow (fun (b : UInt8) => Value.int .u8 (b.toNat : Int)) (w.alloc (.cells Lib.zeros24 147)) w.heap.size 0 dk).drewN k = W2 at hcv HB ⊢
  go_wp2_with fail
  go_ret
  exact ⟨rfl, HB.out⟩
set_option maxRecDepth 100000 in
theorem unit_any (u : Nat) (h0 : 100 ≤ u) (hu64 : u < 18446744073709551616) (w : World) (htab : Pow w) :
    Calls Tryz.prog 22 #[.int .u64 u, .int .i64 10] w fun e w' => e = .returned (.string ⟨(Lib.decDigits u).toArray⟩) ∧ Below w.heap.size w w' := by
  have H := Lib.hid (iunit_any u h0 hu64 w htab)
  clear htab
  go_enter Tryz.func22, Tryz.ntmps22
  go_wp2_with fail
  refine H.out.mono ?_
  rintro e w' ⟨rfl, hb⟩
  have HB := Lib.hid hb
  clear hb
  go_wp2_with fail
  go_ret
  exact ⟨rfl, HB.out⟩
end Go.Proofs.YtojdfjohmicopaaGreatDoor
namespace Go.Proofs.YtojdfjohmicopaaGreatDoor
open Go Go.RowKit Go.Proofs.YtojdfjohmicopaaGreatDoorW.PrintWords

/-- One number's text. -/
def itB (x : Int) : ByteArray := ⟨(Lib.decDigits x.toNat).toArray⟩
theorem nd_le (u : Nat) (h1 : 1 ≤ u) (hu64 : u < 18446744073709551616) : Lib.nDigits u ≤ 20 := by have := Lib.numDigits_eq u h1 hu64; split at this <;> omega
theorem itB_size (x : Int) (h0 : 0 ≤ x) (h1 : x < 18446744073709551616) : (itB x).size ≤ 20 := by
  show (Lib.decDigits x.toNat).toArray.size ≤ 20
  rw [List.size_toArray, Lib.decDigits_length]
  by_cases h : x.toNat = 0
  · rw [h, Lib.nDigits_small (by omega)]; omega
  · exact nd_le _ (by omega) (by omega)
theorem format_any (x : Int) (w : World) (h0 : 0 ≤ x) (h1 : x ≤ 9223372036854775807) (htab : Pow w) :
    Calls Tryz.prog 23 #[.int .i64 x, .int .i64 10] w fun e w' => e = .returned (.string (itB x)) ∧ Below w.heap.size w w' := by
  refine (Tryz.strconv_FormatInt_10 x (by omega) h1 w htab).mono ?_
  rintro e w' ⟨rfl, k, os, rfl⟩
  refine ⟨?_, Lib.below_grow _ _ (Nat.le_refl _) _ _⟩
  obtain ⟨u, rfl⟩ := Int.eq_ofNat_of_zero_le h0
  unfold itB
  rw [Lib.itoa_nonneg]; rfl
theorem formatu_any (x : Int) (w : World) (h0 : 9223372036854775808 ≤ x) (h1 : x < 18446744073709551616) (htab : Pow w) :
    Calls Tryz.prog 22 #[.int .u64 x, .int .i64 10] w fun e w' => e = .returned (.string (itB x)) ∧ Below w.heap.size w w' := by
  obtain ⟨u, rfl⟩ := Int.eq_ofNat_of_zero_le (show 0 ≤ x by omega)
  exact unit_any u (by omega) (by omega) w htab
/-- One number's text behind what is there. -/
def put1 (s : ByteArray) (x : Int) : ByteArray := s ++ (itB x ++ ⟨#[32]⟩)
def numS (xs : List Int) : ByteArray := xs.foldl put1 ⟨#[91]⟩
theorem size_app (a b : ByteArray) : (a ++ b).size = a.size + b.size := ByteArray.size_append

set_option maxRecDepth 100000 in
set_option maxHeartbeats 4000000 in
theorem nums_any (w : World) (A : Option Addr) (c : Nat) (xs : List Int) (hn : xs.length ≤ 1000) (hg : 5 < w.heap.size)
    (hc : (Kd.int .u64).C w A xs.length xs) (hx : ∀ v ∈ xs, 0 ≤ v ∧ v < 18446744073709551616) (htab : Pow w) :
    Calls Tryz.prog 11 #[.slice A xs.length c] w fun e w' => e = .returned (.string (numS xs ++ ⟨#[93]⟩)) ∧ Below w.heap.size w w' := by
  have HC := Lib.hid hc; have HX := Lib.hid hx; have HT := Lib.hid htab
  clear hc hx htab
  go_enter Tryz.func11, Tryz.ntmps11
  go_wp2_with fail
  go_loopw [3, 8] (fun v i wr => ∃ k : Nat, k ≤ xs.length ∧ i = .int .i64 k ∧ v = .string (numS (xs.take k)) ∧ (numS (xs.take k)).size ≤ 22 * k + 1 ∧ Hid (Below w.heap.size w wr)) (fun _ i _ => xs.length - (intOf i).toNat)
  case atStart => exact ⟨0, Nat.zero_le _, rfl, rfl, Nat.le_refl _, Lib.hid (Below.refl _ _)⟩
  case round =>
    obtain ⟨k, hk, rfl, rfl, hsz, HB⟩ := hrel
    have hbs := HB.out.size
    by_cases hlt : k < xs.length
    · obtain ⟨ad, rfl, hcell⟩ := Kd.at_int (Kd.C_below HC.out HB.out) (k : Int) (by omega) (by omega)
      rw [Int.toNat_natCast] at hcell
      have hrd : rd xs (k : Int) = xs[k] := by unfold rd; rw [Int.toNat_natCast, List.getD_eq_getElem?_getD, List.getElem?_eq_getElem hlt]; rfl
      rw [hrd] at hcell
      obtain ⟨h0, h1⟩ := HX.out _ (List.getElem_mem hlt)
      have HS := Lib.hid (show numS (xs.take (k + 1)) = numS (xs.take k) ++ (itB xs[k] ++ ⟨#[32]⟩) by rw [List.take_succ_eq_append_getElem hlt]; unfold numS; rw [List.foldl_append]; rfl)
      generalize xs[k] = x at hcell h0 h1 HS
      clear hrd
      generalize numS (xs.take k) = sk at HS hsz
      have hi := itB_size x h0 h1
      by_cases hbig : x < 9223372036854775808
      · have HF := Lib.hid (format_any x wr h0 (by omega) (tab_below HT.out HB.out hg))
        go_wp2_with fail
        refine HF.out.mono ?_
        rintro e w1 ⟨rfl, hb1⟩
        have HB1 := Lib.hid (HB.out.trans (hb1.mono hbs))
        clear hb1
        generalize itB x = it at HS hi
        have e1 : (it ++ (⟨#[32]⟩ : ByteArray)).size = it.size + 1 := size_app _ _
        have e2 : (sk ++ (it ++ (⟨#[32]⟩ : ByteArray))).size = sk.size + (it.size + 1) := by rw [size_app, e1]
        go_wp2_with fail
        refine ⟨⟨k + 1, by omega, by rw [Int.natCast_add]; rfl, by rw [HS.out], by rw [HS.out, e2]; omega, HB1⟩, ?_⟩
        show xs.length - ((k : Int) + 1).toNat < xs.length - (k : Int).toNat
        omega
      · have HF := Lib.hid (formatu_any x wr (by omega) h1 (tab_below HT.out HB.out hg))
        go_wp2_with fail
        refine HF.out.mono ?_
        rintro e w1 ⟨rfl, hb1⟩
        have HB1 := Lib.hid (HB.out.trans (hb1.mono hbs))
        clear hb1
        generalize itB x = it at HS hi
        have e1 : (it ++ (⟨#[32]⟩ : ByteArray)).size = it.size + 1 := size_app _ _
        have e2 : (sk ++ (it ++ (⟨#[32]⟩ : ByteArray))).size = sk.size + (it.size + 1) := by rw [size_app, e1]
        go_wp2_with fail
        refine ⟨⟨k + 1, by omega, by rw [Int.natCast_add]; rfl, by rw [HS.out], by rw [HS.out, e2]; omega, HB1⟩, ?_⟩
        show xs.length - ((k : Int) + 1).toNat < xs.length - (k : Int).toNat
        omega
    · have hk' : k = xs.length := by omega
      subst hk'
      rw [List.take_length] at hsz ⊢
      have e1 : (numS xs ++ (⟨#[93]⟩ : ByteArray)).size = (numS xs).size + 1 := size_app _ _
      generalize hsk : numS xs = sk at hsz e1 ⊢
      go_wp2_with fail
      go_ret
      exact ⟨by rw [hsk]; rfl, HB.out⟩
end Go.Proofs.YtojdfjohmicopaaGreatDoor
