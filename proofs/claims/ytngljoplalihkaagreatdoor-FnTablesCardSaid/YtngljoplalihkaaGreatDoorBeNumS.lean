/- A contract of laws.nums over int64: it spells the numbers. Conditions: at most 1000 numbers, each from 0 to 65535; the library's table of powers of ten as its initialiser lays it. -/
import Derived.Test.YtngljoplalihkaaGreatDoorBdEdges
import Derived.Test.YtngljoplalihkaaGreatDoorShelf
import Derived.BigQuiet
import Derived.Deep.QuietTactic
import Derived.Lib.ItoaLen
import Derived.Lib.AppendIntMem
namespace Go.Proofs.YtngljoplalihkaaGreatDoor
open Go Go.RowKit Go.Proofs.YtngljoplalihkaaGreatDoorW.PrintWords

theorem gPow : Tryz.prog.globalNamed "internal/strconv.uint64pow10" = some 9 := by kernel_rfl
theorem tab_below {W W' : World} {B : Nat} (h : Lib.TabIs Tryz.prog W "internal/strconv.uint64pow10" .u64 Lib.pow10Tab) (hb : Below B W W') (hB : 9 < B) : Lib.TabIs Tryz.prog W' "internal/strconv.uint64pow10" .u64 Lib.pow10Tab :=
  var?_below hb gPow hB h
/-- One number's text. -/
def itB (x : Int) : ByteArray := ⟨(Lib.itoa x).toArray⟩
theorem itB_size (x : Int) (h0 : 0 ≤ x) (h1 : x ≤ 65535) : (itB x).size ≤ 21 := by
  show (Lib.itoa x).toArray.size ≤ 21
  rw [List.size_toArray]
  exact Lib.itoa_length_le x (by omega) (by omega)
theorem format_any (x : Int) (w : World) (h0 : 0 ≤ x) (h1 : x ≤ 65535) (htab : Lib.TabIs Tryz.prog w "internal/strconv.uint64pow10" .u64 Lib.pow10Tab) :
    Calls Tryz.prog 11 #[.int .i64 x, .int .i64 10] w fun e w' => e = .returned (.string (itB x)) ∧ Below w.heap.size w w' := by
  refine (Tryz.strconv_FormatInt_10 x (by omega) (by omega) w htab).mono ?_
  rintro e w' ⟨rfl, k, os, rfl⟩
  exact ⟨rfl, Lib.below_grow _ _ (Nat.le_refl _) _ _⟩
/-- One number's text behind what is there. -/
def put1 (s : ByteArray) (x : Int) : ByteArray := s ++ (itB x ++ ⟨#[32]⟩)
def numS (xs : List Int) : ByteArray := xs.foldl put1 ⟨#[91]⟩
theorem size_app (a b : ByteArray) : (a ++ b).size = a.size + b.size := ByteArray.size_append

set_option maxRecDepth 100000 in
set_option maxHeartbeats 1000000 in
theorem nums_any (w : World) (b c : Nat) (xs : List Int) (hn : xs.length ≤ 1000) (hb : b < w.heap.size) (hg : 9 < w.heap.size)
    (hc : ∀ k, k < xs.length → w.cell? ⟨b, k, none⟩ = some (.int .i64 (xs.getD k 0))) (hx : ∀ k, k < xs.length → 0 ≤ xs.getD k 0 ∧ xs.getD k 0 ≤ 65535) (htab : Lib.TabIs Tryz.prog w "internal/strconv.uint64pow10" .u64 Lib.pow10Tab) :
    Calls Tryz.prog 6 #[.slice (some ⟨b, 0, none⟩) xs.length c] w fun e w' => e = .returned (.string (numS xs ++ ⟨#[93]⟩)) ∧ Below w.heap.size w w' := by
  have HC := Lib.hid hc; have HX := Lib.hid hx; have HT := Lib.hid htab
  clear hc hx htab
  go_enter Tryz.func6, Tryz.ntmps6
  go_wp2_with fail
  go_loopw [3, 8] (fun v i wr => ∃ k : Nat, k ≤ xs.length ∧ i = .int .i64 k ∧ v = .string (numS (xs.take k)) ∧ (numS (xs.take k)).size ≤ 22 * k + 1 ∧ Hid (Below w.heap.size w wr)) (fun _ i _ => xs.length - (intOf i).toNat)
  case atStart => exact ⟨0, Nat.zero_le _, rfl, rfl, Nat.le_refl _, Lib.hid (Below.refl _ _)⟩
  case round =>
    obtain ⟨k, hk, rfl, rfl, hsz, HB⟩ := hrel
    have hbs := HB.out.size
    by_cases hlt : k < xs.length
    · have hcell := (HB.out.cell (p := ⟨b, k, none⟩) hb).trans (HC.out k hlt)
      obtain ⟨h0, h1⟩ := HX.out k hlt
      have hsn := take_snoc' xs k hlt
      generalize xs.getD k 0 = x at hcell h0 h1 hsn
      have HS := Lib.hid (show numS (xs.take (k + 1)) = numS (xs.take k) ++ (itB x ++ ⟨#[32]⟩) by rw [hsn]; simp [numS, put1, List.foldl_append])
      clear hsn
      generalize numS (xs.take k) = sk at HS hsz
      go_wp2_with fail
      rename_i hbig
      clear hbig
      have hi := itB_size x h0 h1
      refine (format_any x wr h0 h1 (tab_below HT.out HB.out hg)).mono ?_
      rintro e w1 ⟨rfl, hb1⟩
      have HB1 := Lib.hid (HB.out.trans (hb1.mono hbs))
      clear hb1
      generalize itB x = it at HS hi
      have e1 : (it ++ (⟨#[32]⟩ : ByteArray)).size = it.size + 1 := size_app _ _
      have e2 : (sk ++ (it ++ (⟨#[32]⟩ : ByteArray))).size = sk.size + (it.size + 1) := by rw [size_app, e1]
      go_wp2_with fail
      refine ⟨⟨k + 1, by omega, by rw [Int.natCast_add]; rfl, by rw [HS.out], by rw [HS.out, e2]; omega, HB1⟩, ?_⟩
      show xs.length - ((k : Int) + 1).toNat < xs.length - (k : Int).toNat
      omega
    · have hk' : k = xs.length := by omega
      subst hk'
      rw [List.take_length] at hsz ⊢
      have e1 : (numS xs ++ (⟨#[93]⟩ : ByteArray)).size = (numS xs).size + 1 := size_app _ _
      generalize hsk : numS xs = sk at hsz e1 ⊢
      go_wp2_with fail
      go_ret
      exact ⟨by rw [hsk]; rfl, HB.out⟩
end Go.Proofs.YtngljoplalihkaaGreatDoor
