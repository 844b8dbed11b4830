/- The walk of laws.FnTables: it returns true for every byte. Conditions: bandEdges and the library's table of powers of ten hold what their initialisers lay. -/
import Derived.Test.YtngljoplalihkaaGreatDoorBfTable
import Derived.Test.YtngljoplalihkaaGreatDoorAjAlive
namespace Go.Proofs.YtngljoplalihkaaGreatDoor
open Go Go.RowKit Go.Proofs.YtngljoplalihkaaGreatDoorW.PrintWords

/-- What the law asks of a list, taken apart. -/
structure Ok (L : List Int) : Prop where
  three : 3 ≤ L.length
  thousand : L.length ≤ 1000
  word : ∀ k, k < L.length → 0 ≤ L.getD k 0 ∧ L.getD k 0 ≤ 65535
  two : 2 ≤ L.getD 0 0
  top : L.getD 0 0 ≤ 256
  pow : L.getD 0 0 ∈ ([4, 32, 128, 256] : List Int)
  last : L.getD (L.length - 1) 0 = L.getD 0 0
  up : ∀ k, k < L.length → 2 ≤ k → L.getD (k - 1) 0 ≤ L.getD k 0
theorem ok_of {L : List Int} (h : okL L = true) : Ok L := by
  unfold okL at h
  simp only [Bool.and_eq_true, decide_eq_true_eq, List.all_eq_true, Bool.or_eq_true, List.mem_range] at h
  obtain ⟨⟨⟨⟨⟨⟨⟨h1, h2⟩, h3⟩, h4⟩, h5⟩, hp⟩, h7⟩, h8⟩ := h
  refine ⟨h1, h2, fun k hk => ?_, h4, h5, hp, h7, fun k hk h2k => ?_⟩
  · rw [List.getD_eq_getElem?_getD, List.getElem?_eq_getElem hk]
    exact h3 _ (List.getElem_mem hk)
  · rcases h8 k hk with h | h
    · omega
    · exact h

theorem two_alloc (w : World) (nm : ByteArray) (k : Nat) (h : NAMES[k]? = some nm) :
    Below w.heap.size w ((w.alloc (.cells (NAMES.map Value.string).toArray 9)).alloc (.cells (NAMES.map Value.string).toArray 9)) ∧
    w.heap.size ≤ ((w.alloc (.cells (NAMES.map Value.string).toArray 9)).alloc (.cells (NAMES.map Value.string).toArray 9)).heap.size ∧
    ((w.alloc (.cells (NAMES.map Value.string).toArray 9)).alloc (.cells (NAMES.map Value.string).toArray 9)).cell? ⟨w.heap.size, k, none⟩ = some (.string nm) := by
  have hb := ((Below.refl w.heap.size w).alloc (Nat.le_refl _) (.cells (NAMES.map Value.string).toArray 9)).alloc (((Below.refl w.heap.size w).alloc (Nat.le_refl _) (.cells (NAMES.map Value.string).toArray 9)).size) (.cells (NAMES.map Value.string).toArray 9)
  refine ⟨hb, hb.size, ?_⟩
  rw [((Blk.new w 9 (NAMES.map Value.string).toArray).alloc _).cell k]
  simp [h]

theorem edge_alloc (w wr : World) (hb : Below w.heap.size w wr) : Below w.heap.size w (wr.alloc (.cells (nums .i64 EDG).toArray 2)) ∧ wr.heap.size < (wr.alloc (.cells (nums .i64 EDG).toArray 2)).heap.size ∧
    ∀ k, k < EDG.length → (wr.alloc (.cells (nums .i64 EDG).toArray 2)).cell? ⟨wr.heap.size, k, none⟩ = some (.int .i64 (EDG.getD k 0)) := by
  have B := Blk.new wr 2 (nums .i64 EDG).toArray
  refine ⟨hb.alloc hb.size _, B.lt, fun k hk => ?_⟩
  rw [B.cell k]
  simp [nums, List.getElem?_eq_getElem hk]
set_option maxRecDepth 100000 in
set_option maxHeartbeats 4000000 in
theorem walk_any (x : Int) (w : World) (h0 : 0 ≤ x) (h1 : x < 256) (hE : ∃ t fr, w.heap[0]? = some (.cells (nums .i16 EDG).toArray t fr)) (hsz : 9 < w.heap.size)
    (htab : Lib.TabIs Tryz.prog w "internal/strconv.uint64pow10" .u64 Lib.pow10Tab) :
    Calls Tryz.prog 3 #[.int .u8 x] w fun e w' => e = .returned (.bool true) ∧ Below w.heap.size w w' := by
  have HE := Lib.hid hE; have HT := Lib.hid htab
  clear hE htab
  obtain ⟨L, nm, hnm, hok, hT⟩ := table_at (x % 27).toNat (by omega)
  have HOK := Lib.hid (ok_of hok)
  have HTL := Lib.hid hT
  clear hok hT
  go_enter Tryz.func3, Tryz.ntmps3
  go_wp2_with fail
  refine (chances_any _).mono ?_
  rintro e w1 ⟨rfl, rfl⟩
  go_wp2_with fail
  refine (chances_any _).mono ?_
  rintro e w2 ⟨rfl, rfl⟩
  obtain ⟨hb2, hs2, hc2⟩ := two_alloc w nm _ hnm
  have HB2 := Lib.hid hb2
  clear hb2
  generalize (w.alloc (.cells (NAMES.map Value.string).toArray 9)).alloc (.cells (NAMES.map Value.string).toArray 9) = W2 at HB2 hs2 hc2 ⊢
  go_wp2_with fail
  refine (HTL.out _).mono ?_
  rintro e w3 ⟨g, cap, rfl, hg, hg3, hc3, hb3⟩
  have HB3 := Lib.hid (HB2.out.trans (hb3.mono hs2))
  have HC3 := Lib.hid hc3
  have hs3 := hb3.size
  clear hb3 hc3 hc2
  have c0 := HC3.out 0 (by have := HOK.out.three; omega)
  have cn := HC3.out (L.length - 1) (by have := HOK.out.three; omega)
  rw [HOK.out.last] at cn
  have h3 := HOK.out.three
  have hM := HOK.out.thousand
  have hp := HOK.out.pow
  have hand : bits BinOp.and IntKind.i64 (L.getD 0 0) (L.getD 0 0 - 1) = 0 := by
    have : ∀ a ∈ ([4, 32, 128, 256] : List Int), bits BinOp.and IntKind.i64 a (a - 1) = 0 := by decide +kernel
    exact this _ hp
  have h2 := HOK.out.two
  have h256 := HOK.out.top
  clear hp
  have HUP := Lib.hid HOK.out.up
  have HW := Lib.hid HOK.out.word
  generalize L.getD 0 0 = l0 at c0 cn hand h2 h256
  have d1 : decide ((L.length : Int) < 3) = false := by simp; omega
  have d2 : decide (l0 < 2) = false := by simp; omega
  have d3 : decide (256 < l0) = false := by simp; omega
  go_wp2_with fail
  go_quiet (fail)
  have HB4 := Lib.hid (below_drewN' HB3.out nq)
  have HC4 := Lib.hid (show ∀ (k : Nat), k < L.length → (w3.drewN nq).cell? ⟨g, k, none⟩ = some (.int .i64 (L.getD k 0)) from HC3.out)
  have hg4 : g < (w3.drewN nq).heap.size := hg3
  generalize w3.drewN nq = w4 at HB4 HC4 hg4 ⊢
  clear HB3 HC3 c0 cn hg3 hs3 hnm HTL HB2
  have hwg : w.heap.size ≤ g := Nat.le_trans hs2 hg
  clear hs2 hg
  go_wp2_with fail
  go_loopw [4] (fun i wr => ∃ k : Nat, 2 ≤ k ∧ k ≤ L.length ∧ i = .int .i64 k ∧ Hid (Below w.heap.size w wr) ∧ Hid (∀ (k : Nat), k < L.length → wr.cell? ⟨g, k, none⟩ = some (.int .i64 (L.getD k 0)))) (fun i _ => L.length - (intOf i).toNat)
  case atStart => exact ⟨2, by omega, by omega, rfl, HB4, HC4⟩
  case round =>
    obtain ⟨k, hk2, hk, rfl, HB, HC⟩ := hrel
    by_cases hlt : k < L.length
    · have ck := HC.out k hlt
      have ck1 := HC.out (k - 1) (by omega)
      have hup := HUP.out k hlt hk2
      generalize L.getD k 0 = a at ck hup
      generalize L.getD (k - 1) 0 = b at ck1 hup
      have dl : decide (a < b) = false := by simp; omega
      go_wp2_with fail
      go_quiet (fail)
      have HBn := Lib.hid (below_drewN' HB.out nq)
      have HCn := Lib.hid (show ∀ (k : Nat), k < L.length → (wr.drewN nq).cell? ⟨g, k, none⟩ = some (.int .i64 (L.getD k 0)) from HC.out)
      generalize wr.drewN nq = wn at HBn HCn ⊢
      clear HB HC ck ck1
      go_wp2_with fail
      refine ⟨⟨k + 1, by omega, by omega, by rw [Int.natCast_add]; rfl, HBn, HCn⟩, ?_⟩
      show L.length - ((k : Int) + 1).toNat < L.length - (k : Int).toNat
      omega
    · obtain rfl : k = L.length := by omega
      have hbs := HB.out.size
      clear HC HUP HW hwg hg4 HC4 HB4
      go_wp2_with fail
      obtain ⟨hb5, hs5, hc5⟩ := edge_alloc w wr HB.out
      have HB5 := Lib.hid hb5; have HC5 := Lib.hid hc5
      clear hb5 hc5
      show Calls Tryz.prog _ _ (wr.alloc (.cells (nums .i64 EDG).toArray 2)) _
      generalize wr.alloc (.cells (nums .i64 EDG).toArray 2) = W5 at HB5 HC5 hs5 ⊢
      have hbs5 := HB5.out.size
      refine (T_bandEdges W5 (by obtain ⟨t, fr, h⟩ := HE.out; exact ⟨t, fr, (HB5.out.block 0 (by omega)).trans h⟩)).mono ?_
      rintro e w6 ⟨g6, cap6, rfl, hg6, hg6', hc6, hb6⟩
      have HB6 := Lib.hid (HB5.out.trans (hb6.mono hbs5))
      have hs6 := hb6.size
      have HC5' := Lib.hid (fun k hk => (hb6.cell (p := ⟨wr.heap.size, k, none⟩) hs5).trans (HC5.out k hk))
      have HC6 := Lib.hid hc6
      clear hb6 hc6 HC5
      go_wp2_with fail
      refine (nums_any w6 g6 cap6 EDG (by decide) hg6' (by omega) HC6.out (by decide) (tab_below HT.out HB6.out (by omega))).mono ?_
      rintro e w7 ⟨rfl, hb7⟩
      have HB7 := Lib.hid (HB6.out.trans (hb7.mono (by omega)))
      have hs7 := hb7.size
      have HC7 := Lib.hid (fun k hk => (hb7.cell (p := ⟨wr.heap.size, k, none⟩) (show wr.heap.size < w6.heap.size by omega)).trans (HC5'.out k hk))
      clear hb7 HC5' HC6
      go_wp2_with fail
      refine (nums_any w7 wr.heap.size 22 EDG (by decide) (by omega) (by omega) HC7.out (by decide) (tab_below HT.out HB7.out (by omega))).mono ?_
      rintro e w8 ⟨rfl, hb8⟩
      have HB8 := Lib.hid (HB7.out.trans (hb8.mono (by omega)))
      have hs8 := hb8.size
      clear hb8 HC7
      generalize numS EDG ++ (⟨#[93]⟩ : ByteArray) = sE
      go_wp2_with fail
      refine (alive_any w8).mono ?_
      rintro e w9 ⟨rfl, hb9⟩
      have HB9 := Lib.hid (HB8.out.trans (hb9.mono (by omega)))
      clear hb9
      go_wp2_with fail
      go_ret
      exact ⟨rfl, HB9.out⟩
end Go.Proofs.YtngljoplalihkaaGreatDoor
