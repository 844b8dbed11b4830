/- What the arguments of laws.FnOggHurt hold, out of their readings: a head's fields, a row of pages; how much they are. Conditions: the readings. The row of laws.FnOggHurt of the second form: for every head, every list of pages, every place and every byte it returns true and the arguments read as they did. Conditions: what is read is of a bounded bulk; the row's listed variables read as the row says. -/
import Derived.Test.YtojdfjohmicopaaGreatDoorMp
import Derived.Test.YtojdfjohmicopaaGreatDoorRows
import Derived.Deep.Slices
import Derived.Deep.Fields
import Derived.ProofKit
import Derived.OpenShut
import Derived.Test.YtojdfjohmicopaaGreatDoorTie
import Derived.Test.YtojdfjohmicopaaGreatDoorMv
import Derived.Test.YtojdfjohmicopaaGreatDoorMw
import Derived.LaidMore
import Derived.Deep.DeepHandedRow
import Derived.Stop.LaidTwo
import Derived.Below
import Derived.MakeChecks
import Derived.Lay
namespace Go.Proofs.YtojdfjohmicopaaGreatDoor
open Go Go.RowKit Go.WideShapes Go.ChangeShapes Go.Deep Go.Proofs.YtojdfjohmicopaaGreatDoorW.PrintWords Go.Proofs.YtojdfjohmicopaaGreatDoor.PFnOggHurt

section
variable {H : Type} {enc : TypeId × Value → H} {P : Program} {w : World} {base : Nat} {spare : Nat → Bool} {held : Bool}

theorem bulk_one (d : DataW H) : 1 ≤ Rows.uptoBulk d := by
  cases d with
  | lit l => cases l <;> simp [Rows.uptoBulk]
  | nil => simp [Rows.uptoBulk]
  | ptr d => simp [Rows.uptoBulk]
  | slice elems spare => simp [Rows.uptoBulk]
  | agg parts => simp [Rows.uptoBulk]
  | iface t d => simp [Rows.uptoBulk]
  | map entries => simp [Rows.uptoBulk]
  | held h => simp [Rows.uptoBulk]
theorem bulkAll_len (l : List (DataW H)) : l.length ≤ Rows.uptoBulkAll l := by
  induction l with
  | nil => simp [Rows.uptoBulkAll]
  | cons x r ih => have := bulk_one x; simp only [Rows.uptoBulkAll, List.length_cons]; omega
theorem bulkAll_map {α : Type} (f : α → DataW H) (b : α → Nat) : ∀ l : List α, (∀ a ∈ l, b a ≤ Rows.uptoBulk (f a)) → (l.map b).sum ≤ Rows.uptoBulkAll (l.map f)
  | [], _ => by simp [Rows.uptoBulkAll]
  | a :: l, h => by
    have h1 := h a List.mem_cons_self
    have h2 := bulkAll_map f b l (fun x hx => h x (List.mem_cons_of_mem _ hx))
    simp only [List.map_cons, List.sum_cons, Rows.uptoBulkAll]
    omega

/-- A slice opened as a row of elements of one kind; how much it is. -/
theorem open_rowK {α : Type} [Inhabited α] (d : Kd α) (bw : α → Nat) {t e : TypeId} {fuel : Nat} {cs : List Value} {x : DataW H × List MemPlace} (ht : P.underlying t = some (.slice e)) (hC : P.cellsOf e = d.sz)
    (hel : ∀ (n : Nat) (cs : List Value) (y : DataW H × List MemPlace), DataW.trod enc P w base spare held n e cs = some y → ∃ v, d.K w v cs ∧ bw v ≤ Rows.uptoBulk y.1)
    (h : DataW.trod enc P w base spare held fuel t cs = some x) :
    ∃ (A : Option Addr) (l : List α) (c : Nat), cs = [.slice A l.length c] ∧ l.length ≤ c ∧ d.C w A l.length l ∧ (l.map bw).sum + 1 ≤ Rows.uptoBulk x.1 ∧ l.length + 1 ≤ Rows.uptoBulk x.1 := by
  rcases open_slice ht h with ⟨rfl, rfl⟩ | ⟨a, len, cap, m, n, D, Pl, rfl, _, hl, hm, hmm, rfl, hx⟩
  · exact ⟨none, [], 0, rfl, Nat.le_refl _, ⟨rfl, by simp, fun h => absurd h (by simp)⟩, by simp [Rows.uptoBulk], by simp [Rows.uptoBulk]⟩
  · have hlm : len ≤ m := by rw [hmm]; split <;> omega
    have hy : ∀ i, i < len → ∃ v, ∃ cs', w.cells? base (a.add (i * d.sz)) d.sz = some cs' ∧ d.K w v cs' ∧ bw v ≤ Rows.uptoBulk (D i) := fun i hi => by
      obtain ⟨cs', h1, h2⟩ := hx i (by omega)
      rw [hC] at h1
      obtain ⟨v, h3, h4⟩ := hel n cs' _ h2
      exact ⟨v, cs', h1, h3, h4⟩
    obtain ⟨V, hV⟩ := choose_lt (α := α) (p := fun i v => ∃ cs', w.cells? base (a.add (i * d.sz)) d.sz = some cs' ∧ d.K w v cs' ∧ bw v ≤ Rows.uptoBulk (D i)) hy
    refine ⟨some a, (List.range len).map V, cap, by simp, by simpa using hl, ⟨by simp, by unfold maxLen at hm; simp; omega, fun _ => ⟨a, rfl, fun j p hj => ?_⟩⟩, ?_, ?_⟩
    · have hjl : j < len := by simpa using (List.getElem?_eq_some_iff.1 hj).1
      have hp : V j = p := by simpa [hjl] using hj
      subst hp
      obtain ⟨cs', h1, h2, _⟩ := hV j hjl
      obtain ⟨_, h4, h5⟩ := World.cells?_some h1
      refine ⟨cs', h4, h2, fun i u hi => ?_⟩
      have hil : i < d.sz := by have := (List.getElem?_eq_some_iff.1 hi).1; omega
      have h6 := h5 i hil
      rw [Go.Deep.add_add] at h6
      rw [h6, hi]
    · have h1 := bulkAll_map D (fun i => bw (V i)) (List.range len) (fun i hi => by obtain ⟨_, _, _, h⟩ := hV i (List.mem_range.1 hi); exact h)
      simp only [Rows.uptoBulk]
      rw [List.map_map]
      have h2 : (List.map (bw ∘ V) (List.range len)).sum = (List.map (fun i => bw (V i)) (List.range len)).sum := rfl
      omega
    · have h1 := bulkAll_len ((List.range len).map D)
      simp only [Rows.uptoBulk]
      simp only [List.length_map, List.length_range] at h1 ⊢
      omega
theorem el_string {e : TypeId} (hs : P.underlying e = some .string) (n : Nat) (cs : List Value) (y : DataW H × List MemPlace) (h : DataW.trod enc P w base spare held n e cs = some y) : ∃ v, Kd.string.K w v cs ∧ ByteArray.size v ≤ Rows.uptoBulk y.1 := by
  obtain ⟨s, rfl, rfl, _⟩ := DataW.trod_string hs h
  have e : s.data.toList.length = s.size := by rw [Array.length_toList]; rfl
  exact ⟨s, rfl, by simp only [Rows.uptoBulk]; omega⟩
theorem el_int {e : TypeId} {k : IntKind} (hs : P.underlying e = some (.int k)) (n : Nat) (cs : List Value) (y : DataW H × List MemPlace) (h : DataW.trod enc P w base spare held n e cs = some y) : ∃ v : Int, (Kd.int k).K w v cs ∧ 1 ≤ Rows.uptoBulk y.1 := by
  obtain ⟨s, rfl, rfl, _⟩ := DataW.trod_int hs h
  exact ⟨s, rfl, bulk_one _⟩
end

section
variable {H : Type} {enc : TypeId × Value → H} {w : World} {base : Nat} {spare : Nat → Bool} {held : Bool}
instance : Inhabited S47 := ⟨z47⟩
instance : Inhabited ByteArray := ⟨ByteArray.empty⟩
theorem cells47 : Tryz.prog.cellsOf 47 = k47.sz := by kernel_rfl
theorem cells9 : Tryz.prog.cellsOf 9 = Kd.string.sz := by kernel_rfl
theorem cells3 : Tryz.prog.cellsOf 2 = (Kd.int .i64).sz := by kernel_rfl
/-- How much a page is. -/
def pageBw (p : S47) : Nat := max (tot p.f4) p.f4.length
set_option maxRecDepth 100000 in
theorem el_page (n : Nat) (cs : List Value) (y : DataW H × List MemPlace) (h : DataW.trod enc Tryz.prog w base spare held n 47 cs = some y) : ∃ p, k47.K w p cs ∧ pageBw p ≤ Rows.uptoBulk y.1 := by
  obtain ⟨xs, m, _, rfl, hcl, hlen, hg⟩ := DataW.trod_struct Tryz.underlying47 h
  have c6 : Tryz.prog.cellsOf 47 = 6 := by kernel_rfl
  rw [c6] at hcl
  match cs, hcl with
  | [c0, c1, c2, c3, c4, c5], _ =>
    match xs, hlen with
    | [y0, y1, y2, y3, y4, y5], _ =>
      have k22 : Tryz.prog.cellsOf 22 = 1 := by kernel_rfl
      have k42 : Tryz.prog.cellsOf 42 = 1 := by kernel_rfl
      have k3 : Tryz.prog.cellsOf 3 = 1 := by kernel_rfl
      have k45 : Tryz.prog.cellsOf 45 = 1 := by kernel_rfl
      have k4 : Tryz.prog.cellsOf 4 = 1 := by kernel_rfl
      have t0 : DataW.trod enc Tryz.prog w base spare held m 22 [c0] = some y0 := by simpa [k22] using hg 0 _ rfl
      have t1 : DataW.trod enc Tryz.prog w base spare held m 22 [c1] = some y1 := by simpa [k22] using hg 1 _ rfl
      have t2 : DataW.trod enc Tryz.prog w base spare held m 42 [c2] = some y2 := by simpa [k42] using hg 2 _ rfl
      have t3 : DataW.trod enc Tryz.prog w base spare held m 3 [c3] = some y3 := by simpa [k3] using hg 3 _ rfl
      have t4 : DataW.trod enc Tryz.prog w base spare held m 45 [c4] = some y4 := by simpa [k45] using hg 4 _ rfl
      have t5 : DataW.trod enc Tryz.prog w base spare held m 4 [c5] = some y5 := by simpa [k4] using hg 5 _ rfl
      obtain ⟨z0, e0, _, _⟩ := DataW.trod_int Tryz.underlying22 t0
      obtain ⟨z1, e1, _, _⟩ := DataW.trod_int Tryz.underlying22 t1
      obtain ⟨z2, e2, _, _⟩ := DataW.trod_int Tryz.underlying42 t2
      obtain ⟨z3, e3, _, _⟩ := DataW.trod_int Tryz.underlying3 t3
      obtain ⟨A, l, c, e4, hlc, hC, hb1, hb2⟩ := open_rowK Kd.string ByteArray.size Tryz.underlying45 cells9 (fun n cs y h => el_string Tryz.underlying9 n cs y h) t4
      obtain ⟨z5, e5, _⟩ := DataW.trod_bool Tryz.underlying4 t5
      injection e0 with e0
      injection e1 with e1
      injection e2 with e2
      injection e3 with e3
      injection e4 with e4
      injection e5 with e5
      subst e0 e1 e2 e3 e4 e5
      refine ⟨⟨z0, z1, z2, z3, l, z5⟩, k47_mk w ⟨z0, z1, z2, z3, l, z5⟩ hlc hC, ?_⟩
      have h1 : tot l + 1 ≤ Rows.uptoBulk y4.1 := hb1
      have h2 : pageBw ⟨z0, z1, z2, z3, l, z5⟩ ≤ Rows.uptoBulk y4.1 := by
        show max (tot l) l.length ≤ _
        omega
      simp only [List.map_cons, List.map_nil, Rows.uptoBulk, Rows.uptoBulkAll]
      omega
theorem sum_mem {l : List Nat} {n : Nat} (h : n ∈ l) : n ≤ l.sum := by
  induction l with
  | nil => cases h
  | cons x l ih =>
    rw [List.sum_cons]
    rcases List.mem_cons.1 h with rfl | h
    · omega
    · have := ih h; omega
set_option maxRecDepth 100000 in
/-- The pages. -/
theorem open_pages {fuel : Nat} {cs : List Value} {x : DataW H × List MemPlace} (h : DataW.trod enc Tryz.prog w base spare held fuel 26 cs = some x) (hx : Rows.uptoBulk x.1 ≤ 1048576) :
    ∃ (A : Option Addr) (l : List S47) (c : Nat), cs = [.slice A l.length c] ∧ l.length ≤ c ∧ Kd.C k47 w A l.length l ∧ Sized l := by
  obtain ⟨A, l, c, e, hlc, hC, h1, h2⟩ := open_rowK k47 pageBw Tryz.underlying26 cells47 el_page h
  refine ⟨A, l, c, e, hlc, hC, by omega, fun p hp => ?_⟩
  have h3 := sum_mem (List.mem_map.2 ⟨p, hp, rfl⟩ : pageBw p ∈ l.map pageBw)
  unfold pageBw at h3 h1
  constructor <;> omega
set_option maxRecDepth 100000 in
/-- The head. -/
theorem open_head {r : Reach} {b0 : Nat} {v : Value} {d : DataW H} {ps : List MemPlace} (hv : Value.okWide Tryz.prog w r b0 25 v) (h : DataW.Trod enc Tryz.prog w base spare held 25 v d ps) (hx : Rows.uptoBulk d ≤ 1048576) :
    ∃ (z0 z1 z2 z3 z4 z5 z6 z7 : Int) (s : ByteArray) (A : Option Addr) (l : List Int) (c : Nat), v = .agg #[.int .i64 z0, .int .i64 z1, .int .i64 z2, .int .i64 z3, .int .i64 z4, .int .u32 z5, .int .i64 z6, .int .i64 z7, .string s, .slice A l.length c] ∧
      0 ≤ z5 ∧ z5 < 4294967296 ∧ s.size ≤ 1048576 ∧ l.length ≤ c ∧ Kd.C (Kd.int .i64) w A l.length l := by
  obtain ⟨cs, rfl, hsz⟩ := okWide_struct Tryz.underlying25 hv
  obtain ⟨cl⟩ := cs
  have c10 : Tryz.prog.cellsOf 25 = 10 := by kernel_rfl
  match cl, hsz.trans c10 with
  | [c0, c1, c2, c3, c4, c5, c6, c7, c8, c9], _ =>
    obtain ⟨fuel, hf⟩ := h
    obtain ⟨xs, m, _, hx', _, hlen, hg⟩ := DataW.trod_struct Tryz.underlying25 hf
    match xs, hlen with
    | [y0, y1, y2, y3, y4, y5, y6, y7, y8, y9], _ =>
      have k22 : Tryz.prog.cellsOf 22 = 1 := by kernel_rfl
      have k3 : Tryz.prog.cellsOf 3 = 1 := by kernel_rfl
      have k9 : Tryz.prog.cellsOf 9 = 1 := by kernel_rfl
      have k23 : Tryz.prog.cellsOf 23 = 1 := by kernel_rfl
      have t0 : DataW.trod enc Tryz.prog w base spare held m 3 [c0] = some y0 := by simpa [k3, Value.cells] using hg 0 _ rfl
      have t1 : DataW.trod enc Tryz.prog w base spare held m 3 [c1] = some y1 := by simpa [k3, Value.cells] using hg 1 _ rfl
      have t2 : DataW.trod enc Tryz.prog w base spare held m 3 [c2] = some y2 := by simpa [k3, Value.cells] using hg 2 _ rfl
      have t3 : DataW.trod enc Tryz.prog w base spare held m 3 [c3] = some y3 := by simpa [k3, Value.cells] using hg 3 _ rfl
      have t4 : DataW.trod enc Tryz.prog w base spare held m 3 [c4] = some y4 := by simpa [k3, Value.cells] using hg 4 _ rfl
      have t5 : DataW.trod enc Tryz.prog w base spare held m 22 [c5] = some y5 := by simpa [k22, Value.cells] using hg 5 _ rfl
      have t6 : DataW.trod enc Tryz.prog w base spare held m 3 [c6] = some y6 := by simpa [k3, Value.cells] using hg 6 _ rfl
      have t7 : DataW.trod enc Tryz.prog w base spare held m 3 [c7] = some y7 := by simpa [k3, Value.cells] using hg 7 _ rfl
      have t8 : DataW.trod enc Tryz.prog w base spare held m 9 [c8] = some y8 := by simpa [k9, Value.cells] using hg 8 _ rfl
      have t9 : DataW.trod enc Tryz.prog w base spare held m 23 [c9] = some y9 := by simpa [k23, Value.cells] using hg 9 _ rfl
      obtain ⟨z0, e0, _, _⟩ := DataW.trod_int Tryz.underlying3 t0
      obtain ⟨z1, e1, _, _⟩ := DataW.trod_int Tryz.underlying3 t1
      obtain ⟨z2, e2, _, _⟩ := DataW.trod_int Tryz.underlying3 t2
      obtain ⟨z3, e3, _, _⟩ := DataW.trod_int Tryz.underlying3 t3
      obtain ⟨z4, e4, _, _⟩ := DataW.trod_int Tryz.underlying3 t4
      obtain ⟨z5, e5, _, w5⟩ := DataW.trod_int Tryz.underlying22 t5
      obtain ⟨z6, e6, _, _⟩ := DataW.trod_int Tryz.underlying3 t6
      obtain ⟨z7, e7, _, _⟩ := DataW.trod_int Tryz.underlying3 t7
      obtain ⟨s, e8, g8, _⟩ := DataW.trod_string Tryz.underlying9 t8
      obtain ⟨A, l, c, e9, hlc, hC, _, _⟩ := open_rowK (Kd.int .i64) (fun _ => 1) Tryz.underlying23 cells3 (fun n cs y h => el_int Tryz.underlying2 n cs y h) t9
      injection e0 with e0
      injection e1 with e1
      injection e2 with e2
      injection e3 with e3
      injection e4 with e4
      injection e5 with e5
      injection e6 with e6
      injection e7 with e7
      injection e8 with e8
      injection e9 with e9
      subst e0 e1 e2 e3 e4 e5 e6 e7 e8 e9
      have h5 : IntKind.u32.min ≤ z5 ∧ z5 ≤ IntKind.u32.max := by simpa [Lit.wf] using w5
      have m1 : IntKind.u32.min = 0 := by decide
      have m2 : IntKind.u32.max = 4294967295 := by decide
      rw [m1, m2] at h5
      refine ⟨z0, z1, z2, z3, z4, z5, z6, z7, s, A, l, c, rfl, h5.1, by omega, ?_, hlc, hC⟩
      simp only [Prod.mk.injEq] at hx'
      rw [hx'.1] at hx
      simp only [List.map_cons, List.map_nil, Rows.uptoBulk, Rows.uptoBulkAll] at hx
      rw [g8] at hx
      simp only [Rows.uptoBulk] at hx
      have e : s.data.toList.length = s.size := by rw [Array.length_toList]; rfl
      omega
end
end Go.Proofs.YtojdfjohmicopaaGreatDoor
namespace Go.Proofs.YtojdfjohmicopaaGreatDoor
open Go Go.RowKit Go.WideShapes Go.ChangeShapes Go.ChangeAt Go.Proofs.YtojdfjohmicopaaGreatDoorW.PrintWords Go.Proofs.YtojdfjohmicopaaGreatDoor.Crc Go.Proofs.YtojdfjohmicopaaGreatDoor.PFnOggHurt

theorem own : ownKnob Tryz.prog.godebug = none := by kernel_rfl
theorem laidOut : laidOutB Tryz.prog = true := by kernel_rfl
theorem star_err : "*errors.errorString" = "*" ++ "errors.errorString" := by decide
theorem row_err (u : TypeId) (h : Tryz.prog.typeName? 3 u = some "*errors.errorString") : u = 194 :=
  typeName_ptr_named (nm := "errors.errorString") (by rw [← star_err]; kernel_rfl) (by kernel_rfl) (by decide) u (by rw [← star_err]; exact h)
theorem gEof : Tryz.prog.globalNamed "io.EOF" = some 0 := by kernel_rfl
theorem gSum : Tryz.prog.globalNamed "pub-carronade/pub/opus/pkg/oggreader.errChecksumMismatch" = some 4 := by kernel_rfl
theorem gPowT : Tryz.prog.globalNamed "internal/strconv.uint64pow10" = some 5 := by kernel_rfl
theorem tEof : (Tryz.prog.globals[0]?).map (·.type) = some 58 := by kernel_rfl
theorem tSum : (Tryz.prog.globals[4]?).map (·.type) = some 58 := by kernel_rfl
theorem tPowT : (Tryz.prog.globals[5]?).map (·.type) = some 168 := by kernel_rfl

/-- The witness's world: the listed variables laid by law. -/
noncomputable abbrev wit (os : Os) : World := World.laidAll Tryz.prog os Rows.fnOggHurtUptoRow.laid
abbrev witArgs : Array Value := #[.agg #[.int .i64 0, .int .i64 0, .int .i64 0, .int .i64 0, .int .i64 0, .int .u32 0, .int .i64 0, .int .i64 0, .string ⟨#[]⟩, .slice none 0 0], .slice none 0 0, .int .u16 0, .int .u8 0]
abbrev witData (H : Type) : List (DataW H) := [.agg [.lit (.int .i64 0), .lit (.int .i64 0), .lit (.int .i64 0), .lit (.int .i64 0), .lit (.int .i64 0), .lit (.int .u32 0), .lit (.int .i64 0), .lit (.int .i64 0), .lit (.string []), .nil], .nil, .lit (.int .u16 0), .lit (.int .u8 0)]
theorem wit_met (os : Os) (args : Array Value) : laidMetH Tryz.prog Rows.fnOggHurtUptoRow.laid ((wit os).forCall (fun _ _ => 0) ⟨#[], args, []⟩).memory := by
  rw [MakeChecks.laidMetH_plain _ _ _ (by kernel_rfl)]
  exact laidMet_laidAll _ (by as_aux_lemma => kernel_rfl) (by as_aux_lemma => kernel_rfl)
theorem wit_shaped (os : Os) : ((wit os).forCall (fun _ _ => 0) ⟨#[], witArgs, []⟩).Shaped Tryz.prog := World.shaped_of_ZipB (by as_aux_lemma => kernel_rfl) (by as_aux_lemma => kernel_rfl)
theorem wit_ok (os : Os) : Input.okWideB Tryz.prog ((wit os).forCall (fun _ _ => 0) ⟨#[], witArgs, []⟩) 3 ⟨#[], witArgs, []⟩ = true := by kernel_rfl
theorem wit_reads {H : Type} (enc : TypeId × Value → H) (os : Os) : ∃ places, DataW.whole enc Tryz.prog ((wit os).forCall (fun _ _ => 0) ⟨#[], witArgs, []⟩).memory Tryz.f3.params.toList (Rows.OpenSpec.upto Rows.fnOggHurtSpec).vars false witArgs.toList 8 = some (witData H, [], places) := ⟨[], by kernel_rfl⟩
theorem wit_sized {H : Type} (enc : TypeId × Value → H) (os : Os) : (Rows.OpenSpec.upto Rows.fnOggHurtSpec).bare.sizedB enc Tryz.prog Tryz.f3 false ((wit os).forCall (fun _ _ => 0) ⟨#[], witArgs, []⟩).memory witArgs 8 = true := by kernel_rfl

/-- What the condition gives the walk: the two errors, the table. -/
theorem of_laid {W : World} (h : laidMetH Tryz.prog Rows.fnOggHurtUptoRow.laid W) : (∃ pE pF, Errs W pE pF) ∧ Pow W := by
  constructor
  · have h2 := laidMetH.filter (fun x => x.1 == "io.EOF" || x.1 == "pub-carronade/pub/opus/pkg/oggreader.errChecksumMismatch") h
    rw [MakeChecks.laidMetH_plain _ _ _ (by kernel_rfl)] at h2
    have h3 : laidMet Tryz.prog [("io.EOF", Rows.laid_io_EOF), ("pub-carronade/pub/opus/pkg/oggreader.errChecksumMismatch", Rows.laid_pub_carronade_pub_opus_pkg_oggreader_errChecksumMismatch)] W := h2
    obtain ⟨a0, a1, s0, s1, c0, c1, t0, t1, hv0, hv1, _, _, _, _, _, _, hne, hb0, hb1⟩ := laid_sentinels2 h3 gEof tEof gSum tSum Tryz.underlying58 row_err Tryz.underlying194 Tryz.underlying211 rfl rfl Tryz.underlying9 (by kernel_rfl) (by kernel_rfl)
    exact ⟨a1, a0, World.var?_cell gSum hv1 0, World.var?_cell gEof hv0 0, fun e => hne e.symm, ⟨_, _, hb1⟩, ⟨_, _, hb0⟩⟩
  · rw [MakeChecks.laidMetH_plain _ _ _ (by kernel_rfl)] at h
    have h2 : laidMet Tryz.prog (("internal/strconv.uint64pow10", Lib.tabData .u64 Lib.pow10Tab) :: Rows.fnOggHurtUptoRow.laid.tail.tail.tail) W := h.tail.tail
    exact Lib.tabIs_of_head gPowT tPowT Tryz.underlying168 Tryz.underlying42 (by kernel_rfl) (by kernel_rfl) h2
theorem size_of_tab {W : World} (h : Pow W) : 5 < W.heap.size := by
  have h' : W.var? Tryz.prog "internal/strconv.uint64pow10" = some _ := h
  exact World.block_lt_of_cell? W ⟨5, 0, none⟩ (World.var?_cell gPowT h' 0)

set_option maxRecDepth 100000 in
set_option maxHeartbeats 4000000 in
theorem contract (H : Type) (enc : TypeId × Value → H) (W : World) (base : Nat) (args : Array Value) (ds gs : List (DataW H)) (before : List MemPlace)
    (hval0 : ∀ (j : Nat) t v, Tryz.f3.params[j]? = some t → args[j]? = some v → Value.okWide Tryz.prog W .any base t v)
    (hW : DataW.Whole enc Tryz.prog Tryz.f3.params.toList Rows.fnOggHurtSpec.vars false W args.toList ds gs before) (hk : Rows.uptoSmall H (ds ++ gs) = true) (hL : laidMetH Tryz.prog Rows.fnOggHurtUptoRow.laid W) :
    Calls Tryz.prog 3 args W fun e W' => ∃ v, e = .returned v ∧ Rows.fnOggHurtSpec.post enc Tryz.prog Tryz.f3 false true false false W args v W' := by
  have hval : ∀ (j : Nat) t v, Tryz.f3.params[j]? = some t → args[j]? = some v → Value.okWide Tryz.prog W .any base t v := hval0
  have hW' := hW
  obtain ⟨p, q, hA0, hV, rfl, hfz, hnd⟩ := hW
  have hA : DataW.TrodAll enc Tryz.prog W 0 (fun _ => true) true Tryz.f3.params.toList args.toList ds p := hA0
  rw [Tryz.params3] at hA hval
  obtain ⟨v0, vs0, d0, ds0, p0, q0, hargs, rfl, rfl, h0, r0⟩ := trodAll_cons hA
  obtain ⟨v1, vs1, d1, ds1, p1, q1, rfl, rfl, rfl, h1, r1⟩ := trodAll_cons r0
  obtain ⟨v2, vs2, d2, ds2, p2, q2, rfl, rfl, rfl, h2, r2⟩ := trodAll_cons r1
  obtain ⟨v3, vs3, d3, ds3, p3, q3, rfl, rfl, rfl, h3, r3⟩ := trodAll_cons r2
  obtain ⟨rfl, rfl, rfl⟩ := trodAll_nil r3
  obtain rfl : args = #[v0, v1, v2, v3] := by cases args; simp_all
  obtain ⟨rfl, rfl⟩ := trodVars_none hV
  have hk' : Rows.uptoBulkAll ([d0, d1, d2, d3] ++ []) ≤ 1048576 := of_decide_eq_true hk
  simp only [List.append_nil, Rows.uptoBulkAll] at hk'
  have lt0 : ∀ x ∈ p0, x.block < W.heap.size := by obtain ⟨m, hm⟩ := h0; exact DataW.trod_lt m _ _ _ hm
  have lt1 : ∀ x ∈ p1, x.block < W.heap.size := by obtain ⟨m, hm⟩ := h1; exact DataW.trod_lt m _ _ _ hm
  have lt2 : ∀ x ∈ p2, x.block < W.heap.size := by obtain ⟨m, hm⟩ := h2; exact DataW.trod_lt m _ _ _ hm
  have lt3 : ∀ x ∈ p3, x.block < W.heap.size := by obtain ⟨m, hm⟩ := h3; exact DataW.trod_lt m _ _ _ hm
  have k0 := h0
  have k1 := h1
  have k2 := h2
  have k3 := h3
  obtain ⟨z0, z1, z2, z3, z4, z5, z6, z7, s, A, Ms, cM, rfl, hr0, hr1, hs, hlM, hCM⟩ := open_head (hval 0 25 v0 rfl rfl) h0 (by omega)
  obtain ⟨a1, len1, cap1, rfl⟩ := okWide_slice Tryz.underlying26 (hval 1 26 v1 rfl rfl)
  obtain ⟨f1, hf1⟩ := h1
  obtain ⟨B, ps, cB, e1, hlB, hCB, hS⟩ := open_pages hf1 (by show Rows.uptoBulk d1 ≤ 1048576; omega)
  simp only [Value.cells, List.cons.injEq, Value.slice.injEq, and_true] at e1
  obtain ⟨rfl, rfl, rfl⟩ := e1
  obtain ⟨x, rfl, e2, e3, wx⟩ := open_int Tryz.underlying27 (hval 2 27 v2 rfl rfl) h2
  obtain ⟨y, rfl, e4, e5, wy⟩ := open_int Tryz.underlying5 (hval 3 5 v3 rfl rfl) h3
  have hx : 0 ≤ x ∧ x < 65536 := by
    have h1 : IntKind.u16.min ≤ x ∧ x ≤ IntKind.u16.max := by simpa [Lit.wf] using wx
    have m1 : IntKind.u16.min = 0 := by decide
    have m2 : IntKind.u16.max = 65535 := by decide
    rw [m1, m2] at h1
    omega
  have hy : 0 ≤ y ∧ y < 256 := by
    have h1 : IntKind.u8.min ≤ y ∧ y ≤ IntKind.u8.max := by simpa [Lit.wf] using wy
    have m1 : IntKind.u8.min = 0 := by decide
    have m2 : IntKind.u8.max = 255 := by decide
    rw [m1, m2] at h1
    omega
  obtain ⟨⟨pE, pF, hE⟩, hT⟩ := of_laid hL
  refine (hurt_any z0 z1 z2 z3 z4 z5 z6 z7 s A Ms cM (fun w => head_any z0 z1 z2 z3 z4 z5 z6 z7 s A Ms.length cM hr0 hr1 hs w) W _ _ ps hS hCB hlB hCM hlM x y hx.1 hx.2 hy.1 hy.2 pE pF hE hT (size_of_tab hT)).mono fun e W' ⟨he, bel⟩ => ?_
  subst he
  exact ⟨_, rfl, _, _, _, [], _, [], hW', trodAll_mk1 (shut_bool Tryz.underlying4 _),
    trodAll_cons_mk (Below.trod laidOut (by kernel_rfl) (of_decide_eq_true (by kernel_rfl)) k0 bel lt0) (trodAll_cons_mk (Below.trod laidOut (by kernel_rfl) (of_decide_eq_true (by kernel_rfl)) k1 bel lt1) (trodAll_cons_mk (Below.trod laidOut (by kernel_rfl) (of_decide_eq_true (by kernel_rfl)) k2 bel lt2) (trodAll_cons_mk (Below.trod laidOut (by kernel_rfl) (of_decide_eq_true (by kernel_rfl)) k3 bel lt3) trodAll_mk0))), rfl, bel.frame _, fun h => by cases h⟩

set_option maxRecDepth 100000 in
theorem lifted (os : Os) (started : os.Started) (H : Type) (enc : TypeId × Value → H) (F : Stop.Interp) :
    ReturnsInHanded {} Tryz.checked os 3 .any ((Rows.OpenSpec.upto Rows.fnOggHurtSpec).preRow enc Tryz.prog Tryz.f3 Rows.fnOggHurtUptoRow.domain false Rows.fnOggHurtUptoRow.laid) (((Rows.OpenSpec.upto Rows.fnOggHurtSpec).at F).post enc Tryz.prog Tryz.f3 false true false false) := by
  obtain ⟨places, hx⟩ := wit_reads enc os
  refine returnsInHanded_of_row (C := Tryz.checked) (s := Rows.OpenSpec.upto Rows.fnOggHurtSpec) own started (by kernel_rfl) Tryz.func3
    ⟨wit os, fun _ _ => 0, ⟨#[], witArgs, []⟩, World.laidAll_os _ _ _, wit_shaped os, (Input.okWide_of_okWideB (base := 0) (wit_ok os)).1, (Input.okWide_of_okWideB (wit_ok os)).2,
      OpenSpec.preRow_of_cond 8 hx (by kernel_rfl) (fun k hk => by cases hk; kernel_rfl) (wit_sized enc os) (wit_met os _), by
        simp only [Assume.holds]
        exact ⟨by simp, by simp, fun _ => Modest.zero, by simp, by simp⟩⟩ ?_
  intro W base args ds gs before hval hW _ hcond _ hL _ _
  exact contract H enc W base args ds gs before hval hW (hcond _ rfl) hL

theorem saidUpto : Rows.FnOggHurtUptoSaid :=
  OpenClaim.holds_of_cond 3 Tryz.f3 rfl rfl rfl rfl rfl rfl rfl ⟨rfl, rfl, rfl, rfl, rfl⟩ rfl rfl rfl rfl rfl (by kernel_rfl) Tryz.func3 (by kernel_rfl)
    (of_decide_eq_true (by kernel_rfl)) (by unfold Func.isWrapper; first | (rw [if_pos (by decide +kernel)]; kernel_rfl) | (rw [if_neg (by decide +kernel)]; exact ⟨rfl, rfl⟩))
    (fun os started H enc _ F => by rw [OpenClaim.pre_eq_preRow]; exact lifted os started H enc F)
end Go.Proofs.YtojdfjohmicopaaGreatDoor
