/- The row of laws.FnTables: for every byte it returns true and the argument reads as it did. Condition: the row's listed variables read as the row says. -/
import Derived.Test.YtngljoplalihkaaGreatDoorRows
import Derived.Test.YtngljoplalihkaaGreatDoorTie
import Derived.Test.YtngljoplalihkaaGreatDoorBgFn
import Derived.ProofKit
import Derived.LaidMore
import Derived.OpenShut
import Derived.Stop.Joined
import Derived.Stop.LaidErr
import Derived.Below
import Derived.ChangeSame
import Derived.MakeChecks
import Derived.Lay
namespace Go.Proofs.YtngljoplalihkaaGreatDoor
open Go Go.RowKit Go.WideShapes Go.ChangeShapes Go.ChangeAt Go.Proofs.YtngljoplalihkaaGreatDoorW.PrintWords

section
variable {H : Type} {enc : TypeId × Value → H} {P : Program}
theorem post_of_below {f : Func} {s : ChangeSpec} {apart fresh handsOn again : Bool} {W W' : World} {args : Array Value} {v : Value} {ds gs : List (DataW H)} {before pa pv : List MemPlace}
    (hW : DataW.Whole enc P f.params.toList s.vars apart W args.toList ds gs before)
    (hres : ∀ (b : Nat) (sp : Nat → Bool) (hd : Bool), DataW.TrodAll enc P W' b sp hd f.resultTypes.toList (v.resultList f.resultTypes.size) (s.fn H (ds ++ gs)).results [])
    (hargs : ∀ sp : Nat → Bool, (∀ p ∈ before, sp p.block = true) → DataW.TrodAll enc P W' 0 sp true f.params.toList args.toList (s.fn H (ds ++ gs)).args pa)
    (hvars : ∀ sp : Nat → Bool, (∀ p ∈ before, sp p.block = true) → DataW.TrodVars enc P W' sp s.vars (s.fn H (ds ++ gs)).vars pv)
    (hps : before = pa ++ pv) (hb : Below W.heap.size W W')
    (hok : ∀ (j : Nat) (t : TypeId) (r : Value), f.resultTypes[j]? = some t → (v.resultList f.resultTypes.size)[j]? = some r → Value.okWide P W' .any 0 t r) :
    s.post enc P f apart fresh handsOn again W args v W' := by
  have hlt : ∀ p ∈ before, p.block < W.heap.size := fun p hp => hW.lt p hp
  have hold : ∀ p ∈ before, (fun b => decide (b < W.heap.size)) p.block = true := fun p hp => by simpa using hlt p hp
  refine ⟨ds, gs, before, [], pa, pv, hW, hres _ _ _, hargs _ hold, hvars _ hold, World.keptBut_mono (fun p hp => ⟨hp, ?_⟩) (hb.frame (· ∈ before)), fun _ => ?_⟩
  · rw [hps, List.mem_append] at hp
    exact Or.inr hp
  · obtain ⟨_, _, _, _, _, hz, hn⟩ := hW
    refine ⟨hok, _, _, ([] ++ pa) ++ pv, ⟨[] ++ pa, pv, trodAll_append (hargs _ (fun _ _ => rfl)) (hres _ _ _), hvars _ (fun _ _ => rfl), rfl, ?_, ?_⟩, ?_⟩
    · intro b off hp
      have hin : MemPlace.cell b off ∈ before := by rw [hps]; simpa using hp
      rw [hb.frozen (hlt _ hin)]
      exact hz b off hin
    · intro ha
      have := hn ha
      rw [hps] at this
      simpa using this
    · intro p hp _
      rw [hps]
      simpa using hp
end

theorem own : ownKnob Tryz.prog.godebug = none := by kernel_rfl
theorem gEdge : Tryz.prog.globalNamed "pub-carronade/pub/opus/inner/celt.bandEdges" = some 0 := by kernel_rfl
theorem tEdge : (Tryz.prog.globals[0]?).map (·.type) = some 71 := by kernel_rfl
theorem tPow : (Tryz.prog.globals[9]?).map (·.type) = some 124 := by kernel_rfl

/-- The witness's world: the listed variables laid by law; three closed facts. -/
noncomputable abbrev wit (os : Os) : World := World.laidAll Tryz.prog os Rows.fnTablesRow.laid
theorem wit_met (os : Os) (args : Array Value) : laidMetH Tryz.prog Rows.fnTablesRow.laid ((wit os).forCall (fun _ _ => 0) ⟨#[], args, []⟩).memory := by
  rw [MakeChecks.laidMetH_plain _ _ _ (by kernel_rfl)]
  exact laidMet_laidAll _ (by as_aux_lemma => kernel_rfl) (by as_aux_lemma => kernel_rfl)
theorem wit_shaped (os : Os) : ((wit os).forCall (fun _ _ => 0) ⟨#[], #[.int .u8 0], []⟩).Shaped Tryz.prog := World.shaped_of_ZipB (by as_aux_lemma => kernel_rfl) (by as_aux_lemma => kernel_rfl)
theorem wit_ok (os : Os) : Input.okWideB Tryz.prog ((wit os).forCall (fun _ _ => 0) ⟨#[], #[.int .u8 0], []⟩) 3 ⟨#[], #[.int .u8 0], []⟩ = true := by kernel_rfl
theorem wit_pre {H : Type} (enc : TypeId × Value → H) (os : Os) : Rows.fnTablesSpec.preB enc Tryz.prog Tryz.f3 [] false ((wit os).forCall (fun _ _ => 0) ⟨#[], #[.int .u8 0], []⟩).memory #[.int .u8 0] 8 = true := by kernel_rfl
theorem wit_sized {H : Type} (enc : TypeId × Value → H) (os : Os) : Rows.fnTablesSpec.sizedB enc Tryz.prog Tryz.f3 false ((wit os).forCall (fun _ _ => 0) ⟨#[], #[.int .u8 0], []⟩).memory #[.int .u8 0] 8 = true := by kernel_rfl

/-- What the condition gives the walk: the two tables. -/
theorem of_laid {W : World} (h : laidMetH Tryz.prog Rows.fnTablesRow.laid W) : (∃ t fr, W.heap[0]? = some (.cells (nums .i16 EDG).toArray t fr)) ∧ Lib.TabIs Tryz.prog W "internal/strconv.uint64pow10" .u64 Lib.pow10Tab := by
  rw [MakeChecks.laidMetH_plain _ _ _ (by kernel_rfl)] at h
  have h2 : laidMet Tryz.prog [("internal/strconv.uint64pow10", Rows.laid_internal_strconv_uint64pow10), ("pub-carronade/pub/opus/inner/celt.bandEdges", Rows.laid_pub_carronade_pub_opus_inner_celt_bandEdges)] W := h.tail.tail
  refine ⟨heap_of_tab (name := "pub-carronade/pub/opus/inner/celt.bandEdges") (k := .i16) (zs := EDG) (g := 0) ?_ gEdge, ?_⟩
  · exact Lib.tabIs_of_head gEdge tEdge Tryz.underlying71 (by kernel_rfl) (by kernel_rfl) (by kernel_rfl) (show laidMet Tryz.prog [("pub-carronade/pub/opus/inner/celt.bandEdges", Lib.tabData .i16 EDG)] W from h2.tail)
  · exact Lib.tabIs_of_head gPow tPow Tryz.underlying124 (by kernel_rfl) (by kernel_rfl) (by kernel_rfl) (show laidMet Tryz.prog [("internal/strconv.uint64pow10", Lib.tabData .u64 Lib.pow10Tab), ("pub-carronade/pub/opus/inner/celt.bandEdges", Rows.laid_pub_carronade_pub_opus_inner_celt_bandEdges)] W from h2)

theorem size_of_tab {W : World} (h : Lib.TabIs Tryz.prog W "internal/strconv.uint64pow10" .u64 Lib.pow10Tab) : 9 < W.heap.size := by
  obtain ⟨t, fr, he⟩ := heap_of_tab h gPow
  exact (Array.getElem?_eq_some_iff.mp he).1

set_option maxRecDepth 100000 in
theorem lifted (os : Os) (started : os.Started) (H : Type) (enc : TypeId × Value → H) :
    ReturnsInHanded {} Tryz.checked os 3 .any (fun w args => (Rows.fnTablesSpec.pre enc Tryz.prog Tryz.f3 [] false w args ∧ laidMetH Tryz.prog Rows.fnTablesRow.laid w) ∧ sizedMet enc Tryz.prog Tryz.f3 (OpenSpec.ofChange Rows.fnTablesSpec) false w args)
      (Rows.fnTablesSpec.post enc Tryz.prog Tryz.f3 false true false false) := by
  refine returnsInHanded_of_change_and (C := Tryz.checked) (X := fun w _ => laidMetH Tryz.prog Rows.fnTablesRow.laid w) (fun _ _ _ hh h => h.of_heap hh) own started (by kernel_rfl) Tryz.func3
    (ChangeSpec.witness_shaped (enc := enc) (C := Tryz.checked) (os := os) (X := fun w _ => laidMetH Tryz.prog Rows.fnTablesRow.laid w) false (wit os) #[.int .u8 0] 8 (World.laidAll_os _ _ _) (wit_shaped os) (wit_ok os) (wit_pre enc os) (wit_sized enc os) (wit_met os _)) ?_
  intro W base args ds gs before hval0 hW _ _ hL _
  have hval : ∀ (j : Nat) t v, Tryz.f3.params[j]? = some t → args[j]? = some v → Value.okWide Tryz.prog W .any base t v := hval0
  have hW' := hW
  obtain ⟨p, q, hA0, hV, rfl, hfz, hnd⟩ := hW
  have hA : DataW.TrodAll enc Tryz.prog W 0 (fun _ => true) true Tryz.f3.params.toList args.toList ds p := hA0
  rw [Tryz.params3] at hA hval
  obtain ⟨v0, d0, rfl, rfl, h0⟩ := trodAll_one hA
  obtain ⟨rfl, rfl⟩ := trodVars_none hV
  obtain ⟨x, rfl, rfl, rfl, wx⟩ := open_int Tryz.underlying5 (hval 0 5 v0 rfl rfl) h0
  obtain ⟨hE, hT⟩ := of_laid hL
  clear hA0 hval0
  simp only [List.append_nil] at hW'
  have hx : 0 ≤ x ∧ x < 256 := by
    have h1 : IntKind.u8.min ≤ x ∧ x ≤ IntKind.u8.max := by simpa [Lit.wf] using wx
    have e1 : IntKind.u8.min = 0 := by decide
    have e2 : IntKind.u8.max = 255 := by decide
    rw [e1, e2] at h1
    omega
  refine (walk_any x W hx.1 hx.2 hE (size_of_tab hT) hT).mono fun e W' ⟨he, hb⟩ => ?_
  subst he
  exact ⟨_, rfl, post_of_below (pa := []) (pv := []) hW' (fun _ _ _ => trodAll_mk1 (shut_bool Tryz.underlying4 _)) (fun sp _ => trodAll_mk1 (shut_int Tryz.underlying5 wx)) (fun _ _ => rfl) rfl hb (ok_one (by kernel_rfl) rfl (okWide_bool_mk Tryz.underlying4 _))⟩

theorem fnTables_holds : Rows.FnTablesSaid :=
  OpenClaim.holds_of_wide 3 Tryz.f3 rfl rfl rfl rfl rfl rfl rfl ⟨rfl, rfl, rfl, rfl, rfl⟩ rfl rfl rfl rfl rfl (by kernel_rfl) Tryz.func3 (by kernel_rfl)
    (of_decide_eq_true (by kernel_rfl)) (by unfold Func.isWrapper; first | (rw [if_pos (by decide +kernel)]; kernel_rfl) | (rw [if_neg (by decide +kernel)]; exact ⟨rfl, rfl⟩))
    (fun os started H enc _ => lifted os started H enc)
end Go.Proofs.YtngljoplalihkaaGreatDoor
