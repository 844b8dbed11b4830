/- A contract of spec.headText where its numbers fit: what it writes is a head's packet. Condition: the numbers are of their kinds. A contract of spec.headText: what it writes is a head's packet, for every head. Condition: the rate is of its kind, the mapping is of a bounded size. -/
import Derived.Test.YtojdfjohmicopaaGreatDoorMn
import Derived.Test.YtojdfjohmicopaaGreatDoorMo
namespace Go.Proofs.YtojdfjohmicopaaGreatDoor
open Go Go.RowKit Go.Proofs.YtojdfjohmicopaaGreatDoorW.PrintWords Go.Proofs.YtojdfjohmicopaaGreatDoor.Crc Go.Proofs.YtojdfjohmicopaaGreatDoor.PFnOggHurt

theorem told_c (b : Bool) (w : World) : Calls Tryz.prog 65 #[.bool b] w fun e w' => (∃ c : Int, e = .returned (.int .i64 c) ∧ (c = 1 ∨ c = 2)) ∧ w = w' := (told_any b w).mono fun e w' h => ⟨⟨_, h.1, by cases b <;> simp⟩, h.2⟩
/-- The first part of a head's text. -/
def Text1 (v ch mp : Int) (s : ByteArray) : Prop := ∃ T1 T2 T3 : ByteArray, T1.size = 2 ∧ T2.size = 4 ∧ T3.size = 2 ∧ s = (((((⟨#[79, 112, 117, 115, 72, 101, 97, 100]⟩ : ByteArray) ++ strOfNums [v, ch]) ++ T1) ++ T2) ++ T3) ++ strOfNums [mp]

/-- Behind the first statement. -/
def HCut (w : World) (g : Nat) (v ch mp pre gn rate st co : Int) (mapg : ByteArray) (vm : Value) (v4 : Value) (W : World) : Prop := ∃ s, v4 = .string s ∧ Text1 v ch mp s ∧ Blk W g 25 #[.int .i64 v, .int .i64 ch, .int .i64 mp, .int .i64 pre, .int .i64 gn, .int .u32 rate, .int .i64 st, .int .i64 co, .string mapg, vm] ∧ Below w.heap.size w W

theorem text1_bytes {v ch mp : Int} {s : ByteArray} (h : Text1 v ch mp s) (hv0 : 0 ≤ v) (hv1 : v ≤ 255) (hc0 : 1 ≤ ch) (hc1 : ch ≤ 255) (hm0 : 0 ≤ mp) (hm1 : mp ≤ 255) :
    ∃ X : List Int, X.length = 8 ∧ bytesOf s = [79, 112, 117, 115, 72, 101, 97, 100, v, ch] ++ (X ++ [mp]) := by
  obtain ⟨T1, T2, T3, h1, h2, h3, rfl⟩ := h
  refine ⟨bytesOf T1 ++ bytesOf T2 ++ bytesOf T3, ?_, ?_⟩
  · simp [bytesOf, h1, h2, h3]
  · rw [bytesOf_append, bytesOf_append, bytesOf_append, bytesOf_append, bytesOf_append, bytesOf_str (xs := [v, ch]) (by intro x hx; simp at hx; omega), bytesOf_str (xs := [mp]) (by intro x hx; simp at hx; omega)]
    simp only [List.append_assoc]
    rfl
theorem text1_size {v ch mp : Int} {s : ByteArray} (h : Text1 v ch mp s) : s.size = 19 := by
  obtain ⟨T1, T2, T3, h1, h2, h3, rfl⟩ := h
  have sA : (strOfNums [v, ch]).size = 2 := strOfNums_size _
  have sB : (strOfNums [mp]).size = 1 := strOfNums_size _
  have s0 : (⟨#[79, 112, 117, 115, 72, 101, 97, 100]⟩ : ByteArray).size = 8 := rfl
  simp only [ByteArray.size_append, h1, h2, h3, sA, sB, s0]
theorem head_pk0 {v ch : Int} {s : ByteArray} (h : Text1 v ch 0 s) (hv0 : 0 ≤ v) (hv1 : v ≤ 255) (hc0 : 1 ≤ ch) (hc1 : ch ≤ 255) : HeadPk (bytesOf s) ∧ s.size ≤ 300 := by
  obtain ⟨X, hX, hs⟩ := text1_bytes h hv0 hv1 hc0 hc1 (by omega) (by omega)
  have hl : (bytesOf s).length = 19 := by rw [hs]; simp [hX]
  have hz : (bytesOf s).length = s.size := by simp [bytesOf]
  refine ⟨⟨bytesOf_bytes _, by omega, ?_, ?_, .inl ⟨?_, hl⟩⟩, by omega⟩
  · rw [hs]; exact hc0
  · rw [hs]; rfl
  · rw [hs]
    simp [List.getD_eq_getElem?_getD, List.getElem?_append_right, hX]
theorem head_pk1 {v ch mp st co : Int} {s mapg : ByteArray} (h : Text1 v ch mp s) (hv0 : 0 ≤ v) (hv1 : v ≤ 255) (hc0 : 1 ≤ ch) (hc1 : ch ≤ 255) (hm : mp = 1 ∨ mp = 255) (hg : (mapg.size : Int) = ch) :
    HeadPk (bytesOf (s ++ strOfNums [st, co] ++ mapg)) ∧ (s ++ strOfNums [st, co] ++ mapg).size ≤ 300 := by
  obtain ⟨X, hX, hs⟩ := text1_bytes h hv0 hv1 hc0 hc1 (by omega) (by omega)
  have hl1 : (bytesOf s).length = 19 := by rw [hs]; simp [hX]
  have hz1 : (bytesOf s).length = s.size := by simp [bytesOf]
  have hz2 : (strOfNums [st, co]).size = 2 := strOfNums_size _
  have hl : (bytesOf (s ++ strOfNums [st, co] ++ mapg)).length = 21 + mapg.size := by
    have : (bytesOf (s ++ strOfNums [st, co] ++ mapg)).length = (s ++ strOfNums [st, co] ++ mapg).size := by simp [bytesOf, Nat.add_assoc]
    rw [this, ByteArray.size_append, ByteArray.size_append]; omega
  have hz : (bytesOf (s ++ strOfNums [st, co] ++ mapg)).length = (s ++ strOfNums [st, co] ++ mapg).size := by simp [bytesOf, Nat.add_assoc]
  have he : bytesOf (s ++ strOfNums [st, co] ++ mapg) = [79, 112, 117, 115, 72, 101, 97, 100, v, ch] ++ (X ++ ([mp] ++ bytesOf (strOfNums [st, co] ++ mapg))) := by
    rw [ByteArray.append_assoc, bytesOf_append, hs]; simp only [List.append_assoc]
  have h9 : (bytesOf (s ++ strOfNums [st, co] ++ mapg)).getD 9 0 = ch := by rw [he]; rfl
  have h18 : (bytesOf (s ++ strOfNums [st, co] ++ mapg)).getD 18 0 = mp := by
    rw [he]
    simp [List.getD_eq_getElem?_getD, List.getElem?_append_right, hX]
  refine ⟨⟨bytesOf_bytes _, by omega, by rw [h9]; exact hc0, by rw [he]; rfl, .inr ⟨by rw [h18]; exact hm, by rw [h9]; omega⟩⟩, by omega⟩
theorem i64_wrap (z : Int) (h0 : 0 ≤ z) (h1 : z ≤ 1000000) : IntKind.i64.wrap z = z := by
  simp [IntKind.wrap, IntKind.bits, IntKind.signed]
  omega
set_option maxRecDepth 100000 in
set_option maxHeartbeats 8000000 in
theorem head_yes (v ch mp pre gn : Int) (rate : Int) (st co : Int) (mapg : ByteArray) (M : Option Addr) (ml mc : Nat) (hv0 : 0 ≤ v) (hv1 : v ≤ 255) (hc0 : 1 ≤ ch) (hc1 : ch ≤ 255) (hm0 : 0 ≤ mp) (hm1 : mp ≤ 255) (hp0 : 0 ≤ pre) (hp1 : pre ≤ 65535) (hg0 : -32768 ≤ gn) (hg1 : gn ≤ 65535) (hx : ml = 0) (hr0 : 0 ≤ rate) (hr1 : rate < 4294967296) (hms : mapg.size ≤ 1048576) (w : World) :
    Calls Tryz.prog 28 #[.agg #[.int .i64 v, .int .i64 ch, .int .i64 mp, .int .i64 pre, .int .i64 gn, .int .u32 rate, .int .i64 st, .int .i64 co, .string mapg, .slice M ml mc]] w (HeadPost w) := by
  subst hx
  have sA : (strOfNums [v, ch]).size = 2 := strOfNums_size _
  have sB : (strOfNums [mp]).size = 1 := strOfNums_size _
  have s0 : (⟨#[79, 112, 117, 115, 72, 101, 97, 100]⟩ : ByteArray).size = 8 := rfl
  go_enter Tryz.func28, Tryz.ntmps28
  go_upto_region 3 with fail
  have hB : KS w w.heap.size 25 #[.int .i64 v, .int .i64 ch, .int .i64 mp, .int .i64 pre, .int .i64 gn, .int .u32 rate, .int .i64 st, .int .i64 co, .string mapg, .slice M 0 mc] [] (w.alloc (.cells #[.int .i64 v, .int .i64 ch, .int .i64 mp, .int .i64 pre, .int .i64 gn, .int .u32 rate, .int .i64 st, .int .i64 co, .string mapg, .slice M 0 mc] 25)) := ⟨Blk.new w 25 _, Below.refl w.heap.size w |>.alloc (Nat.le_refl _) _, fun p hp => by cases hp⟩
  have HB := Lib.hid hB
  clear hB
  generalize w.alloc (.cells #[.int .i64 v, .int .i64 ch, .int .i64 mp, .int .i64 pre, .int .i64 gn, .int .u32 rate, .int .i64 st, .int .i64 co, .string mapg, .slice M 0 mc] 25) = W0 at HB ⊢
  generalize hge : w.heap.size = g0 at HB ⊢
  replace hge := Lib.hid hge
  go_cut [4] (fun v4 wx => HCut w g0 v ch mp pre gn rate st co mapg (.slice M 0 mc) v4 wx)
  case first =>
    as_aux_lemma =>
      have hwv := u8_wrap v hv0 hv1
      have hwc := u8_wrap ch (by omega) hc1
      have hwm := u8_wrap mp hm0 hm1
      have HL : ∀ (n c : Int) (W : World), c = 2 ∨ c = 4 → Calls Tryz.prog 64 #[.int .u64 n, .int .i64 c] W fun e w' => (∃ t, e = .returned (.string t) ∧ t.size = c.toNat) ∧ Below W.heap.size W w' := by
        intro n c W hc
        have := least_any n c.toNat (by omega) W
        rwa [show ((c.toNat : Nat) : Int) = c by omega] at this
      have hcell : ∀ W, Blk W g0 25 #[.int .i64 v, .int .i64 ch, .int .i64 mp, .int .i64 pre, .int .i64 gn, .int .u32 rate, .int .i64 st, .int .i64 co, .string mapg, .slice M 0 mc] → W.cell? ⟨g0, 0, none⟩ = some (.int .i64 v) ∧ W.cell? ⟨g0, 1, none⟩ = some (.int .i64 ch) ∧ W.cell? ⟨g0, 2, none⟩ = some (.int .i64 mp) ∧ W.cell? ⟨g0, 3, none⟩ = some (.int .i64 pre) ∧ W.cell? ⟨g0, 4, none⟩ = some (.int .i64 gn) ∧ W.cell? ⟨g0, 5, none⟩ = some (.int .u32 rate) := fun W h => ⟨by simpa using h.cell 0, by simpa using h.cell 1, by simpa using h.cell 2, by simpa using h.cell 3, by simpa using h.cell 4, by simpa using h.cell 5⟩
      have HCELL := Lib.hid hcell
      clear hcell
      refine wp_region_held_drew (S := KS w g0 25 #[.int .i64 v, .int .i64 ch, .int .i64 mp, .int .i64 pre, .int .i64 gn, .int .u32 rate, .int .i64 st, .int .i64 co, .string mapg, .slice M 0 mc] []) (by kernel_rfl) HB.out.drew (fun hH => ?_)
      generalize W0.drew = W1 at hH ⊢
      refine' wpAnyH_take (i := 0) (oi := _) (v := _) ?a101 (by kernel_rfl) (by kernel_rfl) (by kernel_rfl) ?b101 (Or.inl ⟨?c101, fun W hW => ?d101⟩) hH ?e101
      case a101 => (simp only [List.getElem?_toArray, List.getElem?_cons_succ, List.getElem?_cons_zero]; rfl)
      case c101 => rfl
      case d101 => (obtain ⟨h0, h1, h2, h3, h4, h5⟩ := HCELL.out W hW.box; go_simp; try with_reducible rfl)
      case b101 => exact fun _ _ _ h => h
      simp only [Act.put, List.setIfInBounds_toArray, List.set_cons_zero, List.set_cons_succ]
      refine' wpAnyH_take (i := 1) (oi := _) (v := _) ?a102 (by kernel_rfl) (by kernel_rfl) (by kernel_rfl) ?b102 (Or.inl ⟨?c102, fun W hW => ?d102⟩) hH ?e102
      case a102 => (simp only [List.getElem?_toArray, List.getElem?_cons_succ, List.getElem?_cons_zero]; rfl)
      case c102 => rfl
      case d102 => (obtain ⟨h0, h1, h2, h3, h4, h5⟩ := HCELL.out W hW.box; go_simp; try with_reducible rfl)
      case b102 => exact fun _ _ _ h => h
      simp only [Act.put, List.setIfInBounds_toArray, List.set_cons_zero, List.set_cons_succ]
      refine' wpAnyH_take (i := 2) (oi := _) (v := _) ?a103 (by kernel_rfl) (by kernel_rfl) (by kernel_rfl) ?b103 (Or.inl ⟨?c103, fun W hW => ?d103⟩) hH ?e103
      case a103 => (simp only [List.getElem?_toArray, List.getElem?_cons_succ, List.getElem?_cons_zero]; rfl)
      case c103 => rfl
      case d103 => (obtain ⟨h0, h1, h2, h3, h4, h5⟩ := HCELL.out W hW.box; go_simp; try with_reducible rfl)
      case b103 => exact fun _ _ _ h => h
      simp only [Act.put, List.setIfInBounds_toArray, List.set_cons_zero, List.set_cons_succ]
      refine' wpAnyH_take (i := 3) (oi := _) (v := _) ?a104 (by kernel_rfl) (by kernel_rfl) (by kernel_rfl) ?b104 (Or.inl ⟨?c104, fun W hW => ?d104⟩) hH ?e104
      case a104 => (simp only [List.getElem?_toArray, List.getElem?_cons_succ, List.getElem?_cons_zero]; rfl)
      case c104 => rfl
      case d104 => (obtain ⟨h0, h1, h2, h3, h4, h5⟩ := HCELL.out W hW.box; go_simp; try with_reducible rfl)
      case b104 => exact fun _ _ _ h => h
      simp only [Act.put, List.setIfInBounds_toArray, List.set_cons_zero, List.set_cons_succ]
      refine' wpAnyH_take (i := 4) (oi := _) (v := _) ?a105 (by kernel_rfl) (by kernel_rfl) (by kernel_rfl) ?b105 (Or.inl ⟨?c105, fun W hW => ?d105⟩) hH ?e105
      case a105 => (simp only [List.getElem?_toArray, List.getElem?_cons_succ, List.getElem?_cons_zero]; rfl)
      case c105 => rfl
      case d105 => (obtain ⟨h0, h1, h2, h3, h4, h5⟩ := HCELL.out W hW.box; go_simp; try with_reducible rfl)
      case b105 => exact fun _ _ _ h => h
      simp only [Act.put, List.setIfInBounds_toArray, List.set_cons_zero, List.set_cons_succ]
      refine' wpAnyH_take (i := 5) (oi := _) (v := _) ?a106 (by kernel_rfl) (by kernel_rfl) (by kernel_rfl) ?b106 (Or.inl ⟨?c106, fun W hW => ?d106⟩) hH ?e106
      case a106 => (simp only [List.getElem?_toArray, List.getElem?_cons_succ, List.getElem?_cons_zero]; rfl)
      case c106 => rfl
      case d106 => (obtain ⟨h0, h1, h2, h3, h4, h5⟩ := HCELL.out W hW.box; go_simp; try with_reducible rfl)
      case b106 => exact fun _ _ _ h => h
      simp only [Act.put, List.setIfInBounds_toArray, List.set_cons_zero, List.set_cons_succ]
      refine' wpAnyH_take (i := 9) (oi := _) (v := _) ?a107 (by kernel_rfl) (by kernel_rfl) (by kernel_rfl) ?b107 (Or.inl ⟨?c107, fun W hW => ?d107⟩) hH ?e107
      case a107 => (simp only [List.getElem?_toArray, List.getElem?_cons_succ, List.getElem?_cons_zero]; rfl)
      case c107 => rfl
      case d107 => (obtain ⟨h0, h1, h2, h3, h4, h5⟩ := HCELL.out W hW.box; go_simp; try with_reducible rfl)
      case b107 => exact fun _ _ _ h => h
      simp only [Act.put, List.setIfInBounds_toArray, List.set_cons_zero, List.set_cons_succ]
      refine' wpAnyH_take (i := 10) (oi := _) (v := _) ?a108 (by kernel_rfl) (by kernel_rfl) (by kernel_rfl) ?b108 (Or.inl ⟨?c108, fun W hW => ?d108⟩) hH ?e108
      case a108 => (simp only [List.getElem?_toArray, List.getElem?_cons_succ, List.getElem?_cons_zero]; rfl)
      case c108 => rfl
      case d108 => (obtain ⟨h0, h1, h2, h3, h4, h5⟩ := HCELL.out W hW.box; go_simp; try with_reducible rfl)
      case b108 => exact fun _ _ _ h => h
      simp only [Act.put, List.setIfInBounds_toArray, List.set_cons_zero, List.set_cons_succ]
      refine' wpAnyH_take (i := 11) (oi := _) (v := _) ?a109 (by kernel_rfl) (by kernel_rfl) (by kernel_rfl) ?b109 (Or.inl ⟨?c109, fun W hW => ?d109⟩) hH ?e109
      case a109 => (simp only [List.getElem?_toArray, List.getElem?_cons_succ, List.getElem?_cons_zero]; rfl)
      case c109 => rfl
      case d109 => (obtain ⟨h0, h1, h2, h3, h4, h5⟩ := HCELL.out W hW.box; go_simp; try with_reducible rfl)
      case b109 => exact fun _ _ _ h => h
      simp only [Act.put, List.setIfInBounds_toArray, List.set_cons_zero, List.set_cons_succ]
      refine' wpAnyH_take (i := 14) (oi := _) (v := _) ?a110 (by kernel_rfl) (by kernel_rfl) (by kernel_rfl) ?b110 (Or.inl ⟨?c110, fun W hW => ?d110⟩) hH ?e110
      case a110 => (simp only [List.getElem?_toArray, List.getElem?_cons_succ, List.getElem?_cons_zero]; rfl)
      case c110 => rfl
      case d110 => (obtain ⟨h0, h1, h2, h3, h4, h5⟩ := HCELL.out W hW.box; go_simp; try with_reducible rfl)
      case b110 => exact fun _ _ _ h => h
      simp only [Act.put, List.setIfInBounds_toArray, List.set_cons_zero, List.set_cons_succ]
      refine' wpAnyH_take (i := 15) (oi := _) (v := _) ?a111 (by kernel_rfl) (by kernel_rfl) (by kernel_rfl) ?b111 (Or.inl ⟨?c111, fun W hW => ?d111⟩) hH ?e111
      case a111 => (simp only [List.getElem?_toArray, List.getElem?_cons_succ, List.getElem?_cons_zero]; rfl)
      case c111 => rfl
      case d111 => (obtain ⟨h0, h1, h2, h3, h4, h5⟩ := HCELL.out W hW.box; go_simp; try with_reducible rfl)
      case b111 => exact fun _ _ _ h => h
      simp only [Act.put, List.setIfInBounds_toArray, List.set_cons_zero, List.set_cons_succ]
      refine' wpAnyH_take (i := 16) (oi := _) (v := _) ?a112 (by kernel_rfl) (by kernel_rfl) (by kernel_rfl) ?b112 (Or.inl ⟨?c112, fun W hW => ?d112⟩) hH ?e112
      case a112 => (simp only [List.getElem?_toArray, List.getElem?_cons_succ, List.getElem?_cons_zero]; rfl)
      case c112 => rfl
      case d112 => (obtain ⟨h0, h1, h2, h3, h4, h5⟩ := HCELL.out W hW.box; go_simp; try with_reducible rfl)
      case b112 => exact fun _ _ _ h => h
      simp only [Act.put, List.setIfInBounds_toArray, List.set_cons_zero, List.set_cons_succ]
      refine' wpAnyH_take (i := 19) (oi := _) (v := _) ?a113 (by kernel_rfl) (by kernel_rfl) (by kernel_rfl) ?b113 (Or.inl ⟨?c113, fun W hW => ?d113⟩) hH ?e113
      case a113 => (simp only [List.getElem?_toArray, List.getElem?_cons_succ, List.getElem?_cons_zero]; rfl)
      case c113 => rfl
      case d113 => (obtain ⟨h0, h1, h2, h3, h4, h5⟩ := HCELL.out W hW.box; go_simp; try with_reducible rfl)
      case b113 => exact fun _ _ _ h => h
      simp only [Act.put, List.setIfInBounds_toArray, List.set_cons_zero, List.set_cons_succ]
      refine' wpAnyH_take (i := 20) (oi := _) (v := _) ?a114 (by kernel_rfl) (by kernel_rfl) (by kernel_rfl) ?b114 (Or.inl ⟨?c114, fun W hW => ?d114⟩) hH ?e114
      case a114 => (simp only [List.getElem?_toArray, List.getElem?_cons_succ, List.getElem?_cons_zero]; rfl)
      case c114 => rfl
      case d114 => (obtain ⟨h0, h1, h2, h3, h4, h5⟩ := HCELL.out W hW.box; go_simp; try with_reducible rfl)
      case b114 => exact fun _ _ _ h => h
      simp only [Act.put, List.setIfInBounds_toArray, List.set_cons_zero, List.set_cons_succ]
      refine' wpAnyH_take (i := 21) (oi := _) (v := _) ?a115 (by kernel_rfl) (by kernel_rfl) (by kernel_rfl) ?b115 (Or.inl ⟨?c115, fun W hW => ?d115⟩) hH ?e115
      case a115 => (simp only [List.getElem?_toArray, List.getElem?_cons_succ, List.getElem?_cons_zero]; rfl)
      case c115 => rfl
      case d115 => (obtain ⟨h0, h1, h2, h3, h4, h5⟩ := HCELL.out W hW.box; go_simp; try with_reducible rfl)
      case b115 => exact fun _ _ _ h => h
      simp only [Act.put, List.setIfInBounds_toArray, List.set_cons_zero, List.set_cons_succ]
      refine' wpAnyH_take (i := 22) (oi := _) (v := _) ?a116 (by kernel_rfl) (by kernel_rfl) (by kernel_rfl) ?b116 (Or.inl ⟨?c116, fun W hW => ?d116⟩) hH ?e116
      case a116 => (simp only [List.getElem?_toArray, List.getElem?_cons_succ, List.getElem?_cons_zero]; rfl)
      case c116 => rfl
      case d116 => (obtain ⟨h0, h1, h2, h3, h4, h5⟩ := HCELL.out W hW.box; go_simp; try with_reducible rfl)
      case b116 => exact fun _ _ _ h => h
      simp only [Act.put, List.setIfInBounds_toArray, List.set_cons_zero, List.set_cons_succ]
      refine' wpAnyH_take (i := 25) (oi := _) (v := _) ?a117 (by kernel_rfl) (by kernel_rfl) (by kernel_rfl) ?b117 (Or.inl ⟨?c117, fun W hW => ?d117⟩) hH ?e117
      case a117 => (simp only [List.getElem?_toArray, List.getElem?_cons_succ, List.getElem?_cons_zero]; rfl)
      case c117 => rfl
      case d117 => (obtain ⟨h0, h1, h2, h3, h4, h5⟩ := HCELL.out W hW.box; go_simp; try with_reducible rfl)
      case b117 => exact fun _ _ _ h => h
      simp only [Act.put, List.setIfInBounds_toArray, List.set_cons_zero, List.set_cons_succ]
      refine' wpAnyH_take (i := 26) (oi := _) (v := _) ?a118 (by kernel_rfl) (by kernel_rfl) (by kernel_rfl) ?b118 (Or.inl ⟨?c118, fun W hW => ?d118⟩) hH ?e118
      case a118 => (simp only [List.getElem?_toArray, List.getElem?_cons_succ, List.getElem?_cons_zero]; rfl)
      case c118 => rfl
      case d118 => (obtain ⟨h0, h1, h2, h3, h4, h5⟩ := HCELL.out W hW.box; go_simp; try with_reducible rfl)
      case b118 => exact fun _ _ _ h => h
      simp only [Act.put, List.setIfInBounds_toArray, List.set_cons_zero, List.set_cons_succ]
      refine' wpAnyH_take (i := 27) (oi := _) (v := _) ?a119 (by kernel_rfl) (by kernel_rfl) (by kernel_rfl) ?b119 (Or.inl ⟨?c119, fun W hW => ?d119⟩) hH ?e119
      case a119 => (simp only [List.getElem?_toArray, List.getElem?_cons_succ, List.getElem?_cons_zero]; rfl)
      case c119 => rfl
      case d119 => (obtain ⟨h0, h1, h2, h3, h4, h5⟩ := HCELL.out W hW.box; go_simp; try with_reducible rfl)
      case b119 => exact fun _ _ _ h => h
      simp only [Act.put, List.setIfInBounds_toArray, List.set_cons_zero, List.set_cons_succ]
      refine wpAnyH_ready (rs := [6, 12, 28]) (by kernel_rfl) (by simp) ?_
      refine AllReadyH.cons (o := ?o120) ?a120 (fun K hK => ?b120) ?c120
      case a120 => (simp only [List.getElem?_toArray, List.getElem?_cons_succ, List.getElem?_cons_zero]; rfl)
      go_simp
      refine hK.out _ _ (hH.alloc _) (fun _ => ?_)
      clear hK K
      (try simp only [Act.put, List.setIfInBounds_toArray, List.set_cons_zero, List.set_cons_succ])
      refine wpAnyH_more (S' := KS w g0 25 #[.int .i64 v, .int .i64 ch, .int .i64 mp, .int .i64 pre, .int .i64 gn, .int .u32 rate, .int .i64 st, .int .i64 co, .string mapg, .slice M 0 mc] ((W1.heap.size, #[.int .u8 v, .int .u8 ch]) :: [])) (fun _ h => h.less) _ _ _ _ ?_
      have hN := hH.add #[.int .u8 v, .int .u8 ch]
      clear hH
      generalize W1.heap.size = g120 at hN ⊢
      generalize W1.alloc _ = W120 at hN ⊢
      have hH := hN
      clear hN
      refine' wpAnyH_take (i := 7) (oi := _) (v := (.string (strOfNums [v, ch]))) ?a121 (by kernel_rfl) (by kernel_rfl) (by kernel_rfl) ?b121 (Or.inl ⟨?c121, fun W hW => ?d121⟩) hH ?e121
      case a121 => (simp only [List.getElem?_toArray, List.getElem?_cons_succ, List.getElem?_cons_zero]; rfl)
      case c121 => rfl
      case d121 => (obtain ⟨h0, h1, h2, h3, h4, h5⟩ := HCELL.out W hW.box; have hc := cv2 (hW.sl (g120, #[.int .u8 v, .int .u8 ch]) (by simp)); go_simp; try with_reducible rfl)
      case b121 => exact fun _ _ _ h => h
      simp only [Act.put, List.setIfInBounds_toArray, List.set_cons_zero, List.set_cons_succ]
      refine' wpAnyH_take (i := 8) (oi := _) (v := _) ?a122 (by kernel_rfl) (by kernel_rfl) (by kernel_rfl) ?b122 (Or.inl ⟨?c122, fun W hW => ?d122⟩) hH ?e122
      case a122 => (simp only [List.getElem?_toArray, List.getElem?_cons_succ, List.getElem?_cons_zero]; rfl)
      case c122 => rfl
      case d122 => (obtain ⟨h0, h1, h2, h3, h4, h5⟩ := HCELL.out W hW.box; go_simp; try with_reducible rfl)
      case b122 => exact fun _ _ _ h => h
      simp only [Act.put, List.setIfInBounds_toArray, List.set_cons_zero, List.set_cons_succ]
      refine wpAnyH_ready (rs := [12, 28]) (by kernel_rfl) (by simp) ?_
      refine AllReadyH.cons (o := ?o123) ?a123 (fun K hK => ?b123) ?c123
      case a123 => (simp only [List.getElem?_toArray, List.getElem?_cons_succ, List.getElem?_cons_zero]; rfl)
      go_simp
      go_at_call 64
      refine (HL _ _ _ (by first | exact .inl rfl | exact .inr rfl)).mono ?_
      rintro e W123 ⟨⟨t1, rfl, ht1⟩, hb⟩
      (try go_wp2_with fail)
      have hN := hH.call hb
      refine hK.out _ _ hN (fun _ => ?_)
      clear hK K hH hb
      (try simp only [Act.put, List.setIfInBounds_toArray, List.set_cons_zero, List.set_cons_succ])
      have hH := hN
      clear hN
      refine' wpAnyH_take (i := 13) (oi := _) (v := _) ?a124 (by kernel_rfl) (by kernel_rfl) (by kernel_rfl) ?b124 (Or.inl ⟨?c124, fun W hW => ?d124⟩) hH ?e124
      case a124 => (simp only [List.getElem?_toArray, List.getElem?_cons_succ, List.getElem?_cons_zero]; rfl)
      case c124 => rfl
      case d124 => (obtain ⟨h0, h1, h2, h3, h4, h5⟩ := HCELL.out W hW.box; go_simp; try with_reducible rfl)
      case b124 => exact fun _ _ _ h => h
      simp only [Act.put, List.setIfInBounds_toArray, List.set_cons_zero, List.set_cons_succ]
      refine wpAnyH_ready (rs := [17, 28]) (by kernel_rfl) (by simp) ?_
      refine AllReadyH.cons (o := ?o125) ?a125 (fun K hK => ?b125) ?c125
      case a125 => (simp only [List.getElem?_toArray, List.getElem?_cons_succ, List.getElem?_cons_zero]; rfl)
      go_simp
      go_at_call 64
      refine (HL _ _ _ (by first | exact .inl rfl | exact .inr rfl)).mono ?_
      rintro e W125 ⟨⟨t2, rfl, ht2⟩, hb⟩
      (try go_wp2_with fail)
      have hN := hH.call hb
      refine hK.out _ _ hN (fun _ => ?_)
      clear hK K hH hb
      (try simp only [Act.put, List.setIfInBounds_toArray, List.set_cons_zero, List.set_cons_succ])
      have hH := hN
      clear hN
      refine' wpAnyH_take (i := 18) (oi := _) (v := _) ?a126 (by kernel_rfl) (by kernel_rfl) (by kernel_rfl) ?b126 (Or.inl ⟨?c126, fun W hW => ?d126⟩) hH ?e126
      case a126 => (simp only [List.getElem?_toArray, List.getElem?_cons_succ, List.getElem?_cons_zero]; rfl)
      case c126 => rfl
      case d126 => (obtain ⟨h0, h1, h2, h3, h4, h5⟩ := HCELL.out W hW.box; go_simp; try with_reducible rfl)
      case b126 => exact fun _ _ _ h => h
      simp only [Act.put, List.setIfInBounds_toArray, List.set_cons_zero, List.set_cons_succ]
      refine wpAnyH_ready (rs := [23, 28]) (by kernel_rfl) (by simp) ?_
      refine AllReadyH.cons (o := ?o127) ?a127 (fun K hK => ?b127) ?c127
      case a127 => (simp only [List.getElem?_toArray, List.getElem?_cons_succ, List.getElem?_cons_zero]; rfl)
      go_simp
      go_at_call 64
      refine (HL _ _ _ (by first | exact .inl rfl | exact .inr rfl)).mono ?_
      rintro e W127 ⟨⟨t3, rfl, ht3⟩, hb⟩
      (try go_wp2_with fail)
      have hN := hH.call hb
      refine hK.out _ _ hN (fun _ => ?_)
      clear hK K hH hb
      (try simp only [Act.put, List.setIfInBounds_toArray, List.set_cons_zero, List.set_cons_succ])
      have hH := hN
      clear hN
      refine' wpAnyH_take (i := 24) (oi := _) (v := _) ?a128 (by kernel_rfl) (by kernel_rfl) (by kernel_rfl) ?b128 (Or.inl ⟨?c128, fun W hW => ?d128⟩) hH ?e128
      case a128 => (simp only [List.getElem?_toArray, List.getElem?_cons_succ, List.getElem?_cons_zero]; rfl)
      case c128 => rfl
      case d128 => (obtain ⟨h0, h1, h2, h3, h4, h5⟩ := HCELL.out W hW.box; go_simp; try with_reducible rfl)
      case b128 => exact fun _ _ _ h => h
      simp only [Act.put, List.setIfInBounds_toArray, List.set_cons_zero, List.set_cons_succ]
      refine wpAnyH_ready (rs := [28]) (by kernel_rfl) (by simp) ?_
      refine AllReadyH.cons (o := ?o129) ?a129 (fun K hK => ?b129) ?c129
      case a129 => (simp only [List.getElem?_toArray, List.getElem?_cons_succ, List.getElem?_cons_zero]; rfl)
      go_simp
      refine hK.out _ _ (hH.alloc _) (fun _ => ?_)
      clear hK K
      (try simp only [Act.put, List.setIfInBounds_toArray, List.set_cons_zero, List.set_cons_succ])
      refine wpAnyH_more (S' := KS w g0 25 #[.int .i64 v, .int .i64 ch, .int .i64 mp, .int .i64 pre, .int .i64 gn, .int .u32 rate, .int .i64 st, .int .i64 co, .string mapg, .slice M 0 mc] ((W127.heap.size, #[.int .u8 mp]) :: [(g120, #[.int .u8 v, .int .u8 ch])])) (fun _ h => h.less) _ _ _ _ ?_
      have hN := hH.add #[.int .u8 mp]
      clear hH
      generalize W127.heap.size = g129 at hN ⊢
      generalize W127.alloc _ = W129 at hN ⊢
      have hH := hN
      clear hN
      refine' wpAnyH_take (i := 29) (oi := _) (v := (.string (strOfNums [mp]))) ?a130 (by kernel_rfl) (by kernel_rfl) (by kernel_rfl) ?b130 (Or.inl ⟨?c130, fun W hW => ?d130⟩) hH ?e130
      case a130 => (simp only [List.getElem?_toArray, List.getElem?_cons_succ, List.getElem?_cons_zero]; rfl)
      case c130 => rfl
      case d130 => (obtain ⟨h0, h1, h2, h3, h4, h5⟩ := HCELL.out W hW.box; have hc := cv1 (hW.sl (g129, #[.int .u8 mp]) (by simp)); go_simp; try with_reducible rfl)
      case b130 => exact fun _ _ _ h => h
      simp only [Act.put, List.setIfInBounds_toArray, List.set_cons_zero, List.set_cons_succ]
      refine' wpAnyH_take (i := 30) (oi := _) (v := _) ?a131 (by kernel_rfl) (by kernel_rfl) (by kernel_rfl) ?b131 (Or.inl ⟨?c131, fun W hW => ?d131⟩) hH ?e131
      case a131 => (simp only [List.getElem?_toArray, List.getElem?_cons_succ, List.getElem?_cons_zero]; rfl)
      case c131 => rfl
      case d131 => (obtain ⟨h0, h1, h2, h3, h4, h5⟩ := HCELL.out W hW.box; go_simp; try with_reducible rfl)
      case b131 => exact fun _ _ _ h => h
      simp only [Act.put, List.setIfInBounds_toArray, List.set_cons_zero, List.set_cons_succ]
      refine' wpAnyH_take (i := 31) (oi := _) (v := _) ?a132 (by kernel_rfl) (by kernel_rfl) (by kernel_rfl) ?b132 (Or.inl ⟨?c132, fun W hW => ?d132⟩) hH ?e132
      case a132 => (simp only [List.getElem?_toArray, List.getElem?_cons_succ, List.getElem?_cons_zero]; rfl)
      case c132 => rfl
      case d132 => (obtain ⟨h0, h1, h2, h3, h4, h5⟩ := HCELL.out W hW.box; go_simp; try with_reducible rfl)
      case b132 => exact fun _ _ _ h => h
      simp only [Act.put, List.setIfInBounds_toArray, List.set_cons_zero, List.set_cons_succ]
      refine wpAnyH_done (by kernel_rfl) ?_ _
      (try go_wp2_with fail); go_meet
      exact ⟨_, rfl, ⟨t1, t2, t3, ht1, ht2, ht3, rfl⟩, hH.box, hH.old⟩
      exact AllReadyH.nil
      refine AllReadyH.cons (o := ?o133) ?a133 (fun K hK => ?b133) ?c133
      case a133 => (simp only [List.getElem?_toArray, List.getElem?_cons_succ, List.getElem?_cons_zero]; rfl)
      go_simp
      refine hK.out _ _ (hH.alloc _) (fun _ => ?_)
      clear hK K
      (try simp only [Act.put, List.setIfInBounds_toArray, List.set_cons_zero, List.set_cons_succ])
      refine wpAnyH_more (S' := KS w g0 25 #[.int .i64 v, .int .i64 ch, .int .i64 mp, .int .i64 pre, .int .i64 gn, .int .u32 rate, .int .i64 st, .int .i64 co, .string mapg, .slice M 0 mc] ((W125.heap.size, #[.int .u8 mp]) :: [(g120, #[.int .u8 v, .int .u8 ch])])) (fun _ h => h.less) _ _ _ _ ?_
      have hN := hH.add #[.int .u8 mp]
      clear hH
      generalize W125.heap.size = g133 at hN ⊢
      generalize W125.alloc _ = W133 at hN ⊢
      have hH := hN
      clear hN
      refine' wpAnyH_take (i := 29) (oi := _) (v := (.string (strOfNums [mp]))) ?a134 (by kernel_rfl) (by kernel_rfl) (by kernel_rfl) ?b134 (Or.inl ⟨?c134, fun W hW => ?d134⟩) hH ?e134
      case a134 => (simp only [List.getElem?_toArray, List.getElem?_cons_succ, List.getElem?_cons_zero]; rfl)
      case c134 => rfl
      case d134 => (obtain ⟨h0, h1, h2, h3, h4, h5⟩ := HCELL.out W hW.box; have hc := cv1 (hW.sl (g133, #[.int .u8 mp]) (by simp)); go_simp; try with_reducible rfl)
      case b134 => exact fun _ _ _ h => h
      simp only [Act.put, List.setIfInBounds_toArray, List.set_cons_zero, List.set_cons_succ]
      refine wpAnyH_ready (rs := [23]) (by kernel_rfl) (by simp) ?_
      refine AllReadyH.cons (o := ?o135) ?a135 (fun K hK => ?b135) ?c135
      case a135 => (simp only [List.getElem?_toArray, List.getElem?_cons_succ, List.getElem?_cons_zero]; rfl)
      go_simp
      go_at_call 64
      refine (HL _ _ _ (by first | exact .inl rfl | exact .inr rfl)).mono ?_
      rintro e W135 ⟨⟨t3, rfl, ht3⟩, hb⟩
      (try go_wp2_with fail)
      have hN := hH.call hb
      refine hK.out _ _ hN (fun _ => ?_)
      clear hK K hH hb
      (try simp only [Act.put, List.setIfInBounds_toArray, List.set_cons_zero, List.set_cons_succ])
      have hH := hN
      clear hN
      refine' wpAnyH_take (i := 24) (oi := _) (v := _) ?a136 (by kernel_rfl) (by kernel_rfl) (by kernel_rfl) ?b136 (Or.inl ⟨?c136, fun W hW => ?d136⟩) hH ?e136
      case a136 => (simp only [List.getElem?_toArray, List.getElem?_cons_succ, List.getElem?_cons_zero]; rfl)
      case c136 => rfl
      case d136 => (obtain ⟨h0, h1, h2, h3, h4, h5⟩ := HCELL.out W hW.box; go_simp; try with_reducible rfl)
      case b136 => exact fun _ _ _ h => h
      simp only [Act.put, List.setIfInBounds_toArray, List.set_cons_zero, List.set_cons_succ]
      refine' wpAnyH_take (i := 30) (oi := _) (v := _) ?a137 (by kernel_rfl) (by kernel_rfl) (by kernel_rfl) ?b137 (Or.inl ⟨?c137, fun W hW => ?d137⟩) hH ?e137
      case a137 => (simp only [List.getElem?_toArray, List.getElem?_cons_succ, List.getElem?_cons_zero]; rfl)
      case c137 => rfl
      case d137 => (obtain ⟨h0, h1, h2, h3, h4, h5⟩ := HCELL.out W hW.box; go_simp; try with_reducible rfl)
      case b137 => exact fun _ _ _ h => h
      simp only [Act.put, List.setIfInBounds_toArray, List.set_cons_zero, List.set_cons_succ]
      refine' wpAnyH_take (i := 31) (oi := _) (v := _) ?a138 (by kernel_rfl) (by kernel_rfl) (by kernel_rfl) ?b138 (Or.inl ⟨?c138, fun W hW => ?d138⟩) hH ?e138
      case a138 => (simp only [List.getElem?_toArray, List.getElem?_cons_succ, List.getElem?_cons_zero]; rfl)
      case c138 => rfl
      case d138 => (obtain ⟨h0, h1, h2, h3, h4, h5⟩ := HCELL.out W hW.box; go_simp; try with_reducible rfl)
      case b138 => exact fun _ _ _ h => h
      simp only [Act.put, List.setIfInBounds_toArray, List.set_cons_zero, List.set_cons_succ]
      refine wpAnyH_done (by kernel_rfl) ?_ _
      (try go_wp2_with fail); go_meet
      exact ⟨_, rfl, ⟨t1, t2, t3, ht1, ht2, ht3, rfl⟩, hH.box, hH.old⟩
      exact AllReadyH.nil
      exact AllReadyH.nil
      refine AllReadyH.cons (o := ?o139) ?a139 (fun K hK => ?b139) ?c139
      case a139 => (simp only [List.getElem?_toArray, List.getElem?_cons_succ, List.getElem?_cons_zero]; rfl)
      go_simp
      refine hK.out _ _ (hH.alloc _) (fun _ => ?_)
      clear hK K
      (try simp only [Act.put, List.setIfInBounds_toArray, List.set_cons_zero, List.set_cons_succ])
      refine wpAnyH_more (S' := KS w g0 25 #[.int .i64 v, .int .i64 ch, .int .i64 mp, .int .i64 pre, .int .i64 gn, .int .u32 rate, .int .i64 st, .int .i64 co, .string mapg, .slice M 0 mc] ((W123.heap.size, #[.int .u8 mp]) :: [(g120, #[.int .u8 v, .int .u8 ch])])) (fun _ h => h.less) _ _ _ _ ?_
      have hN := hH.add #[.int .u8 mp]
      clear hH
      generalize W123.heap.size = g139 at hN ⊢
      generalize W123.alloc _ = W139 at hN ⊢
      have hH := hN
      clear hN
      refine' wpAnyH_take (i := 29) (oi := _) (v := (.string (strOfNums [mp]))) ?a140 (by kernel_rfl) (by kernel_rfl) (by kernel_rfl) ?b140 (Or.inl ⟨?c140, fun W hW => ?d140⟩) hH ?e140
      case a140 => (simp only [List.getElem?_toArray, List.getElem?_cons_succ, List.getElem?_cons_zero]; rfl)
      case c140 => rfl
      case d140 => (obtain ⟨h0, h1, h2, h3, h4, h5⟩ := HCELL.out W hW.box; have hc := cv1 (hW.sl (g139, #[.int .u8 mp]) (by simp)); go_simp; try with_reducible rfl)
      case b140 => exact fun _ _ _ h => h
      simp only [Act.put, List.setIfInBounds_toArray, List.set_cons_zero, List.set_cons_succ]
      refine wpAnyH_ready (rs := [17]) (by kernel_rfl) (by simp) ?_
      refine AllReadyH.cons (o := ?o141) ?a141 (fun K hK => ?b141) ?c141
      case a141 => (simp only [List.getElem?_toArray, List.getElem?_cons_succ, List.getElem?_cons_zero]; rfl)
      go_simp
      go_at_call 64
      refine (HL _ _ _ (by first | exact .inl rfl | exact .inr rfl)).mono ?_
      rintro e W141 ⟨⟨t2, rfl, ht2⟩, hb⟩
      (try go_wp2_with fail)
      have hN := hH.call hb
      refine hK.out _ _ hN (fun _ => ?_)
      clear hK K hH hb
      (try simp only [Act.put, List.setIfInBounds_toArray, List.set_cons_zero, List.set_cons_succ])
      have hH := hN
      clear hN
      refine' wpAnyH_take (i := 18) (oi := _) (v := _) ?a142 (by kernel_rfl) (by kernel_rfl) (by kernel_rfl) ?b142 (Or.inl ⟨?c142, fun W hW => ?d142⟩) hH ?e142
      case a142 => (simp only [List.getElem?_toArray, List.getElem?_cons_succ, List.getElem?_cons_zero]; rfl)
      case c142 => rfl
      case d142 => (obtain ⟨h0, h1, h2, h3, h4, h5⟩ := HCELL.out W hW.box; go_simp; try with_reducible rfl)
      case b142 => exact fun _ _ _ h => h
      simp only [Act.put, List.setIfInBounds_toArray, List.set_cons_zero, List.set_cons_succ]
      refine wpAnyH_ready (rs := [23]) (by kernel_rfl) (by simp) ?_
      refine AllReadyH.cons (o := ?o143) ?a143 (fun K hK => ?b143) ?c143
      case a143 => (simp only [List.getElem?_toArray, List.getElem?_cons_succ, List.getElem?_cons_zero]; rfl)
      go_simp
      go_at_call 64
      refine (HL _ _ _ (by first | exact .inl rfl | exact .inr rfl)).mono ?_
      rintro e W143 ⟨⟨t3, rfl, ht3⟩, hb⟩
      (try go_wp2_with fail)
      have hN := hH.call hb
      refine hK.out _ _ hN (fun _ => ?_)
      clear hK K hH hb
      (try simp only [Act.put, List.setIfInBounds_toArray, List.set_cons_zero, List.set_cons_succ])
      have hH := hN
      clear hN
      refine' wpAnyH_take (i := 24) (oi := _) (v := _) ?a144 (by kernel_rfl) (by kernel_rfl) (by kernel_rfl) ?b144 (Or.inl ⟨?c144, fun W hW => ?d144⟩) hH ?e144
      case a144 => (simp only [List.getElem?_toArray, List.getElem?_cons_succ, List.getElem?_cons_zero]; rfl)
      case c144 => rfl
      case d144 => (obtain ⟨h0, h1, h2, h3, h4, h5⟩ := HCELL.out W hW.box; go_simp; try with_reducible rfl)
      case b144 => exact fun _ _ _ h => h
      simp only [Act.put, List.setIfInBounds_toArray, List.set_cons_zero, List.set_cons_succ]
      refine' wpAnyH_take (i := 30) (oi := _) (v := _) ?a145 (by kernel_rfl) (by kernel_rfl) (by kernel_rfl) ?b145 (Or.inl ⟨?c145, fun W hW => ?d145⟩) hH ?e145
      case a145 => (simp only [List.getElem?_toArray, List.getElem?_cons_succ, List.getElem?_cons_zero]; rfl)
      case c145 => rfl
      case d145 => (obtain ⟨h0, h1, h2, h3, h4, h5⟩ := HCELL.out W hW.box; go_simp; try with_reducible rfl)
      case b145 => exact fun _ _ _ h => h
      simp only [Act.put, List.setIfInBounds_toArray, List.set_cons_zero, List.set_cons_succ]
      refine' wpAnyH_take (i := 31) (oi := _) (v := _) ?a146 (by kernel_rfl) (by kernel_rfl) (by kernel_rfl) ?b146 (Or.inl ⟨?c146, fun W hW => ?d146⟩) hH ?e146
      case a146 => (simp only [List.getElem?_toArray, List.getElem?_cons_succ, List.getElem?_cons_zero]; rfl)
      case c146 => rfl
      case d146 => (obtain ⟨h0, h1, h2, h3, h4, h5⟩ := HCELL.out W hW.box; go_simp; try with_reducible rfl)
      case b146 => exact fun _ _ _ h => h
      simp only [Act.put, List.setIfInBounds_toArray, List.set_cons_zero, List.set_cons_succ]
      refine wpAnyH_done (by kernel_rfl) ?_ _
      (try go_wp2_with fail); go_meet
      exact ⟨_, rfl, ⟨t1, t2, t3, ht1, ht2, ht3, rfl⟩, hH.box, hH.old⟩
      exact AllReadyH.nil
      exact AllReadyH.nil
      exact AllReadyH.nil
      refine AllReadyH.cons (o := ?o147) ?a147 (fun K hK => ?b147) ?c147
      case a147 => (simp only [List.getElem?_toArray, List.getElem?_cons_succ, List.getElem?_cons_zero]; rfl)
      go_simp
      refine hK.out _ _ (hH.alloc _) (fun _ => ?_)
      clear hK K
      (try simp only [Act.put, List.setIfInBounds_toArray, List.set_cons_zero, List.set_cons_succ])
      refine wpAnyH_more (S' := KS w g0 25 #[.int .i64 v, .int .i64 ch, .int .i64 mp, .int .i64 pre, .int .i64 gn, .int .u32 rate, .int .i64 st, .int .i64 co, .string mapg, .slice M 0 mc] ((W120.heap.size, #[.int .u8 mp]) :: [(g120, #[.int .u8 v, .int .u8 ch])])) (fun _ h => h.less) _ _ _ _ ?_
      have hN := hH.add #[.int .u8 mp]
      clear hH
      generalize W120.heap.size = g147 at hN ⊢
      generalize W120.alloc _ = W147 at hN ⊢
      have hH := hN
      clear hN
      refine' wpAnyH_take (i := 29) (oi := _) (v := (.string (strOfNums [mp]))) ?a148 (by kernel_rfl) (by kernel_rfl) (by kernel_rfl) ?b148 (Or.inl ⟨?c148, fun W hW => ?d148⟩) hH ?e148
      case a148 => (simp only [List.getElem?_toArray, List.getElem?_cons_succ, List.getElem?_cons_zero]; rfl)
      case c148 => rfl
      case d148 => (obtain ⟨h0, h1, h2, h3, h4, h5⟩ := HCELL.out W hW.box; have hc := cv1 (hW.sl (g147, #[.int .u8 mp]) (by simp)); go_simp; try with_reducible rfl)
      case b148 => exact fun _ _ _ h => h
      simp only [Act.put, List.setIfInBounds_toArray, List.set_cons_zero, List.set_cons_succ]
      refine wpAnyH_ready (rs := [12]) (by kernel_rfl) (by simp) ?_
      refine AllReadyH.cons (o := ?o149) ?a149 (fun K hK => ?b149) ?c149
      case a149 => (simp only [List.getElem?_toArray, List.getElem?_cons_succ, List.getElem?_cons_zero]; rfl)
      go_simp
      go_at_call 64
      refine (HL _ _ _ (by first | exact .inl rfl | exact .inr rfl)).mono ?_
      rintro e W149 ⟨⟨t1, rfl, ht1⟩, hb⟩
      (try go_wp2_with fail)
      have hN := hH.call hb
      refine hK.out _ _ hN (fun _ => ?_)
      clear hK K hH hb
      (try simp only [Act.put, List.setIfInBounds_toArray, List.set_cons_zero, List.set_cons_succ])
      have hH := hN
      clear hN
      refine' wpAnyH_take (i := 13) (oi := _) (v := _) ?a150 (by kernel_rfl) (by kernel_rfl) (by kernel_rfl) ?b150 (Or.inl ⟨?c150, fun W hW => ?d150⟩) hH ?e150
      case a150 => (simp only [List.getElem?_toArray, List.getElem?_cons_succ, List.getElem?_cons_zero]; rfl)
      case c150 => rfl
      case d150 => (obtain ⟨h0, h1, h2, h3, h4, h5⟩ := HCELL.out W hW.box; go_simp; try with_reducible rfl)
      case b150 => exact fun _ _ _ h => h
      simp only [Act.put, List.setIfInBounds_toArray, List.set_cons_zero, List.set_cons_succ]
      refine wpAnyH_ready (rs := [17]) (by kernel_rfl) (by simp) ?_
      refine AllReadyH.cons (o := ?o151) ?a151 (fun K hK => ?b151) ?c151
      case a151 => (simp only [List.getElem?_toArray, List.getElem?_cons_succ, List.getElem?_cons_zero]; rfl)
      go_simp
      go_at_call 64
      refine (HL _ _ _ (by first | exact .inl rfl | exact .inr rfl)).mono ?_
      rintro e W151 ⟨⟨t2, rfl, ht2⟩, hb⟩
      (try go_wp2_with fail)
      have hN := hH.call hb
      refine hK.out _ _ hN (fun _ => ?_)
      clear hK K hH hb
      (try simp only [Act.put, List.setIfInBounds_toArray, List.set_cons_zero, List.set_cons_succ])
      have hH := hN
      clear hN
      refine' wpAnyH_take (i := 18) (oi := _) (v := _) ?a152 (by kernel_rfl) (by kernel_rfl) (by kernel_rfl) ?b152 (Or.inl ⟨?c152, fun W hW => ?d152⟩) hH ?e152
      case a152 => (simp only [List.getElem?_toArray, List.getElem?_cons_succ, List.getElem?_cons_zero]; rfl)
      case c152 => rfl
      case d152 => (obtain ⟨h0, h1, h2, h3, h4, h5⟩ := HCELL.out W hW.box; go_simp; try with_reducible rfl)
      case b152 => exact fun _ _ _ h => h
      simp only [Act.put, List.setIfInBounds_toArray, List.set_cons_zero, List.set_cons_succ]
      refine wpAnyH_ready (rs := [23]) (by kernel_rfl) (by simp) ?_
      refine AllReadyH.cons (o := ?o153) ?a153 (fun K hK => ?b153) ?c153
      case a153 => (simp only [List.getElem?_toArray, List.getElem?_cons_succ, List.getElem?_cons_zero]; rfl)
      go_simp
      go_at_call 64
      refine (HL _ _ _ (by first | exact .inl rfl | exact .inr rfl)).mono ?_
      rintro e W153 ⟨⟨t3, rfl, ht3⟩, hb⟩
      (try go_wp2_with fail)
      have hN := hH.call hb
      refine hK.out _ _ hN (fun _ => ?_)
      clear hK K hH hb
      (try simp only [Act.put, List.setIfInBounds_toArray, List.set_cons_zero, List.set_cons_succ])
      have hH := hN
      clear hN
      refine' wpAnyH_take (i := 24) (oi := _) (v := _) ?a154 (by kernel_rfl) (by kernel_rfl) (by kernel_rfl) ?b154 (Or.inl ⟨?c154, fun W hW => ?d154⟩) hH ?e154
      case a154 => (simp only [List.getElem?_toArray, List.getElem?_cons_succ, List.getElem?_cons_zero]; rfl)
      case c154 => rfl
      case d154 => (obtain ⟨h0, h1, h2, h3, h4, h5⟩ := HCELL.out W hW.box; go_simp; try with_reducible rfl)
      case b154 => exact fun _ _ _ h => h
      simp only [Act.put, List.setIfInBounds_toArray, List.set_cons_zero, List.set_cons_succ]
      refine' wpAnyH_take (i := 30) (oi := _) (v := _) ?a155 (by kernel_rfl) (by kernel_rfl) (by kernel_rfl) ?b155 (Or.inl ⟨?c155, fun W hW => ?d155⟩) hH ?e155
      case a155 => (simp only [List.getElem?_toArray, List.getElem?_cons_succ, List.getElem?_cons_zero]; rfl)
      case c155 => rfl
      case d155 => (obtain ⟨h0, h1, h2, h3, h4, h5⟩ := HCELL.out W hW.box; go_simp; try with_reducible rfl)
      case b155 => exact fun _ _ _ h => h
      simp only [Act.put, List.setIfInBounds_toArray, List.set_cons_zero, List.set_cons_succ]
      refine' wpAnyH_take (i := 31) (oi := _) (v := _) ?a156 (by kernel_rfl) (by kernel_rfl) (by kernel_rfl) ?b156 (Or.inl ⟨?c156, fun W hW => ?d156⟩) hH ?e156
      case a156 => (simp only [List.getElem?_toArray, List.getElem?_cons_succ, List.getElem?_cons_zero]; rfl)
      case c156 => rfl
      case d156 => (obtain ⟨h0, h1, h2, h3, h4, h5⟩ := HCELL.out W hW.box; go_simp; try with_reducible rfl)
      case b156 => exact fun _ _ _ h => h
      simp only [Act.put, List.setIfInBounds_toArray, List.set_cons_zero, List.set_cons_succ]
      refine wpAnyH_done (by kernel_rfl) ?_ _
      (try go_wp2_with fail); go_meet
      exact ⟨_, rfl, ⟨t1, t2, t3, ht1, ht2, ht3, rfl⟩, hH.box, hH.old⟩
      exact AllReadyH.nil
      exact AllReadyH.nil
      exact AllReadyH.nil
      exact AllReadyH.nil
      refine AllReadyH.cons (o := ?o157) ?a157 (fun K hK => ?b157) ?c157
      case a157 => (simp only [List.getElem?_toArray, List.getElem?_cons_succ, List.getElem?_cons_zero]; rfl)
      go_simp
      go_at_call 64
      refine (HL _ _ _ (by first | exact .inl rfl | exact .inr rfl)).mono ?_
      rintro e W157 ⟨⟨t1, rfl, ht1⟩, hb⟩
      (try go_wp2_with fail)
      have hN := hH.call hb
      refine hK.out _ _ hN (fun _ => ?_)
      clear hK K hH hb
      (try simp only [Act.put, List.setIfInBounds_toArray, List.set_cons_zero, List.set_cons_succ])
      have hH := hN
      clear hN
      refine wpAnyH_ready (rs := [6, 17, 28]) (by kernel_rfl) (by simp) ?_
      refine AllReadyH.cons (o := ?o158) ?a158 (fun K hK => ?b158) ?c158
      case a158 => (simp only [List.getElem?_toArray, List.getElem?_cons_succ, List.getElem?_cons_zero]; rfl)
      go_simp
      refine hK.out _ _ (hH.alloc _) (fun _ => ?_)
      clear hK K
      (try simp only [Act.put, List.setIfInBounds_toArray, List.set_cons_zero, List.set_cons_succ])
      refine wpAnyH_more (S' := KS w g0 25 #[.int .i64 v, .int .i64 ch, .int .i64 mp, .int .i64 pre, .int .i64 gn, .int .u32 rate, .int .i64 st, .int .i64 co, .string mapg, .slice M 0 mc] ((W157.heap.size, #[.int .u8 v, .int .u8 ch]) :: [])) (fun _ h => h.less) _ _ _ _ ?_
      have hN := hH.add #[.int .u8 v, .int .u8 ch]
      clear hH
      generalize W157.heap.size = g158 at hN ⊢
      generalize W157.alloc _ = W158 at hN ⊢
      have hH := hN
      clear hN
      refine' wpAnyH_take (i := 7) (oi := _) (v := (.string (strOfNums [v, ch]))) ?a159 (by kernel_rfl) (by kernel_rfl) (by kernel_rfl) ?b159 (Or.inl ⟨?c159, fun W hW => ?d159⟩) hH ?e159
      case a159 => (simp only [List.getElem?_toArray, List.getElem?_cons_succ, List.getElem?_cons_zero]; rfl)
      case c159 => rfl
      case d159 => (obtain ⟨h0, h1, h2, h3, h4, h5⟩ := HCELL.out W hW.box; have hc := cv2 (hW.sl (g158, #[.int .u8 v, .int .u8 ch]) (by simp)); go_simp; try with_reducible rfl)
      case b159 => exact fun _ _ _ h => h
      simp only [Act.put, List.setIfInBounds_toArray, List.set_cons_zero, List.set_cons_succ]
      refine' wpAnyH_take (i := 8) (oi := _) (v := _) ?a160 (by kernel_rfl) (by kernel_rfl) (by kernel_rfl) ?b160 (Or.inl ⟨?c160, fun W hW => ?d160⟩) hH ?e160
      case a160 => (simp only [List.getElem?_toArray, List.getElem?_cons_succ, List.getElem?_cons_zero]; rfl)
      case c160 => rfl
      case d160 => (obtain ⟨h0, h1, h2, h3, h4, h5⟩ := HCELL.out W hW.box; go_simp; try with_reducible rfl)
      case b160 => exact fun _ _ _ h => h
      simp only [Act.put, List.setIfInBounds_toArray, List.set_cons_zero, List.set_cons_succ]
      refine' wpAnyH_take (i := 13) (oi := _) (v := _) ?a161 (by kernel_rfl) (by kernel_rfl) (by kernel_rfl) ?b161 (Or.inl ⟨?c161, fun W hW => ?d161⟩) hH ?e161
      case a161 => (simp only [List.getElem?_toArray, List.getElem?_cons_succ, List.getElem?_cons_zero]; rfl)
      case c161 => rfl
      case d161 => (obtain ⟨h0, h1, h2, h3, h4, h5⟩ := HCELL.out W hW.box; go_simp; try with_reducible rfl)
      case b161 => exact fun _ _ _ h => h
      simp only [Act.put, List.setIfInBounds_toArray, List.set_cons_zero, List.set_cons_succ]
      refine wpAnyH_ready (rs := [17, 28]) (by kernel_rfl) (by simp) ?_
      refine AllReadyH.cons (o := ?o162) ?a162 (fun K hK => ?b162) ?c162
      case a162 => (simp only [List.getElem?_toArray, List.getElem?_cons_succ, List.getElem?_cons_zero]; rfl)
      go_simp
      go_at_call 64
      refine (HL _ _ _ (by first | exact .inl rfl | exact .inr rfl)).mono ?_
      rintro e W162 ⟨⟨t2, rfl, ht2⟩, hb⟩
      (try go_wp2_with fail)
      have hN := hH.call hb
      refine hK.out _ _ hN (fun _ => ?_)
      clear hK K hH hb
      (try simp only [Act.put, List.setIfInBounds_toArray, List.set_cons_zero, List.set_cons_succ])
      have hH := hN
      clear hN
      refine' wpAnyH_take (i := 18) (oi := _) (v := _) ?a163 (by kernel_rfl) (by kernel_rfl) (by kernel_rfl) ?b163 (Or.inl ⟨?c163, fun W hW => ?d163⟩) hH ?e163
      case a163 => (simp only [List.getElem?_toArray, List.getElem?_cons_succ, List.getElem?_cons_zero]; rfl)
      case c163 => rfl
      case d163 => (obtain ⟨h0, h1, h2, h3, h4, h5⟩ := HCELL.out W hW.box; go_simp; try with_reducible rfl)
      case b163 => exact fun _ _ _ h => h
      simp only [Act.put, List.setIfInBounds_toArray, List.set_cons_zero, List.set_cons_succ]
      refine wpAnyH_ready (rs := [23, 28]) (by kernel_rfl) (by simp) ?_
      refine AllReadyH.cons (o := ?o164) ?a164 (fun K hK => ?b164) ?c164
      case a164 => (simp only [List.getElem?_toArray, List.getElem?_cons_succ, List.getElem?_cons_zero]; rfl)
      go_simp
      go_at_call 64
      refine (HL _ _ _ (by first | exact .inl rfl | exact .inr rfl)).mono ?_
      rintro e W164 ⟨⟨t3, rfl, ht3⟩, hb⟩
      (try go_wp2_with fail)
      have hN := hH.call hb
      refine hK.out _ _ hN (fun _ => ?_)
      clear hK K hH hb
      (try simp only [Act.put, List.setIfInBounds_toArray, List.set_cons_zero, List.set_cons_succ])
      have hH := hN
      clear hN
      refine' wpAnyH_take (i := 24) (oi := _) (v := _) ?a165 (by kernel_rfl) (by kernel_rfl) (by kernel_rfl) ?b165 (Or.inl ⟨?c165, fun W hW => ?d165⟩) hH ?e165
      case a165 => (simp only [List.getElem?_toArray, List.getElem?_cons_succ, List.getElem?_cons_zero]; rfl)
      case c165 => rfl
      case d165 => (obtain ⟨h0, h1, h2, h3, h4, h5⟩ := HCELL.out W hW.box; go_simp; try with_reducible rfl)
      case b165 => exact fun _ _ _ h => h
      simp only [Act.put, List.setIfInBounds_toArray, List.set_cons_zero, List.set_cons_succ]
      refine wpAnyH_ready (rs := [28]) (by kernel_rfl) (by simp) ?_
      refine AllReadyH.cons (o := ?o166) ?a166 (fun K hK => ?b166) ?c166
      case a166 => (simp only [List.getElem?_toArray, List.getElem?_cons_succ, List.getElem?_cons_zero]; rfl)
      go_simp
      refine hK.out _ _ (hH.alloc _) (fun _ => ?_)
      clear hK K
      (try simp only [Act.put, List.setIfInBounds_toArray, List.set_cons_zero, List.set_cons_succ])
      refine wpAnyH_more (S' := KS w g0 25 #[.int .i64 v, .int .i64 ch, .int .i64 mp, .int .i64 pre, .int .i64 gn, .int .u32 rate, .int .i64 st, .int .i64 co, .string mapg, .slice M 0 mc] ((W164.heap.size, #[.int .u8 mp]) :: [(g158, #[.int .u8 v, .int .u8 ch])])) (fun _ h => h.less) _ _ _ _ ?_
      have hN := hH.add #[.int .u8 mp]
      clear hH
      generalize W164.heap.size = g166 at hN ⊢
      generalize W164.alloc _ = W166 at hN ⊢
      have hH := hN
      clear hN
      refine' wpAnyH_take (i := 29) (oi := _) (v := (.string (strOfNums [mp]))) ?a167 (by kernel_rfl) (by kernel_rfl) (by kernel_rfl) ?b167 (Or.inl ⟨?c167, fun W hW => ?d167⟩) hH ?e167
      case a167 => (simp only [List.getElem?_toArray, List.getElem?_cons_succ, List.getElem?_cons_zero]; rfl)
      case c167 => rfl
      case d167 => (obtain ⟨h0, h1, h2, h3, h4, h5⟩ := HCELL.out W hW.box; have hc := cv1 (hW.sl (g166, #[.int .u8 mp]) (by simp)); go_simp; try with_reducible rfl)
      case b167 => exact fun _ _ _ h => h
      simp only [Act.put, List.setIfInBounds_toArray, List.set_cons_zero, List.set_cons_succ]
      refine' wpAnyH_take (i := 30) (oi := _) (v := _) ?a168 (by kernel_rfl) (by kernel_rfl) (by kernel_rfl) ?b168 (Or.inl ⟨?c168, fun W hW => ?d168⟩) hH ?e168
      case a168 => (simp only [List.getElem?_toArray, List.getElem?_cons_succ, List.getElem?_cons_zero]; rfl)
      case c168 => rfl
      case d168 => (obtain ⟨h0, h1, h2, h3, h4, h5⟩ := HCELL.out W hW.box; go_simp; try with_reducible rfl)
      case b168 => exact fun _ _ _ h => h
      simp only [Act.put, List.setIfInBounds_toArray, List.set_cons_zero, List.set_cons_succ]
      refine' wpAnyH_take (i := 31) (oi := _) (v := _) ?a169 (by kernel_rfl) (by kernel_rfl) (by kernel_rfl) ?b169 (Or.inl ⟨?c169, fun W hW => ?d169⟩) hH ?e169
      case a169 => (simp only [List.getElem?_toArray, List.getElem?_cons_succ, List.getElem?_cons_zero]; rfl)
      case c169 => rfl
      case d169 => (obtain ⟨h0, h1, h2, h3, h4, h5⟩ := HCELL.out W hW.box; go_simp; try with_reducible rfl)
      case b169 => exact fun _ _ _ h => h
      simp only [Act.put, List.setIfInBounds_toArray, List.set_cons_zero, List.set_cons_succ]
      refine wpAnyH_done (by kernel_rfl) ?_ _
      (try go_wp2_with fail); go_meet
      exact ⟨_, rfl, ⟨t1, t2, t3, ht1, ht2, ht3, rfl⟩, hH.box, hH.old⟩
      exact AllReadyH.nil
      refine AllReadyH.cons (o := ?o170) ?a170 (fun K hK => ?b170) ?c170
      case a170 => (simp only [List.getElem?_toArray, List.getElem?_cons_succ, List.getElem?_cons_zero]; rfl)
      go_simp
      refine hK.out _ _ (hH.alloc _) (fun _ => ?_)
      clear hK K
      (try simp only [Act.put, List.setIfInBounds_toArray, List.set_cons_zero, List.set_cons_succ])
      refine wpAnyH_more (S' := KS w g0 25 #[.int .i64 v, .int .i64 ch, .int .i64 mp, .int .i64 pre, .int .i64 gn, .int .u32 rate, .int .i64 st, .int .i64 co, .string mapg, .slice M 0 mc] ((W162.heap.size, #[.int .u8 mp]) :: [(g158, #[.int .u8 v, .int .u8 ch])])) (fun _ h => h.less) _ _ _ _ ?_
      have hN := hH.add #[.int .u8 mp]
      clear hH
      generalize W162.heap.size = g170 at hN ⊢
      generalize W162.alloc _ = W170 at hN ⊢
      have hH := hN
      clear hN
      refine' wpAnyH_take (i := 29) (oi := _) (v := (.string (strOfNums [mp]))) ?a171 (by kernel_rfl) (by kernel_rfl) (by kernel_rfl) ?b171 (Or.inl ⟨?c171, fun W hW => ?d171⟩) hH ?e171
      case a171 => (simp only [List.getElem?_toArray, List.getElem?_cons_succ, List.getElem?_cons_zero]; rfl)
      case c171 => rfl
      case d171 => (obtain ⟨h0, h1, h2, h3, h4, h5⟩ := HCELL.out W hW.box; have hc := cv1 (hW.sl (g170, #[.int .u8 mp]) (by simp)); go_simp; try with_reducible rfl)
      case b171 => exact fun _ _ _ h => h
      simp only [Act.put, List.setIfInBounds_toArray, List.set_cons_zero, List.set_cons_succ]
      refine wpAnyH_ready (rs := [23]) (by kernel_rfl) (by simp) ?_
      refine AllReadyH.cons (o := ?o172) ?a172 (fun K hK => ?b172) ?c172
      case a172 => (simp only [List.getElem?_toArray, List.getElem?_cons_succ, List.getElem?_cons_zero]; rfl)
      go_simp
      go_at_call 64
      refine (HL _ _ _ (by first | exact .inl rfl | exact .inr rfl)).mono ?_
      rintro e W172 ⟨⟨t3, rfl, ht3⟩, hb⟩
      (try go_wp2_with fail)
      have hN := hH.call hb
      refine hK.out _ _ hN (fun _ => ?_)
      clear hK K hH hb
      (try simp only [Act.put, List.setIfInBounds_toArray, List.set_cons_zero, List.set_cons_succ])
      have hH := hN
      clear hN
      refine' wpAnyH_take (i := 24) (oi := _) (v := _) ?a173 (by kernel_rfl) (by kernel_rfl) (by kernel_rfl) ?b173 (Or.inl ⟨?c173, fun W hW => ?d173⟩) hH ?e173
      case a173 => (simp only [List.getElem?_toArray, List.getElem?_cons_succ, List.getElem?_cons_zero]; rfl)
      case c173 => rfl
      case d173 => (obtain ⟨h0, h1, h2, h3, h4, h5⟩ := HCELL.out W hW.box; go_simp; try with_reducible rfl)
      case b173 => exact fun _ _ _ h => h
      simp only [Act.put, List.setIfInBounds_toArray, List.set_cons_zero, List.set_cons_succ]
      refine' wpAnyH_take (i := 30) (oi := _) (v := _) ?a174 (by kernel_rfl) (by kernel_rfl) (by kernel_rfl) ?b174 (Or.inl ⟨?c174, fun W hW => ?d174⟩) hH ?e174
      case a174 => (simp only [List.getElem?_toArray, List.getElem?_cons_succ, List.getElem?_cons_zero]; rfl)
      case c174 => rfl
      case d174 => (obtain ⟨h0, h1, h2, h3, h4, h5⟩ := HCELL.out W hW.box; go_simp; try with_reducible rfl)
      case b174 => exact fun _ _ _ h => h
      simp only [Act.put, List.setIfInBounds_toArray, List.set_cons_zero, List.set_cons_succ]
      refine' wpAnyH_take (i := 31) (oi := _) (v := _) ?a175 (by kernel_rfl) (by kernel_rfl) (by kernel_rfl) ?b175 (Or.inl ⟨?c175, fun W hW => ?d175⟩) hH ?e175
      case a175 => (simp only [List.getElem?_toArray, List.getElem?_cons_succ, List.getElem?_cons_zero]; rfl)
      case c175 => rfl
      case d175 => (obtain ⟨h0, h1, h2, h3, h4, h5⟩ := HCELL.out W hW.box; go_simp; try with_reducible rfl)
      case b175 => exact fun _ _ _ h => h
      simp only [Act.put, List.setIfInBounds_toArray, List.set_cons_zero, List.set_cons_succ]
      refine wpAnyH_done (by kernel_rfl) ?_ _
      (try go_wp2_with fail); go_meet
      exact ⟨_, rfl, ⟨t1, t2, t3, ht1, ht2, ht3, rfl⟩, hH.box, hH.old⟩
      exact AllReadyH.nil
      exact AllReadyH.nil
      refine AllReadyH.cons (o := ?o176) ?a176 (fun K hK => ?b176) ?c176
      case a176 => (simp only [List.getElem?_toArray, List.getElem?_cons_succ, List.getElem?_cons_zero]; rfl)
      go_simp
      refine hK.out _ _ (hH.alloc _) (fun _ => ?_)
      clear hK K
      (try simp only [Act.put, List.setIfInBounds_toArray, List.set_cons_zero, List.set_cons_succ])
      refine wpAnyH_more (S' := KS w g0 25 #[.int .i64 v, .int .i64 ch, .int .i64 mp, .int .i64 pre, .int .i64 gn, .int .u32 rate, .int .i64 st, .int .i64 co, .string mapg, .slice M 0 mc] ((W158.heap.size, #[.int .u8 mp]) :: [(g158, #[.int .u8 v, .int .u8 ch])])) (fun _ h => h.less) _ _ _ _ ?_
      have hN := hH.add #[.int .u8 mp]
      clear hH
      generalize W158.heap.size = g176 at hN ⊢
      generalize W158.alloc _ = W176 at hN ⊢
      have hH := hN
      clear hN
      refine' wpAnyH_take (i := 29) (oi := _) (v := (.string (strOfNums [mp]))) ?a177 (by kernel_rfl) (by kernel_rfl) (by kernel_rfl) ?b177 (Or.inl ⟨?c177, fun W hW => ?d177⟩) hH ?e177
      case a177 => (simp only [List.getElem?_toArray, List.getElem?_cons_succ, List.getElem?_cons_zero]; rfl)
      case c177 => rfl
      case d177 => (obtain ⟨h0, h1, h2, h3, h4, h5⟩ := HCELL.out W hW.box; have hc := cv1 (hW.sl (g176, #[.int .u8 mp]) (by simp)); go_simp; try with_reducible rfl)
      case b177 => exact fun _ _ _ h => h
      simp only [Act.put, List.setIfInBounds_toArray, List.set_cons_zero, List.set_cons_succ]
      refine wpAnyH_ready (rs := [17]) (by kernel_rfl) (by simp) ?_
      refine AllReadyH.cons (o := ?o178) ?a178 (fun K hK => ?b178) ?c178
      case a178 => (simp only [List.getElem?_toArray, List.getElem?_cons_succ, List.getElem?_cons_zero]; rfl)
      go_simp
      go_at_call 64
      refine (HL _ _ _ (by first | exact .inl rfl | exact .inr rfl)).mono ?_
      rintro e W178 ⟨⟨t2, rfl, ht2⟩, hb⟩
      (try go_wp2_with fail)
      have hN := hH.call hb
      refine hK.out _ _ hN (fun _ => ?_)
      clear hK K hH hb
      (try simp only [Act.put, List.setIfInBounds_toArray, List.set_cons_zero, List.set_cons_succ])
      have hH := hN
      clear hN
      refine' wpAnyH_take (i := 18) (oi := _) (v := _) ?a179 (by kernel_rfl) (by kernel_rfl) (by kernel_rfl) ?b179 (Or.inl ⟨?c179, fun W hW => ?d179⟩) hH ?e179
      case a179 => (simp only [List.getElem?_toArray, List.getElem?_cons_succ, List.getElem?_cons_zero]; rfl)
      case c179 => rfl
      case d179 => (obtain ⟨h0, h1, h2, h3, h4, h5⟩ := HCELL.out W hW.box; go_simp; try with_reducible rfl)
      case b179 => exact fun _ _ _ h => h
      simp only [Act.put, List.setIfInBounds_toArray, List.set_cons_zero, List.set_cons_succ]
      refine wpAnyH_ready (rs := [23]) (by kernel_rfl) (by simp) ?_
      refine AllReadyH.cons (o := ?o180) ?a180 (fun K hK => ?b180) ?c180
      case a180 => (simp only [List.getElem?_toArray, List.getElem?_cons_succ, List.getElem?_cons_zero]; rfl)
      go_simp
      go_at_call 64
      refine (HL _ _ _ (by first | exact .inl rfl | exact .inr rfl)).mono ?_
      rintro e W180 ⟨⟨t3, rfl, ht3⟩, hb⟩
      (try go_wp2_with fail)
      have hN := hH.call hb
      refine hK.out _ _ hN (fun _ => ?_)
      clear hK K hH hb
      (try simp only [Act.put, List.setIfInBounds_toArray, List.set_cons_zero, List.set_cons_succ])
      have hH := hN
      clear hN
      refine' wpAnyH_take (i := 24) (oi := _) (v := _) ?a181 (by kernel_rfl) (by kernel_rfl) (by kernel_rfl) ?b181 (Or.inl ⟨?c181, fun W hW => ?d181⟩) hH ?e181
      case a181 => (simp only [List.getElem?_toArray, List.getElem?_cons_succ, List.getElem?_cons_zero]; rfl)
      case c181 => rfl
      case d181 => (obtain ⟨h0, h1, h2, h3, h4, h5⟩ := HCELL.out W hW.box; go_simp; try with_reducible rfl)
      case b181 => exact fun _ _ _ h => h
      simp only [Act.put, List.setIfInBounds_toArray, List.set_cons_zero, List.set_cons_succ]
      refine' wpAnyH_take (i := 30) (oi := _) (v := _) ?a182 (by kernel_rfl) (by kernel_rfl) (by kernel_rfl) ?b182 (Or.inl ⟨?c182, fun W hW => ?d182⟩) hH ?e182
      case a182 => (simp only [List.getElem?_toArray, List.getElem?_cons_succ, List.getElem?_cons_zero]; rfl)
      case c182 => rfl
      case d182 => (obtain ⟨h0, h1, h2, h3, h4, h5⟩ := HCELL.out W hW.box; go_simp; try with_reducible rfl)
      case b182 => exact fun _ _ _ h => h
      simp only [Act.put, List.setIfInBounds_toArray, List.set_cons_zero, List.set_cons_succ]
      refine' wpAnyH_take (i := 31) (oi := _) (v := _) ?a183 (by kernel_rfl) (by kernel_rfl) (by kernel_rfl) ?b183 (Or.inl ⟨?c183, fun W hW => ?d183⟩) hH ?e183
      case a183 => (simp only [List.getElem?_toArray, List.getElem?_cons_succ, List.getElem?_cons_zero]; rfl)
      case c183 => rfl
      case d183 => (obtain ⟨h0, h1, h2, h3, h4, h5⟩ := HCELL.out W hW.box; go_simp; try with_reducible rfl)
      case b183 => exact fun _ _ _ h => h
      simp only [Act.put, List.setIfInBounds_toArray, List.set_cons_zero, List.set_cons_succ]
      refine wpAnyH_done (by kernel_rfl) ?_ _
      (try go_wp2_with fail); go_meet
      exact ⟨_, rfl, ⟨t1, t2, t3, ht1, ht2, ht3, rfl⟩, hH.box, hH.old⟩
      exact AllReadyH.nil
      exact AllReadyH.nil
      exact AllReadyH.nil
      refine AllReadyH.cons (o := ?o184) ?a184 (fun K hK => ?b184) ?c184
      case a184 => (simp only [List.getElem?_toArray, List.getElem?_cons_succ, List.getElem?_cons_zero]; rfl)
      go_simp
      go_at_call 64
      refine (HL _ _ _ (by first | exact .inl rfl | exact .inr rfl)).mono ?_
      rintro e W184 ⟨⟨t2, rfl, ht2⟩, hb⟩
      (try go_wp2_with fail)
      have hN := hH.call hb
      refine hK.out _ _ hN (fun _ => ?_)
      clear hK K hH hb
      (try simp only [Act.put, List.setIfInBounds_toArray, List.set_cons_zero, List.set_cons_succ])
      have hH := hN
      clear hN
      refine wpAnyH_ready (rs := [6, 23, 28]) (by kernel_rfl) (by simp) ?_
      refine AllReadyH.cons (o := ?o185) ?a185 (fun K hK => ?b185) ?c185
      case a185 => (simp only [List.getElem?_toArray, List.getElem?_cons_succ, List.getElem?_cons_zero]; rfl)
      go_simp
      refine hK.out _ _ (hH.alloc _) (fun _ => ?_)
      clear hK K
      (try simp only [Act.put, List.setIfInBounds_toArray, List.set_cons_zero, List.set_cons_succ])
      refine wpAnyH_more (S' := KS w g0 25 #[.int .i64 v, .int .i64 ch, .int .i64 mp, .int .i64 pre, .int .i64 gn, .int .u32 rate, .int .i64 st, .int .i64 co, .string mapg, .slice M 0 mc] ((W184.heap.size, #[.int .u8 v, .int .u8 ch]) :: [])) (fun _ h => h.less) _ _ _ _ ?_
      have hN := hH.add #[.int .u8 v, .int .u8 ch]
      clear hH
      generalize W184.heap.size = g185 at hN ⊢
      generalize W184.alloc _ = W185 at hN ⊢
      have hH := hN
      clear hN
      refine' wpAnyH_take (i := 7) (oi := _) (v := (.string (strOfNums [v, ch]))) ?a186 (by kernel_rfl) (by kernel_rfl) (by kernel_rfl) ?b186 (Or.inl ⟨?c186, fun W hW => ?d186⟩) hH ?e186
      case a186 => (simp only [List.getElem?_toArray, List.getElem?_cons_succ, List.getElem?_cons_zero]; rfl)
      case c186 => rfl
      case d186 => (obtain ⟨h0, h1, h2, h3, h4, h5⟩ := HCELL.out W hW.box; have hc := cv2 (hW.sl (g185, #[.int .u8 v, .int .u8 ch]) (by simp)); go_simp; try with_reducible rfl)
      case b186 => exact fun _ _ _ h => h
      simp only [Act.put, List.setIfInBounds_toArray, List.set_cons_zero, List.set_cons_succ]
      refine' wpAnyH_take (i := 8) (oi := _) (v := _) ?a187 (by kernel_rfl) (by kernel_rfl) (by kernel_rfl) ?b187 (Or.inl ⟨?c187, fun W hW => ?d187⟩) hH ?e187
      case a187 => (simp only [List.getElem?_toArray, List.getElem?_cons_succ, List.getElem?_cons_zero]; rfl)
      case c187 => rfl
      case d187 => (obtain ⟨h0, h1, h2, h3, h4, h5⟩ := HCELL.out W hW.box; go_simp; try with_reducible rfl)
      case b187 => exact fun _ _ _ h => h
      simp only [Act.put, List.setIfInBounds_toArray, List.set_cons_zero, List.set_cons_succ]
      refine' wpAnyH_take (i := 13) (oi := _) (v := _) ?a188 (by kernel_rfl) (by kernel_rfl) (by kernel_rfl) ?b188 (Or.inl ⟨?c188, fun W hW => ?d188⟩) hH ?e188
      case a188 => (simp only [List.getElem?_toArray, List.getElem?_cons_succ, List.getElem?_cons_zero]; rfl)
      case c188 => rfl
      case d188 => (obtain ⟨h0, h1, h2, h3, h4, h5⟩ := HCELL.out W hW.box; go_simp; try with_reducible rfl)
      case b188 => exact fun _ _ _ h => h
      simp only [Act.put, List.setIfInBounds_toArray, List.set_cons_zero, List.set_cons_succ]
      refine' wpAnyH_take (i := 18) (oi := _) (v := _) ?a189 (by kernel_rfl) (by kernel_rfl) (by kernel_rfl) ?b189 (Or.inl ⟨?c189, fun W hW => ?d189⟩) hH ?e189
      case a189 => (simp only [List.getElem?_toArray, List.getElem?_cons_succ, List.getElem?_cons_zero]; rfl)
      case c189 => rfl
      case d189 => (obtain ⟨h0, h1, h2, h3, h4, h5⟩ := HCELL.out W hW.box; go_simp; try with_reducible rfl)
      case b189 => exact fun _ _ _ h => h
      simp only [Act.put, List.setIfInBounds_toArray, List.set_cons_zero, List.set_cons_succ]
      refine wpAnyH_ready (rs := [23, 28]) (by kernel_rfl) (by simp) ?_
      refine AllReadyH.cons (o := ?o190) ?a190 (fun K hK => ?b190) ?c190
      case a190 => (simp only [List.getElem?_toArray, List.getElem?_cons_succ, List.getElem?_cons_zero]; rfl)
      go_simp
      go_at_call 64
      refine (HL _ _ _ (by first | exact .inl rfl | exact .inr rfl)).mono ?_
      rintro e W190 ⟨⟨t3, rfl, ht3⟩, hb⟩
      (try go_wp2_with fail)
      have hN := hH.call hb
      refine hK.out _ _ hN (fun _ => ?_)
      clear hK K hH hb
      (try simp only [Act.put, List.setIfInBounds_toArray, List.set_cons_zero, List.set_cons_succ])
      have hH := hN
      clear hN
      refine' wpAnyH_take (i := 24) (oi := _) (v := _) ?a191 (by kernel_rfl) (by kernel_rfl) (by kernel_rfl) ?b191 (Or.inl ⟨?c191, fun W hW => ?d191⟩) hH ?e191
      case a191 => (simp only [List.getElem?_toArray, List.getElem?_cons_succ, List.getElem?_cons_zero]; rfl)
      case c191 => rfl
      case d191 => (obtain ⟨h0, h1, h2, h3, h4, h5⟩ := HCELL.out W hW.box; go_simp; try with_reducible rfl)
      case b191 => exact fun _ _ _ h => h
      simp only [Act.put, List.setIfInBounds_toArray, List.set_cons_zero, List.set_cons_succ]
      refine wpAnyH_ready (rs := [28]) (by kernel_rfl) (by simp) ?_
      refine AllReadyH.cons (o := ?o192) ?a192 (fun K hK => ?b192) ?c192
      case a192 => (simp only [List.getElem?_toArray, List.getElem?_cons_succ, List.getElem?_cons_zero]; rfl)
      go_simp
      refine hK.out _ _ (hH.alloc _) (fun _ => ?_)
      clear hK K
      (try simp only [Act.put, List.setIfInBounds_toArray, List.set_cons_zero, List.set_cons_succ])
      refine wpAnyH_more (S' := KS w g0 25 #[.int .i64 v, .int .i64 ch, .int .i64 mp, .int .i64 pre, .int .i64 gn, .int .u32 rate, .int .i64 st, .int .i64 co, .string mapg, .slice M 0 mc] ((W190.heap.size, #[.int .u8 mp]) :: [(g185, #[.int .u8 v, .int .u8 ch])])) (fun _ h => h.less) _ _ _ _ ?_
      have hN := hH.add #[.int .u8 mp]
      clear hH
      generalize W190.heap.size = g192 at hN ⊢
      generalize W190.alloc _ = W192 at hN ⊢
      have hH := hN
      clear hN
      refine' wpAnyH_take (i := 29) (oi := _) (v := (.string (strOfNums [mp]))) ?a193 (by kernel_rfl) (by kernel_rfl) (by kernel_rfl) ?b193 (Or.inl ⟨?c193, fun W hW => ?d193⟩) hH ?e193
      case a193 => (simp only [List.getElem?_toArray, List.getElem?_cons_succ, List.getElem?_cons_zero]; rfl)
      case c193 => rfl
      case d193 => (obtain ⟨h0, h1, h2, h3, h4, h5⟩ := HCELL.out W hW.box; have hc := cv1 (hW.sl (g192, #[.int .u8 mp]) (by simp)); go_simp; try with_reducible rfl)
      case b193 => exact fun _ _ _ h => h
      simp only [Act.put, List.setIfInBounds_toArray, List.set_cons_zero, List.set_cons_succ]
      refine' wpAnyH_take (i := 30) (oi := _) (v := _) ?a194 (by kernel_rfl) (by kernel_rfl) (by kernel_rfl) ?b194 (Or.inl ⟨?c194, fun W hW => ?d194⟩) hH ?e194
      case a194 => (simp only [List.getElem?_toArray, List.getElem?_cons_succ, List.getElem?_cons_zero]; rfl)
      case c194 => rfl
      case d194 => (obtain ⟨h0, h1, h2, h3, h4, h5⟩ := HCELL.out W hW.box; go_simp; try with_reducible rfl)
      case b194 => exact fun _ _ _ h => h
      simp only [Act.put, List.setIfInBounds_toArray, List.set_cons_zero, List.set_cons_succ]
      refine' wpAnyH_take (i := 31) (oi := _) (v := _) ?a195 (by kernel_rfl) (by kernel_rfl) (by kernel_rfl) ?b195 (Or.inl ⟨?c195, fun W hW => ?d195⟩) hH ?e195
      case a195 => (simp only [List.getElem?_toArray, List.getElem?_cons_succ, List.getElem?_cons_zero]; rfl)
      case c195 => rfl
      case d195 => (obtain ⟨h0, h1, h2, h3, h4, h5⟩ := HCELL.out W hW.box; go_simp; try with_reducible rfl)
      case b195 => exact fun _ _ _ h => h
      simp only [Act.put, List.setIfInBounds_toArray, List.set_cons_zero, List.set_cons_succ]
      refine wpAnyH_done (by kernel_rfl) ?_ _
      (try go_wp2_with fail); go_meet
      exact ⟨_, rfl, ⟨t1, t2, t3, ht1, ht2, ht3, rfl⟩, hH.box, hH.old⟩
      exact AllReadyH.nil
      refine AllReadyH.cons (o := ?o196) ?a196 (fun K hK => ?b196) ?c196
      case a196 => (simp only [List.getElem?_toArray, List.getElem?_cons_succ, List.getElem?_cons_zero]; rfl)
      go_simp
      refine hK.out _ _ (hH.alloc _) (fun _ => ?_)
      clear hK K
      (try simp only [Act.put, List.setIfInBounds_toArray, List.set_cons_zero, List.set_cons_succ])
      refine wpAnyH_more (S' := KS w g0 25 #[.int .i64 v, .int .i64 ch, .int .i64 mp, .int .i64 pre, .int .i64 gn, .int .u32 rate, .int .i64 st, .int .i64 co, .string mapg, .slice M 0 mc] ((W185.heap.size, #[.int .u8 mp]) :: [(g185, #[.int .u8 v, .int .u8 ch])])) (fun _ h => h.less) _ _ _ _ ?_
      have hN := hH.add #[.int .u8 mp]
      clear hH
      generalize W185.heap.size = g196 at hN ⊢
      generalize W185.alloc _ = W196 at hN ⊢
      have hH := hN
      clear hN
      refine' wpAnyH_take (i := 29) (oi := _) (v := (.string (strOfNums [mp]))) ?a197 (by kernel_rfl) (by kernel_rfl) (by kernel_rfl) ?b197 (Or.inl ⟨?c197, fun W hW => ?d197⟩) hH ?e197
      case a197 => (simp only [List.getElem?_toArray, List.getElem?_cons_succ, List.getElem?_cons_zero]; rfl)
      case c197 => rfl
      case d197 => (obtain ⟨h0, h1, h2, h3, h4, h5⟩ := HCELL.out W hW.box; have hc := cv1 (hW.sl (g196, #[.int .u8 mp]) (by simp)); go_simp; try with_reducible rfl)
      case b197 => exact fun _ _ _ h => h
      simp only [Act.put, List.setIfInBounds_toArray, List.set_cons_zero, List.set_cons_succ]
      refine wpAnyH_ready (rs := [23]) (by kernel_rfl) (by simp) ?_
      refine AllReadyH.cons (o := ?o198) ?a198 (fun K hK => ?b198) ?c198
      case a198 => (simp only [List.getElem?_toArray, List.getElem?_cons_succ, List.getElem?_cons_zero]; rfl)
      go_simp
      go_at_call 64
      refine (HL _ _ _ (by first | exact .inl rfl | exact .inr rfl)).mono ?_
      rintro e W198 ⟨⟨t3, rfl, ht3⟩, hb⟩
      (try go_wp2_with fail)
      have hN := hH.call hb
      refine hK.out _ _ hN (fun _ => ?_)
      clear hK K hH hb
      (try simp only [Act.put, List.setIfInBounds_toArray, List.set_cons_zero, List.set_cons_succ])
      have hH := hN
      clear hN
      refine' wpAnyH_take (i := 24) (oi := _) (v := _) ?a199 (by kernel_rfl) (by kernel_rfl) (by kernel_rfl) ?b199 (Or.inl ⟨?c199, fun W hW => ?d199⟩) hH ?e199
      case a199 => (simp only [List.getElem?_toArray, List.getElem?_cons_succ, List.getElem?_cons_zero]; rfl)
      case c199 => rfl
      case d199 => (obtain ⟨h0, h1, h2, h3, h4, h5⟩ := HCELL.out W hW.box; go_simp; try with_reducible rfl)
      case b199 => exact fun _ _ _ h => h
      simp only [Act.put, List.setIfInBounds_toArray, List.set_cons_zero, List.set_cons_succ]
      refine' wpAnyH_take (i := 30) (oi := _) (v := _) ?a200 (by kernel_rfl) (by kernel_rfl) (by kernel_rfl) ?b200 (Or.inl ⟨?c200, fun W hW => ?d200⟩) hH ?e200
      case a200 => (simp only [List.getElem?_toArray, List.getElem?_cons_succ, List.getElem?_cons_zero]; rfl)
      case c200 => rfl
      case d200 => (obtain ⟨h0, h1, h2, h3, h4, h5⟩ := HCELL.out W hW.box; go_simp; try with_reducible rfl)
      case b200 => exact fun _ _ _ h => h
      simp only [Act.put, List.setIfInBounds_toArray, List.set_cons_zero, List.set_cons_succ]
      refine' wpAnyH_take (i := 31) (oi := _) (v := _) ?a201 (by kernel_rfl) (by kernel_rfl) (by kernel_rfl) ?b201 (Or.inl ⟨?c201, fun W hW => ?d201⟩) hH ?e201
      case a201 => (simp only [List.getElem?_toArray, List.getElem?_cons_succ, List.getElem?_cons_zero]; rfl)
      case c201 => rfl
      case d201 => (obtain ⟨h0, h1, h2, h3, h4, h5⟩ := HCELL.out W hW.box; go_simp; try with_reducible rfl)
      case b201 => exact fun _ _ _ h => h
      simp only [Act.put, List.setIfInBounds_toArray, List.set_cons_zero, List.set_cons_succ]
      refine wpAnyH_done (by kernel_rfl) ?_ _
      (try go_wp2_with fail); go_meet
      exact ⟨_, rfl, ⟨t1, t2, t3, ht1, ht2, ht3, rfl⟩, hH.box, hH.old⟩
      exact AllReadyH.nil
      exact AllReadyH.nil
      refine AllReadyH.cons (o := ?o202) ?a202 (fun K hK => ?b202) ?c202
      case a202 => (simp only [List.getElem?_toArray, List.getElem?_cons_succ, List.getElem?_cons_zero]; rfl)
      go_simp
      go_at_call 64
      refine (HL _ _ _ (by first | exact .inl rfl | exact .inr rfl)).mono ?_
      rintro e W202 ⟨⟨t3, rfl, ht3⟩, hb⟩
      (try go_wp2_with fail)
      have hN := hH.call hb
      refine hK.out _ _ hN (fun _ => ?_)
      clear hK K hH hb
      (try simp only [Act.put, List.setIfInBounds_toArray, List.set_cons_zero, List.set_cons_succ])
      have hH := hN
      clear hN
      refine wpAnyH_ready (rs := [6, 28]) (by kernel_rfl) (by simp) ?_
      refine AllReadyH.cons (o := ?o203) ?a203 (fun K hK => ?b203) ?c203
      case a203 => (simp only [List.getElem?_toArray, List.getElem?_cons_succ, List.getElem?_cons_zero]; rfl)
      go_simp
      refine hK.out _ _ (hH.alloc _) (fun _ => ?_)
      clear hK K
      (try simp only [Act.put, List.setIfInBounds_toArray, List.set_cons_zero, List.set_cons_succ])
      refine wpAnyH_more (S' := KS w g0 25 #[.int .i64 v, .int .i64 ch, .int .i64 mp, .int .i64 pre, .int .i64 gn, .int .u32 rate, .int .i64 st, .int .i64 co, .string mapg, .slice M 0 mc] ((W202.heap.size, #[.int .u8 v, .int .u8 ch]) :: [])) (fun _ h => h.less) _ _ _ _ ?_
      have hN := hH.add #[.int .u8 v, .int .u8 ch]
      clear hH
      generalize W202.heap.size = g203 at hN ⊢
      generalize W202.alloc _ = W203 at hN ⊢
      have hH := hN
      clear hN
      refine' wpAnyH_take (i := 7) (oi := _) (v := (.string (strOfNums [v, ch]))) ?a204 (by kernel_rfl) (by kernel_rfl) (by kernel_rfl) ?b204 (Or.inl ⟨?c204, fun W hW => ?d204⟩) hH ?e204
      case a204 => (simp only [List.getElem?_toArray, List.getElem?_cons_succ, List.getElem?_cons_zero]; rfl)
      case c204 => rfl
      case d204 => (obtain ⟨h0, h1, h2, h3, h4, h5⟩ := HCELL.out W hW.box; have hc := cv2 (hW.sl (g203, #[.int .u8 v, .int .u8 ch]) (by simp)); go_simp; try with_reducible rfl)
      case b204 => exact fun _ _ _ h => h
      simp only [Act.put, List.setIfInBounds_toArray, List.set_cons_zero, List.set_cons_succ]
      refine' wpAnyH_take (i := 8) (oi := _) (v := _) ?a205 (by kernel_rfl) (by kernel_rfl) (by kernel_rfl) ?b205 (Or.inl ⟨?c205, fun W hW => ?d205⟩) hH ?e205
      case a205 => (simp only [List.getElem?_toArray, List.getElem?_cons_succ, List.getElem?_cons_zero]; rfl)
      case c205 => rfl
      case d205 => (obtain ⟨h0, h1, h2, h3, h4, h5⟩ := HCELL.out W hW.box; go_simp; try with_reducible rfl)
      case b205 => exact fun _ _ _ h => h
      simp only [Act.put, List.setIfInBounds_toArray, List.set_cons_zero, List.set_cons_succ]
      refine' wpAnyH_take (i := 13) (oi := _) (v := _) ?a206 (by kernel_rfl) (by kernel_rfl) (by kernel_rfl) ?b206 (Or.inl ⟨?c206, fun W hW => ?d206⟩) hH ?e206
      case a206 => (simp only [List.getElem?_toArray, List.getElem?_cons_succ, List.getElem?_cons_zero]; rfl)
      case c206 => rfl
      case d206 => (obtain ⟨h0, h1, h2, h3, h4, h5⟩ := HCELL.out W hW.box; go_simp; try with_reducible rfl)
      case b206 => exact fun _ _ _ h => h
      simp only [Act.put, List.setIfInBounds_toArray, List.set_cons_zero, List.set_cons_succ]
      refine' wpAnyH_take (i := 18) (oi := _) (v := _) ?a207 (by kernel_rfl) (by kernel_rfl) (by kernel_rfl) ?b207 (Or.inl ⟨?c207, fun W hW => ?d207⟩) hH ?e207
      case a207 => (simp only [List.getElem?_toArray, List.getElem?_cons_succ, List.getElem?_cons_zero]; rfl)
      case c207 => rfl
      case d207 => (obtain ⟨h0, h1, h2, h3, h4, h5⟩ := HCELL.out W hW.box; go_simp; try with_reducible rfl)
      case b207 => exact fun _ _ _ h => h
      simp only [Act.put, List.setIfInBounds_toArray, List.set_cons_zero, List.set_cons_succ]
      refine' wpAnyH_take (i := 24) (oi := _) (v := _) ?a208 (by kernel_rfl) (by kernel_rfl) (by kernel_rfl) ?b208 (Or.inl ⟨?c208, fun W hW => ?d208⟩) hH ?e208
      case a208 => (simp only [List.getElem?_toArray, List.getElem?_cons_succ, List.getElem?_cons_zero]; rfl)
      case c208 => rfl
      case d208 => (obtain ⟨h0, h1, h2, h3, h4, h5⟩ := HCELL.out W hW.box; go_simp; try with_reducible rfl)
      case b208 => exact fun _ _ _ h => h
      simp only [Act.put, List.setIfInBounds_toArray, List.set_cons_zero, List.set_cons_succ]
      refine wpAnyH_ready (rs := [28]) (by kernel_rfl) (by simp) ?_
      refine AllReadyH.cons (o := ?o209) ?a209 (fun K hK => ?b209) ?c209
      case a209 => (simp only [List.getElem?_toArray, List.getElem?_cons_succ, List.getElem?_cons_zero]; rfl)
      go_simp
      refine hK.out _ _ (hH.alloc _) (fun _ => ?_)
      clear hK K
      (try simp only [Act.put, List.setIfInBounds_toArray, List.set_cons_zero, List.set_cons_succ])
      refine wpAnyH_more (S' := KS w g0 25 #[.int .i64 v, .int .i64 ch, .int .i64 mp, .int .i64 pre, .int .i64 gn, .int .u32 rate, .int .i64 st, .int .i64 co, .string mapg, .slice M 0 mc] ((W203.heap.size, #[.int .u8 mp]) :: [(g203, #[.int .u8 v, .int .u8 ch])])) (fun _ h => h.less) _ _ _ _ ?_
      have hN := hH.add #[.int .u8 mp]
      clear hH
      generalize W203.heap.size = g209 at hN ⊢
      generalize W203.alloc _ = W209 at hN ⊢
      have hH := hN
      clear hN
      refine' wpAnyH_take (i := 29) (oi := _) (v := (.string (strOfNums [mp]))) ?a210 (by kernel_rfl) (by kernel_rfl) (by kernel_rfl) ?b210 (Or.inl ⟨?c210, fun W hW => ?d210⟩) hH ?e210
      case a210 => (simp only [List.getElem?_toArray, List.getElem?_cons_succ, List.getElem?_cons_zero]; rfl)
      case c210 => rfl
      case d210 => (obtain ⟨h0, h1, h2, h3, h4, h5⟩ := HCELL.out W hW.box; have hc := cv1 (hW.sl (g209, #[.int .u8 mp]) (by simp)); go_simp; try with_reducible rfl)
      case b210 => exact fun _ _ _ h => h
      simp only [Act.put, List.setIfInBounds_toArray, List.set_cons_zero, List.set_cons_succ]
      refine' wpAnyH_take (i := 30) (oi := _) (v := _) ?a211 (by kernel_rfl) (by kernel_rfl) (by kernel_rfl) ?b211 (Or.inl ⟨?c211, fun W hW => ?d211⟩) hH ?e211
      case a211 => (simp only [List.getElem?_toArray, List.getElem?_cons_succ, List.getElem?_cons_zero]; rfl)
      case c211 => rfl
      case d211 => (obtain ⟨h0, h1, h2, h3, h4, h5⟩ := HCELL.out W hW.box; go_simp; try with_reducible rfl)
      case b211 => exact fun _ _ _ h => h
      simp only [Act.put, List.setIfInBounds_toArray, List.set_cons_zero, List.set_cons_succ]
      refine' wpAnyH_take (i := 31) (oi := _) (v := _) ?a212 (by kernel_rfl) (by kernel_rfl) (by kernel_rfl) ?b212 (Or.inl ⟨?c212, fun W hW => ?d212⟩) hH ?e212
      case a212 => (simp only [List.getElem?_toArray, List.getElem?_cons_succ, List.getElem?_cons_zero]; rfl)
      case c212 => rfl
      case d212 => (obtain ⟨h0, h1, h2, h3, h4, h5⟩ := HCELL.out W hW.box; go_simp; try with_reducible rfl)
      case b212 => exact fun _ _ _ h => h
      simp only [Act.put, List.setIfInBounds_toArray, List.set_cons_zero, List.set_cons_succ]
      refine wpAnyH_done (by kernel_rfl) ?_ _
      (try go_wp2_with fail); go_meet
      exact ⟨_, rfl, ⟨t1, t2, t3, ht1, ht2, ht3, rfl⟩, hH.box, hH.old⟩
      exact AllReadyH.nil
      refine AllReadyH.cons (o := ?o213) ?a213 (fun K hK => ?b213) ?c213
      case a213 => (simp only [List.getElem?_toArray, List.getElem?_cons_succ, List.getElem?_cons_zero]; rfl)
      go_simp
      refine hK.out _ _ (hH.alloc _) (fun _ => ?_)
      clear hK K
      (try simp only [Act.put, List.setIfInBounds_toArray, List.set_cons_zero, List.set_cons_succ])
      refine wpAnyH_more (S' := KS w g0 25 #[.int .i64 v, .int .i64 ch, .int .i64 mp, .int .i64 pre, .int .i64 gn, .int .u32 rate, .int .i64 st, .int .i64 co, .string mapg, .slice M 0 mc] ((W202.heap.size, #[.int .u8 mp]) :: [])) (fun _ h => h.less) _ _ _ _ ?_
      have hN := hH.add #[.int .u8 mp]
      clear hH
      generalize W202.heap.size = g213 at hN ⊢
      generalize W202.alloc _ = W213 at hN ⊢
      have hH := hN
      clear hN
      refine' wpAnyH_take (i := 29) (oi := _) (v := (.string (strOfNums [mp]))) ?a214 (by kernel_rfl) (by kernel_rfl) (by kernel_rfl) ?b214 (Or.inl ⟨?c214, fun W hW => ?d214⟩) hH ?e214
      case a214 => (simp only [List.getElem?_toArray, List.getElem?_cons_succ, List.getElem?_cons_zero]; rfl)
      case c214 => rfl
      case d214 => (obtain ⟨h0, h1, h2, h3, h4, h5⟩ := HCELL.out W hW.box; have hc := cv1 (hW.sl (g213, #[.int .u8 mp]) (by simp)); go_simp; try with_reducible rfl)
      case b214 => exact fun _ _ _ h => h
      simp only [Act.put, List.setIfInBounds_toArray, List.set_cons_zero, List.set_cons_succ]
      refine wpAnyH_ready (rs := [6]) (by kernel_rfl) (by simp) ?_
      refine AllReadyH.cons (o := ?o215) ?a215 (fun K hK => ?b215) ?c215
      case a215 => (simp only [List.getElem?_toArray, List.getElem?_cons_succ, List.getElem?_cons_zero]; rfl)
      go_simp
      refine hK.out _ _ (hH.alloc _) (fun _ => ?_)
      clear hK K
      (try simp only [Act.put, List.setIfInBounds_toArray, List.set_cons_zero, List.set_cons_succ])
      refine wpAnyH_more (S' := KS w g0 25 #[.int .i64 v, .int .i64 ch, .int .i64 mp, .int .i64 pre, .int .i64 gn, .int .u32 rate, .int .i64 st, .int .i64 co, .string mapg, .slice M 0 mc] ((W213.heap.size, #[.int .u8 v, .int .u8 ch]) :: [(g213, #[.int .u8 mp])])) (fun _ h => h.less) _ _ _ _ ?_
      have hN := hH.add #[.int .u8 v, .int .u8 ch]
      clear hH
      generalize W213.heap.size = g215 at hN ⊢
      generalize W213.alloc _ = W215 at hN ⊢
      have hH := hN
      clear hN
      refine' wpAnyH_take (i := 7) (oi := _) (v := (.string (strOfNums [v, ch]))) ?a216 (by kernel_rfl) (by kernel_rfl) (by kernel_rfl) ?b216 (Or.inl ⟨?c216, fun W hW => ?d216⟩) hH ?e216
      case a216 => (simp only [List.getElem?_toArray, List.getElem?_cons_succ, List.getElem?_cons_zero]; rfl)
      case c216 => rfl
      case d216 => (obtain ⟨h0, h1, h2, h3, h4, h5⟩ := HCELL.out W hW.box; have hc := cv2 (hW.sl (g215, #[.int .u8 v, .int .u8 ch]) (by simp)); go_simp; try with_reducible rfl)
      case b216 => exact fun _ _ _ h => h
      simp only [Act.put, List.setIfInBounds_toArray, List.set_cons_zero, List.set_cons_succ]
      refine' wpAnyH_take (i := 8) (oi := _) (v := _) ?a217 (by kernel_rfl) (by kernel_rfl) (by kernel_rfl) ?b217 (Or.inl ⟨?c217, fun W hW => ?d217⟩) hH ?e217
      case a217 => (simp only [List.getElem?_toArray, List.getElem?_cons_succ, List.getElem?_cons_zero]; rfl)
      case c217 => rfl
      case d217 => (obtain ⟨h0, h1, h2, h3, h4, h5⟩ := HCELL.out W hW.box; go_simp; try with_reducible rfl)
      case b217 => exact fun _ _ _ h => h
      simp only [Act.put, List.setIfInBounds_toArray, List.set_cons_zero, List.set_cons_succ]
      refine' wpAnyH_take (i := 13) (oi := _) (v := _) ?a218 (by kernel_rfl) (by kernel_rfl) (by kernel_rfl) ?b218 (Or.inl ⟨?c218, fun W hW => ?d218⟩) hH ?e218
      case a218 => (simp only [List.getElem?_toArray, List.getElem?_cons_succ, List.getElem?_cons_zero]; rfl)
      case c218 => rfl
      case d218 => (obtain ⟨h0, h1, h2, h3, h4, h5⟩ := HCELL.out W hW.box; go_simp; try with_reducible rfl)
      case b218 => exact fun _ _ _ h => h
      simp only [Act.put, List.setIfInBounds_toArray, List.set_cons_zero, List.set_cons_succ]
      refine' wpAnyH_take (i := 18) (oi := _) (v := _) ?a219 (by kernel_rfl) (by kernel_rfl) (by kernel_rfl) ?b219 (Or.inl ⟨?c219, fun W hW => ?d219⟩) hH ?e219
      case a219 => (simp only [List.getElem?_toArray, List.getElem?_cons_succ, List.getElem?_cons_zero]; rfl)
      case c219 => rfl
      case d219 => (obtain ⟨h0, h1, h2, h3, h4, h5⟩ := HCELL.out W hW.box; go_simp; try with_reducible rfl)
      case b219 => exact fun _ _ _ h => h
      simp only [Act.put, List.setIfInBounds_toArray, List.set_cons_zero, List.set_cons_succ]
      refine' wpAnyH_take (i := 24) (oi := _) (v := _) ?a220 (by kernel_rfl) (by kernel_rfl) (by kernel_rfl) ?b220 (Or.inl ⟨?c220, fun W hW => ?d220⟩) hH ?e220
      case a220 => (simp only [List.getElem?_toArray, List.getElem?_cons_succ, List.getElem?_cons_zero]; rfl)
      case c220 => rfl
      case d220 => (obtain ⟨h0, h1, h2, h3, h4, h5⟩ := HCELL.out W hW.box; go_simp; try with_reducible rfl)
      case b220 => exact fun _ _ _ h => h
      simp only [Act.put, List.setIfInBounds_toArray, List.set_cons_zero, List.set_cons_succ]
      refine' wpAnyH_take (i := 30) (oi := _) (v := _) ?a221 (by kernel_rfl) (by kernel_rfl) (by kernel_rfl) ?b221 (Or.inl ⟨?c221, fun W hW => ?d221⟩) hH ?e221
      case a221 => (simp only [List.getElem?_toArray, List.getElem?_cons_succ, List.getElem?_cons_zero]; rfl)
      case c221 => rfl
      case d221 => (obtain ⟨h0, h1, h2, h3, h4, h5⟩ := HCELL.out W hW.box; go_simp; try with_reducible rfl)
      case b221 => exact fun _ _ _ h => h
      simp only [Act.put, List.setIfInBounds_toArray, List.set_cons_zero, List.set_cons_succ]
      refine' wpAnyH_take (i := 31) (oi := _) (v := _) ?a222 (by kernel_rfl) (by kernel_rfl) (by kernel_rfl) ?b222 (Or.inl ⟨?c222, fun W hW => ?d222⟩) hH ?e222
      case a222 => (simp only [List.getElem?_toArray, List.getElem?_cons_succ, List.getElem?_cons_zero]; rfl)
      case c222 => rfl
      case d222 => (obtain ⟨h0, h1, h2, h3, h4, h5⟩ := HCELL.out W hW.box; go_simp; try with_reducible rfl)
      case b222 => exact fun _ _ _ h => h
      simp only [Act.put, List.setIfInBounds_toArray, List.set_cons_zero, List.set_cons_succ]
      refine wpAnyH_done (by kernel_rfl) ?_ _
      (try go_wp2_with fail); go_meet
      exact ⟨_, rfl, ⟨t1, t2, t3, ht1, ht2, ht3, rfl⟩, hH.box, hH.old⟩
      exact AllReadyH.nil
      exact AllReadyH.nil
      refine AllReadyH.cons (o := ?o223) ?a223 (fun K hK => ?b223) ?c223
      case a223 => (simp only [List.getElem?_toArray, List.getElem?_cons_succ, List.getElem?_cons_zero]; rfl)
      go_simp
      refine hK.out _ _ (hH.alloc _) (fun _ => ?_)
      clear hK K
      (try simp only [Act.put, List.setIfInBounds_toArray, List.set_cons_zero, List.set_cons_succ])
      refine wpAnyH_more (S' := KS w g0 25 #[.int .i64 v, .int .i64 ch, .int .i64 mp, .int .i64 pre, .int .i64 gn, .int .u32 rate, .int .i64 st, .int .i64 co, .string mapg, .slice M 0 mc] ((W184.heap.size, #[.int .u8 mp]) :: [])) (fun _ h => h.less) _ _ _ _ ?_
      have hN := hH.add #[.int .u8 mp]
      clear hH
      generalize W184.heap.size = g223 at hN ⊢
      generalize W184.alloc _ = W223 at hN ⊢
      have hH := hN
      clear hN
      refine' wpAnyH_take (i := 29) (oi := _) (v := (.string (strOfNums [mp]))) ?a224 (by kernel_rfl) (by kernel_rfl) (by kernel_rfl) ?b224 (Or.inl ⟨?c224, fun W hW => ?d224⟩) hH ?e224
      case a224 => (simp only [List.getElem?_toArray, List.getElem?_cons_succ, List.getElem?_cons_zero]; rfl)
      case c224 => rfl
      case d224 => (obtain ⟨h0, h1, h2, h3, h4, h5⟩ := HCELL.out W hW.box; have hc := cv1 (hW.sl (g223, #[.int .u8 mp]) (by simp)); go_simp; try with_reducible rfl)
      case b224 => exact fun _ _ _ h => h
      simp only [Act.put, List.setIfInBounds_toArray, List.set_cons_zero, List.set_cons_succ]
      refine wpAnyH_ready (rs := [6, 23]) (by kernel_rfl) (by simp) ?_
      refine AllReadyH.cons (o := ?o225) ?a225 (fun K hK => ?b225) ?c225
      case a225 => (simp only [List.getElem?_toArray, List.getElem?_cons_succ, List.getElem?_cons_zero]; rfl)
      go_simp
      refine hK.out _ _ (hH.alloc _) (fun _ => ?_)
      clear hK K
      (try simp only [Act.put, List.setIfInBounds_toArray, List.set_cons_zero, List.set_cons_succ])
      refine wpAnyH_more (S' := KS w g0 25 #[.int .i64 v, .int .i64 ch, .int .i64 mp, .int .i64 pre, .int .i64 gn, .int .u32 rate, .int .i64 st, .int .i64 co, .string mapg, .slice M 0 mc] ((W223.heap.size, #[.int .u8 v, .int .u8 ch]) :: [(g223, #[.int .u8 mp])])) (fun _ h => h.less) _ _ _ _ ?_
      have hN := hH.add #[.int .u8 v, .int .u8 ch]
      clear hH
      generalize W223.heap.size = g225 at hN ⊢
      generalize W223.alloc _ = W225 at hN ⊢
      have hH := hN
      clear hN
      refine' wpAnyH_take (i := 7) (oi := _) (v := (.string (strOfNums [v, ch]))) ?a226 (by kernel_rfl) (by kernel_rfl) (by kernel_rfl) ?b226 (Or.inl ⟨?c226, fun W hW => ?d226⟩) hH ?e226
      case a226 => (simp only [List.getElem?_toArray, List.getElem?_cons_succ, List.getElem?_cons_zero]; rfl)
      case c226 => rfl
      case d226 => (obtain ⟨h0, h1, h2, h3, h4, h5⟩ := HCELL.out W hW.box; have hc := cv2 (hW.sl (g225, #[.int .u8 v, .int .u8 ch]) (by simp)); go_simp; try with_reducible rfl)
      case b226 => exact fun _ _ _ h => h
      simp only [Act.put, List.setIfInBounds_toArray, List.set_cons_zero, List.set_cons_succ]
      refine' wpAnyH_take (i := 8) (oi := _) (v := _) ?a227 (by kernel_rfl) (by kernel_rfl) (by kernel_rfl) ?b227 (Or.inl ⟨?c227, fun W hW => ?d227⟩) hH ?e227
      case a227 => (simp only [List.getElem?_toArray, List.getElem?_cons_succ, List.getElem?_cons_zero]; rfl)
      case c227 => rfl
      case d227 => (obtain ⟨h0, h1, h2, h3, h4, h5⟩ := HCELL.out W hW.box; go_simp; try with_reducible rfl)
      case b227 => exact fun _ _ _ h => h
      simp only [Act.put, List.setIfInBounds_toArray, List.set_cons_zero, List.set_cons_succ]
      refine' wpAnyH_take (i := 13) (oi := _) (v := _) ?a228 (by kernel_rfl) (by kernel_rfl) (by kernel_rfl) ?b228 (Or.inl ⟨?c228, fun W hW => ?d228⟩) hH ?e228
      case a228 => (simp only [List.getElem?_toArray, List.getElem?_cons_succ, List.getElem?_cons_zero]; rfl)
      case c228 => rfl
      case d228 => (obtain ⟨h0, h1, h2, h3, h4, h5⟩ := HCELL.out W hW.box; go_simp; try with_reducible rfl)
      case b228 => exact fun _ _ _ h => h
      simp only [Act.put, List.setIfInBounds_toArray, List.set_cons_zero, List.set_cons_succ]
      refine' wpAnyH_take (i := 18) (oi := _) (v := _) ?a229 (by kernel_rfl) (by kernel_rfl) (by kernel_rfl) ?b229 (Or.inl ⟨?c229, fun W hW => ?d229⟩) hH ?e229
      case a229 => (simp only [List.getElem?_toArray, List.getElem?_cons_succ, List.getElem?_cons_zero]; rfl)
      case c229 => rfl
      case d229 => (obtain ⟨h0, h1, h2, h3, h4, h5⟩ := HCELL.out W hW.box; go_simp; try with_reducible rfl)
      case b229 => exact fun _ _ _ h => h
      simp only [Act.put, List.setIfInBounds_toArray, List.set_cons_zero, List.set_cons_succ]
      refine wpAnyH_ready (rs := [23]) (by kernel_rfl) (by simp) ?_
      refine AllReadyH.cons (o := ?o230) ?a230 (fun K hK => ?b230) ?c230
      case a230 => (simp only [List.getElem?_toArray, List.getElem?_cons_succ, List.getElem?_cons_zero]; rfl)
      go_simp
      go_at_call 64
      refine (HL _ _ _ (by first | exact .inl rfl | exact .inr rfl)).mono ?_
      rintro e W230 ⟨⟨t3, rfl, ht3⟩, hb⟩
      (try go_wp2_with fail)
      have hN := hH.call hb
      refine hK.out _ _ hN (fun _ => ?_)
      clear hK K hH hb
      (try simp only [Act.put, List.setIfInBounds_toArray, List.set_cons_zero, List.set_cons_succ])
      have hH := hN
      clear hN
      refine' wpAnyH_take (i := 24) (oi := _) (v := _) ?a231 (by kernel_rfl) (by kernel_rfl) (by kernel_rfl) ?b231 (Or.inl ⟨?c231, fun W hW => ?d231⟩) hH ?e231
      case a231 => (simp only [List.getElem?_toArray, List.getElem?_cons_succ, List.getElem?_cons_zero]; rfl)
      case c231 => rfl
      case d231 => (obtain ⟨h0, h1, h2, h3, h4, h5⟩ := HCELL.out W hW.box; go_simp; try with_reducible rfl)
      case b231 => exact fun _ _ _ h => h
      simp only [Act.put, List.setIfInBounds_toArray, List.set_cons_zero, List.set_cons_succ]
      refine' wpAnyH_take (i := 30) (oi := _) (v := _) ?a232 (by kernel_rfl) (by kernel_rfl) (by kernel_rfl) ?b232 (Or.inl ⟨?c232, fun W hW => ?d232⟩) hH ?e232
      case a232 => (simp only [List.getElem?_toArray, List.getElem?_cons_succ, List.getElem?_cons_zero]; rfl)
      case c232 => rfl
      case d232 => (obtain ⟨h0, h1, h2, h3, h4, h5⟩ := HCELL.out W hW.box; go_simp; try with_reducible rfl)
      case b232 => exact fun _ _ _ h => h
      simp only [Act.put, List.setIfInBounds_toArray, List.set_cons_zero, List.set_cons_succ]
      refine' wpAnyH_take (i := 31) (oi := _) (v := _) ?a233 (by kernel_rfl) (by kernel_rfl) (by kernel_rfl) ?b233 (Or.inl ⟨?c233, fun W hW => ?d233⟩) hH ?e233
      case a233 => (simp only [List.getElem?_toArray, List.getElem?_cons_succ, List.getElem?_cons_zero]; rfl)
      case c233 => rfl
      case d233 => (obtain ⟨h0, h1, h2, h3, h4, h5⟩ := HCELL.out W hW.box; go_simp; try with_reducible rfl)
      case b233 => exact fun _ _ _ h => h
      simp only [Act.put, List.setIfInBounds_toArray, List.set_cons_zero, List.set_cons_succ]
      refine wpAnyH_done (by kernel_rfl) ?_ _
      (try go_wp2_with fail); go_meet
      exact ⟨_, rfl, ⟨t1, t2, t3, ht1, ht2, ht3, rfl⟩, hH.box, hH.old⟩
      exact AllReadyH.nil
      refine AllReadyH.cons (o := ?o234) ?a234 (fun K hK => ?b234) ?c234
      case a234 => (simp only [List.getElem?_toArray, List.getElem?_cons_succ, List.getElem?_cons_zero]; rfl)
      go_simp
      go_at_call 64
      refine (HL _ _ _ (by first | exact .inl rfl | exact .inr rfl)).mono ?_
      rintro e W234 ⟨⟨t3, rfl, ht3⟩, hb⟩
      (try go_wp2_with fail)
      have hN := hH.call hb
      refine hK.out _ _ hN (fun _ => ?_)
      clear hK K hH hb
      (try simp only [Act.put, List.setIfInBounds_toArray, List.set_cons_zero, List.set_cons_succ])
      have hH := hN
      clear hN
      refine wpAnyH_ready (rs := [6]) (by kernel_rfl) (by simp) ?_
      refine AllReadyH.cons (o := ?o235) ?a235 (fun K hK => ?b235) ?c235
      case a235 => (simp only [List.getElem?_toArray, List.getElem?_cons_succ, List.getElem?_cons_zero]; rfl)
      go_simp
      refine hK.out _ _ (hH.alloc _) (fun _ => ?_)
      clear hK K
      (try simp only [Act.put, List.setIfInBounds_toArray, List.set_cons_zero, List.set_cons_succ])
      refine wpAnyH_more (S' := KS w g0 25 #[.int .i64 v, .int .i64 ch, .int .i64 mp, .int .i64 pre, .int .i64 gn, .int .u32 rate, .int .i64 st, .int .i64 co, .string mapg, .slice M 0 mc] ((W234.heap.size, #[.int .u8 v, .int .u8 ch]) :: [(g223, #[.int .u8 mp])])) (fun _ h => h.less) _ _ _ _ ?_
      have hN := hH.add #[.int .u8 v, .int .u8 ch]
      clear hH
      generalize W234.heap.size = g235 at hN ⊢
      generalize W234.alloc _ = W235 at hN ⊢
      have hH := hN
      clear hN
      refine' wpAnyH_take (i := 7) (oi := _) (v := (.string (strOfNums [v, ch]))) ?a236 (by kernel_rfl) (by kernel_rfl) (by kernel_rfl) ?b236 (Or.inl ⟨?c236, fun W hW => ?d236⟩) hH ?e236
      case a236 => (simp only [List.getElem?_toArray, List.getElem?_cons_succ, List.getElem?_cons_zero]; rfl)
      case c236 => rfl
      case d236 => (obtain ⟨h0, h1, h2, h3, h4, h5⟩ := HCELL.out W hW.box; have hc := cv2 (hW.sl (g235, #[.int .u8 v, .int .u8 ch]) (by simp)); go_simp; try with_reducible rfl)
      case b236 => exact fun _ _ _ h => h
      simp only [Act.put, List.setIfInBounds_toArray, List.set_cons_zero, List.set_cons_succ]
      refine' wpAnyH_take (i := 8) (oi := _) (v := _) ?a237 (by kernel_rfl) (by kernel_rfl) (by kernel_rfl) ?b237 (Or.inl ⟨?c237, fun W hW => ?d237⟩) hH ?e237
      case a237 => (simp only [List.getElem?_toArray, List.getElem?_cons_succ, List.getElem?_cons_zero]; rfl)
      case c237 => rfl
      case d237 => (obtain ⟨h0, h1, h2, h3, h4, h5⟩ := HCELL.out W hW.box; go_simp; try with_reducible rfl)
      case b237 => exact fun _ _ _ h => h
      simp only [Act.put, List.setIfInBounds_toArray, List.set_cons_zero, List.set_cons_succ]
      refine' wpAnyH_take (i := 13) (oi := _) (v := _) ?a238 (by kernel_rfl) (by kernel_rfl) (by kernel_rfl) ?b238 (Or.inl ⟨?c238, fun W hW => ?d238⟩) hH ?e238
      case a238 => (simp only [List.getElem?_toArray, List.getElem?_cons_succ, List.getElem?_cons_zero]; rfl)
      case c238 => rfl
      case d238 => (obtain ⟨h0, h1, h2, h3, h4, h5⟩ := HCELL.out W hW.box; go_simp; try with_reducible rfl)
      case b238 => exact fun _ _ _ h => h
      simp only [Act.put, List.setIfInBounds_toArray, List.set_cons_zero, List.set_cons_succ]
      refine' wpAnyH_take (i := 18) (oi := _) (v := _) ?a239 (by kernel_rfl) (by kernel_rfl) (by kernel_rfl) ?b239 (Or.inl ⟨?c239, fun W hW => ?d239⟩) hH ?e239
      case a239 => (simp only [List.getElem?_toArray, List.getElem?_cons_succ, List.getElem?_cons_zero]; rfl)
      case c239 => rfl
      case d239 => (obtain ⟨h0, h1, h2, h3, h4, h5⟩ := HCELL.out W hW.box; go_simp; try with_reducible rfl)
      case b239 => exact fun _ _ _ h => h
      simp only [Act.put, List.setIfInBounds_toArray, List.set_cons_zero, List.set_cons_succ]
      refine' wpAnyH_take (i := 24) (oi := _) (v := _) ?a240 (by kernel_rfl) (by kernel_rfl) (by kernel_rfl) ?b240 (Or.inl ⟨?c240, fun W hW => ?d240⟩) hH ?e240
      case a240 => (simp only [List.getElem?_toArray, List.getElem?_cons_succ, List.getElem?_cons_zero]; rfl)
      case c240 => rfl
      case d240 => (obtain ⟨h0, h1, h2, h3, h4, h5⟩ := HCELL.out W hW.box; go_simp; try with_reducible rfl)
      case b240 => exact fun _ _ _ h => h
      simp only [Act.put, List.setIfInBounds_toArray, List.set_cons_zero, List.set_cons_succ]
      refine' wpAnyH_take (i := 30) (oi := _) (v := _) ?a241 (by kernel_rfl) (by kernel_rfl) (by kernel_rfl) ?b241 (Or.inl ⟨?c241, fun W hW => ?d241⟩) hH ?e241
      case a241 => (simp only [List.getElem?_toArray, List.getElem?_cons_succ, List.getElem?_cons_zero]; rfl)
      case c241 => rfl
      case d241 => (obtain ⟨h0, h1, h2, h3, h4, h5⟩ := HCELL.out W hW.box; go_simp; try with_reducible rfl)
      case b241 => exact fun _ _ _ h => h
      simp only [Act.put, List.setIfInBounds_toArray, List.set_cons_zero, List.set_cons_succ]
      refine' wpAnyH_take (i := 31) (oi := _) (v := _) ?a242 (by kernel_rfl) (by kernel_rfl) (by kernel_rfl) ?b242 (Or.inl ⟨?c242, fun W hW => ?d242⟩) hH ?e242
      case a242 => (simp only [List.getElem?_toArray, List.getElem?_cons_succ, List.getElem?_cons_zero]; rfl)
      case c242 => rfl
      case d242 => (obtain ⟨h0, h1, h2, h3, h4, h5⟩ := HCELL.out W hW.box; go_simp; try with_reducible rfl)
      case b242 => exact fun _ _ _ h => h
      simp only [Act.put, List.setIfInBounds_toArray, List.set_cons_zero, List.set_cons_succ]
      refine wpAnyH_done (by kernel_rfl) ?_ _
      (try go_wp2_with fail); go_meet
      exact ⟨_, rfl, ⟨t1, t2, t3, ht1, ht2, ht3, rfl⟩, hH.box, hH.old⟩
      exact AllReadyH.nil
      exact AllReadyH.nil
      exact AllReadyH.nil
      refine AllReadyH.cons (o := ?o243) ?a243 (fun K hK => ?b243) ?c243
      case a243 => (simp only [List.getElem?_toArray, List.getElem?_cons_succ, List.getElem?_cons_zero]; rfl)
      go_simp
      refine hK.out _ _ (hH.alloc _) (fun _ => ?_)
      clear hK K
      (try simp only [Act.put, List.setIfInBounds_toArray, List.set_cons_zero, List.set_cons_succ])
      refine wpAnyH_more (S' := KS w g0 25 #[.int .i64 v, .int .i64 ch, .int .i64 mp, .int .i64 pre, .int .i64 gn, .int .u32 rate, .int .i64 st, .int .i64 co, .string mapg, .slice M 0 mc] ((W157.heap.size, #[.int .u8 mp]) :: [])) (fun _ h => h.less) _ _ _ _ ?_
      have hN := hH.add #[.int .u8 mp]
      clear hH
      generalize W157.heap.size = g243 at hN ⊢
      generalize W157.alloc _ = W243 at hN ⊢
      have hH := hN
      clear hN
      refine' wpAnyH_take (i := 29) (oi := _) (v := (.string (strOfNums [mp]))) ?a244 (by kernel_rfl) (by kernel_rfl) (by kernel_rfl) ?b244 (Or.inl ⟨?c244, fun W hW => ?d244⟩) hH ?e244
      case a244 => (simp only [List.getElem?_toArray, List.getElem?_cons_succ, List.getElem?_cons_zero]; rfl)
      case c244 => rfl
      case d244 => (obtain ⟨h0, h1, h2, h3, h4, h5⟩ := HCELL.out W hW.box; have hc := cv1 (hW.sl (g243, #[.int .u8 mp]) (by simp)); go_simp; try with_reducible rfl)
      case b244 => exact fun _ _ _ h => h
      simp only [Act.put, List.setIfInBounds_toArray, List.set_cons_zero, List.set_cons_succ]
      refine wpAnyH_ready (rs := [6, 17]) (by kernel_rfl) (by simp) ?_
      refine AllReadyH.cons (o := ?o245) ?a245 (fun K hK => ?b245) ?c245
      case a245 => (simp only [List.getElem?_toArray, List.getElem?_cons_succ, List.getElem?_cons_zero]; rfl)
      go_simp
      refine hK.out _ _ (hH.alloc _) (fun _ => ?_)
      clear hK K
      (try simp only [Act.put, List.setIfInBounds_toArray, List.set_cons_zero, List.set_cons_succ])
      refine wpAnyH_more (S' := KS w g0 25 #[.int .i64 v, .int .i64 ch, .int .i64 mp, .int .i64 pre, .int .i64 gn, .int .u32 rate, .int .i64 st, .int .i64 co, .string mapg, .slice M 0 mc] ((W243.heap.size, #[.int .u8 v, .int .u8 ch]) :: [(g243, #[.int .u8 mp])])) (fun _ h => h.less) _ _ _ _ ?_
      have hN := hH.add #[.int .u8 v, .int .u8 ch]
      clear hH
      generalize W243.heap.size = g245 at hN ⊢
      generalize W243.alloc _ = W245 at hN ⊢
      have hH := hN
      clear hN
      refine' wpAnyH_take (i := 7) (oi := _) (v := (.string (strOfNums [v, ch]))) ?a246 (by kernel_rfl) (by kernel_rfl) (by kernel_rfl) ?b246 (Or.inl ⟨?c246, fun W hW => ?d246⟩) hH ?e246
      case a246 => (simp only [List.getElem?_toArray, List.getElem?_cons_succ, List.getElem?_cons_zero]; rfl)
      case c246 => rfl
      case d246 => (obtain ⟨h0, h1, h2, h3, h4, h5⟩ := HCELL.out W hW.box; have hc := cv2 (hW.sl (g245, #[.int .u8 v, .int .u8 ch]) (by simp)); go_simp; try with_reducible rfl)
      case b246 => exact fun _ _ _ h => h
      simp only [Act.put, List.setIfInBounds_toArray, List.set_cons_zero, List.set_cons_succ]
      refine' wpAnyH_take (i := 8) (oi := _) (v := _) ?a247 (by kernel_rfl) (by kernel_rfl) (by kernel_rfl) ?b247 (Or.inl ⟨?c247, fun W hW => ?d247⟩) hH ?e247
      case a247 => (simp only [List.getElem?_toArray, List.getElem?_cons_succ, List.getElem?_cons_zero]; rfl)
      case c247 => rfl
      case d247 => (obtain ⟨h0, h1, h2, h3, h4, h5⟩ := HCELL.out W hW.box; go_simp; try with_reducible rfl)
      case b247 => exact fun _ _ _ h => h
      simp only [Act.put, List.setIfInBounds_toArray, List.set_cons_zero, List.set_cons_succ]
      refine' wpAnyH_take (i := 13) (oi := _) (v := _) ?a248 (by kernel_rfl) (by kernel_rfl) (by kernel_rfl) ?b248 (Or.inl ⟨?c248, fun W hW => ?d248⟩) hH ?e248
      case a248 => (simp only [List.getElem?_toArray, List.getElem?_cons_succ, List.getElem?_cons_zero]; rfl)
      case c248 => rfl
      case d248 => (obtain ⟨h0, h1, h2, h3, h4, h5⟩ := HCELL.out W hW.box; go_simp; try with_reducible rfl)
      case b248 => exact fun _ _ _ h => h
      simp only [Act.put, List.setIfInBounds_toArray, List.set_cons_zero, List.set_cons_succ]
      refine wpAnyH_ready (rs := [17]) (by kernel_rfl) (by simp) ?_
      refine AllReadyH.cons (o := ?o249) ?a249 (fun K hK => ?b249) ?c249
      case a249 => (simp only [List.getElem?_toArray, List.getElem?_cons_succ, List.getElem?_cons_zero]; rfl)
      go_simp
      go_at_call 64
      refine (HL _ _ _ (by first | exact .inl rfl | exact .inr rfl)).mono ?_
      rintro e W249 ⟨⟨t2, rfl, ht2⟩, hb⟩
      (try go_wp2_with fail)
      have hN := hH.call hb
      refine hK.out _ _ hN (fun _ => ?_)
      clear hK K hH hb
      (try simp only [Act.put, List.setIfInBounds_toArray, List.set_cons_zero, List.set_cons_succ])
      have hH := hN
      clear hN
      refine' wpAnyH_take (i := 18) (oi := _) (v := _) ?a250 (by kernel_rfl) (by kernel_rfl) (by kernel_rfl) ?b250 (Or.inl ⟨?c250, fun W hW => ?d250⟩) hH ?e250
      case a250 => (simp only [List.getElem?_toArray, List.getElem?_cons_succ, List.getElem?_cons_zero]; rfl)
      case c250 => rfl
      case d250 => (obtain ⟨h0, h1, h2, h3, h4, h5⟩ := HCELL.out W hW.box; go_simp; try with_reducible rfl)
      case b250 => exact fun _ _ _ h => h
      simp only [Act.put, List.setIfInBounds_toArray, List.set_cons_zero, List.set_cons_succ]
      refine wpAnyH_ready (rs := [23]) (by kernel_rfl) (by simp) ?_
      refine AllReadyH.cons (o := ?o251) ?a251 (fun K hK => ?b251) ?c251
      case a251 => (simp only [List.getElem?_toArray, List.getElem?_cons_succ, List.getElem?_cons_zero]; rfl)
      go_simp
      go_at_call 64
      refine (HL _ _ _ (by first | exact .inl rfl | exact .inr rfl)).mono ?_
      rintro e W251 ⟨⟨t3, rfl, ht3⟩, hb⟩
      (try go_wp2_with fail)
      have hN := hH.call hb
      refine hK.out _ _ hN (fun _ => ?_)
      clear hK K hH hb
      (try simp only [Act.put, List.setIfInBounds_toArray, List.set_cons_zero, List.set_cons_succ])
      have hH := hN
      clear hN
      refine' wpAnyH_take (i := 24) (oi := _) (v := _) ?a252 (by kernel_rfl) (by kernel_rfl) (by kernel_rfl) ?b252 (Or.inl ⟨?c252, fun W hW => ?d252⟩) hH ?e252
      case a252 => (simp only [List.getElem?_toArray, List.getElem?_cons_succ, List.getElem?_cons_zero]; rfl)
      case c252 => rfl
      case d252 => (obtain ⟨h0, h1, h2, h3, h4, h5⟩ := HCELL.out W hW.box; go_simp; try with_reducible rfl)
      case b252 => exact fun _ _ _ h => h
      simp only [Act.put, List.setIfInBounds_toArray, List.set_cons_zero, List.set_cons_succ]
      refine' wpAnyH_take (i := 30) (oi := _) (v := _) ?a253 (by kernel_rfl) (by kernel_rfl) (by kernel_rfl) ?b253 (Or.inl ⟨?c253, fun W hW => ?d253⟩) hH ?e253
      case a253 => (simp only [List.getElem?_toArray, List.getElem?_cons_succ, List.getElem?_cons_zero]; rfl)
      case c253 => rfl
      case d253 => (obtain ⟨h0, h1, h2, h3, h4, h5⟩ := HCELL.out W hW.box; go_simp; try with_reducible rfl)
      case b253 => exact fun _ _ _ h => h
      simp only [Act.put, List.setIfInBounds_toArray, List.set_cons_zero, List.set_cons_succ]
      refine' wpAnyH_take (i := 31) (oi := _) (v := _) ?a254 (by kernel_rfl) (by kernel_rfl) (by kernel_rfl) ?b254 (Or.inl ⟨?c254, fun W hW => ?d254⟩) hH ?e254
      case a254 => (simp only [List.getElem?_toArray, List.getElem?_cons_succ, List.getElem?_cons_zero]; rfl)
      case c254 => rfl
      case d254 => (obtain ⟨h0, h1, h2, h3, h4, h5⟩ := HCELL.out W hW.box; go_simp; try with_reducible rfl)
      case b254 => exact fun _ _ _ h => h
      simp only [Act.put, List.setIfInBounds_toArray, List.set_cons_zero, List.set_cons_succ]
      refine wpAnyH_done (by kernel_rfl) ?_ _
      (try go_wp2_with fail); go_meet
      exact ⟨_, rfl, ⟨t1, t2, t3, ht1, ht2, ht3, rfl⟩, hH.box, hH.old⟩
      exact AllReadyH.nil
      exact AllReadyH.nil
      refine AllReadyH.cons (o := ?o255) ?a255 (fun K hK => ?b255) ?c255
      case a255 => (simp only [List.getElem?_toArray, List.getElem?_cons_succ, List.getElem?_cons_zero]; rfl)
      go_simp
      go_at_call 64
      refine (HL _ _ _ (by first | exact .inl rfl | exact .inr rfl)).mono ?_
      rintro e W255 ⟨⟨t2, rfl, ht2⟩, hb⟩
      (try go_wp2_with fail)
      have hN := hH.call hb
      refine hK.out _ _ hN (fun _ => ?_)
      clear hK K hH hb
      (try simp only [Act.put, List.setIfInBounds_toArray, List.set_cons_zero, List.set_cons_succ])
      have hH := hN
      clear hN
      refine wpAnyH_ready (rs := [6, 23]) (by kernel_rfl) (by simp) ?_
      refine AllReadyH.cons (o := ?o256) ?a256 (fun K hK => ?b256) ?c256
      case a256 => (simp only [List.getElem?_toArray, List.getElem?_cons_succ, List.getElem?_cons_zero]; rfl)
      go_simp
      refine hK.out _ _ (hH.alloc _) (fun _ => ?_)
      clear hK K
      (try simp only [Act.put, List.setIfInBounds_toArray, List.set_cons_zero, List.set_cons_succ])
      refine wpAnyH_more (S' := KS w g0 25 #[.int .i64 v, .int .i64 ch, .int .i64 mp, .int .i64 pre, .int .i64 gn, .int .u32 rate, .int .i64 st, .int .i64 co, .string mapg, .slice M 0 mc] ((W255.heap.size, #[.int .u8 v, .int .u8 ch]) :: [(g243, #[.int .u8 mp])])) (fun _ h => h.less) _ _ _ _ ?_
      have hN := hH.add #[.int .u8 v, .int .u8 ch]
      clear hH
      generalize W255.heap.size = g256 at hN ⊢
      generalize W255.alloc _ = W256 at hN ⊢
      have hH := hN
      clear hN
      refine' wpAnyH_take (i := 7) (oi := _) (v := (.string (strOfNums [v, ch]))) ?a257 (by kernel_rfl) (by kernel_rfl) (by kernel_rfl) ?b257 (Or.inl ⟨?c257, fun W hW => ?d257⟩) hH ?e257
      case a257 => (simp only [List.getElem?_toArray, List.getElem?_cons_succ, List.getElem?_cons_zero]; rfl)
      case c257 => rfl
      case d257 => (obtain ⟨h0, h1, h2, h3, h4, h5⟩ := HCELL.out W hW.box; have hc := cv2 (hW.sl (g256, #[.int .u8 v, .int .u8 ch]) (by simp)); go_simp; try with_reducible rfl)
      case b257 => exact fun _ _ _ h => h
      simp only [Act.put, List.setIfInBounds_toArray, List.set_cons_zero, List.set_cons_succ]
      refine' wpAnyH_take (i := 8) (oi := _) (v := _) ?a258 (by kernel_rfl) (by kernel_rfl) (by kernel_rfl) ?b258 (Or.inl ⟨?c258, fun W hW => ?d258⟩) hH ?e258
      case a258 => (simp only [List.getElem?_toArray, List.getElem?_cons_succ, List.getElem?_cons_zero]; rfl)
      case c258 => rfl
      case d258 => (obtain ⟨h0, h1, h2, h3, h4, h5⟩ := HCELL.out W hW.box; go_simp; try with_reducible rfl)
      case b258 => exact fun _ _ _ h => h
      simp only [Act.put, List.setIfInBounds_toArray, List.set_cons_zero, List.set_cons_succ]
      refine' wpAnyH_take (i := 13) (oi := _) (v := _) ?a259 (by kernel_rfl) (by kernel_rfl) (by kernel_rfl) ?b259 (Or.inl ⟨?c259, fun W hW => ?d259⟩) hH ?e259
      case a259 => (simp only [List.getElem?_toArray, List.getElem?_cons_succ, List.getElem?_cons_zero]; rfl)
      case c259 => rfl
      case d259 => (obtain ⟨h0, h1, h2, h3, h4, h5⟩ := HCELL.out W hW.box; go_simp; try with_reducible rfl)
      case b259 => exact fun _ _ _ h => h
      simp only [Act.put, List.setIfInBounds_toArray, List.set_cons_zero, List.set_cons_succ]
      refine' wpAnyH_take (i := 18) (oi := _) (v := _) ?a260 (by kernel_rfl) (by kernel_rfl) (by kernel_rfl) ?b260 (Or.inl ⟨?c260, fun W hW => ?d260⟩) hH ?e260
      case a260 => (simp only [List.getElem?_toArray, List.getElem?_cons_succ, List.getElem?_cons_zero]; rfl)
      case c260 => rfl
      case d260 => (obtain ⟨h0, h1, h2, h3, h4, h5⟩ := HCELL.out W hW.box; go_simp; try with_reducible rfl)
      case b260 => exact fun _ _ _ h => h
      simp only [Act.put, List.setIfInBounds_toArray, List.set_cons_zero, List.set_cons_succ]
      refine wpAnyH_ready (rs := [23]) (by kernel_rfl) (by simp) ?_
      refine AllReadyH.cons (o := ?o261) ?a261 (fun K hK => ?b261) ?c261
      case a261 => (simp only [List.getElem?_toArray, List.getElem?_cons_succ, List.getElem?_cons_zero]; rfl)
      go_simp
      go_at_call 64
      refine (HL _ _ _ (by first | exact .inl rfl | exact .inr rfl)).mono ?_
      rintro e W261 ⟨⟨t3, rfl, ht3⟩, hb⟩
      (try go_wp2_with fail)
      have hN := hH.call hb
      refine hK.out _ _ hN (fun _ => ?_)
      clear hK K hH hb
      (try simp only [Act.put, List.setIfInBounds_toArray, List.set_cons_zero, List.set_cons_succ])
      have hH := hN
      clear hN
      refine' wpAnyH_take (i := 24) (oi := _) (v := _) ?a262 (by kernel_rfl) (by kernel_rfl) (by kernel_rfl) ?b262 (Or.inl ⟨?c262, fun W hW => ?d262⟩) hH ?e262
      case a262 => (simp only [List.getElem?_toArray, List.getElem?_cons_succ, List.getElem?_cons_zero]; rfl)
      case c262 => rfl
      case d262 => (obtain ⟨h0, h1, h2, h3, h4, h5⟩ := HCELL.out W hW.box; go_simp; try with_reducible rfl)
      case b262 => exact fun _ _ _ h => h
      simp only [Act.put, List.setIfInBounds_toArray, List.set_cons_zero, List.set_cons_succ]
      refine' wpAnyH_take (i := 30) (oi := _) (v := _) ?a263 (by kernel_rfl) (by kernel_rfl) (by kernel_rfl) ?b263 (Or.inl ⟨?c263, fun W hW => ?d263⟩) hH ?e263
      case a263 => (simp only [List.getElem?_toArray, List.getElem?_cons_succ, List.getElem?_cons_zero]; rfl)
      case c263 => rfl
      case d263 => (obtain ⟨h0, h1, h2, h3, h4, h5⟩ := HCELL.out W hW.box; go_simp; try with_reducible rfl)
      case b263 => exact fun _ _ _ h => h
      simp only [Act.put, List.setIfInBounds_toArray, List.set_cons_zero, List.set_cons_succ]
      refine' wpAnyH_take (i := 31) (oi := _) (v := _) ?a264 (by kernel_rfl) (by kernel_rfl) (by kernel_rfl) ?b264 (Or.inl ⟨?c264, fun W hW => ?d264⟩) hH ?e264
      case a264 => (simp only [List.getElem?_toArray, List.getElem?_cons_succ, List.getElem?_cons_zero]; rfl)
      case c264 => rfl
      case d264 => (obtain ⟨h0, h1, h2, h3, h4, h5⟩ := HCELL.out W hW.box; go_simp; try with_reducible rfl)
      case b264 => exact fun _ _ _ h => h
      simp only [Act.put, List.setIfInBounds_toArray, List.set_cons_zero, List.set_cons_succ]
      refine wpAnyH_done (by kernel_rfl) ?_ _
      (try go_wp2_with fail); go_meet
      exact ⟨_, rfl, ⟨t1, t2, t3, ht1, ht2, ht3, rfl⟩, hH.box, hH.old⟩
      exact AllReadyH.nil
      refine AllReadyH.cons (o := ?o265) ?a265 (fun K hK => ?b265) ?c265
      case a265 => (simp only [List.getElem?_toArray, List.getElem?_cons_succ, List.getElem?_cons_zero]; rfl)
      go_simp
      go_at_call 64
      refine (HL _ _ _ (by first | exact .inl rfl | exact .inr rfl)).mono ?_
      rintro e W265 ⟨⟨t3, rfl, ht3⟩, hb⟩
      (try go_wp2_with fail)
      have hN := hH.call hb
      refine hK.out _ _ hN (fun _ => ?_)
      clear hK K hH hb
      (try simp only [Act.put, List.setIfInBounds_toArray, List.set_cons_zero, List.set_cons_succ])
      have hH := hN
      clear hN
      refine wpAnyH_ready (rs := [6]) (by kernel_rfl) (by simp) ?_
      refine AllReadyH.cons (o := ?o266) ?a266 (fun K hK => ?b266) ?c266
      case a266 => (simp only [List.getElem?_toArray, List.getElem?_cons_succ, List.getElem?_cons_zero]; rfl)
      go_simp
      refine hK.out _ _ (hH.alloc _) (fun _ => ?_)
      clear hK K
      (try simp only [Act.put, List.setIfInBounds_toArray, List.set_cons_zero, List.set_cons_succ])
      refine wpAnyH_more (S' := KS w g0 25 #[.int .i64 v, .int .i64 ch, .int .i64 mp, .int .i64 pre, .int .i64 gn, .int .u32 rate, .int .i64 st, .int .i64 co, .string mapg, .slice M 0 mc] ((W265.heap.size, #[.int .u8 v, .int .u8 ch]) :: [(g243, #[.int .u8 mp])])) (fun _ h => h.less) _ _ _ _ ?_
      have hN := hH.add #[.int .u8 v, .int .u8 ch]
      clear hH
      generalize W265.heap.size = g266 at hN ⊢
      generalize W265.alloc _ = W266 at hN ⊢
      have hH := hN
      clear hN
      refine' wpAnyH_take (i := 7) (oi := _) (v := (.string (strOfNums [v, ch]))) ?a267 (by kernel_rfl) (by kernel_rfl) (by kernel_rfl) ?b267 (Or.inl ⟨?c267, fun W hW => ?d267⟩) hH ?e267
      case a267 => (simp only [List.getElem?_toArray, List.getElem?_cons_succ, List.getElem?_cons_zero]; rfl)
      case c267 => rfl
      case d267 => (obtain ⟨h0, h1, h2, h3, h4, h5⟩ := HCELL.out W hW.box; have hc := cv2 (hW.sl (g266, #[.int .u8 v, .int .u8 ch]) (by simp)); go_simp; try with_reducible rfl)
      case b267 => exact fun _ _ _ h => h
      simp only [Act.put, List.setIfInBounds_toArray, List.set_cons_zero, List.set_cons_succ]
      refine' wpAnyH_take (i := 8) (oi := _) (v := _) ?a268 (by kernel_rfl) (by kernel_rfl) (by kernel_rfl) ?b268 (Or.inl ⟨?c268, fun W hW => ?d268⟩) hH ?e268
      case a268 => (simp only [List.getElem?_toArray, List.getElem?_cons_succ, List.getElem?_cons_zero]; rfl)
      case c268 => rfl
      case d268 => (obtain ⟨h0, h1, h2, h3, h4, h5⟩ := HCELL.out W hW.box; go_simp; try with_reducible rfl)
      case b268 => exact fun _ _ _ h => h
      simp only [Act.put, List.setIfInBounds_toArray, List.set_cons_zero, List.set_cons_succ]
      refine' wpAnyH_take (i := 13) (oi := _) (v := _) ?a269 (by kernel_rfl) (by kernel_rfl) (by kernel_rfl) ?b269 (Or.inl ⟨?c269, fun W hW => ?d269⟩) hH ?e269
      case a269 => (simp only [List.getElem?_toArray, List.getElem?_cons_succ, List.getElem?_cons_zero]; rfl)
      case c269 => rfl
      case d269 => (obtain ⟨h0, h1, h2, h3, h4, h5⟩ := HCELL.out W hW.box; go_simp; try with_reducible rfl)
      case b269 => exact fun _ _ _ h => h
      simp only [Act.put, List.setIfInBounds_toArray, List.set_cons_zero, List.set_cons_succ]
      refine' wpAnyH_take (i := 18) (oi := _) (v := _) ?a270 (by kernel_rfl) (by kernel_rfl) (by kernel_rfl) ?b270 (Or.inl ⟨?c270, fun W hW => ?d270⟩) hH ?e270
      case a270 => (simp only [List.getElem?_toArray, List.getElem?_cons_succ, List.getElem?_cons_zero]; rfl)
      case c270 => rfl
      case d270 => (obtain ⟨h0, h1, h2, h3, h4, h5⟩ := HCELL.out W hW.box; go_simp; try with_reducible rfl)
      case b270 => exact fun _ _ _ h => h
      simp only [Act.put, List.setIfInBounds_toArray, List.set_cons_zero, List.set_cons_succ]
      refine' wpAnyH_take (i := 24) (oi := _) (v := _) ?a271 (by kernel_rfl) (by kernel_rfl) (by kernel_rfl) ?b271 (Or.inl ⟨?c271, fun W hW => ?d271⟩) hH ?e271
      case a271 => (simp only [List.getElem?_toArray, List.getElem?_cons_succ, List.getElem?_cons_zero]; rfl)
      case c271 => rfl
      case d271 => (obtain ⟨h0, h1, h2, h3, h4, h5⟩ := HCELL.out W hW.box; go_simp; try with_reducible rfl)
      case b271 => exact fun _ _ _ h => h
      simp only [Act.put, List.setIfInBounds_toArray, List.set_cons_zero, List.set_cons_succ]
      refine' wpAnyH_take (i := 30) (oi := _) (v := _) ?a272 (by kernel_rfl) (by kernel_rfl) (by kernel_rfl) ?b272 (Or.inl ⟨?c272, fun W hW => ?d272⟩) hH ?e272
      case a272 => (simp only [List.getElem?_toArray, List.getElem?_cons_succ, List.getElem?_cons_zero]; rfl)
      case c272 => rfl
      case d272 => (obtain ⟨h0, h1, h2, h3, h4, h5⟩ := HCELL.out W hW.box; go_simp; try with_reducible rfl)
      case b272 => exact fun _ _ _ h => h
      simp only [Act.put, List.setIfInBounds_toArray, List.set_cons_zero, List.set_cons_succ]
      refine' wpAnyH_take (i := 31) (oi := _) (v := _) ?a273 (by kernel_rfl) (by kernel_rfl) (by kernel_rfl) ?b273 (Or.inl ⟨?c273, fun W hW => ?d273⟩) hH ?e273
      case a273 => (simp only [List.getElem?_toArray, List.getElem?_cons_succ, List.getElem?_cons_zero]; rfl)
      case c273 => rfl
      case d273 => (obtain ⟨h0, h1, h2, h3, h4, h5⟩ := HCELL.out W hW.box; go_simp; try with_reducible rfl)
      case b273 => exact fun _ _ _ h => h
      simp only [Act.put, List.setIfInBounds_toArray, List.set_cons_zero, List.set_cons_succ]
      refine wpAnyH_done (by kernel_rfl) ?_ _
      (try go_wp2_with fail); go_meet
      exact ⟨_, rfl, ⟨t1, t2, t3, ht1, ht2, ht3, rfl⟩, hH.box, hH.old⟩
      exact AllReadyH.nil
      exact AllReadyH.nil
      exact AllReadyH.nil
      exact AllReadyH.nil
      refine AllReadyH.cons (o := ?o274) ?a274 (fun K hK => ?b274) ?c274
      case a274 => (simp only [List.getElem?_toArray, List.getElem?_cons_succ, List.getElem?_cons_zero]; rfl)
      go_simp
      refine hK.out _ _ (hH.alloc _) (fun _ => ?_)
      clear hK K
      (try simp only [Act.put, List.setIfInBounds_toArray, List.set_cons_zero, List.set_cons_succ])
      refine wpAnyH_more (S' := KS w g0 25 #[.int .i64 v, .int .i64 ch, .int .i64 mp, .int .i64 pre, .int .i64 gn, .int .u32 rate, .int .i64 st, .int .i64 co, .string mapg, .slice M 0 mc] ((W1.heap.size, #[.int .u8 mp]) :: [])) (fun _ h => h.less) _ _ _ _ ?_
      have hN := hH.add #[.int .u8 mp]
      clear hH
      generalize W1.heap.size = g274 at hN ⊢
      generalize W1.alloc _ = W274 at hN ⊢
      have hH := hN
      clear hN
      refine' wpAnyH_take (i := 29) (oi := _) (v := (.string (strOfNums [mp]))) ?a275 (by kernel_rfl) (by kernel_rfl) (by kernel_rfl) ?b275 (Or.inl ⟨?c275, fun W hW => ?d275⟩) hH ?e275
      case a275 => (simp only [List.getElem?_toArray, List.getElem?_cons_succ, List.getElem?_cons_zero]; rfl)
      case c275 => rfl
      case d275 => (obtain ⟨h0, h1, h2, h3, h4, h5⟩ := HCELL.out W hW.box; have hc := cv1 (hW.sl (g274, #[.int .u8 mp]) (by simp)); go_simp; try with_reducible rfl)
      case b275 => exact fun _ _ _ h => h
      simp only [Act.put, List.setIfInBounds_toArray, List.set_cons_zero, List.set_cons_succ]
      refine wpAnyH_ready (rs := [6, 12]) (by kernel_rfl) (by simp) ?_
      refine AllReadyH.cons (o := ?o276) ?a276 (fun K hK => ?b276) ?c276
      case a276 => (simp only [List.getElem?_toArray, List.getElem?_cons_succ, List.getElem?_cons_zero]; rfl)
      go_simp
      refine hK.out _ _ (hH.alloc _) (fun _ => ?_)
      clear hK K
      (try simp only [Act.put, List.setIfInBounds_toArray, List.set_cons_zero, List.set_cons_succ])
      refine wpAnyH_more (S' := KS w g0 25 #[.int .i64 v, .int .i64 ch, .int .i64 mp, .int .i64 pre, .int .i64 gn, .int .u32 rate, .int .i64 st, .int .i64 co, .string mapg, .slice M 0 mc] ((W274.heap.size, #[.int .u8 v, .int .u8 ch]) :: [(g274, #[.int .u8 mp])])) (fun _ h => h.less) _ _ _ _ ?_
      have hN := hH.add #[.int .u8 v, .int .u8 ch]
      clear hH
      generalize W274.heap.size = g276 at hN ⊢
      generalize W274.alloc _ = W276 at hN ⊢
      have hH := hN
      clear hN
      refine' wpAnyH_take (i := 7) (oi := _) (v := (.string (strOfNums [v, ch]))) ?a277 (by kernel_rfl) (by kernel_rfl) (by kernel_rfl) ?b277 (Or.inl ⟨?c277, fun W hW => ?d277⟩) hH ?e277
      case a277 => (simp only [List.getElem?_toArray, List.getElem?_cons_succ, List.getElem?_cons_zero]; rfl)
      case c277 => rfl
      case d277 => (obtain ⟨h0, h1, h2, h3, h4, h5⟩ := HCELL.out W hW.box; have hc := cv2 (hW.sl (g276, #[.int .u8 v, .int .u8 ch]) (by simp)); go_simp; try with_reducible rfl)
      case b277 => exact fun _ _ _ h => h
      simp only [Act.put, List.setIfInBounds_toArray, List.set_cons_zero, List.set_cons_succ]
      refine' wpAnyH_take (i := 8) (oi := _) (v := _) ?a278 (by kernel_rfl) (by kernel_rfl) (by kernel_rfl) ?b278 (Or.inl ⟨?c278, fun W hW => ?d278⟩) hH ?e278
      case a278 => (simp only [List.getElem?_toArray, List.getElem?_cons_succ, List.getElem?_cons_zero]; rfl)
      case c278 => rfl
      case d278 => (obtain ⟨h0, h1, h2, h3, h4, h5⟩ := HCELL.out W hW.box; go_simp; try with_reducible rfl)
      case b278 => exact fun _ _ _ h => h
      simp only [Act.put, List.setIfInBounds_toArray, List.set_cons_zero, List.set_cons_succ]
      refine wpAnyH_ready (rs := [12]) (by kernel_rfl) (by simp) ?_
      refine AllReadyH.cons (o := ?o279) ?a279 (fun K hK => ?b279) ?c279
      case a279 => (simp only [List.getElem?_toArray, List.getElem?_cons_succ, List.getElem?_cons_zero]; rfl)
      go_simp
      go_at_call 64
      refine (HL _ _ _ (by first | exact .inl rfl | exact .inr rfl)).mono ?_
      rintro e W279 ⟨⟨t1, rfl, ht1⟩, hb⟩
      (try go_wp2_with fail)
      have hN := hH.call hb
      refine hK.out _ _ hN (fun _ => ?_)
      clear hK K hH hb
      (try simp only [Act.put, List.setIfInBounds_toArray, List.set_cons_zero, List.set_cons_succ])
      have hH := hN
      clear hN
      refine' wpAnyH_take (i := 13) (oi := _) (v := _) ?a280 (by kernel_rfl) (by kernel_rfl) (by kernel_rfl) ?b280 (Or.inl ⟨?c280, fun W hW => ?d280⟩) hH ?e280
      case a280 => (simp only [List.getElem?_toArray, List.getElem?_cons_succ, List.getElem?_cons_zero]; rfl)
      case c280 => rfl
      case d280 => (obtain ⟨h0, h1, h2, h3, h4, h5⟩ := HCELL.out W hW.box; go_simp; try with_reducible rfl)
      case b280 => exact fun _ _ _ h => h
      simp only [Act.put, List.setIfInBounds_toArray, List.set_cons_zero, List.set_cons_succ]
      refine wpAnyH_ready (rs := [17]) (by kernel_rfl) (by simp) ?_
      refine AllReadyH.cons (o := ?o281) ?a281 (fun K hK => ?b281) ?c281
      case a281 => (simp only [List.getElem?_toArray, List.getElem?_cons_succ, List.getElem?_cons_zero]; rfl)
      go_simp
      go_at_call 64
      refine (HL _ _ _ (by first | exact .inl rfl | exact .inr rfl)).mono ?_
      rintro e W281 ⟨⟨t2, rfl, ht2⟩, hb⟩
      (try go_wp2_with fail)
      have hN := hH.call hb
      refine hK.out _ _ hN (fun _ => ?_)
      clear hK K hH hb
      (try simp only [Act.put, List.setIfInBounds_toArray, List.set_cons_zero, List.set_cons_succ])
      have hH := hN
      clear hN
      refine' wpAnyH_take (i := 18) (oi := _) (v := _) ?a282 (by kernel_rfl) (by kernel_rfl) (by kernel_rfl) ?b282 (Or.inl ⟨?c282, fun W hW => ?d282⟩) hH ?e282
      case a282 => (simp only [List.getElem?_toArray, List.getElem?_cons_succ, List.getElem?_cons_zero]; rfl)
      case c282 => rfl
      case d282 => (obtain ⟨h0, h1, h2, h3, h4, h5⟩ := HCELL.out W hW.box; go_simp; try with_reducible rfl)
      case b282 => exact fun _ _ _ h => h
      simp only [Act.put, List.setIfInBounds_toArray, List.set_cons_zero, List.set_cons_succ]
      refine wpAnyH_ready (rs := [23]) (by kernel_rfl) (by simp) ?_
      refine AllReadyH.cons (o := ?o283) ?a283 (fun K hK => ?b283) ?c283
      case a283 => (simp only [List.getElem?_toArray, List.getElem?_cons_succ, List.getElem?_cons_zero]; rfl)
      go_simp
      go_at_call 64
      refine (HL _ _ _ (by first | exact .inl rfl | exact .inr rfl)).mono ?_
      rintro e W283 ⟨⟨t3, rfl, ht3⟩, hb⟩
      (try go_wp2_with fail)
      have hN := hH.call hb
      refine hK.out _ _ hN (fun _ => ?_)
      clear hK K hH hb
      (try simp only [Act.put, List.setIfInBounds_toArray, List.set_cons_zero, List.set_cons_succ])
      have hH := hN
      clear hN
      refine' wpAnyH_take (i := 24) (oi := _) (v := _) ?a284 (by kernel_rfl) (by kernel_rfl) (by kernel_rfl) ?b284 (Or.inl ⟨?c284, fun W hW => ?d284⟩) hH ?e284
      case a284 => (simp only [List.getElem?_toArray, List.getElem?_cons_succ, List.getElem?_cons_zero]; rfl)
      case c284 => rfl
      case d284 => (obtain ⟨h0, h1, h2, h3, h4, h5⟩ := HCELL.out W hW.box; go_simp; try with_reducible rfl)
      case b284 => exact fun _ _ _ h => h
      simp only [Act.put, List.setIfInBounds_toArray, List.set_cons_zero, List.set_cons_succ]
      refine' wpAnyH_take (i := 30) (oi := _) (v := _) ?a285 (by kernel_rfl) (by kernel_rfl) (by kernel_rfl) ?b285 (Or.inl ⟨?c285, fun W hW => ?d285⟩) hH ?e285
      case a285 => (simp only [List.getElem?_toArray, List.getElem?_cons_succ, List.getElem?_cons_zero]; rfl)
      case c285 => rfl
      case d285 => (obtain ⟨h0, h1, h2, h3, h4, h5⟩ := HCELL.out W hW.box; go_simp; try with_reducible rfl)
      case b285 => exact fun _ _ _ h => h
      simp only [Act.put, List.setIfInBounds_toArray, List.set_cons_zero, List.set_cons_succ]
      refine' wpAnyH_take (i := 31) (oi := _) (v := _) ?a286 (by kernel_rfl) (by kernel_rfl) (by kernel_rfl) ?b286 (Or.inl ⟨?c286, fun W hW => ?d286⟩) hH ?e286
      case a286 => (simp only [List.getElem?_toArray, List.getElem?_cons_succ, List.getElem?_cons_zero]; rfl)
      case c286 => rfl
      case d286 => (obtain ⟨h0, h1, h2, h3, h4, h5⟩ := HCELL.out W hW.box; go_simp; try with_reducible rfl)
      case b286 => exact fun _ _ _ h => h
      simp only [Act.put, List.setIfInBounds_toArray, List.set_cons_zero, List.set_cons_succ]
      refine wpAnyH_done (by kernel_rfl) ?_ _
      (try go_wp2_with fail); go_meet
      exact ⟨_, rfl, ⟨t1, t2, t3, ht1, ht2, ht3, rfl⟩, hH.box, hH.old⟩
      exact AllReadyH.nil
      exact AllReadyH.nil
      exact AllReadyH.nil
      refine AllReadyH.cons (o := ?o287) ?a287 (fun K hK => ?b287) ?c287
      case a287 => (simp only [List.getElem?_toArray, List.getElem?_cons_succ, List.getElem?_cons_zero]; rfl)
      go_simp
      go_at_call 64
      refine (HL _ _ _ (by first | exact .inl rfl | exact .inr rfl)).mono ?_
      rintro e W287 ⟨⟨t1, rfl, ht1⟩, hb⟩
      (try go_wp2_with fail)
      have hN := hH.call hb
      refine hK.out _ _ hN (fun _ => ?_)
      clear hK K hH hb
      (try simp only [Act.put, List.setIfInBounds_toArray, List.set_cons_zero, List.set_cons_succ])
      have hH := hN
      clear hN
      refine wpAnyH_ready (rs := [6, 17]) (by kernel_rfl) (by simp) ?_
      refine AllReadyH.cons (o := ?o288) ?a288 (fun K hK => ?b288) ?c288
      case a288 => (simp only [List.getElem?_toArray, List.getElem?_cons_succ, List.getElem?_cons_zero]; rfl)
      go_simp
      refine hK.out _ _ (hH.alloc _) (fun _ => ?_)
      clear hK K
      (try simp only [Act.put, List.setIfInBounds_toArray, List.set_cons_zero, List.set_cons_succ])
      refine wpAnyH_more (S' := KS w g0 25 #[.int .i64 v, .int .i64 ch, .int .i64 mp, .int .i64 pre, .int .i64 gn, .int .u32 rate, .int .i64 st, .int .i64 co, .string mapg, .slice M 0 mc] ((W287.heap.size, #[.int .u8 v, .int .u8 ch]) :: [(g274, #[.int .u8 mp])])) (fun _ h => h.less) _ _ _ _ ?_
      have hN := hH.add #[.int .u8 v, .int .u8 ch]
      clear hH
      generalize W287.heap.size = g288 at hN ⊢
      generalize W287.alloc _ = W288 at hN ⊢
      have hH := hN
      clear hN
      refine' wpAnyH_take (i := 7) (oi := _) (v := (.string (strOfNums [v, ch]))) ?a289 (by kernel_rfl) (by kernel_rfl) (by kernel_rfl) ?b289 (Or.inl ⟨?c289, fun W hW => ?d289⟩) hH ?e289
      case a289 => (simp only [List.getElem?_toArray, List.getElem?_cons_succ, List.getElem?_cons_zero]; rfl)
      case c289 => rfl
      case d289 => (obtain ⟨h0, h1, h2, h3, h4, h5⟩ := HCELL.out W hW.box; have hc := cv2 (hW.sl (g288, #[.int .u8 v, .int .u8 ch]) (by simp)); go_simp; try with_reducible rfl)
      case b289 => exact fun _ _ _ h => h
      simp only [Act.put, List.setIfInBounds_toArray, List.set_cons_zero, List.set_cons_succ]
      refine' wpAnyH_take (i := 8) (oi := _) (v := _) ?a290 (by kernel_rfl) (by kernel_rfl) (by kernel_rfl) ?b290 (Or.inl ⟨?c290, fun W hW => ?d290⟩) hH ?e290
      case a290 => (simp only [List.getElem?_toArray, List.getElem?_cons_succ, List.getElem?_cons_zero]; rfl)
      case c290 => rfl
      case d290 => (obtain ⟨h0, h1, h2, h3, h4, h5⟩ := HCELL.out W hW.box; go_simp; try with_reducible rfl)
      case b290 => exact fun _ _ _ h => h
      simp only [Act.put, List.setIfInBounds_toArray, List.set_cons_zero, List.set_cons_succ]
      refine' wpAnyH_take (i := 13) (oi := _) (v := _) ?a291 (by kernel_rfl) (by kernel_rfl) (by kernel_rfl) ?b291 (Or.inl ⟨?c291, fun W hW => ?d291⟩) hH ?e291
      case a291 => (simp only [List.getElem?_toArray, List.getElem?_cons_succ, List.getElem?_cons_zero]; rfl)
      case c291 => rfl
      case d291 => (obtain ⟨h0, h1, h2, h3, h4, h5⟩ := HCELL.out W hW.box; go_simp; try with_reducible rfl)
      case b291 => exact fun _ _ _ h => h
      simp only [Act.put, List.setIfInBounds_toArray, List.set_cons_zero, List.set_cons_succ]
      refine wpAnyH_ready (rs := [17]) (by kernel_rfl) (by simp) ?_
      refine AllReadyH.cons (o := ?o292) ?a292 (fun K hK => ?b292) ?c292
      case a292 => (simp only [List.getElem?_toArray, List.getElem?_cons_succ, List.getElem?_cons_zero]; rfl)
      go_simp
      go_at_call 64
      refine (HL _ _ _ (by first | exact .inl rfl | exact .inr rfl)).mono ?_
      rintro e W292 ⟨⟨t2, rfl, ht2⟩, hb⟩
      (try go_wp2_with fail)
      have hN := hH.call hb
      refine hK.out _ _ hN (fun _ => ?_)
      clear hK K hH hb
      (try simp only [Act.put, List.setIfInBounds_toArray, List.set_cons_zero, List.set_cons_succ])
      have hH := hN
      clear hN
      refine' wpAnyH_take (i := 18) (oi := _) (v := _) ?a293 (by kernel_rfl) (by kernel_rfl) (by kernel_rfl) ?b293 (Or.inl ⟨?c293, fun W hW => ?d293⟩) hH ?e293
      case a293 => (simp only [List.getElem?_toArray, List.getElem?_cons_succ, List.getElem?_cons_zero]; rfl)
      case c293 => rfl
      case d293 => (obtain ⟨h0, h1, h2, h3, h4, h5⟩ := HCELL.out W hW.box; go_simp; try with_reducible rfl)
      case b293 => exact fun _ _ _ h => h
      simp only [Act.put, List.setIfInBounds_toArray, List.set_cons_zero, List.set_cons_succ]
      refine wpAnyH_ready (rs := [23]) (by kernel_rfl) (by simp) ?_
      refine AllReadyH.cons (o := ?o294) ?a294 (fun K hK => ?b294) ?c294
      case a294 => (simp only [List.getElem?_toArray, List.getElem?_cons_succ, List.getElem?_cons_zero]; rfl)
      go_simp
      go_at_call 64
      refine (HL _ _ _ (by first | exact .inl rfl | exact .inr rfl)).mono ?_
      rintro e W294 ⟨⟨t3, rfl, ht3⟩, hb⟩
      (try go_wp2_with fail)
      have hN := hH.call hb
      refine hK.out _ _ hN (fun _ => ?_)
      clear hK K hH hb
      (try simp only [Act.put, List.setIfInBounds_toArray, List.set_cons_zero, List.set_cons_succ])
      have hH := hN
      clear hN
      refine' wpAnyH_take (i := 24) (oi := _) (v := _) ?a295 (by kernel_rfl) (by kernel_rfl) (by kernel_rfl) ?b295 (Or.inl ⟨?c295, fun W hW => ?d295⟩) hH ?e295
      case a295 => (simp only [List.getElem?_toArray, List.getElem?_cons_succ, List.getElem?_cons_zero]; rfl)
      case c295 => rfl
      case d295 => (obtain ⟨h0, h1, h2, h3, h4, h5⟩ := HCELL.out W hW.box; go_simp; try with_reducible rfl)
      case b295 => exact fun _ _ _ h => h
      simp only [Act.put, List.setIfInBounds_toArray, List.set_cons_zero, List.set_cons_succ]
      refine' wpAnyH_take (i := 30) (oi := _) (v := _) ?a296 (by kernel_rfl) (by kernel_rfl) (by kernel_rfl) ?b296 (Or.inl ⟨?c296, fun W hW => ?d296⟩) hH ?e296
      case a296 => (simp only [List.getElem?_toArray, List.getElem?_cons_succ, List.getElem?_cons_zero]; rfl)
      case c296 => rfl
      case d296 => (obtain ⟨h0, h1, h2, h3, h4, h5⟩ := HCELL.out W hW.box; go_simp; try with_reducible rfl)
      case b296 => exact fun _ _ _ h => h
      simp only [Act.put, List.setIfInBounds_toArray, List.set_cons_zero, List.set_cons_succ]
      refine' wpAnyH_take (i := 31) (oi := _) (v := _) ?a297 (by kernel_rfl) (by kernel_rfl) (by kernel_rfl) ?b297 (Or.inl ⟨?c297, fun W hW => ?d297⟩) hH ?e297
      case a297 => (simp only [List.getElem?_toArray, List.getElem?_cons_succ, List.getElem?_cons_zero]; rfl)
      case c297 => rfl
      case d297 => (obtain ⟨h0, h1, h2, h3, h4, h5⟩ := HCELL.out W hW.box; go_simp; try with_reducible rfl)
      case b297 => exact fun _ _ _ h => h
      simp only [Act.put, List.setIfInBounds_toArray, List.set_cons_zero, List.set_cons_succ]
      refine wpAnyH_done (by kernel_rfl) ?_ _
      (try go_wp2_with fail); go_meet
      exact ⟨_, rfl, ⟨t1, t2, t3, ht1, ht2, ht3, rfl⟩, hH.box, hH.old⟩
      exact AllReadyH.nil
      exact AllReadyH.nil
      refine AllReadyH.cons (o := ?o298) ?a298 (fun K hK => ?b298) ?c298
      case a298 => (simp only [List.getElem?_toArray, List.getElem?_cons_succ, List.getElem?_cons_zero]; rfl)
      go_simp
      go_at_call 64
      refine (HL _ _ _ (by first | exact .inl rfl | exact .inr rfl)).mono ?_
      rintro e W298 ⟨⟨t2, rfl, ht2⟩, hb⟩
      (try go_wp2_with fail)
      have hN := hH.call hb
      refine hK.out _ _ hN (fun _ => ?_)
      clear hK K hH hb
      (try simp only [Act.put, List.setIfInBounds_toArray, List.set_cons_zero, List.set_cons_succ])
      have hH := hN
      clear hN
      refine wpAnyH_ready (rs := [6, 23]) (by kernel_rfl) (by simp) ?_
      refine AllReadyH.cons (o := ?o299) ?a299 (fun K hK => ?b299) ?c299
      case a299 => (simp only [List.getElem?_toArray, List.getElem?_cons_succ, List.getElem?_cons_zero]; rfl)
      go_simp
      refine hK.out _ _ (hH.alloc _) (fun _ => ?_)
      clear hK K
      (try simp only [Act.put, List.setIfInBounds_toArray, List.set_cons_zero, List.set_cons_succ])
      refine wpAnyH_more (S' := KS w g0 25 #[.int .i64 v, .int .i64 ch, .int .i64 mp, .int .i64 pre, .int .i64 gn, .int .u32 rate, .int .i64 st, .int .i64 co, .string mapg, .slice M 0 mc] ((W298.heap.size, #[.int .u8 v, .int .u8 ch]) :: [(g274, #[.int .u8 mp])])) (fun _ h => h.less) _ _ _ _ ?_
      have hN := hH.add #[.int .u8 v, .int .u8 ch]
      clear hH
      generalize W298.heap.size = g299 at hN ⊢
      generalize W298.alloc _ = W299 at hN ⊢
      have hH := hN
      clear hN
      refine' wpAnyH_take (i := 7) (oi := _) (v := (.string (strOfNums [v, ch]))) ?a300 (by kernel_rfl) (by kernel_rfl) (by kernel_rfl) ?b300 (Or.inl ⟨?c300, fun W hW => ?d300⟩) hH ?e300
      case a300 => (simp only [List.getElem?_toArray, List.getElem?_cons_succ, List.getElem?_cons_zero]; rfl)
      case c300 => rfl
      case d300 => (obtain ⟨h0, h1, h2, h3, h4, h5⟩ := HCELL.out W hW.box; have hc := cv2 (hW.sl (g299, #[.int .u8 v, .int .u8 ch]) (by simp)); go_simp; try with_reducible rfl)
      case b300 => exact fun _ _ _ h => h
      simp only [Act.put, List.setIfInBounds_toArray, List.set_cons_zero, List.set_cons_succ]
      refine' wpAnyH_take (i := 8) (oi := _) (v := _) ?a301 (by kernel_rfl) (by kernel_rfl) (by kernel_rfl) ?b301 (Or.inl ⟨?c301, fun W hW => ?d301⟩) hH ?e301
      case a301 => (simp only [List.getElem?_toArray, List.getElem?_cons_succ, List.getElem?_cons_zero]; rfl)
      case c301 => rfl
      case d301 => (obtain ⟨h0, h1, h2, h3, h4, h5⟩ := HCELL.out W hW.box; go_simp; try with_reducible rfl)
      case b301 => exact fun _ _ _ h => h
      simp only [Act.put, List.setIfInBounds_toArray, List.set_cons_zero, List.set_cons_succ]
      refine' wpAnyH_take (i := 13) (oi := _) (v := _) ?a302 (by kernel_rfl) (by kernel_rfl) (by kernel_rfl) ?b302 (Or.inl ⟨?c302, fun W hW => ?d302⟩) hH ?e302
      case a302 => (simp only [List.getElem?_toArray, List.getElem?_cons_succ, List.getElem?_cons_zero]; rfl)
      case c302 => rfl
      case d302 => (obtain ⟨h0, h1, h2, h3, h4, h5⟩ := HCELL.out W hW.box; go_simp; try with_reducible rfl)
      case b302 => exact fun _ _ _ h => h
      simp only [Act.put, List.setIfInBounds_toArray, List.set_cons_zero, List.set_cons_succ]
      refine' wpAnyH_take (i := 18) (oi := _) (v := _) ?a303 (by kernel_rfl) (by kernel_rfl) (by kernel_rfl) ?b303 (Or.inl ⟨?c303, fun W hW => ?d303⟩) hH ?e303
      case a303 => (simp only [List.getElem?_toArray, List.getElem?_cons_succ, List.getElem?_cons_zero]; rfl)
      case c303 => rfl
      case d303 => (obtain ⟨h0, h1, h2, h3, h4, h5⟩ := HCELL.out W hW.box; go_simp; try with_reducible rfl)
      case b303 => exact fun _ _ _ h => h
      simp only [Act.put, List.setIfInBounds_toArray, List.set_cons_zero, List.set_cons_succ]
      refine wpAnyH_ready (rs := [23]) (by kernel_rfl) (by simp) ?_
      refine AllReadyH.cons (o := ?o304) ?a304 (fun K hK => ?b304) ?c304
      case a304 => (simp only [List.getElem?_toArray, List.getElem?_cons_succ, List.getElem?_cons_zero]; rfl)
      go_simp
      go_at_call 64
      refine (HL _ _ _ (by first | exact .inl rfl | exact .inr rfl)).mono ?_
      rintro e W304 ⟨⟨t3, rfl, ht3⟩, hb⟩
      (try go_wp2_with fail)
      have hN := hH.call hb
      refine hK.out _ _ hN (fun _ => ?_)
      clear hK K hH hb
      (try simp only [Act.put, List.setIfInBounds_toArray, List.set_cons_zero, List.set_cons_succ])
      have hH := hN
      clear hN
      refine' wpAnyH_take (i := 24) (oi := _) (v := _) ?a305 (by kernel_rfl) (by kernel_rfl) (by kernel_rfl) ?b305 (Or.inl ⟨?c305, fun W hW => ?d305⟩) hH ?e305
      case a305 => (simp only [List.getElem?_toArray, List.getElem?_cons_succ, List.getElem?_cons_zero]; rfl)
      case c305 => rfl
      case d305 => (obtain ⟨h0, h1, h2, h3, h4, h5⟩ := HCELL.out W hW.box; go_simp; try with_reducible rfl)
      case b305 => exact fun _ _ _ h => h
      simp only [Act.put, List.setIfInBounds_toArray, List.set_cons_zero, List.set_cons_succ]
      refine' wpAnyH_take (i := 30) (oi := _) (v := _) ?a306 (by kernel_rfl) (by kernel_rfl) (by kernel_rfl) ?b306 (Or.inl ⟨?c306, fun W hW => ?d306⟩) hH ?e306
      case a306 => (simp only [List.getElem?_toArray, List.getElem?_cons_succ, List.getElem?_cons_zero]; rfl)
      case c306 => rfl
      case d306 => (obtain ⟨h0, h1, h2, h3, h4, h5⟩ := HCELL.out W hW.box; go_simp; try with_reducible rfl)
      case b306 => exact fun _ _ _ h => h
      simp only [Act.put, List.setIfInBounds_toArray, List.set_cons_zero, List.set_cons_succ]
      refine' wpAnyH_take (i := 31) (oi := _) (v := _) ?a307 (by kernel_rfl) (by kernel_rfl) (by kernel_rfl) ?b307 (Or.inl ⟨?c307, fun W hW => ?d307⟩) hH ?e307
      case a307 => (simp only [List.getElem?_toArray, List.getElem?_cons_succ, List.getElem?_cons_zero]; rfl)
      case c307 => rfl
      case d307 => (obtain ⟨h0, h1, h2, h3, h4, h5⟩ := HCELL.out W hW.box; go_simp; try with_reducible rfl)
      case b307 => exact fun _ _ _ h => h
      simp only [Act.put, List.setIfInBounds_toArray, List.set_cons_zero, List.set_cons_succ]
      refine wpAnyH_done (by kernel_rfl) ?_ _
      (try go_wp2_with fail); go_meet
      exact ⟨_, rfl, ⟨t1, t2, t3, ht1, ht2, ht3, rfl⟩, hH.box, hH.old⟩
      exact AllReadyH.nil
      refine AllReadyH.cons (o := ?o308) ?a308 (fun K hK => ?b308) ?c308
      case a308 => (simp only [List.getElem?_toArray, List.getElem?_cons_succ, List.getElem?_cons_zero]; rfl)
      go_simp
      go_at_call 64
      refine (HL _ _ _ (by first | exact .inl rfl | exact .inr rfl)).mono ?_
      rintro e W308 ⟨⟨t3, rfl, ht3⟩, hb⟩
      (try go_wp2_with fail)
      have hN := hH.call hb
      refine hK.out _ _ hN (fun _ => ?_)
      clear hK K hH hb
      (try simp only [Act.put, List.setIfInBounds_toArray, List.set_cons_zero, List.set_cons_succ])
      have hH := hN
      clear hN
      refine wpAnyH_ready (rs := [6]) (by kernel_rfl) (by simp) ?_
      refine AllReadyH.cons (o := ?o309) ?a309 (fun K hK => ?b309) ?c309
      case a309 => (simp only [List.getElem?_toArray, List.getElem?_cons_succ, List.getElem?_cons_zero]; rfl)
      go_simp
      refine hK.out _ _ (hH.alloc _) (fun _ => ?_)
      clear hK K
      (try simp only [Act.put, List.setIfInBounds_toArray, List.set_cons_zero, List.set_cons_succ])
      refine wpAnyH_more (S' := KS w g0 25 #[.int .i64 v, .int .i64 ch, .int .i64 mp, .int .i64 pre, .int .i64 gn, .int .u32 rate, .int .i64 st, .int .i64 co, .string mapg, .slice M 0 mc] ((W308.heap.size, #[.int .u8 v, .int .u8 ch]) :: [(g274, #[.int .u8 mp])])) (fun _ h => h.less) _ _ _ _ ?_
      have hN := hH.add #[.int .u8 v, .int .u8 ch]
      clear hH
      generalize W308.heap.size = g309 at hN ⊢
      generalize W308.alloc _ = W309 at hN ⊢
      have hH := hN
      clear hN
      refine' wpAnyH_take (i := 7) (oi := _) (v := (.string (strOfNums [v, ch]))) ?a310 (by kernel_rfl) (by kernel_rfl) (by kernel_rfl) ?b310 (Or.inl ⟨?c310, fun W hW => ?d310⟩) hH ?e310
      case a310 => (simp only [List.getElem?_toArray, List.getElem?_cons_succ, List.getElem?_cons_zero]; rfl)
      case c310 => rfl
      case d310 => (obtain ⟨h0, h1, h2, h3, h4, h5⟩ := HCELL.out W hW.box; have hc := cv2 (hW.sl (g309, #[.int .u8 v, .int .u8 ch]) (by simp)); go_simp; try with_reducible rfl)
      case b310 => exact fun _ _ _ h => h
      simp only [Act.put, List.setIfInBounds_toArray, List.set_cons_zero, List.set_cons_succ]
      refine' wpAnyH_take (i := 8) (oi := _) (v := _) ?a311 (by kernel_rfl) (by kernel_rfl) (by kernel_rfl) ?b311 (Or.inl ⟨?c311, fun W hW => ?d311⟩) hH ?e311
      case a311 => (simp only [List.getElem?_toArray, List.getElem?_cons_succ, List.getElem?_cons_zero]; rfl)
      case c311 => rfl
      case d311 => (obtain ⟨h0, h1, h2, h3, h4, h5⟩ := HCELL.out W hW.box; go_simp; try with_reducible rfl)
      case b311 => exact fun _ _ _ h => h
      simp only [Act.put, List.setIfInBounds_toArray, List.set_cons_zero, List.set_cons_succ]
      refine' wpAnyH_take (i := 13) (oi := _) (v := _) ?a312 (by kernel_rfl) (by kernel_rfl) (by kernel_rfl) ?b312 (Or.inl ⟨?c312, fun W hW => ?d312⟩) hH ?e312
      case a312 => (simp only [List.getElem?_toArray, List.getElem?_cons_succ, List.getElem?_cons_zero]; rfl)
      case c312 => rfl
      case d312 => (obtain ⟨h0, h1, h2, h3, h4, h5⟩ := HCELL.out W hW.box; go_simp; try with_reducible rfl)
      case b312 => exact fun _ _ _ h => h
      simp only [Act.put, List.setIfInBounds_toArray, List.set_cons_zero, List.set_cons_succ]
      refine' wpAnyH_take (i := 18) (oi := _) (v := _) ?a313 (by kernel_rfl) (by kernel_rfl) (by kernel_rfl) ?b313 (Or.inl ⟨?c313, fun W hW => ?d313⟩) hH ?e313
      case a313 => (simp only [List.getElem?_toArray, List.getElem?_cons_succ, List.getElem?_cons_zero]; rfl)
      case c313 => rfl
      case d313 => (obtain ⟨h0, h1, h2, h3, h4, h5⟩ := HCELL.out W hW.box; go_simp; try with_reducible rfl)
      case b313 => exact fun _ _ _ h => h
      simp only [Act.put, List.setIfInBounds_toArray, List.set_cons_zero, List.set_cons_succ]
      refine' wpAnyH_take (i := 24) (oi := _) (v := _) ?a314 (by kernel_rfl) (by kernel_rfl) (by kernel_rfl) ?b314 (Or.inl ⟨?c314, fun W hW => ?d314⟩) hH ?e314
      case a314 => (simp only [List.getElem?_toArray, List.getElem?_cons_succ, List.getElem?_cons_zero]; rfl)
      case c314 => rfl
      case d314 => (obtain ⟨h0, h1, h2, h3, h4, h5⟩ := HCELL.out W hW.box; go_simp; try with_reducible rfl)
      case b314 => exact fun _ _ _ h => h
      simp only [Act.put, List.setIfInBounds_toArray, List.set_cons_zero, List.set_cons_succ]
      refine' wpAnyH_take (i := 30) (oi := _) (v := _) ?a315 (by kernel_rfl) (by kernel_rfl) (by kernel_rfl) ?b315 (Or.inl ⟨?c315, fun W hW => ?d315⟩) hH ?e315
      case a315 => (simp only [List.getElem?_toArray, List.getElem?_cons_succ, List.getElem?_cons_zero]; rfl)
      case c315 => rfl
      case d315 => (obtain ⟨h0, h1, h2, h3, h4, h5⟩ := HCELL.out W hW.box; go_simp; try with_reducible rfl)
      case b315 => exact fun _ _ _ h => h
      simp only [Act.put, List.setIfInBounds_toArray, List.set_cons_zero, List.set_cons_succ]
      refine' wpAnyH_take (i := 31) (oi := _) (v := _) ?a316 (by kernel_rfl) (by kernel_rfl) (by kernel_rfl) ?b316 (Or.inl ⟨?c316, fun W hW => ?d316⟩) hH ?e316
      case a316 => (simp only [List.getElem?_toArray, List.getElem?_cons_succ, List.getElem?_cons_zero]; rfl)
      case c316 => rfl
      case d316 => (obtain ⟨h0, h1, h2, h3, h4, h5⟩ := HCELL.out W hW.box; go_simp; try with_reducible rfl)
      case b316 => exact fun _ _ _ h => h
      simp only [Act.put, List.setIfInBounds_toArray, List.set_cons_zero, List.set_cons_succ]
      refine wpAnyH_done (by kernel_rfl) ?_ _
      (try go_wp2_with fail); go_meet
      exact ⟨_, rfl, ⟨t1, t2, t3, ht1, ht2, ht3, rfl⟩, hH.box, hH.old⟩
      exact AllReadyH.nil
      exact AllReadyH.nil
      exact AllReadyH.nil
      exact AllReadyH.nil
      exact AllReadyH.nil
  case rest =>
    as_aux_lemma =>
      obtain ⟨s, rfl, HT, HBx, HFx⟩ := hcut
      have hb1 : wc.cell? ⟨g0, 1, none⟩ = some (.int .i64 ch) := by simpa using HBx.cell 1
      have hb2 : wc.cell? ⟨g0, 2, none⟩ = some (.int .i64 mp) := by simpa using HBx.cell 2
      have hb6 : wc.cell? ⟨g0, 6, none⟩ = some (.int .i64 st) := by simpa using HBx.cell 6
      have hb7 : wc.cell? ⟨g0, 7, none⟩ = some (.int .i64 co) := by simpa using HBx.cell 7
      have hb8 : wc.cell? ⟨g0, 8, none⟩ = some (.string mapg) := by simpa using HBx.cell 8
      have hFx := Lib.hid HFx
      have HBa := Lib.hid HBx
      have hlt := Lib.hid HBx.lt
      clear HFx HBx
      by_cases hz : mp = 0
      · subst hz
        have hPK := Lib.hid (head_pk0 HT hv0 hv1 hc0 hc1)
        clear HT
        go_wp2_with (go_at_call 65; refine (told_c _ _).mono ?_; rintro e w' ⟨⟨c, rfl, hc⟩, rfl⟩)
        all_goals (try go_ret2)
        all_goals exact ⟨s, c, rfl, hc, fun _ => hPK.out.1, hPK.out.2, hFx.out⟩
      · by_cases hT : 1 ≤ st ∧ st ≤ 255 ∧ 0 ≤ co ∧ co ≤ st ∧ st + co ≤ 255 ∧ (mapg.size : Int) = ch ∧ (mp = 1 ∨ mp = 255)
        · obtain ⟨t1, t2, t3, t4, t5, t6, t7⟩ := hT
          have hPK := Lib.hid (head_pk1 (st := st) (co := co) HT hv0 hv1 hc0 hc1 t7 t6)
          have hws := u8_wrap st (by omega) (by omega)
          have hwo := u8_wrap co (by omega) (by omega)
          have hcv := fun W => cv2 (Blk.new W 5 #[.int .u8 st, .int .u8 co])
          have hwa : IntKind.i64.wrap (st + co) = st + co := i64_wrap _ (by omega) (by omega)
          have ho8 : ∀ o, (wc.alloc o).cell? ⟨g0, 8, none⟩ = some (.string mapg) := fun o => by simpa using (HBa.out.alloc o).cell 8
          have hss := Lib.hid (text1_size HT)
          have hsS := Lib.hid (strOfNums_size [st, co])
          clear HT
          go_wp2_with fail
          all_goals (try go_ret2)
          all_goals first
            | exact ⟨_, 1, rfl, .inl rfl, fun _ => hPK.out.1, hPK.out.2, hFx.out.alloc hFx.out.size _⟩
            | (exfalso; have e1 := hss.out; have e2 := hsS.out; simp only [List.length_cons, List.length_nil] at e2; omega)
            | (exfalso; simp only [bne_iff_ne, ne_eq, bne_eq_false_iff_eq] at *; omega)
        · clear HT
          go_wp2_with fail
          all_goals (try go_ret2)
          all_goals first
            | exact ⟨_, 2, rfl, .inr rfl, fun h => by omega, by simp [ByteArray.size], hFx.out⟩
            | (exfalso; omega)
            | (exfalso; simp only [bne_iff_ne, ne_eq, bne_eq_false_iff_eq] at *; omega)
end Go.Proofs.YtojdfjohmicopaaGreatDoor
namespace Go.Proofs.YtojdfjohmicopaaGreatDoor
open Go Go.RowKit Go.Proofs.YtojdfjohmicopaaGreatDoorW.PrintWords Go.Proofs.YtojdfjohmicopaaGreatDoor.Crc Go.Proofs.YtojdfjohmicopaaGreatDoor.PFnOggHurt

theorem head_any (v ch mp pre gn : Int) (rate : Int) (st co : Int) (mapg : ByteArray) (M : Option Addr) (ml mc : Nat) (hr0 : 0 ≤ rate) (hr1 : rate < 4294967296) (hms : mapg.size ≤ 1048576) (w : World) :
    Calls Tryz.prog 28 #[.agg #[.int .i64 v, .int .i64 ch, .int .i64 mp, .int .i64 pre, .int .i64 gn, .int .u32 rate, .int .i64 st, .int .i64 co, .string mapg, .slice M ml mc]] w (HeadPost w) := by
  by_cases h0 : 0 ≤ v
  · by_cases h1 : v ≤ 255
    · by_cases h2 : 1 ≤ ch
      · by_cases h3 : ch ≤ 255
        · by_cases h4 : 0 ≤ mp
          · by_cases h5 : mp ≤ 255
            · by_cases h6 : 0 ≤ pre
              · by_cases h7 : pre ≤ 65535
                · by_cases h8 : -32768 ≤ gn
                  · by_cases h9 : gn ≤ 65535
                    · by_cases hx : ml = 0
                      · exact head_yes v ch mp pre gn rate st co mapg M ml mc h0 h1 h2 h3 h4 h5 h6 h7 h8 h9 hx hr0 hr1 hms w
                      · exact head_no10 v ch mp pre gn rate st co mapg M ml mc h0 h1 h2 h3 h4 h5 h6 h7 h8 h9 hx w
                    · exact head_no9 v ch mp pre gn rate st co mapg M ml mc h0 h1 h2 h3 h4 h5 h6 h7 h8 h9 w
                  · exact head_no8 v ch mp pre gn rate st co mapg M ml mc h0 h1 h2 h3 h4 h5 h6 h7 h8 w
                · exact head_no7 v ch mp pre gn rate st co mapg M ml mc h0 h1 h2 h3 h4 h5 h6 h7 w
              · exact head_no6 v ch mp pre gn rate st co mapg M ml mc h0 h1 h2 h3 h4 h5 h6 w
            · exact head_no5 v ch mp pre gn rate st co mapg M ml mc h0 h1 h2 h3 h4 h5 w
          · exact head_no4 v ch mp pre gn rate st co mapg M ml mc h0 h1 h2 h3 h4 w
        · exact head_no3 v ch mp pre gn rate st co mapg M ml mc h0 h1 h2 h3 w
      · exact head_no2 v ch mp pre gn rate st co mapg M ml mc h0 h1 h2 w
    · exact head_no1 v ch mp pre gn rate st co mapg M ml mc h0 h1 w
  · exact head_no0 v ch mp pre gn rate st co mapg M ml mc h0 w
end Go.Proofs.YtojdfjohmicopaaGreatDoor
