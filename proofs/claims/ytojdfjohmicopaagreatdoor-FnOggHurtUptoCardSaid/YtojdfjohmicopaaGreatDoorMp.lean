/- A contract of spec.pageText: what it writes is a page. Conditions: bounded sizes. A contract of spec.OggWrite: what it writes are pages; the laws' sizes. Condition: bounded sizes. A page's segments and parts: plain laws. No condition. -/
import Derived.Test.YtojdfjohmicopaaGreatDoorMo
import Derived.Test.YtojdfjohmicopaaGreatDoorMi
namespace Go.Proofs.YtojdfjohmicopaaGreatDoor
open Go Go.RowKit Go.Proofs.YtojdfjohmicopaaGreatDoorW.PrintWords Go.Proofs.YtojdfjohmicopaaGreatDoor.Crc Go.Proofs.YtojdfjohmicopaaGreatDoor.PFnOggHurt

/-- Texts put together, as numbers. -/
def joinI (l : List ByteArray) : List Int := l.flatMap bytesOf
theorem joinI_length (l : List ByteArray) : (joinI l).length = tot l := by
  induction l with
  | nil => rfl
  | cons s l ih => simp [joinI, tot, bytesOf_length] at ih ⊢
theorem joinI_bytes (l : List ByteArray) : Bytes (joinI l) := by
  intro v hv
  simp only [joinI, List.mem_flatMap] at hv
  obtain ⟨s, _, h⟩ := hv
  exact bytesOf_bytes s v h
theorem joinI_snoc (l : List ByteArray) (k : Nat) (h : k < l.length) : joinI (l.take (k + 1)) = joinI (l.take k) ++ bytesOf l[k] := by
  unfold joinI
  rw [List.take_succ_eq_append_getElem h, List.flatMap_append]
  simp only [List.flatMap_cons, List.flatMap_nil, List.append_nil]
theorem size_ba (a b : ByteArray) : (a ++ b).size = a.size + b.size := ByteArray.size_append
theorem sum_lt (c : BitVec 32) : (0 : Int) ≤ (c.toNat : Int) ∧ (c.toNat : Int) < 4294967296 := by have := c.isLt; omega
/-- The first 22 bytes. -/
def headB (f g s q : Int) : List Int := [79, 103, 103, 83, 0] ++ ([f % 256] ++ (leB g 8 ++ (leB (IntKind.u64.wrap s) 4 ++ leB (IntKind.u64.wrap q) 4)))
/-- A page as it is written. -/
def pgOf (f g s q : Int) (L : List Int) (B : List Int) : Pg := ⟨headB f g s q, leB ((sumI 0#32 (headB f g s q ++ ([0, 0, 0, 0] ++ ((L.length : Int) :: (L ++ B))))).toNat : Int) 4, L, B⟩
theorem headB_bytes (f g s q : Int) : Bytes (headB f g s q) := by
  refine Bytes.app (fun v hv => ?_) (Bytes.app (Bytes.one (by omega) (by omega)) (Bytes.app (leB_bytes _ _) (Bytes.app (leB_bytes _ _) (leB_bytes _ _))))
  simp only [List.mem_cons, List.not_mem_nil, or_false] at hv
  omega
theorem pgOf_fit (f g s q : Int) (L B : List Int) (h1 : L.length ≤ 255) (h2 : total L = B.length) (h3 : Bytes L) (h4 : Bytes B) : (pgOf f g s q L B).Fit ∧ (pgOf f g s q L B).ok := by
  refine ⟨⟨by simp [pgOf, headB, leB_length], by simp [pgOf, leB_length], h1, h2.symm, headB_bytes _ _ _ _, leB_bytes _ _, h3, h4⟩, ?_⟩
  have := sum_lt (sumI 0#32 (headB f g s q ++ ([0, 0, 0, 0] ++ ((L.length : Int) :: (L ++ B)))))
  exact leB_leZ _ this.1 this.2
theorem least_eq (n c : Int) (W : World) (hc : c = 4 ∨ c = 8) : Calls Tryz.prog 64 #[.int .u64 n, .int .i64 c] W fun e w' => (∃ t, e = .returned (.string t) ∧ t.size = c.toNat ∧ Hid (t = strOfNums (leB n c.toNat))) ∧ Below W.heap.size W w' := by
  obtain ⟨k, hk⟩ := (ev_least n c.toNat (by omega)).rounds
  have h := spec_least.calls k n ((c.toNat : Nat) : Int) _ W hk
  rw [show ((c.toNat : Nat) : Int) = c by omega] at h
  refine h.mono ?_
  rintro e w' ⟨rfl, hb⟩
  exact ⟨⟨_, rfl, by rw [strOfNums_size]; simp, Lib.hid rfl⟩, hb⟩
/-- The lengths of a page's segments. -/
theorem seg_any (a0 a1 a2 a3 : Int) (l : List ByteArray) (m : Bool) (hl : l.length ≤ 1048576) (ht : tot l ≤ 1048576) (A : Option Addr) (c : Nat) (hc : l.length ≤ c) (w : World) (hC : Kd.C Kd.string w A l.length l) :
    Calls Tryz.prog 66 #[.agg #[.int .u32 a0, .int .u32 a1, .int .u64 a2, .int .i64 a3, .slice A l.length c, .bool m]] w fun e w' => ∃ L ok v, e = .returned (.tuple #[v, .bool ok]) ∧ Kd.R (Kd.int .u8) 5 w' w.heap.size (fun _ => True) v L ∧ Below w.heap.size w w' ∧ (ok = true → L.length ≤ 255 ∧ total L = tot l ∧ Bytes L) ∧ (m = false → L = lensOf l) := by
  obtain ⟨L, ok, h, h1, h2⟩ := ev_segments a0 a1 a2 a3 l m hl ht
  obtain ⟨k, hk⟩ := h.rounds
  refine (spec_segments.calls k a0 a1 a2 a3 A c l m L ok w hC hc hk).mono ?_
  rintro e w' ⟨v, rfl, hR, hb⟩
  exact ⟨L, ok, v, rfl, hR, hb, h1, h2⟩
/-- What pageText gives. -/
def TextPost (a0 a1 a2 a3 : Int) (l : List ByteArray) (m : Bool) (w : World) (e : Ending) (w' : World) : Prop := ∃ t ok, e = .returned (.tuple #[.string t, .bool ok]) ∧ t.size ≤ 2097152 ∧
  (ok = true → ∃ L, t = strOfNums (pgOf a3 a2 a0 a1 L (joinI l)).bytes ∧ (pgOf a3 a2 a0 a1 L (joinI l)).Fit ∧ (pgOf a3 a2 a0 a1 L (joinI l)).ok ∧ (m = false → L = lensOf l)) ∧ Below w.heap.size w w'
theorem head_text (a0 a1 a2 a3 : Int) (h0 : 0 ≤ a3) (h7 : a3 ≤ 7) {t1 t2 t3 : ByteArray} (h1 : Hid (t1 = strOfNums (leB a2 8))) (h2 : Hid (t2 = strOfNums (leB (IntKind.u64.wrap a0) 4))) (h3 : Hid (t3 = strOfNums (leB (IntKind.u64.wrap a1) 4))) :
    Hid (bytesOf (((((⟨#[79, 103, 103, 83, 0]⟩ : ByteArray) ++ strOfNums [a3]) ++ t1) ++ t2) ++ t3) = headB a3 a2 a0 a1) := by
  refine Lib.hid ?_
  rw [h1.out, h2.out, h3.out, bytesOf_append, bytesOf_append, bytesOf_append, bytesOf_append, bytesOf_str (Bytes.one (by omega) (by omega)), bytesOf_str (leB_bytes _ _), bytesOf_str (leB_bytes _ _), bytesOf_str (leB_bytes _ _)]
  have : bytesOf (⟨#[79, 103, 103, 83, 0]⟩ : ByteArray) = [79, 103, 103, 83, 0] := by decide
  have h : a3 % 256 = a3 := by omega
  rw [this]; simp [headB, h]
/-- Behind the first statement. -/
def PCut (w : World) (g : Nat) (a0 a1 a2 a3 : Int) (A : Option Addr) (n c : Nat) (m : Bool) (v6 : Value) (W : World) : Prop := ∃ s, v6 = .string s ∧ s.size = 22 ∧ Hid (bytesOf s = headB a3 a2 a0 a1) ∧ KS w g 47 #[.int .u32 a0, .int .u32 a1, .int .u64 a2, .int .i64 a3, .slice A n c, .bool m] [] W
set_option maxRecDepth 100000 in
set_option maxHeartbeats 8000000 in
theorem pageText_any (a0 a1 a2 a3 : Int) (l : List ByteArray) (m : Bool) (hl : l.length ≤ 1048576) (ht : tot l ≤ 1048576) (A : Option Addr) (c : Nat) (hc : l.length ≤ c) (w : World) (hC : Kd.C Kd.string w A l.length l) :
    Calls Tryz.prog 30 #[.agg #[.int .u32 a0, .int .u32 a1, .int .u64 a2, .int .i64 a3, .slice A l.length c, .bool m]] w (TextPost a0 a1 a2 a3 l m w) := by
  have HC := Lib.hid hC
  clear hC
  go_enter Tryz.func30, Tryz.ntmps30
  have hbx := Blk.new w 47 #[.int .u32 a0, .int .u32 a1, .int .u64 a2, .int .i64 a3, .slice A l.length c, .bool m]
  have hb0 := (Below.refl w.heap.size w).alloc (Nat.le_refl _) (.cells #[.int .u32 a0, .int .u32 a1, .int .u64 a2, .int .i64 a3, .slice A l.length c, .bool m] 47)
  have HS := Lib.hid (seg_any a0 a1 a2 a3 l m hl ht A c hc _ (Kd.C_below HC.out hb0))
  have HBX := Lib.hid hbx
  have HB0 := Lib.hid hb0
  clear hbx hb0
  go_wp2_with fail
  generalize w.alloc (.cells #[.int .u32 a0, .int .u32 a1, .int .u64 a2, .int .i64 a3, .slice A l.length c, .bool m] 47) = w0 at HS HBX HB0 ⊢
  refine HS.out.mono ?_
  rintro e w1 ⟨L, ok, v, rfl, hR, hb, h1, h2⟩
  have HBX1 := Lib.hid (blk_on HBX.out hb)
  have HB1 := Lib.hid (HB0.out.trans (hb.mono HB0.out.size))
  have HR := Lib.hid hR; have H1 := Lib.hid h1; have H2 := Lib.hid h2
  have hsz : w.heap.size < w1.heap.size := HBX1.out.lt
  have hsz0 : w0.heap.size ≤ w1.heap.size := hb.size
  have c3 : w1.cell? ⟨w.heap.size, 3, none⟩ = some (.int .i64 a3) := by simpa using HBX1.out.cell 3
  clear hb hR h1 h2 HS HBX HB0
  cases ok
  · go_wp2_with fail
    go_ret2
    exact ⟨_, false, rfl, by simp [ByteArray.size], (fun h => by cases h), HB1.out⟩
  by_cases h0 : 0 ≤ a3
  case neg =>
    go_wp2_with fail
    go_ret2
    exact ⟨_, false, rfl, by simp [ByteArray.size], (fun h => by cases h), HB1.out⟩
  by_cases h7 : a3 ≤ 7
  case neg =>
    go_wp2_with fail
    go_ret2
    exact ⟨_, false, rfl, by simp [ByteArray.size], (fun h => by cases h), HB1.out⟩
  go_upto_region 4 with fail
  have hK : KS w1 w.heap.size 47 #[.int .u32 a0, .int .u32 a1, .int .u64 a2, .int .i64 a3, .slice A l.length c, .bool m] [] w1 := ⟨HBX1.out, Below.refl _ _, fun p hp => by cases hp⟩
  have HK := Lib.hid hK
  clear hK c3 HBX1
  generalize hge : w.heap.size = g0 at HK hsz ⊢
  have HGE := Lib.hid hge
  clear hge
  go_cut [6] (fun v6 wx => PCut w1 g0 a0 a1 a2 a3 A l.length c m v6 wx)
  case first =>
    have hw8 := u8_wrap a3 h0 (by omega)
    have s0 : (⟨#[79, 103, 103, 83, 0]⟩ : ByteArray).size = 5 := rfl
    have s1 : (strOfNums [a3]).size = 1 := strOfNums_size _
    have hfin : ∀ t1 t2 t3 : ByteArray, Hid (t1 = strOfNums (leB a2 8)) → Hid (t2 = strOfNums (leB (IntKind.u64.wrap a0) 4)) → Hid (t3 = strOfNums (leB (IntKind.u64.wrap a1) 4)) → Hid (bytesOf (((((⟨#[79, 103, 103, 83, 0]⟩ : ByteArray) ++ strOfNums [a3]) ++ t1) ++ t2) ++ t3) = headB a3 a2 a0 a1) := fun t1 t2 t3 => head_text a0 a1 a2 a3 h0 h7
    have HCELL : ∀ W, Blk W g0 47 #[.int .u32 a0, .int .u32 a1, .int .u64 a2, .int .i64 a3, .slice A l.length c, .bool m] → W.cell? ⟨g0, 0, none⟩ = some (.int .u32 a0) ∧ W.cell? ⟨g0, 1, none⟩ = some (.int .u32 a1) ∧ W.cell? ⟨g0, 2, none⟩ = some (.int .u64 a2) ∧ W.cell? ⟨g0, 3, none⟩ = some (.int .i64 a3) := fun W h => ⟨by simpa using h.cell 0, by simpa using h.cell 1, by simpa using h.cell 2, by simpa using h.cell 3⟩
    have HCELL := Lib.hid HCELL
    refine wp_region_held_drew (S := KS w1 g0 47 #[.int .u32 a0, .int .u32 a1, .int .u64 a2, .int .i64 a3, .slice A l.length c, .bool m] []) (by kernel_rfl) HK.out.drew (fun hH => ?_)
    generalize w1.drew = W1 at hH ⊢
    refine' wpAnyH_take (i := 0) (oi := _) (v := _) ?a101 (by kernel_rfl) (by kernel_rfl) (by kernel_rfl) ?b101 (Or.inl ⟨?c101, fun W hW => ?d101⟩) hH ?e101
    case a101 => (simp only [List.getElem?_toArray, List.getElem?_cons_succ, List.getElem?_cons_zero]; rfl)
    case c101 => rfl
    case d101 => (obtain ⟨h0, h1, h2, h3⟩ := HCELL.out W hW.box; go_simp; try with_reducible rfl)
    case b101 => exact fun _ _ _ h => h
    simp only [Act.put, List.setIfInBounds_toArray, List.set_cons_zero, List.set_cons_succ]
    refine' wpAnyH_take (i := 1) (oi := _) (v := _) ?a102 (by kernel_rfl) (by kernel_rfl) (by kernel_rfl) ?b102 (Or.inl ⟨?c102, fun W hW => ?d102⟩) hH ?e102
    case a102 => (simp only [List.getElem?_toArray, List.getElem?_cons_succ, List.getElem?_cons_zero]; rfl)
    case c102 => rfl
    case d102 => (obtain ⟨h0, h1, h2, h3⟩ := HCELL.out W hW.box; go_simp; try with_reducible rfl)
    case b102 => exact fun _ _ _ h => h
    simp only [Act.put, List.setIfInBounds_toArray, List.set_cons_zero, List.set_cons_succ]
    refine' wpAnyH_take (i := 2) (oi := _) (v := _) ?a103 (by kernel_rfl) (by kernel_rfl) (by kernel_rfl) ?b103 (Or.inl ⟨?c103, fun W hW => ?d103⟩) hH ?e103
    case a103 => (simp only [List.getElem?_toArray, List.getElem?_cons_succ, List.getElem?_cons_zero]; rfl)
    case c103 => rfl
    case d103 => (obtain ⟨h0, h1, h2, h3⟩ := HCELL.out W hW.box; go_simp; try with_reducible rfl)
    case b103 => exact fun _ _ _ h => h
    simp only [Act.put, List.setIfInBounds_toArray, List.set_cons_zero, List.set_cons_succ]
    refine' wpAnyH_take (i := 6) (oi := _) (v := _) ?a104 (by kernel_rfl) (by kernel_rfl) (by kernel_rfl) ?b104 (Or.inl ⟨?c104, fun W hW => ?d104⟩) hH ?e104
    case a104 => (simp only [List.getElem?_toArray, List.getElem?_cons_succ, List.getElem?_cons_zero]; rfl)
    case c104 => rfl
    case d104 => (obtain ⟨h0, h1, h2, h3⟩ := HCELL.out W hW.box; go_simp; try with_reducible rfl)
    case b104 => exact fun _ _ _ h => h
    simp only [Act.put, List.setIfInBounds_toArray, List.set_cons_zero, List.set_cons_succ]
    refine' wpAnyH_take (i := 7) (oi := _) (v := _) ?a105 (by kernel_rfl) (by kernel_rfl) (by kernel_rfl) ?b105 (Or.inl ⟨?c105, fun W hW => ?d105⟩) hH ?e105
    case a105 => (simp only [List.getElem?_toArray, List.getElem?_cons_succ, List.getElem?_cons_zero]; rfl)
    case c105 => rfl
    case d105 => (obtain ⟨h0, h1, h2, h3⟩ := HCELL.out W hW.box; go_simp; try with_reducible rfl)
    case b105 => exact fun _ _ _ h => h
    simp only [Act.put, List.setIfInBounds_toArray, List.set_cons_zero, List.set_cons_succ]
    refine' wpAnyH_take (i := 10) (oi := _) (v := _) ?a106 (by kernel_rfl) (by kernel_rfl) (by kernel_rfl) ?b106 (Or.inl ⟨?c106, fun W hW => ?d106⟩) hH ?e106
    case a106 => (simp only [List.getElem?_toArray, List.getElem?_cons_succ, List.getElem?_cons_zero]; rfl)
    case c106 => rfl
    case d106 => (obtain ⟨h0, h1, h2, h3⟩ := HCELL.out W hW.box; go_simp; try with_reducible rfl)
    case b106 => exact fun _ _ _ h => h
    simp only [Act.put, List.setIfInBounds_toArray, List.set_cons_zero, List.set_cons_succ]
    refine' wpAnyH_take (i := 11) (oi := _) (v := _) ?a107 (by kernel_rfl) (by kernel_rfl) (by kernel_rfl) ?b107 (Or.inl ⟨?c107, fun W hW => ?d107⟩) hH ?e107
    case a107 => (simp only [List.getElem?_toArray, List.getElem?_cons_succ, List.getElem?_cons_zero]; rfl)
    case c107 => rfl
    case d107 => (obtain ⟨h0, h1, h2, h3⟩ := HCELL.out W hW.box; go_simp; try with_reducible rfl)
    case b107 => exact fun _ _ _ h => h
    simp only [Act.put, List.setIfInBounds_toArray, List.set_cons_zero, List.set_cons_succ]
    refine' wpAnyH_take (i := 12) (oi := _) (v := _) ?a108 (by kernel_rfl) (by kernel_rfl) (by kernel_rfl) ?b108 (Or.inl ⟨?c108, fun W hW => ?d108⟩) hH ?e108
    case a108 => (simp only [List.getElem?_toArray, List.getElem?_cons_succ, List.getElem?_cons_zero]; rfl)
    case c108 => rfl
    case d108 => (obtain ⟨h0, h1, h2, h3⟩ := HCELL.out W hW.box; go_simp; try with_reducible rfl)
    case b108 => exact fun _ _ _ h => h
    simp only [Act.put, List.setIfInBounds_toArray, List.set_cons_zero, List.set_cons_succ]
    refine' wpAnyH_take (i := 15) (oi := _) (v := _) ?a109 (by kernel_rfl) (by kernel_rfl) (by kernel_rfl) ?b109 (Or.inl ⟨?c109, fun W hW => ?d109⟩) hH ?e109
    case a109 => (simp only [List.getElem?_toArray, List.getElem?_cons_succ, List.getElem?_cons_zero]; rfl)
    case c109 => rfl
    case d109 => (obtain ⟨h0, h1, h2, h3⟩ := HCELL.out W hW.box; go_simp; try with_reducible rfl)
    case b109 => exact fun _ _ _ h => h
    simp only [Act.put, List.setIfInBounds_toArray, List.set_cons_zero, List.set_cons_succ]
    refine' wpAnyH_take (i := 16) (oi := _) (v := _) ?a110 (by kernel_rfl) (by kernel_rfl) (by kernel_rfl) ?b110 (Or.inl ⟨?c110, fun W hW => ?d110⟩) hH ?e110
    case a110 => (simp only [List.getElem?_toArray, List.getElem?_cons_succ, List.getElem?_cons_zero]; rfl)
    case c110 => rfl
    case d110 => (obtain ⟨h0, h1, h2, h3⟩ := HCELL.out W hW.box; go_simp; try with_reducible rfl)
    case b110 => exact fun _ _ _ h => h
    simp only [Act.put, List.setIfInBounds_toArray, List.set_cons_zero, List.set_cons_succ]
    refine' wpAnyH_take (i := 17) (oi := _) (v := _) ?a111 (by kernel_rfl) (by kernel_rfl) (by kernel_rfl) ?b111 (Or.inl ⟨?c111, fun W hW => ?d111⟩) hH ?e111
    case a111 => (simp only [List.getElem?_toArray, List.getElem?_cons_succ, List.getElem?_cons_zero]; rfl)
    case c111 => rfl
    case d111 => (obtain ⟨h0, h1, h2, h3⟩ := HCELL.out W hW.box; go_simp; try with_reducible rfl)
    case b111 => exact fun _ _ _ h => h
    simp only [Act.put, List.setIfInBounds_toArray, List.set_cons_zero, List.set_cons_succ]
    refine wpAnyH_ready (rs := [3, 8]) (by kernel_rfl) (by simp) ?_
    refine AllReadyH.cons (o := ?o112) ?a112 (fun K hK => ?b112) ?c112
    case a112 => (simp only [List.getElem?_toArray, List.getElem?_cons_succ, List.getElem?_cons_zero]; rfl)
    go_simp
    refine hK.out _ _ (hH.alloc _) (fun _ => ?_)
    clear hK K
    (try simp only [Act.put, List.setIfInBounds_toArray, List.set_cons_zero, List.set_cons_succ])
    refine wpAnyH_more (S' := KS w1 g0 47 #[.int .u32 a0, .int .u32 a1, .int .u64 a2, .int .i64 a3, .slice A l.length c, .bool m] ((W1.heap.size, #[.int .u8 a3]) :: [])) (fun _ h => h.less) _ _ _ _ ?_
    have hN := hH.add #[.int .u8 a3]
    clear hH
    generalize W1.heap.size = g112 at hN ⊢
    generalize W1.alloc _ = W112 at hN ⊢
    have hH := hN
    clear hN
    refine' wpAnyH_take (i := 4) (oi := _) (v := (.string (strOfNums [a3]))) ?a113 (by kernel_rfl) (by kernel_rfl) (by kernel_rfl) ?b113 (Or.inl ⟨?c113, fun W hW => ?d113⟩) hH ?e113
    case a113 => (simp only [List.getElem?_toArray, List.getElem?_cons_succ, List.getElem?_cons_zero]; rfl)
    case c113 => rfl
    case d113 => (obtain ⟨h0, h1, h2, h3⟩ := HCELL.out W hW.box; have hc := cv1 (hW.sl (g112, #[.int .u8 a3]) (by simp)); go_simp; try with_reducible rfl)
    case b113 => exact fun _ _ _ h => h
    simp only [Act.put, List.setIfInBounds_toArray, List.set_cons_zero, List.set_cons_succ]
    refine' wpAnyH_take (i := 5) (oi := _) (v := _) ?a114 (by kernel_rfl) (by kernel_rfl) (by kernel_rfl) ?b114 (Or.inl ⟨?c114, fun W hW => ?d114⟩) hH ?e114
    case a114 => (simp only [List.getElem?_toArray, List.getElem?_cons_succ, List.getElem?_cons_zero]; rfl)
    case c114 => rfl
    case d114 => (obtain ⟨h0, h1, h2, h3⟩ := HCELL.out W hW.box; go_simp; try with_reducible rfl)
    case b114 => exact fun _ _ _ h => h
    simp only [Act.put, List.setIfInBounds_toArray, List.set_cons_zero, List.set_cons_succ]
    refine wpAnyH_ready (rs := [8]) (by kernel_rfl) (by simp) ?_
    refine AllReadyH.cons (o := ?o115) ?a115 (fun K hK => ?b115) ?c115
    case a115 => (simp only [List.getElem?_toArray, List.getElem?_cons_succ, List.getElem?_cons_zero]; rfl)
    go_simp
    go_at_call 64
    refine (least_eq _ _ _ (by first | exact .inl rfl | exact .inr rfl)).mono ?_
    rintro e W115 ⟨⟨t1, rfl, hs1, ht1⟩, hb⟩
    (try go_wp2_with fail)
    have hN := hH.call hb
    refine hK.out _ _ hN (fun _ => ?_)
    clear hK K hH hb
    (try simp only [Act.put, List.setIfInBounds_toArray, List.set_cons_zero, List.set_cons_succ])
    have hH := hN
    clear hN
    refine' wpAnyH_take (i := 9) (oi := _) (v := _) ?a116 (by kernel_rfl) (by kernel_rfl) (by kernel_rfl) ?b116 (Or.inl ⟨?c116, fun W hW => ?d116⟩) hH ?e116
    case a116 => (simp only [List.getElem?_toArray, List.getElem?_cons_succ, List.getElem?_cons_zero]; rfl)
    case c116 => rfl
    case d116 => (obtain ⟨h0, h1, h2, h3⟩ := HCELL.out W hW.box; go_simp; try with_reducible rfl)
    case b116 => exact fun _ _ _ h => h
    simp only [Act.put, List.setIfInBounds_toArray, List.set_cons_zero, List.set_cons_succ]
    refine wpAnyH_ready (rs := [13]) (by kernel_rfl) (by simp) ?_
    refine AllReadyH.cons (o := ?o117) ?a117 (fun K hK => ?b117) ?c117
    case a117 => (simp only [List.getElem?_toArray, List.getElem?_cons_succ, List.getElem?_cons_zero]; rfl)
    go_simp
    go_at_call 64
    refine (least_eq _ _ _ (by first | exact .inl rfl | exact .inr rfl)).mono ?_
    rintro e W117 ⟨⟨t2, rfl, hs2, ht2⟩, hb⟩
    (try go_wp2_with fail)
    have hN := hH.call hb
    refine hK.out _ _ hN (fun _ => ?_)
    clear hK K hH hb
    (try simp only [Act.put, List.setIfInBounds_toArray, List.set_cons_zero, List.set_cons_succ])
    have hH := hN
    clear hN
    refine' wpAnyH_take (i := 14) (oi := _) (v := _) ?a118 (by kernel_rfl) (by kernel_rfl) (by kernel_rfl) ?b118 (Or.inl ⟨?c118, fun W hW => ?d118⟩) hH ?e118
    case a118 => (simp only [List.getElem?_toArray, List.getElem?_cons_succ, List.getElem?_cons_zero]; rfl)
    case c118 => rfl
    case d118 => (obtain ⟨h0, h1, h2, h3⟩ := HCELL.out W hW.box; go_simp; try with_reducible rfl)
    case b118 => exact fun _ _ _ h => h
    simp only [Act.put, List.setIfInBounds_toArray, List.set_cons_zero, List.set_cons_succ]
    refine wpAnyH_ready (rs := [18]) (by kernel_rfl) (by simp) ?_
    refine AllReadyH.cons (o := ?o119) ?a119 (fun K hK => ?b119) ?c119
    case a119 => (simp only [List.getElem?_toArray, List.getElem?_cons_succ, List.getElem?_cons_zero]; rfl)
    go_simp
    go_at_call 64
    refine (least_eq _ _ _ (by first | exact .inl rfl | exact .inr rfl)).mono ?_
    rintro e W119 ⟨⟨t3, rfl, hs3, ht3⟩, hb⟩
    (try go_wp2_with fail)
    have hN := hH.call hb
    refine hK.out _ _ hN (fun _ => ?_)
    clear hK K hH hb
    (try simp only [Act.put, List.setIfInBounds_toArray, List.set_cons_zero, List.set_cons_succ])
    have hH := hN
    clear hN
    refine' wpAnyH_take (i := 19) (oi := _) (v := _) ?a120 (by kernel_rfl) (by kernel_rfl) (by kernel_rfl) ?b120 (Or.inl ⟨?c120, fun W hW => ?d120⟩) hH ?e120
    case a120 => (simp only [List.getElem?_toArray, List.getElem?_cons_succ, List.getElem?_cons_zero]; rfl)
    case c120 => rfl
    case d120 => (obtain ⟨h0, h1, h2, h3⟩ := HCELL.out W hW.box; go_simp; try with_reducible rfl)
    case b120 => exact fun _ _ _ h => h
    simp only [Act.put, List.setIfInBounds_toArray, List.set_cons_zero, List.set_cons_succ]
    refine' wpAnyH_take (i := 20) (oi := _) (v := _) ?a121 (by kernel_rfl) (by kernel_rfl) (by kernel_rfl) ?b121 (Or.inl ⟨?c121, fun W hW => ?d121⟩) hH ?e121
    case a121 => (simp only [List.getElem?_toArray, List.getElem?_cons_succ, List.getElem?_cons_zero]; rfl)
    case c121 => rfl
    case d121 => (obtain ⟨h0, h1, h2, h3⟩ := HCELL.out W hW.box; go_simp; try with_reducible rfl)
    case b121 => exact fun _ _ _ h => h
    simp only [Act.put, List.setIfInBounds_toArray, List.set_cons_zero, List.set_cons_succ]
    refine wpAnyH_done (by kernel_rfl) ?_ _
    (try go_wp2_with fail); go_meet
    exact ⟨_, rfl, by simp only [ByteArray.size_append, s0, s1, hs1, hs2, hs3]; rfl, hfin t1 t2 t3 ht1 ht2 ht3, hH.less⟩
    exact AllReadyH.nil
    exact AllReadyH.nil
    exact AllReadyH.nil
    refine AllReadyH.cons (o := ?o122) ?a122 (fun K hK => ?b122) ?c122
    case a122 => (simp only [List.getElem?_toArray, List.getElem?_cons_succ, List.getElem?_cons_zero]; rfl)
    go_simp
    go_at_call 64
    refine (least_eq _ _ _ (by first | exact .inl rfl | exact .inr rfl)).mono ?_
    rintro e W122 ⟨⟨t1, rfl, hs1, ht1⟩, hb⟩
    (try go_wp2_with fail)
    have hN := hH.call hb
    refine hK.out _ _ hN (fun _ => ?_)
    clear hK K hH hb
    (try simp only [Act.put, List.setIfInBounds_toArray, List.set_cons_zero, List.set_cons_succ])
    have hH := hN
    clear hN
    refine wpAnyH_ready (rs := [3, 13]) (by kernel_rfl) (by simp) ?_
    refine AllReadyH.cons (o := ?o123) ?a123 (fun K hK => ?b123) ?c123
    case a123 => (simp only [List.getElem?_toArray, List.getElem?_cons_succ, List.getElem?_cons_zero]; rfl)
    go_simp
    refine hK.out _ _ (hH.alloc _) (fun _ => ?_)
    clear hK K
    (try simp only [Act.put, List.setIfInBounds_toArray, List.set_cons_zero, List.set_cons_succ])
    refine wpAnyH_more (S' := KS w1 g0 47 #[.int .u32 a0, .int .u32 a1, .int .u64 a2, .int .i64 a3, .slice A l.length c, .bool m] ((W122.heap.size, #[.int .u8 a3]) :: [])) (fun _ h => h.less) _ _ _ _ ?_
    have hN := hH.add #[.int .u8 a3]
    clear hH
    generalize W122.heap.size = g123 at hN ⊢
    generalize W122.alloc _ = W123 at hN ⊢
    have hH := hN
    clear hN
    refine' wpAnyH_take (i := 4) (oi := _) (v := (.string (strOfNums [a3]))) ?a124 (by kernel_rfl) (by kernel_rfl) (by kernel_rfl) ?b124 (Or.inl ⟨?c124, fun W hW => ?d124⟩) hH ?e124
    case a124 => (simp only [List.getElem?_toArray, List.getElem?_cons_succ, List.getElem?_cons_zero]; rfl)
    case c124 => rfl
    case d124 => (obtain ⟨h0, h1, h2, h3⟩ := HCELL.out W hW.box; have hc := cv1 (hW.sl (g123, #[.int .u8 a3]) (by simp)); go_simp; try with_reducible rfl)
    case b124 => exact fun _ _ _ h => h
    simp only [Act.put, List.setIfInBounds_toArray, List.set_cons_zero, List.set_cons_succ]
    refine' wpAnyH_take (i := 5) (oi := _) (v := _) ?a125 (by kernel_rfl) (by kernel_rfl) (by kernel_rfl) ?b125 (Or.inl ⟨?c125, fun W hW => ?d125⟩) hH ?e125
    case a125 => (simp only [List.getElem?_toArray, List.getElem?_cons_succ, List.getElem?_cons_zero]; rfl)
    case c125 => rfl
    case d125 => (obtain ⟨h0, h1, h2, h3⟩ := HCELL.out W hW.box; go_simp; try with_reducible rfl)
    case b125 => exact fun _ _ _ h => h
    simp only [Act.put, List.setIfInBounds_toArray, List.set_cons_zero, List.set_cons_succ]
    refine' wpAnyH_take (i := 9) (oi := _) (v := _) ?a126 (by kernel_rfl) (by kernel_rfl) (by kernel_rfl) ?b126 (Or.inl ⟨?c126, fun W hW => ?d126⟩) hH ?e126
    case a126 => (simp only [List.getElem?_toArray, List.getElem?_cons_succ, List.getElem?_cons_zero]; rfl)
    case c126 => rfl
    case d126 => (obtain ⟨h0, h1, h2, h3⟩ := HCELL.out W hW.box; go_simp; try with_reducible rfl)
    case b126 => exact fun _ _ _ h => h
    simp only [Act.put, List.setIfInBounds_toArray, List.set_cons_zero, List.set_cons_succ]
    refine wpAnyH_ready (rs := [13]) (by kernel_rfl) (by simp) ?_
    refine AllReadyH.cons (o := ?o127) ?a127 (fun K hK => ?b127) ?c127
    case a127 => (simp only [List.getElem?_toArray, List.getElem?_cons_succ, List.getElem?_cons_zero]; rfl)
    go_simp
    go_at_call 64
    refine (least_eq _ _ _ (by first | exact .inl rfl | exact .inr rfl)).mono ?_
    rintro e W127 ⟨⟨t2, rfl, hs2, ht2⟩, hb⟩
    (try go_wp2_with fail)
    have hN := hH.call hb
    refine hK.out _ _ hN (fun _ => ?_)
    clear hK K hH hb
    (try simp only [Act.put, List.setIfInBounds_toArray, List.set_cons_zero, List.set_cons_succ])
    have hH := hN
    clear hN
    refine' wpAnyH_take (i := 14) (oi := _) (v := _) ?a128 (by kernel_rfl) (by kernel_rfl) (by kernel_rfl) ?b128 (Or.inl ⟨?c128, fun W hW => ?d128⟩) hH ?e128
    case a128 => (simp only [List.getElem?_toArray, List.getElem?_cons_succ, List.getElem?_cons_zero]; rfl)
    case c128 => rfl
    case d128 => (obtain ⟨h0, h1, h2, h3⟩ := HCELL.out W hW.box; go_simp; try with_reducible rfl)
    case b128 => exact fun _ _ _ h => h
    simp only [Act.put, List.setIfInBounds_toArray, List.set_cons_zero, List.set_cons_succ]
    refine wpAnyH_ready (rs := [18]) (by kernel_rfl) (by simp) ?_
    refine AllReadyH.cons (o := ?o129) ?a129 (fun K hK => ?b129) ?c129
    case a129 => (simp only [List.getElem?_toArray, List.getElem?_cons_succ, List.getElem?_cons_zero]; rfl)
    go_simp
    go_at_call 64
    refine (least_eq _ _ _ (by first | exact .inl rfl | exact .inr rfl)).mono ?_
    rintro e W129 ⟨⟨t3, rfl, hs3, ht3⟩, hb⟩
    (try go_wp2_with fail)
    have hN := hH.call hb
    refine hK.out _ _ hN (fun _ => ?_)
    clear hK K hH hb
    (try simp only [Act.put, List.setIfInBounds_toArray, List.set_cons_zero, List.set_cons_succ])
    have hH := hN
    clear hN
    refine' wpAnyH_take (i := 19) (oi := _) (v := _) ?a130 (by kernel_rfl) (by kernel_rfl) (by kernel_rfl) ?b130 (Or.inl ⟨?c130, fun W hW => ?d130⟩) hH ?e130
    case a130 => (simp only [List.getElem?_toArray, List.getElem?_cons_succ, List.getElem?_cons_zero]; rfl)
    case c130 => rfl
    case d130 => (obtain ⟨h0, h1, h2, h3⟩ := HCELL.out W hW.box; go_simp; try with_reducible rfl)
    case b130 => exact fun _ _ _ h => h
    simp only [Act.put, List.setIfInBounds_toArray, List.set_cons_zero, List.set_cons_succ]
    refine' wpAnyH_take (i := 20) (oi := _) (v := _) ?a131 (by kernel_rfl) (by kernel_rfl) (by kernel_rfl) ?b131 (Or.inl ⟨?c131, fun W hW => ?d131⟩) hH ?e131
    case a131 => (simp only [List.getElem?_toArray, List.getElem?_cons_succ, List.getElem?_cons_zero]; rfl)
    case c131 => rfl
    case d131 => (obtain ⟨h0, h1, h2, h3⟩ := HCELL.out W hW.box; go_simp; try with_reducible rfl)
    case b131 => exact fun _ _ _ h => h
    simp only [Act.put, List.setIfInBounds_toArray, List.set_cons_zero, List.set_cons_succ]
    refine wpAnyH_done (by kernel_rfl) ?_ _
    (try go_wp2_with fail); go_meet
    exact ⟨_, rfl, by simp only [ByteArray.size_append, s0, s1, hs1, hs2, hs3]; rfl, hfin t1 t2 t3 ht1 ht2 ht3, hH.less⟩
    exact AllReadyH.nil
    exact AllReadyH.nil
    refine AllReadyH.cons (o := ?o132) ?a132 (fun K hK => ?b132) ?c132
    case a132 => (simp only [List.getElem?_toArray, List.getElem?_cons_succ, List.getElem?_cons_zero]; rfl)
    go_simp
    go_at_call 64
    refine (least_eq _ _ _ (by first | exact .inl rfl | exact .inr rfl)).mono ?_
    rintro e W132 ⟨⟨t2, rfl, hs2, ht2⟩, hb⟩
    (try go_wp2_with fail)
    have hN := hH.call hb
    refine hK.out _ _ hN (fun _ => ?_)
    clear hK K hH hb
    (try simp only [Act.put, List.setIfInBounds_toArray, List.set_cons_zero, List.set_cons_succ])
    have hH := hN
    clear hN
    refine wpAnyH_ready (rs := [3, 18]) (by kernel_rfl) (by simp) ?_
    refine AllReadyH.cons (o := ?o133) ?a133 (fun K hK => ?b133) ?c133
    case a133 => (simp only [List.getElem?_toArray, List.getElem?_cons_succ, List.getElem?_cons_zero]; rfl)
    go_simp
    refine hK.out _ _ (hH.alloc _) (fun _ => ?_)
    clear hK K
    (try simp only [Act.put, List.setIfInBounds_toArray, List.set_cons_zero, List.set_cons_succ])
    refine wpAnyH_more (S' := KS w1 g0 47 #[.int .u32 a0, .int .u32 a1, .int .u64 a2, .int .i64 a3, .slice A l.length c, .bool m] ((W132.heap.size, #[.int .u8 a3]) :: [])) (fun _ h => h.less) _ _ _ _ ?_
    have hN := hH.add #[.int .u8 a3]
    clear hH
    generalize W132.heap.size = g133 at hN ⊢
    generalize W132.alloc _ = W133 at hN ⊢
    have hH := hN
    clear hN
    refine' wpAnyH_take (i := 4) (oi := _) (v := (.string (strOfNums [a3]))) ?a134 (by kernel_rfl) (by kernel_rfl) (by kernel_rfl) ?b134 (Or.inl ⟨?c134, fun W hW => ?d134⟩) hH ?e134
    case a134 => (simp only [List.getElem?_toArray, List.getElem?_cons_succ, List.getElem?_cons_zero]; rfl)
    case c134 => rfl
    case d134 => (obtain ⟨h0, h1, h2, h3⟩ := HCELL.out W hW.box; have hc := cv1 (hW.sl (g133, #[.int .u8 a3]) (by simp)); go_simp; try with_reducible rfl)
    case b134 => exact fun _ _ _ h => h
    simp only [Act.put, List.setIfInBounds_toArray, List.set_cons_zero, List.set_cons_succ]
    refine' wpAnyH_take (i := 5) (oi := _) (v := _) ?a135 (by kernel_rfl) (by kernel_rfl) (by kernel_rfl) ?b135 (Or.inl ⟨?c135, fun W hW => ?d135⟩) hH ?e135
    case a135 => (simp only [List.getElem?_toArray, List.getElem?_cons_succ, List.getElem?_cons_zero]; rfl)
    case c135 => rfl
    case d135 => (obtain ⟨h0, h1, h2, h3⟩ := HCELL.out W hW.box; go_simp; try with_reducible rfl)
    case b135 => exact fun _ _ _ h => h
    simp only [Act.put, List.setIfInBounds_toArray, List.set_cons_zero, List.set_cons_succ]
    refine' wpAnyH_take (i := 9) (oi := _) (v := _) ?a136 (by kernel_rfl) (by kernel_rfl) (by kernel_rfl) ?b136 (Or.inl ⟨?c136, fun W hW => ?d136⟩) hH ?e136
    case a136 => (simp only [List.getElem?_toArray, List.getElem?_cons_succ, List.getElem?_cons_zero]; rfl)
    case c136 => rfl
    case d136 => (obtain ⟨h0, h1, h2, h3⟩ := HCELL.out W hW.box; go_simp; try with_reducible rfl)
    case b136 => exact fun _ _ _ h => h
    simp only [Act.put, List.setIfInBounds_toArray, List.set_cons_zero, List.set_cons_succ]
    refine' wpAnyH_take (i := 14) (oi := _) (v := _) ?a137 (by kernel_rfl) (by kernel_rfl) (by kernel_rfl) ?b137 (Or.inl ⟨?c137, fun W hW => ?d137⟩) hH ?e137
    case a137 => (simp only [List.getElem?_toArray, List.getElem?_cons_succ, List.getElem?_cons_zero]; rfl)
    case c137 => rfl
    case d137 => (obtain ⟨h0, h1, h2, h3⟩ := HCELL.out W hW.box; go_simp; try with_reducible rfl)
    case b137 => exact fun _ _ _ h => h
    simp only [Act.put, List.setIfInBounds_toArray, List.set_cons_zero, List.set_cons_succ]
    refine wpAnyH_ready (rs := [18]) (by kernel_rfl) (by simp) ?_
    refine AllReadyH.cons (o := ?o138) ?a138 (fun K hK => ?b138) ?c138
    case a138 => (simp only [List.getElem?_toArray, List.getElem?_cons_succ, List.getElem?_cons_zero]; rfl)
    go_simp
    go_at_call 64
    refine (least_eq _ _ _ (by first | exact .inl rfl | exact .inr rfl)).mono ?_
    rintro e W138 ⟨⟨t3, rfl, hs3, ht3⟩, hb⟩
    (try go_wp2_with fail)
    have hN := hH.call hb
    refine hK.out _ _ hN (fun _ => ?_)
    clear hK K hH hb
    (try simp only [Act.put, List.setIfInBounds_toArray, List.set_cons_zero, List.set_cons_succ])
    have hH := hN
    clear hN
    refine' wpAnyH_take (i := 19) (oi := _) (v := _) ?a139 (by kernel_rfl) (by kernel_rfl) (by kernel_rfl) ?b139 (Or.inl ⟨?c139, fun W hW => ?d139⟩) hH ?e139
    case a139 => (simp only [List.getElem?_toArray, List.getElem?_cons_succ, List.getElem?_cons_zero]; rfl)
    case c139 => rfl
    case d139 => (obtain ⟨h0, h1, h2, h3⟩ := HCELL.out W hW.box; go_simp; try with_reducible rfl)
    case b139 => exact fun _ _ _ h => h
    simp only [Act.put, List.setIfInBounds_toArray, List.set_cons_zero, List.set_cons_succ]
    refine' wpAnyH_take (i := 20) (oi := _) (v := _) ?a140 (by kernel_rfl) (by kernel_rfl) (by kernel_rfl) ?b140 (Or.inl ⟨?c140, fun W hW => ?d140⟩) hH ?e140
    case a140 => (simp only [List.getElem?_toArray, List.getElem?_cons_succ, List.getElem?_cons_zero]; rfl)
    case c140 => rfl
    case d140 => (obtain ⟨h0, h1, h2, h3⟩ := HCELL.out W hW.box; go_simp; try with_reducible rfl)
    case b140 => exact fun _ _ _ h => h
    simp only [Act.put, List.setIfInBounds_toArray, List.set_cons_zero, List.set_cons_succ]
    refine wpAnyH_done (by kernel_rfl) ?_ _
    (try go_wp2_with fail); go_meet
    exact ⟨_, rfl, by simp only [ByteArray.size_append, s0, s1, hs1, hs2, hs3]; rfl, hfin t1 t2 t3 ht1 ht2 ht3, hH.less⟩
    exact AllReadyH.nil
    refine AllReadyH.cons (o := ?o141) ?a141 (fun K hK => ?b141) ?c141
    case a141 => (simp only [List.getElem?_toArray, List.getElem?_cons_succ, List.getElem?_cons_zero]; rfl)
    go_simp
    go_at_call 64
    refine (least_eq _ _ _ (by first | exact .inl rfl | exact .inr rfl)).mono ?_
    rintro e W141 ⟨⟨t3, rfl, hs3, ht3⟩, hb⟩
    (try go_wp2_with fail)
    have hN := hH.call hb
    refine hK.out _ _ hN (fun _ => ?_)
    clear hK K hH hb
    (try simp only [Act.put, List.setIfInBounds_toArray, List.set_cons_zero, List.set_cons_succ])
    have hH := hN
    clear hN
    refine wpAnyH_ready (rs := [3]) (by kernel_rfl) (by simp) ?_
    refine AllReadyH.cons (o := ?o142) ?a142 (fun K hK => ?b142) ?c142
    case a142 => (simp only [List.getElem?_toArray, List.getElem?_cons_succ, List.getElem?_cons_zero]; rfl)
    go_simp
    refine hK.out _ _ (hH.alloc _) (fun _ => ?_)
    clear hK K
    (try simp only [Act.put, List.setIfInBounds_toArray, List.set_cons_zero, List.set_cons_succ])
    refine wpAnyH_more (S' := KS w1 g0 47 #[.int .u32 a0, .int .u32 a1, .int .u64 a2, .int .i64 a3, .slice A l.length c, .bool m] ((W141.heap.size, #[.int .u8 a3]) :: [])) (fun _ h => h.less) _ _ _ _ ?_
    have hN := hH.add #[.int .u8 a3]
    clear hH
    generalize W141.heap.size = g142 at hN ⊢
    generalize W141.alloc _ = W142 at hN ⊢
    have hH := hN
    clear hN
    refine' wpAnyH_take (i := 4) (oi := _) (v := (.string (strOfNums [a3]))) ?a143 (by kernel_rfl) (by kernel_rfl) (by kernel_rfl) ?b143 (Or.inl ⟨?c143, fun W hW => ?d143⟩) hH ?e143
    case a143 => (simp only [List.getElem?_toArray, List.getElem?_cons_succ, List.getElem?_cons_zero]; rfl)
    case c143 => rfl
    case d143 => (obtain ⟨h0, h1, h2, h3⟩ := HCELL.out W hW.box; have hc := cv1 (hW.sl (g142, #[.int .u8 a3]) (by simp)); go_simp; try with_reducible rfl)
    case b143 => exact fun _ _ _ h => h
    simp only [Act.put, List.setIfInBounds_toArray, List.set_cons_zero, List.set_cons_succ]
    refine' wpAnyH_take (i := 5) (oi := _) (v := _) ?a144 (by kernel_rfl) (by kernel_rfl) (by kernel_rfl) ?b144 (Or.inl ⟨?c144, fun W hW => ?d144⟩) hH ?e144
    case a144 => (simp only [List.getElem?_toArray, List.getElem?_cons_succ, List.getElem?_cons_zero]; rfl)
    case c144 => rfl
    case d144 => (obtain ⟨h0, h1, h2, h3⟩ := HCELL.out W hW.box; go_simp; try with_reducible rfl)
    case b144 => exact fun _ _ _ h => h
    simp only [Act.put, List.setIfInBounds_toArray, List.set_cons_zero, List.set_cons_succ]
    refine' wpAnyH_take (i := 9) (oi := _) (v := _) ?a145 (by kernel_rfl) (by kernel_rfl) (by kernel_rfl) ?b145 (Or.inl ⟨?c145, fun W hW => ?d145⟩) hH ?e145
    case a145 => (simp only [List.getElem?_toArray, List.getElem?_cons_succ, List.getElem?_cons_zero]; rfl)
    case c145 => rfl
    case d145 => (obtain ⟨h0, h1, h2, h3⟩ := HCELL.out W hW.box; go_simp; try with_reducible rfl)
    case b145 => exact fun _ _ _ h => h
    simp only [Act.put, List.setIfInBounds_toArray, List.set_cons_zero, List.set_cons_succ]
    refine' wpAnyH_take (i := 14) (oi := _) (v := _) ?a146 (by kernel_rfl) (by kernel_rfl) (by kernel_rfl) ?b146 (Or.inl ⟨?c146, fun W hW => ?d146⟩) hH ?e146
    case a146 => (simp only [List.getElem?_toArray, List.getElem?_cons_succ, List.getElem?_cons_zero]; rfl)
    case c146 => rfl
    case d146 => (obtain ⟨h0, h1, h2, h3⟩ := HCELL.out W hW.box; go_simp; try with_reducible rfl)
    case b146 => exact fun _ _ _ h => h
    simp only [Act.put, List.setIfInBounds_toArray, List.set_cons_zero, List.set_cons_succ]
    refine' wpAnyH_take (i := 19) (oi := _) (v := _) ?a147 (by kernel_rfl) (by kernel_rfl) (by kernel_rfl) ?b147 (Or.inl ⟨?c147, fun W hW => ?d147⟩) hH ?e147
    case a147 => (simp only [List.getElem?_toArray, List.getElem?_cons_succ, List.getElem?_cons_zero]; rfl)
    case c147 => rfl
    case d147 => (obtain ⟨h0, h1, h2, h3⟩ := HCELL.out W hW.box; go_simp; try with_reducible rfl)
    case b147 => exact fun _ _ _ h => h
    simp only [Act.put, List.setIfInBounds_toArray, List.set_cons_zero, List.set_cons_succ]
    refine' wpAnyH_take (i := 20) (oi := _) (v := _) ?a148 (by kernel_rfl) (by kernel_rfl) (by kernel_rfl) ?b148 (Or.inl ⟨?c148, fun W hW => ?d148⟩) hH ?e148
    case a148 => (simp only [List.getElem?_toArray, List.getElem?_cons_succ, List.getElem?_cons_zero]; rfl)
    case c148 => rfl
    case d148 => (obtain ⟨h0, h1, h2, h3⟩ := HCELL.out W hW.box; go_simp; try with_reducible rfl)
    case b148 => exact fun _ _ _ h => h
    simp only [Act.put, List.setIfInBounds_toArray, List.set_cons_zero, List.set_cons_succ]
    refine wpAnyH_done (by kernel_rfl) ?_ _
    (try go_wp2_with fail); go_meet
    exact ⟨_, rfl, by simp only [ByteArray.size_append, s0, s1, hs1, hs2, hs3]; rfl, hfin t1 t2 t3 ht1 ht2 ht3, hH.less⟩
    exact AllReadyH.nil
    exact AllReadyH.nil
    exact AllReadyH.nil
    exact AllReadyH.nil
  case rest =>
    obtain ⟨s, rfl, hs22, HS6, HKc⟩ := hcut
    obtain ⟨l1, l2, l3⟩ := H1.out trivial
    obtain ⟨A5, c5, rfl, hc5, hCv⟩ := Kd.R_reads (Kd.R_below HR.out HKc.old)
    have hwl := u8_wrap (L.length : Int) (by omega) (by omega)
    have hcv1 := fun W => cv1 (Blk.new W 5 #[.int .u8 (L.length : Int)])
    have hcv2 := fun (o : Obj) => Kd.C_string Tryz.underlying33 Tryz.underlying5 Tryz.underlying9 (c := c5) (Kd.C_below hCv ((Below.refl wc.heap.size wc).alloc (Nat.le_refl _) o))
    have hB4 : ∀ o : Obj, (wc.alloc o).cell? ⟨g0, 4, none⟩ = some (.slice A l.length c) := fun o => by simpa using (HKc.box.alloc o).cell 4
    have z1 : (strOfNums [(L.length : Int)]).size = 1 := strOfNums_size _
    have z2 : (strOfNums L).size = L.length := strOfNums_size _
    have HB6 := Lib.hid ((HB1.out.trans (HKc.old.mono (Nat.le_of_lt (by rw [HGE.out]; exact hsz)))))
    have HKc := Lib.hid HKc
    have L1 := Lib.hid l1; have L2 := Lib.hid l2; have L3 := Lib.hid l3
    have h255 : L.length ≤ 255 := l1
    clear hCv l2 l3 HR H1 HK hc5
    go_wp2_with fail
    have HT0 := Lib.hid (show bytesOf (strOfNums [(L.length : Int)] ++ strOfNums L) = (L.length : Int) :: L by
      rw [bytesOf_append, bytesOf_str (Bytes.one (by omega) (by omega)), bytesOf_str L3.out]; rfl)
    have hts : (strOfNums [(L.length : Int)] ++ strOfNums L).size = L.length + 1 := by rw [size_ba, z1, z2]; omega
    have HC5 := Lib.hid (Kd.C_below HC.out (HB6.out.alloc (by rw [HGE.out]; exact Nat.le_of_lt HKc.out.lt) (.cells #[.int .u8 (L.length : Int)] 5)))
    have HB5 := Lib.hid (HB6.out.alloc (by rw [HGE.out]; exact Nat.le_of_lt HKc.out.lt) (.cells #[.int .u8 (L.length : Int)] 5))
    clear hcv1 hcv2 hB4 HKc HB6 hwl z1 z2
    generalize wc.alloc (.cells #[.int .u8 (L.length : Int)] 5) = w5 at HC5 HB5 ⊢
    generalize strOfNums [(L.length : Int)] ++ strOfNums L = t0 at HT0 hts ⊢
    go_loop [7, 58] (fun v7 i => ∃ (k : Nat) (x7 : ByteArray), k ≤ l.length ∧ i = .int .i64 (k : Int) ∧ v7 = .string x7 ∧ Hid (bytesOf x7 = (L.length : Int) :: (L ++ joinI (l.take k)))) (fun _ i => l.length - (intOf i).toNat)
    case atStart => exact ⟨0, t0, by omega, rfl, rfl, Lib.hid (by rw [HT0.out]; simp [joinI])⟩
    case round =>
      obtain ⟨k, x7, hk, rfl, rfl, HX⟩ := hrel
      clear hts
      have hxs : x7.size ≤ 256 + tot l := by
        have h1 := bytesOf_length x7
        rw [HX.out] at h1
        have h2 := joinI_length (l.take k)
        have h3 := tot_le l k
        simp only [List.length_cons, List.length_append] at h1
        omega
      by_cases hlt : k < l.length
      · obtain ⟨ad, rfl, hcell⟩ := at_str HC5.out k hlt
        have hj := joinI_snoc l k hlt
        have h1 := tot_take l k hlt
        have h2 := tot_le l (k + 1)
        generalize l[k] = y at hcell hj h1
        have HJ := Lib.hid hj
        have hys : y.size ≤ 1048576 := by omega
        clear hj h1 h2
        go_wp2_with fail
        go_round
        case rel => exact ⟨k + 1, x7 ++ y, by omega, by go_num, rfl, Lib.hid (by rw [bytesOf_append, HX.out, HJ.out]; simp)⟩
        case measure => simp [intOf]; omega
      · obtain rfl : k = l.length := by omega
        have hx := HX.out
        rw [List.take_length] at hx
        have e1 : bytesOf ((s ++ (⟨#[0, 0, 0, 0]⟩ : ByteArray)) ++ x7) = headB a3 a2 a0 a1 ++ ([0, 0, 0, 0] ++ ((L.length : Int) :: (L ++ joinI l))) := by
          rw [bytesOf_append, bytesOf_append, HS6.out, hx, List.append_assoc]; rfl
        have z4 : (⟨#[0, 0, 0, 0]⟩ : ByteArray).size = 4 := rfl
        have hs4 : (s ++ (⟨#[0, 0, 0, 0]⟩ : ByteArray)).size = 26 := by rw [size_ba, hs22, z4]
        have hsum := sum_any ((s ++ (⟨#[0, 0, 0, 0]⟩ : ByteArray)) ++ x7) (by rw [size_ba, hs4]; omega) w5
        rw [e1] at hsum
        have hcl := sum_lt (sumI 0#32 (headB a3 a2 a0 a1 ++ ([0, 0, 0, 0] ++ ((L.length : Int) :: (L ++ joinI l)))))
        have HRES := Lib.hid (show ∀ t : ByteArray, Hid (t = strOfNums (leB ((sumI 0#32 (headB a3 a2 a0 a1 ++ ([0, 0, 0, 0] ++ ((L.length : Int) :: (L ++ joinI l))))).toNat : Int) 4)) → (s ++ t) ++ x7 = strOfNums (pgOf a3 a2 a0 a1 L (joinI l)).bytes from fun t h => by
          apply bytesOf_inj
          have hBp : Bytes (pgOf a3 a2 a0 a1 L (joinI l)).bytes := by
            refine Bytes.app (headB_bytes _ _ _ _) (Bytes.app (leB_bytes _ _) ?_)
            exact Bytes.app (a := [(L.length : Int)]) (Bytes.one (by omega) (by omega)) (L3.out.app (joinI_bytes _))
          rw [bytesOf_str hBp, bytesOf_append, bytesOf_append, hx, HS6.out, h.out, bytesOf_str (leB_bytes _ _)]
          simp [pgOf, Pg.bytes])
        generalize ((sumI 0#32 (headB a3 a2 a0 a1 ++ ([0, 0, 0, 0] ++ ((L.length : Int) :: (L ++ joinI l))))).toNat : Int) = sm at hsum hcl HRES
        have hwm : IntKind.u64.wrap sm = sm := u64_in sm (by omega) (by omega)
        have HSUM := Lib.hid hsum
        clear hx e1 hsum
        go_wp2_with fail
        refine HSUM.out.mono ?_
        rintro e w6 ⟨rfl, hd⟩
        have HB7 := Lib.hid (HB5.out.trans (hd.below.mono HB5.out.size))
        clear hd
        go_wp2_with fail
        refine (least_eq sm 4 _ (.inl rfl)).mono ?_
        rintro e w7 ⟨⟨t, rfl, hts, ht4⟩, hb⟩
        have HB8 := Lib.hid (HB7.out.trans (hb.mono HB7.out.size))
        have hst : (s ++ t).size = 26 := by rw [size_ba, hs22, hts]; rfl
        clear hb
        go_wp2_with fail
        go_ret2
        have hf := pgOf_fit a3 a2 a0 a1 L (joinI l) L1.out (by rw [L2.out, joinI_length]) L3.out (joinI_bytes l)
        exact ⟨_, true, rfl, by rw [size_ba, hst]; omega, fun _ => ⟨L, HRES.out t ht4, hf.1, hf.2, H2.out⟩, HB8.out⟩
end Go.Proofs.YtojdfjohmicopaaGreatDoor
namespace Go.Proofs.YtojdfjohmicopaaGreatDoor
open Go Go.RowKit Go.Proofs.YtojdfjohmicopaaGreatDoorW.PrintWords Go.Proofs.YtojdfjohmicopaaGreatDoor.Crc Go.Proofs.YtojdfjohmicopaaGreatDoor.PFnOggHurt

/-- A list of pages is of a bounded size. -/
structure Sized (l : List S47) : Prop where
  n : l.length ≤ 1048576
  p : ∀ p ∈ l, p.f4.length ≤ 1048576 ∧ tot p.f4 ≤ 1048576
/-- The page that is written for one. -/
def PgRel (p : S47) (P : Pg) : Prop := ∃ L, P = pgOf p.f3 p.f2 p.f0 p.f1 L (joinI p.f4) ∧ P.Fit ∧ P.ok ∧ (p.f5 = false → L = lensOf p.f4)
def Written (l : List S47) (ps : List Pg) : Prop := ps.length = l.length ∧ ∀ (j : Nat) (p : S47), l[j]? = some p → ∃ P, ps[j]? = some P ∧ PgRel p P
theorem rdT_at (l : List S47) (i : Nat) (h : i < l.length) : rd_T47 l (i : Int) = l[i] := by
  unfold rd_T47; rw [Int.toNat_natCast, List.getD_eq_getElem?_getD, List.getElem?_eq_getElem h]; rfl
theorem flat_snoc (l : List Pg) (P : Pg) : flat (l ++ [P]) = flat l ++ P.bytes := by rw [flat_append]; simp [flat]
theorem flat_bytes {l : List Pg} (h : ∀ P ∈ l, P.Fit) : Bytes (flat l) := by
  intro v hv
  simp only [flat, List.mem_flatMap] at hv
  obtain ⟨P, hP, h1⟩ := hv
  exact (h P hP).bytes v h1
theorem Written.fit {l : List S47} {ps : List Pg} (h : Written l ps) : ∀ P ∈ ps, P.Fit ∧ P.ok := by
  intro P hP
  obtain ⟨j, hj, rfl⟩ := List.getElem_of_mem hP
  have hjl : j < l.length := by rw [← h.1]; exact hj
  obtain ⟨P', h1, L, h2, h3, h4, _⟩ := h.2 j _ (List.getElem?_eq_getElem hjl)
  rw [List.getElem?_eq_getElem hj] at h1
  injection h1 with h1
  rw [h1]
  exact ⟨h3, h4⟩
set_option maxRecDepth 100000 in
set_option maxHeartbeats 2000000 in
/-- WHAT OggWrite WRITES ARE PAGES. -/
theorem write_any (w : World) (A : Option Addr) (c : Nat) (l : List S47) (hs : Sized l) (hC : Kd.C k47 w A l.length l) : Calls Tryz.prog 15 #[.slice A l.length c] w fun e w' => ∃ t r, e = .returned (.tuple #[.string t, .int .i64 r]) ∧ (r = 1 ∨ r = 2) ∧ t.size ≤ 2199023255552 ∧ (r = 1 → ∃ ps, Written l ps ∧ t = strOfNums (flat ps)) ∧ Below w.heap.size w w' := by
  have HC := Lib.hid hC
  have HS := Lib.hid hs
  have hn := hs.n
  clear hC hs
  go_enter Tryz.func15, Tryz.ntmps15
  go_wp2_with fail
  go_loopw [4, 11] (fun v4 i wr => ∃ (k : Nat) (x : ByteArray), k ≤ l.length ∧ i = .int .i64 (k : Int) ∧ v4 = .string x ∧ x.size ≤ k * 2097152 ∧ Hid (∃ acc, Written (l.take k) acc ∧ x = strOfNums (flat acc)) ∧ Hid (Below w.heap.size w wr)) (fun _ i _ => l.length - (intOf i).toNat)
  case atStart => exact ⟨0, ⟨#[]⟩, by omega, rfl, rfl, by simp [ByteArray.size], Lib.hid ⟨[], ⟨by simp, fun j p hj => by simp at hj⟩, rfl⟩, Lib.hid (Below.refl _ _)⟩
  case round =>
    obtain ⟨k, x, hk, rfl, rfl, hxs, HX, HB⟩ := hrel
    have hw0 : w.heap.size ≤ wr.heap.size := HB.out.size
    by_cases hlt : k < l.length
    · have hp := HS.out.p _ (List.getElem_mem hlt)
      obtain ⟨ad, A4, c4, rfl, h0, h1, h2, h3, h4, h5, h6, h7⟩ := at_T47 (Kd.C_below HC.out HB.out) (k : Int) (by omega) (by omega)
      rw [Int.toNat_natCast] at h0 h1 h2 h3 h4 h5
      have hget : l[k]? = some l[k] := List.getElem?_eq_getElem hlt
      rw [rdT_at l k hlt] at h0 h1 h2 h3 h4 h5 h6 h7
      generalize l[k] = p at hp hget h0 h1 h2 h3 h4 h5 h6 h7
      have HPT := Lib.hid (fun (o : Obj) => pageText_any p.f0 p.f1 p.f2 p.f3 p.f4 p.f5 hp.1 hp.2 A4 c4 h6 (wr.alloc o) (Kd.C_below h7 ((Below.refl wr.heap.size wr).alloc (Nat.le_refl _) o)))
      have HG := Lib.hid hget
      generalize hn4 : p.f4.length = n4 at h4 HPT
      clear h6 h7 hp hget hn4
      go_wp2_with fail
      refine (HPT.out _).mono ?_
      rintro e w1 ⟨t, ok, rfl, hts, hok, hb⟩
      have HB1 := Lib.hid ((HB.out.alloc hw0 _).trans (hb.mono (by simp; omega)))
      have HOK := Lib.hid hok
      clear hb hok HPT h0 h1 h2 h3 h4 h5
      cases ok
      · go_wp2_with fail
        go_ret2
        exact ⟨_, 2, rfl, .inr rfl, by simp [ByteArray.size], (fun h => by omega), HB1.out⟩
      · go_wp2_with fail
        go_roundw
        case rel =>
          refine ⟨k + 1, x ++ t, by omega, by go_num, rfl, by rw [size_ba]; omega, Lib.hid ?_, HB1⟩
          obtain ⟨acc, hw, hx⟩ := HX.out
          obtain ⟨L, ht, h1, h2, h3⟩ := HOK.out trivial
          generalize hP : pgOf p.f3 p.f2 p.f0 p.f1 L (joinI p.f4) = P at ht h1 h2
          have hrel : PgRel p P := ⟨L, hP.symm, h1, h2, h3⟩
          refine ⟨acc ++ [P], ⟨by rw [List.length_append, hw.1]; simp; omega, fun j q hj => ?_⟩, ?_⟩
          · have hlen : acc.length = k := by rw [hw.1]; simp; omega
            rw [List.getElem?_take] at hj
            by_cases hji : j < k
            · obtain ⟨Q, hq, hr⟩ := hw.2 j q (by rw [List.getElem?_take, if_pos hji]; rw [if_pos (by omega)] at hj; exact hj)
              exact ⟨Q, by rw [List.getElem?_append_left (by omega)]; exact hq, hr⟩
            · by_cases hj2 : j < k + 1
              · rw [if_pos hj2] at hj
                obtain rfl : j = k := by omega
                rw [HG.out] at hj
                injection hj with hj
                subst hj
                exact ⟨P, by rw [List.getElem?_append_right (by omega), hlen]; simp, hrel⟩
              · rw [if_neg hj2] at hj; cases hj
          · have hfa : Bytes (flat acc) := flat_bytes fun Q hQ => (hw.fit Q hQ).1
            rw [hx, ht]
            exact bytesOf_inj (by rw [bytesOf_append, bytesOf_str hfa, bytesOf_str h1.bytes, flat_snoc, bytesOf_str (hfa.app h1.bytes)])
        case measure => simp [intOf]; omega
    · obtain rfl : k = l.length := by omega
      go_wp2_with fail
      go_ret2
      refine ⟨x, 1, rfl, .inl rfl, by omega, fun _ => ?_, HB.out⟩
      obtain ⟨acc, hw, hx⟩ := HX.out
      rw [List.take_length] at hw
      exact ⟨acc, hw, hx⟩

/-- The sizes are told. -/
theorem ev_fits6 (l : List ByteArray) (hl : l.length ≤ 1048576) : ∃ r, Ev (fun k => laws_zzFits6.f k l) r := by
  have main : ∀ d i : Nat, l.length - i = d → i ≤ l.length → ∃ r, Ev (fun k => laws_zzFits6.l0 k l (l.length : Int) (i : Int)) r := by
    intro d
    induction d with
    | zero =>
      intro i hd hi
      refine ⟨true, Ev.step (f := fun _ => some true) (fun k => ?_) (Ev.now _)⟩
      simp only [laws_zzFits6.l0]
      rw [if_neg (by omega)]
    | succ d ih =>
      intro i hd hi
      by_cases hb : ((rdOf ByteArray.empty l (i : Int)).size : Int) > 2147483647
      · refine ⟨false, Ev.step (f := fun _ => some false) (fun k => ?_) (Ev.now _)⟩
        simp only [laws_zzFits6.l0]
        rw [if_pos (by omega), if_pos (by omega), if_pos (by omega), if_pos hb]
      · obtain ⟨r, h⟩ := ih (i + 1) (by omega) (by omega)
        refine ⟨r, Ev.step (fun k => ?_) h⟩
        simp only [laws_zzFits6.l0]
        rw [if_pos (by omega), if_pos (by omega), if_pos (by omega), if_neg hb, show wrap64 ((i : Int) + 1) = ((i + 1 : Nat) : Int) by unfold wrap64; omega]
  obtain ⟨r, h⟩ := main l.length 0 (by omega) (by omega)
  refine ⟨r, Ev.congr (fun k => ?_) h⟩
  unfold laws_zzFits6.f
  rw [if_neg (by omega)]; rfl
theorem ev_fits8 {l : List S47} (hs : Sized l) : ∃ r, Ev (fun k => laws_zzFits8.f k l) r := by
  have hn := hs.n
  have main : ∀ d i : Nat, l.length - i = d → i ≤ l.length → ∃ r, Ev (fun k => laws_zzFits8.l0 k l (l.length : Int) (i : Int)) r := by
    intro d
    induction d with
    | zero =>
      intro i hd hi
      refine ⟨true, Ev.step (f := fun _ => some true) (fun k => ?_) (Ev.now _)⟩
      simp only [laws_zzFits8.l0]
      rw [if_neg (by omega)]
    | succ d ih =>
      intro i hd hi
      have hlt : i < l.length := by omega
      obtain ⟨r6, h6⟩ := ev_fits6 l[i].f4 (hs.p _ (List.getElem_mem hlt)).1
      obtain ⟨r, h⟩ := ih (i + 1) (by omega) (by omega)
      have hstep : ∀ R, Ev (fun k => if r6 = true then laws_zzFits8.l0 k l (l.length : Int) ((i + 1 : Nat) : Int) else some false) R → Ev (fun k => laws_zzFits8.l0 k l (l.length : Int) (i : Int)) R := fun R hR => by
        refine Ev.step (f := fun k => (laws_zzFits9.f k l[i].f0 l[i].f1 l[i].f2 l[i].f3 l[i].f4 l[i].f5).bind fun t107 => (if t107 = true then (laws_zzFits8.l0 k l (l.length : Int) (wrap64 ((i : Int) + 1))) else (some false))) (fun k => ?_) ?_
        · simp only [laws_zzFits8.l0]
          rw [if_pos (by omega), if_pos (by omega), if_pos (by omega), rdT_at l i hlt]
        · refine Ev.bind (a := r6) ?_ ?_
          · unfold laws_zzFits9.f
            refine Ev.bind h6 (Ev.congr (fun k => ?_) (Ev.now _))
            cases r6 <;> rfl
          · refine Ev.congr (fun k => ?_) hR
            rw [show wrap64 ((i : Int) + 1) = ((i + 1 : Nat) : Int) by unfold wrap64; omega]
      cases r6
      · exact ⟨false, hstep _ (Ev.congr (fun k => by simp) (Ev.now _))⟩
      · exact ⟨r, hstep _ (Ev.congr (fun k => by simp) h)⟩
  obtain ⟨r, h⟩ := main l.length 0 (by omega) (by omega)
  refine ⟨r, Ev.congr (fun k => ?_) h⟩
  unfold laws_zzFits8.f
  rw [if_neg (by omega)]; rfl

end Go.Proofs.YtojdfjohmicopaaGreatDoor
namespace Go.Proofs.YtojdfjohmicopaaGreatDoor
open Go Go.RowKit Go.Proofs.YtojdfjohmicopaaGreatDoorW.PrintWords Go.Proofs.YtojdfjohmicopaaGreatDoor.Crc Go.Proofs.YtojdfjohmicopaaGreatDoor.PFnOggHurt

/-- Segments put together to parts: whole ones, and what ends the part; none: the part goes on. -/
def grp : List (List Int) → List (List Int) → List (List (List Int) × Option (List Int))
  | [], [] => []
  | a :: acc, [] => [(a :: acc, none)]
  | acc, s :: ss => if s.length < 255 then (acc, some s) :: grp [] ss else grp (acc ++ [s]) ss
/-- Whether the last part goes on. -/
def mor : List (List Int) → List (List Int) → Bool
  | acc, [] => !acc.isEmpty
  | acc, s :: ss => if s.length < 255 then mor [] ss else mor (acc ++ [s]) ss
def partI (g : List (List Int) × Option (List Int)) : List Int := g.1.flatten ++ g.2.getD []
def partsOf (l : List (List Int)) : List ByteArray := (grp [] l).map fun g => strOfNums (partI g)
theorem grp_nil_step (acc : List (List Int)) (s : List Int) (ss : List (List Int)) : grp acc (s :: ss) = if s.length < 255 then (acc, some s) :: grp [] ss else grp (acc ++ [s]) ss := by
  cases acc <;> simp [grp]
theorem mor_step (acc : List (List Int)) (s : List Int) (ss : List (List Int)) : mor acc (s :: ss) = if s.length < 255 then mor [] ss else mor (acc ++ [s]) ss := by
  cases acc <;> simp [mor]
theorem bods_length : ∀ (L B : List Int), (bods B L).length = L.length
  | [], _ => rfl
  | l :: ls, B => by simp [bods, bods_length ls]
theorem grp_length : ∀ (l acc : List (List Int)), (grp acc l).length ≤ l.length + (if acc = [] then 0 else 1)
  | [], [] => by simp [grp]
  | [], a :: acc => by simp [grp]
  | s :: ss, acc => by
    rw [grp_nil_step]
    by_cases h : s.length < 255
    · rw [if_pos h]
      have := grp_length ss []
      simp at this ⊢; omega
    · rw [if_neg h]
      have := grp_length ss (acc ++ [s])
      simp at this ⊢; omega

theorem rd_size {P : Pg} (hP : P.Fit) (b : ByteArray) (post : List Int) (hZ : bytesOf b = P.bytes ++ post) : 27 + P.L.length + total P.L ≤ b.size := by
  have := bytesOf_length b
  rw [hZ, List.length_append, hP.len] at this
  omega
theorem rd_count {P : Pg} (hP : P.Fit) (b : ByteArray) (post : List Int) (hZ : bytesOf b = P.bytes ++ post) : bt b 26 = (P.L.length : Int) := by
  have := pg_count hP [] post
  rw [List.nil_append, ← hZ] at this
  rw [show (26 : Int) = ((26 : Nat) : Int) from rfl, bt_get]
  simpa using this
theorem rd_len {P : Pg} (hP : P.Fit) (b : ByteArray) (post : List Int) (hZ : bytesOf b = P.bytes ++ post) (i : Nat) (hi : i < P.L.length) : bt b ((27 : Int) + i) = P.L[i] := by
  have h1 := pg_lens hP [] post
  rw [List.nil_append, ← hZ, List.length_nil, Nat.zero_add] at h1
  have h2 := cut_get (bytesOf b) 27 P.L.length i hi
  rw [h1] at h2
  rw [show (27 : Int) + i = ((27 + i : Nat) : Int) by omega, bt_get, ← h2, List.getD_eq_getElem?_getD, List.getElem?_eq_getElem hi]; rfl
theorem rd_seg {P : Pg} (hP : P.Fit) (b : ByteArray) (post : List Int) (hZ : bytesOf b = P.bytes ++ post) (i : Nat) (hi : i < P.L.length) : (bods P.B P.L)[i]? = some (cut (bytesOf b) (27 + P.L.length + total (P.L.take i)) (P.L[i]).toNat) := by
  have h1 := pg_bodies hP [] post
  rw [List.nil_append, ← hZ, List.length_nil, Nat.zero_add] at h1
  rw [← h1, bodies_get _ _ _ _ hi, List.getD_eq_getElem?_getD, List.getElem?_eq_getElem hi]; rfl
theorem rd_over {P : Pg} (hP : P.Fit) (b : ByteArray) (post : List Int) (hZ : bytesOf b = P.bytes ++ post) : bytesOf ((b.extract 0 22 ++ (⟨#[0, 0, 0, 0]⟩ : ByteArray)) ++ b.extract 26 P.bytes.length) = P.over := by
  have hlen := hP.len
  rw [bytesOf_append, bytesOf_append, bytesOf_extract, bytesOf_extract, hZ]
  have z : bytesOf (⟨#[0, 0, 0, 0]⟩ : ByteArray) = [0, 0, 0, 0] := by decide
  have t1 : (List.drop 0 (P.bytes ++ post)).take (22 - 0) = P.A := by
    rw [List.drop_zero, Nat.sub_zero, Pg.bytes, List.append_assoc, ← hP.a, List.take_left]
  have t2 : (List.drop 26 (P.bytes ++ post)).take (P.bytes.length - 26) = (P.L.length : Int) :: (P.L ++ P.B) := by
    have e : P.bytes ++ post = (P.A ++ P.S) ++ (((P.L.length : Int) :: (P.L ++ P.B)) ++ post) := by simp [Pg.bytes]
    have l26 : (26 : Nat) = (P.A ++ P.S).length := by simp [hP.a, hP.s]
    rw [e]
    conv => lhs; arg 2; arg 1; rw [l26]
    rw [List.drop_left, hlen]
    have : 27 + P.L.length + total P.L - 26 = ((P.L.length : Int) :: (P.L ++ P.B)).length := by simp [hP.b]; omega
    rw [this, List.take_left]
  rw [t1, t2, z]
  simp [Pg.over]
theorem rd_sum {P : Pg} (hP : P.Fit) (b : ByteArray) (post : List Int) (hZ : bytesOf b = P.bytes ++ post) : bytesOf (b.extract 22 26) = P.S := by
  rw [bytesOf_extract, hZ]
  have e : P.bytes ++ post = P.A ++ (P.S ++ (((P.L.length : Int) :: (P.L ++ P.B)) ++ post)) := by simp [Pg.bytes]
  rw [e]
  conv => lhs; arg 2; arg 1; rw [← hP.a]
  rw [List.drop_left, show 26 - 22 = P.S.length by rw [hP.s], List.take_left]
theorem rd_cutA {P : Pg} (hP : P.Fit) (b : ByteArray) (post : List Int) (hZ : bytesOf b = P.bytes ++ post) (i j : Nat) (hj : j ≤ 22) : bytesOf (b.extract i j) = (P.A.drop i).take (j - i) := by
  have ha := hP.a
  rw [bytesOf_extract, hZ, Pg.bytes, List.append_assoc, List.drop_append, List.take_append]
  have : j - i - (P.A.drop i).length = 0 := by rw [List.length_drop]; omega
  rw [this, List.take_zero, List.append_nil]
def sig5 : List Int := [79, 103, 103, 83, 0]
theorem mor_of_nil : ∀ (l acc : List (List Int)), grp acc l = [] → mor acc l = false
  | [], [], _ => by simp [mor]
  | [], a :: acc, h => by simp [grp] at h
  | s :: ss, acc, h => by
    rw [grp_nil_step] at h
    rw [mor_step]
    by_cases hs : s.length < 255
    · rw [if_pos hs] at h; simp at h
    · rw [if_neg hs] at h ⊢; exact mor_of_nil ss _ h
theorem grp_none : ∀ (l acc : List (List Int)) (i : Nat) (g : List (List Int) × Option (List Int)), (grp acc l)[i]? = some g → (g.2 = none ↔ (i + 1 = (grp acc l).length ∧ mor acc l = true))
  | [], [], i, g, h => by simp [grp] at h
  | [], a :: acc, i, g, h => by
    simp only [grp] at h ⊢
    cases i with
    | zero => simp at h; subst h; simp [mor]
    | succ i => simp at h
  | s :: ss, acc, i, g, h => by
    rw [grp_nil_step] at h ⊢
    rw [mor_step]
    by_cases hs : s.length < 255
    · rw [if_pos hs] at h ⊢
      rw [if_pos hs]
      cases i with
      | zero =>
        simp at h; subst h
        simp only [List.length_cons]
        constructor
        · intro h; cases h
        · rintro ⟨h1, h2⟩
          have : grp [] ss = [] := List.eq_nil_of_length_eq_zero (by omega)
          rw [mor_of_nil ss [] this] at h2; cases h2
      | succ i =>
        simp only [List.getElem?_cons_succ] at h
        rw [grp_none ss [] i g h]
        simp only [List.length_cons]
        constructor <;> (rintro ⟨h1, h2⟩; exact ⟨by omega, h2⟩)
    · rw [if_neg hs] at h ⊢
      rw [if_neg hs]
      exact grp_none ss _ i g h
theorem grp_full : ∀ (l acc : List (List Int)), (∀ a ∈ acc, a.length = 255 ∧ Bytes a) → (∀ s ∈ l, s.length ≤ 255 ∧ Bytes s) → ∀ g ∈ grp acc l, (∀ a ∈ g.1, a.length = 255 ∧ Bytes a) ∧ (∀ s, g.2 = some s → s.length < 255 ∧ Bytes s)
  | [], [], _, _, g, h => by simp [grp] at h
  | [], a :: acc, ha, _, g, h => by
    simp only [grp, List.mem_singleton] at h
    subst h
    exact ⟨ha, fun s h => by cases h⟩
  | s :: ss, acc, ha, hl, g, h => by
    rw [grp_nil_step] at h
    have hs1 := hl s List.mem_cons_self
    by_cases hs : s.length < 255
    · rw [if_pos hs] at h
      rcases List.mem_cons.1 h with rfl | h
      · exact ⟨ha, fun x hx => by injection hx with hx; subst hx; exact ⟨hs, hs1.2⟩⟩
      · exact grp_full ss [] (fun _ h => by simp at h) (fun x hx => hl x (List.mem_cons_of_mem _ hx)) g h
    · rw [if_neg hs] at h
      refine grp_full ss (acc ++ [s]) (fun a h' => ?_) (fun x hx => hl x (List.mem_cons_of_mem _ hx)) g h
      rcases List.mem_append.1 h' with h' | h'
      · exact ha a h'
      · rw [List.mem_singleton] at h'; subst h'; exact ⟨by omega, hs1.2⟩
theorem grp_flat : ∀ (l acc : List (List Int)), (grp acc l).flatMap (fun g => g.1 ++ g.2.toList) = acc ++ l
  | [], [] => by simp [grp]
  | [], a :: acc => by simp [grp]
  | s :: ss, acc => by
    rw [grp_nil_step]
    by_cases hs : s.length < 255
    · rw [if_pos hs, List.flatMap_cons, grp_flat ss []]; simp
    · rw [if_neg hs, grp_flat ss (acc ++ [s])]; simp


/-- What is known in the midst of a page's parts. -/
structure PRd (P : Pg) (b : ByteArray) (i fr : Nat) (acc : List (List Int)) (pts : List ByteArray) (mo : Bool) : Prop where
  f : fr ≤ 27 + P.L.length + total (P.L.take i)
  s : ((bytesOf b).drop fr).take (27 + P.L.length + total (P.L.take i) - fr) = acc.flatten
  p : pts ++ (grp acc ((bods P.B P.L).drop i)).map (fun x => strOfNums (partI x)) = partsOf (bods P.B P.L)
  m : (if i = P.L.length then mo else mor acc ((bods P.B P.L).drop i)) = mor [] (bods P.B P.L)
  n : pts.length ≤ i
  e : i = P.L.length → acc = []
theorem PRd.start (P : Pg) (b : ByteArray) : PRd P b 0 (27 + P.L.length) [] [] false := by
  have hz0 : total (P.L.take 0) = 0 := rfl
  refine ⟨by omega, by rw [hz0, Nat.add_zero, Nat.sub_self, List.take_zero]; rfl, by rw [List.drop_zero]; rfl, ?_, by simp, fun _ => rfl⟩
  rw [List.drop_zero]
  by_cases h0 : 0 = P.L.length
  · rw [if_pos h0]
    have : bods P.B P.L = [] := List.eq_nil_of_length_eq_zero (by rw [bods_length]; exact h0.symm)
    rw [this]; rfl
  · rw [if_neg h0]
theorem PRd.done {P : Pg} {b : ByteArray} {fr : Nat} {acc : List (List Int)} {pts : List ByteArray} {mo : Bool} (h : PRd P b P.L.length fr acc pts mo) : pts = partsOf (bods P.B P.L) ∧ mo = mor [] (bods P.B P.L) := by
  have hb0 : (bods P.B P.L).drop P.L.length = [] := List.drop_of_length_le (by rw [bods_length]; exact Nat.le_refl _)
  have h1 := h.p
  have h2 := h.m
  rw [h.e rfl, hb0] at h1
  rw [if_pos rfl] at h2
  exact ⟨by simpa [grp] using h1, h2⟩
theorem PRd.step {P : Pg} (hP : P.Fit) {b : ByteArray} {post : List Int} (hZ : bytesOf b = P.bytes ++ post) {i fr : Nat} {acc : List (List Int)} {pts : List ByteArray} {mo : Bool} (h : PRd P b i fr acc pts mo) (hlt : i < P.L.length) (l : Nat) (hl : P.L[i] = (l : Int)) :
    total (P.L.take (i + 1)) = total (P.L.take i) + l ∧ l ≤ 255 ∧ 27 + P.L.length + total (P.L.take i) + l ≤ b.size ∧
    ((l < 255 ∨ i + 1 = P.L.length) → ∃ acc', PRd P b (i + 1) (27 + P.L.length + total (P.L.take i) + l) acc' (pts ++ [b.extract fr (27 + P.L.length + total (P.L.take i) + l)]) ((l : Int) == 255)) ∧
    (l = 255 → i + 1 ≠ P.L.length → ∃ acc', PRd P b (i + 1) fr acc' pts mo) := by
  have hsz := rd_size hP b post hZ
  have hseg := rd_seg hP b post hZ i hlt
  have htot := total_snoc P.L i hlt
  rw [List.getD_eq_getElem?_getD, List.getElem?_eq_getElem hlt, Option.getD_some] at htot
  have htl := total_le P.L (i + 1)
  obtain ⟨hl0, hl1⟩ := hP.bl _ (List.getElem_mem hlt)
  have hil : i < (bods P.B P.L).length := by rw [bods_length]; exact hlt
  have hdr : (bods P.B P.L).drop i = (bods P.B P.L)[i] :: (bods P.B P.L).drop (i + 1) := List.drop_eq_getElem_cons hil
  rw [List.getElem?_eq_getElem hil] at hseg
  injection hseg with hseg
  have hp := h.p
  have hm := h.m
  have hne : ¬ i = P.L.length := by omega
  rw [if_neg hne] at hm
  rw [hdr] at hp hm
  generalize (bods P.B P.L)[i] = sg at hseg hp hm
  rw [hl] at hl0 hl1 htot hseg
  rw [Int.toNat_natCast] at hseg htot
  have hsl : sg.length = l := by rw [hseg]; exact cut_length _ _ _ (by rw [bytesOf_length]; omega)
  have hf := h.f
  have hacc := h.s
  have hn := h.n
  generalize hat : 27 + P.L.length + total (P.L.take i) = at_ at hf hacc hseg ⊢
  have hat2 : 27 + P.L.length + total (P.L.take (i + 1)) = at_ + l := by omega
  have hpart : ((bytesOf b).drop fr).take (at_ + l - fr) = acc.flatten ++ sg := by
    rw [show at_ + l - fr = (at_ - fr) + l by omega, List.take_add, hacc, List.drop_drop, show fr + (at_ - fr) = at_ by omega, hseg]; rfl
  have hext : b.extract fr (at_ + l) = strOfNums (acc.flatten ++ sg) := by
    apply bytesOf_inj
    rw [bytesOf_extract, hpart, bytesOf_str]
    intro v hv
    rw [← hpart] at hv
    exact bytesOf_bytes b v (List.mem_of_mem_drop (List.mem_of_mem_take hv))
  rw [grp_nil_step] at hp
  rw [mor_step] at hm
  refine ⟨htot, by omega, by omega, fun hor => ⟨[], ?_⟩, fun h255 hlast => ⟨acc ++ [sg], ?_⟩⟩
  · refine ⟨by omega, by rw [hat2, Nat.sub_self, List.take_zero]; rfl, ?_, ?_, by simp; omega, fun _ => rfl⟩
    · rw [hext, List.append_assoc]
      by_cases hs : l < 255
      · rw [if_pos (by omega)] at hp
        exact hp
      · have he : i + 1 = P.L.length := by omega
        rw [if_neg (by omega)] at hp
        have hb0 : (bods P.B P.L).drop (i + 1) = [] := List.drop_of_length_le (by rw [bods_length]; omega)
        rw [hb0] at hp ⊢
        have hg : grp (acc ++ [sg]) [] = [(acc ++ [sg], none)] := by cases acc <;> simp [grp]
        have hg0 : grp [] [] = [] := by simp [grp]
        have hpt : partI (acc ++ [sg], none) = acc.flatten ++ sg := by simp [partI]
        rw [hg] at hp
        rw [hg0]
        simpa [hpt] using hp
    · by_cases hs : l < 255
      · rw [if_pos (by omega)] at hm
        have hf2 : ((l : Int) == 255) = false := by have : ¬ (l : Int) = 255 := (by omega); simpa using this
        rw [hf2]
        by_cases he : i + 1 = P.L.length
        · rw [if_pos he, ← hm, List.drop_of_length_le (by rw [bods_length]; omega)]; rfl
        · rw [if_neg he]; exact hm
      · have he : i + 1 = P.L.length := by omega
        rw [if_neg (by omega)] at hm
        have hb0 : (bods P.B P.L).drop (i + 1) = [] := List.drop_of_length_le (by rw [bods_length]; omega)
        rw [hb0] at hm
        rw [if_pos he, ← hm]
        have hm2 : mor (acc ++ [sg]) [] = true := by cases acc <;> simp [mor]
        have ht2 : ((l : Int) == 255) = true := by have : (l : Int) = 255 := (by omega); rw [this]; rfl
        rw [hm2, ht2]
  · rw [if_neg (by omega)] at hp hm
    exact ⟨by omega, by rw [hat2, hpart]; simp, hp, by rw [if_neg hlast]; exact hm, by omega, fun h => absurd h hlast⟩
/-- The page's segments as texts. -/
def strsOf (P : Pg) : List ByteArray := (bods P.B P.L).map strOfNums
theorem bods_props : ∀ (L B : List Int), Bytes L → Bytes B → ∀ s ∈ bods B L, s.length ≤ 255 ∧ Bytes s
  | [], _, _, _, s, h => by simp [bods] at h
  | l :: ls, B, hL, hB, s, h => by
    simp only [bods] at h
    rcases List.mem_cons.1 h with rfl | h
    · have := hL l List.mem_cons_self
      exact ⟨by rw [List.length_take]; omega, fun v hv => hB v (List.mem_of_mem_take hv)⟩
    · exact bods_props ls _ (fun v hv => hL v (List.mem_cons_of_mem _ hv)) (fun v hv => hB v (List.mem_of_mem_drop hv)) s h
/-- What is read of a page. -/
def ReadAs (P : Pg) (p : S47) : Prop := p.f2 = gran P ∧ p.f4 = partsOf (bods P.B P.L) ∧ p.f5 = mor [] (bods P.B P.L)
def Good (P : Pg) : Prop := P.Fit ∧ P.ok ∧ P.A.take 5 = sig5
theorem extract_rest (b : ByteArray) (n : Nat) (a post : List Int) (h : bytesOf b = a ++ post) (hn : n = a.length) : bytesOf (b.extract n b.size) = post := by
  have hl := bytesOf_length b
  rw [bytesOf_extract, h, hn, List.drop_left]
  rw [h, List.length_append] at hl
  exact List.take_of_length_le (by omega)
end Go.Proofs.YtojdfjohmicopaaGreatDoor
