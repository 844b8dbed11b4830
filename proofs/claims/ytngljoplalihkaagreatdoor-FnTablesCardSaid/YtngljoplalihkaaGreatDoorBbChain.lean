/- The walk through a long switch over strings, without the frame being written out: plain laws of the calculus. No condition. -/
import Derived.Test.YtngljoplalihkaaGreatDoorBaNums
namespace Go.Proofs.YtngljoplalihkaaGreatDoor
open Go Go.RowKit Go.Proofs.YtngljoplalihkaaGreatDoorW.PrintWords

/-- What is known of the frame inside the switch: N slots, the name in slot c, nil in slots 2 and 3. -/
structure InT (N c : Nat) (nm : ByteArray) (v2 v3 : Value) (a : Act) : Prop where
  size : a.tmps.size = N
  nm : a.tmps[c]? = some (.string nm)
  two : a.tmps[2]? = some v2
  three : a.tmps[3]? = some v3
  defers : a.defers = []

theorem eval_of {a : Act} {t : Nat} {v : Value} (h : a.tmps[t]? = some v) : a.eval (.tmp t) = v := by
  simp [Act.eval, Array.getD_eq_getD_getElem?, h]

theorem InT.put {N c : Nat} {nm : ByteArray} {v2 v3 : Value} {a : Act} (h : InT N c nm v2 v3 a) (s : Nat) (v : Value) (hs : (s != c && s != 2 && s != 3) = true) : InT N c nm v2 v3 (a.put (some s) v) := by
  simp only [Bool.and_eq_true, bne_iff_ne] at hs
  obtain ⟨⟨h1, h2⟩, h3⟩ := hs
  refine ⟨by simp [Act.put, h.size], ?_, ?_, ?_, h.defers⟩
  · simp [Act.put, Array.getElem?_setIfInBounds, h1, h.nm]
  · simp [Act.put, Array.getElem?_setIfInBounds, h2, h.two]
  · simp [Act.put, Array.getElem?_setIfInBounds, h3, h.three]
theorem get_put {a : Act} {N s : Nat} (hz : a.tmps.size = N) (hs : s < N) (v : Value) : (a.put (some s) v).tmps[s]? = some v := by
  simp [Act.put, Array.getElem?_setIfInBounds, hz, hs]
theorem get_put_ne {a : Act} {s t : Nat} (h : s ≠ t) (v : Value) : (a.put (some s) v).tmps[t]? = a.tmps[t]? := by
  simp [Act.put, Array.getElem?_setIfInBounds, h]

theorem wp_eq {o : Oper} {a : Act} {w : World} {K : Act → World → Prop} {Q : Exit → Act → World → Prop} {d c : Nat} {nm lit : ByteArray} {t : TypeId} (ho : o.op = .binOp .eql 9 (.tmp c) (.const (.string lit)) t) (hd : o.dst = some d) (hn : a.eval (.tmp c) = .string nm)
    (h : K (a.put (some d) (.bool (nm.toList == lit.toList))) w) : o.wp Tryz.prog a w K Q := by
  have hc : ∀ v, a.eval (.const v) = v := fun _ => rfl
  unfold Oper.wp
  generalize a.eval = ev at hn hc
  unfold execOp
  simp [ho, hn, hc, hd, go_sem, eqGuard]
  exact h
theorem wp_assign {o : Oper} {a : Act} {w : World} {K : Act → World → Prop} {Q : Exit → Act → World → Prop} {d s : Nat} {v : Value} (ho : o.op = .assign (.tmp s)) (hd : o.dst = some d) (hn : a.eval (.tmp s) = v)
    (h : K (a.put (some d) v) w) : o.wp Tryz.prog a w K Q := by
  unfold Oper.wp
  generalize a.eval = ev at hn
  unfold execOp
  simp [ho, hn, hd, go_sem]
  exact h
theorem wp_move {o : Oper} {a : Act} {w : World} {K : Act → World → Prop} {Q : Exit → Act → World → Prop} {d s : Nat} {v : Value} (ho : o.op = .move (.tmp s)) (hd : o.dst = some d) (hn : a.eval (.tmp s) = v)
    (h : K (a.put (some d) v) w) : o.wp Tryz.prog a w K Q := by
  unfold Oper.wp
  generalize a.eval = ev at hn
  unfold execOp
  simp [ho, hn, hd, go_sem]
  exact h
/-- One question of the switch. -/
theorem chain_ask {N c : Nat} {nm : ByteArray} {v2 v3 : Value} {a : Act} {w : World} {Q : Exit → Act → World → Prop} (h : InT N c nm v2 v3 a) {id s s1 : Nat} {lit : ByteArray} {t t1 t2 : TypeId} {p1 p2 : String} {af1 af2 : Array Edge} {A C : Code}
    (b : Bool) (hb : (nm.toList == lit.toList) = b) (hs : ((s != c && s != 2 && s != 3) && (s1 != c && s1 != 2 && s1 != 3) && (s1 != s) && decide (s < N) && decide (s1 < N)) = true)
    (next : ∀ a', InT N c nm v2 v3 a' → (if b then A else C).wp Tryz.prog Q a' w) :
    (Code.seq (.region id #[{ dst := some s1, op := .binOp .eql 9 (.tmp c) (.const (.string lit)) t, type := t1, pos := p1, after := af1, guard := none }, { dst := some s, op := .assign (.tmp s1), type := t2, pos := p2, after := af2, guard := none }] false) (.cond (.tmp s) A C)).wp Tryz.prog Q a w := by
  simp only [Bool.and_eq_true, decide_eq_true_eq, bne_iff_ne] at hs
  obtain ⟨⟨⟨⟨hs, hs1⟩, hne⟩, hl⟩, hl1⟩ := hs
  refine wp_seq_k fun K hK => ?_
  refine wp_region_lit ?_
  refine wpList_plain rfl fun K1 hK1 => ?_
  refine wp_eq rfl rfl (eval_of h.nm) (hK1 _ _ ?_)
  have h1 := h.put s1 (.bool (nm.toList == lit.toList)) (by simpa [and_assoc] using hs1)
  refine wpList_plain rfl fun K2 hK2 => ?_
  refine wp_assign rfl rfl (eval_of (get_put h.size hl1 _)) (hK2 _ _ ?_)
  have h2 := h1.put s (.bool (nm.toList == lit.toList)) (by simpa [and_assoc] using hs)
  refine wpList_nil ?_
  refine hK _ _ ?_
  exact wp_cond (t := b) (by rw [← hb]; exact eval_of (get_put h1.size hl _)) (next _ h2)

theorem wp_call0 {o : Oper} {a : Act} {w : World} {K : Act → World → Prop} {Q : Exit → Act → World → Prop} {d f : Nat} {ts : Array TypeId} (ho : o.op = .call { callee := .value (.func f), args := #[], argTypes := ts }) (hd : o.dst = some d)
    (hf : ∀ w, (callFunc f #[]).run Tryz.prog w = .ok (.enter f #[]) w)
    (h : Calls Tryz.prog f #[] w fun e w' => ∃ x, e = .returned x ∧ K (a.put (some d) x) w') : o.wp Tryz.prog a w K Q := by
  have hc : a.eval (.func f) = .func (.func f) #[] #[] := rfl
  unfold Oper.wp
  generalize a.eval = ev at hc
  unfold execOp
  simp [ho, hd, hc, resolve, invoke, go_sem, hf]
  exact h.mono fun e w' ⟨x, hx, hk⟩ => by subst hx; exact hk
theorem wp_call1 {o : Oper} {a : Act} {w : World} {K : Act → World → Prop} {Q : Exit → Act → World → Prop} {d f s : Nat} {x : Value} {ts : Array TypeId} (ho : o.op = .call { callee := .value (.func f), args := #[.tmp s], argTypes := ts }) (hd : o.dst = some d)
    (hf : ∀ x w, (callFunc f #[x]).run Tryz.prog w = .ok (.enter f #[x]) w) (hx : a.eval (.tmp s) = x)
    (h : Calls Tryz.prog f #[x] w fun e w' => ∃ y, e = .returned y ∧ K (a.put (some d) y) w') : o.wp Tryz.prog a w K Q := by
  have hc : a.eval (.func f) = .func (.func f) #[] #[] := rfl
  unfold Oper.wp
  generalize a.eval = ev at hc hx
  unfold execOp
  simp [ho, hd, hc, hx, resolve, invoke, go_sem, hf]
  exact h.mono fun e w' ⟨y, hy, hk⟩ => by subst hy; exact hk
theorem InT.put2 {N c : Nat} {nm : ByteArray} {v2 v3 : Value} {a : Act} (h : InT N c nm v2 v3 a) (v : Value) (hc : c ≠ 2) (hN : 2 < N) : InT N c nm v v3 (a.put (some 2) v) :=
  ⟨by simp [Act.put, h.size], by simp [Act.put, Array.getElem?_setIfInBounds, hc.symm, h.nm], get_put h.size hN v, by rw [get_put_ne (by omega)]; exact h.three, h.defers⟩
theorem InT.put3 {N c : Nat} {nm : ByteArray} {v2 v3 : Value} {a : Act} (h : InT N c nm v2 v3 a) (v : Value) (hc : c ≠ 3) (hN : 3 < N) : InT N c nm v2 v (a.put (some 3) v) :=
  ⟨by simp [Act.put, h.size], by simp [Act.put, Array.getElem?_setIfInBounds, hc.symm, h.nm], by rw [get_put_ne (by omega)]; exact h.two, get_put h.size hN v, h.defers⟩
set_option maxRecDepth 100000 in
/-- The answer: l = numbers(table()). -/
theorem chain_arm {N c : Nat} {nm : ByteArray} {v2 v3 : Value} {a : Act} {w : World} {Q : Exit → Act → World → Prop} (h : InT N c nm v2 v3 a) {id s s1 f g : Nat} {t1 t2 t3 : TypeId} {p1 p2 p3 : String} {ts1 ts2 : Array TypeId} {af1 af2 af3 : Array Edge} {R : Value → World → Prop}
    (hf : ∀ w, (callFunc f #[]).run Tryz.prog w = .ok (.enter f #[]) w) (hg : ∀ x w, (callFunc g #[x]).run Tryz.prog w = .ok (.enter g #[x]) w)
    (hs : ((s != c && s != 2 && s != 3) && (s1 != c && s1 != 2 && s1 != 3) && decide (s < N) && decide (s1 < N) && (c != 2) && decide (2 < N)) = true)
    (hC : Calls Tryz.prog f #[] w fun e w1 => ∃ x, e = .returned x ∧ Calls Tryz.prog g #[x] w1 fun e w2 => ∃ v, e = .returned v ∧ R v w2)
    (next : ∀ a' v w2, R v w2 → InT N c nm v v3 a' → Q .normal a' w2) :
    (Code.region id #[{ dst := some s1, op := .call { callee := .value (.func f), args := #[], argTypes := ts1 }, type := t1, pos := p1, after := af1, guard := none }, { dst := some s, op := .call { callee := .value (.func g), args := #[.tmp s1], argTypes := ts2 }, type := t2, pos := p2, after := af2, guard := none }, { dst := some 2, op := .assign (.tmp s), type := t3, pos := p3, after := af3, guard := none }] false).wp Tryz.prog Q a w := by
  simp only [Bool.and_eq_true, decide_eq_true_eq, bne_iff_ne] at hs
  obtain ⟨⟨⟨⟨⟨hs, hs1⟩, hl⟩, hl1⟩, hc2⟩, hN⟩ := hs
  refine wp_region_lit ?_
  refine wpList_plain rfl fun K1 hK1 => ?_
  refine wp_call0 rfl rfl hf (hC.mono ?_)
  rintro e w1 ⟨x, rfl, hG⟩
  refine ⟨x, rfl, hK1 _ _ ?_⟩
  have h1 := h.put s1 x (by simpa [and_assoc] using hs1)
  refine wpList_plain rfl fun K2 hK2 => ?_
  refine wp_call1 rfl rfl hg (eval_of (get_put h.size hl1 _)) (hG.mono ?_)
  rintro e w2 ⟨v, rfl, hR⟩
  refine ⟨v, rfl, hK2 _ _ ?_⟩
  have h2 := h1.put s v (by simpa [and_assoc] using hs)
  refine wpList_plain rfl fun K3 hK3 => ?_
  refine wp_assign rfl rfl (eval_of (get_put h1.size hl _)) (hK3 _ _ ?_)
  exact wpList_nil (next _ _ _ hR (h2.put2 v hc2 hN))
theorem toList_data (s : ByteArray) : s.toList = s.data.toList := by
  have h : ∀ (n i : Nat) (r : List UInt8), s.size - i = n → ByteArray.toList.loop s i r = r.reverse ++ s.data.toList.drop i := by
    intro n
    induction n with
    | zero =>
      intro i r hi
      unfold ByteArray.toList.loop
      rw [if_neg (by omega), List.drop_eq_nil_of_le (by have : s.data.toList.length = s.size := Array.length_toList
                                                        omega), List.append_nil]
    | succ n ih =>
      intro i r hi
      unfold ByteArray.toList.loop
      have hlt : i < s.data.toList.length := by have : s.data.toList.length = s.size := Array.length_toList
                                                omega
      rw [if_pos (by omega), ih _ _ (by omega), List.drop_eq_getElem_cons hlt]
      have hg : s.get! i = s.data.toList[i] := by
        have : i < s.data.size := by simpa using hlt
        rw [ByteArray.get!, Array.getElem_toList]
        exact getElem!_pos s.data i this
      simp [hg]
  unfold ByteArray.toList
  rw [h _ 0 [] rfl]
  simp
theorem chain_no {N c : Nat} {nm : ByteArray} {v2 v3 : Value} {a : Act} {w : World} {Q : Exit → Act → World → Prop} (h : InT N c nm v2 v3 a) {id s s1 : Nat} {lit : ByteArray} {t t1 t2 : TypeId} {p1 p2 : String} {af1 af2 : Array Edge} {A C : Code}
    (hb : (nm.data.toList == lit.data.toList) = false) (hs : ((s != c && s != 2 && s != 3) && (s1 != c && s1 != 2 && s1 != 3) && (s1 != s) && decide (s < N) && decide (s1 < N)) = true)
    (next : ∀ a', InT N c nm v2 v3 a' → C.wp Tryz.prog Q a' w) :
    (Code.seq (.region id #[{ dst := some s1, op := .binOp .eql 9 (.tmp c) (.const (.string lit)) t, type := t1, pos := p1, after := af1, guard := none }, { dst := some s, op := .assign (.tmp s1), type := t2, pos := p2, after := af2, guard := none }] false) (.cond (.tmp s) A C)).wp Tryz.prog Q a w :=
  chain_ask h false (by rw [toList_data, toList_data]; exact hb) hs fun a' h' => next a' h'
theorem chain_yes {N c : Nat} {nm : ByteArray} {v2 v3 : Value} {a : Act} {w : World} {Q : Exit → Act → World → Prop} (h : InT N c nm v2 v3 a) {id s s1 : Nat} {lit : ByteArray} {t t1 t2 : TypeId} {p1 p2 : String} {af1 af2 : Array Edge} {A C : Code}
    (hb : (nm.data.toList == lit.data.toList) = true) (hs : ((s != c && s != 2 && s != 3) && (s1 != c && s1 != 2 && s1 != 3) && (s1 != s) && decide (s < N) && decide (s1 < N)) = true)
    (next : ∀ a', InT N c nm v2 v3 a' → A.wp Tryz.prog Q a' w) :
    (Code.seq (.region id #[{ dst := some s1, op := .binOp .eql 9 (.tmp c) (.const (.string lit)) t, type := t1, pos := p1, after := af1, guard := none }, { dst := some s, op := .assign (.tmp s1), type := t2, pos := p2, after := af2, guard := none }] false) (.cond (.tmp s) A C)).wp Tryz.prog Q a w :=
  chain_ask h true (by rw [toList_data, toList_data]; exact hb) hs fun a' h' => next a' h'

theorem wp_const {o : Oper} {a : Act} {w : World} {K : Act → World → Prop} {Q : Exit → Act → World → Prop} {d : Nat} {v : Value} (ho : o.op = .assign (.const v)) (hd : o.dst = some d)
    (h : K (a.put (some d) v) w) : o.wp Tryz.prog a w K Q := by
  have hc : a.eval (.const v) = v := rfl
  unfold Oper.wp
  generalize a.eval = ev at hc
  unfold execOp
  simp [ho, hc, hd, go_sem]
  exact h
theorem chain_start {N c : Nat} {nm : ByteArray} {u2 u3 : Value} {a : Act} {w : World} {Q : Exit → Act → World → Prop} {i0 i1 ib : Nat} {t0 t1 t2 : TypeId} {p0 p1 p2 : String} {af0 af1 af2 : Array Edge} {B T : Code}
    (hz : a.tmps.size = N) (hn : a.tmps[0]? = some (.string nm)) (hd : a.defers = []) (hs : (decide (3 < N) && decide (c < N) && (c != 2) && (c != 3)) = true)
    (next : ∀ a', InT N c nm u2 u3 a' → B.wp Tryz.prog (Exit.inBlock ib (Exit.then (T.wp Tryz.prog Q) Q)) a' w) :
    (Code.seq (.region i0 #[{ dst := some 2, op := .assign (.const u2), type := t0, pos := p0, after := af0, guard := none }, { dst := some 3, op := .assign (.const u3), type := t1, pos := p1, after := af1, guard := none }] false)
      (Code.seq (Code.seq (.region i1 #[{ dst := some c, op := .move (.tmp 0), type := t2, pos := p2, after := af2, guard := none }] false) (.block ib B)) T)).wp Tryz.prog Q a w := by
  simp only [Bool.and_eq_true, decide_eq_true_eq, bne_iff_ne] at hs
  obtain ⟨⟨⟨h3, hc⟩, hc2⟩, hc3⟩ := hs
  refine wp_seq ?_
  refine wp_region_lit ?_
  refine wpList_plain rfl fun K1 hK1 => ?_
  refine wp_const rfl rfl (hK1 _ _ ?_)
  refine wpList_plain rfl fun K2 hK2 => ?_
  refine wp_const rfl rfl (hK2 _ _ ?_)
  refine wpList_nil ?_
  refine wp_seq ?_
  refine wp_seq ?_
  refine wp_region_lit ?_
  refine wpList_plain rfl fun K3 hK3 => ?_
  refine wp_move rfl rfl (eval_of (v := .string nm) (by rw [get_put_ne (by decide), get_put_ne (by decide)]; exact hn)) (hK3 _ _ ?_)
  refine wpList_nil ?_
  refine wp_block ?_
  refine next _ ⟨by simp [Act.put, hz], get_put (N := N) (by simp [Act.put, hz]) hc _, ?_, ?_, hd⟩
  · rw [get_put_ne hc2, get_put_ne (by decide)]; exact get_put hz (by omega) _
  · rw [get_put_ne hc3]; exact get_put (N := N) (by simp [Act.put, hz]) h3 _

theorem tail_two {N c : Nat} {nm : ByteArray} {v2 v3 : Value} {a : Act} {w : World} {Q : Exit → Act → World → Prop} (h : InT N c nm v2 v3 a) {id s s1 : Nat} {t0 t1 t2 t3 : TypeId} {p0 p1 p2 p3 : String} {af0 af1 af2 af3 : Array Edge}
    (hs : ((s != c && s != 2 && s != 3) && (s1 != c && s1 != 2 && s1 != 3) && (s1 != s) && decide (s < N) && decide (s1 < N) && (c != 2) && (c != 3) && decide (3 < N)) = true)
    (next : ∀ a', InT N c nm v2 v3 a' → Q .ret a' w) :
    (Code.seq (.region id #[{ dst := some s, op := .move (.tmp 2), type := t0, pos := p0, after := af0, guard := none }, { dst := some s1, op := .move (.tmp 3), type := t1, pos := p1, after := af1, guard := none }, { dst := some 2, op := .assign (.tmp s), type := t2, pos := p2, after := af2, guard := none }, { dst := some 3, op := .assign (.tmp s1), type := t3, pos := p3, after := af3, guard := none }] false) .ret).wp Tryz.prog Q a w := by
  simp only [Bool.and_eq_true, decide_eq_true_eq, bne_iff_ne] at hs
  obtain ⟨⟨⟨⟨⟨⟨⟨hs, hs1⟩, hne⟩, hl⟩, hl1⟩, hc2⟩, hc3⟩, h3⟩ := hs
  have k1 := h.put s v2 (by simpa [and_assoc] using hs)
  have k2 := k1.put s1 v3 (by simpa [and_assoc] using hs1)
  have k3 := k2.put2 v2 hc2 (by omega)
  have k4 := k3.put3 v3 hc3 (by omega)
  refine wp_seq ?_
  refine wp_region_lit ?_
  refine wpList_plain rfl fun K1 hK1 => ?_
  refine wp_move rfl rfl (eval_of h.two) (hK1 _ _ ?_)
  refine wpList_plain rfl fun K2 hK2 => ?_
  refine wp_move rfl rfl (eval_of k1.three) (hK2 _ _ ?_)
  refine wpList_plain rfl fun K3 hK3 => ?_
  refine wp_assign rfl rfl (eval_of (v := v2) (by rw [get_put_ne hne]; exact get_put h.size hl _)) (hK3 _ _ ?_)
  refine wpList_plain rfl fun K4 hK4 => ?_
  refine wp_assign rfl rfl (eval_of (v := v3) (by rw [get_put_ne (by omega)]; exact get_put k1.size hl1 _)) (hK4 _ _ ?_)
  refine wpList_nil ?_
  exact wp_ret (next _ k4)

theorem tail_one {N c : Nat} {nm : ByteArray} {v2 v3 u3 : Value} {a : Act} {w : World} {Q : Exit → Act → World → Prop} (h : InT N c nm v2 v3 a) {id s : Nat} {t0 t2 t3 : TypeId} {p0 p2 p3 : String} {af0 af2 af3 : Array Edge}
    (hs : ((s != c && s != 2 && s != 3) && decide (s < N) && (c != 2) && (c != 3) && decide (3 < N)) = true)
    (next : ∀ a', InT N c nm v2 u3 a' → Q .ret a' w) :
    (Code.seq (.region id #[{ dst := some s, op := .move (.tmp 2), type := t0, pos := p0, after := af0, guard := none }, { dst := some 2, op := .assign (.tmp s), type := t2, pos := p2, after := af2, guard := none }, { dst := some 3, op := .assign (.const u3), type := t3, pos := p3, after := af3, guard := none }] false) .ret).wp Tryz.prog Q a w := by
  simp only [Bool.and_eq_true, decide_eq_true_eq, bne_iff_ne] at hs
  obtain ⟨⟨⟨⟨hs, hl⟩, hc2⟩, hc3⟩, h3⟩ := hs
  have k1 := h.put s v2 (by simpa [and_assoc] using hs)
  have k3 := k1.put2 v2 hc2 (by omega)
  have k4 := k3.put3 u3 hc3 (by omega)
  refine wp_seq ?_
  refine wp_region_lit ?_
  refine wpList_plain rfl fun K1 hK1 => ?_
  refine wp_move rfl rfl (eval_of h.two) (hK1 _ _ ?_)
  refine wpList_plain rfl fun K3 hK3 => ?_
  refine wp_assign rfl rfl (eval_of (v := v2) (get_put h.size hl _)) (hK3 _ _ ?_)
  refine wpList_plain rfl fun K4 hK4 => ?_
  refine wp_const rfl rfl (hK4 _ _ ?_)
  refine wpList_nil ?_
  exact wp_ret (next _ k4)

theorem post_two {N c : Nat} {nm : ByteArray} {v2 v3 : Value} {a : Act} {w : World} {fn : Func} {R : Ending → World → Prop} (h : InT N c nm v2 v3 a) (hr : fn.results = #[.tmp 2, .tmp 3]) (hR : R (.returned (.tuple #[v2, v3])) w) : bodyPost Tryz.prog fn R .ret a w := by
  refine bodyPost_ret (results_tmp2 hr a.tmps Tryz.prog w) h.defers ?_
  rw [Array.getD_eq_getD_getElem?, Array.getD_eq_getD_getElem?, h.two, h.three]
  exact hR

/-- numbers(table()): a table's own list. -/
theorem table_of {f g : Nat} {w : World} (L : List Int) (hl : (decide (L.length ≤ 1000) && L.all fun x => decide (0 ≤ x) && decide (x ≤ 65535)) = true)
    (hT : Calls Tryz.prog f #[] w fun e w' => e = .returned (.slice (some ⟨w.heap.size, 0, none⟩) L.length L.length) ∧ w' = w.alloc (.cells (nums .u64 L).toArray 62))
    (hN : ∀ (w : World) (b c : Nat) (xs : List Int), xs.length ≤ 1000 → b < w.heap.size → (∀ k, k < xs.length → w.cell? ⟨b, k, none⟩ = some (.int .u64 (xs.getD k 0))) → (∀ k, k < xs.length → 0 ≤ xs.getD k 0 ∧ xs.getD k 0 ≤ 65535) →
      Calls Tryz.prog g #[.slice (some ⟨b, 0, none⟩) xs.length c] w fun e w' => (∃ v, e = .returned v ∧ w'.ownsRow w.heap.size 2 1 v xs.length (nums .i64 xs)) ∧ Below w.heap.size w w') :
    Calls Tryz.prog f #[] w fun e w1 => ∃ x, e = .returned x ∧ Calls Tryz.prog g #[x] w1 fun e w2 => ∃ v, e = .returned v ∧ w2.ownsRow w.heap.size 2 1 v L.length (nums .i64 L) ∧ Below w.heap.size w w2 := by
  simp only [Bool.and_eq_true, decide_eq_true_eq, List.all_eq_true] at hl
  obtain ⟨hl1, hl2⟩ := hl
  refine hT.mono ?_
  rintro e w1 ⟨rfl, rfl⟩
  refine ⟨_, rfl, ?_⟩
  refine (hN _ w.heap.size L.length L hl1 (by simp) (fun k hk => ?_) (fun k hk => ?_)).mono ?_
  · rw [(Blk.new w 62 (nums .u64 L).toArray).cell k]
    simp [nums, List.getElem?_eq_getElem hk]
  · rw [List.getD_eq_getElem?_getD, List.getElem?_eq_getElem hk]
    exact hl2 _ (List.getElem_mem hk)
  · rintro e w2 ⟨⟨v, rfl, hv⟩, hb⟩
    exact ⟨v, rfl, own_weaken hv (by simp), ((Below.refl _ _).alloc (Nat.le_refl _) _).trans (hb.mono (by simp))⟩
end Go.Proofs.YtngljoplalihkaaGreatDoor
