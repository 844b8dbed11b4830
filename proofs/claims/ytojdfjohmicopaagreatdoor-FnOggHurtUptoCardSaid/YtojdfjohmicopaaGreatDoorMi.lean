/- Pages as lists of whole numbers: their parts, where they lie, and one whose byte is another. Plain. No condition. Bytes as whole numbers: least, the sum. Plain. No condition. The reference's writing of pages: what it writes are pages. Plain. Condition: bounded sizes. -/
import Derived.Test.YtojdfjohmicopaaGreatDoorMf
import Derived.Test.YtojdfjohmicopaaGreatDoorPFnOggHurtx1
import Derived.Test.YtojdfjohmicopaaGreatDoorPFnOggHurtx2
namespace Go.Proofs.YtojdfjohmicopaaGreatDoor
open Go Go.RowKit Go.Proofs.YtojdfjohmicopaaGreatDoorW.PrintWords Go.Proofs.YtojdfjohmicopaaGreatDoor.Crc

/-- A page: 22 bytes, the sum's four, the lengths, the bodies. -/
structure Pg where
  A : List Int
  S : List Int
  L : List Int
  B : List Int
def Pg.bytes (P : Pg) : List Int := P.A ++ (P.S ++ ((P.L.length : Int) :: (P.L ++ P.B)))
structure Pg.Fit (P : Pg) : Prop where
  a : P.A.length = 22
  s : P.S.length = 4
  l : P.L.length ≤ 255
  b : P.B.length = total P.L
  ba : Bytes P.A
  bs : Bytes P.S
  bl : Bytes P.L
  bb : Bytes P.B
/-- What the page's sum is reckoned over. -/
def Pg.over (P : Pg) : List Int := P.A ++ ([0, 0, 0, 0] ++ ((P.L.length : Int) :: (P.L ++ P.B)))
def Pg.ok (P : Pg) : Prop := Lib.leZ P.S = ((sumI 0#32 P.over).toNat : Int)
/-- The page's position in the stream. -/
def gran (P : Pg) : Int := Lib.leZ ((P.A.drop 6).take 8)
/-- The bodies, cut by the lengths. -/
def bods : List Int → List Int → List (List Int)
  | _, [] => []
  | B, l :: ls => B.take l.toNat :: bods (B.drop l.toNat) ls
theorem Pg.Fit.len {P : Pg} (h : P.Fit) : P.bytes.length = 27 + P.L.length + total P.L := by
  simp [Pg.bytes, h.a, h.s, h.b]; omega
theorem Pg.Fit.bytes {P : Pg} (h : P.Fit) : Bytes P.bytes := by
  intro v hv
  simp only [Pg.bytes, List.mem_append, List.mem_cons] at hv
  rcases hv with hv | hv | hv | hv | hv
  · exact h.ba v hv
  · exact h.bs v hv
  · have := h.l; omega
  · exact h.bl v hv
  · exact h.bb v hv
theorem cut_mid (a x b : List Int) : cut (a ++ (x ++ b)) a.length x.length = x := by
  simp [cut]
theorem cut_at (a x b : List Int) {p n : Nat} (hp : p = a.length) (hn : n = x.length) : cut (a ++ (x ++ b)) p n = x := by subst hp; subst hn; exact cut_mid a x b
theorem getD_mid (a : List Int) (x : Int) (b : List Int) (d : Int) : (a ++ (x :: b)).getD a.length d = x := by
  simp [List.getD_eq_getElem?_getD]
theorem bodies_mid : ∀ (L a B b : List Int), total L ≤ B.length → bodies (a ++ (B ++ b)) a.length L = bods B L
  | [], _, _, _, _ => rfl
  | l :: ls, a, B, b, h => by
    have ht : total (l :: ls) = l.toNat + total ls := by simp [total]
    have hl : l.toNat ≤ B.length := by omega
    have e : B = B.take l.toNat ++ B.drop l.toNat := (List.take_append_drop _ _).symm
    have hlen : (B.take l.toNat).length = l.toNat := by simp [hl]
    simp only [bodies, bods]
    congr 1
    · have := cut_at a (B.take l.toNat) (B.drop l.toNat ++ b) rfl hlen.symm
      rw [← List.append_assoc (B.take l.toNat), ← e] at this
      exact this
    · have := bodies_mid ls (a ++ B.take l.toNat) (B.drop l.toNat) b (by rw [List.length_drop]; omega)
      rw [List.length_append, hlen, List.append_assoc, ← List.append_assoc (B.take l.toNat), ← e] at this
      exact this
theorem bods_flatten : ∀ (L B : List Int), total L = B.length → (bods B L).flatten = B
  | [], B, h => by
    have : B = [] := List.eq_nil_of_length_eq_zero (by rw [← h]; rfl)
    subst this; rfl
  | l :: ls, B, h => by
    have ht : total (l :: ls) = l.toNat + total ls := by simp [total]
    simp only [bods, List.flatten_cons]
    rw [bods_flatten ls (B.drop l.toNat) (by rw [List.length_drop]; omega)]
    exact List.take_append_drop _ _
theorem pg_head {P : Pg} (h : P.Fit) (a b : List Int) : cut (a ++ (P.bytes ++ b)) a.length 27 = P.A ++ (P.S ++ [(P.L.length : Int)]) := by
  have e : a ++ (P.bytes ++ b) = a ++ ((P.A ++ (P.S ++ [(P.L.length : Int)])) ++ ((P.L ++ P.B) ++ b)) := by simp [Pg.bytes]
  rw [e]; exact cut_at a _ _ rfl (by simp [h.a, h.s])
theorem pg_count {P : Pg} (h : P.Fit) (a b : List Int) : (a ++ (P.bytes ++ b)).getD (a.length + 26) 0 = (P.L.length : Int) := by
  have e : a ++ (P.bytes ++ b) = (a ++ P.A ++ P.S) ++ ((P.L.length : Int) :: ((P.L ++ P.B) ++ b)) := by simp [Pg.bytes]
  have hl : a.length + 26 = (a ++ P.A ++ P.S).length := by simp [h.a, h.s]
  rw [e, hl]; exact getD_mid _ _ _ _
theorem pg_lens {P : Pg} (h : P.Fit) (a b : List Int) : cut (a ++ (P.bytes ++ b)) (a.length + 27) P.L.length = P.L := by
  have e : a ++ (P.bytes ++ b) = (a ++ P.A ++ P.S ++ [(P.L.length : Int)]) ++ (P.L ++ (P.B ++ b)) := by simp [Pg.bytes]
  rw [e]; exact cut_at _ _ _ (by simp [h.a, h.s]) rfl
theorem pg_bodies {P : Pg} (h : P.Fit) (a b : List Int) : bodies (a ++ (P.bytes ++ b)) (a.length + 27 + P.L.length) P.L = bods P.B P.L := by
  have e : a ++ (P.bytes ++ b) = (a ++ P.A ++ P.S ++ [(P.L.length : Int)] ++ P.L) ++ (P.B ++ b) := by simp [Pg.bytes]
  have hl : a.length + 27 + P.L.length = (a ++ P.A ++ P.S ++ [(P.L.length : Int)] ++ P.L).length := by simp [h.a, h.s]; omega
  rw [e, hl]; exact bodies_mid _ _ _ _ (by rw [h.b]; exact Nat.le_refl _)
theorem pg_next {P : Pg} (h : P.Fit) (a b : List Int) : a.length + 27 + P.L.length + total (cut (a ++ (P.bytes ++ b)) (a.length + 27) P.L.length) = a.length + P.bytes.length := by
  rw [pg_lens h, h.len]; omega
theorem pg_ok {P : Pg} (h : P.Fit) (a b : List Int) : pageOk (a ++ (P.bytes ++ b)) a.length P.L.length ↔ P.ok := by
  unfold pageOk Pg.ok
  rw [pg_head h, pg_lens h, pg_bodies h, bods_flatten _ _ h.b.symm]
  have e1 : ((P.A ++ (P.S ++ [(P.L.length : Int)])).drop 22).take 4 = P.S := by
    rw [← h.a, List.drop_left, ← h.s, List.take_left]
  have e2 : zeroed (P.A ++ (P.S ++ [(P.L.length : Int)])) ++ P.L ++ P.B = P.over := by
    have t : (P.A ++ (P.S ++ [(P.L.length : Int)])).take 22 = P.A := by rw [← h.a, List.take_left]
    have d : (P.A ++ (P.S ++ [(P.L.length : Int)])).drop 26 = [(P.L.length : Int)] := by
      rw [show (26 : Nat) = (P.A ++ P.S).length by simp [h.a, h.s], ← List.append_assoc, List.drop_left]
    simp [zeroed, t, d, Pg.over]
  rw [e1, e2]

/-- The bytes of pages. -/
def flat (l : List Pg) : List Int := l.flatMap Pg.bytes
theorem flat_append (l m : List Pg) : flat (l ++ m) = flat l ++ flat m := by simp [flat]
theorem flat_cons (P : Pg) (m : List Pg) : flat (P :: m) = P.bytes ++ flat m := rfl

/-- Other numbers, another number. -/
theorem leZ_inj : ∀ {l m : List Int}, Bytes l → Bytes m → l.length = m.length → Lib.leZ l = Lib.leZ m → l = m
  | [], [], _, _, _, _ => rfl
  | x :: l, y :: m, hl, hm, hn, h => by
    have hx := hl x List.mem_cons_self
    have hy := hm y List.mem_cons_self
    simp only [Lib.leZ] at h
    have e : Lib.leZ l = Lib.leZ m := by omega
    rw [leZ_inj (fun v hv => hl v (List.mem_cons_of_mem _ hv)) (fun v hv => hm v (List.mem_cons_of_mem _ hv)) (by simpa using hn) e]
    congr 1; omega
theorem sumI_hurt {l m : List Int} {u v : Int} (hu : 0 ≤ u ∧ u < 256) (hv : 0 ≤ v ∧ v < 256) (hne : u ≠ v) : sumI 0#32 (l ++ u :: m) ≠ sumI 0#32 (l ++ v :: m) := by
  unfold sumI
  simp only [List.map_append, List.map_cons]
  exact sum_hurt (by omega) (by omega) (by omega)
theorem set_split {l : List Int} {k : Nat} (hk : k < l.length) (v : Int) : ∃ x y, l = x ++ l.getD k 0 :: y ∧ l.set k v = x ++ v :: y ∧ x.length = k := by
  refine ⟨l.take k, l.drop (k + 1), ?_, ?_, by simp; omega⟩
  · rw [List.getD_eq_getElem?_getD, List.getElem?_eq_getElem hk]
    show l = l.take k ++ l[k] :: l.drop (k + 1)
    rw [← List.drop_eq_getElem_cons hk, List.take_append_drop]
  · rw [List.set_eq_take_append_cons_drop, if_pos hk]
theorem Bytes.set {l : List Int} (h : Bytes l) (k : Nat) {v : Int} (hv : 0 ≤ v ∧ v < 256) : Bytes (l.set k v) := by
  intro x hx
  rcases List.mem_or_eq_of_mem_set hx with hx | rfl
  · exact h x hx
  · exact hv

/-- A PAGE ONE BYTE OF WHICH IS ANOTHER, but for the count and the lengths: as long, of the same lengths, and its sum is none. -/
theorem hurt {P : Pg} (h : P.Fit) (hok : P.ok) (k : Nat) (hk : k < P.bytes.length) (hkn : k < 26 ∨ 27 + P.L.length ≤ k) {v : Int} (hv : 0 ≤ v ∧ v < 256) (hne : v ≠ P.bytes.getD k 0) :
    ∃ Q : Pg, Q.bytes = P.bytes.set k v ∧ Q.Fit ∧ ¬ Q.ok ∧ Q.L = P.L := by
  have hlen := h.len
  have ha := h.a; have hs := h.s; have hb := h.b
  by_cases h1 : k < 22
  · have hg : P.bytes.getD k 0 = P.A.getD k 0 := by
      simp [Pg.bytes, List.getD_eq_getElem?_getD, List.getElem?_append, ha, h1]
    rw [hg] at hne
    obtain ⟨x, y, e1, e2, _⟩ := set_split (l := P.A) (k := k) (by omega) v
    refine ⟨⟨P.A.set k v, P.S, P.L, P.B⟩, ?_, ⟨by simp [ha], hs, h.l, hb, h.ba.set k hv, h.bs, h.bl, h.bb⟩, ?_, rfl⟩
    · simp only [Pg.bytes]; rw [List.set_append_left _ _ (by omega)]
    · intro hq
      unfold Pg.ok at hq hok
      rw [hok] at hq
      have hq' := BitVec.eq_of_toNat_eq (Int.ofNat.inj hq)
      simp only [Pg.over] at hq'
      rw [e2] at hq'
      conv at hq' => lhs; rw [e1]
      rw [List.append_assoc, List.append_assoc, List.cons_append, List.cons_append] at hq'
      have hu : 0 ≤ P.A.getD k 0 ∧ P.A.getD k 0 < 256 := bytes_getD h.ba k (by omega)
      exact sumI_hurt hu hv hne.symm hq'
  · by_cases h2 : k < 26
    · have hg : P.bytes.getD k 0 = P.S.getD (k - 22) 0 := by
        simp only [Pg.bytes, List.getD_eq_getElem?_getD]
        rw [List.getElem?_append_right (by omega), ha, List.getElem?_append_left (by omega)]
      rw [hg] at hne
      refine ⟨⟨P.A, P.S.set (k - 22) v, P.L, P.B⟩, ?_, ⟨ha, by simp [hs], h.l, hb, h.ba, h.bs.set _ hv, h.bl, h.bb⟩, ?_, rfl⟩
      · simp only [Pg.bytes]; rw [List.set_append_right _ _ (by omega), ha, List.set_append_left _ _ (by omega)]
      · intro hq
        unfold Pg.ok at hq hok
        have e : P.S.set (k - 22) v = P.S := leZ_inj (h.bs.set _ hv) h.bs (by simp) (hq.trans hok.symm)
        have := congrArg (fun l => l.getD (k - 22) 0) e
        simp only [List.getD_eq_getElem?_getD] at this hne
        rw [List.getElem?_set_self (by omega)] at this
        exact hne this
    · have h3 : 27 + P.L.length ≤ k := by omega
      have hg : P.bytes.getD k 0 = P.B.getD (k - (27 + P.L.length)) 0 := by
        simp only [Pg.bytes, List.getD_eq_getElem?_getD]
        rw [List.getElem?_append_right (by omega), ha, List.getElem?_append_right (by omega), hs, show k - 22 - 4 = (k - 27) + 1 by omega, List.getElem?_cons_succ, List.getElem?_append_right (by omega)]
        congr 2; omega
      rw [hg] at hne
      have hkb : k - (27 + P.L.length) < P.B.length := by omega
      obtain ⟨x, y, e1, e2, _⟩ := set_split hkb v
      refine ⟨⟨P.A, P.S, P.L, P.B.set (k - (27 + P.L.length)) v⟩, ?_, ⟨ha, hs, h.l, by simp [hb], h.ba, h.bs, h.bl, h.bb.set _ hv⟩, ?_, rfl⟩
      · simp only [Pg.bytes]
        rw [List.set_append_right _ _ (by omega), ha, List.set_append_right _ _ (by omega), hs, show k - 22 - 4 = (k - 27) + 1 by omega, List.set_cons_succ, List.set_append_right _ _ (by omega)]
        rw [show k - 27 - P.L.length = k - (27 + P.L.length) by omega]
      · intro hq
        unfold Pg.ok at hq hok
        rw [hok] at hq
        have hq' := BitVec.eq_of_toNat_eq (Int.ofNat.inj hq)
        simp only [Pg.over] at hq'
        rw [e2] at hq'
        conv at hq' => lhs; rw [e1]
        have hu := bytes_getD h.bb _ hkb
        have r : ∀ z : Int, P.A ++ ([0, 0, 0, 0] ++ ((P.L.length : Int) :: (P.L ++ (x ++ z :: y)))) = (P.A ++ ([0, 0, 0, 0] ++ ((P.L.length : Int) :: (P.L ++ x)))) ++ z :: y := by intro z; simp
        rw [r, r] at hq'
        exact sumI_hurt hu hv hne.symm hq'

/-- ONE BYTE OF PAGES IS ANOTHER: the pages ahead of it, the page that bears it, those behind. -/
theorem hurt_in : ∀ (l : List Pg) (_ : ∀ P ∈ l, P.Fit ∧ P.ok) (k : Nat) (_ : k < (flat l).length) {v : Int} (_ : 0 ≤ v ∧ v < 256) (_ : v ≠ (flat l).getD k 0)
    (_ : ∀ l1 P l2, l = l1 ++ P :: l2 → (flat l1).length ≤ k → k < (flat l1).length + P.bytes.length → k < (flat l1).length + 26 ∨ (flat l1).length + 27 + P.L.length ≤ k),
    ∃ (l1 : List Pg) (P : Pg) (l2 : List Pg) (Q : Pg), l = l1 ++ P :: l2 ∧ (flat l).set k v = flat l1 ++ (Q.bytes ++ flat l2) ∧ Q.Fit ∧ ¬ Q.ok
  | [], _, k, hk, _, _, _, _ => by simp [flat] at hk
  | P :: l, h, k, hk, v, hv, hne, hout => by
    rw [flat_cons] at hk hne
    by_cases h1 : k < P.bytes.length
    · have hg : (P.bytes ++ flat l).getD k 0 = P.bytes.getD k 0 := by
        simp only [List.getD_eq_getElem?_getD]; rw [List.getElem?_append_left h1]
      rw [hg] at hne
      have ho := hout [] P l rfl (by simp [flat]) (by simpa [flat] using h1)
      simp only [flat, List.flatMap_nil, List.length_nil, Nat.zero_add] at ho
      obtain ⟨Q, e, hf, hn, _⟩ := hurt (h P List.mem_cons_self).1 (h P List.mem_cons_self).2 k h1 ho hv hne
      refine ⟨[], P, l, Q, rfl, ?_, hf, hn⟩
      rw [flat_cons, List.set_append_left _ _ h1, e]; rfl
    · have hg : (P.bytes ++ flat l).getD k 0 = (flat l).getD (k - P.bytes.length) 0 := by
        simp only [List.getD_eq_getElem?_getD]; rw [List.getElem?_append_right (by omega)]
      rw [hg] at hne
      obtain ⟨l1, P1, l2, Q, e, es, hf, hn⟩ := hurt_in l (fun R hR => h R (List.mem_cons_of_mem _ hR)) (k - P.bytes.length) (by rw [List.length_append] at hk; omega) hv hne (by
        intro l1 P1 l2 e hlo hhi
        have := hout (P :: l1) P1 l2 (by rw [e]; rfl) (by rw [flat_cons, List.length_append]; omega) (by rw [flat_cons, List.length_append]; omega)
        rw [flat_cons, List.length_append] at this
        omega)
      refine ⟨P :: l1, P1, l2, Q, by rw [e]; rfl, ?_, hf, hn⟩
      rw [flat_cons, List.set_append_right _ _ (by omega), es, flat_cons, List.append_assoc]
end Go.Proofs.YtojdfjohmicopaaGreatDoor
namespace Go.Proofs.YtojdfjohmicopaaGreatDoor
open Go Go.RowKit Go.Proofs.YtojdfjohmicopaaGreatDoorW.PrintWords Go.Proofs.YtojdfjohmicopaaGreatDoor.Crc Go.Proofs.YtojdfjohmicopaaGreatDoor.PFnOggHurt

theorem bytesOf_bytes (s : ByteArray) : Bytes (bytesOf s) := by
  intro v hv
  simp only [bytesOf, List.mem_map] at hv
  obtain ⟨b, _, rfl⟩ := hv
  have := b.toNat_lt
  omega
theorem bytesOf_append (a b : ByteArray) : bytesOf (a ++ b) = bytesOf a ++ bytesOf b := by
  simp [bytesOf]
theorem bytesOf_extract (s : ByteArray) (i j : Nat) : bytesOf (s.extract i j) = ((bytesOf s).drop i).take (j - i) := by
  simp [bytesOf, List.map_take, List.map_drop, Array.toList_extract, List.extract]
theorem str_bytesOf (s : ByteArray) : strOfNums (bytesOf s) = s := by
  unfold strOfNums bytesOf
  rw [List.map_map]
  have : ((fun n : Int => UInt8.ofNat n.toNat) ∘ fun b : UInt8 => (b.toNat : Int)) = id := by
    funext b; simp
  rw [this, List.map_id]
theorem bytesOf_str {xs : List Int} (h : Bytes xs) : bytesOf (strOfNums xs) = xs := by
  unfold strOfNums bytesOf
  rw [List.map_map]
  conv => rhs; rw [← List.map_id xs]
  apply List.map_congr_left
  intro v hv
  have := h v hv
  simp
  omega
theorem bytesOf_inj {a b : ByteArray} (h : bytesOf a = bytesOf b) : a = b := by rw [← str_bytesOf a, h, str_bytesOf]
theorem bytesN_of (s : ByteArray) : bytesN s = (bytesOf s).map Int.toNat := by
  simp [bytesN, bytesOf, List.map_map, Function.comp_def]
theorem ev_sum (s : ByteArray) (hs : s.size < 4611686018427387904) : Ev (fun k => spec_OggSum.f k s) ((sumI 0#32 (bytesOf s)).toNat : Int) := by
  refine ⟨10 * s.size + 1, fun k hk => ?_⟩
  show spec_OggSum.f k s = _
  rw [oggSum s hs k hk, bytesN_of]; rfl
theorem bt_get (s : ByteArray) (i : Nat) : bt s (i : Int) = (bytesOf s).getD i 0 := by
  rw [← rd_bytesOf]; unfold rd; rw [Int.toNat_natCast]

theorem or64 (a b : Int) (h0 : 0 ≤ a) (h1 : a < 72057594037927936) (h2 : 0 ≤ b) (h3 : b < 256) : bits .or .u64 (a * 256) b = a * 256 + b := by
  obtain ⟨m, rfl⟩ := Int.eq_ofNat_of_zero_le h0
  obtain ⟨n, rfl⟩ := Int.eq_ofNat_of_zero_le h2
  have hw : ∀ z : Int, IntKind.u64.wrap z = z % 18446744073709551616 := fun z => by simp [IntKind.wrap, IntKind.bits, IntKind.signed]
  show IntKind.u64.wrap ((BitVec.ofInt 64 ((m : Int) * 256) ||| BitVec.ofInt 64 (n : Int)).toNat : Int) = _
  have e1 : ((m : Int) * 256) = ((m * 256 : Nat) : Int) := by omega
  rw [e1, BitVec.toNat_or, BitVec.ofInt_natCast, BitVec.ofInt_natCast, BitVec.toNat_ofNat, BitVec.toNat_ofNat, Nat.mod_eq_of_lt (by omega), Nat.mod_eq_of_lt (by omega), hw]
  have := Nat.two_pow_add_eq_or_of_lt (i := 8) (b := n) (by omega) m
  rw [show m * 256 = 2 ^ 8 * m by omega, ← this]
  omega
theorem leZ_lt : ∀ {l : List Int}, Bytes l → 0 ≤ Lib.leZ l ∧ Lib.leZ l < 256 ^ l.length
  | [], _ => by simp [Lib.leZ]
  | x :: l, h => by
    have hx := h x List.mem_cons_self
    have ih := leZ_lt (l := l) (fun v hv => h v (List.mem_cons_of_mem _ hv))
    simp only [Lib.leZ, List.length_cons]
    have e : (256 : Int) ^ (l.length + 1) = 256 ^ l.length * 256 := Int.pow_succ _ _
    omega
/-- A byte of a number. -/
def byteI (n : Int) (i : Nat) : Int := (shr .u64 n (8 * (i : Int))) % 256
theorem ev_least (n : Int) (s : Nat) (hs : s ≤ 8) : Ev (fun k => spec_least.f k n (s : Int)) (strOfNums ((List.range s).map (byteI n))) := by
  have main : ∀ d i : Nat, ∀ xs : List Int, s - i = d → i ≤ s → xs.length = s → Ev (fun k => spec_least.l0 k n xs (s : Int) (i : Int)) (strOfNums (xs.take i ++ (List.range' i d).map (byteI n))) := by
    intro d
    induction d with
    | zero =>
      intro i xs hd hi hx
      obtain rfl : i = s := by omega
      refine Ev.step (f := fun _ => some (strOfNums xs)) (fun k => ?_) ?_
      · simp only [spec_least.l0]
        rw [if_neg (by omega)]
      · rw [List.take_of_length_le (by omega)]
        simpa using Ev.now _
    | succ d ih =>
      intro i xs hd hi hx
      have := ih (i + 1) (xs.set i (byteI n i)) (by omega) (by omega) (by simpa using hx)
      have e : (xs.set i (byteI n i)).take (i + 1) ++ (List.range' (i + 1) d).map (byteI n) = xs.take i ++ (List.range' i (d + 1)).map (byteI n) := by
        rw [List.take_succ_eq_append_getElem (by simp; omega), List.range'_succ]
        simp [List.take_set_of_le]
      rw [e] at this
      refine Ev.step (fun k => ?_) this
      simp only [spec_least.l0]
      have h8 : wrap64 (8 * (i : Int)) = 8 * (i : Int) := by unfold wrap64; omega
      have h1 : wrap64 ((i : Int) + 1) = ((i + 1 : Nat) : Int) := by unfold wrap64; omega
      rw [if_pos (by omega), h8, if_pos (by omega), if_pos (by omega), if_pos (by omega), h1, Int.toNat_natCast]
      rfl
  have h := main s 0 (List.replicate s 0) rfl (by omega) (by simp)
  rw [List.take_zero, List.nil_append, ← List.range_eq_range'] at h
  refine Ev.congr (fun k => ?_) h
  unfold spec_least.f
  rw [if_pos (by omega), Int.toNat_natCast, if_pos (by omega)]
  rfl
theorem byteI_range (n : Int) (i : Nat) : 0 ≤ byteI n i ∧ byteI n i < 256 := by unfold byteI; omega
/-- The bytes of a number. -/
def leB (n : Int) (s : Nat) : List Int := (List.range s).map (byteI n)
theorem leB_length (n : Int) (s : Nat) : (leB n s).length = s := by simp [leB]
theorem leB_bytes (n : Int) (s : Nat) : Bytes (leB n s) := by
  intro v hv
  simp only [leB, List.mem_map] at hv
  obtain ⟨i, _, rfl⟩ := hv
  exact byteI_range n i
theorem leB_leZ (n : Int) (h0 : 0 ≤ n) (h1 : n < 4294967296) : Lib.leZ (leB n 4) = n := by
  simp [leB, List.range, List.range.loop, byteI, shr, Lib.leZ, IntKind.bits]
  omega
end Go.Proofs.YtojdfjohmicopaaGreatDoor
namespace Go.Proofs.YtojdfjohmicopaaGreatDoor
open Go Go.RowKit Go.Proofs.YtojdfjohmicopaaGreatDoorW.PrintWords Go.Proofs.YtojdfjohmicopaaGreatDoor.Crc Go.Proofs.YtojdfjohmicopaaGreatDoor.PFnOggHurt

/-- How long texts are together. -/
def tot (l : List ByteArray) : Nat := (l.map ByteArray.size).sum
theorem tot_take (l : List ByteArray) (i : Nat) (h : i < l.length) : tot (l.take (i + 1)) = tot (l.take i) + (l[i]).size := by
  unfold tot; rw [List.take_succ_eq_append_getElem h, List.map_append, List.sum_append]; simp
theorem tot_le (l : List ByteArray) (i : Nat) : tot (l.take i) ≤ tot l := by
  have : tot l = tot (l.take i) + tot (l.drop i) := by
    unfold tot; rw [← List.sum_append, ← List.map_append, List.take_append_drop]
  omega
/-- The lengths of a part's segments. -/
def lens1 (n : Nat) : List Int := List.replicate (n / 255) 255 ++ [((n % 255 : Nat) : Int)]
def lensOf (l : List ByteArray) : List Int := l.flatMap fun s => lens1 s.size
theorem rdOf_at (l : List ByteArray) (i : Nat) (h : i < l.length) : rdOf ByteArray.empty l (i : Int) = l[i] := by
  unfold rdOf; rw [Int.toNat_natCast, List.getD_eq_getElem?_getD, List.getElem?_eq_getElem h]; rfl
theorem total_app (a b : List Int) : total (a ++ b) = total a + total b := by simp [total]
theorem total_rep (q : Nat) : total (List.replicate q 255) = 255 * q := by
  induction q with
  | zero => rfl
  | succ q ih => rw [List.replicate_succ]; simp only [total, List.map_cons, List.sum_cons] at *; omega
theorem bytes_rep (q : Nat) : Bytes (List.replicate q (255 : Int)) := by
  intro v hv; rw [List.mem_replicate] at hv; omega
theorem Bytes.app {a b : List Int} (ha : Bytes a) (hb : Bytes b) : Bytes (a ++ b) := by
  intro v hv; rcases List.mem_append.1 hv with h | h; exact ha v h; exact hb v h
theorem Bytes.one {v : Int} (h0 : 0 ≤ v) (h1 : v < 256) : Bytes [v] := by
  intro x hx; rw [List.mem_singleton] at hx; omega

section
variable (a0 a1 a2 a3 : Int) (l : List ByteArray) (m : Bool)
/-- The inner loop: whole segments. -/
theorem ev_l1 (i : Nat) (s : ByteArray) (r : Nat) (hr : r < 255) (R : List Int × Bool) : ∀ (q : Nat) (A : List Int), A.length + q < 140737488355328 → 255 * q + r < 4611686018427387904 →
    Ev (fun k => if (i : Int) = wrap64 ((l.length : Int) - 1) then spec_segments.j2 k (A ++ List.replicate q 255) s (r : Int) l (l.length : Int) (i : Int) m a0 a1 a2 a3 l m else spec_segments.j2 k (A ++ List.replicate q 255) s (r : Int) l (l.length : Int) (i : Int) false a0 a1 a2 a3 l m) R →
    Ev (fun k => spec_segments.l1 k A (i : Int) s ((255 * q + r : Nat) : Int) l (l.length : Int) (i : Int) a0 a1 a2 a3 l m) R
  | 0, A, _, _, h => by
    rw [List.replicate_zero, List.append_nil] at h
    refine Ev.step (fun k => ?_) h
    simp only [spec_segments.l1]
    rw [if_neg (by omega), Nat.mul_zero, Nat.zero_add]
  | q + 1, A, hA, hq, h => by
    have e : A ++ List.replicate (q + 1) (255 : Int) = (A ++ [255]) ++ List.replicate q 255 := by rw [List.replicate_succ]; simp
    rw [e] at h
    have := ev_l1 i s r hr R q (A ++ [255]) (by simp; omega) (by omega) h
    refine Ev.step (fun k => ?_) this
    simp only [spec_segments.l1]
    rw [if_pos (by omega), if_pos (by omega), show wrap64 (((255 * (q + 1) + r : Nat) : Int) - 255) = ((255 * q + r : Nat) : Int) by unfold wrap64; omega]
/-- What segments ends with. -/
def finSeg (A : List Int) : List Int × Bool := if (A.length : Int) ≤ 255 then (if m = true then (A, decide ((l.length : Int) > 0)) else (A, true)) else (A, false)
theorem finSeg_some (A : List Int) : (if (A.length : Int) ≤ 255 then (if m = true then some (A, decide ((l.length : Int) > 0)) else some (A, true)) else some (A, false)) = some (finSeg l m A) := by
  unfold finSeg
  by_cases h : (A.length : Int) ≤ 255
  · rw [if_pos h, if_pos h]; cases m <;> rfl
  · rw [if_neg h, if_neg h]
theorem finSeg_fst (A : List Int) : (finSeg l m A).1 = A := by
  unfold finSeg
  by_cases h : (A.length : Int) ≤ 255
  · rw [if_pos h]; cases m <;> rfl
  · rw [if_neg h]
theorem finSeg_snd (A : List Int) (h : (finSeg l m A).2 = true) : A.length ≤ 255 := by
  unfold finSeg at h
  by_cases h' : (A.length : Int) ≤ 255
  · omega
  · rw [if_neg h'] at h; cases h
theorem ev_seg (hl : l.length ≤ 1048576) (ht : tot l ≤ 1048576) : ∀ (d i : Nat) (A : List Int), l.length - i = d → i ≤ l.length → A.length ≤ tot (l.take i) + i → total A = tot (l.take i) → Bytes A →
    ∃ L ok, Ev (fun k => spec_segments.l0 k A l (l.length : Int) (i : Int) a0 a1 a2 a3 l m) (L, ok) ∧ (ok = true → L.length ≤ 255 ∧ total L = tot l ∧ Bytes L) ∧ (m = false → L = A ++ lensOf (l.drop i))
  | 0, i, A, hd, hi, hA, htA, hB => by
    obtain rfl : i = l.length := by omega
    rw [List.take_length] at htA
    refine ⟨(finSeg l m A).1, (finSeg l m A).2, ?_, ?_, ?_⟩
    · refine Ev.step (f := fun _ => some (finSeg l m A)) (fun k => ?_) (Ev.now _)
      simp only [spec_segments.l0]
      rw [if_neg (by omega)]
      exact finSeg_some l m A
    · intro hok
      rw [finSeg_fst]
      exact ⟨finSeg_snd l m A hok, htA, hB⟩
    · intro hm
      rw [List.drop_length, finSeg_fst]
      simp [lensOf]
  | d + 1, i, A, hd, hi, hA, htA, hB => by
    have hlt : i < l.length := by omega
    have htk := tot_take l i hlt
    have hle := tot_le l (i + 1)
    have hdr : l.drop i = l[i] :: l.drop (i + 1) := List.drop_eq_getElem_cons hlt
    generalize hs : l[i] = s at htk hdr
    have hn : s.size = 255 * (s.size / 255) + s.size % 255 := by omega
    have hr : s.size % 255 < 255 := Nat.mod_lt _ (by decide)
    have hbt : (s.size % 255 : Nat) < 256 := by omega
    have hB1 : Bytes (A ++ List.replicate (s.size / 255) 255) := hB.app (bytes_rep _)
    have hB2 : Bytes (A ++ List.replicate (s.size / 255) 255 ++ [((s.size % 255 : Nat) : Int)]) := hB1.app (Bytes.one (by omega) (by omega))
    have hT2 : total (A ++ List.replicate (s.size / 255) 255 ++ [((s.size % 255 : Nat) : Int)]) = tot (l.take (i + 1)) := by
      rw [total_app, total_app, total_rep, htA, htk]; simp [total]; omega
    have hq : s.size / 255 ≤ s.size := Nat.div_le_self _ _
    have enter : ∀ R, Ev (fun k => spec_segments.l1 k A (i : Int) s ((255 * (s.size / 255) + s.size % 255 : Nat) : Int) l (l.length : Int) (i : Int) a0 a1 a2 a3 l m) R → Ev (fun k => spec_segments.l0 k A l (l.length : Int) (i : Int) a0 a1 a2 a3 l m) R := fun R h => by
      refine Ev.step (fun k => ?_) h
      simp only [spec_segments.l0]
      rw [if_pos (by omega), if_pos (by omega), if_pos (by omega), rdOf_at l i hlt, hs, ← hn]
    by_cases hlast : (i : Int) = wrap64 ((l.length : Int) - 1) ∧ m = true
    · -- the last piece, which goes on
      by_cases h0 : s.size % 255 = 0
      · by_cases he : s.toList = ([] : List UInt8)
        · refine ⟨[], false, enter _ (ev_l1 a0 a1 a2 a3 l m i s _ hr _ _ A (by omega) (by omega) ?_), by simp, fun h => by rw [h] at hlast; simp at hlast⟩
          refine Ev.step (f := fun _ => some ([], false)) (fun k => ?_) (Ev.now _)
          rw [if_pos hlast.1, hlast.2]
          simp only [spec_segments.j2]
          rw [if_pos trivial, if_pos (by omega), if_pos he]
        · refine ⟨(finSeg l m (A ++ List.replicate (s.size / 255) 255)).1, (finSeg l m (A ++ List.replicate (s.size / 255) 255)).2, enter _ (ev_l1 a0 a1 a2 a3 l m i s _ hr _ _ A (by omega) (by omega) ?_), ?_, fun h => by rw [h] at hlast; simp at hlast⟩
          · refine Ev.step (f := fun _ => some (finSeg l m (A ++ List.replicate (s.size / 255) 255))) (fun k => ?_) (Ev.now _)
            rw [if_pos hlast.1]
            simp only [spec_segments.j2]
            rw [if_pos hlast.2, if_pos (by omega), if_neg he]
            exact finSeg_some l m _
          · intro hok
            have hil : i + 1 = l.length := by have := hlast.1; unfold wrap64 at this; omega
            have hTl : total (A ++ List.replicate (s.size / 255) 255) = tot l := by
              rw [hil, List.take_length] at htk
              rw [total_app, total_rep, htA, htk]; omega
            rw [finSeg_fst]
            exact ⟨finSeg_snd l m _ hok, hTl, hB1⟩
      · refine ⟨[], false, enter _ (ev_l1 a0 a1 a2 a3 l m i s _ hr _ _ A (by omega) (by omega) ?_), by simp, fun h => by rw [h] at hlast; simp at hlast⟩
        refine Ev.step (f := fun _ => some ([], false)) (fun k => ?_) (Ev.now _)
        rw [if_pos hlast.1, hlast.2]
        simp only [spec_segments.j2]
        rw [if_pos trivial, if_neg (by omega)]
    · obtain ⟨L, ok, hev, h1, h2⟩ := ev_seg hl ht d (i + 1) (A ++ List.replicate (s.size / 255) 255 ++ [((s.size % 255 : Nat) : Int)]) (by omega) (by omega) (by simp; omega) hT2 hB2
      refine ⟨L, ok, enter _ (ev_l1 a0 a1 a2 a3 l m i s _ hr _ _ A (by omega) (by omega) ?_), h1, fun h => ?_⟩
      · refine Ev.step (fun k => ?_) hev
        have hx : (if (i : Int) = wrap64 ((l.length : Int) - 1) then spec_segments.j2 (k + 1) (A ++ List.replicate (s.size / 255) 255) s ((s.size % 255 : Nat) : Int) l (l.length : Int) (i : Int) m a0 a1 a2 a3 l m else spec_segments.j2 (k + 1) (A ++ List.replicate (s.size / 255) 255) s ((s.size % 255 : Nat) : Int) l (l.length : Int) (i : Int) false a0 a1 a2 a3 l m) = spec_segments.j2 (k + 1) (A ++ List.replicate (s.size / 255) 255) s ((s.size % 255 : Nat) : Int) l (l.length : Int) (i : Int) false a0 a1 a2 a3 l m := by
          by_cases hi' : (i : Int) = wrap64 ((l.length : Int) - 1)
          · have hm : m = false := by
              cases m
              · rfl
              · exact absurd ⟨hi', rfl⟩ hlast
            rw [if_pos hi', hm]
          · rw [if_neg hi']
        rw [hx]
        simp only [spec_segments.j2]
        rw [if_neg (by simp), if_pos (by simp; omega), show wrap64 ((i : Int) + 1) = ((i + 1 : Nat) : Int) by unfold wrap64; omega, show ((s.size % 255 : Nat) : Int) % 256 = ((s.size % 255 : Nat) : Int) by omega]
      · rw [h2 h, hdr]
        simp [lensOf, lens1]
theorem ev_segments (hl : l.length ≤ 1048576) (ht : tot l ≤ 1048576) : ∃ L ok, Ev (fun k => spec_segments.f k a0 a1 a2 a3 l m) (L, ok) ∧ (ok = true → L.length ≤ 255 ∧ total L = tot l ∧ Bytes L) ∧ (m = false → L = lensOf l) := by
  obtain ⟨L, ok, h, h1, h2⟩ := ev_seg a0 a1 a2 a3 l m hl ht l.length 0 [] (by omega) (by omega) (by simp) rfl (fun v hv => by simp at hv)
  exact ⟨L, ok, h, h1, fun h => by simpa using h2 h⟩
end
end Go.Proofs.YtojdfjohmicopaaGreatDoor
