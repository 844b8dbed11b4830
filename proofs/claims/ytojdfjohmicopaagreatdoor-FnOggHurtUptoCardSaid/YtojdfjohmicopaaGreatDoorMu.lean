/- A contract of spec.TagsWrite at what spec.HeadWrite hands it. No condition. A contract of spec.HeadWrite: what it writes are two pages, a head's packet alone on the first. Conditions: spec.headText's contract. A contract of laws.stream: a head's pages, and pages of data. Conditions: spec.headText's contract; bounded sizes. The hurt stream's pages. Plain. Conditions: the head's pages, the data's pages, the place that is hurt. -/
import Derived.Test.YtojdfjohmicopaaGreatDoorMn
import Derived.Test.YtojdfjohmicopaaGreatDoorMp
import Derived.Test.YtojdfjohmicopaaGreatDoorMl
import Derived.Test.YtojdfjohmicopaaGreatDoorMq
namespace Go.Proofs.YtojdfjohmicopaaGreatDoor
open Go Go.RowKit Go.Proofs.YtojdfjohmicopaaGreatDoorW.PrintWords Go.Proofs.YtojdfjohmicopaaGreatDoor.Crc Go.Proofs.YtojdfjohmicopaaGreatDoor.PFnOggHurt

theorem least4_any (n : Int) (w : World) : Calls Tryz.prog 64 #[.int .u64 n, .int .i64 4] w fun e w' => ∃ t, e = .returned (.string t) ∧ t.size = 4 ∧ Below w.heap.size w w' := by
  refine (least_any n 4 (by omega) w).mono ?_
  rintro e w' ⟨⟨t, rfl, ht⟩, hb⟩
  exact ⟨t, rfl, ht, hb⟩
set_option maxRecDepth 100000 in
set_option maxHeartbeats 4000000 in
theorem tags_any (w : World) : Calls Tryz.prog 29 #[.string ⟨#[99, 97, 114, 114, 111, 110, 97, 100, 101]⟩, .slice none 0 0] w fun e w' => (∃ s, e = .returned (.string s) ∧ s.size = 25) ∧ Below w.heap.size w w' := by
  have s0 : (⟨#[99, 97, 114, 114, 111, 110, 97, 100, 101]⟩ : ByteArray).size = 9 := rfl
  have s1 : (⟨#[79, 112, 117, 115, 84, 97, 103, 115]⟩ : ByteArray).size = 8 := rfl
  go_enter Tryz.func29, Tryz.ntmps29
  go_wp2_with fail
  refine (least4_any _ _).mono ?_
  rintro e w1 ⟨t1, rfl, h1, hb1⟩
  have HB1 := Lib.hid hb1
  clear hb1
  go_wp2_with fail
  refine (least4_any _ _).mono ?_
  rintro e w2 ⟨t2, rfl, h2, hb2⟩
  have HB2 := Lib.hid (HB1.out.trans (hb2.mono HB1.out.size))
  clear hb2
  go_wp2_with fail
  refine wp_loop_rounds 1 ?_
  rw [rounds_succ]
  go_wp2_with fail
  go_ret
  exact ⟨⟨_, rfl, by simp only [ByteArray.size_append, s0, s1, h1, h2]⟩, HB2.out⟩
end Go.Proofs.YtojdfjohmicopaaGreatDoor
namespace Go.Proofs.YtojdfjohmicopaaGreatDoor
open Go Go.RowKit Go.Proofs.YtojdfjohmicopaaGreatDoorW.PrintWords Go.Proofs.YtojdfjohmicopaaGreatDoor.Crc Go.Proofs.YtojdfjohmicopaaGreatDoor.PFnOggHurt

theorem one_str (W : World) (g : Nat) (s : ByteArray) (h : Blk W g 9 #[.string s]) : Kd.string.C W (some ⟨g, 0, none⟩) 1 [s] := by
  refine ⟨rfl, by decide, fun _ => ⟨_, rfl, fun j p hj => ⟨[.string p], rfl, rfl, fun i u hi => ?_⟩⟩⟩
  cases j with
  | succ j => simp at hj
  | zero =>
    simp at hj
    subst hj
    cases i with
    | succ i => simp at hi
    | zero =>
      simp at hi
      subst hi
      rw [Go.WideShapes.add_plain]
      simpa using h.cell 0
def pg0 (s : ByteArray) : S47 := ⟨1, 0, 0, 2, [s], false⟩
def pg1 (t : ByteArray) : S47 := ⟨1, 1, 0, 0, [t], false⟩
theorem two_pages (W : World) (g g1 g2 : Nat) (s t : ByteArray) (h1 : Blk W g1 9 #[.string s]) (h2 : Blk W g2 9 #[.string t])
    (hg : Blk W g 47 #[.int .u32 1, .int .u32 0, .int .u64 0, .int .i64 2, .slice (some ⟨g1, 0, none⟩) 1 1, .bool false, .int .u32 1, .int .u32 1, .int .u64 0, .int .i64 0, .slice (some ⟨g2, 0, none⟩) 1 1, .bool false]) :
    Kd.C k47 W (some ⟨g, 0, none⟩) 2 [pg0 s, pg1 t] := by
  have k0 := k47_mk W (pg0 s) (A4 := some ⟨g1, 0, none⟩) (c4 := 1) (Nat.le_refl _) (one_str W g1 s h1)
  have k1 := k47_mk W (pg1 t) (A4 := some ⟨g2, 0, none⟩) (c4 := 1) (Nat.le_refl _) (one_str W g2 t h2)
  refine ⟨rfl, by decide, fun _ => ⟨_, rfl, fun j p hj => ?_⟩⟩
  match j, hj with
  | 0, hj =>
    simp at hj; subst hj
    refine ⟨_, rfl, k0, fun i u hi => ?_⟩
    rw [Go.WideShapes.add_plain, show 0 * k47.sz + i = i from by show 0 * 6 + i = i; omega, Nat.zero_add, hg.cell i]
    match i, hi with
    | 0, hi => exact hi
    | 1, hi => exact hi
    | 2, hi => exact hi
    | 3, hi => exact hi
    | 4, hi => exact hi
    | 5, hi => exact hi
  | 1, hj =>
    simp at hj; subst hj
    refine ⟨_, rfl, k1, fun i u hi => ?_⟩
    rw [Go.WideShapes.add_plain, show 1 * k47.sz + i = 6 + i from by show 1 * 6 + i = 6 + i; omega, Nat.zero_add, hg.cell (6 + i)]
    match i, hi with
    | 0, hi => exact hi
    | 1, hi => exact hi
    | 2, hi => exact hi
    | 3, hi => exact hi
    | 4, hi => exact hi
    | 5, hi => exact hi
/-- The pages of a stream's head. -/
structure HeadPgs (Z : List Int) (H T : Pg) (K : List Int) : Prop where
  z : Z = H.bytes ++ T.bytes
  h : Good H
  t : Good T
  k : HeadPk K
  a : H.A = headB 2 0 1 0
  l : H.L = lens1 K.length
  b : H.B = K
theorem headB_sig (f g s q : Int) : (headB f g s q).take 5 = sig5 := rfl
theorem head_pgs {s t : ByteArray} {r : ByteArray} (hs : s.size ≤ 300) (ht : t.size = 25) (hk : HeadPk (bytesOf s)) {ps : List Pg} (hw : Written [pg0 s, pg1 t] ps) (hr : r = strOfNums (flat ps)) : ∃ H T, HeadPgs (bytesOf r) H T (bytesOf s) ∧ r.size ≤ 10000 := by
  obtain ⟨H, hH, L0, e0, f0, o0, l0⟩ := hw.2 0 (pg0 s) rfl
  obtain ⟨T, hT, L1, e1, f1, o1, l1⟩ := hw.2 1 (pg1 t) rfl
  have hl : ps.length = 2 := hw.1
  obtain ⟨P, Q, rfl⟩ : ∃ P Q, ps = [P, Q] := by
    match ps, hl with
    | [P, Q], _ => exact ⟨P, Q, rfl⟩
  simp at hH hT
  subst hH hT
  have hb : bytesOf r = P.bytes ++ Q.bytes := by
    rw [hr, bytesOf_str]
    · simp [flat]
    · exact flat_bytes fun R hR => by rcases List.mem_cons.1 hR with rfl | h; exact f0; rw [List.mem_singleton] at h; subst h; exact f1
  have eB : P.B = bytesOf s := by rw [e0]; simp [pgOf, pg0, joinI]
  have eL : P.L = lens1 (bytesOf s).length := by
    have : P.L = L0 := by rw [e0]; rfl
    rw [this, l0 rfl, bytesOf_length]; simp [pg0, lensOf]
  refine ⟨P, Q, ⟨hb, ⟨f0, o0, by rw [e0]; rfl⟩, ⟨f1, o1, by rw [e1]; rfl⟩, hk, by rw [e0]; rfl, eL, eB⟩, ?_⟩
  have h1 := f0.len
  have h2 := f1.len
  have h3 := f0.l
  have h4 := f1.l
  have h5 := f0.b
  have h6 := f1.b
  rw [eB, bytesOf_length] at h5
  have h7 : Q.B.length = 25 := by rw [e1]; simp [pgOf, pg1, joinI, bytesOf_length, ht]
  have := bytesOf_length r
  rw [hb, List.length_append] at this
  omega
/-- What HeadWrite gives. -/
def HWPost (w : World) (e : Ending) (w' : World) : Prop := ∃ r c, e = .returned (.tuple #[.string r, .int .i64 c]) ∧ (c = 1 ∨ c = 2) ∧ r.size ≤ 4398046511104 ∧ (c = 1 → ∃ H T K, HeadPgs (bytesOf r) H T K ∧ r.size ≤ 10000) ∧ Below w.heap.size w w'
set_option maxRecDepth 100000 in
set_option maxHeartbeats 4000000 in
theorem hwrite_any (v0 v1 v2 v3 v4 v5 v6 v7 v8 v9 : Value) (o0 : v0.oneCell' = true) (hh : ∀ w, Calls Tryz.prog 28 #[.agg #[v0, v1, v2, v3, v4, v5, v6, v7, v8, v9]] w (HeadPost w)) (w : World)
    (hk : ∃ a b c d e f g h i j k m, v0 = .int .i64 a ∧ v1 = .int .i64 b ∧ v2 = .int .i64 c ∧ v3 = .int .i64 d ∧ v4 = .int .i64 e ∧ v5 = .int .u32 f ∧ v6 = .int .i64 g ∧ v7 = .int .i64 h ∧ v8 = .string i ∧ v9 = .slice j k m) :
    Calls Tryz.prog 14 #[.agg #[v0, v1, v2, v3, v4, v5, v6, v7, v8, v9]] w (HWPost w) := by
  obtain ⟨a, b, c, d, e, f, g, h, i, j, k, m, rfl, rfl, rfl, rfl, rfl, rfl, rfl, rfl, rfl, rfl⟩ := hk
  have HH := Lib.hid hh
  clear hh
  go_enter Tryz.func14, Tryz.ntmps14
  go_wp2_with fail
  refine (HH.out _).mono ?_
  rintro e1 w1 ⟨s, c1, rfl, hc1, hk1, hs1, hb1⟩
  have hb0 := ((Below.refl w.heap.size w).alloc (Nat.le_refl _) (.cells #[.int .i64 a, .int .i64 b, .int .i64 c, .int .i64 d, .int .i64 e, .int .u32 f, .int .i64 g, .int .i64 h, .string i, .slice j k m] 25)).trans (hb1.mono (by simp))
  have HB1 := Lib.hid hb0; have HK1 := Lib.hid hk1
  have hw1 : w.heap.size ≤ w1.heap.size := hb0.size
  clear hb0 hb1 hk1
  rcases hc1 with rfl | rfl
  · go_wp2_with fail
    have hG1 := Blk.new w1 9 #[.string s]
    have hb2 := HB1.out.alloc hw1 (.cells #[.string s] 9)
    have HG1 := Lib.hid hG1; have HB2 := Lib.hid hb2
    have hw2 : w1.heap.size < (w1.alloc (.cells #[.string s] 9)).heap.size := hG1.lt
    clear hG1 hb2
    generalize w1.alloc (.cells #[.string s] 9) = w2 at HG1 HB2 hw2 ⊢
    generalize hg1 : w1.heap.size = g1 at HG1 hw1 hw2 ⊢
    refine (tags_any _).mono ?_
    rintro e2 w3 ⟨⟨t, rfl, ht⟩, hb3⟩
    have HG3 := Lib.hid (HG1.out.below hb3 hw2)
    have HB3 := Lib.hid (HB2.out.trans (hb3.mono (by omega)))
    have hw3 : w2.heap.size ≤ w3.heap.size := hb3.size
    have HT := Lib.hid ht
    clear hb3 HG1 HB2 ht hg1
    go_wp2_with fail
    have hb5 := (HB3.out.alloc (by omega) (.cells #[.string t] 9)).alloc (by simp; omega) (.cells #[.int .u32 1, .int .u32 0, .int .u64 0, .int .i64 2, .slice (some ⟨g1, 0, none⟩) 1 1, .bool false, .int .u32 1, .int .u32 1, .int .u64 0, .int .i64 0, .slice (some ⟨w3.heap.size, 0, none⟩) 1 1, .bool false] 47)
    have hC := two_pages ((w3.alloc (.cells #[.string t] 9)).alloc (.cells #[.int .u32 1, .int .u32 0, .int .u64 0, .int .i64 2, .slice (some ⟨g1, 0, none⟩) 1 1, .bool false, .int .u32 1, .int .u32 1, .int .u64 0, .int .i64 0, .slice (some ⟨w3.heap.size, 0, none⟩) 1 1, .bool false] 47)) (w3.heap.size + 1) g1 w3.heap.size s t ((HG3.out.alloc _).alloc _) ((Blk.new w3 _ _).alloc _) (Blk.new' (by simp))
    have hsz : Sized [pg0 s, pg1 t] := ⟨by simp, fun p hp => by
      rcases List.mem_cons.1 hp with rfl | hp
      · exact ⟨by simp [pg0], by simp [pg0, tot]; omega⟩
      · rw [List.mem_singleton] at hp
        subst hp
        exact ⟨by simp [pg1], by simp [pg1, tot]; have := HT.out; omega⟩⟩
    have HW := Lib.hid (write_any _ _ 2 [pg0 s, pg1 t] hsz hC)
    have HB5 := Lib.hid hb5
    have hw5 : w.heap.size ≤ ((w3.alloc (.cells #[.string t] 9)).alloc (.cells #[.int .u32 1, .int .u32 0, .int .u64 0, .int .i64 2, .slice (some ⟨g1, 0, none⟩) 1 1, .bool false, .int .u32 1, .int .u32 1, .int .u64 0, .int .i64 0, .slice (some ⟨w3.heap.size, 0, none⟩) 1 1, .bool false] 47)).heap.size := hb5.size
    clear hb5 hC hsz
    generalize (w3.alloc (.cells #[.string t] 9)).alloc (.cells #[.int .u32 1, .int .u32 0, .int .u64 0, .int .i64 2, .slice (some ⟨g1, 0, none⟩) 1 1, .bool false, .int .u32 1, .int .u32 1, .int .u64 0, .int .i64 0, .slice (some ⟨w3.heap.size, 0, none⟩) 1 1, .bool false] 47) = w5 at HW HB5 hw5 ⊢
    refine HW.out.mono ?_
    rintro e5 w6 ⟨r, c, rfl, hc, hrs, hw, hb6⟩
    have HB6 := Lib.hid (HB5.out.trans (hb6.mono hw5))
    have HWR := Lib.hid hw
    clear hb6 HW hw
    go_wp2_with fail
    go_ret2
    refine ⟨r, c, rfl, hc, by omega, fun h => ?_, HB6.out⟩
    obtain ⟨ps, h1, h2⟩ := HWR.out h
    obtain ⟨H, T, h3, h4⟩ := head_pgs hs1 HT.out (HK1.out trivial) h1 h2
    exact ⟨H, T, _, h3, h4⟩
  · go_wp2_with fail
    go_ret2
    exact ⟨_, 2, rfl, .inr rfl, by simp [ByteArray.size], fun h => by omega, HB1.out⟩
end Go.Proofs.YtojdfjohmicopaaGreatDoor
namespace Go.Proofs.YtojdfjohmicopaaGreatDoor
open Go Go.RowKit Go.Proofs.YtojdfjohmicopaaGreatDoorW.PrintWords Go.Proofs.YtojdfjohmicopaaGreatDoor.Crc Go.Proofs.YtojdfjohmicopaaGreatDoor.PFnOggHurt

/-- What stream gives. -/
def StreamPost (l : List S47) (w : World) (e : Ending) (w' : World) : Prop := ∃ r t ok, e = .returned (.tuple #[.string r, .string t, .bool ok]) ∧
  (ok = true → (∃ H T K, HeadPgs (bytesOf r) H T K) ∧ r.size ≤ 10000 ∧ (∃ ps, Written l ps ∧ t = strOfNums (flat ps)) ∧ l.length ≤ 20 ∧ t.size ≤ 20000) ∧ Below w.heap.size w w'
set_option maxRecDepth 100000 in
set_option maxHeartbeats 8000000 in
theorem stream_any (a b c d e : Int) (f : Int) (g h : Int) (i : ByteArray) (j : Option Addr) (k m : Nat) (hh : ∀ w, Calls Tryz.prog 28 #[.agg #[.int .i64 a, .int .i64 b, .int .i64 c, .int .i64 d, .int .i64 e, .int .u32 f, .int .i64 g, .int .i64 h, .string i, .slice j k m]] w (HeadPost w))
    (w : World) (A : Option Addr) (cA : Nat) (l : List S47) (hs : Sized l) (hC : Kd.C k47 w A l.length l) (hc : l.length ≤ cA) :
    Calls Tryz.prog 6 #[.agg #[.int .i64 a, .int .i64 b, .int .i64 c, .int .i64 d, .int .i64 e, .int .u32 f, .int .i64 g, .int .i64 h, .string i, .slice j k m], .slice A l.length cA] w (StreamPost l w) := by
  have HH := Lib.hid (fun w => hwrite_any _ _ _ _ _ _ _ _ _ _ rfl hh w ⟨_, _, _, _, _, _, _, _, _, _, _, _, rfl, rfl, rfl, rfl, rfl, rfl, rfl, rfl, rfl, rfl⟩)
  have HC := Lib.hid hC; have HS := Lib.hid hs
  have hn := hs.n
  clear hh hC hs
  go_enter Tryz.func6, Tryz.ntmps6
  go_wp2_with fail
  have hB0 := Blk.new w 25 #[.int .i64 a, .int .i64 b, .int .i64 c, .int .i64 d, .int .i64 e, .int .u32 f, .int .i64 g, .int .i64 h, .string i, .slice j k m]
  have hb0 := (Below.refl w.heap.size w).alloc (Nat.le_refl _) (.cells #[.int .i64 a, .int .i64 b, .int .i64 c, .int .i64 d, .int .i64 e, .int .u32 f, .int .i64 g, .int .i64 h, .string i, .slice j k m] 25)
  have HB0 := Lib.hid hB0; have Hb0 := Lib.hid hb0
  clear hB0 hb0
  generalize w.alloc (.cells #[.int .i64 a, .int .i64 b, .int .i64 c, .int .i64 d, .int .i64 e, .int .u32 f, .int .i64 g, .int .i64 h, .string i, .slice j k m] 25) = w0 at HB0 Hb0 ⊢
  go_loopw [13] (fun i' wr => ∃ n : Nat, n ≤ l.length ∧ i' = .int .i64 n ∧ Hid (Below w.heap.size w wr) ∧ Hid (Blk wr w.heap.size 25 #[.int .i64 a, .int .i64 b, .int .i64 c, .int .i64 d, .int .i64 e, .int .u32 f, .int .i64 g, .int .i64 h, .string i, .slice j k m])) (fun i' _ => l.length - (intOf i').toNat)
  case atStart => exact ⟨0, by omega, rfl, Hb0, HB0⟩
  case round =>
    obtain ⟨n, hnl, rfl, Hb, HB⟩ := hrel
    clear Hb0 HB0
    have hwr : w.heap.size < wr.heap.size := HB.out.lt
    by_cases hlt : n < l.length
    · obtain ⟨ad, A4, c4, rfl, h0, h1, h2, h3, h4, h5, -, -⟩ := at_T47 (Kd.C_below HC.out Hb.out) (n : Int) (by omega) (by omega)
      rw [Int.toNat_natCast] at h0 h1 h2 h3 h4 h5
      generalize rd_T47 l (n : Int) = p at h0 h1 h2 h3 h4 h5
      generalize p.f4.length = n4 at h4
      go_wp2_with fail
      · go_ret3
        exact ⟨_, _, false, rfl, fun h => by simp at h, Hb.out.alloc (Nat.le_of_lt hwr) _⟩
      · refine ⟨⟨n + 1, by omega, by rw [Int.natCast_add]; rfl, Lib.hid (Hb.out.alloc (Nat.le_of_lt hwr) _), Lib.hid (HB.out.alloc _)⟩, ?_⟩
        show l.length - ((n : Int) + 1).toNat < l.length - (n : Int).toNat
        omega
    · obtain rfl : n = l.length := by omega
      obtain ⟨b0, b1, b2, b3, b4, b5, b6, b7, b8, b9⟩ := HB.out.ten
      go_wp2_with fail
      refine (HH.out _).mono ?_
      rintro e1 w1 ⟨r, c1, rfl, hc1, hrs, hr, hb1⟩
      have HB1 := Lib.hid (Hb.out.trans (hb1.mono (by omega)))
      have HR := Lib.hid hr
      have hHW := write_any w1 A cA l HS.out (Kd.C_below HC.out HB1.out)
      have HHW := Lib.hid hHW
      have hw1 : w.heap.size ≤ w1.heap.size := HB1.out.size
      clear hb1 hr hHW b0 b1 b2 b3 b4 b5 b6 b7 b8 b9
      go_wp2_with fail
      refine HHW.out.mono ?_
      rintro e2 w2 ⟨t, c2, rfl, hc2, hts, hw, hb2⟩
      have HB2 := Lib.hid (HB1.out.trans (hb2.mono hw1))
      have HW := Lib.hid hw
      clear hw hb2 HHW
      by_cases h20 : l.length ≤ 20
      · by_cases h2k : t.size ≤ 20000
        · rcases hc1 with rfl | rfl
          all_goals rcases hc2 with rfl | rfl
          all_goals go_wp2_with fail
          all_goals go_ret3
          · refine ⟨r, t, _, rfl, fun _ => ?_, HB2.out⟩
            obtain ⟨H, T, K, hp, hsz⟩ := HR.out trivial
            exact ⟨⟨H, T, K, hp⟩, hsz, HW.out trivial, h20, h2k⟩
          · exact ⟨r, t, _, rfl, fun h => by simp at h, HB2.out⟩
          · exact ⟨r, t, _, rfl, fun h => by simp at h, HB2.out⟩
          · exact ⟨r, t, _, rfl, fun h => by simp at h, HB2.out⟩
        · rcases hc1 with rfl | rfl
          all_goals rcases hc2 with rfl | rfl
          all_goals go_wp2_with fail
          all_goals go_ret3
          all_goals exact ⟨r, t, _, rfl, fun h => by simp at h <;> omega, HB2.out⟩
      · rcases hc1 with rfl | rfl
        all_goals rcases hc2 with rfl | rfl
        all_goals go_wp2_with fail
        all_goals go_ret3
        all_goals exact ⟨r, t, _, rfl, fun h => by simp at h <;> omega, HB2.out⟩
end Go.Proofs.YtojdfjohmicopaaGreatDoor
namespace Go.Proofs.YtojdfjohmicopaaGreatDoor
open Go Go.RowKit Go.Proofs.YtojdfjohmicopaaGreatDoorW.PrintWords Go.Proofs.YtojdfjohmicopaaGreatDoor.Crc Go.Proofs.YtojdfjohmicopaaGreatDoor.PFnOggHurt

theorem onePk_lens (n : Nat) (h : n ≤ 300) : OnePk (lens1 n) := by
  have hl : (lens1 n).length = n / 255 + 1 := by simp [lens1]
  have hlr : (List.replicate (n / 255) (255 : Int)).length = n / 255 := by simp
  refine ⟨(bytes_rep _).app (Bytes.one (by omega) (by omega)), by omega, by omega, fun j hj => ?_, ?_⟩
  · rw [hl] at hj
    simp only [lens1, List.getD_eq_getElem?_getD]
    rw [List.getElem?_append_left (by omega), List.getElem?_replicate, if_pos (by omega)]; rfl
  · rw [hl, Nat.add_sub_cancel]
    simp only [lens1, List.getD_eq_getElem?_getD]
    rw [List.getElem?_append_right (by omega), hlr, Nat.sub_self]
    simp; omega
theorem firstPg_of {H : Pg} {K rest : List Int} (hf : H.Fit) (hok : H.ok) (hk : HeadPk K) (ha : H.A = headB 2 0 1 0) (hl : H.L = lens1 K.length) (hb : H.B = K) : FirstPg (H.bytes ++ rest) 0 H.L.length K := by
  have c := pg_count hf [] rest
  have hd := pg_head hf [] rest
  have ln := pg_lens hf [] rest
  have bd := pg_bodies hf [] rest
  have ok := pg_ok hf [] rest
  have tt := hf.tot [] rest
  simp only [List.nil_append, List.length_nil] at c hd ln bd ok tt
  have hll := hf.l
  have one := onePk_lens K.length hk.len
  refine ⟨c, by omega, tt, ok.2 hok, ?_, ?_, ?_, hk, ?_, ?_, ?_, ?_⟩
  · rw [hd, ha]; rfl
  · rw [ln, hl]; exact one
  · rw [ln, bd, bods_flatten _ _ hf.b.symm, hb]
  · rw [hd, ha]; rfl
  · rw [hd, ha]; rfl
  · rw [hd, ha]; rfl
  · rw [hd, ha]; rfl
theorem xor_ne {a b : Nat} (hb : b ≠ 0) : a ^^^ b ≠ a := by
  intro h
  apply hb
  have := congrArg (fun x => a ^^^ x) h
  simpa [← Nat.xor_assoc] using this
theorem xorb (a b : Int) (ha : 0 ≤ a ∧ a < 256) (hb : 0 ≤ b ∧ b < 256) (hb0 : b ≠ 0) : ∃ v, bits .xor .u8 a b = v ∧ 0 ≤ v ∧ v < 256 ∧ v ≠ a := by
  obtain ⟨m, rfl⟩ := Int.eq_ofNat_of_zero_le ha.1
  obtain ⟨n, rfl⟩ := Int.eq_ofNat_of_zero_le hb.1
  have h := xor8 m n (by omega) (by omega)
  have hx : m ^^^ n < 2 ^ 8 := Nat.xor_lt_two_pow (by omega) (by omega)
  refine ⟨_, h, by omega, by omega, fun e => ?_⟩
  exact xor_ne (a := m) (b := n) (by omega) (by omega)
/-- What the hurt stream is. -/
structure Hurt (b : ByteArray) (H Q : Pg) (ms : List Pg) (rest : List Int) (K : List Int) : Prop where
  z : bytesOf b = H.bytes ++ (flat ms ++ (Q.bytes ++ rest))
  h : Good H
  q : Q.Fit
  n : ¬ Q.ok
  m : ∀ P ∈ ms, Good P
  f : FirstPg (bytesOf b) 0 H.L.length K
  l : ms.length ≤ 100
  s : b.size ≤ 1000000
theorem Written.good {l : List S47} {ps : List Pg} (h : Written l ps) : ∀ P ∈ ps, Good P := by
  intro P hP
  obtain ⟨j, hj, rfl⟩ := List.getElem_of_mem hP
  have hjl : j < l.length := by rw [← h.1]; exact hj
  obtain ⟨P', h1, L, h2, h3, h4, _⟩ := h.2 j _ (List.getElem?_eq_getElem hjl)
  rw [List.getElem?_eq_getElem hj] at h1
  injection h1 with h1
  rw [h1]
  exact ⟨h3, h4, by rw [h2]; rfl⟩
theorem hurt_of {r : ByteArray} {H T : Pg} {K : List Int} (hp : HeadPgs (bytesOf r) H T K) (hr : r.size ≤ 10000) {l : List S47} {ps : List Pg} (hw : Written l ps) (hl : l.length ≤ 20) {t : ByteArray} (ht : t = strOfNums (flat ps)) (hts : t.size ≤ 20000)
    (k : Nat) (hk : k < t.size) (ho : Out 0 ps k) {v : Int} (hv : 0 ≤ v ∧ v < 256) (hne : v ≠ (bytesOf t).getD k 0) : ∃ Q ms rest, Hurt (r ++ strOfNums ((bytesOf t).set k v)) H Q ms rest K := by
  have hgood := hw.good
  have hfb : Bytes (flat ps) := flat_bytes fun P hP => (hgood P hP).1
  have hbt : bytesOf t = flat ps := by rw [ht, bytesOf_str hfb]
  have hkl : k < (flat ps).length := by rw [← hbt, bytesOf_length]; exact hk
  rw [hbt] at hne ⊢
  obtain ⟨l1, P, l2, Q, e, es, hf, hn⟩ := hurt_in ps (fun P hP => ⟨(hgood P hP).1, (hgood P hP).2.1⟩) k hkl hv hne (fun l1 P l2 e h1 h2 => by
    have := ho l1 P l2 e (by omega) (by omega)
    omega)
  have hbs : Bytes ((flat ps).set k v) := hfb.set k hv
  have hz : bytesOf (r ++ strOfNums ((flat ps).set k v)) = H.bytes ++ (flat (T :: l1) ++ (Q.bytes ++ flat l2)) := by
    rw [bytesOf_append, bytesOf_str hbs, hp.z, es, flat_cons]; simp
  have hll : ps.length = l.length := hw.1
  have hl1 : l1.length ≤ ps.length := by rw [e]; simp
  refine ⟨Q, T :: l1, flat l2, ⟨hz, hp.h, hf, hn, fun R hR => ?_, ?_, by simp; omega, ?_⟩⟩
  · rcases List.mem_cons.1 hR with rfl | hR
    · exact hp.t
    · exact hgood R (by rw [e]; exact List.mem_append_left _ hR)
  · rw [hz]; exact firstPg_of hp.h.1 hp.h.2.1 hp.k hp.a hp.l hp.b
  · rw [size_ba, strOfNums_size, List.length_set, ← hbt, bytesOf_length]; omega
end Go.Proofs.YtojdfjohmicopaaGreatDoor
