/- A contract of spec.OggRead over whole pages, one of which is hurt: those ahead of it are read. Conditions: the pages fit, bounded sizes. A contract of laws.laced: it tells a page's segments again. Conditions: the parts are the segments put together, bounded sizes. A contract of laws.behind over a stream's pages, one of which is hurt: the segments and the positions of those behind the first one and ahead of it. Conditions: the pages fit, bounded sizes. -/
import Derived.Test.YtojdfjohmicopaaGreatDoorMr
import Derived.Test.YtojdfjohmicopaaGreatDoorMl
import Derived.Test.YtojdfjohmicopaaGreatDoorMo
namespace Go.Proofs.YtojdfjohmicopaaGreatDoor
open Go Go.RowKit Go.Proofs.YtojdfjohmicopaaGreatDoorW.PrintWords Go.Proofs.YtojdfjohmicopaaGreatDoor.Crc Go.Proofs.YtojdfjohmicopaaGreatDoor.PFnOggHurt

theorem info_pg : (Tryz.prog.info? 47).map (fun i => (i.zero, i.size, i.bytes)) = some (some (.agg #[.int .u32 0, .int .u32 0, .int .u64 0, .int .i64 0, .slice none 0 0, .bool false]), 6, 56) := by kernel_rfl
/-- What OggRead gives. -/
def OrPost (ps : List Pg) (w : World) (e : Ending) (w' : World) : Prop := ∃ (v : Value) (l : List S47), e = .returned (.tuple #[v, .bool false]) ∧ k47.R 47 w' w.heap.size (fun j => w.heap.size ≤ j) v l ∧ l.length = ps.length ∧ (∀ (i : Nat) (P : Pg), ps[i]? = some P → ∃ p, l[i]? = some p ∧ ReadAs P p) ∧ Below w.heap.size w w'
theorem ne_empty {b : ByteArray} (h : 0 < b.size) : (b.toList.isEmpty) = false := by
  have e : b.toList.length = b.size := by rw [ByteArray.toList_eq, data_length]
  cases hl : b.toList with
  | nil => rw [hl] at e; simp at e; omega
  | cons x y => rfl
set_option maxRecDepth 100000 in
set_option maxHeartbeats 4000000 in
theorem oggRead_any (ps : List Pg) (Q : Pg) (rest : List Int) (b : ByteArray) (hps : ∀ P ∈ ps, Good P) (hQ : Q.Fit) (hno : ¬ Q.ok) (hZ : bytesOf b = flat ps ++ (Q.bytes ++ rest)) (hb : b.size ≤ 1000000000) (hn : ps.length ≤ 1000000) (w : World) :
    Calls Tryz.prog 16 #[.string b] w (OrPost ps w) := by
  have HPS := Lib.hid hps; have HQ := Lib.hid hQ; have HNO := Lib.hid hno; have HZ := Lib.hid hZ
  clear hps hQ hno hZ
  go_enter Tryz.func16, Tryz.ntmps16
  go_wp2_with fail
  go_loopw [0, 2] (fun v0 v2 wr => ∃ (k : Nat) (x : ByteArray) (l : List S47) (v : Value), k ≤ ps.length ∧ v0 = .string x ∧ v = v2 ∧ x.size ≤ b.size ∧ l.length = k ∧ Hid (bytesOf x = flat (ps.drop k) ++ (Q.bytes ++ rest)) ∧ Hid (∀ (i : Nat) (P : Pg), (ps.take k)[i]? = some P → ∃ p, l[i]? = some p ∧ ReadAs P p) ∧ Hid (Below w.heap.size w wr) ∧ Hid (k47.R 47 wr w.heap.size (fun j => w.heap.size ≤ j) v l)) (fun v0 _ _ => match v0 with | .string x => x.size | _ => 0)
  case atStart => exact ⟨0, b, [], .slice none 0 0, by omega, rfl, rfl, by omega, rfl, HZ, Lib.hid (fun i P h => by simp at h), Lib.hid (Below.refl _ _), Lib.hid (Kd.R_nil _ _ _ _ _)⟩
  case round =>
    obtain ⟨k, x, l, v, hk, rfl, rfl, hxs, hlk, HX, HR, Hb, HV⟩ := hrel
    have hw0 : w.heap.size ≤ wr.heap.size := Hb.out.size
    by_cases hlt : k < ps.length
    · obtain ⟨hP, hok, hsg⟩ := HPS.out _ (List.getElem_mem hlt)
      have hget : ps[k]? = some ps[k] := List.getElem?_eq_getElem hlt
      have hd : ps.drop k = ps[k] :: ps.drop (k + 1) := List.drop_eq_getElem_cons hlt
      have ht : ps.take (k + 1) = ps.take k ++ [ps[k]] := List.take_succ_eq_append_getElem hlt
      generalize ps[k] = P at hP hok hsg hget hd ht
      have hZ' : bytesOf x = P.bytes ++ (flat (ps.drop (k + 1)) ++ (Q.bytes ++ rest)) := by rw [HX.out, hd, flat_cons, List.append_assoc]
      have hsz := rd_size hP x _ hZ'
      have hne := ne_empty (b := x) (by omega)
      have hlen := hP.len
      have HRD := Lib.hid (pageRead_any hP x _ hZ' (by omega) wr)
      have HXR := Lib.hid (extract_rest x P.bytes.length P.bytes _ hZ' rfl)
      have HOK := Lib.hid hok; have HSG := Lib.hid hsg; have HT := Lib.hid ht
      have hpx : P.bytes.length ≤ x.size := by omega
      have hxr : (x.extract P.bytes.length x.size).size = x.size - P.bytes.length := by rw [ByteArray.size_extract]; omega
      have hp27 : 27 ≤ P.bytes.length := by omega
      clear hP hok hsg hget hd ht hZ' hsz hlen
      go_wp2_with fail
      refine HRD.out.mono ?_
      rintro e w1 ⟨s, q, g, f, A1, n1, k1, mo, n, ok, rfl, hb1, -, hyes⟩
      obtain ⟨rfl, rfl, rfl, rfl, hR⟩ := hyes HOK.out HSG.out
      have hw1 : wr.heap.size ≤ w1.heap.size := hb1.size
      have HV1 := Lib.hid (Kd.R_below HV.out hb1)
      have HB1 := Lib.hid (Hb.out.trans (hb1.mono hw0))
      have HO := Lib.hid (show ∀ j, v.ownBlock = some j → j < wr.heap.size from Kd.R_lt HV.out)
      have HRS := Lib.hid hR
      have hbx := Blk.new w1 47 #[.int .u32 s, .int .u32 q, .int .u64 (gran P), .int .i64 f, .slice A1 n1 k1, .bool (mor [] (bods P.B P.L))]
      clear hyes hb1 hR HRD
      generalize hpl : P.bytes.length = pl at hpx hxr hp27 HXR
      have HM := Lib.hid (show k47.M (w1.alloc (.cells #[.int .u32 s, .int .u32 q, .int .u64 (gran P), .int .i64 f, .slice A1 n1 k1, .bool (mor [] (bods P.B P.L))] 47)) w.heap.size (fun j => wr.heap.size ≤ j) ⟨s, q, gran P, f, partsOf (bods P.B P.L), mor [] (bods P.B P.L)⟩ [.int .u32 s, .int .u32 q, .int .u64 (gran P), .int .i64 f, .slice A1 n1 k1, .bool (mor [] (bods P.B P.L))] from k47_mkM _ _ _ ⟨s, q, gran P, f, partsOf (bods P.B P.L), mor [] (bods P.B P.L)⟩ (Kd.R_alloc (Kd.R_lower HRS.out hw0) _))
      have HVA := Lib.hid (Kd.R_alloc HV1.out (.cells #[.int .u32 s, .int .u32 q, .int .u64 (gran P), .int .i64 f, .slice A1 n1 k1, .bool (mor [] (bods P.B P.L))] 47))
      have HBA := Lib.hid (HB1.out.alloc (Nat.le_trans hw0 hw1) (.cells #[.int .u32 s, .int .u32 q, .int .u64 (gran P), .int .i64 f, .slice A1 n1 k1, .bool (mor [] (bods P.B P.L))] 47))
      have hxi : (pl : Int) ≤ (x.size : Int) := by omega
      have HBX := Lib.hid hbx
      have hgl : w1.heap.size < (w1.alloc (.cells #[.int .u32 s, .int .u32 q, .int .u64 (gran P), .int .i64 f, .slice A1 n1 k1, .bool (mor [] (bods P.B P.L))] 47)).heap.size := hbx.lt
      clear hbx
      go_upto_region 5 with fail
      generalize w1.alloc (.cells #[.int .u32 s, .int .u32 q, .int .u64 (gran P), .int .i64 f, .slice A1 n1 k1, .bool (mor [] (bods P.B P.L))] 47) = w2 at HM HVA HBA HBX hgl ⊢
      generalize w1.heap.size = gb at HBX hgl ⊢
      obtain ⟨d0, d1, d2, d3, d4, d5⟩ := HBX.out.six
      go_wp2_with (at_builtin; refine Kd.R_append k47 (w0 := w) w.heap.size rfl (.tmp 18) (.tmp 20) 26 47 (.agg #[.int .u32 0, .int .u32 0, .int .u64 0, .int .i64 0, .slice none 0 0, .bool false]) 56 rfl Tryz.underlying26 info_pg rfl (by decide) (by decide) v l ⟨s, q, gran P, f, partsOf (bods P.B P.L), mor [] (bods P.B P.L)⟩ [.int .u32 s, .int .u32 q, .int .u64 (gran P), .int .i64 f, .slice A1 n1 k1, .bool (mor [] (bods P.B P.L))] (fun j => w.heap.size ≤ j) (fun j => wr.heap.size ≤ j) rfl rfl HM.out (fun j hj => ⟨Nat.le_trans hw0 hj, fun e => by have := HO.out j e.symm; omega⟩) (fun j hj => Nat.le_trans HBA.out.size hj) HVA.out HBA.out HBA.out.size (by omega) ?_; intro v2 w3 ho hb hg hat; have HO3 := Lib.hid ho; have HB3 := Lib.hid hb; clear ho hb hg hat d0 d1 d2 d3 d4 d5)
      go_roundw
      case rel =>
        refine ⟨k + 1, x.extract pl x.size, l ++ [⟨s, q, gran P, f, partsOf (bods P.B P.L), mor [] (bods P.B P.L)⟩], v2, by omega, rfl, rfl, by rw [hxr]; omega, by rw [List.length_append, hlk]; rfl, HXR, Lib.hid ?_, HB3, HO3⟩
        intro j R hj
        rw [HT.out] at hj
        by_cases hjk : j < k
        · rw [List.getElem?_append_left (by rw [List.length_take]; omega)] at hj
          obtain ⟨p, h1, h2⟩ := HR.out j R hj
          exact ⟨p, by rw [List.getElem?_append_left (by omega)]; exact h1, h2⟩
        · have hjk2 : j = k := by
            have := (List.getElem?_eq_some_iff.1 hj).1
            rw [List.length_append, List.length_take] at this
            simp at this
            omega
          subst hjk2
          rw [List.getElem?_append_right (by rw [List.length_take]; omega), List.length_take, show j - min j ps.length = 0 by omega] at hj
          simp at hj
          subst hj
          exact ⟨_, by rw [List.getElem?_append_right (by omega), show j - l.length = 0 by omega]; rfl, rfl, rfl, rfl⟩
      case measure => simp [hxr]; omega
    · obtain rfl : k = ps.length := by omega
      have hx := HX.out
      rw [List.drop_length] at hx
      have hZ' : bytesOf x = Q.bytes ++ rest := by rw [hx]; simp [flat]
      have hsz := rd_size HQ.out x _ hZ'
      have hne := ne_empty (b := x) (by omega)
      have HRD := Lib.hid (pageRead_any HQ.out x _ hZ' (by omega) wr)
      clear hx hZ' hsz
      go_wp2_with fail
      refine HRD.out.mono ?_
      rintro e w1 ⟨s, q, g, f, A1, n1, k1, mo, n, ok, rfl, hb1, hno1, -⟩
      obtain rfl := hno1 HNO.out
      have HV1 := Lib.hid (Kd.R_below HV.out hb1)
      have HB1 := Lib.hid (Hb.out.trans (hb1.mono hw0))
      clear hno1 hb1
      go_wp2_with fail
      go_ret2
      exact ⟨v, l, rfl, Kd.R_alloc HV1.out _, hlk, fun i P h => HR.out i P (by rw [List.take_length]; exact h), HB1.out.alloc HB1.out.size _⟩
end Go.Proofs.YtojdfjohmicopaaGreatDoor
namespace Go.Proofs.YtojdfjohmicopaaGreatDoor
open Go Go.RowKit Go.Proofs.YtojdfjohmicopaaGreatDoorW.PrintWords Go.Proofs.YtojdfjohmicopaaGreatDoor.Crc Go.Proofs.YtojdfjohmicopaaGreatDoor.PFnOggHurt

/-- The first of a part's segments, and what is left. -/
theorem part_cut {a : List Int} (A : List (List Int)) (r : List Int) (ha : a.length = 255) (hab : Bytes a) (hA : ∀ x ∈ A, Bytes x) (hr : Bytes r) :
    (strOfNums ((a :: A).flatten ++ r)).size = 255 + (A.flatten ++ r).length ∧ (strOfNums ((a :: A).flatten ++ r)).extract 0 255 = strOfNums a ∧ (strOfNums ((a :: A).flatten ++ r)).extract 255 (strOfNums ((a :: A).flatten ++ r)).size = strOfNums (A.flatten ++ r) := by
  have hb : Bytes (A.flatten ++ r) := by
    refine Bytes.app (fun v hv => ?_) hr
    obtain ⟨x, hx, hv⟩ := List.mem_flatten.1 hv
    exact hA x hx v hv
  have hball : Bytes ((a :: A).flatten ++ r) := by rw [List.flatten_cons, List.append_assoc]; exact hab.app hb
  have hsz : (strOfNums ((a :: A).flatten ++ r)).size = 255 + (A.flatten ++ r).length := by rw [strOfNums_size]; simp [ha]
  refine ⟨hsz, bytesOf_inj ?_, bytesOf_inj ?_⟩
  · rw [bytesOf_extract, bytesOf_str hball, bytesOf_str hab, List.drop_zero, List.flatten_cons, List.append_assoc, Nat.sub_zero]
    conv => lhs; arg 1; rw [← ha]
    exact List.take_left
  · rw [bytesOf_extract, bytesOf_str hball, bytesOf_str hb, hsz, List.flatten_cons, List.append_assoc, Nat.add_sub_cancel_left]
    conv => lhs; arg 2; arg 1; rw [← ha]
    rw [List.drop_left, List.take_length]
/-- Segments of parts, put in one row. -/
def segsOf (gs : List (List (List Int) × Option (List Int))) : List (List Int) := gs.flatMap fun g => g.1 ++ g.2.toList
set_option maxRecDepth 100000 in
set_option maxHeartbeats 4000000 in
theorem laced_any (x0 x1 x2 x3 : Int) (l : List (List Int)) (hl : ∀ s ∈ l, s.length ≤ 255 ∧ Bytes s) (hn : l.length ≤ 1000) (ps : List ByteArray) (hps : ps = partsOf l) (m : Bool) (hm : m = mor [] l) (A : Option Addr) (c : Nat) (w : World) (hC : Kd.C Kd.string w A ps.length ps) :
    Calls Tryz.prog 17 #[.agg #[.int .u32 x0, .int .u32 x1, .int .u64 x2, .int .i64 x3, .slice A ps.length c, .bool m]] w fun e w' => ∃ v, e = .returned v ∧ Kd.string.R 9 w' w.heap.size (fun j => w.heap.size ≤ j) v (l.map strOfNums) ∧ Below w.heap.size w w' := by
  have hfull := grp_full l [] (fun _ h => by simp at h) hl
  have hnone := grp_none l []
  have hgl := grp_length l []
  have hfl : segsOf (grp [] l) = l := grp_flat l []
  have hpl : ps = (grp [] l).map fun g => strOfNums (partI g) := hps
  rw [← hm] at hnone
  clear hps hm
  simp only [if_true] at hgl
  generalize grp [] l = gs at hfull hnone hgl hfl hpl
  have hpn : ps.length = gs.length := by rw [hpl, List.length_map]
  have hget : ∀ k, (h2 : k < ps.length) → (h : k < gs.length) → ps[k] = strOfNums (partI gs[k]) := fun k h2 h => by subst hpl; simp
  have htk : ∀ i, (segsOf (gs.take i)).length ≤ l.length := fun i => by
    have h1 : (segsOf gs).length = l.length := by rw [hfl]
    rw [← h1]
    conv => rhs; rw [← List.take_append_drop i gs]
    unfold segsOf
    rw [List.flatMap_append, List.length_append]
    omega
  have HFULL := Lib.hid hfull; have HNONE := Lib.hid hnone; have HFL := Lib.hid hfl; have HGET := Lib.hid hget; have HTK := Lib.hid htk; have HC := Lib.hid hC; have HPN := Lib.hid hpn
  clear hfull hnone hfl hpl hget htk hC
  have hgs : gs.length ≤ 1000 := by omega
  clear hl
  rw [hpn]
  clear hpn
  go_enter Tryz.func17, Tryz.ntmps17
  have hbx := Blk.new w 47 #[.int .u32 x0, .int .u32 x1, .int .u64 x2, .int .i64 x3, .slice A gs.length c, .bool m]
  have hb0 := (Below.refl w.heap.size w).alloc (Nat.le_refl _) (.cells #[.int .u32 x0, .int .u32 x1, .int .u64 x2, .int .i64 x3, .slice A gs.length c, .bool m] 47)
  have HBX := Lib.hid hbx; have HB0 := Lib.hid hb0
  clear hbx hb0
  go_wp2_with fail
  generalize w.alloc (.cells #[.int .u32 x0, .int .u32 x1, .int .u64 x2, .int .i64 x3, .slice A gs.length c, .bool m] 47) = w0 at HBX HB0 ⊢
  generalize hge : w.heap.size = gp at HBX ⊢
  have HGE := Lib.hid hge
  clear hge
  go_loopw [3, 9] (fun v3 v9 wr => ∃ (k : Nat) (v : Value), k ≤ gs.length ∧ v9 = .int .i64 (k : Int) ∧ v = v3 ∧ Hid (Kd.string.R 9 wr (gp + 1) (fun j => gp + 1 ≤ j) v ((segsOf (gs.take k)).map strOfNums)) ∧ Hid (Below w.heap.size w wr) ∧ Hid (Blk wr gp 47 #[.int .u32 x0, .int .u32 x1, .int .u64 x2, .int .i64 x3, .slice A gs.length c, .bool m])) (fun _ v9 _ => gs.length - (intOf v9).toNat)
  case atStart => exact ⟨0, _, by omega, rfl, rfl, Lib.hid (Kd.R_nil _ _ _ _ _), HB0, HBX⟩
  case round =>
    obtain ⟨k, v, hk, rfl, rfl, HV, Hb, HB⟩ := hrel
    clear HB0 HBX
    have hgl : gp < wr.heap.size := HB.out.lt
    by_cases hlt : k < gs.length
    · obtain ⟨ad, hA, hcell⟩ := at_str (Kd.C_below HC.out Hb.out) k (by rw [HPN.out]; exact hlt)
      subst hA
      rw [HGET.out k _ hlt] at hcell
      obtain ⟨hf1, hf2⟩ := HFULL.out _ (List.getElem_mem hlt)
      have hno := HNONE.out k _ (List.getElem?_eq_getElem hlt)
      have htake : segsOf (gs.take (k + 1)) = segsOf (gs.take k) ++ (gs[k].1 ++ gs[k].2.toList) := by
        unfold segsOf
        rw [List.take_succ_eq_append_getElem hlt, List.flatMap_append]; simp
      have hlen1 := HTK.out (k + 1)
      rw [htake] at hlen1
      generalize gs[k] = g at hcell hf1 hf2 hno htake hlen1
      obtain ⟨As, o⟩ := g
      obtain ⟨r, hr, hrl, hrb⟩ : ∃ r, partI (As, o) = As.flatten ++ r ∧ r.length < 255 ∧ Bytes r := by
        cases o with
        | none => exact ⟨[], by simp [partI], by simp, fun v hv => by simp at hv⟩
        | some r => exact ⟨r, rfl, (hf2 r rfl).1, (hf2 r rfl).2⟩
      have hro : ∀ s, o = some s → s = r := fun s h => by
        subst h
        have h1 : As.flatten ++ s = As.flatten ++ r := hr
        exact List.append_cancel_left h1
      rw [hr] at hcell
      simp only [List.length_append] at hlen1
      have HF1 := Lib.hid hf1; have HNO := Lib.hid hno; have HTA := Lib.hid htake; have HRB := Lib.hid hrb; have HRO := Lib.hid hro
      clear hf1 hf2 hno htake hrb hro hr
      go_wp2_with fail
      obtain ⟨wo, rfl⟩ : ∃ wo : World, wo = wr := ⟨_, rfl⟩
      go_loopw [3, 5] (fun v3 v5 wr => ∃ (done todo : List (List Int)) (v1 : Value) (s : ByteArray), v1 = v3 ∧ v5 = .string s ∧ Hid (s = strOfNums (todo.flatten ++ r)) ∧ Hid (As = done ++ todo) ∧ Hid (Kd.string.R 9 wr (gp + 1) (fun j => gp + 1 ≤ j) v1 ((segsOf (gs.take k) ++ done).map strOfNums)) ∧ Hid (Below w.heap.size w wr) ∧ Hid (Blk wr gp 47 #[.int .u32 x0, .int .u32 x1, .int .u64 x2, .int .i64 x3, .slice (some ad) gs.length c, .bool m])) (fun _ v5 _ => match v5 with | .string s => s.size | _ => 0)
      case atStart => exact ⟨[], As, v, _, rfl, rfl, Lib.hid rfl, Lib.hid rfl, Lib.hid (by rw [List.append_nil]; exact HV.out), Hb, HB⟩
      case round =>
        obtain ⟨done, todo, v1, s, rfl, rfl, HS, HA, HV1, Hb1, HB1⟩ := hrel
        have hgl1 : gp < wr.heap.size := HB1.out.lt
        have HOB := Lib.hid (show ∀ j, v1.ownBlock = some j → gp + 1 ≤ j from Kd.R_base HV1.out)
        have hdl : done.length ≤ As.length := by rw [HA.out, List.length_append]; omega
        have hsl : ((segsOf (gs.take k) ++ done).map strOfNums).length ≤ 1000 := by rw [List.length_map, List.length_append]; omega
        have HLN := Lib.hid (show (((segsOf (gs.take k) ++ done).map strOfNums).length + 1) * 16 ≤ 140737488355328 by omega)
        have HBB := Lib.hid (Below.refl (gp + 1) wr)
        clear hsl
        cases todo with
        | cons a todo =>
          have ha := HF1.out a (by rw [HA.out]; simp)
          obtain ⟨p1, p2, p3⟩ := part_cut todo r ha.1 ha.2 (fun x hx => (HF1.out x (by rw [HA.out]; simp [hx])).2) HRB.out
          rw [← HS.out] at p1 p2 p3
          have HP3 := Lib.hid p3
          have hs255 : 255 ≤ s.size := by omega
          have HNX := Lib.hid (show (segsOf (gs.take k) ++ (done ++ [a])).map strOfNums = (segsOf (gs.take k) ++ done).map strOfNums ++ [strOfNums a] by simp)
          have hx3 : (s.extract 255 s.size).size = s.size - 255 := by rw [ByteArray.size_extract]; omega
          generalize (segsOf (gs.take k) ++ done).map strOfNums = old at HV1 HLN HNX
          clear p1 p3
          have hi255 : (255 : Int) ≤ (s.size : Int) := by omega
          go_wp2_with (at_builtin; refine Kd.R_append Kd.string (w0 := wr) (gp + 1) rfl (.tmp 17) (.tmp 20) 45 9 (.string ⟨#[]⟩) 16 rfl Tryz.underlying45 info9 rfl (by decide) (by decide) v1 old (strOfNums a) [.string (strOfNums a)] (fun j => gp + 1 ≤ j) (fun _ => False) rfl rfl rfl (fun _ h => h.elim) (fun j (hj : _ ≤ j) => by show gp + 1 ≤ j; omega) HV1.out HBB.out (by omega) HLN.out ?_; intro v2 w3 ho hb hg hat; have HO3 := Lib.hid ho; have HB3 := Lib.hid (Hb1.out.trans (hb.mono (by rw [HGE.out]; omega))); have HX3 := Lib.hid (HB1.out.grown hg (fun e => by have := HOB.out gp e.symm; omega)); clear ho hb hg hat)
          go_roundw
          case rel => exact ⟨done ++ [a], todo, v2, s.extract 255 s.size, rfl, rfl, HP3, Lib.hid (by rw [HA.out]; simp), Lib.hid (by rw [HNX.out]; exact HO3.out), HB3, HX3⟩
          case measure => simp [hx3]; omega
        | nil =>
          have hss : s.size = r.length := by rw [HS.out, strOfNums_size]; simp
          have hs255 : s.size < 255 := by omega
          have hsr : s = strOfNums r := by rw [HS.out]; simp
          have hda : done = As := by rw [HA.out, List.append_nil]
          have HSR := Lib.hid hsr; have HDA := Lib.hid hda
          clear hsr hda hss
          obtain ⟨b0, b1, b2, b3, b4, b5⟩ := HB1.out.six
          cases o with
          | none =>
            obtain ⟨hk1, hm1⟩ := HNO.out.1 rfl
            subst hm1
            clear HNO
            go_wp2_with fail
            go_roundw
            case rel => exact ⟨k + 1, v1, by omega, by go_num, rfl, Lib.hid (by rw [HTA.out, ← HDA.out]; simpa using HV1.out), Hb1, HB1⟩
            case measure => simp [intOf]; omega
          | some r' =>
            have hrr := HRO.out r' rfl
            subst hrr
            have HNX := Lib.hid (show (segsOf (gs.take (k + 1))).map strOfNums = (segsOf (gs.take k) ++ done).map strOfNums ++ [s] by rw [HTA.out, HSR.out, HDA.out]; simp)
            have hnot : ¬ (k + 1 = gs.length ∧ m = true) := fun h => by have := HNO.out.2 h; cases this
            generalize (segsOf (gs.take k) ++ done).map strOfNums = old at HV1 HLN HNX
            have HNOT := Lib.hid hnot
            clear HNO hnot
            by_cases hk1 : k + 1 < gs.length
            · go_wp2_with (at_builtin; refine Kd.R_append Kd.string (w0 := wr) (gp + 1) rfl (.tmp 35) (.tmp 37) 45 9 (.string ⟨#[]⟩) 16 rfl Tryz.underlying45 info9 rfl (by decide) (by decide) v1 old s [.string s] (fun j => gp + 1 ≤ j) (fun _ => False) rfl rfl rfl (fun _ h => h.elim) (fun j (hj : _ ≤ j) => by show gp + 1 ≤ j; omega) HV1.out HBB.out (by omega) HLN.out ?_; intro v2 w3 ho hb hg hat; have HO3 := Lib.hid ho; have HB3 := Lib.hid (Hb1.out.trans (hb.mono (by rw [HGE.out]; omega))); have HX3 := Lib.hid (HB1.out.grown hg (fun e => by have := HOB.out gp e.symm; omega)); clear ho hb hg hat)
              go_roundw
              case rel => exact ⟨k + 1, v2, by omega, by go_num, rfl, Lib.hid (by rw [HNX.out]; exact HO3.out), HB3, HX3⟩
              case measure => simp [intOf]; omega
            · have hm1 : m = false := by
                cases m
                · rfl
                · exact absurd ⟨by omega, rfl⟩ HNOT.out
              subst hm1
              go_wp2_with (at_builtin; refine Kd.R_append Kd.string (w0 := wr) (gp + 1) rfl (.tmp 35) (.tmp 37) 45 9 (.string ⟨#[]⟩) 16 rfl Tryz.underlying45 info9 rfl (by decide) (by decide) v1 old s [.string s] (fun j => gp + 1 ≤ j) (fun _ => False) rfl rfl rfl (fun _ h => h.elim) (fun j (hj : _ ≤ j) => by show gp + 1 ≤ j; omega) HV1.out HBB.out (by omega) HLN.out ?_; intro v2 w3 ho hb hg hat; have HO3 := Lib.hid ho; have HB3 := Lib.hid (Hb1.out.trans (hb.mono (by rw [HGE.out]; omega))); have HX3 := Lib.hid (HB1.out.grown hg (fun e => by have := HOB.out gp e.symm; omega)); clear ho hb hg hat)
              go_roundw
              case rel => exact ⟨k + 1, v2, by omega, by go_num, rfl, Lib.hid (by rw [HNX.out]; exact HO3.out), HB3, HX3⟩
              case measure => simp [intOf]; omega
    · obtain rfl : k = gs.length := by omega
      go_wp2_with fail
      go_ret
      have h1 := HV.out
      rw [List.take_length, HFL.out] at h1
      exact ⟨v, rfl, Kd.R_mono (Kd.R_lower h1 (show w.heap.size ≤ gp + 1 by rw [HGE.out]; omega)) (fun j (hj : gp + 1 ≤ j) => by rw [HGE.out]; omega), Hb.out⟩
end Go.Proofs.YtojdfjohmicopaaGreatDoor
namespace Go.Proofs.YtojdfjohmicopaaGreatDoor
open Go Go.RowKit Go.Proofs.YtojdfjohmicopaaGreatDoorW.PrintWords Go.Proofs.YtojdfjohmicopaaGreatDoor.Crc Go.Proofs.YtojdfjohmicopaaGreatDoor.PFnOggHurt

abbrev StrsK : Kd (List ByteArray) := Kd.slice 9 Kd.string
section
variable {P : Program} {ops : Array Oper} {o : Oper} {a : Act} {Q : Exit → Act → World → Prop} {Kc : Act → World → Prop} {α : Type} {E : Prop}
/-- An append of one element, whose block lies anywhere, at a step of a region. -/
theorem R_append_at (d : Kd α) {W : World} (base : Nat) (hgd : o.guard = none) (s x : Operand) (t e : TypeId) (z : Value) (bytes : Nat)
    (ho : o.op = .call { callee := .builtin .append, args := #[s, x], argTypes := #[t, t] })
    (ht : P.underlying t = some (.slice e)) (hinfo : (P.info? e).map (fun i => (i.zero, i.size, i.bytes)) = some (some z, d.sz, bytes)) (hz : z.cells.size = d.sz) (hs0 : 0 < d.sz) (hb0 : 0 < bytes)
    (v : Value) (xs : List α) (p : α) (cs : List Value) (ok okp : Nat → Prop) (hs : a.eval s = v) (g : Nat) (hx : a.eval x = .slice (some ⟨g, 0, none⟩) 1 1) (hg : Blk W g e cs.toArray) (hp : d.M W base okp p cs) (hokp : ∀ k, okp k → ok k ∧ some k ≠ v.ownBlock) (hfresh : ∀ k, W.heap.size ≤ k → ok k)
    (HO : d.R e W base ok v xs) (hbase : base ≤ W.heap.size) (hl : (xs.length + 1) * bytes ≤ 140737488355328)
    (h : ∀ v1 w1, d.R e w1 base ok v1 (xs ++ [p]) → W.grownBy w1 v.ownBlock → (v1.ownBlock = v.ownBlock ∨ ∃ b, v1.ownBlock = some b ∧ W.heap.size ≤ b) → Kc (a.put o.dst v1) w1) :
    if Region.wanted o (yielded ops a.tmps) = true then Oper.wp P o a W Kc Q else E := by
  obtain ⟨h0, inner, hown, hr⟩ := HO
  obtain ⟨i0, hi, hzz⟩ := Option.map_eq_some_iff.1 hinfo
  simp only [Prod.mk.injEq] at hzz
  obtain ⟨hz0, hz1, hz2⟩ := hzz
  have hlen : xs.length + 1 ≤ 140737488355328 := Nat.le_trans (Nat.le_mul_of_pos_right _ hb0) hl
  refine step_append_lies W hgd s x t ho base e i0 z d.sz bytes ht hi hz0 hz1 hz2 hz hs0 v xs.length inner hs hown ⟨g, 0, none⟩ 1 1 cs hx (by rw [d.K_len (d.K_of_M hp)]; simp) (by simpa using World.news_of_block hg) (d.K_one (d.K_of_M hp)) (by omega) (by simp only [maxLen]; omega) hl hbase W.heap.size rfl ?_
  intro g1 cap w1 hown1 hg1 hat1 _
  have hat : (Value.slice (some ⟨g1, 0, none⟩) (xs.length + 1) cap).ownBlock = v.ownBlock ∨ ∃ b, (Value.slice (some ⟨g1, 0, none⟩) (xs.length + 1) cap).ownBlock = some b ∧ W.heap.size ≤ b := by
    rcases hat1 with h1 | h1
    · exact .inl (by rw [h1]; rfl)
    · exact .inr ⟨g1, rfl, by omega⟩
  exact h _ w1 (Kd.R_appended h0 hr hp hokp hfresh hown1 hg1 hat) hg1 hat
end
/-- A block of another type than a row's is as it was behind the row's growth. -/
theorem blk_off {α : Type} {d : Kd α} {e g t base : Nat} {ok : Nat → Prop} {W w1 : World} {v : Value} {xs : List α} {cs : Array Value} (h : Blk W g t cs) (hr : d.R e W base ok v xs) (ht : t ≠ e) (hg : W.grownBy w1 v.ownBlock) : Blk w1 g t cs :=
  h.grown hg (fun he => by
    obtain ⟨cells, hc⟩ := Kd.R_typed hr g he.symm
    unfold Blk at h
    rw [h] at hc
    injection hc with hc
    injection hc with _ h2 _
    exact ht h2)
/-- What is held while the two rows grow. -/
structure TS (w : World) (gb Z : Nat) (bx : Array Value) (v0 v1 : Value) (l0 : List (List ByteArray)) (l1 : List Int) (W : World) : Prop where
  box : Blk W gb 47 bx
  old : Below w.heap.size w W
  z : Z ≤ W.heap.size
  r0 : StrsK.R 45 W w.heap.size (fun j => w.heap.size ≤ j) v0 l0
  r1 : (Kd.int .u64).R 42 W w.heap.size (fun j => w.heap.size ≤ j) v1 l1
namespace TS
variable {w W w' : World} {gb Z : Nat} {bx : Array Value} {v0 v1 v2 : Value} {l0 m0 : List (List ByteArray)} {l1 m1 : List Int}
theorem below (h : TS w gb Z bx v0 v1 l0 l1 W) (hb : Below W.heap.size W w') : TS w gb Z bx v0 v1 l0 l1 w' :=
  ⟨blk_on h.box hb, h.old.trans (hb.mono h.old.size), Nat.le_trans h.z hb.size, Kd.R_below h.r0 hb, Kd.R_below h.r1 hb⟩
theorem alloc (h : TS w gb Z bx v0 v1 l0 l1 W) (o : Obj) : TS w gb Z bx v0 v1 l0 l1 (W.alloc o) := h.below ((Below.refl _ _).alloc (Nat.le_refl _) o)
theorem drew (h : TS w gb Z bx v0 v1 l0 l1 W) : TS w gb Z bx v0 v1 l0 l1 W.drew := h.below (below_drew' (Below.refl _ _))
theorem app0 (h : TS w gb Z bx v0 v1 l0 l1 W) (hr : StrsK.R 45 w' w.heap.size (fun j => w.heap.size ≤ j) v2 m0) (hg : W.grownBy w' v0.ownBlock) : TS w gb Z bx v2 v1 m0 l1 w' :=
  ⟨blk_off h.box h.r0 (by decide) hg, h.old.grown hg h.old.size (fun k hk => Kd.R_base h.r0 k hk), Nat.le_trans h.z hg.size, hr, Kd.R_over h.r1 h.r0 (by decide) hg⟩
theorem app1 (h : TS w gb Z bx v0 v1 l0 l1 W) (hr : (Kd.int .u64).R 42 w' w.heap.size (fun j => w.heap.size ≤ j) v2 m1) (hg : W.grownBy w' v1.ownBlock) : TS w gb Z bx v0 v2 l0 m1 w' :=
  ⟨blk_off h.box h.r1 (by decide) hg, h.old.grown hg h.old.size (fun k hk => Kd.R_base h.r1 k hk), Nat.le_trans h.z hg.size, Kd.R_over h.r0 h.r1 (by decide) hg, hr⟩
end TS
theorem drop_run (A : Option Addr) (n c : Nat) (hn : 1 ≤ n) (hc : n ≤ c) : ∃ A', (∀ W : World, (Instr.slice 26 (.slice A n c) (some (.int .i64 1)) none none).run Tryz.prog W = .ok (.slice A' (n - 1) (c - 1)) W) ∧ ∀ (w : World) (l : List S47), l.length = n → Kd.C k47 w A n l → Kd.C k47 w A' (n - 1) (l.drop 1) := by
  obtain ⟨i0, hi, hzz⟩ := Option.map_eq_some_iff.1 info_pg
  simp only [Prod.mk.injEq] at hzz
  refine ⟨if c = 1 then A else A.map (·.add (1 * 6)), fun W => ?_, fun w l hl hC => ?_⟩
  · exact cut_from 26 47 .i64 Tryz.underlying26 hi 6 hzz.2.1 A n c 1 (by omega) (by omega) W
  · subst hl
    have := Kd.C_drop (m := 1) (c := c) hC hn hc
    rwa [List.length_drop] at this
/-- What behind gives. -/
def BhPost (ps : List Pg) (w : World) (e : Ending) (w' : World) : Prop := ∃ v0 v1, e = .returned (.tuple #[v0, v1, .bool false]) ∧ StrsK.R 45 w' w.heap.size (fun j => w.heap.size ≤ j) v0 (ps.map strsOf) ∧ (Kd.int .u64).R 42 w' w.heap.size (fun j => w.heap.size ≤ j) v1 (ps.map gran) ∧ Below w.heap.size w w'
set_option maxRecDepth 100000 in
set_option maxHeartbeats 8000000 in
theorem behind_any (H0 : Pg) (ps : List Pg) (Q : Pg) (rest : List Int) (b : ByteArray) (hH : Good H0) (hps : ∀ P ∈ ps, Good P) (hQ : Q.Fit) (hno : ¬ Q.ok) (hZ : bytesOf b = H0.bytes ++ (flat ps ++ (Q.bytes ++ rest))) (hb : b.size ≤ 1000000000) (hn : ps.length ≤ 1000) (w : World) :
    Calls Tryz.prog 8 #[.string b] w (BhPost ps w) := by
  have HO := Lib.hid (oggRead_any (H0 :: ps) Q rest b (fun P hP => by rcases List.mem_cons.1 hP with rfl | h; exact hH; exact hps P h) hQ hno (by rw [hZ, flat_cons, List.append_assoc]) hb (by simp; omega) w)
  have HPS := Lib.hid hps
  clear hps hH hQ hno hZ
  go_enter Tryz.func8, Tryz.ntmps8
  go_wp2_with fail
  refine HO.out.mono ?_
  rintro e w1 ⟨v, l, rfl, hR, hll, hrel, hbw⟩
  obtain ⟨A, c, rfl, hlc, hC⟩ := Kd.R_reads hR
  have hll' : l.length = ps.length + 1 := by rw [hll]; rfl
  obtain ⟨A', hrun, hcut⟩ := drop_run A l.length c (by omega) hlc
  have hC' := hcut w1 l rfl hC
  rw [hll'] at hrun hC' ⊢
  rw [Nat.add_sub_cancel] at hrun hC'
  have hrel' : ∀ (i : Nat) (P : Pg), ps[i]? = some P → ∃ p, (l.drop 1)[i]? = some p ∧ ReadAs P p := fun i P h => by
    have := hrel (i + 1) P (by simpa using h)
    rw [List.getElem?_drop, Nat.add_comm]
    exact this
  have hdl : (l.drop 1).length = ps.length := by rw [List.length_drop]; omega
  generalize l.drop 1 = ls at hC' hrel' hdl
  have HREL := Lib.hid hrel'; have HC := Lib.hid hC'; have HB := Lib.hid hbw; have HDL := Lib.hid hdl
  clear hR hll hrel hbw hC hcut hlc hll' hrel' hC' hdl HO
  have hz0 : (((ps.length : Int) + 1) == 0) = false := by have : ¬ ((ps.length : Int) + 1) = 0 := (by omega); simpa using this
  go_wp2_with fail
  clear hrun hz0
  go_loopw [2, 3, 20] (fun v2 v3 v20 wr => ∃ (k : Nat) (v0 v1 : Value), k ≤ ps.length ∧ v20 = .int .i64 (k : Int) ∧ v0 = v2 ∧ v1 = v3 ∧ Hid (StrsK.R 45 wr w1.heap.size (fun j => w1.heap.size ≤ j) v0 ((ps.take k).map strsOf)) ∧ Hid ((Kd.int .u64).R 42 wr w1.heap.size (fun j => w1.heap.size ≤ j) v1 ((ps.take k).map gran)) ∧ Hid (Below w1.heap.size w1 wr)) (fun _ _ v20 _ => ps.length - (intOf v20).toNat)
  case atStart => exact ⟨0, _, _, by omega, rfl, rfl, rfl, Lib.hid (Kd.R_nil _ _ _ _ _), Lib.hid (Kd.R_nil _ _ _ _ _), Lib.hid (Below.refl _ _)⟩
  case round =>
    obtain ⟨k, v0, v1, hk, rfl, rfl, rfl, H0', H1', Hb⟩ := hrel
    by_cases hlt : k < ps.length
    · obtain ⟨ad, A4, c4, hA', d0, d1, d2, d3, d4, d5, h6, h7⟩ := at_T47 (Kd.C_below HC.out Hb.out) (k : Int) (by omega) (by omega)
      subst hA'
      rw [Int.toNat_natCast] at d0 d1 d2 d3 d4 d5
      have hgood := HPS.out _ (List.getElem_mem hlt)
      obtain ⟨p, hp, p2, p4, p5⟩ := HREL.out k _ (List.getElem?_eq_getElem hlt)
      have hrd : rd_T47 ls (k : Int) = p := by unfold rd_T47; rw [Int.toNat_natCast, List.getD_eq_getElem?_getD, hp]; rfl
      rw [hrd] at d0 d1 d2 d3 d4 d5 h6 h7
      have HT0 := Lib.hid (show (ps.take (k + 1)).map strsOf = (ps.take k).map strsOf ++ [strsOf ps[k]] by rw [List.take_succ_eq_append_getElem hlt, List.map_append]; rfl)
      have HT1 := Lib.hid (show (ps.take (k + 1)).map gran = (ps.take k).map gran ++ [p.f2] by rw [List.take_succ_eq_append_getElem hlt, List.map_append, p2]; rfl)
      generalize ps[k] = P at hgood p2 p4 p5 HT0
      have hl255 := hgood.1.l
      have hlc : ∀ (W : World), Kd.C Kd.string W A4 p.f4.length p.f4 → Calls Tryz.prog 17 #[.agg #[.int .u32 p.f0, .int .u32 p.f1, .int .u64 p.f2, .int .i64 p.f3, .slice A4 p.f4.length c4, .bool p.f5]] W fun e W' => ∃ AL nL cL, e = .returned (.slice AL nL cL) ∧ Kd.string.R 9 W' W.heap.size (fun j => W.heap.size ≤ j) (.slice AL nL cL) (strsOf P) ∧ Below W.heap.size W W' := fun W hC =>
        (laced_any p.f0 p.f1 p.f2 p.f3 (bods P.B P.L) (bods_props _ _ hgood.1.bl hgood.1.bb) (by rw [bods_length]; omega) p.f4 p4 p.f5 p5 A4 c4 W hC).mono fun e W' h => by
          obtain ⟨v, rfl, hR, hb⟩ := h
          obtain ⟨AL, cL, rfl⟩ := Kd.R_slice hR
          exact ⟨AL, _, cL, rfl, hR, hb⟩
      have HLC := Lib.hid hlc
      clear hlc
      have hC4 := Lib.hid h7
      generalize hn4 : p.f4.length = n4 at d4 HLC hC4
      have hl0 : ((ps.take k).map strsOf).length ≤ 1000 := by rw [List.length_map, List.length_take]; omega
      have hl1 : ((ps.take k).map gran).length ≤ 1000 := by rw [List.length_map, List.length_take]; omega
      have HLN0 := Lib.hid (show (((ps.take k).map strsOf).length + 1) * 24 ≤ 140737488355328 by omega)
      have HLN1 := Lib.hid (show (((ps.take k).map gran).length + 1) * 8 ≤ 140737488355328 by omega)
      generalize (ps.take k).map strsOf = l0 at H0' HT0 HLN0
      generalize (ps.take k).map gran = l1 at H1' HT1 HLN1
      clear hn4 h6 h7 hp hrd p2 p4 p5 hgood hl255 hl0 hl1
      go_upto_region 7 with fail
      clear d0 d1 d2 d3 d4 d5
      have hTS : TS w1 wr.heap.size (wr.alloc (.cells #[.int .u32 p.f0, .int .u32 p.f1, .int .u64 p.f2, .int .i64 p.f3, .slice A4 n4 c4, .bool p.f5] 47)).heap.size #[.int .u32 p.f0, .int .u32 p.f1, .int .u64 p.f2, .int .i64 p.f3, .slice A4 n4 c4, .bool p.f5] v0 v1 l0 l1 (wr.alloc (.cells #[.int .u32 p.f0, .int .u32 p.f1, .int .u64 p.f2, .int .i64 p.f3, .slice A4 n4 c4, .bool p.f5] 47)) := ⟨Blk.new wr _ _, Hb.out.alloc Hb.out.size _, Nat.le_refl _, Kd.R_alloc H0'.out _, Kd.R_alloc H1'.out _⟩
      have HTS := Lib.hid hTS
      have HOK0 := Lib.hid (show ∀ j, (wr.alloc (.cells #[.int .u32 p.f0, .int .u32 p.f1, .int .u64 p.f2, .int .i64 p.f3, .slice A4 n4 c4, .bool p.f5] 47)).heap.size ≤ j → w1.heap.size ≤ j ∧ some j ≠ v0.ownBlock from fun j hj => ⟨Nat.le_trans hTS.old.size hj, fun e => by have := Kd.R_lt hTS.r0 j e.symm; omega⟩)
      have HZ0 := Lib.hid hTS.old.size
      have HC5 := Lib.hid (Kd.C_below hC4.out ((Below.refl wr.heap.size wr).alloc (Nat.le_refl _) (.cells #[.int .u32 p.f0, .int .u32 p.f1, .int .u64 p.f2, .int .i64 p.f3, .slice A4 n4 c4, .bool p.f5] 47)))
      clear hTS hC4 H0' H1' Hb
      generalize (wr.alloc (.cells #[.int .u32 p.f0, .int .u32 p.f1, .int .u64 p.f2, .int .i64 p.f3, .slice A4 n4 c4, .bool p.f5] 47)) = w2 at HTS HOK0 HZ0 HC5 ⊢
      generalize wr.heap.size = gb at HTS ⊢
      generalize hZ : w2.heap.size = Z at HTS HOK0 HZ0
      clear hZ
      refine wp_region_held_drew (S := fun W => Blk W gb 47 #[.int .u32 p.f0, .int .u32 p.f1, .int .u64 p.f2, .int .i64 p.f3, .slice A4 n4 c4, .bool p.f5]) (by kernel_rfl) HTS.out.box.drew (fun _ => ?_)
      have hT := HTS.out.drew
      have hC := Kd.C_below HC5.out (below_drew' (Below.refl w2.heap.size w2))
      clear HTS HC5
      generalize w2.drew = W1 at hT hC ⊢
      refine' wpAnyH_take (i := 0) (oi := _) (v := _) ?a201 (by kernel_rfl) (by kernel_rfl) (by kernel_rfl) ?b201 (Or.inl ⟨?c201, fun W hW => ?d201⟩) hT.box ?e201
      case a201 => (simp only [List.getElem?_toArray, List.getElem?_cons_succ, List.getElem?_cons_zero]; rfl)
      case c201 => rfl
      case d201 => (obtain ⟨h0, h1, h2, h3, h4, h5⟩ := hW.six; go_simp; try with_reducible rfl)
      case b201 => exact fun _ _ _ h => h
      simp only [Act.put, List.setIfInBounds_toArray, List.set_cons_zero, List.set_cons_succ]
      refine' wpAnyH_take (i := 1) (oi := _) (v := _) ?a202 (by kernel_rfl) (by kernel_rfl) (by kernel_rfl) ?b202 (Or.inl ⟨?c202, fun W hW => ?d202⟩) hT.box ?e202
      case a202 => (simp only [List.getElem?_toArray, List.getElem?_cons_succ, List.getElem?_cons_zero]; rfl)
      case c202 => rfl
      case d202 => (obtain ⟨h0, h1, h2, h3, h4, h5⟩ := hW.six; go_simp; try with_reducible rfl)
      case b202 => exact fun _ _ _ h => h
      simp only [Act.put, List.setIfInBounds_toArray, List.set_cons_zero, List.set_cons_succ]
      refine' wpAnyH_take (i := 5) (oi := _) (v := _) ?a203 (by kernel_rfl) (by kernel_rfl) (by kernel_rfl) ?b203 (Or.inl ⟨?c203, fun W hW => ?d203⟩) hT.box ?e203
      case a203 => (simp only [List.getElem?_toArray, List.getElem?_cons_succ, List.getElem?_cons_zero]; rfl)
      case c203 => rfl
      case d203 => (obtain ⟨h0, h1, h2, h3, h4, h5⟩ := hW.six; go_simp; try with_reducible rfl)
      case b203 => exact fun _ _ _ h => h
      simp only [Act.put, List.setIfInBounds_toArray, List.set_cons_zero, List.set_cons_succ]
      refine' wpAnyH_take (i := 6) (oi := _) (v := _) ?a204 (by kernel_rfl) (by kernel_rfl) (by kernel_rfl) ?b204 (Or.inl ⟨?c204, fun W hW => ?d204⟩) hT.box ?e204
      case a204 => (simp only [List.getElem?_toArray, List.getElem?_cons_succ, List.getElem?_cons_zero]; rfl)
      case c204 => rfl
      case d204 => (obtain ⟨h0, h1, h2, h3, h4, h5⟩ := hW.six; go_simp; try with_reducible rfl)
      case b204 => exact fun _ _ _ h => h
      simp only [Act.put, List.setIfInBounds_toArray, List.set_cons_zero, List.set_cons_succ]
      refine' wpAnyH_take (i := 7) (oi := _) (v := _) ?a205 (by kernel_rfl) (by kernel_rfl) (by kernel_rfl) ?b205 (Or.inl ⟨?c205, fun W hW => ?d205⟩) hT.box ?e205
      case a205 => (simp only [List.getElem?_toArray, List.getElem?_cons_succ, List.getElem?_cons_zero]; rfl)
      case c205 => rfl
      case d205 => (obtain ⟨h0, h1, h2, h3, h4, h5⟩ := hW.six; go_simp; try with_reducible rfl)
      case b205 => exact fun _ _ _ h => h
      simp only [Act.put, List.setIfInBounds_toArray, List.set_cons_zero, List.set_cons_succ]
      refine wpAnyH_ready (rs := [2, 8]) (by kernel_rfl) (by simp) ?_
      refine AllReadyH.cons (o := ?o206) ?a206 (fun K hK => ?b206) ?c206
      case a206 => (simp only [List.getElem?_toArray, List.getElem?_cons_succ, List.getElem?_cons_zero]; rfl)
      go_simp
      go_at_call 17
      refine (HLC.out W1 hC).mono ?_
      rintro e W206 ⟨AL, nL, cL, rfl, hL0, hb⟩
      (try go_wp2_with fail)
      have hT2 := hT.below hb
      have hL := Kd.R_mono (ok' := fun j => Z ≤ j) (Kd.R_lower hL0 hT.z) (fun j (hj : W1.heap.size ≤ j) => Nat.le_trans hT.z hj)
      refine hK.out _ _ hT2.box (fun _ => ?_)
      clear hK K hT hL0 hb hC
      (try simp only [Act.put, List.setIfInBounds_toArray, List.set_cons_zero, List.set_cons_succ])
      have hT := hT2
      clear hT2
      refine wpAnyH_ready (rs := [3, 8]) (by kernel_rfl) (by simp) ?_
      refine AllReadyH.cons (o := ?o207) ?a207 (fun K hK => ?b207) ?c207
      case a207 => (simp only [List.getElem?_toArray, List.getElem?_cons_succ, List.getElem?_cons_zero]; rfl)
      go_simp
      refine hK.out _ _ (hT.alloc _).box (fun _ => ?_)
      clear hK K
      (try simp only [Act.put, List.setIfInBounds_toArray, List.set_cons_zero, List.set_cons_succ])
      have hT2 := hT.alloc (.cells #[.slice AL nL cL] 45)
      have hg3 := Blk.new W206 45 #[.slice AL nL cL]
      have hL2 := Kd.R_alloc hL (.cells #[.slice AL nL cL] 45)
      clear hT hL
      generalize W206.heap.size = ga3 at hg3 ⊢
      generalize W206.alloc (.cells #[.slice AL nL cL] 45) = W207 at hT2 hg3 hL2 ⊢
      have hT := hT2
      have hL := hL2
      clear hT2 hL2
      refine wpAnyH_ready (rs := [4, 8]) (by kernel_rfl) (by simp) ?_
      refine AllReadyH.cons (o := ?o208) ?a208 (fun K hK => ?b208) ?c208
      case a208 => (simp only [List.getElem?_toArray, List.getElem?_cons_succ, List.getElem?_cons_zero]; rfl)
      refine R_append_at StrsK w1.heap.size rfl (.tmp 24) (.tmp 27) 34 45 (.slice none 0 0) 24 rfl Tryz.underlying34 info45 rfl (by decide) (by decide) v0 l0 (strsOf P) [.slice AL nL cL] (fun j => w1.heap.size ≤ j) (fun j => Z ≤ j) rfl ga3 rfl hg3 (Kd.M_row (Kd.R_lower hL HZ0.out)) HOK0.out (fun j hj => Nat.le_trans hT.old.size hj) hT.r0 hT.old.size HLN0.out ?_
      intro v02 W208 hr hg hat
      have hT2 := hT.app0 hr hg
      refine hK.out _ _ hT2.box (fun _ => ?_)
      clear hK K hT hL hg3 hr hg hat
      (try simp only [Act.put, List.setIfInBounds_toArray, List.set_cons_zero, List.set_cons_succ])
      have hT := hT2
      clear hT2
      refine wpAnyH_ready (rs := [8]) (by kernel_rfl) (by simp) ?_
      refine AllReadyH.cons (o := ?o209) ?a209 (fun K hK => ?b209) ?c209
      case a209 => (simp only [List.getElem?_toArray, List.getElem?_cons_succ, List.getElem?_cons_zero]; rfl)
      go_simp
      refine hK.out _ _ (hT.alloc _).box (fun _ => ?_)
      clear hK K
      (try simp only [Act.put, List.setIfInBounds_toArray, List.set_cons_zero, List.set_cons_succ])
      have hT2 := hT.alloc (.cells #[.int .u64 p.f2] 42)
      have hg8 := Blk.new W208 42 #[.int .u64 p.f2]
      clear hT
      generalize W208.heap.size = ga8 at hg8 ⊢
      generalize W208.alloc (.cells #[.int .u64 p.f2] 42) = W209 at hT2 hg8 ⊢
      have hT := hT2
      clear hT2
      refine wpAnyH_ready (rs := [9]) (by kernel_rfl) (by simp) ?_
      refine AllReadyH.cons (o := ?o210) ?a210 (fun K hK => ?b210) ?c210
      case a210 => (simp only [List.getElem?_toArray, List.getElem?_cons_succ, List.getElem?_cons_zero]; rfl)
      refine R_append_at (Kd.int .u64) w1.heap.size rfl (.tmp 29) (.tmp 32) 35 42 (.int .u64 0) 8 rfl Tryz.underlying35 info42 rfl (by decide) (by decide) v1 l1 p.f2 [.int .u64 p.f2] (fun j => w1.heap.size ≤ j) (fun _ => False) rfl ga8 rfl hg8 rfl (fun _ h => h.elim) (fun j hj => Nat.le_trans hT.old.size hj) hT.r1 hT.old.size HLN1.out ?_
      intro v12 W210 hr hg hat
      have hT2 := hT.app1 hr hg
      refine hK.out _ _ hT2.box (fun _ => ?_)
      clear hK K hT hg8 hr hg hat
      (try simp only [Act.put, List.setIfInBounds_toArray, List.set_cons_zero, List.set_cons_succ])
      have hT := hT2
      clear hT2
      refine' wpAnyH_take (i := 10) (oi := _) (v := _) ?a211 (by kernel_rfl) (by kernel_rfl) (by kernel_rfl) ?b211 (Or.inl ⟨?c211, fun W hW => ?d211⟩) hT.box ?e211
      case a211 => (simp only [List.getElem?_toArray, List.getElem?_cons_succ, List.getElem?_cons_zero]; rfl)
      case c211 => rfl
      case d211 => (obtain ⟨h0, h1, h2, h3, h4, h5⟩ := hW.six; go_simp; try with_reducible rfl)
      case b211 => exact fun _ _ _ h => h
      simp only [Act.put, List.setIfInBounds_toArray, List.set_cons_zero, List.set_cons_succ]
      refine' wpAnyH_take (i := 11) (oi := _) (v := _) ?a212 (by kernel_rfl) (by kernel_rfl) (by kernel_rfl) ?b212 (Or.inl ⟨?c212, fun W hW => ?d212⟩) hT.box ?e212
      case a212 => (simp only [List.getElem?_toArray, List.getElem?_cons_succ, List.getElem?_cons_zero]; rfl)
      case c212 => rfl
      case d212 => (obtain ⟨h0, h1, h2, h3, h4, h5⟩ := hW.six; go_simp; try with_reducible rfl)
      case b212 => exact fun _ _ _ h => h
      simp only [Act.put, List.setIfInBounds_toArray, List.set_cons_zero, List.set_cons_succ]
      refine wpAnyH_done (by kernel_rfl) ?_ _
      go_wp2_with fail
      go_roundw
      case rel => exact ⟨k + 1, v02, v12, by omega, by go_num, rfl, rfl, Lib.hid (by rw [HT0.out]; exact hT.r0), Lib.hid (by rw [HT1.out]; exact hT.r1), Lib.hid hT.old⟩
      case measure => simp [intOf]; omega
      exact AllReadyH.nil
      exact AllReadyH.nil
      refine AllReadyH.cons (o := ?o213) ?a213 (fun K hK => ?b213) ?c213
      case a213 => (simp only [List.getElem?_toArray, List.getElem?_cons_succ, List.getElem?_cons_zero]; rfl)
      go_simp
      refine hK.out _ _ (hT.alloc _).box (fun _ => ?_)
      clear hK K
      (try simp only [Act.put, List.setIfInBounds_toArray, List.set_cons_zero, List.set_cons_succ])
      have hT2 := hT.alloc (.cells #[.int .u64 p.f2] 42)
      have hg8 := Blk.new W207 42 #[.int .u64 p.f2]
      have hL2 := Kd.R_alloc hL (.cells #[.int .u64 p.f2] 42)
      have hg32 := hg3.alloc (.cells #[.int .u64 p.f2] 42)
      clear hT hL hg3
      generalize W207.heap.size = ga8 at hg8 ⊢
      generalize W207.alloc (.cells #[.int .u64 p.f2] 42) = W213 at hT2 hg8 hL2 hg32 ⊢
      have hT := hT2
      have hL := hL2
      have hg3 := hg32
      clear hT2 hL2 hg32
      refine wpAnyH_ready (rs := [4]) (by kernel_rfl) (by simp) ?_
      refine AllReadyH.cons (o := ?o214) ?a214 (fun K hK => ?b214) ?c214
      case a214 => (simp only [List.getElem?_toArray, List.getElem?_cons_succ, List.getElem?_cons_zero]; rfl)
      refine R_append_at StrsK w1.heap.size rfl (.tmp 24) (.tmp 27) 34 45 (.slice none 0 0) 24 rfl Tryz.underlying34 info45 rfl (by decide) (by decide) v0 l0 (strsOf P) [.slice AL nL cL] (fun j => w1.heap.size ≤ j) (fun j => Z ≤ j) rfl ga3 rfl hg3 (Kd.M_row (Kd.R_lower hL HZ0.out)) HOK0.out (fun j hj => Nat.le_trans hT.old.size hj) hT.r0 hT.old.size HLN0.out ?_
      intro v02 W214 hr hg hat
      have hT2 := hT.app0 hr hg
      have hg82 := blk_off hg8 hT.r0 (by decide) hg
      refine hK.out _ _ hT2.box (fun _ => ?_)
      clear hK K hT hL hg3 hr hg hat hg8
      (try simp only [Act.put, List.setIfInBounds_toArray, List.set_cons_zero, List.set_cons_succ])
      have hT := hT2
      clear hT2
      have hg8 := hg82
      clear hg82
      refine wpAnyH_ready (rs := [9]) (by kernel_rfl) (by simp) ?_
      refine AllReadyH.cons (o := ?o215) ?a215 (fun K hK => ?b215) ?c215
      case a215 => (simp only [List.getElem?_toArray, List.getElem?_cons_succ, List.getElem?_cons_zero]; rfl)
      refine R_append_at (Kd.int .u64) w1.heap.size rfl (.tmp 29) (.tmp 32) 35 42 (.int .u64 0) 8 rfl Tryz.underlying35 info42 rfl (by decide) (by decide) v1 l1 p.f2 [.int .u64 p.f2] (fun j => w1.heap.size ≤ j) (fun _ => False) rfl ga8 rfl hg8 rfl (fun _ h => h.elim) (fun j hj => Nat.le_trans hT.old.size hj) hT.r1 hT.old.size HLN1.out ?_
      intro v12 W215 hr hg hat
      have hT2 := hT.app1 hr hg
      refine hK.out _ _ hT2.box (fun _ => ?_)
      clear hK K hT hg8 hr hg hat
      (try simp only [Act.put, List.setIfInBounds_toArray, List.set_cons_zero, List.set_cons_succ])
      have hT := hT2
      clear hT2
      refine' wpAnyH_take (i := 10) (oi := _) (v := _) ?a216 (by kernel_rfl) (by kernel_rfl) (by kernel_rfl) ?b216 (Or.inl ⟨?c216, fun W hW => ?d216⟩) hT.box ?e216
      case a216 => (simp only [List.getElem?_toArray, List.getElem?_cons_succ, List.getElem?_cons_zero]; rfl)
      case c216 => rfl
      case d216 => (obtain ⟨h0, h1, h2, h3, h4, h5⟩ := hW.six; go_simp; try with_reducible rfl)
      case b216 => exact fun _ _ _ h => h
      simp only [Act.put, List.setIfInBounds_toArray, List.set_cons_zero, List.set_cons_succ]
      refine' wpAnyH_take (i := 11) (oi := _) (v := _) ?a217 (by kernel_rfl) (by kernel_rfl) (by kernel_rfl) ?b217 (Or.inl ⟨?c217, fun W hW => ?d217⟩) hT.box ?e217
      case a217 => (simp only [List.getElem?_toArray, List.getElem?_cons_succ, List.getElem?_cons_zero]; rfl)
      case c217 => rfl
      case d217 => (obtain ⟨h0, h1, h2, h3, h4, h5⟩ := hW.six; go_simp; try with_reducible rfl)
      case b217 => exact fun _ _ _ h => h
      simp only [Act.put, List.setIfInBounds_toArray, List.set_cons_zero, List.set_cons_succ]
      refine wpAnyH_done (by kernel_rfl) ?_ _
      go_wp2_with fail
      go_roundw
      case rel => exact ⟨k + 1, v02, v12, by omega, by go_num, rfl, rfl, Lib.hid (by rw [HT0.out]; exact hT.r0), Lib.hid (by rw [HT1.out]; exact hT.r1), Lib.hid hT.old⟩
      case measure => simp [intOf]; omega
      exact AllReadyH.nil
      exact AllReadyH.nil
      exact AllReadyH.nil
      refine AllReadyH.cons (o := ?o218) ?a218 (fun K hK => ?b218) ?c218
      case a218 => (simp only [List.getElem?_toArray, List.getElem?_cons_succ, List.getElem?_cons_zero]; rfl)
      go_simp
      refine hK.out _ _ (hT.alloc _).box (fun _ => ?_)
      clear hK K
      (try simp only [Act.put, List.setIfInBounds_toArray, List.set_cons_zero, List.set_cons_succ])
      have hT2 := hT.alloc (.cells #[.int .u64 p.f2] 42)
      have hg8 := Blk.new W206 42 #[.int .u64 p.f2]
      have hL2 := Kd.R_alloc hL (.cells #[.int .u64 p.f2] 42)
      clear hT hL
      generalize W206.heap.size = ga8 at hg8 ⊢
      generalize W206.alloc (.cells #[.int .u64 p.f2] 42) = W218 at hT2 hg8 hL2 ⊢
      have hT := hT2
      have hL := hL2
      clear hT2 hL2
      refine wpAnyH_ready (rs := [3]) (by kernel_rfl) (by simp) ?_
      refine AllReadyH.cons (o := ?o219) ?a219 (fun K hK => ?b219) ?c219
      case a219 => (simp only [List.getElem?_toArray, List.getElem?_cons_succ, List.getElem?_cons_zero]; rfl)
      go_simp
      refine hK.out _ _ (hT.alloc _).box (fun _ => ?_)
      clear hK K
      (try simp only [Act.put, List.setIfInBounds_toArray, List.set_cons_zero, List.set_cons_succ])
      have hT2 := hT.alloc (.cells #[.slice AL nL cL] 45)
      have hg3 := Blk.new W218 45 #[.slice AL nL cL]
      have hL2 := Kd.R_alloc hL (.cells #[.slice AL nL cL] 45)
      have hg82 := hg8.alloc (.cells #[.slice AL nL cL] 45)
      clear hT hL hg8
      generalize W218.heap.size = ga3 at hg3 ⊢
      generalize W218.alloc (.cells #[.slice AL nL cL] 45) = W219 at hT2 hg3 hL2 hg82 ⊢
      have hT := hT2
      have hL := hL2
      have hg8 := hg82
      clear hT2 hL2 hg82
      refine wpAnyH_ready (rs := [4]) (by kernel_rfl) (by simp) ?_
      refine AllReadyH.cons (o := ?o220) ?a220 (fun K hK => ?b220) ?c220
      case a220 => (simp only [List.getElem?_toArray, List.getElem?_cons_succ, List.getElem?_cons_zero]; rfl)
      refine R_append_at StrsK w1.heap.size rfl (.tmp 24) (.tmp 27) 34 45 (.slice none 0 0) 24 rfl Tryz.underlying34 info45 rfl (by decide) (by decide) v0 l0 (strsOf P) [.slice AL nL cL] (fun j => w1.heap.size ≤ j) (fun j => Z ≤ j) rfl ga3 rfl hg3 (Kd.M_row (Kd.R_lower hL HZ0.out)) HOK0.out (fun j hj => Nat.le_trans hT.old.size hj) hT.r0 hT.old.size HLN0.out ?_
      intro v02 W220 hr hg hat
      have hT2 := hT.app0 hr hg
      have hg82 := blk_off hg8 hT.r0 (by decide) hg
      refine hK.out _ _ hT2.box (fun _ => ?_)
      clear hK K hT hL hg3 hr hg hat hg8
      (try simp only [Act.put, List.setIfInBounds_toArray, List.set_cons_zero, List.set_cons_succ])
      have hT := hT2
      clear hT2
      have hg8 := hg82
      clear hg82
      refine wpAnyH_ready (rs := [9]) (by kernel_rfl) (by simp) ?_
      refine AllReadyH.cons (o := ?o221) ?a221 (fun K hK => ?b221) ?c221
      case a221 => (simp only [List.getElem?_toArray, List.getElem?_cons_succ, List.getElem?_cons_zero]; rfl)
      refine R_append_at (Kd.int .u64) w1.heap.size rfl (.tmp 29) (.tmp 32) 35 42 (.int .u64 0) 8 rfl Tryz.underlying35 info42 rfl (by decide) (by decide) v1 l1 p.f2 [.int .u64 p.f2] (fun j => w1.heap.size ≤ j) (fun _ => False) rfl ga8 rfl hg8 rfl (fun _ h => h.elim) (fun j hj => Nat.le_trans hT.old.size hj) hT.r1 hT.old.size HLN1.out ?_
      intro v12 W221 hr hg hat
      have hT2 := hT.app1 hr hg
      refine hK.out _ _ hT2.box (fun _ => ?_)
      clear hK K hT hg8 hr hg hat
      (try simp only [Act.put, List.setIfInBounds_toArray, List.set_cons_zero, List.set_cons_succ])
      have hT := hT2
      clear hT2
      refine' wpAnyH_take (i := 10) (oi := _) (v := _) ?a222 (by kernel_rfl) (by kernel_rfl) (by kernel_rfl) ?b222 (Or.inl ⟨?c222, fun W hW => ?d222⟩) hT.box ?e222
      case a222 => (simp only [List.getElem?_toArray, List.getElem?_cons_succ, List.getElem?_cons_zero]; rfl)
      case c222 => rfl
      case d222 => (obtain ⟨h0, h1, h2, h3, h4, h5⟩ := hW.six; go_simp; try with_reducible rfl)
      case b222 => exact fun _ _ _ h => h
      simp only [Act.put, List.setIfInBounds_toArray, List.set_cons_zero, List.set_cons_succ]
      refine' wpAnyH_take (i := 11) (oi := _) (v := _) ?a223 (by kernel_rfl) (by kernel_rfl) (by kernel_rfl) ?b223 (Or.inl ⟨?c223, fun W hW => ?d223⟩) hT.box ?e223
      case a223 => (simp only [List.getElem?_toArray, List.getElem?_cons_succ, List.getElem?_cons_zero]; rfl)
      case c223 => rfl
      case d223 => (obtain ⟨h0, h1, h2, h3, h4, h5⟩ := hW.six; go_simp; try with_reducible rfl)
      case b223 => exact fun _ _ _ h => h
      simp only [Act.put, List.setIfInBounds_toArray, List.set_cons_zero, List.set_cons_succ]
      refine wpAnyH_done (by kernel_rfl) ?_ _
      go_wp2_with fail
      go_roundw
      case rel => exact ⟨k + 1, v02, v12, by omega, by go_num, rfl, rfl, Lib.hid (by rw [HT0.out]; exact hT.r0), Lib.hid (by rw [HT1.out]; exact hT.r1), Lib.hid hT.old⟩
      case measure => simp [intOf]; omega
      exact AllReadyH.nil
      exact AllReadyH.nil
      exact AllReadyH.nil
      exact AllReadyH.nil
      refine AllReadyH.cons (o := ?o224) ?a224 (fun K hK => ?b224) ?c224
      case a224 => (simp only [List.getElem?_toArray, List.getElem?_cons_succ, List.getElem?_cons_zero]; rfl)
      go_simp
      refine hK.out _ _ (hT.alloc _).box (fun _ => ?_)
      clear hK K
      (try simp only [Act.put, List.setIfInBounds_toArray, List.set_cons_zero, List.set_cons_succ])
      have hT2 := hT.alloc (.cells #[.int .u64 p.f2] 42)
      have hg8 := Blk.new W1 42 #[.int .u64 p.f2]
      have hC2 := Kd.C_below hC ((Below.refl _ _).alloc (Nat.le_refl _) (.cells #[.int .u64 p.f2] 42))
      clear hT hC
      generalize W1.heap.size = ga8 at hg8 ⊢
      generalize W1.alloc (.cells #[.int .u64 p.f2] 42) = W224 at hT2 hg8 hC2 ⊢
      have hT := hT2
      have hC := hC2
      clear hT2 hC2
      refine wpAnyH_ready (rs := [2]) (by kernel_rfl) (by simp) ?_
      refine AllReadyH.cons (o := ?o225) ?a225 (fun K hK => ?b225) ?c225
      case a225 => (simp only [List.getElem?_toArray, List.getElem?_cons_succ, List.getElem?_cons_zero]; rfl)
      go_simp
      go_at_call 17
      refine (HLC.out W224 hC).mono ?_
      rintro e W225 ⟨AL, nL, cL, rfl, hL0, hb⟩
      (try go_wp2_with fail)
      have hT2 := hT.below hb
      have hL := Kd.R_mono (ok' := fun j => Z ≤ j) (Kd.R_lower hL0 hT.z) (fun j (hj : W224.heap.size ≤ j) => Nat.le_trans hT.z hj)
      have hg82 := blk_on hg8 hb
      refine hK.out _ _ hT2.box (fun _ => ?_)
      clear hK K hT hL0 hb hC hg8
      (try simp only [Act.put, List.setIfInBounds_toArray, List.set_cons_zero, List.set_cons_succ])
      have hT := hT2
      clear hT2
      have hg8 := hg82
      clear hg82
      refine wpAnyH_ready (rs := [3]) (by kernel_rfl) (by simp) ?_
      refine AllReadyH.cons (o := ?o226) ?a226 (fun K hK => ?b226) ?c226
      case a226 => (simp only [List.getElem?_toArray, List.getElem?_cons_succ, List.getElem?_cons_zero]; rfl)
      go_simp
      refine hK.out _ _ (hT.alloc _).box (fun _ => ?_)
      clear hK K
      (try simp only [Act.put, List.setIfInBounds_toArray, List.set_cons_zero, List.set_cons_succ])
      have hT2 := hT.alloc (.cells #[.slice AL nL cL] 45)
      have hg3 := Blk.new W225 45 #[.slice AL nL cL]
      have hL2 := Kd.R_alloc hL (.cells #[.slice AL nL cL] 45)
      have hg82 := hg8.alloc (.cells #[.slice AL nL cL] 45)
      clear hT hL hg8
      generalize W225.heap.size = ga3 at hg3 ⊢
      generalize W225.alloc (.cells #[.slice AL nL cL] 45) = W226 at hT2 hg3 hL2 hg82 ⊢
      have hT := hT2
      have hL := hL2
      have hg8 := hg82
      clear hT2 hL2 hg82
      refine wpAnyH_ready (rs := [4]) (by kernel_rfl) (by simp) ?_
      refine AllReadyH.cons (o := ?o227) ?a227 (fun K hK => ?b227) ?c227
      case a227 => (simp only [List.getElem?_toArray, List.getElem?_cons_succ, List.getElem?_cons_zero]; rfl)
      refine R_append_at StrsK w1.heap.size rfl (.tmp 24) (.tmp 27) 34 45 (.slice none 0 0) 24 rfl Tryz.underlying34 info45 rfl (by decide) (by decide) v0 l0 (strsOf P) [.slice AL nL cL] (fun j => w1.heap.size ≤ j) (fun j => Z ≤ j) rfl ga3 rfl hg3 (Kd.M_row (Kd.R_lower hL HZ0.out)) HOK0.out (fun j hj => Nat.le_trans hT.old.size hj) hT.r0 hT.old.size HLN0.out ?_
      intro v02 W227 hr hg hat
      have hT2 := hT.app0 hr hg
      have hg82 := blk_off hg8 hT.r0 (by decide) hg
      refine hK.out _ _ hT2.box (fun _ => ?_)
      clear hK K hT hL hg3 hr hg hat hg8
      (try simp only [Act.put, List.setIfInBounds_toArray, List.set_cons_zero, List.set_cons_succ])
      have hT := hT2
      clear hT2
      have hg8 := hg82
      clear hg82
      refine wpAnyH_ready (rs := [9]) (by kernel_rfl) (by simp) ?_
      refine AllReadyH.cons (o := ?o228) ?a228 (fun K hK => ?b228) ?c228
      case a228 => (simp only [List.getElem?_toArray, List.getElem?_cons_succ, List.getElem?_cons_zero]; rfl)
      refine R_append_at (Kd.int .u64) w1.heap.size rfl (.tmp 29) (.tmp 32) 35 42 (.int .u64 0) 8 rfl Tryz.underlying35 info42 rfl (by decide) (by decide) v1 l1 p.f2 [.int .u64 p.f2] (fun j => w1.heap.size ≤ j) (fun _ => False) rfl ga8 rfl hg8 rfl (fun _ h => h.elim) (fun j hj => Nat.le_trans hT.old.size hj) hT.r1 hT.old.size HLN1.out ?_
      intro v12 W228 hr hg hat
      have hT2 := hT.app1 hr hg
      refine hK.out _ _ hT2.box (fun _ => ?_)
      clear hK K hT hg8 hr hg hat
      (try simp only [Act.put, List.setIfInBounds_toArray, List.set_cons_zero, List.set_cons_succ])
      have hT := hT2
      clear hT2
      refine' wpAnyH_take (i := 10) (oi := _) (v := _) ?a229 (by kernel_rfl) (by kernel_rfl) (by kernel_rfl) ?b229 (Or.inl ⟨?c229, fun W hW => ?d229⟩) hT.box ?e229
      case a229 => (simp only [List.getElem?_toArray, List.getElem?_cons_succ, List.getElem?_cons_zero]; rfl)
      case c229 => rfl
      case d229 => (obtain ⟨h0, h1, h2, h3, h4, h5⟩ := hW.six; go_simp; try with_reducible rfl)
      case b229 => exact fun _ _ _ h => h
      simp only [Act.put, List.setIfInBounds_toArray, List.set_cons_zero, List.set_cons_succ]
      refine' wpAnyH_take (i := 11) (oi := _) (v := _) ?a230 (by kernel_rfl) (by kernel_rfl) (by kernel_rfl) ?b230 (Or.inl ⟨?c230, fun W hW => ?d230⟩) hT.box ?e230
      case a230 => (simp only [List.getElem?_toArray, List.getElem?_cons_succ, List.getElem?_cons_zero]; rfl)
      case c230 => rfl
      case d230 => (obtain ⟨h0, h1, h2, h3, h4, h5⟩ := hW.six; go_simp; try with_reducible rfl)
      case b230 => exact fun _ _ _ h => h
      simp only [Act.put, List.setIfInBounds_toArray, List.set_cons_zero, List.set_cons_succ]
      refine wpAnyH_done (by kernel_rfl) ?_ _
      go_wp2_with fail
      go_roundw
      case rel => exact ⟨k + 1, v02, v12, by omega, by go_num, rfl, rfl, Lib.hid (by rw [HT0.out]; exact hT.r0), Lib.hid (by rw [HT1.out]; exact hT.r1), Lib.hid hT.old⟩
      case measure => simp [intOf]; omega
      exact AllReadyH.nil
      exact AllReadyH.nil
      exact AllReadyH.nil
      exact AllReadyH.nil
      exact AllReadyH.nil
    · obtain rfl : k = ps.length := by omega
      go_wp2_with fail
      go_ret3
      have h1 := H0'.out
      have h2 := H1'.out
      rw [List.take_length] at h1 h2
      have hws : w.heap.size ≤ w1.heap.size := HB.out.size
      exact ⟨v0, v1, rfl, Kd.R_mono (Kd.R_lower h1 hws) (fun j hj => Nat.le_trans hws hj), Kd.R_mono (Kd.R_lower h2 hws) (fun j hj => Nat.le_trans hws hj), HB.out.trans (Hb.out.mono hws)⟩
end Go.Proofs.YtojdfjohmicopaaGreatDoor
