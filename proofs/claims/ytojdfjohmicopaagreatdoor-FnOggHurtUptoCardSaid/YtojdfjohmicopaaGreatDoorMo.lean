/- Contracts of spec.leastOf, spec.OggSum, spec.told2, laws.same and laws.sameLists (of lists that read alike). Conditions: bounded sizes. What is held while a text is put together in an open order: a box, what was there before, the small slices that wait. Conditions: none. -/
import Derived.Test.YtojdfjohmicopaaGreatDoorMi
import Derived.Test.YtojdfjohmicopaaGreatDoorWN
import Derived.Deep.QuietTactic
import Derived.BigQuiet
import Derived.Test.YtojdfjohmicopaaGreatDoorMg
import Derived.Deep.RegionHeld3
import Derived.Deep.CutRange
namespace Go.Proofs.YtojdfjohmicopaaGreatDoor
open Go Go.RowKit Go.Proofs.YtojdfjohmicopaaGreatDoorW.PrintWords Go.Proofs.YtojdfjohmicopaaGreatDoor.Crc Go.Proofs.YtojdfjohmicopaaGreatDoor.PFnOggHurt

set_option maxHeartbeats 1000000 in
theorem told_any (b : Bool) (w : World) : Calls Tryz.prog 65 #[.bool b] w fun e w' => e = .returned (.int .i64 (if b then 1 else 2)) ∧ w = w' := by
  cases b
  · go_enter Tryz.func65, Tryz.ntmps65
    go_wp2_with fail
    go_ret
    exact ⟨rfl, rfl⟩
  · go_enter Tryz.func65, Tryz.ntmps65
    go_wp2_with fail
    go_ret
    exact ⟨rfl, rfl⟩
theorem sum_any (b : ByteArray) (hb : b.size < 4611686018427387904) (w : World) : Calls Tryz.prog 67 #[.string b] w fun e w' => e = .returned (.int .u32 ((sumI 0#32 (bytesOf b)).toNat : Int)) ∧ Drawn0 w w' := by
  obtain ⟨k, hk⟩ := (ev_sum b hb).rounds
  exact spec_OggSum.calls k b _ w hk
theorem u64_in (z : Int) (h1 : 0 ≤ z) (h2 : z < 18446744073709551616) : IntKind.u64.wrap z = z := by
  have : IntKind.u64.wrap z = z % 18446744073709551616 := by simp [IntKind.wrap, IntKind.bits, IntKind.signed]
  omega
set_option maxRecDepth 100000 in
set_option maxHeartbeats 1000000 in
theorem leastOf_any (b : ByteArray) (hb : b.size ≤ 8) (w : World) : Calls Tryz.prog 68 #[.string b] w fun e w' => e = .returned (.int .u64 (Lib.leZ (bytesOf b))) ∧ w = w' := by
  go_enter Tryz.func68, Tryz.ntmps68
  go_wp2_with fail
  go_loop [3, 4] (fun v z => ∃ (n i : Int), -1 ≤ i ∧ i < b.size ∧ Hid (Lib.leZ ((bytesOf b).drop (i + 1).toNat) = n) ∧ v = .int .u64 n ∧ z = .int .i64 i) (fun _ z => (intOf z + 1).toNat)
  case atStart =>
    refine ⟨0, (b.size : Int) - 1, by omega, by omega, Lib.hid ?_, rfl, rfl⟩
    rw [show ((b.size : Int) - 1 + 1).toNat = b.size by omega, List.drop_of_length_le (by rw [bytesOf_length]; exact Nat.le_refl _)]; rfl
  case round =>
    obtain ⟨n, i, hi0, hi1, HN, rfl, rfl⟩ := hrel
    by_cases hi : 0 ≤ i
    · obtain ⟨k, rfl⟩ := Int.eq_ofNat_of_zero_le hi
      have hl := bytesOf_length b
      have hk : k < b.size := by omega
      have hd : (bytesOf b).drop k = (bytesOf b)[k]'(by omega) :: (bytesOf b).drop (k + 1) := List.drop_eq_getElem_cons (by omega)
      have hbyte := bytesOf_bytes b _ (List.getElem_mem (l := bytesOf b) (n := k) (by omega))
      have hbt : bt b (k : Int) = (bytesOf b)[k]'(by omega) := by
        rw [bt_get, List.getD_eq_getElem?_getD, List.getElem?_eq_getElem (by omega)]; rfl
      have hlt := leZ_lt (l := (bytesOf b).drop (k + 1)) (fun v hv => bytesOf_bytes b v (List.mem_of_mem_drop hv))
      rw [List.length_drop] at hlt
      have hp : (256 : Int) ^ ((bytesOf b).length - (k + 1)) ≤ 72057594037927936 := by
        have hq := Nat.pow_le_pow_right (n := 256) (by decide) (show (bytesOf b).length - (k + 1) ≤ 7 by omega)
        have h7 : 256 ^ 7 = 72057594037927936 := by decide
        rw [h7] at hq
        have e : (256 : Int) ^ ((bytesOf b).length - (k + 1)) = ((256 ^ ((bytesOf b).length - (k + 1)) : Nat) : Int) := by rw [Int.natCast_pow]; rfl
        rw [e]
        generalize 256 ^ ((bytesOf b).length - (k + 1)) = m at hq
        omega
      have hn := HN.out
      rw [show ((k : Int) + 1).toNat = k + 1 by omega] at hn
      rw [hn] at hlt
      have HD := Lib.hid (show Lib.leZ ((bytesOf b).drop k) = n * 256 + (bytesOf b)[k]'(by omega) by rw [hd]; simp only [Lib.leZ, hn]; omega)
      have hn0 : 0 ≤ n := by omega
      have hn1 : n < 72057594037927936 := by omega
      have hx : ∀ h : k < b.size, ((b[k]'h).toNat : Int) = (bytesOf b)[k]'(by omega) := fun h => by rw [← hbt]; exact bt_at b (k : Int) h
      generalize (bytesOf b)[k]'(by omega) = v at hbyte HD hx
      have hw1 : IntKind.u64.wrap (n * 256) = n * 256 := u64_in _ (by omega) (by omega)
      have hw2 : IntKind.u64.wrap v = v := u64_in _ (by omega) (by omega)
      have hor := or64 n v hn0 hn1 hbyte.1 hbyte.2
      clear hd hbt hlt hp hn hl
      go_wp2_with fail
      go_round
      case rel => exact ⟨n * 256 + v, (k : Int) - 1, by omega, by omega, Lib.hid (by rw [show ((k : Int) - 1 + 1).toNat = k by omega]; exact HD.out), rfl, rfl⟩
      case measure => simp [intOf]
    · obtain rfl : i = -1 := by omega
      go_wp2_with fail
      go_ret
      refine ⟨?_, rfl⟩
      have := HN.out
      rw [← this]; rfl
/-- A text of a row of texts, and a row of a row of rows: where it stands. -/
theorem at_str {w : World} {A : Option Addr} {n : Nat} {l : List ByteArray} (h : Kd.C Kd.string w A n l) (i : Nat) (hi : i < l.length) : ∃ ad, A = some ad ∧ w.cell? (ad.add i) = some (.string l[i]) := by
  obtain ⟨h1, _, h2⟩ := h
  obtain ⟨ad, rfl, hc⟩ := h2 (by omega)
  obtain ⟨c, hcl, hk, hu⟩ := hc i _ (List.getElem?_eq_getElem hi)
  have hk' : c = [.string l[i]] := hk
  subst hk'
  refine ⟨ad, rfl, ?_⟩
  have := hu 0 _ rfl
  rwa [show i * Kd.string.sz + 0 = i from by show i * 1 + 0 = i; omega] at this
theorem at_strs {w : World} {A : Option Addr} {n : Nat} {l : List (List ByteArray)} (h : Kd.C (Kd.slice 9 Kd.string) w A n l) (i : Nat) (hi : i < l.length) : ∃ ad B c, A = some ad ∧ w.cell? (ad.add i) = some (.slice B (l[i]).length c) ∧ (l[i]).length ≤ c ∧ Kd.C Kd.string w B (l[i]).length l[i] := by
  obtain ⟨h1, _, h2⟩ := h
  obtain ⟨ad, rfl, hc⟩ := h2 (by omega)
  obtain ⟨c, hcl, hk, hu⟩ := hc i _ (List.getElem?_eq_getElem hi)
  obtain ⟨B, cc, rfl, hlc, hC⟩ := hk
  refine ⟨ad, B, cc, rfl, ?_, hlc, hC⟩
  have := hu 0 _ rfl
  rwa [show i * (Kd.slice 9 Kd.string).sz + 0 = i from by show i * 1 + 0 = i; omega] at this
set_option maxRecDepth 100000 in
set_option maxHeartbeats 1000000 in
theorem same_any (l : List ByteArray) (hl : l.length ≤ 1048576) (A B : Option Addr) (c d : Nat) (w : World) (hA : Kd.C Kd.string w A l.length l) (hB : Kd.C Kd.string w B l.length l) :
    Calls Tryz.prog 21 #[.slice A l.length c, .slice B l.length d] w fun e w' => e = .returned (.bool true) ∧ Drawn0 w w' := by
  have HA := Lib.hid hA
  have HB := Lib.hid hB
  clear hA hB
  go_enter Tryz.func21, Tryz.ntmps21
  go_wp2_with fail
  go_loopw [13] (fun i wr => ∃ k : Nat, k ≤ l.length ∧ i = .int .i64 (k : Int) ∧ Drawn0 w wr) (fun i _ => l.length - (intOf i).toNat)
  case atStart => exact ⟨0, by omega, rfl, Drawn0.refl _⟩
  case round =>
    obtain ⟨k, hk, rfl, HD⟩ := hrel
    by_cases hlt : k < l.length
    · obtain ⟨ad, rfl, h1⟩ := at_str (Kd.C_below HA.out HD.below) k hlt
      obtain ⟨bd, rfl, h2⟩ := at_str (Kd.C_below HB.out HD.below) k hlt
      generalize l[k] = s at h1 h2
      go_wp2_with fail
      go_quiet (fail)
      go_wp2_with fail
      go_roundw
      case rel => exact ⟨k + 1, by omega, by go_num, HD.step _⟩
      case measure => simp [intOf]; omega
    · go_wp2_with fail
      go_ret
      exact ⟨rfl, HD⟩
set_option maxRecDepth 100000 in
set_option maxHeartbeats 1000000 in
theorem sameLists_any (l : List (List ByteArray)) (hl : l.length ≤ 1048576) (hi : ∀ s ∈ l, s.length ≤ 1048576) (A B : Option Addr) (c d : Nat) (w : World) (hA : Kd.C (Kd.slice 9 Kd.string) w A l.length l) (hB : Kd.C (Kd.slice 9 Kd.string) w B l.length l) :
    Calls Tryz.prog 10 #[.slice A l.length c, .slice B l.length d] w fun e w' => e = .returned (.bool true) ∧ Drawn0 w w' := by
  have HA := Lib.hid hA
  have HB := Lib.hid hB
  have HI := Lib.hid hi
  clear hA hB hi
  go_enter Tryz.func10, Tryz.ntmps10
  go_wp2_with fail
  go_loopw [13] (fun i wr => ∃ k : Nat, k ≤ l.length ∧ i = .int .i64 (k : Int) ∧ Drawn0 w wr) (fun i _ => l.length - (intOf i).toNat)
  case atStart => exact ⟨0, by omega, rfl, Drawn0.refl _⟩
  case round =>
    obtain ⟨k, hk, rfl, HD⟩ := hrel
    by_cases hlt : k < l.length
    · obtain ⟨ad, A1, c1, rfl, h1, _, hC1⟩ := at_strs (Kd.C_below HA.out HD.below) k hlt
      obtain ⟨bd, B1, d1, rfl, h2, _, hC2⟩ := at_strs (Kd.C_below HB.out HD.below) k hlt
      have hs := HI.out _ (List.getElem_mem hlt)
      generalize l[k] = s at h1 h2 hC1 hC2 hs
      have HS : ∀ n, Calls Tryz.prog 21 #[.slice A1 s.length c1, .slice B1 s.length d1] (wr.drewN n) fun e w' => e = .returned (.bool true) ∧ ∃ m, w' = (wr.drewN n).drewN m := fun n =>
        (same_any s hs A1 B1 c1 d1 (wr.drewN n) (Kd.C_below hC1 (Drawn0.below ⟨⟨n, rfl⟩⟩)) (Kd.C_below hC2 (Drawn0.below ⟨⟨n, rfl⟩⟩))).mono fun e w' h => ⟨h.1, h.2.out⟩
      have HS := Lib.hid HS
      clear hC1 hC2
      generalize s.length = sn at h1 h2 HS
      go_wp2_with fail
      go_quiet ((go_at_call 21; exact Calls.quiet_of (HS.out _)))
      go_wp2_with fail
      go_roundw
      case rel => exact ⟨k + 1, by omega, by go_num, HD.step _⟩
      case measure => simp [intOf]; omega
    · go_wp2_with fail
      go_ret
      exact ⟨rfl, HD⟩
end Go.Proofs.YtojdfjohmicopaaGreatDoor
namespace Go.Proofs.YtojdfjohmicopaaGreatDoor
open Go Go.RowKit Go.Proofs.YtojdfjohmicopaaGreatDoorW.PrintWords Go.Proofs.YtojdfjohmicopaaGreatDoor.Crc Go.Proofs.YtojdfjohmicopaaGreatDoor.PFnOggHurt

theorem cv2 {W : World} {g : Nat} {a b : Int} (h : Blk W g 5 #[.int .u8 a, .int .u8 b]) : (convert 33 9 (.slice (some ⟨g, 0, none⟩) 2 2)).run Tryz.prog W = .ok (.string (strOfNums [a, b])) W := by
  refine str_at W g 0 2 [a, b] (by simp) (fun k hk => ?_)
  rw [Nat.zero_add, h.cell k]
  match k, hk with
  | 0, _ => rfl
  | 1, _ => rfl
theorem cv1 {W : World} {g : Nat} {a : Int} (h : Blk W g 5 #[.int .u8 a]) : (convert 33 9 (.slice (some ⟨g, 0, none⟩) 1 1)).run Tryz.prog W = .ok (.string (strOfNums [a])) W := by
  refine str_at W g 0 1 [a] (by simp) (fun k hk => ?_)
  rw [Nat.zero_add, h.cell k]
  match k, hk with
  | 0, _ => rfl
theorem blk_on {W w' : World} {g t : Nat} {cs : Array Value} (h : Blk W g t cs) (hb : Below W.heap.size W w') : Blk w' g t cs := h.below hb h.lt
theorem u8_wrap (z : Int) (h0 : 0 ≤ z) (h1 : z ≤ 255) : IntKind.u8.wrap z = z := by
  have : IntKind.u8.wrap z = z % 256 := by simp [IntKind.wrap, IntKind.bits, IntKind.signed]
  omega
theorem wpAnyH_more {P : Program} {ops : Array Oper} {Q : Exit → Act → World → Prop} {md : Region.Mode} {S S' : World → Prop} (hS : ∀ W, S' W → S W) : ∀ (fuel : Nat) (listed : Array Bool) (a : Act) (w : World), wpAnyH P md ops Q S' fuel listed a w → wpAnyH P md ops Q S fuel listed a w
  | 0, _, _, _, h => h
  | fuel + 1, _, _, _, h => ⟨h.1, fun i hi => wpOp_mono (fun a' w' h' => ⟨hS _ h'.1, wpAnyH_more hS fuel _ a' w' h'.2⟩) (h.2 i hi)⟩
/-- What is held: the box, what was below, the small slices that wait. -/
structure KS (w : World) (g t : Nat) (hd : Array Value) (bs : List (Nat × Array Value)) (W : World) : Prop where
  box : Blk W g t hd
  old : Below w.heap.size w W
  sl : ∀ p ∈ bs, Blk W p.1 5 p.2
namespace KS
variable {w W w' : World} {g t : Nat} {hd : Array Value} {bs : List (Nat × Array Value)}
theorem lt (h : KS w g t hd bs W) : g < W.heap.size := h.box.lt
theorem call (h : KS w g t hd bs W) (hb : Below W.heap.size W w') : KS w g t hd bs w' :=
  ⟨blk_on h.box hb, h.old.trans (hb.mono h.old.size), fun p hp => blk_on (h.sl p hp) hb⟩
theorem drew (h : KS w g t hd bs W) : KS w g t hd bs W.drew := ⟨h.box.drew, below_drew' h.old, fun p hp => (h.sl p hp).drew⟩
theorem alloc (h : KS w g t hd bs W) (o : Obj) : KS w g t hd bs (W.alloc o) :=
  ⟨h.box.alloc o, h.old.alloc h.old.size o, fun p hp => (h.sl p hp).alloc o⟩
theorem add (h : KS w g t hd bs W) (cs : Array Value) : KS w g t hd ((W.heap.size, cs) :: bs) (W.alloc (.cells cs 5)) :=
  ⟨h.box.alloc _, h.old.alloc h.old.size _, fun p hp => by
    rcases List.mem_cons.1 hp with rfl | hp
    · exact Blk.new W 5 cs
    · exact (h.sl p hp).alloc _⟩
theorem less {p : Nat × Array Value} (h : KS w g t hd (p :: bs) W) : KS w g t hd bs W := ⟨h.box, h.old, fun q hq => h.sl q (List.mem_cons_of_mem _ hq)⟩
end KS
end Go.Proofs.YtojdfjohmicopaaGreatDoor
