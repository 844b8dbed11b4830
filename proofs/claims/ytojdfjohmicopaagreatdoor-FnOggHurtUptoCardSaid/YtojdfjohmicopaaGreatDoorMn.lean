/- A contract of spec.headText: what it writes is a head's packet. Condition: the numbers are of their kinds. -/
import Derived.Test.YtojdfjohmicopaaGreatDoorMi
import Derived.Test.YtojdfjohmicopaaGreatDoorMg
import Derived.Deep.RegionHeld3
import Derived.Deep.CutRange
namespace Go.Proofs.YtojdfjohmicopaaGreatDoor
open Go Go.RowKit Go.Proofs.YtojdfjohmicopaaGreatDoorW.PrintWords Go.Proofs.YtojdfjohmicopaaGreatDoor.Crc Go.Proofs.YtojdfjohmicopaaGreatDoor.PFnOggHurt

/-- What headText gives. -/
def HeadPost (w : World) (e : Ending) (w' : World) : Prop := ∃ s c, e = .returned (.tuple #[.string s, .int .i64 c]) ∧ (c = 1 ∨ c = 2) ∧ (c = 1 → HeadPk (bytesOf s)) ∧ s.size ≤ 300 ∧ Below w.heap.size w w'
theorem least_any (n : Int) (s : Nat) (hs : s ≤ 8) (w : World) : Calls Tryz.prog 64 #[.int .u64 n, .int .i64 (s : Int)] w fun e w' => (∃ t, e = .returned (.string t) ∧ t.size = s) ∧ Below w.heap.size w w' := by
  obtain ⟨k, hk⟩ := (ev_least n s hs).rounds
  refine (spec_least.calls k n (s : Int) _ w hk).mono ?_
  rintro e w' ⟨rfl, hb⟩
  exact ⟨⟨_, rfl, by rw [strOfNums_size]; simp⟩, hb⟩
set_option maxRecDepth 100000 in
set_option maxHeartbeats 4000000 in
theorem head_no0 (v ch mp pre gn : Int) (rate : Int) (st co : Int) (mapg : ByteArray) (M : Option Addr) (ml mc : Nat) (hno : ¬ (0 ≤ v)) (w : World) : Calls Tryz.prog 28 #[.agg #[.int .i64 v, .int .i64 ch, .int .i64 mp, .int .i64 pre, .int .i64 gn, .int .u32 rate, .int .i64 st, .int .i64 co, .string mapg, .slice M ml mc]] w (HeadPost w) := by
  go_enter Tryz.func28, Tryz.ntmps28
  go_wp2_with fail
  go_ret2
  exact ⟨_, 2, rfl, .inr rfl, fun h => by omega, by simp [ByteArray.size], (Below.refl _ _).alloc (Nat.le_refl _) _⟩
set_option maxRecDepth 100000 in
set_option maxHeartbeats 4000000 in
theorem head_no1 (v ch mp pre gn : Int) (rate : Int) (st co : Int) (mapg : ByteArray) (M : Option Addr) (ml mc : Nat) (hv0 : 0 ≤ v) (hno : ¬ (v ≤ 255)) (w : World) : Calls Tryz.prog 28 #[.agg #[.int .i64 v, .int .i64 ch, .int .i64 mp, .int .i64 pre, .int .i64 gn, .int .u32 rate, .int .i64 st, .int .i64 co, .string mapg, .slice M ml mc]] w (HeadPost w) := by
  go_enter Tryz.func28, Tryz.ntmps28
  go_wp2_with fail
  go_ret2
  exact ⟨_, 2, rfl, .inr rfl, fun h => by omega, by simp [ByteArray.size], (Below.refl _ _).alloc (Nat.le_refl _) _⟩
set_option maxRecDepth 100000 in
set_option maxHeartbeats 4000000 in
theorem head_no2 (v ch mp pre gn : Int) (rate : Int) (st co : Int) (mapg : ByteArray) (M : Option Addr) (ml mc : Nat) (hv0 : 0 ≤ v) (hv1 : v ≤ 255) (hno : ¬ (1 ≤ ch)) (w : World) : Calls Tryz.prog 28 #[.agg #[.int .i64 v, .int .i64 ch, .int .i64 mp, .int .i64 pre, .int .i64 gn, .int .u32 rate, .int .i64 st, .int .i64 co, .string mapg, .slice M ml mc]] w (HeadPost w) := by
  go_enter Tryz.func28, Tryz.ntmps28
  go_wp2_with fail
  go_ret2
  exact ⟨_, 2, rfl, .inr rfl, fun h => by omega, by simp [ByteArray.size], (Below.refl _ _).alloc (Nat.le_refl _) _⟩
set_option maxRecDepth 100000 in
set_option maxHeartbeats 4000000 in
theorem head_no3 (v ch mp pre gn : Int) (rate : Int) (st co : Int) (mapg : ByteArray) (M : Option Addr) (ml mc : Nat) (hv0 : 0 ≤ v) (hv1 : v ≤ 255) (hc0 : 1 ≤ ch) (hno : ¬ (ch ≤ 255)) (w : World) : Calls Tryz.prog 28 #[.agg #[.int .i64 v, .int .i64 ch, .int .i64 mp, .int .i64 pre, .int .i64 gn, .int .u32 rate, .int .i64 st, .int .i64 co, .string mapg, .slice M ml mc]] w (HeadPost w) := by
  go_enter Tryz.func28, Tryz.ntmps28
  go_wp2_with fail
  go_ret2
  exact ⟨_, 2, rfl, .inr rfl, fun h => by omega, by simp [ByteArray.size], (Below.refl _ _).alloc (Nat.le_refl _) _⟩
set_option maxRecDepth 100000 in
set_option maxHeartbeats 4000000 in
theorem head_no4 (v ch mp pre gn : Int) (rate : Int) (st co : Int) (mapg : ByteArray) (M : Option Addr) (ml mc : Nat) (hv0 : 0 ≤ v) (hv1 : v ≤ 255) (hc0 : 1 ≤ ch) (hc1 : ch ≤ 255) (hno : ¬ (0 ≤ mp)) (w : World) : Calls Tryz.prog 28 #[.agg #[.int .i64 v, .int .i64 ch, .int .i64 mp, .int .i64 pre, .int .i64 gn, .int .u32 rate, .int .i64 st, .int .i64 co, .string mapg, .slice M ml mc]] w (HeadPost w) := by
  go_enter Tryz.func28, Tryz.ntmps28
  go_wp2_with fail
  go_ret2
  exact ⟨_, 2, rfl, .inr rfl, fun h => by omega, by simp [ByteArray.size], (Below.refl _ _).alloc (Nat.le_refl _) _⟩
set_option maxRecDepth 100000 in
set_option maxHeartbeats 4000000 in
theorem head_no5 (v ch mp pre gn : Int) (rate : Int) (st co : Int) (mapg : ByteArray) (M : Option Addr) (ml mc : Nat) (hv0 : 0 ≤ v) (hv1 : v ≤ 255) (hc0 : 1 ≤ ch) (hc1 : ch ≤ 255) (hm0 : 0 ≤ mp) (hno : ¬ (mp ≤ 255)) (w : World) : Calls Tryz.prog 28 #[.agg #[.int .i64 v, .int .i64 ch, .int .i64 mp, .int .i64 pre, .int .i64 gn, .int .u32 rate, .int .i64 st, .int .i64 co, .string mapg, .slice M ml mc]] w (HeadPost w) := by
  go_enter Tryz.func28, Tryz.ntmps28
  go_wp2_with fail
  go_ret2
  exact ⟨_, 2, rfl, .inr rfl, fun h => by omega, by simp [ByteArray.size], (Below.refl _ _).alloc (Nat.le_refl _) _⟩
set_option maxRecDepth 100000 in
set_option maxHeartbeats 4000000 in
theorem head_no6 (v ch mp pre gn : Int) (rate : Int) (st co : Int) (mapg : ByteArray) (M : Option Addr) (ml mc : Nat) (hv0 : 0 ≤ v) (hv1 : v ≤ 255) (hc0 : 1 ≤ ch) (hc1 : ch ≤ 255) (hm0 : 0 ≤ mp) (hm1 : mp ≤ 255) (hno : ¬ (0 ≤ pre)) (w : World) : Calls Tryz.prog 28 #[.agg #[.int .i64 v, .int .i64 ch, .int .i64 mp, .int .i64 pre, .int .i64 gn, .int .u32 rate, .int .i64 st, .int .i64 co, .string mapg, .slice M ml mc]] w (HeadPost w) := by
  go_enter Tryz.func28, Tryz.ntmps28
  go_wp2_with fail
  go_ret2
  exact ⟨_, 2, rfl, .inr rfl, fun h => by omega, by simp [ByteArray.size], (Below.refl _ _).alloc (Nat.le_refl _) _⟩
set_option maxRecDepth 100000 in
set_option maxHeartbeats 4000000 in
theorem head_no7 (v ch mp pre gn : Int) (rate : Int) (st co : Int) (mapg : ByteArray) (M : Option Addr) (ml mc : Nat) (hv0 : 0 ≤ v) (hv1 : v ≤ 255) (hc0 : 1 ≤ ch) (hc1 : ch ≤ 255) (hm0 : 0 ≤ mp) (hm1 : mp ≤ 255) (hp0 : 0 ≤ pre) (hno : ¬ (pre ≤ 65535)) (w : World) : Calls Tryz.prog 28 #[.agg #[.int .i64 v, .int .i64 ch, .int .i64 mp, .int .i64 pre, .int .i64 gn, .int .u32 rate, .int .i64 st, .int .i64 co, .string mapg, .slice M ml mc]] w (HeadPost w) := by
  go_enter Tryz.func28, Tryz.ntmps28
  go_wp2_with fail
  go_ret2
  exact ⟨_, 2, rfl, .inr rfl, fun h => by omega, by simp [ByteArray.size], (Below.refl _ _).alloc (Nat.le_refl _) _⟩
set_option maxRecDepth 100000 in
set_option maxHeartbeats 4000000 in
theorem head_no8 (v ch mp pre gn : Int) (rate : Int) (st co : Int) (mapg : ByteArray) (M : Option Addr) (ml mc : Nat) (hv0 : 0 ≤ v) (hv1 : v ≤ 255) (hc0 : 1 ≤ ch) (hc1 : ch ≤ 255) (hm0 : 0 ≤ mp) (hm1 : mp ≤ 255) (hp0 : 0 ≤ pre) (hp1 : pre ≤ 65535) (hno : ¬ (-32768 ≤ gn)) (w : World) : Calls Tryz.prog 28 #[.agg #[.int .i64 v, .int .i64 ch, .int .i64 mp, .int .i64 pre, .int .i64 gn, .int .u32 rate, .int .i64 st, .int .i64 co, .string mapg, .slice M ml mc]] w (HeadPost w) := by
  go_enter Tryz.func28, Tryz.ntmps28
  go_wp2_with fail
  go_ret2
  exact ⟨_, 2, rfl, .inr rfl, fun h => by omega, by simp [ByteArray.size], (Below.refl _ _).alloc (Nat.le_refl _) _⟩
set_option maxRecDepth 100000 in
set_option maxHeartbeats 4000000 in
theorem head_no9 (v ch mp pre gn : Int) (rate : Int) (st co : Int) (mapg : ByteArray) (M : Option Addr) (ml mc : Nat) (hv0 : 0 ≤ v) (hv1 : v ≤ 255) (hc0 : 1 ≤ ch) (hc1 : ch ≤ 255) (hm0 : 0 ≤ mp) (hm1 : mp ≤ 255) (hp0 : 0 ≤ pre) (hp1 : pre ≤ 65535) (hg0 : -32768 ≤ gn) (hno : ¬ (gn ≤ 65535)) (w : World) : Calls Tryz.prog 28 #[.agg #[.int .i64 v, .int .i64 ch, .int .i64 mp, .int .i64 pre, .int .i64 gn, .int .u32 rate, .int .i64 st, .int .i64 co, .string mapg, .slice M ml mc]] w (HeadPost w) := by
  go_enter Tryz.func28, Tryz.ntmps28
  go_wp2_with fail
  go_ret2
  exact ⟨_, 2, rfl, .inr rfl, fun h => by omega, by simp [ByteArray.size], (Below.refl _ _).alloc (Nat.le_refl _) _⟩
set_option maxRecDepth 100000 in
set_option maxHeartbeats 4000000 in
theorem head_no10 (v ch mp pre gn : Int) (rate : Int) (st co : Int) (mapg : ByteArray) (M : Option Addr) (ml mc : Nat) (hv0 : 0 ≤ v) (hv1 : v ≤ 255) (hc0 : 1 ≤ ch) (hc1 : ch ≤ 255) (hm0 : 0 ≤ mp) (hm1 : mp ≤ 255) (hp0 : 0 ≤ pre) (hp1 : pre ≤ 65535) (hg0 : -32768 ≤ gn) (hg1 : gn ≤ 65535) (hno : ¬ (ml = 0)) (w : World) : Calls Tryz.prog 28 #[.agg #[.int .i64 v, .int .i64 ch, .int .i64 mp, .int .i64 pre, .int .i64 gn, .int .u32 rate, .int .i64 st, .int .i64 co, .string mapg, .slice M ml mc]] w (HeadPost w) := by
  go_enter Tryz.func28, Tryz.ntmps28
  go_wp2_with fail
  go_ret2
  exact ⟨_, 2, rfl, .inr rfl, fun h => by omega, by simp [ByteArray.size], (Below.refl _ _).alloc (Nat.le_refl _) _⟩
end Go.Proofs.YtojdfjohmicopaaGreatDoor
