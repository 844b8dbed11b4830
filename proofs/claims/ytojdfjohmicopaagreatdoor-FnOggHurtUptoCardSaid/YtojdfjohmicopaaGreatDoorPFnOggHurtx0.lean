-- PRINTED BY print.sh 35421559b90ae4d0a3588c463048766b98c2df88dd9212a6774a882060cdf62d: not written by this session
import Derived.Test.YtojdfjohmicopaaGreatDoorProg
import Derived.Below
import Derived.Deep.Draws
import Derived.Deep.AppendLies
import Derived.Maps.AppendAt
import Derived.OwnWalk
import Derived.Laws.BytesArg
import Derived.Laws.MakeOwn
import Derived.Laws.OwnMore
import Derived.Deep.OwnRows
import Derived.Tactics
import Derived.Lib.ConvBytes
import Derived.Laws.Slices
import Derived.WalkKit
import Derived.KernelRfl
import Derived.RowKit3
import Derived.Deep.LoopGhost
import Derived.Deep.QuietTactic
import Derived.BigQuiet
import Derived.WideLaws
import Derived.Deep.DeepCutAuto
import Derived.Deep.CutBlock
import Derived.Deep.RegionHeld3
import Derived.Laws.Rows
import Derived.Lib.AppendStr
import Derived.ArgAppend
import Derived.Laws.IdiomCopy
import Derived.OrdersHeld
import Derived.Laws.BitsLemmas
import Derived.RowKit
import Derived.Test.YtojdfjohmicopaaGreatDoorWWords
import Derived.Test.YtojdfjohmicopaaGreatDoorWLast
import Derived.Test.YtojdfjohmicopaaGreatDoorWTab
import Derived.Test.YtojdfjohmicopaaGreatDoorWFour
import Derived.Test.YtojdfjohmicopaaGreatDoorWQPut
import Derived.Test.YtojdfjohmicopaaGreatDoorWApart
import Derived.Test.YtojdfjohmicopaaGreatDoorWArr
import Derived.Test.YtojdfjohmicopaaGreatDoorWZeros
import Derived.Test.YtojdfjohmicopaaGreatDoorWFoot
import Derived.Test.YtojdfjohmicopaaGreatDoorWKept
import Derived.Test.YtojdfjohmicopaaGreatDoorWShare
import Derived.Test.YtojdfjohmicopaaGreatDoorWN
import Derived.Test.YtojdfjohmicopaaGreatDoorWFootNe
import Derived.Test.YtojdfjohmicopaaGreatDoorWAt
import Derived.Test.YtojdfjohmicopaaGreatDoorWEqStruct
import Derived.Test.YtojdfjohmicopaaGreatDoorWRepsOne
import Derived.Test.YtojdfjohmicopaaGreatDoorWInv
import Derived.Test.YtojdfjohmicopaaGreatDoorWInvWords
import Derived.Test.YtojdfjohmicopaaGreatDoorWGuard
import Derived.Test.YtojdfjohmicopaaGreatDoorWNEv
import Derived.Test.YtojdfjohmicopaaGreatDoorWMore
namespace Go.Proofs.YtojdfjohmicopaaGreatDoor.PFnOggHurt
open Go.RowKit Go.Proofs.YtojdfjohmicopaaGreatDoorW.PrintWords Go.Proofs.YtojdfjohmicopaaGreatDoorW.PrintLast Go.Proofs.YtojdfjohmicopaaGreatDoorW.PrintMore
attribute [local go_sem] max2_int min2_int max_two min_two max_three min_three max_four min_four   -- for this text's walks alone
set_option linter.unusedVariables false
set_option linter.unusedSimpArgs false



def errW : Option Int → Value
  | none => .nilIface
  | some c => .iface 0 (.int .i64 c)
theorem errW_none : errW none = .nilIface := rfl
theorem errW_some (c : Int) : errW (some c) = .iface 0 (.int .i64 c) := rfl

theorem info5 : (Tryz.prog.info? 5).map (fun i => (i.zero, i.size, i.bytes)) = some (some (.int .u8 0), 1, 1) := by kernel_rfl
theorem info9 : (Tryz.prog.info? 9).map (fun i => (i.zero, i.size, i.bytes)) = some (some (.string ⟨#[]⟩), 1, 16) := by kernel_rfl
theorem info42 : (Tryz.prog.info? 42).map (fun i => (i.zero, i.size, i.bytes)) = some (some (.int .u64 0), 1, 8) := by kernel_rfl
theorem info45 : (Tryz.prog.info? 45).map (fun i => (i.zero, i.size, i.bytes)) = some (some (.slice none 0 0), 1, 24) := by kernel_rfl
theorem info47 : (Tryz.prog.info? 47).map (fun i => (i.zero, i.size, i.bytes)) = some (some (.agg #[(.int .u32 0), (.int .u32 0), (.int .u64 0), (.int .i64 0), (.slice none 0 0), (.bool false)]), 6, 56) := by kernel_rfl
theorem info97 : (Tryz.prog.info? 97).map (fun i => (i.zero, i.size, i.bytes)) = some (some (.agg #[(.int .i64 0), (.int .u32 0), (.int .u32 0), (.int .u32 0), (.int .i64 0), (.slice none 0 0)]), 6, 56) := by kernel_rfl
theorem info98 : (Tryz.prog.info? 98).map (fun i => (i.zero, i.size, i.bytes)) = some (some (.int .u64 0), 1, 8) := by kernel_rfl
theorem info192 : (Tryz.prog.info? 192).map (fun i => (i.zero, i.size, i.bytes)) = some (some (.int .i16 0), 1, 2) := by kernel_rfl
-- the values' own types
def rd_L4 (xs : List (List ByteArray)) (i : Int) : (List ByteArray) := xs.getD i.toNat ([] : List ByteArray)
theorem at_L4 {w : World} {A : Option Addr} {n : Nat} {xs : List (List ByteArray)} (h : Kd.C (Kd.slice 9 Kd.string) w A n xs) (i : Int) (h0 : 0 ≤ i) (h1 : i < n) : ∃ ad A0 c0, A = some ad ∧ w.cell? (ad.add i.toNat) = some (.slice A0 (rd_L4 xs i).length c0) ∧ (rd_L4 xs i).length ≤ c0 ∧ Kd.string.C w A0 (rd_L4 xs i).length (rd_L4 xs i) := by
  obtain ⟨ad, c, e, _, hK, hc0⟩ := Kd.C_get h ([] : List ByteArray) i h0 h1
  have hc : ∀ j u, c[j]? = some u → w.cell? (ad.add (i.toNat * 1 + j)) = some u := hc0
  obtain ⟨A0, c0, rfl, l0, g0⟩ := hK
  exact ⟨ad, A0, c0, e, by have hq := hc 0 _ rfl; rwa [Nat.mul_one, Nat.add_zero] at hq, l0, g0⟩

/-! #### struct type 47 -/
structure S47 where
  f0 : Int
  f1 : Int
  f2 : Int
  f3 : Int
  f4 : (List ByteArray)
  f5 : Bool
def z47 : S47 := ⟨(0 : Int), (0 : Int), (0 : Int), (0 : Int), ([] : List ByteArray), false⟩
def k47 : Kd S47 := Kd.iso (Kd.pair (Kd.int .u32) (Kd.pair (Kd.int .u32) (Kd.pair (Kd.int .u64) (Kd.pair (Kd.int .i64) (Kd.pair (Kd.slice 9 Kd.string) Kd.bool))))) (fun x : S47 => (x.f0, x.f1, x.f2, x.f3, x.f4, x.f5))
theorem k47_open {w : World} {x : S47} {cs : List Value} (h : k47.K w x cs) : ∃ A4 c4, cs = [.int .u32 x.f0, .int .u32 x.f1, .int .u64 x.f2, .int .i64 x.f3, .slice A4 x.f4.length c4, .bool x.f5] ∧ x.f4.length ≤ c4 ∧ Kd.string.C w A4 x.f4.length x.f4 := by
  obtain ⟨_, _, rfl, rfl, ⟨_, _, rfl, rfl, ⟨_, _, rfl, rfl, ⟨_, _, rfl, rfl, ⟨_, _, rfl, ⟨A4, c4, rfl, l4, g4⟩, rfl⟩⟩⟩⟩⟩ := h
  exact ⟨A4, c4, rfl, l4, g4⟩
theorem k47_openM {w : World} {base : Nat} {ok : Nat → Prop} {x : S47} {cs : List Value} (h : k47.M w base ok x cs) : ∃ v4, cs = [.int .u32 x.f0, .int .u32 x.f1, .int .u64 x.f2, .int .i64 x.f3, v4, .bool x.f5] ∧ Kd.string.R 9 w base ok v4 x.f4 := by
  obtain ⟨_, _, rfl, rfl, ⟨_, _, rfl, rfl, ⟨_, _, rfl, rfl, ⟨_, _, rfl, rfl, ⟨_, _, rfl, ⟨v4, rfl, g4⟩, rfl⟩⟩⟩⟩⟩ := h
  exact ⟨v4, rfl, g4⟩
theorem k47_mk (w : World) (x : S47) {A4 : Option Addr} {c4 : Nat} (l4 : x.f4.length ≤ c4) (g4 : Kd.string.C w A4 x.f4.length x.f4) : k47.K w x [.int .u32 x.f0, .int .u32 x.f1, .int .u64 x.f2, .int .i64 x.f3, .slice A4 x.f4.length c4, .bool x.f5] := ⟨[.int .u32 x.f0], [.int .u32 x.f1, .int .u64 x.f2, .int .i64 x.f3, .slice A4 x.f4.length c4, .bool x.f5], rfl, rfl, ⟨[.int .u32 x.f1], [.int .u64 x.f2, .int .i64 x.f3, .slice A4 x.f4.length c4, .bool x.f5], rfl, rfl, ⟨[.int .u64 x.f2], [.int .i64 x.f3, .slice A4 x.f4.length c4, .bool x.f5], rfl, rfl, ⟨[.int .i64 x.f3], [.slice A4 x.f4.length c4, .bool x.f5], rfl, rfl, ⟨[.slice A4 x.f4.length c4], [.bool x.f5], rfl, ⟨A4, c4, rfl, l4, g4⟩, rfl⟩⟩⟩⟩⟩
theorem k47_mkM (w : World) (base : Nat) (ok : Nat → Prop) (x : S47) {v4 : Value} (g4 : Kd.string.R 9 w base ok v4 x.f4) : k47.M w base ok x [.int .u32 x.f0, .int .u32 x.f1, .int .u64 x.f2, .int .i64 x.f3, v4, .bool x.f5] := ⟨[.int .u32 x.f0], [.int .u32 x.f1, .int .u64 x.f2, .int .i64 x.f3, v4, .bool x.f5], rfl, rfl, ⟨[.int .u32 x.f1], [.int .u64 x.f2, .int .i64 x.f3, v4, .bool x.f5], rfl, rfl, ⟨[.int .u64 x.f2], [.int .i64 x.f3, v4, .bool x.f5], rfl, rfl, ⟨[.int .i64 x.f3], [v4, .bool x.f5], rfl, rfl, ⟨[v4], [.bool x.f5], rfl, ⟨v4, rfl, g4⟩, rfl⟩⟩⟩⟩⟩
theorem k47_openF {W : World} {ok : Nat → Prop} {x : S47} {cs : List Value} (h : Kd.FK k47 W ok x cs) : ∃ A4 c4, cs = [.int .u32 x.f0, .int .u32 x.f1, .int .u64 x.f2, .int .i64 x.f3, .slice A4 x.f4.length c4, .bool x.f5] ∧ x.f4.length ≤ c4 ∧ Kd.F Kd.string W ok A4 x.f4.length x.f4 := by
  obtain ⟨A4, c4, rfl, l4, _⟩ := k47_open (Kd.FK_now h)
  exact ⟨A4, c4, rfl, l4, (fun W' hW => by obtain ⟨A4_, c4_, he, l4_, g4_⟩ := k47_open (h W' hW); injection (Option.some.inj (show some (Value.slice A4 x.f4.length c4) = some (Value.slice A4_ x.f4.length c4_) from congrArg (fun l => l[4]?) he)) with ha_ _ _; rw [ha_]; exact g4_)⟩
theorem k47_mkF (W : World) (ok : Nat → Prop) (x : S47) {A4 : Option Addr} {c4 : Nat} (l4 : x.f4.length ≤ c4) (g4 : Kd.F Kd.string W ok A4 x.f4.length x.f4) : Kd.FK k47 W ok x [.int .u32 x.f0, .int .u32 x.f1, .int .u64 x.f2, .int .i64 x.f3, .slice A4 x.f4.length c4, .bool x.f5] := fun W2 hW => k47_mk W2 x l4 (g4 W2 hW)
def rd_T47 (xs : List S47) (i : Int) : S47 := xs.getD i.toNat z47
theorem at_T47 {w : World} {A : Option Addr} {n : Nat} {xs : List S47} (h : Kd.C k47 w A n xs) (i : Int) (h0 : 0 ≤ i) (h1 : i < n) : ∃ ad A4 c4, A = some ad ∧ w.cell? (ad.add (i.toNat * 6)) = some (.int .u32 (rd_T47 xs i).f0) ∧ w.cell? ⟨(ad.add (i.toNat * 6)).block, (ad.add (i.toNat * 6)).off + 1, none⟩ = some (.int .u32 (rd_T47 xs i).f1) ∧ w.cell? ⟨(ad.add (i.toNat * 6)).block, (ad.add (i.toNat * 6)).off + 2, none⟩ = some (.int .u64 (rd_T47 xs i).f2) ∧ w.cell? ⟨(ad.add (i.toNat * 6)).block, (ad.add (i.toNat * 6)).off + 3, none⟩ = some (.int .i64 (rd_T47 xs i).f3) ∧ w.cell? ⟨(ad.add (i.toNat * 6)).block, (ad.add (i.toNat * 6)).off + 4, none⟩ = some (.slice A4 (rd_T47 xs i).f4.length c4) ∧ w.cell? ⟨(ad.add (i.toNat * 6)).block, (ad.add (i.toNat * 6)).off + 5, none⟩ = some (.bool (rd_T47 xs i).f5) ∧ (rd_T47 xs i).f4.length ≤ c4 ∧ Kd.string.C w A4 (rd_T47 xs i).f4.length (rd_T47 xs i).f4 := by
  obtain ⟨ad, c, e, _, hK, hc0⟩ := Kd.C_get h z47 i h0 h1
  have hc : ∀ j u, c[j]? = some u → w.cell? (ad.add (i.toNat * 6 + j)) = some u := hc0
  obtain ⟨A4, c4, rfl, l4, g4⟩ := k47_open hK
  exact ⟨ad, A4, c4, e, hc 0 _ rfl, by rw [← add_field _ _ 1 (by omega)]; exact hc 1 _ rfl, by rw [← add_field _ _ 2 (by omega)]; exact hc 2 _ rfl, by rw [← add_field _ _ 3 (by omega)]; exact hc 3 _ rfl, by rw [← add_field _ _ 4 (by omega)]; exact hc 4 _ rfl, by rw [← add_field _ _ 5 (by omega)]; exact hc 5 _ rfl, l4, g4⟩

def rd_L9 (xs : List (List Int)) (i : Int) : (List Int) := xs.getD i.toNat ([] : List Int)
theorem at_L9 {w : World} {A : Option Addr} {n : Nat} {xs : List (List Int)} (h : Kd.C (Kd.slice 22 (Kd.int .u32)) w A n xs) (i : Int) (h0 : 0 ≤ i) (h1 : i < n) : ∃ ad A0 c0, A = some ad ∧ w.cell? (ad.add i.toNat) = some (.slice A0 (rd_L9 xs i).length c0) ∧ (rd_L9 xs i).length ≤ c0 ∧ (Kd.int .u32).C w A0 (rd_L9 xs i).length (rd_L9 xs i) := by
  obtain ⟨ad, c, e, _, hK, hc0⟩ := Kd.C_get h ([] : List Int) i h0 h1
  have hc : ∀ j u, c[j]? = some u → w.cell? (ad.add (i.toNat * 1 + j)) = some u := hc0
  obtain ⟨A0, c0, rfl, l0, g0⟩ := hK
  exact ⟨ad, A0, c0, e, by have hq := hc 0 _ rfl; rwa [Nat.mul_one, Nat.add_zero] at hq, l0, g0⟩

/-! #### struct type 75 -/
structure S75 where
  f0 : Int
  f1 : Int
  f2 : Int
  f3 : Int
  f4 : Int
  f5 : (List Int)
def z75 : S75 := ⟨(0 : Int), (0 : Int), (0 : Int), (0 : Int), (0 : Int), ([] : List Int)⟩
def k75 : Kd S75 := Kd.iso (Kd.pair (Kd.int .i64) (Kd.pair (Kd.int .u32) (Kd.pair (Kd.int .u32) (Kd.pair (Kd.int .u32) (Kd.pair (Kd.int .i64) (Kd.slice 22 (Kd.int .u32))))))) (fun x : S75 => (x.f0, x.f1, x.f2, x.f3, x.f4, x.f5))
theorem k75_open {w : World} {x : S75} {cs : List Value} (h : k75.K w x cs) : ∃ A5 c5, cs = [.int .i64 x.f0, .int .u32 x.f1, .int .u32 x.f2, .int .u32 x.f3, .int .i64 x.f4, .slice A5 x.f5.length c5] ∧ x.f5.length ≤ c5 ∧ (Kd.int .u32).C w A5 x.f5.length x.f5 := by
  obtain ⟨_, _, rfl, rfl, ⟨_, _, rfl, rfl, ⟨_, _, rfl, rfl, ⟨_, _, rfl, rfl, ⟨_, _, rfl, rfl, ⟨A5, c5, rfl, l5, g5⟩⟩⟩⟩⟩⟩ := h
  exact ⟨A5, c5, rfl, l5, g5⟩
theorem k75_openM {w : World} {base : Nat} {ok : Nat → Prop} {x : S75} {cs : List Value} (h : k75.M w base ok x cs) : ∃ v5, cs = [.int .i64 x.f0, .int .u32 x.f1, .int .u32 x.f2, .int .u32 x.f3, .int .i64 x.f4, v5] ∧ (Kd.int .u32).R 22 w base ok v5 x.f5 := by
  obtain ⟨_, _, rfl, rfl, ⟨_, _, rfl, rfl, ⟨_, _, rfl, rfl, ⟨_, _, rfl, rfl, ⟨_, _, rfl, rfl, ⟨v5, rfl, g5⟩⟩⟩⟩⟩⟩ := h
  exact ⟨v5, rfl, g5⟩
theorem k75_mk (w : World) (x : S75) {A5 : Option Addr} {c5 : Nat} (l5 : x.f5.length ≤ c5) (g5 : (Kd.int .u32).C w A5 x.f5.length x.f5) : k75.K w x [.int .i64 x.f0, .int .u32 x.f1, .int .u32 x.f2, .int .u32 x.f3, .int .i64 x.f4, .slice A5 x.f5.length c5] := ⟨[.int .i64 x.f0], [.int .u32 x.f1, .int .u32 x.f2, .int .u32 x.f3, .int .i64 x.f4, .slice A5 x.f5.length c5], rfl, rfl, ⟨[.int .u32 x.f1], [.int .u32 x.f2, .int .u32 x.f3, .int .i64 x.f4, .slice A5 x.f5.length c5], rfl, rfl, ⟨[.int .u32 x.f2], [.int .u32 x.f3, .int .i64 x.f4, .slice A5 x.f5.length c5], rfl, rfl, ⟨[.int .u32 x.f3], [.int .i64 x.f4, .slice A5 x.f5.length c5], rfl, rfl, ⟨[.int .i64 x.f4], [.slice A5 x.f5.length c5], rfl, rfl, ⟨A5, c5, rfl, l5, g5⟩⟩⟩⟩⟩⟩
theorem k75_mkM (w : World) (base : Nat) (ok : Nat → Prop) (x : S75) {v5 : Value} (g5 : (Kd.int .u32).R 22 w base ok v5 x.f5) : k75.M w base ok x [.int .i64 x.f0, .int .u32 x.f1, .int .u32 x.f2, .int .u32 x.f3, .int .i64 x.f4, v5] := ⟨[.int .i64 x.f0], [.int .u32 x.f1, .int .u32 x.f2, .int .u32 x.f3, .int .i64 x.f4, v5], rfl, rfl, ⟨[.int .u32 x.f1], [.int .u32 x.f2, .int .u32 x.f3, .int .i64 x.f4, v5], rfl, rfl, ⟨[.int .u32 x.f2], [.int .u32 x.f3, .int .i64 x.f4, v5], rfl, rfl, ⟨[.int .u32 x.f3], [.int .i64 x.f4, v5], rfl, rfl, ⟨[.int .i64 x.f4], [v5], rfl, rfl, ⟨v5, rfl, g5⟩⟩⟩⟩⟩⟩
theorem k75_openF {W : World} {ok : Nat → Prop} {x : S75} {cs : List Value} (h : Kd.FK k75 W ok x cs) : ∃ A5 c5, cs = [.int .i64 x.f0, .int .u32 x.f1, .int .u32 x.f2, .int .u32 x.f3, .int .i64 x.f4, .slice A5 x.f5.length c5] ∧ x.f5.length ≤ c5 ∧ Kd.F (Kd.int .u32) W ok A5 x.f5.length x.f5 := by
  obtain ⟨A5, c5, rfl, l5, _⟩ := k75_open (Kd.FK_now h)
  exact ⟨A5, c5, rfl, l5, (fun W' hW => by obtain ⟨A5_, c5_, he, l5_, g5_⟩ := k75_open (h W' hW); injection (Option.some.inj (show some (Value.slice A5 x.f5.length c5) = some (Value.slice A5_ x.f5.length c5_) from congrArg (fun l => l[5]?) he)) with ha_ _ _; rw [ha_]; exact g5_)⟩
theorem k75_mkF (W : World) (ok : Nat → Prop) (x : S75) {A5 : Option Addr} {c5 : Nat} (l5 : x.f5.length ≤ c5) (g5 : Kd.F (Kd.int .u32) W ok A5 x.f5.length x.f5) : Kd.FK k75 W ok x [.int .i64 x.f0, .int .u32 x.f1, .int .u32 x.f2, .int .u32 x.f3, .int .i64 x.f4, .slice A5 x.f5.length c5] := fun W2 hW => k75_mk W2 x l5 (g5 W2 hW)
def rd_T75 (xs : List S75) (i : Int) : S75 := xs.getD i.toNat z75
theorem at_T75 {w : World} {A : Option Addr} {n : Nat} {xs : List S75} (h : Kd.C k75 w A n xs) (i : Int) (h0 : 0 ≤ i) (h1 : i < n) : ∃ ad A5 c5, A = some ad ∧ w.cell? (ad.add (i.toNat * 6)) = some (.int .i64 (rd_T75 xs i).f0) ∧ w.cell? ⟨(ad.add (i.toNat * 6)).block, (ad.add (i.toNat * 6)).off + 1, none⟩ = some (.int .u32 (rd_T75 xs i).f1) ∧ w.cell? ⟨(ad.add (i.toNat * 6)).block, (ad.add (i.toNat * 6)).off + 2, none⟩ = some (.int .u32 (rd_T75 xs i).f2) ∧ w.cell? ⟨(ad.add (i.toNat * 6)).block, (ad.add (i.toNat * 6)).off + 3, none⟩ = some (.int .u32 (rd_T75 xs i).f3) ∧ w.cell? ⟨(ad.add (i.toNat * 6)).block, (ad.add (i.toNat * 6)).off + 4, none⟩ = some (.int .i64 (rd_T75 xs i).f4) ∧ w.cell? ⟨(ad.add (i.toNat * 6)).block, (ad.add (i.toNat * 6)).off + 5, none⟩ = some (.slice A5 (rd_T75 xs i).f5.length c5) ∧ (rd_T75 xs i).f5.length ≤ c5 ∧ (Kd.int .u32).C w A5 (rd_T75 xs i).f5.length (rd_T75 xs i).f5 := by
  obtain ⟨ad, c, e, _, hK, hc0⟩ := Kd.C_get h z75 i h0 h1
  have hc : ∀ j u, c[j]? = some u → w.cell? (ad.add (i.toNat * 6 + j)) = some u := hc0
  obtain ⟨A5, c5, rfl, l5, g5⟩ := k75_open hK
  exact ⟨ad, A5, c5, e, hc 0 _ rfl, by rw [← add_field _ _ 1 (by omega)]; exact hc 1 _ rfl, by rw [← add_field _ _ 2 (by omega)]; exact hc 2 _ rfl, by rw [← add_field _ _ 3 (by omega)]; exact hc 3 _ rfl, by rw [← add_field _ _ 4 (by omega)]; exact hc 4 _ rfl, by rw [← add_field _ _ 5 (by omega)]; exact hc 5 _ rfl, l5, g5⟩

/-! #### struct type 97 -/
structure S97 where
  f0 : Int
  f1 : Int
  f2 : Int
  f3 : Int
  f4 : Int
  f5 : (List Int)
def z97 : S97 := ⟨(0 : Int), (0 : Int), (0 : Int), (0 : Int), (0 : Int), ([] : List Int)⟩
def k97 : Kd S97 := Kd.iso (Kd.pair (Kd.int .i64) (Kd.pair (Kd.int .u32) (Kd.pair (Kd.int .u32) (Kd.pair (Kd.int .u32) (Kd.pair (Kd.int .i64) (Kd.slice 22 (Kd.int .u32))))))) (fun x : S97 => (x.f0, x.f1, x.f2, x.f3, x.f4, x.f5))
theorem k97_open {w : World} {x : S97} {cs : List Value} (h : k97.K w x cs) : ∃ A5 c5, cs = [.int .i64 x.f0, .int .u32 x.f1, .int .u32 x.f2, .int .u32 x.f3, .int .i64 x.f4, .slice A5 x.f5.length c5] ∧ x.f5.length ≤ c5 ∧ (Kd.int .u32).C w A5 x.f5.length x.f5 := by
  obtain ⟨_, _, rfl, rfl, ⟨_, _, rfl, rfl, ⟨_, _, rfl, rfl, ⟨_, _, rfl, rfl, ⟨_, _, rfl, rfl, ⟨A5, c5, rfl, l5, g5⟩⟩⟩⟩⟩⟩ := h
  exact ⟨A5, c5, rfl, l5, g5⟩
theorem k97_openM {w : World} {base : Nat} {ok : Nat → Prop} {x : S97} {cs : List Value} (h : k97.M w base ok x cs) : ∃ v5, cs = [.int .i64 x.f0, .int .u32 x.f1, .int .u32 x.f2, .int .u32 x.f3, .int .i64 x.f4, v5] ∧ (Kd.int .u32).R 22 w base ok v5 x.f5 := by
  obtain ⟨_, _, rfl, rfl, ⟨_, _, rfl, rfl, ⟨_, _, rfl, rfl, ⟨_, _, rfl, rfl, ⟨_, _, rfl, rfl, ⟨v5, rfl, g5⟩⟩⟩⟩⟩⟩ := h
  exact ⟨v5, rfl, g5⟩
theorem k97_mk (w : World) (x : S97) {A5 : Option Addr} {c5 : Nat} (l5 : x.f5.length ≤ c5) (g5 : (Kd.int .u32).C w A5 x.f5.length x.f5) : k97.K w x [.int .i64 x.f0, .int .u32 x.f1, .int .u32 x.f2, .int .u32 x.f3, .int .i64 x.f4, .slice A5 x.f5.length c5] := ⟨[.int .i64 x.f0], [.int .u32 x.f1, .int .u32 x.f2, .int .u32 x.f3, .int .i64 x.f4, .slice A5 x.f5.length c5], rfl, rfl, ⟨[.int .u32 x.f1], [.int .u32 x.f2, .int .u32 x.f3, .int .i64 x.f4, .slice A5 x.f5.length c5], rfl, rfl, ⟨[.int .u32 x.f2], [.int .u32 x.f3, .int .i64 x.f4, .slice A5 x.f5.length c5], rfl, rfl, ⟨[.int .u32 x.f3], [.int .i64 x.f4, .slice A5 x.f5.length c5], rfl, rfl, ⟨[.int .i64 x.f4], [.slice A5 x.f5.length c5], rfl, rfl, ⟨A5, c5, rfl, l5, g5⟩⟩⟩⟩⟩⟩
theorem k97_mkM (w : World) (base : Nat) (ok : Nat → Prop) (x : S97) {v5 : Value} (g5 : (Kd.int .u32).R 22 w base ok v5 x.f5) : k97.M w base ok x [.int .i64 x.f0, .int .u32 x.f1, .int .u32 x.f2, .int .u32 x.f3, .int .i64 x.f4, v5] := ⟨[.int .i64 x.f0], [.int .u32 x.f1, .int .u32 x.f2, .int .u32 x.f3, .int .i64 x.f4, v5], rfl, rfl, ⟨[.int .u32 x.f1], [.int .u32 x.f2, .int .u32 x.f3, .int .i64 x.f4, v5], rfl, rfl, ⟨[.int .u32 x.f2], [.int .u32 x.f3, .int .i64 x.f4, v5], rfl, rfl, ⟨[.int .u32 x.f3], [.int .i64 x.f4, v5], rfl, rfl, ⟨[.int .i64 x.f4], [v5], rfl, rfl, ⟨v5, rfl, g5⟩⟩⟩⟩⟩⟩
theorem k97_openF {W : World} {ok : Nat → Prop} {x : S97} {cs : List Value} (h : Kd.FK k97 W ok x cs) : ∃ A5 c5, cs = [.int .i64 x.f0, .int .u32 x.f1, .int .u32 x.f2, .int .u32 x.f3, .int .i64 x.f4, .slice A5 x.f5.length c5] ∧ x.f5.length ≤ c5 ∧ Kd.F (Kd.int .u32) W ok A5 x.f5.length x.f5 := by
  obtain ⟨A5, c5, rfl, l5, _⟩ := k97_open (Kd.FK_now h)
  exact ⟨A5, c5, rfl, l5, (fun W' hW => by obtain ⟨A5_, c5_, he, l5_, g5_⟩ := k97_open (h W' hW); injection (Option.some.inj (show some (Value.slice A5 x.f5.length c5) = some (Value.slice A5_ x.f5.length c5_) from congrArg (fun l => l[5]?) he)) with ha_ _ _; rw [ha_]; exact g5_)⟩
theorem k97_mkF (W : World) (ok : Nat → Prop) (x : S97) {A5 : Option Addr} {c5 : Nat} (l5 : x.f5.length ≤ c5) (g5 : Kd.F (Kd.int .u32) W ok A5 x.f5.length x.f5) : Kd.FK k97 W ok x [.int .i64 x.f0, .int .u32 x.f1, .int .u32 x.f2, .int .u32 x.f3, .int .i64 x.f4, .slice A5 x.f5.length c5] := fun W2 hW => k97_mk W2 x l5 (g5 W2 hW)
def rd_T97 (xs : List S97) (i : Int) : S97 := xs.getD i.toNat z97
theorem at_T97 {w : World} {A : Option Addr} {n : Nat} {xs : List S97} (h : Kd.C k97 w A n xs) (i : Int) (h0 : 0 ≤ i) (h1 : i < n) : ∃ ad A5 c5, A = some ad ∧ w.cell? (ad.add (i.toNat * 6)) = some (.int .i64 (rd_T97 xs i).f0) ∧ w.cell? ⟨(ad.add (i.toNat * 6)).block, (ad.add (i.toNat * 6)).off + 1, none⟩ = some (.int .u32 (rd_T97 xs i).f1) ∧ w.cell? ⟨(ad.add (i.toNat * 6)).block, (ad.add (i.toNat * 6)).off + 2, none⟩ = some (.int .u32 (rd_T97 xs i).f2) ∧ w.cell? ⟨(ad.add (i.toNat * 6)).block, (ad.add (i.toNat * 6)).off + 3, none⟩ = some (.int .u32 (rd_T97 xs i).f3) ∧ w.cell? ⟨(ad.add (i.toNat * 6)).block, (ad.add (i.toNat * 6)).off + 4, none⟩ = some (.int .i64 (rd_T97 xs i).f4) ∧ w.cell? ⟨(ad.add (i.toNat * 6)).block, (ad.add (i.toNat * 6)).off + 5, none⟩ = some (.slice A5 (rd_T97 xs i).f5.length c5) ∧ (rd_T97 xs i).f5.length ≤ c5 ∧ (Kd.int .u32).C w A5 (rd_T97 xs i).f5.length (rd_T97 xs i).f5 := by
  obtain ⟨ad, c, e, _, hK, hc0⟩ := Kd.C_get h z97 i h0 h1
  have hc : ∀ j u, c[j]? = some u → w.cell? (ad.add (i.toNat * 6 + j)) = some u := hc0
  obtain ⟨A5, c5, rfl, l5, g5⟩ := k97_open hK
  exact ⟨ad, A5, c5, e, hc 0 _ rfl, by rw [← add_field _ _ 1 (by omega)]; exact hc 1 _ rfl, by rw [← add_field _ _ 2 (by omega)]; exact hc 2 _ rfl, by rw [← add_field _ _ 3 (by omega)]; exact hc 3 _ rfl, by rw [← add_field _ _ 4 (by omega)]; exact hc 4 _ rfl, by rw [← add_field _ _ 5 (by omega)]; exact hc 5 _ rfl, l5, g5⟩

end Go.Proofs.YtojdfjohmicopaaGreatDoor.PFnOggHurt
