/- Contracts of impl's source and of io.ReadFull over it. Condition: as many bytes are left as the buffer has. The sum of 32 bits: bit by bit, and by a table: the same; another byte, another sum. Plain. No condition. The sum of 32 bits over the program's whole numbers; spec.OggSum's printed function. Plain. No condition. Contracts of the reader's table of sums and of the closure that reads it. No condition. -/
import Derived.Test.YtojdfjohmicopaaGreatDoorMa
import Derived.Test.YtojdfjohmicopaaGreatDoorWWords
import Derived.Test.YtojdfjohmicopaaGreatDoorProg
import Derived.WalkKit
import Derived.WalkLawsBesides
import Derived.WalkSpells
import Derived.Outline
import Derived.BigQuiet
import Derived.RegionTactic
import Derived.BigRegion
import Derived.Laws.CopyOwn
import Derived.WideShapes
import Derived.StillTail
import Derived.RowKit
import Derived.Laws.Entries
import Derived.Test.YtojdfjohmicopaaGreatDoorPFnOggHurtx2
namespace Go.Proofs.YtojdfjohmicopaaGreatDoor
open Go Go.RowKit Go.Proofs.YtojdfjohmicopaaGreatDoorW.PrintWords

/-- The frame: what was there is there, but for the blocks in S. -/
structure Fr (S : Nat → Prop) (w w' : World) : Prop where
  os : w'.os = w.os
  tape : w'.tape = w.tape
  output : w'.output = w.output
  size : w.heap.size ≤ w'.heap.size
  block : ∀ k, k < w.heap.size → ¬ S k → w'.heap[k]? = w.heap[k]?
section
variable {S S' : Nat → Prop} {w w' w'' : World}
theorem Fr.refl (S : Nat → Prop) (w : World) : Fr S w w := ⟨rfl, rfl, rfl, Nat.le_refl _, fun _ _ _ => rfl⟩
theorem Fr.trans (h : Fr S w w') (k : Fr S w' w'') : Fr S w w'' :=
  ⟨k.os.trans h.os, k.tape.trans h.tape, k.output.trans h.output, Nat.le_trans h.size k.size, fun i hi hs => (k.block i (Nat.lt_of_lt_of_le hi h.size) hs).trans (h.block i hi hs)⟩
theorem Fr.mono (h : Fr S w w') (hs : ∀ k, k < w.heap.size → S k → S' k) : Fr S' w w' := ⟨h.os, h.tape, h.output, h.size, fun k hk hn => h.block k hk (fun x => hn (hs k hk x))⟩
/-- Of a call: what it made since is its own. -/
theorem Fr.call (h : Fr S w w') (k : Fr S' w' w'') (hs : ∀ j, S' j → S j ∨ w.heap.size ≤ j) : Fr S w w'' :=
  ⟨k.os.trans h.os, k.tape.trans h.tape, k.output.trans h.output, Nat.le_trans h.size k.size, fun i hi hn => (k.block i (Nat.lt_of_lt_of_le hi h.size) (fun x => by rcases hs i x with a | a; exact hn a; omega)).trans (h.block i hi hn)⟩
theorem Fr.of_below {B : Nat} (h : Below B w w') (hB : w.heap.size ≤ B) : Fr S w w' := ⟨h.os, h.tape, h.output, h.size, fun k hk _ => h.block k (by omega)⟩
theorem Fr.below {B : Nat} (h : Fr S w w') (hB : B ≤ w.heap.size) (hs : ∀ k, S k → B ≤ k) : Below B w w' := ⟨h.os, h.tape, h.output, h.size, fun k hk => h.block k (by omega) (fun x => by have := hs k x; omega)⟩
theorem Fr.alloc (h : Fr S w w') (o : Obj) : Fr S w (w'.alloc o) := h.trans (Fr.of_below ((Below.refl _ _).alloc (Nat.le_refl _) _) (Nat.le_refl _))
theorem Fr.drew (h : Fr S w w') : Fr S w w'.drew := ⟨h.os, h.tape, h.output, h.size, h.block⟩
theorem Fr.drewN (h : Fr S w w') (n : Nat) : Fr S w (w'.drewN n) := ⟨h.os, h.tape, h.output, h.size, h.block⟩
theorem Fr.set (h : Fr S w w') {p : Addr} (hp : S p.block ∨ w.heap.size ≤ p.block) (u : Value) : Fr S w (w'.setCell p u) :=
  ⟨h.os, h.tape, h.output, by rw [show (w'.setCell p u).heap.size = w'.heap.size by simp]; exact h.size, fun k hk hn => (Below.heap_setCell w' p u k (fun e => by subst e; rcases hp with a | a; exact hn a; omega)).trans (h.block k hk hn)⟩
theorem Fr.setRow (h : Fr S w w') {g : Nat} (hp : S g ∨ w.heap.size ≤ g) (cs : Array Value) : Fr S w (w'.setRow g cs) :=
  ⟨h.os, h.tape, h.output, by simpa [World.setRow] using h.size, fun k hk hn => (setRow_other w' g k cs (fun e => by subst e; rcases hp with a | a; exact hn a; omega)).trans (h.block k hk hn)⟩
theorem Blk.fr {g : Nat} {t : TypeId} {cs : Array Value} (h : Blk w g t cs) (hf : Fr S w w') (hn : ¬ S g) : Blk w' g t cs := (hf.block g h.lt hn).trans h
end

/-- The bytes as cells. -/
def dC (D : ByteArray) : List Value := D.data.toList.map fun b => .int .u8 (b.toNat : Int)
theorem dC_length (D : ByteArray) : (dC D).length = D.size := by simp [dC]
/-- So many of them from a place on. -/
def piece (D : ByteArray) (pos n : Nat) : List Value := ((dC D).drop pos).take n
theorem piece_length (D : ByteArray) (pos n : Nat) (h : pos + n ≤ D.size) : (piece D pos n).length = n := by simp [piece, dC_length]; omega
theorem piece_one (D : ByteArray) (pos n : Nat) : ∀ v ∈ piece D pos n, v.oneCell' = true := by
  intro v hv
  have hv := List.mem_of_mem_drop (List.mem_of_mem_take hv)
  simp only [dC, List.mem_map] at hv
  obtain ⟨b, _, rfl⟩ := hv
  rfl

set_option maxRecDepth 100000 in
set_option maxHeartbeats 2000000 in
theorem read_core (w : World) (gs gb gx pos n rem cp : Nat) (cs : List Value) (cur : Array Value) (hn : 0 < n) (hfit : n ≤ rem) (hD : cp ≤ 9223372036854775807) (hcp : rem ≤ cp)
    (hS : Blk w gs 93 #[.slice (some ⟨gb, pos, none⟩) rem cp]) (hX : Blk w gx 5 cur) (hc : cur.size = n) (hl : cs.length = n) (h1 : ∀ v ∈ cs, v.oneCell' = true)
    (hB : ∀ j v, cs[j]? = some v → w.cell? ⟨gb, pos + j, none⟩ = some v) (hne : gx ≠ gs) :
    Calls Tryz.prog 136 #[.pointer (some ⟨gs, 0, none⟩), .slice (some ⟨gx, 0, none⟩) n n] w fun e w' => e = .returned (.tuple #[.int .i64 n, .nilIface]) ∧
      Blk w' gx 5 cs.toArray ∧ (n < rem → Blk w' gs 93 #[.slice (some ⟨gb, pos + n, none⟩) (rem - n) (cp - n)]) ∧ Fr (fun k => k = gs ∨ k = gx) w w' := by
  have HB := Lib.hid hB
  have H1 := Lib.hid h1
  clear hB h1
  have hmin : cs.length = Nat.min rem n := by rw [hl]; exact (Nat.min_eq_right hfit).symm
  go_enter Tryz.func136, Tryz.ntmps136
  have c0 := hS.one
  have fr := hS.frozen
  go_upto_region 3 with (fail)
  apply wp_region_lit
  iterate 15 go_step
  refine wpList_copy_own rfl (.tmp 14) (.tmp 18) 33 33 rfl 5 Tryz.underlying33 (by kernel_rfl) gx 0 n n ⟨gb, pos, none⟩ rem cp ?hd ?hs cur 5 hX cs hmin ?hsrc ?hf H1.out ?_
  case hd => simp [Act.eval]
  case hs => simp [Act.eval]
  case hsrc => intro j v hv; rw [Go.WideShapes.add_plain]; exact HB.out j v hv
  case hf => simp [hl, hc]
  have hrow : (List.take 0 cur.toList ++ (cs ++ List.drop (0 + cs.length) cur.toList)).toArray = cs.toArray := by
    rw [List.drop_of_length_le (by simp [hl, hc])]; simp
  rw [hrow, hl]
  have f1 : Fr (fun k => k = gs ∨ k = gx) w (w.setRow gx cs.toArray) := (Fr.refl _ _).setRow (.inl (.inr rfl)) _
  have hX1 : Blk (w.setRow gx cs.toArray) gx 5 cs.toArray := setRow_heap w gx cur _ 5 _ hX
  have hS1 : Blk (w.setRow gx cs.toArray) gs 93 #[.slice (some ⟨gb, pos, none⟩) rem cp] := (setRow_other w gx gs _ (fun e => hne e.symm)).trans hS
  generalize w.setRow gx cs.toArray = w1 at f1 hX1 hS1 ⊢
  clear c0 fr
  have c0 := hS1.one
  have fr := hS1.frozen
  go_wp2_with fail
  · go_ret2
    exact ⟨rfl, hX1.far hne _, fun h => by omega, f1.set (.inl (.inl rfl)) _⟩
  · go_ret2
    exact ⟨rfl, hX1.far hne _, fun _ => hS1.store rfl, f1.set (.inl (.inl rfl)) _⟩

theorem nil_ahead (a : Addr) (w : World) : (nilAhead 314 91 (.pointer (some a)) "Read").run Tryz.prog w = .ok (some false) w := by kernel_rfl
theorem method_read (a : Addr) (w : World) : (method 314 91 (.pointer (some a)) "Read").run Tryz.prog w = .ok (136, .pointer (some a)) w := by kernel_rfl

/-- What is left of the source, at a place. -/
def Src (w : World) (gs gb pos rem cp : Nat) : Prop := Blk w gs 93 #[.slice (some ⟨gb, pos, none⟩) rem cp]

set_option maxRecDepth 100000 in
set_option maxHeartbeats 2000000 in
theorem atleast_any (w : World) (gs gb gx pos n rem cp : Nat) (cs : List Value) (cur : Array Value) (hfit : n ≤ rem) (hD : cp ≤ 9223372036854775807) (hcp : rem ≤ cp)
    (hS : 0 < n → Src w gs gb pos rem cp) (hX : Blk w gx 5 cur) (hc : cur.size = n) (hl : cs.length = n) (h1 : ∀ v ∈ cs, v.oneCell' = true)
    (hB : ∀ j v, cs[j]? = some v → w.cell? ⟨gb, pos + j, none⟩ = some v) (hne : gx ≠ gs) :
    Calls Tryz.prog 97 #[.iface 91 (.pointer (some ⟨gs, 0, none⟩)), .slice (some ⟨gx, 0, none⟩) n n, .int .i64 n] w fun e w' => e = .returned (.tuple #[.int .i64 n, .nilIface]) ∧
      Blk w' gx 5 cs.toArray ∧ (0 < n → n < rem → Src w' gs gb (pos + n) (rem - n) (cp - n)) ∧ (n = 0 → w' = w) ∧ Fr (fun k => k = gs ∨ k = gx) w w' := by
  have HB := Lib.hid hB
  have H1 := Lib.hid h1
  clear hB h1
  have HS := Lib.hid hS
  clear hS
  go_enter Tryz.func97, Tryz.ntmps97
  go_wp2_with fail
  go_loopw [6, 7] (fun i e wr => (i = .int .i64 0 ∧ e = .nilIface ∧ wr = w) ∨ (0 < n ∧ i = .int .i64 n ∧ e = .nilIface ∧ Blk wr gx 5 cs.toArray ∧ (n < rem → Src wr gs gb (pos + n) (rem - n) (cp - n)) ∧ Fr (fun k => k = gs ∨ k = gx) w wr)) (fun i _ _ => n - (intOf i).toNat)
  case atStart => exact .inl ⟨rfl, rfl, rfl⟩
  case round =>
    rcases hrel with ⟨rfl, rfl, rfl⟩ | ⟨h0, rfl, rfl, hX', hS', hf⟩
    · by_cases h0 : 0 < n
      · go_wp2_with fail
        have hna := nil_ahead
        have hmr := method_read
        have hr := read_core wr.drew gs gb gx pos n rem cp cs cur h0 hfit hD hcp (HS.out h0) hX hc hl H1.out HB.out hne
        go_region_with (refine hr.mono ?_; rintro e w1 ⟨rfl, hX1, hS1, f1⟩)
        all_goals
          have F1 := Lib.hid (((Fr.refl (fun k => k = gs ∨ k = gx) wr).drew).trans f1)
          have HS1 := Lib.hid hS1
          clear hS1 f1 hr hna hmr
          go_wp2_with fail
          refine ⟨.inr ⟨h0, by simp, rfl, hX1, HS1.out, F1.out⟩, ?_⟩
          show n - (n : Int).toNat < n - (0 : Int).toNat
          simp; omega
      · have hn0 : n = 0 := by omega
        subst hn0
        obtain rfl : cs = [] := List.eq_nil_of_length_eq_zero hl
        obtain rfl : cur = #[] := Array.eq_empty_of_size_eq_zero hc
        go_wp2_with fail
        go_ret2
        exact ⟨rfl, hX, rfl, Fr.refl _ _⟩
    · have HSS := Lib.hid hS'
      have HF := Lib.hid hf
      clear hS' hf
      go_wp2_with fail
      go_ret2
      refine ⟨rfl, hX', fun _ => HSS.out, ?_, HF.out⟩
      omega

set_option maxRecDepth 100000 in
theorem full_any (w : World) (gs gb gx pos n rem cp : Nat) (cs : List Value) (cur : Array Value) (hfit : n ≤ rem) (hD : cp ≤ 9223372036854775807) (hcp : rem ≤ cp)
    (hS : 0 < n → Src w gs gb pos rem cp) (hX : Blk w gx 5 cur) (hc : cur.size = n) (hl : cs.length = n) (h1 : ∀ v ∈ cs, v.oneCell' = true)
    (hB : ∀ j v, cs[j]? = some v → w.cell? ⟨gb, pos + j, none⟩ = some v) (hne : gx ≠ gs) :
    Calls Tryz.prog 70 #[.iface 91 (.pointer (some ⟨gs, 0, none⟩)), .slice (some ⟨gx, 0, none⟩) n n] w fun e w' => e = .returned (.tuple #[.int .i64 n, .nilIface]) ∧
      Blk w' gx 5 cs.toArray ∧ (0 < n → n < rem → Src w' gs gb (pos + n) (rem - n) (cp - n)) ∧ (n = 0 → w' = w) ∧ Fr (fun k => k = gs ∨ k = gx) w w' := by
  have HC := Lib.hid (atleast_any w gs gb gx pos n rem cp cs cur hfit hD hcp hS hX hc hl h1 hB hne)
  clear hS hX hc hl h1 hB hne
  go_enter Tryz.func70, Tryz.ntmps70
  go_wp2_with fail
  refine HC.out.mono ?_
  rintro e w1 ⟨rfl, h⟩
  have H := Lib.hid h
  clear h
  go_wp2_with fail
  go_ret2
  exact ⟨rfl, H.out⟩
end Go.Proofs.YtojdfjohmicopaaGreatDoor
namespace Go.Proofs.YtojdfjohmicopaaGreatDoor.Crc
open Go Go.RowKit

def poly : BitVec 32 := 0x04c11db7#32
def st (c : BitVec 32) : BitVec 32 := (c <<< 1) ^^^ (if c.msb then poly else 0#32)
def st8 (c : BitVec 32) : BitVec 32 := st (st (st (st (st (st (st (st c)))))))
theorem st_xor (a b : BitVec 32) : st (a ^^^ b) = st a ^^^ st b := by
  unfold st
  rw [BitVec.shiftLeft_xor_distrib, BitVec.msb_xor]
  cases a.msb <;> cases b.msb <;> simp only [Bool.bne_false, Bool.bne_true, Bool.not_true, Bool.not_false, Bool.false_eq_true, if_true, if_false, BitVec.xor_zero, Bool.false_bne, Bool.true_bne]
  · ac_rfl
  · ac_rfl
  · have : (a <<< 1 ^^^ poly) ^^^ (b <<< 1 ^^^ poly) = (a <<< 1 ^^^ b <<< 1) ^^^ (poly ^^^ poly) := by ac_rfl
    rw [this, BitVec.xor_self, BitVec.xor_zero]
theorem st8_xor (a b : BitVec 32) : st8 (a ^^^ b) = st8 a ^^^ st8 b := by simp only [st8, st_xor]
theorem st_inj {a b : BitVec 32} (h : st a = st b) : a = b := by
  have hz : st (a ^^^ b) = 0#32 := by rw [st_xor, h, BitVec.xor_self]
  have h0 : a ^^^ b = 0#32 := by
    generalize a ^^^ b = x at hz
    unfold st at hz
    cases hm : x.msb
    · rw [hm] at hz
      simp only [Bool.false_eq_true, if_false, BitVec.xor_zero] at hz
      have h1 := congrArg BitVec.toNat hz
      rw [BitVec.toNat_shiftLeft] at h1
      rw [BitVec.msb_eq_decide] at hm
      have h2 := of_decide_eq_false hm
      apply BitVec.eq_of_toNat_eq
      simp [Nat.shiftLeft_eq] at h1 h2 ⊢
      omega
    · rw [hm] at hz
      simp only [if_true] at hz
      have h1 := congrArg (fun y => y.getLsbD 0) hz
      simp [poly] at h1
  have := congrArg (fun y => y ^^^ b) h0
  simpa [BitVec.xor_assoc] using this
theorem st8_inj {a b : BitVec 32} (h : st8 a = st8 b) : a = b := st_inj (st_inj (st_inj (st_inj (st_inj (st_inj (st_inj (st_inj h)))))))
theorem st_low (x : BitVec 32) (h : x.toNat < 2147483648) : (st x).toNat = 2 * x.toNat := by
  unfold st
  have hm : x.msb = false := by rw [BitVec.msb_eq_decide]; simp; omega
  rw [hm]
  simp [Nat.shiftLeft_eq]
  omega
theorem st8_low (x : BitVec 32) (h : x.toNat < 16777216) : (st8 x).toNat = 256 * x.toNat := by
  unfold st8
  have e1 := st_low x (by omega)
  have e2 := st_low (st x) (by omega)
  have e3 := st_low (st (st x)) (by omega)
  have e4 := st_low (st (st (st x))) (by omega)
  have e5 := st_low (st (st (st (st x)))) (by omega)
  have e6 := st_low (st (st (st (st (st x))))) (by omega)
  have e7 := st_low (st (st (st (st (st (st x)))))) (by omega)
  have e8 := st_low (st (st (st (st (st (st (st x))))))) (by omega)
  omega

/-- One byte more, bit by bit. -/
def upd (c : BitVec 32) (v : Nat) : BitVec 32 := st8 (c ^^^ (BitVec.ofNat 32 v <<< 24))
/-- The table's entry. -/
def tab (i : Nat) : BitVec 32 := st8 (BitVec.ofNat 32 i <<< 24)
theorem split (c : BitVec 32) : c = BitVec.ofNat 32 (c.toNat % 16777216) ^^^ (BitVec.ofNat 32 (c.toNat / 16777216) <<< 24) := by
  have hb := c.isLt
  apply BitVec.eq_of_toNat_eq
  rw [BitVec.toNat_xor, BitVec.toNat_shiftLeft, BitVec.toNat_ofNat, BitVec.toNat_ofNat]
  have h1 : c.toNat % 16777216 % 2 ^ 32 = c.toNat % 16777216 := Nat.mod_eq_of_lt (by omega)
  have h2 : c.toNat / 16777216 % 2 ^ 32 = c.toNat / 16777216 := Nat.mod_eq_of_lt (by omega)
  rw [h1, h2, Nat.shiftLeft_eq]
  have h3 : c.toNat / 16777216 * 2 ^ 24 % 2 ^ 32 = 2 ^ 24 * (c.toNat / 16777216) := by omega
  rw [h3, Nat.xor_comm]
  have := Nat.two_pow_add_eq_or_of_lt (i := 24) (b := c.toNat % 16777216) (by omega) (c.toNat / 16777216)
  have hx : (2 ^ 24 * (c.toNat / 16777216)) ^^^ (c.toNat % 16777216) = 2 ^ 24 * (c.toNat / 16777216) + c.toNat % 16777216 := by
    rw [this]
    apply Nat.eq_of_testBit_eq
    intro i
    rw [Nat.testBit_xor, Nat.testBit_or, Nat.testBit_two_pow_mul]
    by_cases hi : 24 ≤ i
    · rw [Nat.testBit_lt_two_pow (x := c.toNat % 16777216) (Nat.lt_of_lt_of_le (by omega : c.toNat % 16777216 < 2 ^ 24) (Nat.pow_le_pow_right (by omega) hi))]
      simp
    · simp [hi]
  rw [hx]
  omega
/-- BY THE TABLE AS BIT BY BIT. -/
theorem upd_tab (c : BitVec 32) (v : Nat) (hv : v < 256) : upd c v = (c <<< 8) ^^^ tab ((c.toNat / 16777216) ^^^ v) := by
  have hb := c.isLt
  have hx : (c.toNat / 16777216) ^^^ v < 2 ^ 8 := Nat.xor_lt_two_pow (by omega) (by omega)
  generalize hhi : c.toNat / 16777216 = hi at hx
  have hlt : hi < 256 := by omega
  have hxx : BitVec.ofNat 32 (hi ^^^ v) = BitVec.ofNat 32 hi ^^^ BitVec.ofNat 32 v := by
    apply BitVec.eq_of_toNat_eq
    rw [BitVec.toNat_xor, BitVec.toNat_ofNat, BitVec.toNat_ofNat, BitVec.toNat_ofNat]
    have h1 : (hi ^^^ v) % 2 ^ 32 = hi ^^^ v := Nat.mod_eq_of_lt (Nat.lt_of_lt_of_le hx (by decide))
    have h2 : hi % 2 ^ 32 = hi := Nat.mod_eq_of_lt (by omega)
    have h3 : v % 2 ^ 32 = v := Nat.mod_eq_of_lt (by omega)
    rw [h1, h2, h3]
  have hs : BitVec.ofNat 32 (hi ^^^ v) <<< 24 = (BitVec.ofNat 32 hi <<< 24) ^^^ (BitVec.ofNat 32 v <<< 24) := by
    rw [hxx, BitVec.shiftLeft_xor_distrib]
  have e1 : st8 (BitVec.ofNat 32 (c.toNat % 16777216)) = c <<< 8 := by
    apply BitVec.eq_of_toNat_eq
    rw [st8_low _ (by rw [BitVec.toNat_ofNat]; omega), BitVec.toNat_ofNat, BitVec.toNat_shiftLeft, Nat.shiftLeft_eq]
    omega
  have e2 : c ^^^ (BitVec.ofNat 32 v <<< 24) = BitVec.ofNat 32 (c.toNat % 16777216) ^^^ ((BitVec.ofNat 32 hi <<< 24) ^^^ (BitVec.ofNat 32 v <<< 24)) := by
    rw [← BitVec.xor_assoc, ← hhi, ← split c]
  show st8 (c ^^^ (BitVec.ofNat 32 v <<< 24)) = (c <<< 8) ^^^ st8 (BitVec.ofNat 32 (hi ^^^ v) <<< 24)
  rw [e2, st8_xor, e1, hs]
theorem upd_inj {a b : BitVec 32} {v : Nat} (h : upd a v = upd b v) : a = b := by
  have := st8_inj h
  have := congrArg (fun y => y ^^^ (BitVec.ofNat 32 v <<< 24)) this
  simpa [BitVec.xor_assoc] using this
theorem upd_byte {c : BitVec 32} {u v : Nat} (hu : u < 256) (hv : v < 256) (h : upd c u = upd c v) : u = v := by
  have h := st8_inj h
  have h := congrArg (fun y => (c ^^^ y).toNat) h
  simp only [← BitVec.xor_assoc, BitVec.xor_self, BitVec.zero_xor] at h
  rw [BitVec.toNat_shiftLeft, BitVec.toNat_shiftLeft, BitVec.toNat_ofNat, BitVec.toNat_ofNat, Nat.shiftLeft_eq, Nat.shiftLeft_eq] at h
  omega
/-- The sum of bytes. -/
def sum (c : BitVec 32) (l : List Nat) : BitVec 32 := l.foldl upd c
theorem sum_inj {a b : BitVec 32} : ∀ {l : List Nat}, sum a l = sum b l → a = b
  | [], h => h
  | v :: l, h => upd_inj (sum_inj (l := l) h)
theorem sum_append (c : BitVec 32) (l m : List Nat) : sum c (l ++ m) = sum (sum c l) m := by simp [sum, List.foldl_append]
/-- ANOTHER BYTE, ANOTHER SUM. -/
theorem sum_hurt {c : BitVec 32} {l m : List Nat} {u v : Nat} (hu : u < 256) (hv : v < 256) (hne : u ≠ v) : sum c (l ++ u :: m) ≠ sum c (l ++ v :: m) := by
  intro h
  rw [sum_append, sum_append] at h
  exact hne (upd_byte hu hv (sum_inj (l := m) h))
end Go.Proofs.YtojdfjohmicopaaGreatDoor.Crc
namespace Go.Proofs.YtojdfjohmicopaaGreatDoor
open Go Go.RowKit Go.Proofs.YtojdfjohmicopaaGreatDoorW.PrintWords Go.Proofs.YtojdfjohmicopaaGreatDoor.Crc Go.Proofs.YtojdfjohmicopaaGreatDoor.PFnOggHurt

theorem wrap_u32 (n : Int) : IntKind.u32.wrap n = n % 4294967296 := by simp [IntKind.wrap, IntKind.bits, IntKind.signed]
theorem wrap_u8 (n : Int) : IntKind.u8.wrap n = n % 256 := by simp [IntKind.wrap, IntKind.bits, IntKind.signed]
theorem ofInt32 (a : BitVec 32) : BitVec.ofInt 32 (a.toNat : Int) = a := by
  apply BitVec.eq_of_toNat_eq
  rw [BitVec.ofInt_natCast, BitVec.toNat_ofNat]
  exact Nat.mod_eq_of_lt a.isLt
theorem xor32 (a b : BitVec 32) : bits .xor .u32 (a.toNat : Int) (b.toNat : Int) = ((a ^^^ b).toNat : Int) := by
  show IntKind.u32.wrap ((BitVec.ofInt 32 (a.toNat : Int) ^^^ BitVec.ofInt 32 (b.toNat : Int)).toNat : Int) = _
  rw [ofInt32, ofInt32, wrap_u32]
  have := (a ^^^ b).isLt
  omega
theorem and32 (a b : BitVec 32) : bits .and .u32 (a.toNat : Int) (b.toNat : Int) = ((a &&& b).toNat : Int) := by
  show IntKind.u32.wrap ((BitVec.ofInt 32 (a.toNat : Int) &&& BitVec.ofInt 32 (b.toNat : Int)).toNat : Int) = _
  rw [ofInt32, ofInt32, wrap_u32]
  have := (a &&& b).isLt
  omega
theorem top32 (c : BitVec 32) : bits .and .u32 (c.toNat : Int) 2147483648 = if c.msb then 2147483648 else 0 := by
  have h := and32 c 0x80000000#32
  rw [show (((0x80000000#32 : BitVec 32)).toNat : Int) = 2147483648 from rfl] at h
  rw [h]
  have e : c &&& 0x80000000#32 = if c.msb then 0x80000000#32 else 0#32 := by
    apply BitVec.eq_of_getLsbD_eq
    intro i hi
    rw [BitVec.getLsbD_and]
    have hp : (0x80000000#32).getLsbD i = decide (i = 31) := by
      have : (0x80000000#32 : BitVec 32) = BitVec.twoPow 32 31 := by decide
      rw [this, BitVec.getLsbD_twoPow]
      simp
      omega
    rw [hp]
    by_cases h31 : i = 31
    · subst h31
      rw [BitVec.msb_eq_getLsbD_last]
      cases c.getLsbD 31 <;> simp
    · cases c.msb <;> simp [h31, hp]
  rw [e]
  cases c.msb <;> rfl
theorem dbl32 (c : BitVec 32) : ((c.toNat : Int) * (2 : Int)) % (4294967296 : Int) = Int.ofNat (c <<< 1).toNat := by
  show ((c.toNat : Int) * (2 : Int)) % (4294967296 : Int) = (((c <<< 1).toNat : Nat) : Int)
  rw [BitVec.toNat_shiftLeft, Nat.shiftLeft_eq]; omega
theorem shl8 (c : BitVec 32) : ((c.toNat : Int) * (256 : Int)) % (4294967296 : Int) = Int.ofNat (c <<< 8).toNat := by
  show ((c.toNat : Int) * (256 : Int)) % (4294967296 : Int) = (((c <<< 8).toNat : Nat) : Int)
  rw [BitVec.toNat_shiftLeft, Nat.shiftLeft_eq]; omega
theorem shl24 (v : Nat) (hv : v < 256) : ((((v : Int) % (4294967296 : Int)) * (16777216 : Int)) % (4294967296 : Int)) = Int.ofNat (BitVec.ofNat 32 v <<< 24).toNat := by
  show ((((v : Int) % (4294967296 : Int)) * (16777216 : Int)) % (4294967296 : Int)) = (((BitVec.ofNat 32 v <<< 24).toNat : Nat) : Int)
  rw [BitVec.toNat_shiftLeft, Nat.shiftLeft_eq, BitVec.toNat_ofNat]; omega
theorem xor8 (a b : Nat) (ha : a < 256) (hb : b < 256) : bits .xor .u8 (a : Int) (b : Int) = ((a ^^^ b : Nat) : Int) := by
  have hx : a ^^^ b < 2 ^ 8 := Nat.xor_lt_two_pow (by omega) (by omega)
  have h1 : (BitVec.ofInt 8 (a : Int)).toNat = a := by
    rw [BitVec.ofInt_natCast, BitVec.toNat_ofNat]; exact Nat.mod_eq_of_lt (by omega)
  have h2 : (BitVec.ofInt 8 (b : Int)).toNat = b := by
    rw [BitVec.ofInt_natCast, BitVec.toNat_ofNat]; exact Nat.mod_eq_of_lt (by omega)
  show IntKind.u8.wrap ((BitVec.ofInt 8 (a : Int) ^^^ BitVec.ofInt 8 (b : Int)).toNat : Int) = _
  rw [BitVec.toNat_xor, h1, h2, wrap_u8]
  omega
/-- One bit's step, as the programs write it. -/
theorem st_int (c : BitVec 32) : (if bits .and .u32 (c.toNat : Int) 2147483648 = 0 then ((c.toNat : Int) * 2) % 4294967296 else bits .xor .u32 (((c.toNat : Int) * 2) % 4294967296) 79764919) = ((st c).toNat : Int) := by
  rw [top32, dbl32, Int.ofNat_eq_natCast]
  have hx := xor32 (c <<< 1) poly
  rw [show ((poly.toNat : Nat) : Int) = 79764919 from rfl] at hx
  unfold st
  cases c.msb
  · simp
  · simp only [if_true]
    rw [if_neg (by decide), hx]

/-- The bytes. -/
def bytesN (s : ByteArray) : List Nat := s.data.toList.map UInt8.toNat
theorem bytesN_length (s : ByteArray) : (bytesN s).length = s.size := by simp [bytesN]
theorem bytesN_lt (s : ByteArray) : ∀ v ∈ bytesN s, v < 256 := by
  intro v hv
  simp only [bytesN, List.mem_map] at hv
  obtain ⟨b, _, rfl⟩ := hv
  exact b.toNat_lt
theorem bytesN_get (s : ByteArray) (i : Nat) (h : i < s.size) : (bytesN s)[i]'(by rw [bytesN_length]; exact h) = (s[i]'h).toNat := by
  simp [bytesN, ByteArray.getElem_eq_getElem_data]
theorem bt_nat (s : ByteArray) (i : Nat) (h : i < s.size) : bt s (i : Int) = (((bytesN s)[i]'(by rw [bytesN_length]; exact h) : Nat) : Int) := by
  rw [bytesN_get s i h]
  simp [bt, h]

theorem l1_step (k : Nat) (s : ByteArray) (c : BitVec 32) (n i : Int) (j : Nat) (hj : j < 8) :
    spec_OggSum.l1 (k + 1) s (c.toNat : Int) n i (j : Int) = spec_OggSum.l1 k s ((st c).toNat : Int) n i ((j + 1 : Nat) : Int) := by
  have hw : wrap64 ((j : Int) + 1) = ((j + 1 : Nat) : Int) := by unfold wrap64; omega
  rw [← st_int c]
  simp only [spec_OggSum.l1]
  rw [if_pos (by omega), hw]
  split <;> rfl
theorem l1_all (k : Nat) (s : ByteArray) (c : BitVec 32) (n i : Int) : spec_OggSum.l1 (k + 9) s (c.toNat : Int) n i 0 = spec_OggSum.l0 k s ((st8 c).toNat : Int) n (wrap64 (i + 1)) := by
  have h0 := l1_step (k + 8) s c n i 0 (by omega)
  have h1 := l1_step (k + 7) s (st c) n i 1 (by omega)
  have h2 := l1_step (k + 6) s (st (st c)) n i 2 (by omega)
  have h3 := l1_step (k + 5) s (st (st (st c))) n i 3 (by omega)
  have h4 := l1_step (k + 4) s (st (st (st (st c)))) n i 4 (by omega)
  have h5 := l1_step (k + 3) s (st (st (st (st (st c))))) n i 5 (by omega)
  have h6 := l1_step (k + 2) s (st (st (st (st (st (st c)))))) n i 6 (by omega)
  have h7 := l1_step (k + 1) s (st (st (st (st (st (st (st c))))))) n i 7 (by omega)
  refine h0.trans (h1.trans (h2.trans (h3.trans (h4.trans (h5.trans (h6.trans (h7.trans ?_)))))))
  simp only [spec_OggSum.l1]
  rw [if_neg (by omega)]
  rfl
theorem l0_all (s : ByteArray) (hs : s.size < 4611686018427387904) : ∀ (d i k : Nat) (c : BitVec 32), s.size - i = d → i ≤ s.size → 10 * d + 1 ≤ k →
    spec_OggSum.l0 k s (c.toNat : Int) (s.size : Int) (i : Int) = some ((sum c ((bytesN s).drop i)).toNat : Int)
  | 0, i, k + 1, c, hd, hi, _ => by
    simp only [spec_OggSum.l0]
    rw [if_neg (by omega), List.drop_of_length_le (by rw [bytesN_length]; omega)]
    rfl
  | d + 1, i, k + 1, c, hd, hi, hk => by
    have hlt : i < s.size := by omega
    have hl : i < (bytesN s).length := by rw [bytesN_length]; exact hlt
    simp only [spec_OggSum.l0]
    rw [if_pos (by omega), if_pos (by omega), if_pos (by omega), bt_nat s i hlt, shl24 _ (bytesN_lt s _ (List.getElem_mem hl)), Int.ofNat_eq_natCast, xor32]
    obtain ⟨k', rfl⟩ : ∃ k', k = k' + 9 := ⟨k - 9, by omega⟩
    rw [l1_all, show wrap64 ((i : Int) + 1) = ((i + 1 : Nat) : Int) by unfold wrap64; omega]
    rw [l0_all s hs d (i + 1) k' _ (by omega) (by omega) (by omega), List.drop_eq_getElem_cons hl]
    rfl
/-- spec.OggSum is the sum. -/
theorem oggSum (s : ByteArray) (hs : s.size < 4611686018427387904) (k : Nat) (hk : 10 * s.size + 1 ≤ k) : spec_OggSum.f k s = some ((sum 0#32 (bytesN s)).toNat : Int) :=
  l0_all s hs s.size 0 k 0#32 (by omega) (by omega) hk
end Go.Proofs.YtojdfjohmicopaaGreatDoor
namespace Go.Proofs.YtojdfjohmicopaaGreatDoor
open Go Go.RowKit Go.Proofs.YtojdfjohmicopaaGreatDoorW.PrintWords Go.Proofs.YtojdfjohmicopaaGreatDoor.Crc

/-- The table's first k entries, the others nought. -/
def row (k : Nat) : List Value := (List.range 256).map fun j => .int .u32 (if j < k then ((tab j).toNat : Int) else 0)
theorem row_length (k : Nat) : (row k).length = 256 := by simp [row]
theorem row_get (k j : Nat) (hj : j < 256) : (row k)[j]? = some (.int .u32 (if j < k then ((tab j).toNat : Int) else 0)) := by
  simp [row, List.getElem?_range hj]
theorem row_next (k : Nat) (hk : k < 256) : (row k).set k (.int .u32 ((tab k).toNat : Int)) = row (k + 1) := by
  apply List.ext_getElem?
  intro j
  by_cases hj : j < 256
  · rw [List.getElem?_set, row_get _ _ hj, row_get _ _ hj, row_length]
    by_cases e : k = j
    · subst e; simp [hk]
    · simp only [e, if_false]
      congr 3
      by_cases h : j < k
      · simp [h]; omega
      · have : ¬ j < k + 1 := by omega
        simp [h, this]
  · rw [List.getElem?_eq_none (by simp [row_length]; omega), List.getElem?_eq_none (by rw [row_length]; omega)]
theorem row_self (k : Nat) (hk : k < 256) : (row k).set k (.int .u32 0) = row k := by
  apply List.ext_getElem?
  intro j
  by_cases e : k = j
  · subst e
    rw [List.getElem?_set, row_get _ _ hk, row_length]
    simp [hk]
  · rw [List.getElem?_set]; simp [e]
theorem zero_row : Tryz.zeroCells172 = (row 0).toArray := by kernel_rfl
theorem set_set (l : List Value) (k : Nat) (u v : Value) : (l.set k u).set k v = l.set k v := List.set_set ..

/-- So many bits' steps. -/
def stN : Nat → BitVec 32 → BitVec 32
  | 0, c => c
  | n + 1, c => st (stN n c)

set_option maxRecDepth 100000 in
set_option maxHeartbeats 2000000 in
theorem table_any (w : World) : Calls Tryz.prog 95 #[] w fun e w' => e = .returned (.pointer (some ⟨w.heap.size, 0, none⟩)) ∧ Blk w' w.heap.size 172 (row 256).toArray ∧ Below w.heap.size w w' := by
  go_enter Tryz.func95, Tryz.ntmps95
  go_wp2_with fail
  have hb0 := (Below.refl w.heap.size w).alloc (Nat.le_refl _) (.cells Tryz.zeroCells172 172)
  have hB0 : Blk (w.alloc (.cells Tryz.zeroCells172 172)) w.heap.size 172 (row 0).toArray := by rw [← zero_row]; exact Blk.new w 172 _
  have HB0 := Lib.hid hb0
  clear hb0
  generalize w.alloc (.cells Tryz.zeroCells172 172) = W0 at HB0 hB0 ⊢
  go_loopw [4] (fun v wr => ∃ k : Nat, k ≤ 256 ∧ v = .int .u32 k ∧ Blk wr w.heap.size 172 (row k).toArray ∧ Hid (Below w.heap.size w wr)) (fun v _ => 256 - (intOf v).toNat)
  case atStart => exact ⟨0, by omega, rfl, hB0, HB0⟩
  case round =>
    obtain ⟨k, hk, rfl, hB, HB⟩ := hrel
    clear hB0 HB0
    by_cases hlt : k < 256
    · have hx := shl24 k hlt
      have hx0 : ((k : Int) * (16777216 : Int)) % (4294967296 : Int) = ((BitVec.ofNat 32 k <<< 24).toNat : Int) := by
        rw [Int.ofNat_eq_natCast] at hx; rw [← hx]; congr 2; omega
      go_wp2_with fail
      have hxk : ((k : Int) * (16777216 : Int)) = ((BitVec.ofNat 32 k <<< 24).toNat : Int) := by rw [← hx0]; omega
      rw [hxk]
      have hT : stN 8 (BitVec.ofNat 32 k <<< 24) = tab k := rfl
      generalize BitVec.ofNat 32 k <<< 24 = x at hT ⊢
      clear hx hx0 hxk
      go_loopw [3, 9] (fun v i wi => ∃ j : Nat, j ≤ 8 ∧ v = .int .u32 ((stN j x).toNat : Int) ∧ i = .int .i64 j ∧ (∃ u : Int, Blk wi w.heap.size 172 ((row k).set k (.int .u32 u)).toArray ∧ (j = 0 ∨ u = ((stN j x).toNat : Int))) ∧ Hid (Below w.heap.size w wi)) (fun _ i _ => 8 - (intOf i).toNat)
      case atStart => exact ⟨0, by omega, rfl, rfl, ⟨0, by rw [row_self k hlt]; exact hB, .inl rfl⟩, HB⟩
      case round =>
        obtain ⟨j, hj, rfl, rfl, ⟨u, hBi, hu⟩, HBi⟩ := hrel
        clear hB HB
        by_cases hj8 : j < 8
        · have hck : wr.cell? ⟨w.heap.size, k, none⟩ = some (.int .u32 u) := by rw [hBi.cell k]; simp [row_length, hlt]
          have hfz := hBi.frozen
          have hstep : stN (j + 1) x = st (stN j x) := rfl
          have HN := Lib.hid hstep
          clear hstep
          generalize stN j x = c at HN hu
          have htop := top32 c
          have hst := st_int c
          have hclt := c.isLt
          cases hm : c.msb
          · rw [hm] at htop
            simp only [Bool.false_eq_true, if_false] at htop
            rw [htop, if_pos rfl] at hst
            go_wp2_with fail
            refine ⟨⟨j + 1, by omega, by rw [hst, HN.out], by rw [Int.natCast_add]; rfl, ⟨_, ?_, .inr (by rw [HN.out])⟩, Lib.hid (HBi.out.setCell (Nat.le_refl _) _)⟩, ?_⟩
            · exact hBi.store (by simp [set_set])
            · show 8 - ((j : Int) + 1).toNat < 8 - (j : Int).toNat
              omega
          · rw [hm] at htop
            simp only [if_true] at htop
            rw [htop, if_neg (by decide)] at hst
            go_wp2_with fail
            refine ⟨⟨j + 1, by omega, by rw [HN.out], by rw [Int.natCast_add]; rfl, ⟨_, ?_, .inr (by rw [HN.out])⟩, Lib.hid (HBi.out.setCell (Nat.le_refl _) _)⟩, ?_⟩
            · exact hBi.store (by simp [set_set])
            · show 8 - ((j : Int) + 1).toNat < 8 - (j : Int).toNat
              omega
        · obtain rfl : j = 8 := by omega
          obtain rfl : u = ((tab k).toNat : Int) := by rw [← hT]; rcases hu with h | h; exact absurd h (by decide); exact h
          rw [row_next k hlt] at hBi
          clear hT
          generalize stN 8 x = y
          go_wp2_with fail
          refine ⟨⟨k + 1, by omega, by rw [Int.natCast_add]; rfl, hBi, HBi⟩, ?_⟩
          show 256 - ((k : Int) + 1).toNat < 256 - (k : Int).toNat
          omega
    · obtain rfl : k = 256 := by omega
      go_wp2_with fail
      go_ret
      exact ⟨rfl, hB, HB.out⟩
end Go.Proofs.YtojdfjohmicopaaGreatDoor
