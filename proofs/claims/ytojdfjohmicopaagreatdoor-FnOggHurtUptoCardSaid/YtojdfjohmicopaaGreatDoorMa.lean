/- Words for memory: a block that is known whole; what only one block has turned. Plain lemmas, no condition. -/
import Derived.Below
import Derived.Laws.OwnMore
import Derived.Deep.Draws
import Derived.Laws.Rows
import Derived.WalkKit
import Derived.Lib.Hide
namespace Go.Proofs.YtojdfjohmicopaaGreatDoor
open Go Go.RowKit

def Blk (w : World) (g : Nat) (t : TypeId) (cs : Array Value) : Prop := w.heap[g]? = some (.cells cs t (0, 0))
section
variable {w w' : World} {g : Nat} {t : TypeId} {cs : Array Value}
theorem Blk.lt (h : Blk w g t cs) : g < w.heap.size := by
  rcases Nat.lt_or_ge g w.heap.size with hlt | hge
  · exact hlt
  · unfold Blk at h; rw [Array.getElem?_eq_none hge] at h; cases h
theorem Blk.cell (h : Blk w g t cs) (i : Nat) : w.cell? ⟨g, i, none⟩ = cs[i]? := cell_of_row w g i cs t (0, 0) h
theorem Blk.frozen (h : Blk w g t cs) (i : Nat) : w.frozen? ⟨g, i, none⟩ = false := by
  unfold Blk at h
  simp [World.frozen?, h]
theorem Blk.new (w : World) (t : TypeId) (cs : Array Value) : Blk (w.alloc (.cells cs t)) w.heap.size t cs := heap_alloc_new w _
theorem Blk.new' {w : World} {t : TypeId} {cs : Array Value} {g : Nat} (h : w.heap.size = g) : Blk (w.alloc (.cells cs t)) g t cs := h ▸ Blk.new w t cs
theorem Blk.drew (h : Blk w g t cs) : Blk w.drew g t cs := h
theorem Blk.drewN (h : Blk w g t cs) (n : Nat) : Blk (w.drewN n) g t cs := h
theorem Blk.alloc (h : Blk w g t cs) (o : Obj) : Blk (w.alloc o) g t cs := (Below.heap_alloc w o g h.lt).trans h
theorem Blk.set_ (h : Blk w g t cs) (i : Nat) (u : Value) : Blk (w.setCell ⟨g, i, none⟩ u) g t (cs.setIfInBounds i u) := by
  unfold Blk at h ⊢
  simp [World.setCell, Array.getElem?_modify, h]
theorem Blk.store (h : Blk w g t cs) {i : Nat} {u : Value} {cs' : Array Value} (e : cs.setIfInBounds i u = cs') : Blk (w.setCell ⟨g, i, none⟩ u) g t cs' := e ▸ h.set_ i u
theorem Blk.far (h : Blk w g t cs) {p : Addr} (hp : g ≠ p.block) (u : Value) : Blk (w.setCell p u) g t cs := (Below.heap_setCell w p u g hp).trans h
theorem Blk.below {B : Nat} (h : Blk w g t cs) (hb : Below B w w') (hg : g < B) : Blk w' g t cs := (hb.block g hg).trans h
theorem Blk.grown {row : Option Nat} (h : Blk w g t cs) (hb : w.grownBy w' row) (hg : some g ≠ row) : Blk w' g t cs := (hb.block g h.lt hg).trans h
theorem Blk.ne_ {g' : Nat} {t' : TypeId} {cs' : Array Value} (h : Blk w g t cs) (h' : Blk w g' t' cs') (hne : t ≠ t') : g ≠ g' := by
  rintro rfl
  unfold Blk at h h'
  rw [h] at h'
  injection h' with h'
  injection h' with _ ht
  exact hne ht
theorem own_blk_ne {base : Nat} {e : TypeId} {size n : Nat} {v : Value} {xs : List Value} (h : w.ownsRow base e size v n xs) (hg : Blk w g t cs) (hne : e ≠ t) : v.ownBlock ≠ some g := by
  rcases h.2 with ⟨rfl, _⟩ | ⟨g', cap, cur, rfl, _, hh, _⟩
  · simp [Value.ownBlock]
  · intro he
    have : g' = g := by simpa [Value.ownBlock] using he
    subst this
    exact Blk.ne_ (t := e) hh hg hne rfl
theorem Blk.nine {v0 v1 v2 v3 v4 v5 v6 v7 v8 : Value} (h : Blk w g t #[v0, v1, v2, v3, v4, v5, v6, v7, v8]) :
    w.cell? ⟨g, 0, none⟩ = some v0 ∧ w.cell? ⟨g, 1, none⟩ = some v1 ∧ w.cell? ⟨g, 2, none⟩ = some v2 ∧ w.cell? ⟨g, 3, none⟩ = some v3 ∧ w.cell? ⟨g, 4, none⟩ = some v4 ∧
    w.cell? ⟨g, 5, none⟩ = some v5 ∧ w.cell? ⟨g, 6, none⟩ = some v6 ∧ w.cell? ⟨g, 7, none⟩ = some v7 ∧ w.cell? ⟨g, 8, none⟩ = some v8 :=
  ⟨by simpa using h.cell 0, by simpa using h.cell 1, by simpa using h.cell 2, by simpa using h.cell 3, by simpa using h.cell 4, by simpa using h.cell 5, by simpa using h.cell 6, by simpa using h.cell 7, by simpa using h.cell 8⟩
theorem Blk.six {v0 v1 v2 v3 v4 v5 : Value} (h : Blk w g t #[v0, v1, v2, v3, v4, v5]) :
    w.cell? ⟨g, 0, none⟩ = some v0 ∧ w.cell? ⟨g, 1, none⟩ = some v1 ∧ w.cell? ⟨g, 2, none⟩ = some v2 ∧ w.cell? ⟨g, 3, none⟩ = some v3 ∧ w.cell? ⟨g, 4, none⟩ = some v4 ∧
    w.cell? ⟨g, 5, none⟩ = some v5 :=
  ⟨by simpa using h.cell 0, by simpa using h.cell 1, by simpa using h.cell 2, by simpa using h.cell 3, by simpa using h.cell 4, by simpa using h.cell 5⟩
theorem Blk.one {v0 : Value} (h : Blk w g t #[v0]) : w.cell? ⟨g, 0, none⟩ = some v0 := by simpa using h.cell 0
end
theorem below_drew' {B : Nat} {a w : World} (h : Below B a w) : Below B a w.drew := ⟨h.os, h.tape, h.output, h.size, h.block⟩
theorem below_drewN' {B : Nat} {a w : World} (h : Below B a w) (n : Nat) : Below B a (w.drewN n) := ⟨h.os, h.tape, h.output, h.size, h.block⟩
theorem below_refl' (B : Nat) (w : World) : Below B w w := Below.refl _ _
theorem below_at {B : Nat} {a w : World} (h : Below B a w) (i : Nat) (u : Value) : Below B a (w.setCell ⟨B, i, none⟩ u) := h.setCell (Nat.le_refl B) u
theorem below_set' {B : Nat} {a w : World} (h : Below B a w) {p : Addr} (hp : B ≤ p.block) (u : Value) : Below B a (w.setCell p u) := h.setCell hp u

theorem grown_set (W : World) (p : Addr) (v : Value) : W.grownBy (W.setCell p v) (some p.block) :=
  ⟨rfl, rfl, rfl, by simp [World.setCell], fun i _ hne => Below.heap_setCell W p v i (fun e => hne (by rw [e]))⟩
theorem own_set {w : World} {base n size : Nat} {e : TypeId} {v : Value} {xs : List Value} (h : w.ownsRow base e size v n xs) (p : Addr) (hne : v.ownBlock ≠ some p.block) (u : Value) : (w.setCell p u).ownsRow base e size v n xs :=
  h.kept (grown_set w p u) (.inr hne)
abbrev nilS : Value := .slice none 0 0
abbrev encZero : Array Value := #[nilS, nilS, .int .u64 0, .int .u64 0, .int .u32 0, .int .u32 0, .int .i64 0, .int .i64 0, .int .u64 0]
abbrev encInit : Array Value := #[nilS, nilS, .int .u64 0, .int .u64 0, .int .u32 2147483648, .int .u32 0, .int .i64 (-1), .int .i64 0, .int .u64 33]
abbrev encCum : Array Value := #[nilS, nilS, .int .u64 0, .int .u64 0, .int .u32 8589934, .int .u32 1666447344, .int .i64 (-1), .int .i64 0, .int .u64 33]
abbrev encUni : Array Value := #[nilS, nilS, .int .u64 1, .int .u64 2, .int .u32 8589934, .int .u32 1666447344, .int .i64 (-1), .int .i64 0, .int .u64 35]
abbrev encAt (v : Value) (rem : Int) : Array Value := #[v, nilS, .int .u64 1, .int .u64 2, .int .u32 8589934, .int .u32 1666447344, .int .i64 rem, .int .i64 0, .int .u64 35]
end Go.Proofs.YtojdfjohmicopaaGreatDoor
