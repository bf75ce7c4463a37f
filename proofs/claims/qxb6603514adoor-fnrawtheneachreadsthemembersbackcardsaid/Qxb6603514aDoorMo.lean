/-
  The frame: what lay stays as it lay.
-/
import Derived.Test.Qxb6603514aDoorWc
import Derived.Deep.Heap
namespace Go.Proofs.Qxb6603514aDoor
open Go.RowKit
/-- What lay in w0 lies in w as it lay. -/
structure Old (w0 w : World) : Prop where
  os : w.os = w0.os
  output : w.output = w0.output
  size : w0.heap.size ≤ w.heap.size
  block : ∀ k, k < w0.heap.size → w.heap[k]? = w0.heap[k]?
def Own (w0 : World) (ao : Option Addr) : Prop := ∀ k, blk ao = some k → w0.heap.size ≤ k
theorem Old.refl (w : World) : Old w w := ⟨rfl, rfl, Nat.le_refl _, fun _ _ => rfl⟩
theorem Old.step {w0 w w' : World} {a a' : Option Addr} (h : Old w0 w) (s : Step w a w' a') (ha : Own w0 a) : Old w0 w' :=
  ⟨s.os.trans h.os, s.output.trans h.output, Nat.le_trans h.size s.size, fun k hk => (s.block k (Nat.lt_of_lt_of_le hk h.size) (fun e => by have := ha k e; omega)).trans (h.block k hk)⟩
theorem Own.step {w0 w w' : World} {a a' : Option Addr} (h : Old w0 w) (s : Step w a w' a') (ha : Own w0 a) : Own w0 a' := fun k hk => by
  rcases s.row k hk with h1 | h1
  · exact ha k h1
  · exact Nat.le_trans h.size h1
theorem Old.below {w0 w w' : World} (h : Old w0 w) (s : Below w.heap.size w w') : Old w0 w' :=
  ⟨s.os.trans h.os, s.output.trans h.output, Nat.le_trans h.size s.size, fun k hk => (s.block k (Nat.lt_of_lt_of_le hk h.size)).trans (h.block k hk)⟩
theorem Old.cell {w0 w : World} (h : Old w0 w) {p : Addr} {v : Value} (hp : w0.cell? p = some v) : w.cell? p = some v :=
  (World.cell?_of_block (w := w0) (h.block p.block (World.block_lt_of_cell? _ _ hp))).trans hp
theorem Old.tabs {w0 w : World} (h : Old w0 w) (hT : Lib.Utf8Tabs 0 1 w0) : Lib.Utf8Tabs 0 1 w :=
  ⟨fun c hc => h.cell (hT.1 c hc), fun i hi => ⟨h.cell (hT.2 i hi).1, h.cell (hT.2 i hi).2⟩⟩
theorem Step.of_below {w w' : World} (h : Below w.heap.size w w') (ao : Option Addr) : Step w ao w' ao :=
  ⟨h.os, h.output, h.size, fun k hk _ => h.block k hk, fun _ e => .inl e⟩
theorem Old.drewN {w0 w : World} (h : Old w0 w) (n : Nat) : Old w0 (w.drewN n) := ⟨h.os, h.output, h.size, h.block⟩
theorem Old.drew {w0 w : World} (h : Old w0 w) : Old w0 w.drew := ⟨h.os, h.output, h.size, h.block⟩
theorem Old.trans {a b c : World} (h : Old a b) (k : Old b c) : Old a c := ⟨k.os.trans h.os, k.output.trans h.output, Nat.le_trans h.size k.size, fun i hi => (k.block i (Nat.lt_of_lt_of_le hi h.size)).trans (h.block i hi)⟩
theorem Old.alloc {w0 w : World} (h : Old w0 w) (o : Obj) : Old w0 (w.alloc o) := ⟨h.os, h.output, Nat.le_trans h.size (by simp), fun k hk => (Below.heap_alloc _ _ _ (Nat.lt_of_lt_of_le hk h.size)).trans (h.block k hk)⟩
theorem Old.setCell {w0 w : World} (h : Old w0 w) {p : Addr} (hp : w0.heap.size ≤ p.block) (u : Value) : Old w0 (w.setCell p u) :=
  ⟨h.os, h.output, Nat.le_trans h.size (by rw [Go.Deep.nblk_setCell]; exact Nat.le_refl _), fun k hk => (Below.heap_setCell _ _ _ _ (by omega)).trans (h.block k hk)⟩
end Go.Proofs.Qxb6603514aDoor
