/-
  Four slices in four boxes, gathered by a closure.
-/
import Derived.Test.Qxb6603514aDoorJj
import Derived.Handy
import Derived.Deep.OwnRows
namespace Go.Proofs.Qxb6603514aDoor
open Go.RowKit
theorem info25 : (Tryd.prog.info? 25).map (fun i => (i.zero, i.size, i.bytes)) = some (some (.slice none 0 0), 1, 24) := by kernel_rfl
theorem info46 : (Tryd.prog.info? 46).map (fun i => (i.zero, i.size, i.bytes)) = some (some (.int .i64 0), 1, 8) := by kernel_rfl
theorem from33 (w : World) (v : Value) : Calls Tryd.prog 33 #[.pointer none, v] w fun e w' => Hid (e = .returned (.tuple #[.int .i64 0, .slice none 0 0]) ∧ Old w w') := by
  go_enter Tryd.func33, Tryd.ntmps33
  go_wp2_with fail
  go_returns
  exact hide ⟨rfl, ((Old.refl w).alloc _).alloc _⟩
def ty4 : Fin 4 → TypeId
  | 0 => 42
  | 1 => 43
  | 2 => 42
  | 3 => 43
def q4 {α : Type} (x0 x1 x2 x3 : α) : Fin 4 → α
  | 0 => x0
  | 1 => x1
  | 2 => x2
  | 3 => x3
def up4 {α : Type} (f : Fin 4 → α) (i : Fin 4) (v : α) (j : Fin 4) : α := if j = i then v else f j
theorem up4_0 {α : Type} (x0 x1 x2 x3 v : α) : up4 (q4 x0 x1 x2 x3) 0 v = q4 v x1 x2 x3 := by funext i; match i with | 0 => rfl | 1 => rfl | 2 => rfl | 3 => rfl
theorem up4_1 {α : Type} (x0 x1 x2 x3 v : α) : up4 (q4 x0 x1 x2 x3) 1 v = q4 x0 v x2 x3 := by funext i; match i with | 0 => rfl | 1 => rfl | 2 => rfl | 3 => rfl
theorem up4_2 {α : Type} (x0 x1 x2 x3 v : α) : up4 (q4 x0 x1 x2 x3) 2 v = q4 x0 x1 v x3 := by funext i; match i with | 0 => rfl | 1 => rfl | 2 => rfl | 3 => rfl
theorem up4_3 {α : Type} (x0 x1 x2 x3 v : α) : up4 (q4 x0 x1 x2 x3) 3 v = q4 x0 x1 x2 v := by funext i; match i with | 0 => rfl | 1 => rfl | 2 => rfl | 3 => rfl
structure Quad (w0 : World) (B : Nat) (w : World) (a : Fin 4 → Option Addr) (c n : Fin 4 → Nat) (l : Fin 4 → List Value) : Prop where
  box : ∀ i : Fin 4, w.rowIs (B + i.val) (ty4 i) 1 (fun _ => .slice (a i) (n i) (c i))
  buf : ∀ i, Bg 1 w (a i) (c i) (n i) (l i)
  own : ∀ i k, blk (a i) = some k → B + 4 ≤ k
  apart : ∀ i j, i ≠ j → ∀ k, blk (a i) = some k → blk (a j) ≠ some k
  old : Old w0 w
  base : w0.heap.size ≤ B
/-- Nothing turned but the boxes, the rows and new blocks. -/
structure Fr (B : Nat) (w : World) (a : Fin 4 → Option Addr) (w' : World) (a' : Fin 4 → Option Addr) : Prop where
  size : w.heap.size ≤ w'.heap.size
  block : ∀ k, k < w.heap.size → B + 4 ≤ k → (∀ i, blk (a i) ≠ some k) → w'.heap[k]? = w.heap[k]?
  row : ∀ i k, blk (a' i) = some k → (∃ j, blk (a j) = some k) ∨ w.heap.size ≤ k
theorem Fr.refl (B : Nat) (w : World) (a : Fin 4 → Option Addr) : Fr B w a w a := ⟨Nat.le_refl _, fun _ _ _ _ => rfl, fun i _ h => .inl ⟨i, h⟩⟩
theorem Fr.trans {B : Nat} {w w1 w2 : World} {a a1 a2 : Fin 4 → Option Addr} (h : Fr B w a w1 a1) (k : Fr B w1 a1 w2 a2) : Fr B w a w2 a2 := by
  refine ⟨Nat.le_trans h.size k.size, fun i hi hb hn => ?_, fun i x hx => ?_⟩
  · rw [k.block i (Nat.lt_of_lt_of_le hi h.size) hb (fun j e => ?_), h.block i hi hb hn]
    rcases h.row j i e with ⟨j2, h1⟩ | h1
    · exact hn j2 h1
    · omega
  · rcases k.row i x hx with ⟨j, h1⟩ | h1
    · exact h.row j x h1
    · exact .inr (Nat.le_trans h.size h1)
theorem Fr.of {B : Nat} {w w' : World} {a : Fin 4 → Option Addr} (h : Old w w') : Fr B w a w' a := ⟨h.size, fun k hk _ _ => h.block k hk, fun i _ e => .inl ⟨i, e⟩⟩
theorem Fr.cell {B : Nat} {w w' : World} {a a' : Fin 4 → Option Addr} (h : Fr B w a w' a') {p : Addr} {v : Value} (hp : w.cell? p = some v) (hb : B + 4 ≤ p.block) (hn : ∀ i, blk (a i) ≠ some p.block) : w'.cell? p = some v :=
  (World.cell?_of_block (w := w) (h.block p.block (World.block_lt_of_cell? _ _ hp) hb hn)).trans hp
/-- A block aside stays aside. -/
theorem Fr.aside {B : Nat} {w w' : World} {a a' : Fin 4 → Option Addr} (h : Fr B w a w' a') {k : Nat} (hk : k < w.heap.size) (hn : ∀ i, blk (a i) ≠ some k) : ∀ i, blk (a' i) ≠ some k := fun i e => by
  rcases h.row i k e with ⟨j, h1⟩ | h1
  · exact hn j h1
  · omega
section
variable {w0 : World} {B : Nat} {w : World} {a : Fin 4 → Option Addr} {c n : Fin 4 → Nat} {l : Fin 4 → List Value}
theorem Quad.lt (h : Quad w0 B w a c n l) : B + 4 ≤ w.heap.size := by
  have := (h.box 3).lt
  have e : (3 : Fin 4).val = 3 := rfl
  omega
theorem Quad.on {w' : World} (h : Quad w0 B w a c n l) (ho : Old w w') : Quad w0 B w' a c n l :=
  ⟨fun i => (h.box i).of_block (ho.block _ (h.box i).lt), fun i => (h.buf i).old ho, h.own, h.apart, h.old.trans ho, h.base⟩
theorem Quad.step (h : Quad w0 B w a c n l) (i : Fin 4) {w1 : World} {a' : Option Addr} {c' n' : Nat} {l' : List Value} (s : Step w (a i) w1 a') (hb : Bg 1 w1 a' c' n' l') :
    Quad w0 B (w1.setCell ⟨B + i.val, 0, none⟩ (.slice a' n' c')) (up4 a i a') (up4 c i c') (up4 n i n') (up4 l i l') ∧ Fr B w a (w1.setCell ⟨B + i.val, 0, none⟩ (.slice a' n' c')) (up4 a i a') := by
  have hlt := h.lt
  have hnew : ∀ k, blk a' = some k → B + 4 ≤ k := fun k hk => by
    rcases s.row k hk with h1 | h1
    · exact h.own i k h1
    · omega
  have hboxne : ∀ j : Fin 4, blk (a i) ≠ some (B + j.val) := fun j e => by have := h.own i _ e; have := j.isLt; omega
  have hset : ∀ k, k ≠ B + i.val → (w1.setCell ⟨B + i.val, 0, none⟩ (.slice a' n' c')).heap[k]? = w1.heap[k]? := fun k hk => Go.Deep.blk_setCell_other _ _ _ _ hk
  have hsz : w1.heap.size ≤ (w1.setCell ⟨B + i.val, 0, none⟩ (.slice a' n' c')).heap.size := by rw [Go.Deep.nblk_setCell]; exact Nat.le_refl _
  have hap : ∀ j, j ≠ i → ∀ k, blk (a j) = some k → blk a' ≠ some k := fun j hj => (h.buf j).apart s (fun k hk => h.apart j i hj k hk)
  refine ⟨⟨fun j => ?_, fun j => ?_, fun j k hk => ?_, fun j j2 hjj k hk => ?_, ?_, h.base⟩, Nat.le_trans s.size hsz, fun k hk hb4 hn => ?_, fun j k hk => ?_⟩
  · by_cases e : j = i
    · subst e
      have h1 : w1.rowIs (B + j.val) (ty4 j) 1 _ := (h.box j).of_block (s.block _ (h.box j).lt (hboxne j))
      refine (h1.set 0 _).congr fun x hx => ?_
      unfold up4
      rw [if_pos (by omega), if_pos rfl, if_pos rfl, if_pos rfl]
    · unfold up4
      rw [if_neg e, if_neg e, if_neg e]
      have hji : j.val ≠ i.val := fun hh => e (Fin.ext hh)
      exact (h.box j).of_block ((hset _ (by omega)).trans (s.block _ (h.box j).lt (hboxne j)))
  · unfold up4
    by_cases e : j = i
    · subst e
      rw [if_pos rfl, if_pos rfl, if_pos rfl, if_pos rfl]
      exact hb.kept hsz fun k hk => hset k (by have := hnew k hk; have := j.isLt; omega)
    · rw [if_neg e, if_neg e, if_neg e, if_neg e]
      exact ((h.buf j).step s (fun k hk => h.apart j i e k hk)).kept hsz fun k hk => hset k (by have := h.own j k hk; have := i.isLt; omega)
  · unfold up4 at hk
    by_cases e : j = i
    · rw [if_pos e] at hk; exact hnew k hk
    · rw [if_neg e] at hk; exact h.own j k hk
  · unfold up4 at hk ⊢
    by_cases e : j = i
    · rw [if_pos e] at hk
      rw [if_neg (fun e2 => hjj (e.trans e2.symm))]
      exact fun e2 => hap j2 (fun e3 => hjj (e.trans e3.symm)) k e2 hk
    · rw [if_neg e] at hk
      by_cases e2 : j2 = i
      · rw [if_pos e2]; exact hap j e k hk
      · rw [if_neg e2]; exact h.apart j j2 hjj k hk
  · have h1 : Old w0 w1 := h.old.step s (fun k hk => by have := h.own i k hk; have := h.base; omega)
    exact h1.setCell (show w0.heap.size ≤ B + i.val by have := h.base; omega) _
  · exact (hset k (by have := i.isLt; omega)).trans (s.block k hk (hn i))
  · unfold up4 at hk
    by_cases e : j = i
    · rw [if_pos e] at hk
      rcases s.row k hk with h1 | h1
      · exact .inl ⟨i, h1⟩
      · exact .inr h1
    · rw [if_neg e] at hk
      exact .inl ⟨j, hk⟩
end
theorem appR (w : World) {ops : Array Oper} {rest : List Oper} {o : Oper} {a : Act} {Q : Exit → Act → World → Prop} (hgd : o.guard = none) (s x : Operand)
    (ho : o.op = .call { callee := .builtin .append, args := #[s, x], argTypes := #[42, 42] })
    {ao : Option Addr} {c n : Nat} (l : List Value) (hv : a.eval s = .slice ao n c) (h : Bg 1 w ao c n l)
    (xv : Value) (news : List Value) (hx : a.eval x = xv) (hs : Src Tryd.prog 1 42 xv 1 news w) (hb : n ≤ 100000000)
    (hK : ∀ ao' c' w', Hid (Bg 1 w' ao' c' (n + 1) (l ++ news)) → Hid (Step w ao w' ao') → wpList Tryd.prog ops Q rest (a.put o.dst (.slice ao' (n + 1) c')) w') : wpList Tryd.prog ops Q (o :: rest) a w := by
  obtain ⟨i0, hi, hz0, hz1, hz2⟩ := info_parts info25
  exact wpList_append_bg w hgd s x 42 42 ho 1 24 25 i0 _ Tryd.underlying42 hi hz0 hz1 hz2 rfl (by omega) l hv h xv 1 news hx hs (by simp only [maxLen]; omega) (by omega) hK
theorem appK (w : World) {ops : Array Oper} {rest : List Oper} {o : Oper} {a : Act} {Q : Exit → Act → World → Prop} (hgd : o.guard = none) (s x : Operand)
    (ho : o.op = .call { callee := .builtin .append, args := #[s, x], argTypes := #[43, 43] })
    {ao : Option Addr} {c n : Nat} (l : List Value) (hv : a.eval s = .slice ao n c) (h : Bg 1 w ao c n l)
    (xv : Value) (news : List Value) (hx : a.eval x = xv) (hs : Src Tryd.prog 1 43 xv 1 news w) (hb : n ≤ 100000000)
    (hK : ∀ ao' c' w', Hid (Bg 1 w' ao' c' (n + 1) (l ++ news)) → Hid (Step w ao w' ao') → wpList Tryd.prog ops Q rest (a.put o.dst (.slice ao' (n + 1) c')) w') : wpList Tryd.prog ops Q (o :: rest) a w := by
  obtain ⟨i0, hi, hz0, hz1, hz2⟩ := info_parts info46
  exact wpList_append_bg w hgd s x 43 43 ho 1 8 46 i0 _ Tryd.underlying43 hi hz0 hz1 hz2 rfl (by omega) l hv h xv 1 news hx hs (by simp only [maxLen]; omega) (by omega) hK
theorem srcR (w : World) (a : Option Addr) (n c : Nat) : Src Tryd.prog 1 42 (.slice (some ⟨w.heap.size, 0, none⟩) 1 1) 1 [.slice a n c] (w.alloc (.cells #[.slice a n c] 25)) :=
  Src.ofSlice _ Tryd.underlying42 _ _ _ _ (by simp) (fun j u hj => by
    rw [Addr.add_lit, World.cell?_alloc_at _ _ _ _ rfl]
    simpa using hj) (fun u hu => by
    simp at hu
    subst hu; rfl)
theorem srcK (w : World) (x : Int) : Src Tryd.prog 1 43 (.slice (some ⟨w.heap.size, 0, none⟩) 1 1) 1 [.int .i64 x] (w.alloc (.cells #[.int .i64 x] 46)) :=
  Src.ofSlice _ Tryd.underlying43 _ _ _ _ (by simp) (fun j u hj => by
    rw [Addr.add_lit, World.cell?_alloc_at _ _ _ _ rfl]
    simpa using hj) (fun u hu => by
    simp at hu
    subst hu; rfl)
end Go.Proofs.Qxb6603514aDoor
