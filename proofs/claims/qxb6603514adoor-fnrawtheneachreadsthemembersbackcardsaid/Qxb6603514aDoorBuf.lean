/-
  A byte buffer that is appended to: what is known of it, one law for append from any source, and the frame.
-/
import Derived.Deep.Upon
import Derived.Deep.Draws
import Derived.WalkKit
namespace Go.Proofs.Qxb6603514aDoor
open Go.RowKit

def bv (b : UInt8) : Value := .int .u8 b.toNat
/-- The slice '.slice ao l.length c' holds the bytes l at the head of a row, and its spare cells are there. -/
structure Buf (w : World) (ao : Option Addr) (c : Nat) (l : List UInt8) : Prop where
  ex : ∃ b, Came w 1 ao b 0 l.length c (l.map bv)
  max : c ≤ maxLen
  nil : c = 0 → ao = none
def blk (ao : Option Addr) : Option Nat := ao.map (·.block)
/-- From w to w' nothing turned but the row at ao and new blocks; ao' is that row or a new one. -/
structure Step (w : World) (ao : Option Addr) (w' : World) (ao' : Option Addr) : Prop where
  os : w'.os = w.os
  output : w'.output = w.output
  size : w.heap.size ≤ w'.heap.size
  block : ∀ k, k < w.heap.size → blk ao ≠ some k → w'.heap[k]? = w.heap[k]?
  row : ∀ k, blk ao' = some k → blk ao = some k ∨ w.heap.size ≤ k

theorem Step.refl (w : World) (ao : Option Addr) : Step w ao w ao := ⟨rfl, rfl, Nat.le_refl _, fun _ _ _ => rfl, fun _ h => .inl h⟩
theorem Step.trans {w w1 w2 : World} {a a1 a2 : Option Addr} (h : Step w a w1 a1) (k : Step w1 a1 w2 a2) : Step w a w2 a2 := by
  refine ⟨k.os.trans h.os, k.output.trans h.output, Nat.le_trans h.size k.size, fun i hi hn => ?_, fun i hi => ?_⟩
  · rw [k.block i (Nat.lt_of_lt_of_le hi h.size) (fun e => ?_), h.block i hi hn]
    rcases h.row i e with h1 | h1
    · exact hn h1
    · omega
  · rcases k.row i hi with h1 | h1
    · exact h.row i h1
    · exact .inr (Nat.le_trans h.size h1)
theorem Step.alloc (w : World) (ao : Option Addr) (o : Obj) : Step w ao (w.alloc o) ao :=
  ⟨rfl, rfl, by simp, fun k hk _ => Below.heap_alloc _ _ _ hk, fun _ h => .inl h⟩
theorem Step.drew (w : World) (ao : Option Addr) : Step w ao w.drew ao := ⟨rfl, rfl, Nat.le_refl _, fun _ _ _ => rfl, fun _ h => .inl h⟩
theorem Step.drewN (w : World) (ao : Option Addr) (n : Nat) : Step w ao (w.drewN n) ao := ⟨rfl, rfl, Nat.le_refl _, fun _ _ _ => rfl, fun _ h => .inl h⟩
theorem Step.cell {w w' : World} {a a' : Option Addr} (h : Step w a w' a') {p : Addr} (hp : p.block < w.heap.size) (hn : blk a ≠ some p.block) : w'.cell? p = w.cell? p := World.cell?_of_block (w := w) (h.block p.block hp hn)

theorem Buf.empty (w : World) : Buf w none 0 [] := ⟨⟨0, Nat.le_refl _, fun h => absurd h (Nat.lt_irrefl _), fun h => absurd h (Nat.lt_irrefl _), rfl, fun _ _ h => by simp at h, fun _ h => by simp at h⟩, by decide, fun _ => rfl⟩
theorem Buf.le {w : World} {ao : Option Addr} {c : Nat} {l : List UInt8} (h : Buf w ao c l) : l.length ≤ c := by obtain ⟨b, hb⟩ := h.ex; exact hb.le
theorem Buf.lt {w : World} {ao : Option Addr} {c : Nat} {l : List UInt8} (h : Buf w ao c l) : ∀ k, blk ao = some k → k < w.heap.size := by
  intro k hk
  obtain ⟨b, hb⟩ := h.ex
  rcases Nat.eq_zero_or_pos c with h0 | h0
  · rw [h.nil h0] at hk; cases hk
  · rw [hb.addr h0] at hk
    cases hk
    exact hb.lt h0
theorem Buf.cells {w : World} {ao : Option Addr} {c : Nat} {l : List UInt8} (h : Buf w ao c l) (hl : 0 < l.length) : ∃ b, ao = some ⟨b, 0, none⟩ ∧ ∀ j (hj : j < l.length), w.cell? ⟨b, j, none⟩ = some (.int .u8 l[j].toNat) := by
  obtain ⟨b, hb⟩ := h.ex
  refine ⟨b, hb.addr (Nat.lt_of_lt_of_le hl hb.le), fun j hj => ?_⟩
  have := hb.olds j (bv l[j]) (by simp [List.getElem?_eq_getElem hj])
  simpa [bv] using this
/-- What leaves the row alone leaves the buffer. -/
theorem Buf.kept {w w' : World} {ao : Option Addr} {c : Nat} {l : List UInt8} (h : Buf w ao c l) (hs : w.heap.size ≤ w'.heap.size) (hk : ∀ k, blk ao = some k → w'.heap[k]? = w.heap[k]?) : Buf w' ao c l := by
  obtain ⟨b, hb⟩ := h.ex
  rcases Nat.eq_zero_or_pos c with h0 | h0
  · have hl : l.length = 0 := by have := hb.le; omega
    have := h.nil h0
    subst this; subst h0
    rw [List.length_eq_zero_iff] at hl
    subst hl
    exact Buf.empty w'
  · have ha := hb.addr h0
    have e := hk b (by rw [ha]; rfl)
    refine ⟨⟨b, hb.le, hb.addr, fun h1 => Nat.lt_of_lt_of_le (hb.lt h1) hs, hb.oldsLen, fun j u hj => ?_, fun j hj => ?_⟩, h.max, h.nil⟩
    · rw [World.cell?_of_block (a := ⟨b, 0 + j, none⟩) (w := w) e]; exact hb.olds j u hj
    · rw [World.cell?_of_block (a := ⟨b, 0 + l.length * 1 + j, none⟩) (w := w) e, World.frozen?_of_block (a := ⟨b, 0 + l.length * 1 + j, none⟩) (w := w) e]; exact hb.spare j hj
theorem Buf.alloc {w : World} {ao : Option Addr} {c : Nat} {l : List UInt8} (h : Buf w ao c l) (o : Obj) : Buf (w.alloc o) ao c l :=
  h.kept (by simp) fun k hk => Below.heap_alloc _ _ _ (h.lt k hk)
theorem Buf.drew {w : World} {ao : Option Addr} {c : Nat} {l : List UInt8} (h : Buf w ao c l) : Buf w.drew ao c l := h.kept (Nat.le_refl _) fun _ _ => rfl
theorem Buf.drewN {w : World} {ao : Option Addr} {c : Nat} {l : List UInt8} (h : Buf w ao c l) (n : Nat) : Buf (w.drewN n) ao c l := h.kept (Nat.le_refl _) fun _ _ => rfl
/-- Another buffer's step leaves this one, where the rows differ. -/
theorem Buf.step {w w' : World} {ao a a' : Option Addr} {c : Nat} {l : List UInt8} (h : Buf w ao c l) (s : Step w a w' a') (hn : ∀ k, blk ao = some k → blk a ≠ some k) : Buf w' ao c l :=
  h.kept s.size fun k hk => s.block k (h.lt k hk) (hn k hk)
/-- .. and the rows differ still. -/
theorem Step.apart {w w' : World} {ao a a' : Option Addr} {c : Nat} {l : List UInt8} (s : Step w a w' a') (h : Buf w ao c l) (hn : ∀ k, blk ao = some k → blk a ≠ some k) : ∀ k, blk ao = some k → blk a' ≠ some k := by
  intro k hk e
  rcases s.row k e with h1 | h1
  · exact hn k hk h1
  · have := h.lt k hk; omega

section
variable {P : Program}
/-- THE LAW OF append, any source. -/
theorem run_append_buf (t tx ty e : TypeId) (i : TypeInfo) (z : Value) (ht : P.underlying t = some (.slice e)) (hi : P.info? e = some i) (hz : i.zero = some z) (hsize : i.size = 1) (hby : i.bytes = 1) (hzs : z.cells.size = 1)
    {w : World} {ao : Option Addr} {c : Nat} {l : List UInt8} (h : Buf w ao c l) (x : Value) (n : Nat) (news : List UInt8) (hn : news.length = n) (hs : Src P 1 tx x n (news.map bv) w) (hb : l.length + n ≤ 140737488355328) :
    ∃ ao' c' w', (Builtin.append_ #[t, tx] ty #[.slice ao l.length c, x]).run P w = .ok (.slice ao' (l ++ news).length c') w' ∧ Buf w' ao' c' (l ++ news) ∧ Step w ao w' ao' := by
  obtain ⟨b, hc⟩ := h.ex
  obtain ⟨v', w', hrun, hu⟩ := run_append_upon (P := P) hc t tx ty i z 1 ht hi hz hsize hby hzs (Upon.start (e := e) hc) x n (news.map bv) hs (by simp only [maxLen]; omega) (by omega)
  have hlen : (l ++ news).length = l.length + n := by rw [List.length_append, hn]
  simp only [Nat.zero_add, List.nil_append] at hu
  have hmay : ∀ k, k < w.heap.size → blk ao ≠ some k → w'.heap[k]? = w.heap[k]? := fun k hk hne => by
    refine hu.kept.block hk ?_
    rintro p ⟨j, hj, rfl⟩ hp
    have hcp := hu.capPos hj
    rw [hc.addr hcp] at hne
    exact hne (congrArg some (show b = k from hp))
  rcases hu.val with ⟨hle, rfl, hr⟩ | ⟨hgt, g, c', rfl, ho⟩
  · refine ⟨ao, c, w', by rw [hlen]; simpa using hrun, ⟨⟨b, by rw [hlen]; exact hle, hc.addr, fun h0 => Nat.lt_of_lt_of_le (hc.lt h0) hu.kept.size, by simp, fun j u hj => ?_, fun j hj => ?_⟩, h.max, h.nil⟩,
      hu.kept.1, hu.kept.2.1, hu.kept.size, hmay, fun _ hk => .inl hk⟩
    · have hj2 : j < (l ++ news).length := by
        have := (List.getElem?_eq_some_iff.1 hj).1; simpa using this
      have := hu.inArray hc (by omega) hr j (by omega)
      rw [this, ← hj]; simp
    · rw [hlen] at hj ⊢
      have hcp : 0 < c := by omega
      have e1 := hu.old (b' := b) (o' := 0 + (l.length + n) * 1 + j) (hc.lt hcp) (fun j' hj' ⟨_, e'⟩ => by
        have : (news.map bv).length = n := by simp [hn]
        omega)
      have e2 := hu.frozen ⟨b, 0 + (l.length + n) * 1 + j, none⟩ (hc.lt hcp)
      have := hc.spare (n + j) (by omega)
      rw [show 0 + l.length * 1 + (n + j) = 0 + (l.length + n) * 1 + j by omega] at this
      rw [e1, e2]; exact this
  · have hc0 : 0 < c' := by have := ho.le; omega
    refine ⟨some ⟨g, 0, none⟩, c', w', by rw [hlen]; simpa using hrun, ⟨⟨g, by rw [hlen]; exact ho.le, fun _ => rfl, fun _ => ?_, by simp, fun j u hj => ?_, fun j hj => ?_⟩, ho.max, fun h0 => by omega⟩,
      hu.kept.1, hu.kept.2.1, hu.kept.size, hmay, fun k hk => .inr (by cases hk; exact ho.new)⟩
    · exact World.block_lt_of_cell? _ _ (Option.isSome_iff_exists.1 (ho.there 0 (by omega)).1).choose_spec
    · have hj2 : j < (l ++ news).length := by
        have := (List.getElem?_eq_some_iff.1 hj).1; simpa using this
      have := ho.holds j (by omega)
      rw [Nat.zero_add, this, ← hj]; simp
    · rw [hlen] at hj ⊢
      exact ho.there _ (by omega)

theorem wpList_append_buf (w : World) {ops : Array Oper} {rest : List Oper} {o : Oper} {a : Act} {Q : Exit → Act → World → Prop} (hgd : o.guard = none) (s x : Operand) (t tx : TypeId)
    (ho : o.op = .call { callee := .builtin .append, args := #[s, x], argTypes := #[t, tx] })
    (e : TypeId) (i : TypeInfo) (z : Value) (ht : P.underlying t = some (.slice e)) (hi : P.info? e = some i) (hz : i.zero = some z) (hsize : i.size = 1) (hby : i.bytes = 1) (hzs : z.cells.size = 1)
    {ao : Option Addr} {c : Nat} {l : List UInt8} (hv : a.eval s = .slice ao l.length c) (h : Buf w ao c l)
    (xv : Value) (n : Nat) (news : List UInt8) (hn : news.length = n) (hx : a.eval x = xv) (hs : Src P 1 tx xv n (news.map bv) w) (hb : l.length + n ≤ 140737488355328)
    (hK : ∀ ao' c' w', Buf w' ao' c' (l ++ news) → Step w ao w' ao' → wpList P ops Q rest (a.put o.dst (.slice ao' (l ++ news).length c')) w') : wpList P ops Q (o :: rest) a w := by
  refine wpList_plain hgd fun K hK' => ?_
  obtain ⟨ao', c', w', hrun, hB, hS⟩ := run_append_buf (P := P) t tx o.type e i z ht hi hz hsize hby hzs h xv n news hn hs hb
  have hk := hK ao' c' w' hB hS
  generalize Value.slice ao' (l ++ news).length c' = v' at hrun hk
  unfold Oper.wp
  simp [execOp, ho, resolve, invoke, builtin, hv, hx, hrun, Result.andThen]
  exact hK' _ _ hk
end
end Go.Proofs.Qxb6603514aDoor
