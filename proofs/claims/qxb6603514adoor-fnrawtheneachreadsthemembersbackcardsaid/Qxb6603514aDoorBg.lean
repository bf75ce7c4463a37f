/-
  A slice of any elements that is appended to: what is known of it, and one law for append.
-/
import Derived.Test.Qxb6603514aDoorMo
namespace Go.Proofs.Qxb6603514aDoor
open Go.RowKit
/-- The slice '.slice ao n c' holds the cells l at the head of a row, and its spare cells are there. -/
structure Bg (size : Nat) (w : World) (ao : Option Addr) (c n : Nat) (l : List Value) : Prop where
  ex : ∃ b, Came w size ao b 0 n c l
  max : c ≤ maxLen
  nil : c = 0 → ao = none
theorem Bg.empty (size : Nat) (w : World) : Bg size w none 0 0 [] := ⟨⟨0, Nat.le_refl _, fun h => absurd h (Nat.lt_irrefl _), fun h => absurd h (Nat.lt_irrefl _), by simp, fun _ _ h => by simp at h, fun _ h => by simp at h⟩, by decide, fun _ => rfl⟩
theorem Bg.lt {size : Nat} {w : World} {ao : Option Addr} {c n : Nat} {l : List Value} (h : Bg size w ao c n l) : ∀ k, blk ao = some k → k < w.heap.size := by
  intro k hk
  obtain ⟨b, hb⟩ := h.ex
  rcases Nat.eq_zero_or_pos c with h0 | h0
  · rw [h.nil h0] at hk; cases hk
  · rw [hb.addr h0] at hk
    cases hk
    exact hb.lt h0
theorem Bg.len {size : Nat} {w : World} {ao : Option Addr} {c n : Nat} {l : List Value} (h : Bg size w ao c n l) : l.length = n * size := by obtain ⟨b, hb⟩ := h.ex; exact hb.oldsLen
theorem Bg.cells {size : Nat} {w : World} {ao : Option Addr} {c n : Nat} {l : List Value} (h : Bg size w ao c n l) (hl : 0 < n) : ∃ b, ao = some ⟨b, 0, none⟩ ∧ ∀ j u, l[j]? = some u → w.cell? ⟨b, j, none⟩ = some u := by
  obtain ⟨b, hb⟩ := h.ex
  exact ⟨b, hb.addr (Nat.lt_of_lt_of_le hl hb.le), fun j u hj => by have := hb.olds j u hj; rwa [Nat.zero_add] at this⟩
theorem Bg.kept {size : Nat} {w w' : World} {ao : Option Addr} {c n : Nat} {l : List Value} (h : Bg size w ao c n l) (hs : w.heap.size ≤ w'.heap.size) (hk : ∀ k, blk ao = some k → w'.heap[k]? = w.heap[k]?) : Bg size w' ao c n l := by
  obtain ⟨b, hb⟩ := h.ex
  rcases Nat.eq_zero_or_pos c with h0 | h0
  · have hl : n = 0 := by have := hb.le; omega
    have hl2 : l = [] := by have := hb.oldsLen; rw [hl, Nat.zero_mul] at this; exact List.length_eq_zero_iff.1 this
    have := h.nil h0
    subst this; subst h0; subst hl; subst hl2
    exact Bg.empty size w'
  · have ha := hb.addr h0
    have e := hk b (by rw [ha]; rfl)
    refine ⟨⟨b, hb.le, hb.addr, fun h1 => Nat.lt_of_lt_of_le (hb.lt h1) hs, hb.oldsLen, fun j u hj => ?_, fun j hj => ?_⟩, h.max, h.nil⟩
    · rw [World.cell?_of_block (a := ⟨b, 0 + j, none⟩) (w := w) e]; exact hb.olds j u hj
    · rw [World.cell?_of_block (a := ⟨b, 0 + n * size + j, none⟩) (w := w) e, World.frozen?_of_block (a := ⟨b, 0 + n * size + j, none⟩) (w := w) e]; exact hb.spare j hj
theorem Bg.step {size : Nat} {w w' : World} {ao a a' : Option Addr} {c n : Nat} {l : List Value} (h : Bg size w ao c n l) (s : Step w a w' a') (hn : ∀ k, blk ao = some k → blk a ≠ some k) : Bg size w' ao c n l :=
  h.kept s.size fun k hk => s.block k (h.lt k hk) (hn k hk)
theorem Bg.old {size : Nat} {w w' : World} {ao : Option Addr} {c n : Nat} {l : List Value} (h : Bg size w ao c n l) (s : Old w w') : Bg size w' ao c n l :=
  h.kept s.size fun k hk => s.block k (h.lt k hk)
theorem Bg.alloc {size : Nat} {w : World} {ao : Option Addr} {c n : Nat} {l : List Value} (h : Bg size w ao c n l) (o : Obj) : Bg size (w.alloc o) ao c n l := h.old ((Old.refl w).alloc o)
theorem Bg.apart {size : Nat} {w w' : World} {ao a a' : Option Addr} {c n : Nat} {l : List Value} (h : Bg size w ao c n l) (s : Step w a w' a') (hn : ∀ k, blk ao = some k → blk a ≠ some k) : ∀ k, blk ao = some k → blk a' ≠ some k := by
  intro k hk e
  rcases s.row k e with h1 | h1
  · exact hn k hk h1
  · have := h.lt k hk; omega
section
variable {P : Program}
theorem run_append_bg (size bytes : Nat) (t tx ty e : TypeId) (i : TypeInfo) (z : Value) (ht : P.underlying t = some (.slice e)) (hi : P.info? e = some i) (hz : i.zero = some z) (hsize : i.size = size) (hby : i.bytes = bytes) (hzs : z.cells.size = size) (hpos : 0 < size)
    {w : World} {ao : Option Addr} {c n : Nat} {l : List Value} (h : Bg size w ao c n l) (x : Value) (m : Nat) (news : List Value) (hs : Src P size tx x m news w) (h63 : n + m ≤ maxLen) (hb : (n + m) * bytes ≤ 140737488355328) :
    ∃ ao' c' w', (Builtin.append_ #[t, tx] ty #[.slice ao n c, x]).run P w = .ok (.slice ao' (n + m) c') w' ∧ Bg size w' ao' c' (n + m) (l ++ news) ∧ Step w ao w' ao' := by
  obtain ⟨b, hc⟩ := h.ex
  have hnl := hs.newsLen
  have hol := hc.oldsLen
  obtain ⟨v', w', hrun, hu⟩ := run_append_upon (P := P) hc t tx ty i z bytes ht hi hz hsize hby hzs (Upon.start (e := e) hc) x m news hs (by omega) (by rw [Nat.add_zero]; exact hb)
  have hlen : (l ++ news).length = (n + m) * size := by rw [List.length_append, hnl, hol, Nat.add_mul]
  simp only [Nat.zero_add, List.nil_append] at hu
  have hmay : ∀ k, k < w.heap.size → blk ao ≠ some k → w'.heap[k]? = w.heap[k]? := fun k hk hne => by
    refine hu.kept.block hk ?_
    rintro p ⟨j, hj, rfl⟩ hp
    have hcp := hu.capPos hj
    rw [hc.addr hcp] at hne
    exact hne (congrArg some (show b = k from hp))
  rcases hu.val with ⟨hle, rfl, hr⟩ | ⟨hgt, g, c', rfl, ho⟩
  · refine ⟨ao, c, w', by simpa using hrun, ⟨⟨b, hle, hc.addr, fun h0 => Nat.lt_of_lt_of_le (hc.lt h0) hu.kept.size, hlen, fun j u hj => ?_, fun j hj => ?_⟩, h.max, h.nil⟩,
      hu.kept.1, hu.kept.2.1, hu.kept.size, hmay, fun _ hk => .inl hk⟩
    · have hj2 : j < (l ++ news).length := (List.getElem?_eq_some_iff.1 hj).1
      rw [hlen] at hj2
      have hcp : 0 < c := by
        rcases Nat.eq_zero_or_pos (n + m) with h0 | h0
        · rw [h0, Nat.zero_mul] at hj2; omega
        · omega
      have := hu.inArray hc hcp hr j hj2
      rw [this, ← hj]
    · have hcp : 0 < c := by
        rcases Nat.eq_zero_or_pos c with h0 | h0
        · rw [h0, Nat.zero_sub, Nat.zero_mul] at hj; omega
        · exact h0
      have e1 := hu.old (b' := b) (o' := 0 + (n + m) * size + j) (hc.lt hcp) (fun j' hj' ⟨_, e'⟩ => by
        rw [Nat.add_mul] at e'
        omega)
      have e2 := hu.frozen ⟨b, 0 + (n + m) * size + j, none⟩ (hc.lt hcp)
      have hh : m * size + j < (c - n) * size := by
        have : (c - (n + m)) * size + m * size = (c - n) * size := by rw [← Nat.add_mul]; congr 1; omega
        omega
      have := hc.spare (m * size + j) hh
      rw [show 0 + n * size + (m * size + j) = 0 + (n + m) * size + j by rw [Nat.add_mul]; omega] at this
      rw [e1, e2]; exact this
  · have hnm : 0 < n + m := by omega
    have hc0 : 0 < c' := by have := ho.le; omega
    have h0s : 0 < c' * size := Nat.mul_pos hc0 hpos
    refine ⟨some ⟨g, 0, none⟩, c', w', by simpa using hrun, ⟨⟨g, ho.le, fun _ => rfl, fun _ => ?_, hlen, fun j u hj => ?_, fun j hj => ?_⟩, ho.max, fun h0 => by omega⟩,
      hu.kept.1, hu.kept.2.1, hu.kept.size, hmay, fun k hk => .inr (by cases hk; exact ho.new)⟩
    · exact World.block_lt_of_cell? _ _ (Option.isSome_iff_exists.1 (ho.there 0 (by omega)).1).choose_spec
    · have hj2 : j < (l ++ news).length := (List.getElem?_eq_some_iff.1 hj).1
      rw [hlen] at hj2
      have := ho.holds j hj2
      rw [Nat.zero_add, this, ← hj]
    · have : (n + m) * size + (c' - (n + m)) * size = c' * size := by
        rw [← Nat.add_mul]; congr 1; have := ho.le; omega
      exact ho.there _ (by omega)
theorem wpList_append_bg (w : World) {ops : Array Oper} {rest : List Oper} {o : Oper} {a : Act} {Q : Exit → Act → World → Prop} (hgd : o.guard = none) (s x : Operand) (t tx : TypeId)
    (ho : o.op = .call { callee := .builtin .append, args := #[s, x], argTypes := #[t, tx] })
    (size bytes : Nat) (e : TypeId) (i : TypeInfo) (z : Value) (ht : P.underlying t = some (.slice e)) (hi : P.info? e = some i) (hz : i.zero = some z) (hsize : i.size = size) (hby : i.bytes = bytes) (hzs : z.cells.size = size) (hpos : 0 < size)
    {ao : Option Addr} {c n : Nat} (l : List Value) (hv : a.eval s = .slice ao n c) (h : Bg size w ao c n l)
    (xv : Value) (m : Nat) (news : List Value) (hx : a.eval x = xv) (hs : Src P size tx xv m news w) (h63 : n + m ≤ maxLen) (hb : (n + m) * bytes ≤ 140737488355328)
    (hK : ∀ ao' c' w', Hid (Bg size w' ao' c' (n + m) (l ++ news)) → Hid (Step w ao w' ao') → wpList P ops Q rest (a.put o.dst (.slice ao' (n + m) c')) w') : wpList P ops Q (o :: rest) a w := by
  refine wpList_plain hgd fun K hK' => ?_
  obtain ⟨ao', c', w', hrun, hB, hS⟩ := run_append_bg (P := P) size bytes t tx o.type e i z ht hi hz hsize hby hzs hpos h xv m news hs h63 hb
  have hk := hK ao' c' w' hB hS
  generalize Value.slice ao' (n + m) c' = v' at hrun hk
  unfold Oper.wp
  simp [execOp, ho, resolve, invoke, builtin, hv, hx, hrun, Result.andThen]
  exact hK' _ _ hk
end
end Go.Proofs.Qxb6603514aDoor
