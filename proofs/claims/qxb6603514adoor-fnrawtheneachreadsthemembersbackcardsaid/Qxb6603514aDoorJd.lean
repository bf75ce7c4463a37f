/-
  zzjContainer and zzjValue: what is needed beside the walk.
-/
import Derived.Test.Qxb6603514aDoorJc
import Derived.Test.Qxb6603514aDoorBg
namespace Go.Proofs.Qxb6603514aDoor
open Go.RowKit
theorem info65 : (Tryd.prog.info? 65).map (fun i => (i.zero, i.size, i.bytes)) = some (some (.agg #[.int .i64 0, .int .i64 0]), 2, 16) := by kernel_rfl
theorem info3 : (Tryd.prog.info? 3).map (fun i => (i.zero, i.size, i.bytes)) = some (some (.int .i64 0), 1, 8) := by kernel_rfl
theorem appS (w : World) {ops : Array Oper} {rest : List Oper} {o : Oper} {a : Act} {Q : Exit → Act → World → Prop} (hgd : o.guard = none) (s x : Operand)
    (ho : o.op = .call { callee := .builtin .append, args := #[s, x], argTypes := #[39, 39] })
    {ao : Option Addr} {c n : Nat} (hv : a.eval s = .slice ao n c) (h : ∃ l, Bg 2 w ao c n l)
    (xv : Value) (news : List Value) (hx : a.eval x = xv) (hs : Src Tryd.prog 2 39 xv 1 news w) (hb : n ≤ 100000000)
    (hK : ∀ ao' c' w', Hid (∃ l, Bg 2 w' ao' c' (n + 1) l) → Hid (Step w ao w' ao') → wpList Tryd.prog ops Q rest (a.put o.dst (.slice ao' (n + 1) c')) w') : wpList Tryd.prog ops Q (o :: rest) a w := by
  obtain ⟨i0, hi, hz0, hz1, hz2⟩ := info_parts info65
  obtain ⟨l, h⟩ := h
  exact wpList_append_bg w hgd s x 39 39 ho 2 16 65 i0 _ Tryd.underlying39 hi hz0 hz1 hz2 rfl (by omega) l hv h xv 1 news hx hs (by simp only [maxLen]; omega) (by omega) fun ao' c' w' h1 h2 => hK ao' c' w' ⟨_, h1⟩ h2
theorem appI (w : World) {ops : Array Oper} {rest : List Oper} {o : Oper} {a : Act} {Q : Exit → Act → World → Prop} (hgd : o.guard = none) (s x : Operand)
    (ho : o.op = .call { callee := .builtin .append, args := #[s, x], argTypes := #[36, 36] })
    {ao : Option Addr} {c n : Nat} (hv : a.eval s = .slice ao n c) (h : ∃ l, Bg 1 w ao c n l)
    (xv : Value) (news : List Value) (hx : a.eval x = xv) (hs : Src Tryd.prog 1 36 xv 1 news w) (hb : n ≤ 100000000)
    (hK : ∀ ao' c' w', Hid (∃ l, Bg 1 w' ao' c' (n + 1) l) → Hid (Step w ao w' ao') → wpList Tryd.prog ops Q rest (a.put o.dst (.slice ao' (n + 1) c')) w') : wpList Tryd.prog ops Q (o :: rest) a w := by
  obtain ⟨i0, hi, hz0, hz1, hz2⟩ := info_parts info3
  obtain ⟨l, h⟩ := h
  exact wpList_append_bg w hgd s x 36 36 ho 1 8 3 i0 _ Tryd.underlying36 hi hz0 hz1 hz2 rfl (by omega) l hv h xv 1 news hx hs (by simp only [maxLen]; omega) (by omega) fun ao' c' w' h1 h2 => hK ao' c' w' ⟨_, h1⟩ h2
theorem srcPair (w : World) (x y : Int) : Src Tryd.prog 2 39 (.slice (some ⟨w.heap.size, 0, none⟩) 1 1) 1 [.int .i64 x, .int .i64 y] (w.alloc (.cells #[.int .i64 x, .int .i64 y] 65)) :=
  Src.ofSlice _ Tryd.underlying39 _ _ _ _ (by simp) (fun j u hj => by
    rw [Addr.add_lit, World.cell?_alloc_at _ _ _ _ rfl]
    simpa using hj) (fun u hu => by
    simp at hu
    rcases hu with rfl | rfl <;> rfl)
theorem srcInt (w : World) (x : Int) : Src Tryd.prog 1 36 (.slice (some ⟨w.heap.size, 0, none⟩) 1 1) 1 [.int .i64 x] (w.alloc (.cells #[.int .i64 x] 3)) :=
  Src.ofSlice _ Tryd.underlying36 _ _ _ _ (by simp) (fun j u hj => by
    rw [Addr.add_lit, World.cell?_alloc_at _ _ _ _ rfl]
    simpa using hj) (fun u hu => by
    simp at hu
    subst hu; rfl)
/-- The three slices that a container gathers. -/
structure Tri (w0 w : World) (a1 : Option Addr) (c1 n1 : Nat) (a2 : Option Addr) (c2 n2 : Nat) (a3 : Option Addr) (c3 n3 : Nat) : Prop where
  b1 : ∃ l, Bg 2 w a1 c1 n1 l
  b2 : ∃ l, Bg 2 w a2 c2 n2 l
  b3 : ∃ l, Bg 1 w a3 c3 n3 l
  o1 : Own w0 a1
  o2 : Own w0 a2
  o3 : Own w0 a3
  d12 : ∀ k, blk a1 = some k → blk a2 ≠ some k
  d13 : ∀ k, blk a1 = some k → blk a3 ≠ some k
  d23 : ∀ k, blk a2 = some k → blk a3 ≠ some k
  old : Old w0 w
section
variable {w0 w w' : World} {a1 : Option Addr} {c1 n1 : Nat} {a2 : Option Addr} {c2 n2 : Nat} {a3 : Option Addr} {c3 n3 : Nat}
theorem Tri.start (w : World) : Tri w w none 0 0 none 0 0 none 0 0 :=
  ⟨⟨_, Bg.empty _ _⟩, ⟨_, Bg.empty _ _⟩, ⟨_, Bg.empty _ _⟩, fun _ h => (by cases h), fun _ h => (by cases h), fun _ h => (by cases h), fun _ h => (by cases h), fun _ h => (by cases h), fun _ h => (by cases h), Old.refl _⟩
theorem Tri.on (h : Tri w0 w a1 c1 n1 a2 c2 n2 a3 c3 n3) (ho : Old w w') : Tri w0 w' a1 c1 n1 a2 c2 n2 a3 c3 n3 :=
  ⟨h.b1.imp fun _ k => k.old ho, h.b2.imp fun _ k => k.old ho, h.b3.imp fun _ k => k.old ho, h.o1, h.o2, h.o3, h.d12, h.d13, h.d23, h.old.trans ho⟩
theorem flip {a b : Option Addr} (h : ∀ k, blk a = some k → blk b ≠ some k) : ∀ k, blk b = some k → blk a ≠ some k := fun k hk e => h k e hk
theorem Tri.s1 {a' : Option Addr} {c' n' : Nat} (h : Tri w0 w a1 c1 n1 a2 c2 n2 a3 c3 n3) (s : Step w a1 w' a') (hb : ∃ l, Bg 2 w' a' c' n' l) : Tri w0 w' a' c' n' a2 c2 n2 a3 c3 n3 := by
  obtain ⟨l2, k2⟩ := h.b2
  obtain ⟨l3, k3⟩ := h.b3
  exact ⟨hb, ⟨l2, k2.step s (flip h.d12)⟩, ⟨l3, k3.step s (flip h.d13)⟩, Own.step h.old s h.o1, h.o2, h.o3, flip (k2.apart s (flip h.d12)), flip (k3.apart s (flip h.d13)), h.d23, h.old.step s h.o1⟩
theorem Tri.s2 {a' : Option Addr} {c' n' : Nat} (h : Tri w0 w a1 c1 n1 a2 c2 n2 a3 c3 n3) (s : Step w a2 w' a') (hb : ∃ l, Bg 2 w' a' c' n' l) : Tri w0 w' a1 c1 n1 a' c' n' a3 c3 n3 := by
  obtain ⟨l1, k1⟩ := h.b1
  obtain ⟨l3, k3⟩ := h.b3
  exact ⟨⟨l1, k1.step s h.d12⟩, hb, ⟨l3, k3.step s (flip h.d23)⟩, h.o1, Own.step h.old s h.o2, h.o3, k1.apart s h.d12, h.d13, flip (k3.apart s (flip h.d23)), h.old.step s h.o2⟩
theorem Tri.s3 {a' : Option Addr} {c' n' : Nat} (h : Tri w0 w a1 c1 n1 a2 c2 n2 a3 c3 n3) (s : Step w a3 w' a') (hb : ∃ l, Bg 1 w' a' c' n' l) : Tri w0 w' a1 c1 n1 a2 c2 n2 a' c' n' := by
  obtain ⟨l1, k1⟩ := h.b1
  obtain ⟨l2, k2⟩ := h.b2
  exact ⟨⟨l1, k1.step s h.d13⟩, ⟨l2, k2.step s h.d23⟩, hb, h.o1, h.o2, Own.step h.old s h.o3, h.d12, k1.apart s h.d13, k2.apart s h.d23, h.old.step s h.o3⟩
end
def VOut (tl : List UInt8) (i : Nat) (r : Option (Nat × List UInt8)) (e : Ending) : Prop :=
  (∃ v k, e = .returned (.tuple #[v, k, .bool false]) ∧ r = none) ∨ (∃ j k : Nat, e = .returned (.tuple #[.int .i64 j, .int .i64 k, .bool true]) ∧ i < j ∧ j ≤ tl.length ∧ r = some (k, tl.drop j))
def COut (tl : List UInt8) (i : Nat) (r : Option (List UInt8)) (e : Ending) : Prop :=
  (∃ v x y z, e = .returned (.tuple #[v, x, y, z, .bool false]) ∧ r = none) ∨ (∃ (j : Nat) (x y z : Value), e = .returned (.tuple #[.int .i64 j, x, y, z, .bool true]) ∧ i < j ∧ j ≤ tl.length ∧ r = some (tl.drop j))
/-- The reader of values, at fuel N, on this text. -/
def VOk (b o tc n : Nat) (tl : List UInt8) (N : Nat) : Prop := ∀ (w : World), Tx w b o tl → ∀ i : Nat, i ≤ n → n - i < N →
  Calls Tryd.prog 25 #[.slice (some ⟨b, o, none⟩) n tc, .int .i64 i] w fun e w' => Hid (Old w w' ∧ VOut tl i (Pj.valF N (tl.drop i)) e)
theorem results_tmp5 {fn : Func} {t0 t1 t2 t3 t4 : Tmp} (h : fn.results = #[.tmp t0, .tmp t1, .tmp t2, .tmp t3, .tmp t4]) (tmps : Array Value) (P : Program) (w : World) :
    (results fn tmps).run P w = .ok (.tuple #[tmps.getD t0 undef, tmps.getD t1 undef, tmps.getD t2 undef, tmps.getD t3 undef, tmps.getD t4 undef]) w := by
  simp [results, h]
section
variable {V : List UInt8 → Option (Nat × List UInt8)} {tl : List UInt8} {m j k k2 : Nat} {c d : UInt8} {op : UInt8}
theorem loop_none (h : Pj.item V op (tl.drop j) = none) (hj : j < tl.length) : Pj.loopF V op (m + 1) (tl.drop j) = none := by
  rw [drop_cons hj] at h ⊢
  rw [Pj.loopF, h]
theorem loop_end (h : Pj.item V op (tl.drop j) = some (tl.drop k)) (hj : j < tl.length) (hk : tl.length ≤ k) : Pj.loopF V op (m + 1) (tl.drop j) = none := by
  rw [drop_cons hj] at h ⊢
  rw [Pj.loopF, h, dr_nil hk]
theorem loop_close (h : Pj.item V op (tl.drop j) = some (tl.drop k)) (hj : j < tl.length) (hd : tl.drop k = d :: tl.drop (k + 1)) (hc : d = Pj.cl op) : Pj.loopF V op (m + 1) (tl.drop j) = some (tl.drop (k + 1)) := by
  rw [drop_cons hj] at h ⊢
  rw [Pj.loopF, h, hd]
  simp only [hc, if_true]
theorem loop_bad (h : Pj.item V op (tl.drop j) = some (tl.drop k)) (hj : j < tl.length) (hd : tl.drop k = d :: tl.drop (k + 1)) (hc : d ≠ Pj.cl op) (h44 : ¬ d.toNat = 44) : Pj.loopF V op (m + 1) (tl.drop j) = none := by
  rw [drop_cons hj] at h ⊢
  rw [Pj.loopF, h, hd]
  simp only [hc, h44, if_false]
theorem loop_on (h : Pj.item V op (tl.drop j) = some (tl.drop k)) (hj : j < tl.length) (hd : tl.drop k = d :: tl.drop (k + 1)) (hc : d ≠ Pj.cl op) (h44 : d.toNat = 44) (hk2 : tl.drop k2 = Pj.skip (tl.drop (k + 1))) : Pj.loopF V op (m + 1) (tl.drop j) = Pj.loopF V op m (tl.drop k2) := by
  rw [drop_cons hj] at h ⊢
  rw [Pj.loopF, h, hd]
  simp only [hc, h44, if_false, if_true]
  rw [hk2]
theorem loop_nil (hj : tl.length ≤ j) : Pj.loopF V op m (tl.drop j) = none := by
  rw [dr_nil hj]
  cases m <;> rfl
theorem item_a_none (h : V (tl.drop j) = none) : Pj.item V 91 (tl.drop j) = none := by
  rw [Pj.item, if_neg (by decide), h]; rfl
theorem item_a_ok {ve vk : Nat} (h : V (tl.drop j) = some (vk, tl.drop ve)) (hk : tl.drop k = Pj.skip (tl.drop ve)) : Pj.item V 91 (tl.drop j) = some (tl.drop k) := by
  rw [Pj.item, if_neg (by decide), h, hk]; rfl
theorem item_o_none (h : Pj.strR (tl.drop j) = none) : Pj.item V 123 (tl.drop j) = none := by
  rw [Pj.item, if_pos (by decide), h]
theorem item_o_end {ne : Nat} (h : Pj.strR (tl.drop j) = some (tl.drop ne)) (hk : tl.drop k = Pj.skip (tl.drop ne)) (hn : tl.length ≤ k) : Pj.item V 123 (tl.drop j) = none := by
  rw [Pj.item, if_pos (by decide), h]
  simp only [← hk, dr_nil hn]
theorem item_o_bad {ne : Nat} (h : Pj.strR (tl.drop j) = some (tl.drop ne)) (hk : tl.drop k = Pj.skip (tl.drop ne)) (hc : tl.drop k = c :: tl.drop (k + 1)) (h58 : ¬ c.toNat = 58) : Pj.item V 123 (tl.drop j) = none := by
  rw [Pj.item, if_pos (by decide), h]
  simp only [← hk, hc, h58, if_false]
theorem item_o_v {ne : Nat} (h : Pj.strR (tl.drop j) = some (tl.drop ne)) (hk : tl.drop k = Pj.skip (tl.drop ne)) (hc : tl.drop k = c :: tl.drop (k + 1)) (h58 : c.toNat = 58) (hk2 : tl.drop k2 = Pj.skip (tl.drop (k + 1))) : Pj.item V 123 (tl.drop j) = (V (tl.drop k2)).map (fun p => Pj.skip p.2) := by
  rw [Pj.item, if_pos (by decide), h]
  simp only [← hk, hc, h58, if_true, ← hk2]
theorem con_nil (hj : tl.drop j = Pj.skip (tl.drop k)) (hn : tl.length ≤ j) : Pj.conF V op (tl.drop k) = none := by
  rw [Pj.conF, ← hj, dr_nil hn]
theorem con_empty (hj : tl.drop j = Pj.skip (tl.drop k)) (hc : tl.drop j = c :: tl.drop (j + 1)) (hcl : c = Pj.cl op) : Pj.conF V op (tl.drop k) = some (tl.drop (j + 1)) := by
  rw [Pj.conF, ← hj, hc]
  simp only [hcl, if_true]
theorem con_loop (hj : tl.drop j = Pj.skip (tl.drop k)) (hc : tl.drop j = c :: tl.drop (j + 1)) (hcl : c ≠ Pj.cl op) : Pj.conF V op (tl.drop k) = Pj.loopF V op (tl.length - (j + 1) + 1) (tl.drop j) := by
  rw [Pj.conF, ← hj, hc]
  simp only [hcl, if_false, List.length_drop]
end
end Go.Proofs.Qxb6603514aDoor
