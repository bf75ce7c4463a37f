/-
  (*ObjectWriter).name, Raw: what they leave of memory; name.
-/
import Derived.Test.Qxb6603514aDoorWd
import Derived.Test.Qxb6603514aDoorMc
namespace Go.Proofs.Qxb6603514aDoor
open Go.RowKit
/-- From w to w' nothing turned but block Bo, the row at ao and new blocks. -/
structure Wr (Bo : Nat) (w : World) (ao : Option Addr) (w' : World) (ao' : Option Addr) : Prop where
  os : w'.os = w.os
  output : w'.output = w.output
  size : w.heap.size ≤ w'.heap.size
  block : ∀ k, k < w.heap.size → k ≠ Bo → blk ao ≠ some k → w'.heap[k]? = w.heap[k]?
  row : ∀ k, blk ao' = some k → blk ao = some k ∨ w.heap.size ≤ k
theorem Wr.of {Bo : Nat} {w w' : World} {a a' : Option Addr} (h : Step w a w' a') : Wr Bo w a w' a' := ⟨h.os, h.output, h.size, fun k hk _ hn => h.block k hk hn, h.row⟩
theorem Wr.trans {Bo : Nat} {w w1 w2 : World} {a a1 a2 : Option Addr} (h : Wr Bo w a w1 a1) (k : Wr Bo w1 a1 w2 a2) : Wr Bo w a w2 a2 := by
  refine ⟨k.os.trans h.os, k.output.trans h.output, Nat.le_trans h.size k.size, fun i hi hb hn => ?_, fun i hi => ?_⟩
  · rw [k.block i (Nat.lt_of_lt_of_le hi h.size) hb (fun e => ?_), h.block i hi hb hn]
    rcases h.row i e with h1 | h1
    · exact hn h1
    · omega
  · rcases k.row i hi with h1 | h1
    · exact h.row i h1
    · exact .inr (Nat.le_trans h.size h1)
theorem Wr.set (Bo : Nat) (w : World) (a : Option Addr) (v : Value) : Wr Bo w a (w.setCell ⟨Bo, 0, none⟩ v) a :=
  ⟨rfl, rfl, by rw [Go.Deep.nblk_setCell]; exact Nat.le_refl _, fun _ _ hb _ => Go.Deep.blk_setCell_other _ _ _ _ hb, fun _ h => .inl h⟩
theorem Wr.old {w0 : World} {Bo : Nat} {w w' : World} {a a' : Option Addr} (s : Wr Bo w a w' a') (h : Old w0 w) (ha : Own w0 a) (hB : w0.heap.size ≤ Bo) : Old w0 w' :=
  ⟨s.os.trans h.os, s.output.trans h.output, Nat.le_trans h.size s.size, fun k hk => (s.block k (Nat.lt_of_lt_of_le hk h.size) (by omega) (fun e => by have := ha k e; omega)).trans (h.block k hk)⟩
theorem Wr.own {w0 : World} {Bo : Nat} {w w' : World} {a a' : Option Addr} (s : Wr Bo w a w' a') (h : Old w0 w) (ha : Own w0 a) : Own w0 a' := fun k hk => by
  rcases s.row k hk with h1 | h1
  · exact ha k h1
  · exact Nat.le_trans h.size h1
/-- The object writer at Bo holds the bytes l. -/
structure Ow (w : World) (Bo : Nat) (ao : Option Addr) (c : Nat) (l : List UInt8) : Prop where
  box : w.rowIs Bo 27 1 (fun _ => .slice ao l.length c)
  buf : Buf w ao c l
  ne : blk ao ≠ some Bo
/-- The buffer has grown, the box isn't told yet. -/
theorem Ow.grown {w w' : World} {Bo : Nat} {ao ao' : Option Addr} {c : Nat} {l : List UInt8} (h : Ow w Bo ao c l) (hs : Step w ao w' ao') :
    w'.rowIs Bo 27 1 (fun _ => .slice ao l.length c) ∧ blk ao' ≠ some Bo :=
  ⟨h.box.of_block (hs.block Bo h.box.lt h.ne), fun e => by
    rcases hs.row Bo e with h1 | h1
    · exact h.ne h1
    · have := h.box.lt; omega⟩
theorem Ow.told {w : World} {Bo : Nat} {ao : Option Addr} {c : Nat} {l : List UInt8} {v : Value} (h : w.rowIs Bo 27 1 (fun _ => v)) (hb : Buf w ao c l) (hn : blk ao ≠ some Bo) : Ow (w.setCell ⟨Bo, 0, none⟩ (.slice ao l.length c)) Bo ao c l :=
  ⟨(h.set 0 _).congr fun i hi => by rw [if_pos (by omega)], hb.kept (by rw [Go.Deep.nblk_setCell]; exact Nat.le_refl _) fun k hk => Go.Deep.blk_setCell_other _ _ _ _ (fun e => hn (by rw [hk]; exact congrArg some e)), hn⟩
theorem srcSet (w : World) (p : Addr) (v : Value) (news : List UInt8) : Src Tryd.prog 1 25 (.slice (some ⟨w.heap.size, 0, none⟩) news.length news.length) news.length (news.map bv) ((w.setCell p v).alloc (.cells (news.map bv).toArray 5)) := by
  have := srcNew (w.setCell p v) news
  rwa [Go.Deep.nblk_setCell] at this
/-- What stands ahead of a member. -/
def sep (l : List UInt8) : UInt8 := if l.length = 0 then 123 else 44
set_option maxRecDepth 100000 in
set_option maxHeartbeats 4000000 in
theorem name19 (w0 : World) (hT : Lib.Utf8Tabs 0 1 w0) (s : ByteArray) (hsz : s.size ≤ 1048576) (w : World) (hO : Old w0 w) (Bo : Nat) (hBo : w0.heap.size ≤ Bo) (ao : Option Addr) (cp : Nat) (l : List UInt8) (hW : Ow w Bo ao cp l) (hA : Own w0 ao) (hlen : l.length ≤ 50000000000000) :
    Calls Tryd.prog 19 #[.pointer (some ⟨Bo, 0, none⟩), .string s] w fun e w' => Hid (∃ v ao' c' l', e = .returned v ∧ l' = l ++ [sep l] ++ Pl.quote s ++ [58] ∧ Ow w' Bo ao' c' l' ∧ Wr Bo w ao w' ao') := by
  have HT := hide hT
  have HO := hide hO
  have HA := hide hA
  have HW := hide hW
  have HBo := hide hBo
  have hc0 : w.cell? ⟨Bo, 0, none⟩ = some (.slice ao l.length cp) := hW.box.cell (by omega)
  clear hT hO hA hW hBo
  have hs1 : ((l.length : Int) == 0) = false → sep l = 44 := fun h => by
    unfold sep; rw [if_neg]; simp at h; simpa using h
  have hs2 : ((l.length : Int) == 0) = true → sep l = 123 := fun h => by
    unfold sep; rw [if_pos]; simp at h; simpa using h
  have Hs1 := hide hs1
  have Hs2 := hide hs2
  clear hs1 hs2
  cases h0 : ((l.length : Int) == 0)
  · go_enter Tryd.func19, Tryd.ntmps19
    go_wp2_with (first
      | (at_builtin; refine appN _ rfl (.tmp 23) (.tmp 24) 25 rfl l rfl (HW.out.buf.alloc _) _ 1 [44] rfl rfl (srcNew _ [44]) ?_ ?_; omega; intro ao1 c1 w1 l1 Hl1 HB1 HS1; have HR1 := hide (Wr.of (Bo := Bo) ((Step.alloc _ _ _).trans HS1.out)); have HX1 := hide (HW.out.grown ((Step.alloc _ _ _).trans HS1.out)); have f1 := HX1.out.1.cell (i := 0) (by omega); have f2 := HX1.out.1.frozen 0)
      | (go_at_call 9; have HW1 := hide (Ow.told HX1.out.1 HB1.out HX1.out.2); have HR2 := hide (HR1.out.trans (Wr.set Bo w1 ao1 (.slice ao1 l1.length c1))); refine (quote9 w0 HT.out s hsz _ (HR2.out.old HO.out HA.out HBo.out) ao1 c1 l1 HW1.out.buf (HR2.out.own HO.out HA.out) ?_).mono ?_; (have := congrArg List.length Hl1.out; simp only [List.length_append, List.length_cons, List.length_nil] at this; omega); rintro e w2 ⟨ao2, c2, l2, rfl, hl2, hB2, hS2⟩; have Hl2 := hide hl2; have HB2 := hide hB2; have HX2 := hide (HW1.out.grown hS2); have HR3 := hide (HR2.out.trans (Wr.of hS2)); have g1 := HX2.out.1.cell (i := 0) (by omega); have g2 := HX2.out.1.frozen 0; clear hl2 hB2 hS2 f1 f2)
      | (at_builtin; (have HW2 := hide (Ow.told HX2.out.1 HB2.out HX2.out.2); have HR4 := hide (HR3.out.trans (Wr.set Bo w2 ao2 (.slice ao2 l2.length c2))); refine appN _ rfl (.tmp 41) (.tmp 42) 25 rfl l2 rfl (HW2.out.buf.alloc _) _ 1 [58] rfl rfl (srcSet w2 _ _ [58]) ?_ ?_; (have h1 := congrArg List.length Hl1.out; have h2 := congrArg List.length Hl2.out; have h3 := Pl.quote_len s; simp only [List.length_append, List.length_cons, List.length_nil] at h1 h2; omega); intro ao3 c3 w3 l3 Hl3 HB3 HS3; have HX3 := hide (HW2.out.grown ((Step.alloc _ _ _).trans HS3.out)); have HR5 := hide (HR4.out.trans (Wr.of ((Step.alloc _ _ _).trans HS3.out))); have k1 := HX3.out.1.cell (i := 0) (by omega); have k2 := HX3.out.1.frozen 0; clear g1 g2)))
    go_end0
    refine hide ⟨_, ao3, c3, l3, rfl, ?_, Ow.told HX3.out.1 HB3.out HX3.out.2, HR5.out.trans (Wr.set Bo w3 ao3 _)⟩
    rw [Hl3.out, Hl2.out, Hl1.out, Hs1.out h0]
  · go_enter Tryd.func19, Tryd.ntmps19
    go_wp2_with (first
      | (at_builtin; refine appN _ rfl (.tmp 14) (.tmp 15) 25 rfl l rfl (HW.out.buf.alloc _) _ 1 [123] rfl rfl (srcNew _ [123]) ?_ ?_; omega; intro ao1 c1 w1 l1 Hl1 HB1 HS1; have HR1 := hide (Wr.of (Bo := Bo) ((Step.alloc _ _ _).trans HS1.out)); have HX1 := hide (HW.out.grown ((Step.alloc _ _ _).trans HS1.out)); have f1 := HX1.out.1.cell (i := 0) (by omega); have f2 := HX1.out.1.frozen 0)
      | (go_at_call 9; have HW1 := hide (Ow.told HX1.out.1 HB1.out HX1.out.2); have HR2 := hide (HR1.out.trans (Wr.set Bo w1 ao1 (.slice ao1 l1.length c1))); refine (quote9 w0 HT.out s hsz _ (HR2.out.old HO.out HA.out HBo.out) ao1 c1 l1 HW1.out.buf (HR2.out.own HO.out HA.out) ?_).mono ?_; (have := congrArg List.length Hl1.out; simp only [List.length_append, List.length_cons, List.length_nil] at this; omega); rintro e w2 ⟨ao2, c2, l2, rfl, hl2, hB2, hS2⟩; have Hl2 := hide hl2; have HB2 := hide hB2; have HX2 := hide (HW1.out.grown hS2); have HR3 := hide (HR2.out.trans (Wr.of hS2)); have g1 := HX2.out.1.cell (i := 0) (by omega); have g2 := HX2.out.1.frozen 0; clear hl2 hB2 hS2 f1 f2)
      | (at_builtin; (have HW2 := hide (Ow.told HX2.out.1 HB2.out HX2.out.2); have HR4 := hide (HR3.out.trans (Wr.set Bo w2 ao2 (.slice ao2 l2.length c2))); refine appN _ rfl (.tmp 41) (.tmp 42) 25 rfl l2 rfl (HW2.out.buf.alloc _) _ 1 [58] rfl rfl (srcSet w2 _ _ [58]) ?_ ?_; (have h1 := congrArg List.length Hl1.out; have h2 := congrArg List.length Hl2.out; have h3 := Pl.quote_len s; simp only [List.length_append, List.length_cons, List.length_nil] at h1 h2; omega); intro ao3 c3 w3 l3 Hl3 HB3 HS3; have HX3 := hide (HW2.out.grown ((Step.alloc _ _ _).trans HS3.out)); have HR5 := hide (HR4.out.trans (Wr.of ((Step.alloc _ _ _).trans HS3.out))); have k1 := HX3.out.1.cell (i := 0) (by omega); have k2 := HX3.out.1.frozen 0; clear g1 g2)))
    go_end0
    refine hide ⟨_, ao3, c3, l3, rfl, ?_, Ow.told HX3.out.1 HB3.out HX3.out.2, HR5.out.trans (Wr.set Bo w3 ao3 _)⟩
    rw [Hl3.out, Hl2.out, Hl1.out, Hs2.out h0]
end Go.Proofs.Qxb6603514aDoor
