/-
  zzCloneMembers.
-/
import Derived.Test.Qxb6603514aDoorMb
namespace Go.Proofs.Qxb6603514aDoor
open Go.RowKit
theorem info29 : (Tryd.prog.info? 29).map (fun i => (i.zero, i.size, i.bytes)) = some (some (.agg #[.string ⟨#[]⟩, .slice none 0 0]), 2, 40) := by kernel_rfl
theorem make22 (n : Nat) (hn : n ≤ 1048576) (w : World) :
    (Instr.makeSlice 22 (.int .i64 (n : Int)) (.int .i64 (n : Int))).run Tryd.prog w = .ok (.slice (some ⟨w.heap.size, 0, none⟩) n n) (w.alloc (.cells (madeCells #[.string ⟨#[]⟩, .slice none 0 0] (n * 2)) 29)) := by
  obtain ⟨i, hi, hz, hs, hb⟩ := info_parts info29
  have := run_make (P := Tryd.prog) w 22 29 i _ Tryd.underlying22 hi hz .i64 .i64 n n (by omega) (Int.le_refl _) (by rw [hb]; omega) (by omega)
  simp only [Int.toNat_natCast, hs] at this
  exact this
/-- The clone's row when k members are laid. -/
def mp (N : Nat → ByteArray) (A : Nat → Option Addr) (C : Nat → Nat) (L : Nat → List UInt8) (k j : Nat) : Value :=
  if j / 2 < k then (if j % 2 = 0 then .string (N (j / 2)) else .slice (A (j / 2)) (L (j / 2)).length (C (j / 2))) else (if j % 2 = 0 then .string ⟨#[]⟩ else .slice none 0 0)
theorem mp_made (w : World) (n : Nat) (N : Nat → ByteArray) (A : Nat → Option Addr) (C : Nat → Nat) (L : Nat → List UInt8) :
    (w.alloc (.cells (madeCells #[.string ⟨#[]⟩, .slice none 0 0] (n * 2)) 29)).rowIs w.heap.size 29 (n * 2) (mp N A C L 0) :=
  ⟨_, Go.Deep.blk_alloc_new _ _, size_madeCells _ _, fun i hi => by
    rcases Nat.mod_two_eq_zero_or_one i with h | h <;> simp [madeCells, hi, mp, h]⟩
def upd {α : Type} (f : Nat → α) (k : Nat) (v : α) (i : Nat) : α := if i = k then v else f i
theorem mp_step {w : World} {B n k : Nat} {N : Nat → ByteArray} {A : Nat → Option Addr} {C : Nat → Nat} {L : Nat → List UInt8} (h : w.rowIs B 29 n (mp N A C L k)) {s : ByteArray} (hs : s = N k) {a : Option Addr} {m c : Nat} (hm : m = (L k).length) :
    ((w.setCell ⟨B, k * 2, none⟩ (.string s)).setCell ⟨B, k * 2 + 1, none⟩ (.slice a m c)).rowIs B 29 n (mp N (upd A k a) (upd C k c) L (k + 1)) := by
  refine ((h.set _ _).set _ _).congr fun i _ => ?_
  subst hs hm
  by_cases e1 : i = k * 2 + 1
  · subst e1
    rw [if_pos rfl]
    have : (k * 2 + 1) / 2 = k := by omega
    have h2 : ¬ (k * 2 + 1) % 2 = 0 := by omega
    unfold mp upd
    rw [this, if_pos (by omega), if_neg h2, if_pos rfl, if_pos rfl]
  · rw [if_neg e1]
    by_cases e2 : i = k * 2
    · subst e2
      rw [if_pos rfl]
      have : (k * 2) / 2 = k := by omega
      have h2 : (k * 2) % 2 = 0 := by omega
      unfold mp
      rw [this, if_pos (by omega), if_pos h2]
    · rw [if_neg e2]
      unfold mp upd
      have e3 : ¬ i / 2 = k := by omega
      by_cases h1 : i / 2 < k
      · rw [if_pos h1, if_pos (show i / 2 < k + 1 by omega), if_neg e3, if_neg e3]
      · rw [if_neg h1, if_neg (show ¬ i / 2 < k + 1 by omega)]
theorem mp_row {w : World} {B n : Nat} {N : Nat → ByteArray} {A : Nat → Option Addr} {C : Nat → Nat} {L : Nat → List UInt8} (h : w.rowIs B 29 (n * 2) (mp N A C L n)) : Row w B 0 n N A C L := fun i hi => by
  have e1 : 0 + i * 2 = i * 2 := by omega
  have a1 : i * 2 / 2 = i := by omega
  have a2 : (i * 2 + 1) / 2 = i := by omega
  have a3 : i * 2 % 2 = 0 := by omega
  have a4 : ¬ (i * 2 + 1) % 2 = 0 := by omega
  rw [e1, h.cell (i := i * 2) (by omega), h.cell (i := i * 2 + 1) (by omega)]
  unfold mp
  rw [a1, a2, if_pos hi, if_pos hi, if_pos a3, if_neg a4]
  exact ⟨rfl, rfl⟩
theorem mp_free {w : World} {B n k : Nat} {N : Nat → ByteArray} {A : Nat → Option Addr} {C : Nat → Nat} {L : Nat → List UInt8} (h : w.rowIs B 29 (n * 2) (mp N A C L k)) (hk : k < n) :
    w.cell? ⟨B, k * 2, none⟩ = some (.string ⟨#[]⟩) ∧ w.cell? ⟨B, k * 2 + 1, none⟩ = some (.slice none 0 0) := by
  have a1 : ¬ k * 2 / 2 < k := by omega
  have a2 : ¬ (k * 2 + 1) / 2 < k := by omega
  have a3 : k * 2 % 2 = 0 := by omega
  have a4 : ¬ (k * 2 + 1) % 2 = 0 := by omega
  rw [h.cell (i := k * 2) (by omega), h.cell (i := k * 2 + 1) (by omega)]
  unfold mp
  rw [if_neg a1, if_neg a2, if_pos a3, if_neg a4]
  exact ⟨rfl, rfl⟩
theorem Txt.kept {w w' : World} {ao : Option Addr} {tl : List UInt8} (h : Txt w ao tl) (hs : w.heap.size ≤ w'.heap.size) (hk : ∀ k, blk ao = some k → w'.heap[k]? = w.heap[k]?) : Txt w' ao tl := fun hp => by
  obtain ⟨b, o, rfl, hb, hc⟩ := h hp
  exact ⟨b, o, rfl, Nat.lt_of_lt_of_le hb hs, fun j hj => (World.cell?_of_block (a := ⟨b, o + j, none⟩) (w := w) (hk b rfl)).trans (hc j hj)⟩
theorem Old.undrew {w w' : World} (h : Old w.drew w') : Old w w' := ⟨h.os, h.output, h.size, h.block⟩
theorem Txt.setCell {w : World} {ao : Option Addr} {tl : List UInt8} (h : Txt w ao tl) {p : Addr} (hp : ∀ j, blk ao = some j → p.block < j) (v : Value) : Txt (w.setCell p v) ao tl :=
  h.kept (by rw [Go.Deep.nblk_setCell]; exact Nat.le_refl _) fun k hk => Go.Deep.blk_setCell_other _ _ _ _ (by have := hp k hk; omega)
theorem tx_step {wr w2 : World} {B k : Nat} {A : Nat → Option Addr} {C : Nat → Nat} {L : Nat → List UInt8} (h : ∀ i, i < k → (Txt wr (A i) (L i) ∧ (L i).length ≤ C i) ∧ ∀ j, blk (A i) = some j → B < j) (ho : Old wr w2) {ao : Option Addr} {tl : List UInt8} (htl : tl = L k) (ht : Txt w2 ao tl) (hB : B < wr.heap.size) (hw : Own wr ao) {c : Nat} (hc : tl.length ≤ c) {p q : Nat} {u v : Value} :
    ∀ i, i < k + 1 → (Txt ((w2.setCell ⟨B, p, none⟩ u).setCell ⟨B, q, none⟩ v) (upd A k ao i) (L i) ∧ (L i).length ≤ upd C k c i) ∧ ∀ j, blk (upd A k ao i) = some j → B < j := by
  intro i hi
  unfold upd
  by_cases e : i = k
  · subst e
    rw [if_pos rfl, if_pos rfl, ← htl]
    have hj : ∀ j, blk ao = some j → B < j := fun j hj => Nat.lt_of_lt_of_le hB (hw j hj)
    exact ⟨⟨(ht.setCell hj _).setCell hj _, hc⟩, hj⟩
  · rw [if_neg e, if_neg e]
    obtain ⟨⟨h1, h3⟩, h2⟩ := h i (by omega)
    exact ⟨⟨((h1.old ho).setCell h2 _).setCell h2 _, h3⟩, h2⟩
set_option maxHeartbeats 4000000 in
theorem clone7 (w : World) (a : Option Addr) (n c : Nat) (N : Nat → ByteArray) (A : Nat → Option Addr) (C : Nat → Nat) (L : Nat → List UInt8) (hR : Mem w a n N A C L) (hn : n ≤ 1048576) (hb : ∀ i, i < n → (N i).size ≤ 1048576 ∧ (L i).length ≤ 1048576) :
    Calls Tryd.prog 7 #[.slice a n c] w fun e w' => Hid (∃ a' c' A' C', e = .returned (.slice a' n c') ∧ Mem w' a' n N A' C' L ∧ Old w w') := by
  have HR := hide hR
  have HB := hide hb
  clear hR hb
  cases a with
  | none =>
    have hz : n = 0 := by
      rcases Nat.eq_zero_or_pos n with h | h
      · exact h
      · obtain ⟨_, _, h, _⟩ := HR.out h; cases h
    subst hz
    have hnil := fun w => Lib.run_eql_slice_nil (P := Tryd.prog) w 22 29 none 0 c 0 0 Tryd.underlying22
    go_enter Tryd.func7, Tryd.ntmps7
    go_wp2_with fail
    go_ret
    exact hide ⟨none, 0, A, C, rfl, fun h => by omega, Old.refl _⟩
  | some a =>
    have hnil := fun w => Lib.run_eql_slice_nil (P := Tryd.prog) w 22 29 (some a) n c 0 0 Tryd.underlying22
    have hmk := make22 n hn
    go_enter Tryd.func7, Tryd.ntmps7
    go_wp2_with fail
    clear hnil hmk
    go_loopg [4] n (fun g c4 wx => ∃ (k : Nat) (A' : Nat → Option Addr) (C' : Nat → Nat), k + g = n ∧ c4 = .int .i64 k ∧ Hid (wx.rowIs w.heap.size 29 (n * 2) (mp N A' C' L k)) ∧ Hid (∀ i, i < k → (Txt wx (A' i) (L i) ∧ (L i).length ≤ C' i) ∧ ∀ j, blk (A' i) = some j → w.heap.size < j) ∧ Hid (Old w wx))
    case atStart => exact ⟨0, A, C, by omega, rfl, mp_made w n N A C L, fun i hi => by omega, (Old.refl w).alloc _⟩
    case round =>
      obtain ⟨k, A', C', hkg, rfl, HRow, HTx, HO⟩ := hrel
      by_cases hk : k < n
      · obtain ⟨b, o, e, hrow, htx⟩ := HR.out (by omega)
        obtain rfl : a = ⟨b, o, none⟩ := Option.some.inj e
        obtain ⟨hc1, hc2⟩ := hrow k hk
        have hc1 := HO.out.cell hc1
        have hc2 := HO.out.cell hc2
        have Htx := hide ((htx k hk).1.old HO.out)
        clear hrow htx e
        obtain ⟨s, hs⟩ : ∃ s, s = N k := ⟨_, rfl⟩
        obtain ⟨tl, htl⟩ : ∃ tl, tl = L k := ⟨_, rfl⟩
        have HLn : Hid (tl.length ≤ 1048576) := by show _ ≤ _; rw [htl]; exact (HB.out k hk).2
        rw [← hs] at hc1
        rw [← htl] at hc2 Htx
        have Hs := hide hs
        have Htl := hide htl
        clear hs htl
        have hki : (k : Int) < (n : Int) := by omega
        have HB1 : Hid (w.heap.size < wr.heap.size) := HRow.out.lt
        go_wp2_with fail
        go_region_with (go_at_call 18; refine (clone18 _ (A k) (C k) tl ?_ HLn.out).mono ?_; exact Htx.out; intro e w2 hx; obtain ⟨ao', c', rfl, hx1, hx2, hx3, hx4⟩ := hx.out; have Hx4 := hide hx4; clear hx4; have HRow2 := hide (HRow.out.of_block (hx3.block _ HB1.out)); obtain ⟨f1, f2⟩ := mp_free HRow2.out hk; have f3 := HRow2.out.frozen (k * 2); have f4 := HRow2.out.frozen (k * 2 + 1); have f5 := hx3.cell hc1; have f6 := hx3.cell hc2; have Hx1 := hide hx1; have Hx2 := hide hx2; have Hx3 := hide hx3; clear hx1 hx2 hx3)
        all_goals go_wp2_with fail
        all_goals go_roundg (n - (k + 1))
        all_goals first
          | omega
          | exact ⟨k + 1, upd A' k ao', upd C' k c', by omega, rfl, mp_step HRow2.out Hs.out (congrArg List.length Htl.out), tx_step HTx.out Hx3.out.undrew Htl.out Hx1.out HB1.out Hx2.out Hx4.out, ((HO.out.trans Hx3.out.undrew).setCell (Nat.le_refl _) _).setCell (Nat.le_refl _) _⟩
          | exact ⟨k + 1, upd A' k ao', upd C' k c', by omega, rfl, mp_step HRow2.out Hs.out (congrArg List.length Htl.out), tx_step HTx.out Hx3.out Htl.out Hx1.out HB1.out Hx2.out Hx4.out, ((HO.out.trans Hx3.out).setCell (Nat.le_refl _) _).setCell (Nat.le_refl _) _⟩
      · go_wp2_with fail
        go_ret
        have hkn : k = n := by omega
        subst hkn
        exact hide ⟨some ⟨w.heap.size, 0, none⟩, k, A', C', rfl, fun _ => ⟨w.heap.size, 0, rfl, mp_row HRow.out, fun i hi => (HTx.out i hi).1⟩, HO.out⟩
end Go.Proofs.Qxb6603514aDoor
