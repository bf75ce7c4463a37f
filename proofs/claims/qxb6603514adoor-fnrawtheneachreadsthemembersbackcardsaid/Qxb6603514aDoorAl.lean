/-
  ZZeachAll.
-/
import Derived.Test.Qxb6603514aDoorEa
import Derived.BigRegion
namespace Go.Proofs.Qxb6603514aDoor
open Go.RowKit
theorem Quad.reset {w0 : World} {B : Nat} {w : World} {a : Fin 4 → Option Addr} {c n : Fin 4 → Nat} {l : Fin 4 → List Value} (h : Quad w0 B w a c n l) (i : Fin 4) : Quad w0 B (w.setCell ⟨B + i.val, 0, none⟩ (.slice (a i) (n i) (c i))) a c n l := by
  refine ⟨fun j => ?_, fun j => ?_, h.own, h.apart, h.old.setCell (show w0.heap.size ≤ B + i.val by have := h.base; omega) _, h.base⟩
  · by_cases e : j = i
    · subst e
      exact ((h.box j).set 0 _).congr fun x hx => by rw [if_pos (by omega)]
    · have hji : j.val ≠ i.val := fun hh => e (Fin.ext hh)
      exact (h.box j).setOther (show B + j.val ≠ B + i.val by omega) _
  · exact (h.buf j).kept (by rw [Go.Deep.nblk_setCell]; exact Nat.le_refl _) fun k hk => Go.Deep.blk_setCell_other _ _ _ _ (show k ≠ B + i.val by have := h.own j k hk; have := i.isLt; omega)
theorem Quad.drew {w0 : World} {B : Nat} {w : World} {a : Fin 4 → Option Addr} {c n : Fin 4 → Nat} {l : Fin 4 → List Value} (h : Quad w0 B w a c n l) : Quad w0 B w.drew a c n l := h.on (Old.refl w).drew
set_option maxRecDepth 100000 in
set_option maxHeartbeats 8000000 in
theorem all16 (w : World) (b o tc n : Nat) (tl : List UInt8) (hn : n = tl.length) (hT : Tx w b o tl) (hN : n ≤ 50000000) (htc : n ≤ tc) (m : Nat) (Q Y : Nat → List UInt8) (K : Nat → Nat) (hD : Doc tl m Q Y K) (hm : m ≤ 50000000) :
    Calls Tryd.prog 16 #[.int .i64 6, .slice (some ⟨b, o, none⟩) n tc] w fun e w' => Hid (∃ a0 a1 a2 a3 c0 c1 c2 c3, e = .returned (.tuple #[.slice a0 m c0, .slice a1 m c1, .slice a2 m c2, .slice a3 m c3]) ∧ Old w w' ∧
      Bg 1 w' a0 c0 m ((List.range m).map (nmV b o tc n m Q Y)) ∧ Bg 1 w' a1 c1 m ((List.range m).map fun _ => .int .i64 4) ∧ Bg 1 w' a2 c2 m ((List.range m).map (vlV b o tc n m Q Y)) ∧ Bg 1 w' a3 c3 m ((List.range m).map fun k => .int .i64 (K k))) := by
  have HT := hide hT
  have HN := hide hn
  have HD := hide hD
  have HQ : Hid (Quad w w.heap.size ((((w.alloc (.cells #[.slice none 0 0] 42)).alloc (.cells #[.slice none 0 0] 43)).alloc (.cells #[.slice none 0 0] 42)).alloc (.cells #[.slice none 0 0] 43)) (q4 none none none none) (q4 0 0 0 0) (q4 0 0 0 0) (q4 [] [] [] [])) := by
    have r : ∀ (W : World) (t : TypeId), (W.alloc (.cells #[.slice none 0 0] t)).rowIs W.heap.size t 1 (fun _ => .slice none 0 0) := fun W t => World.rowIs_alloc W _ t _ (fun i hi => by simp at hi; subst hi; rfl)
    have b0 := (((r w 42).alloc (.cells #[.slice none 0 0] 43)).alloc (.cells #[.slice none 0 0] 42)).alloc (.cells #[.slice none 0 0] 43)
    have b1 := ((r (w.alloc (.cells #[.slice none 0 0] 42)) 43).alloc (.cells #[.slice none 0 0] 42)).alloc (.cells #[.slice none 0 0] 43)
    have b2 := (r ((w.alloc (.cells #[.slice none 0 0] 42)).alloc (.cells #[.slice none 0 0] 43)) 42).alloc (.cells #[.slice none 0 0] 43)
    have b3 := r (((w.alloc (.cells #[.slice none 0 0] 42)).alloc (.cells #[.slice none 0 0] 43)).alloc (.cells #[.slice none 0 0] 42)) 43
    simp only [Go.Deep.nblk_alloc] at b1 b2 b3
    refine ⟨fun i => ?_, fun i => ?_, fun i k hk => ?_, fun i j _ k hk => ?_, ((((Old.refl w).alloc _).alloc _).alloc _).alloc _, Nat.le_refl _⟩
    · match i with
      | 0 => exact b0
      | 1 => exact b1
      | 2 => exact b2
      | 3 => exact b3
    · match i with
      | 0 => exact Bg.empty _ _
      | 1 => exact Bg.empty _ _
      | 2 => exact Bg.empty _ _
      | 3 => exact Bg.empty _ _
    · match i with
      | 0 => cases hk
      | 1 => cases hk
      | 2 => cases hk
      | 3 => cases hk
    · match i with
      | 0 => cases hk
      | 1 => cases hk
      | 2 => cases hk
      | 3 => cases hk
  clear hT hn hD
  go_enter Tryd.func16, Tryd.ntmps16
  go_wp2_with fail
  refine (each26 w w.heap.size b o tc n tl HN.out HT.out hN htc m Q Y K HD.out hm _ HQ.out).mono ?_
  intro e w1 hx
  obtain ⟨v, a0, a1, a2, a3, c0, c1, c2, c3, rfl, hq⟩ := hx.out
  have HQ1 := hide hq
  clear hq hx
  have u0 : w1.cell? ⟨w.heap.size, 0, none⟩ = some (.slice a0 m c0) := (HQ1.out.box 0).cell (by omega)
  have u1 : w1.cell? ⟨w.heap.size + 1, 0, none⟩ = some (.slice a1 m c1) := (HQ1.out.box 1).cell (by omega)
  have u2 : w1.cell? ⟨w.heap.size + 2, 0, none⟩ = some (.slice a2 m c2) := (HQ1.out.box 2).cell (by omega)
  have u3 : w1.cell? ⟨w.heap.size + 3, 0, none⟩ = some (.slice a3 m c3) := (HQ1.out.box 3).cell (by omega)
  have f0 : w1.frozen? ⟨w.heap.size, 0, none⟩ = false := (HQ1.out.box 0).frozen 0
  have f1 : w1.frozen? ⟨w.heap.size + 1, 0, none⟩ = false := (HQ1.out.box 1).frozen 0
  have f2 : w1.frozen? ⟨w.heap.size + 2, 0, none⟩ = false := (HQ1.out.box 2).frozen 0
  have f3 : w1.frozen? ⟨w.heap.size + 3, 0, none⟩ = false := (HQ1.out.box 3).frozen 0
  go_wp2_with fail
  go_region
  go_wp2_with fail
  have HQ2 : Hid (Quad w w.heap.size ((((w1.setCell ⟨w.heap.size, 0, none⟩ (.slice a0 m c0)).setCell ⟨w.heap.size + 1, 0, none⟩ (.slice a1 m c1)).setCell ⟨w.heap.size + 1 + 1, 0, none⟩ (.slice a2 m c2)).setCell ⟨w.heap.size + 1 + 1 + 1, 0, none⟩ (.slice a3 m c3)).drew _ _ _ _) := ((((HQ1.out.reset 0).reset 1).reset 2).reset 3).drew
  revert HQ2
  generalize ((((w1.setCell ⟨w.heap.size, 0, none⟩ (.slice a0 m c0)).setCell ⟨w.heap.size + 1, 0, none⟩ (.slice a1 m c1)).setCell ⟨w.heap.size + 1 + 1, 0, none⟩ (.slice a2 m c2)).setCell ⟨w.heap.size + 1 + 1 + 1, 0, none⟩ (.slice a3 m c3)).drew = W5
  intro HQ2
  have g0 : W5.cell? ⟨w.heap.size, 0, none⟩ = some (.slice a0 m c0) := (HQ2.out.box 0).cell (by omega)
  have g1 : W5.cell? ⟨w.heap.size + 1, 0, none⟩ = some (.slice a1 m c1) := (HQ2.out.box 1).cell (by omega)
  have g2 : W5.cell? ⟨w.heap.size + 1 + 1, 0, none⟩ = some (.slice a2 m c2) := (HQ2.out.box 2).cell (by omega)
  have g3 : W5.cell? ⟨w.heap.size + 1 + 1 + 1, 0, none⟩ = some (.slice a3 m c3) := (HQ2.out.box 3).cell (by omega)
  refine bodyPost_ret (v := .tuple #[.slice a0 m c0, .slice a1 m c1, .slice a2 m c2, .slice a3 m c3]) (by simp [results, Tryd.results16, go_sem, g0, g1, g2, g3]; try rfl) rfl ?_
  exact hide ⟨a0, a1, a2, a3, c0, c1, c2, c3, rfl, HQ2.out.old, HQ2.out.buf 0, HQ2.out.buf 1, HQ2.out.buf 2, HQ2.out.buf 3⟩
end Go.Proofs.Qxb6603514aDoor
