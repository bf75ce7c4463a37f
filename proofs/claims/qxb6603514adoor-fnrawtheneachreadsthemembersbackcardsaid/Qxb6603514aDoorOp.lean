/-
  What comes in: the members that the argument leads to; the tables of unicode/utf8.
-/
import Derived.Test.Qxb6603514aDoorMa
import Derived.Test.Qxb6603514aDoorCards
import Derived.ProofKit
import Derived.OpenShut
import Derived.Deep.SlicePairs
import Derived.PinnedBridge
import Derived.LaidMore
import Derived.Lay
import Derived.SevenTiedAt
import Derived.Stop.Joined
import Derived.Lib.LaidU8
namespace Go.Proofs.Qxb6603514aDoor
open Go.ChangeShapes Go.WideShapes Go.ChangeAt Go.RowKit Go.Deep
theorem cells29 : Tryd.prog.cellsOf 29 = 2 := by kernel_rfl
theorem cells9 : Tryd.prog.cellsOf 9 = 1 := by kernel_rfl
theorem cells25 : Tryd.prog.cellsOf 25 = 1 := by kernel_rfl
theorem cells5 : Tryd.prog.cellsOf 5 = 1 := by kernel_rfl
section
variable {H : Type} {enc : TypeId × Value → H} {W : World}
theorem open_text {fuel : Nat} {v : Value} {x : DataW H × List MemPlace} (h : DataW.trod enc Tryd.prog W 0 (fun _ => true) true fuel 25 [v] = some x) :
    ∃ (A : Option Addr) (C : Nat) (L : List UInt8), v = .slice A L.length C ∧ Txt W A L ∧ L.length ≤ C := by
  rcases open_ints Tryd.underlying25 Tryd.underlying5 cells5 h with ⟨hcs, _⟩ | ⟨a, len, cap, zs, hcs, _, hl, hm, hz, _, hcell, hwz⟩
  · simp only [List.cons.injEq, and_true] at hcs
    exact ⟨none, 0, [], hcs, fun h => by simp at h, Nat.le_refl _⟩
  · simp only [List.cons.injEq, and_true] at hcs
    simp only [if_true] at hz
    have hlen : ((zs.take len).map fun n => UInt8.ofNat n.toNat).length = len := by simp; omega
    refine ⟨some a, cap, (zs.take len).map fun n => UInt8.ofNat n.toNat, by rw [hlen]; exact hcs, fun hp => ?_, by rw [hlen]; exact hl⟩
    rw [hlen] at hp
    obtain ⟨ab, ao, spot⟩ := a
    have hspot : spot = none := by simpa [Addr.add] using World.cell?_spot (hcell 0 (by omega))
    subst hspot
    have h0 := hcell 0 (by omega)
    rw [Addr.add_lit] at h0
    refine ⟨ab, ao, rfl, World.block_lt_of_cell? _ _ h0, fun j hj => ?_⟩
    rw [hlen] at hj
    have hcj := hcell j (by omega)
    rw [Addr.add_lit] at hcj
    rw [hcj]
    have hb := range_u8 hwz j
    simp only [List.getElem_map, List.getElem_take]
    have e : zs.getD j 0 = zs[j]'(by omega) := by simp [List.getD, List.getElem?_eq_getElem (show j < zs.length by omega)]
    rw [List.getD_eq_getElem?_getD] at e
    rw [e] at hb
    rw [List.getD_eq_getElem?_getD, e]
    congr 2
    simp only [UInt8.toNat_ofNat']
    omega
theorem open_members {v : Value} {d : DataW H} {p : List MemPlace} {base : Nat} (hval : Value.okWide Tryd.prog W .any base 22 v) (h : DataW.Trod enc Tryd.prog W 0 (fun _ => true) true 22 v d p) :
    ∃ (a : Option Addr) (n c : Nat) (N : Nat → ByteArray) (A : Nat → Option Addr) (C : Nat → Nat) (L : Nat → List UInt8), v = .slice a n c ∧ Mem W a n N A C L := by
  obtain ⟨a0, n, c, rfl⟩ := okWide_slice Tryd.underlying22 hval
  obtain ⟨fuel, hf⟩ := h
  rcases open_slice_pairs Tryd.underlying22 Tryd.underlying29 cells29 rfl rfl cells9 cells25 hf with ⟨hc, _⟩ | ⟨a, len, cap, m, k, V0, V1, D0, D1, P0, P1, hc, _, hl, hm, hmm, _, hall⟩
  · simp [Value.cells] at hc
    obtain ⟨rfl, rfl, rfl⟩ := hc
    exact ⟨none, 0, 0, fun _ => .empty, fun _ => none, fun _ => 0, fun _ => [], rfl, fun h => by omega⟩
  · simp [Value.cells] at hc
    obtain ⟨rfl, rfl, rfl⟩ := hc
    simp only [if_true] at hmm
    have each : ∀ i, i < n → ∃ q : ByteArray × Option Addr × Nat × List UInt8, W.cell? (a.add (i * 2)) = some (.string q.1) ∧ W.cell? (a.add (i * 2 + 1)) = some (.slice q.2.1 q.2.2.2.length q.2.2.1) ∧ Txt W q.2.1 q.2.2.2 ∧ q.2.2.2.length ≤ q.2.2.1 := by
      intro i hi
      obtain ⟨h0, h1, t0, t1⟩ := hall i (by omega)
      obtain ⟨s, hs, _, _⟩ := DataW.trod_string Tryd.underlying9 t0
      obtain ⟨A, C, L, hv, ht, hlc⟩ := open_text t1
      simp only [List.cons.injEq, and_true] at hs
      exact ⟨(s, A, C, L), by rw [h0, hs], by rw [h1, hv], ht, hlc⟩
    obtain ⟨q, hq⟩ := choose_lt each
    refine ⟨some a, n, c, fun i => (q i).1, fun i => (q i).2.1, fun i => (q i).2.2.1, fun i => (q i).2.2.2, rfl, fun hp => ?_⟩
    obtain ⟨ab, ao, spot⟩ := a
    have hspot : spot = none := by simpa [Addr.add] using World.cell?_spot (hq 0 hp).1
    subst hspot
    refine ⟨ab, ao, rfl, fun i hi => ?_, fun i hi => (hq i hi).2.2⟩
    obtain ⟨h0, h1, _, _⟩ := hq i hi
    rw [Addr.add_lit] at h0 h1
    exact ⟨h0, h1⟩
end
theorem Old.frame {W w' : World} (h : Old W w') (may : MemPlace → Prop) : W.keptBut w' may := by
  refine ⟨h.os, h.output, fun i hi => ?_⟩
  rw [h.block i hi]
  split <;> simp_all
theorem Old.same {W w' : World} (h : Old W w') {p : MemPlace} (hp : p.block < W.heap.size) : W.sameAt w' p := by
  cases p with
  | cell b o => exact World.cell?_of_block (w := W) (h.block b hp)
  | map b => exact h.block b hp
set_option maxRecDepth 100000 in
theorem accept_eq : Rows.laid_unicode_utf8_acceptRanges = Lib.acceptData := by kernel_rfl
theorem tabs_of {W : World} (h : laidMetH Tryd.prog Rows.fnRawWritesNameColonCompactTextRow.laid W) : Lib.Utf8Tabs 0 1 W := by
  rw [MakeChecks.laidMetH_plain _ _ _ (by kernel_rfl)] at h
  have e : Rows.fnRawWritesNameColonCompactTextRow.laid = [("unicode/utf8.acceptRanges", Lib.acceptData), ("unicode/utf8.first", Lib.firstData)] := by
    rw [← accept_eq, ← Pinned.utf8First_eq]; rfl
  rw [e] at h
  exact utf8Tabs_of_reads (ρ := Tryd.lays260_ren) Tryd.lays260 ⟨by kernel_rfl, by kernel_rfl, by kernel_rfl, by kernel_rfl, by kernel_rfl, by kernel_rfl, by kernel_rfl⟩ (Lib.laidMet.reads h (.tail _ (.head _))) (Lib.laidMet.reads h (.head _))
end Go.Proofs.Qxb6603514aDoor
