import Derived.Test.Qxb6604147aDoorWb
import Derived.Lib.ConvBytes
import Derived.Deep.DeepCutAuto
import Derived.Deep.CutBlock
namespace Go.Proofs.Qxb6604147aDoor
open Go.RowKit

theorem idx_sp (c : UInt8) : decide (0 ≤ Lib.indexByte [45, 46, 95, 126, 43] c) = Pl.isSp c := by
  by_cases h : c ∈ ([45, 46, 95, 126, 43] : List UInt8)
  · simp only [List.mem_cons, List.not_mem_nil, or_false] at h
    rcases h with rfl | rfl | rfl | rfl | rfl <;> decide
  · rw [Pl.index_miss _ _ (fun x hx e => h (by rw [← e]; exact hx))]
    have : Pl.isSp c = false := by
      simp only [List.mem_cons, List.not_mem_nil, or_false, not_or] at h
      unfold Pl.isSp
      simp only [Bool.or_eq_false_iff, decide_eq_false_iff_not]
      refine ⟨⟨⟨⟨fun e => h.1 (UInt8.toNat_inj.1 e), fun e => h.2.1 (UInt8.toNat_inj.1 e)⟩, fun e => h.2.2.1 (UInt8.toNat_inj.1 e)⟩, fun e => h.2.2.2.1 (UInt8.toNat_inj.1 e)⟩, fun e => h.2.2.2.2 (UInt8.toNat_inj.1 e)⟩
    rw [this]; rfl
theorem sp_hi (c : UInt8) (h : 128 ≤ c.toNat) : Pl.isSp c = false := by
  unfold Pl.isSp; simp; omega

theorem crune (c : UInt8) (w : World) : Calls Tryd.prog 12 #[.string ⟨#[45, 46, 95, 126, 43]⟩, .int .i32 c.toNat] w fun e w' => e = .returned (.bool (Pl.isSp c)) ∧ ∃ nq, w' = w.drewN nq := by
  by_cases h : c.toNat < 128
  · have C := Tryd.strings_ContainsRune_ascii ⟨#[45, 46, 95, 126, 43]⟩ (c.toNat : Int) w (by omega) (by omega)
    have e1 : ((c.toNat : Int)).toNat.toUInt8 = c := by simp
    rw [e1] at C
    have e2 : decide (0 ≤ Lib.indexByte (⟨#[45, 46, 95, 126, 43]⟩ : ByteArray).data.toList c) = Pl.isSp c := idx_sp c
    rw [e2] at C
    exact C.mono fun e w' ⟨h1, h2⟩ => ⟨h1, 0, h2⟩
  · have C := index15 ⟨#[45, 46, 95, 126, 43]⟩ rfl (by decide) c (by omega) w
    have H := hide (sp_hi c (by omega))
    generalize (⟨#[45, 46, 95, 126, 43]⟩ : ByteArray) = S at *
    clear h
    go_enter Tryd.func12, Tryd.ntmps12
    go_wp2_with fail
    refine C.mono ?_
    rintro e w1 ⟨rfl, nq, rfl⟩
    go_wp2
    go_ret
    exact ⟨ret_bool H.out, nq, rfl⟩

/-- '[]byte(e)': a new row with the bytes. -/
theorem conv_row (e : ByteArray) (w : World) : ∃ (cap : Nat) (wb : World), (convert 9 26 (.string e)).run Tryd.prog w = .ok (.slice (some ⟨w.heap.size, 0, none⟩) e.size cap) wb ∧ (∀ j (hj : j < e.size), wb.cell? ⟨w.heap.size, j, none⟩ = some (.int .u8 e[j].toNat)) ∧ Below w.heap.size w wb := by
  refine ⟨_, _, Lib.run_convert_string_bytes w 9 26 5 e Tryd.underlying9 Tryd.underlying26 Tryd.underlying5, fun j hj => ?_, ?_⟩
  · rw [Lib.bytesWorld_cell w 5 e j hj]
    congr 3
    rw [List.getD_eq_getElem?_getD, List.getElem?_eq_getElem (by simpa using hj)]; rfl
  · exact ⟨rfl, rfl, rfl, by rw [Lib.bytesWorld_size]; omega, fun k hk => Lib.bytesWorld_at_old w 5 e k hk⟩
end Go.Proofs.Qxb6604147aDoor
