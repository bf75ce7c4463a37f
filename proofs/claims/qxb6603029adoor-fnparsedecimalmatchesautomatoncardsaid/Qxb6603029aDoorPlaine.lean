/-
  Plain: parseDecimal at a text that begins with 1e. No Go in sight.
-/
import Derived.Test.Qxb6603029aDoorPlainb
namespace Go.Proofs.Qxb6603029aDoor.Pl
/-- '1e' ahead of an exponent. -/
theorem dec_1e (l : List UInt8) : pDec (49 :: 101 :: l) = if pExpOk l then pEnd false [49] [] (pExpV l) (pExpR l) else none := rfl
theorem dec_1e_no {l : List UInt8} (h : pExpOk l = false) : pDec (49 :: 101 :: l) = none := by rw [dec_1e, h]; rfl
theorem dec_1e_rest {l : List UInt8} (h : pExpOk l = true) (h2 : (pExpR l).isEmpty = false) : pDec (49 :: 101 :: l) = none := by rw [dec_1e, h]; unfold pEnd; rw [h2]; rfl
theorem dec_1e_yes {l : List UInt8} (h : pExpOk l = true) (h2 : (pExpR l).isEmpty = true) : pDec (49 :: 101 :: l) = some ⟨false, [49], pExpV l⟩ := by
  rw [dec_1e, h]; unfold pEnd; rw [h2]
  have : pFin false [49] [] (pExpV l) = ⟨false, [49], pExpV l - 0 + 1 - 1⟩ := rfl
  simp only [if_true, this]
  congr 2; omega
end Go.Proofs.Qxb6603029aDoor.Pl
