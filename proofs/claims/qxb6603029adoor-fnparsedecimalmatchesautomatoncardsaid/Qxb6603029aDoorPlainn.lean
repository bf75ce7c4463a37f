/-
  Plain: what the automaton's loop keeps, and how its end reads. No Go in sight.
-/
import Derived.Test.Qxb6603029aDoorPlainm
import Derived.Test.Qxb6603029aDoorPlainc
namespace Go.Proofs.Qxb6603029aDoor.Pl

/-- In the exponent's digits all bytes since es are digits. -/
def Inv (L : List UInt8) (k : Nat) (σ : St) : Prop := σ.st = 8 → σ.es ≤ k ∧ ∀ c ∈ (L.take k).drop σ.es, isD c = true
theorem Inv0 (L : List UInt8) : Inv L 0 st0 := fun h => by cases h
theorem step8 {k : Nat} {c : UInt8} {σ σ' : St} (hs : step k c σ = some σ') (h8 : σ'.st = 8) : isD c = true ∧ ((σ.st = 8 ∧ σ'.es = σ.es) ∨ σ'.es = k) := by
  unfold step at hs
  repeat' (split at hs)
  all_goals first
    | (cases hs; done)
    | (cases hs; simp at h8; done)
    | (cases hs; exact ⟨by assumption, Or.inr rfl⟩)
    | (cases hs; exact ⟨by assumption, Or.inl ⟨by assumption, rfl⟩⟩)
theorem Inv_step {L : List UInt8} {k : Nat} {c : UInt8} {σ σ' : St} (hI : Inv L k σ) (hd : L.drop k = c :: L.drop (k + 1)) (hs : step k c σ = some σ') : Inv L (k + 1) σ' := by
  intro h8
  obtain ⟨hc, h⟩ := step8 hs h8
  have hk : k < L.length := by
    rcases Nat.lt_or_ge k L.length with h | h
    · exact h
    · rw [List.drop_of_length_le h] at hd; cases hd
  have hg : L[k] = c := by
    have := List.drop_eq_getElem_cons hk
    rw [this] at hd; exact (List.cons.inj hd).1
  have ht : L.take (k + 1) = L.take k ++ [c] := by rw [List.take_succ_eq_append_getElem hk, hg]
  have hl : (L.take k).length = k := by rw [List.length_take]; omega
  rcases h with ⟨h1, h2⟩ | h2
  · obtain ⟨h3, h4⟩ := hI h1
    rw [h2]
    refine ⟨by omega, fun x hx => ?_⟩
    rw [ht, List.drop_append_of_le_length (by omega)] at hx
    rcases List.mem_append.1 hx with h | h
    · exact h4 x h
    · rw [List.mem_singleton.1 h]; exact hc
  · rw [h2]
    refine ⟨by omega, fun x hx => ?_⟩
    rw [ht, List.drop_append_of_le_length (by omega), List.drop_of_length_le (by omega), List.nil_append] at hx
    rw [List.mem_singleton.1 hx]; exact hc
theorem Inv_end {L : List UInt8} {σ : St} (hI : Inv L L.length σ) (h8 : σ.st = 8) : ∀ c ∈ L.drop σ.es, isD c = true := by
  have := (hI h8).2
  rwa [List.take_length] at this

theorem run_none {L : List UInt8} {k : Nat} {c : UInt8} {σ : St} (hR : run k (L.drop k) σ = run 0 L st0) (hd : L.drop k = c :: L.drop (k + 1)) (hs : step k c σ = none) : mDec L = none := by
  unfold mDec
  rw [← hR, hd]
  unfold run
  rw [hs]; rfl
theorem run_some {L : List UInt8} {k : Nat} {c : UInt8} {σ σ' : St} (hR : run k (L.drop k) σ = run 0 L st0) (hd : L.drop k = c :: L.drop (k + 1)) (hs : step k c σ = some σ') : run (k + 1) (L.drop (k + 1)) σ' = run 0 L st0 := by
  rw [← hR, hd]
  conv => rhs; unfold run
  rw [hs]
theorem run_end {L : List UInt8} {k : Nat} {σ : St} (hR : run k (L.drop k) σ = run 0 L st0) (hk : L.length ≤ k) : mDec L = acc L (some σ) := by
  unfold mDec
  rw [← hR, List.drop_of_length_le hk]; rfl
theorem end_no {L : List UInt8} {σ : St} (h : mDec L = acc L (some σ)) (ha : accepts σ.st = false) : mDec L = none := by rw [h]; simp [acc, ha]
theorem end_yes {L : List UInt8} {σ : St} (h : mDec L = acc L (some σ)) (ha : accepts σ.st = true) : mDec L = some (mNum L σ) := by rw [h]; simp [acc, ha]

/-- The digits from the first to the last that is no '0'. -/
theorem cut_mid {l : List UInt8} {m j : Nat} (hj : j < l.length) (hmj : m ≤ j) (h1 : trL l = l.drop m) (h2 : (l[j] == 48) = false) (h3 : ∀ i (hi : i < l.length), j < i → (l[i] == 48) = true) : trR (trL l) = (l.drop m).take (j + 1 - m) := by
  rw [h1]
  unfold trR
  have e : l.drop m = (l.drop m).take (j + 1 - m) ++ l.drop (j + 1) := by
    conv => lhs; rw [← List.take_append_drop (j + 1 - m) (l.drop m)]
    rw [List.drop_drop]; congr 2; omega
  have hz : ∀ x ∈ (l.drop (j + 1)).reverse, (x == 48) = true := by
    intro x hx
    rw [List.mem_reverse] at hx
    obtain ⟨i, hi, rfl⟩ := List.getElem_of_mem hx
    rw [List.getElem_drop]
    exact h3 _ _ (by omega)
  have hsn : (l.drop m).take (j + 1 - m) = (l.drop m).take (j - m) ++ [l[j]] := by
    rw [show j + 1 - m = (j - m) + 1 by omega, List.take_succ_eq_append_getElem (by rw [List.length_drop]; omega)]
    congr 2
    rw [List.getElem_drop]; congr 1; omega
  conv => lhs; rw [e]
  rw [List.reverse_append, List.dropWhile_append_of_pos hz, hsn, List.reverse_append]
  simp only [List.reverse_cons, List.reverse_nil, List.nil_append, List.cons_append]
  rw [List.dropWhile_cons_of_neg (by rw [h2]; exact Bool.false_ne_true)]
  simp
theorem num_zero {L : List UInt8} {σ : St} (h : trL σ.mant = []) : mNum L σ = ⟨false, [], 0⟩ := by
  unfold mNum; rw [h]; rfl
theorem num_some {L : List UInt8} {σ : St} {m j : Nat} (hj : j < σ.mant.length) (hmj : m ≤ j) (h1 : trL σ.mant = σ.mant.drop m) (h2 : (σ.mant[j] == 48) = false) (h3 : ∀ i (hi : i < σ.mant.length), j < i → (σ.mant[i] == 48) = true) :
    mNum L σ = ⟨σ.neg, (σ.mant.drop m).take (j + 1 - m), mExp L σ - σ.nf + ((σ.mant.length : Int) - 1 - j)⟩ := by
  have e := cut_mid hj hmj h1 h2 h3
  have hl : ((σ.mant.drop m).take (j + 1 - m)).length = j + 1 - m := by rw [List.length_take, List.length_drop]; omega
  unfold mNum
  rw [e]
  have hne : ((σ.mant.drop m).take (j + 1 - m)).isEmpty = false := by
    cases h : (σ.mant.drop m).take (j + 1 - m) with
    | nil => rw [h] at hl; simp at hl; omega
    | cons a b => rfl
  rw [hne, hl, h1]
  simp only [Bool.false_eq_true, if_false, List.length_drop]
  congr 1
  omega
end Go.Proofs.Qxb6603029aDoor.Pl
