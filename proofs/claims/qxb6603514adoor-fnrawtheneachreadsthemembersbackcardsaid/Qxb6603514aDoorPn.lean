/-
  Plain: numbers: what the reader has passed, it passes again wherever a delimiter follows.
-/
import Derived.Test.Qxb6603514aDoorPk
namespace Go.Proofs.Qxb6603514aDoor.Pj
open Go
def nc (c : UInt8) : Prop := c.toNat = 43 ∨ c.toNat = 45 ∨ c.toNat = 46 ∨ (48 ≤ c.toNat ∧ c.toNat ≤ 57) ∨ c.toNat = 69 ∨ c.toNat = 101
def Dr (r : List UInt8) : Prop := r = [] ∨ ∃ c t, r = c :: t ∧ (c.toNat = 44 ∨ c.toNat = 93 ∨ c.toNat = 125)
theorem dig_iff {c : UInt8} : dig c = true ↔ 48 ≤ c.toNat ∧ c.toNat ≤ 57 := by unfold dig; simp
theorem dig_not {c : UInt8} (h : ¬ (48 ≤ c.toNat ∧ c.toNat ≤ 57)) : dig c = false := by
  cases hd : dig c
  · rfl
  · exact absurd (dig_iff.1 hd) h
/-- It doesn't go on with a digit. -/
def nd (r : List UInt8) : Prop := r = [] ∨ ∃ c t, r = c :: t ∧ dig c = false
theorem Dr.nd {r : List UInt8} (h : Dr r) : nd r := by
  rcases h with h | ⟨c, t, h, hc⟩
  · exact .inl h
  · exact .inr ⟨c, t, h, dig_not (by omega)⟩
theorem digs_nd : ∀ l : List UInt8, nd (digs l)
  | [] => .inl rfl
  | c :: t => by
    unfold digs
    split
    · exact digs_nd t
    · rename_i h; exact .inr ⟨c, t, rfl, by simpa using h⟩
theorem digs_split : ∀ l : List UInt8, ∃ x, l = x ++ digs l ∧ ∀ c ∈ x, dig c = true
  | [] => ⟨[], rfl, fun _ h => by cases h⟩
  | c :: t => by
    unfold digs
    split
    · rename_i h
      obtain ⟨x, hx, hd⟩ := digs_split t
      refine ⟨c :: x, by rw [List.cons_append, ← hx], fun d hm => ?_⟩
      rcases List.mem_cons.1 hm with rfl | hm
      · exact h
      · exact hd d hm
    · exact ⟨[], rfl, fun _ h => by cases h⟩
theorem digs_back : ∀ {x r : List UInt8}, (∀ c ∈ x, dig c = true) → nd r → digs (x ++ r) = r
  | [], r, _, hr => by
    rcases hr with rfl | ⟨c, t, rfl, hc⟩
    · rfl
    · rw [List.nil_append, digs, if_neg (by simp [hc])]
  | c :: x, r, hx, hr => by
    rw [List.cons_append, digs, if_pos (hx c (by simp))]
    exact digs_back (fun d hd => hx d (by simp [hd])) hr
theorem nd_swap {x r r' : List UInt8} (h : nd (x ++ r)) (hr : Dr r') : nd (x ++ r') := by
  cases x with
  | nil => exact hr.nd
  | cons c t =>
    rcases h with h | ⟨d, u, h, hd⟩
    · cases h
    · rw [List.cons_append, List.cons.injEq] at h
      exact .inr ⟨c, t ++ r', rfl, by rw [h.1]; exact hd⟩
theorem dig_nc {c : UInt8} (h : dig c = true) : nc c := .inr (.inr (.inr (.inl (dig_iff.1 h))))
/-- The digits that a test has seen are there. -/
theorem hd_split {l : List UInt8} (h : hd dig l = true) : ∃ c x, l = (c :: x) ++ digs l ∧ ∀ d ∈ c :: x, dig d = true := by
  obtain ⟨x, hx, hd'⟩ := digs_split l
  cases x with
  | nil =>
    exfalso
    have e : l = digs l := hx
    rw [e] at h
    rcases digs_nd l with h0 | ⟨c, t, h0, hc⟩
    · rw [h0] at h; cases h
    · rw [h0, hd, hc] at h; cases h
  | cons c x => exact ⟨c, x, hx, hd'⟩
theorem expD_sound {l r : List UInt8} (h : expD l = some r) : ∃ c x, l = (c :: x) ++ r ∧ (∀ d ∈ c :: x, dig d = true) ∧ ∀ r', Dr r' → expD ((c :: x) ++ r') = some r' := by
  unfold expD at h
  split at h
  · rename_i hh
    cases h
    obtain ⟨c, x, hx, hd'⟩ := hd_split hh
    refine ⟨c, x, hx, hd', fun r' hr => ?_⟩
    unfold expD
    rw [if_pos (by rw [List.cons_append, hd]; exact hd' c (by simp)), digs_back hd' hr.nd]
  · cases h
theorem expS_sound {l r : List UInt8} (h : expS l = some r) : ∃ x, l = x ++ r ∧ (∀ d ∈ x, nc d) ∧ ∀ r', Dr r' → expS (x ++ r') = some r' := by
  cases l with
  | nil => cases h
  | cons d v =>
    rw [expS] at h
    split at h
    · rename_i hs
      obtain ⟨c, x, hx, hd', hc⟩ := expD_sound h
      refine ⟨d :: c :: x, by rw [hx]; rfl, fun e he => ?_, fun r' hr => ?_⟩
      · rcases List.mem_cons.1 he with rfl | he
        · unfold nc; omega
        · exact dig_nc (hd' e he)
      · rw [List.cons_append, expS, if_pos hs]; exact hc r' hr
    · rename_i hs
      obtain ⟨c, x, hx, hd', hc⟩ := expD_sound h
      refine ⟨c :: x, hx, fun e he => dig_nc (hd' e he), fun r' hr => ?_⟩
      have hcd := dig_iff.1 (hd' c (by simp))
      rw [List.cons_append, expS, if_neg (by omega)]; exact hc r' hr
theorem expR_sound {l r : List UInt8} (h : expR l = some r) : ∃ x, l = x ++ r ∧ (∀ d ∈ x, nc d) ∧ ∀ r', Dr r' → expR (x ++ r') = some r' := by
  have base : ∀ r', Dr r' → expR ([] ++ r') = some r' := fun r' hr => by
    rcases hr with rfl | ⟨c, t, rfl, hc⟩
    · rfl
    · rw [List.nil_append, expR, if_neg (by omega)]
  cases l with
  | nil => cases h; exact ⟨[], rfl, fun _ h => (by cases h), base⟩
  | cons c t =>
    rw [expR] at h
    split at h
    · rename_i he
      obtain ⟨x, hx, hn, hc⟩ := expS_sound h
      refine ⟨c :: x, by rw [hx]; rfl, fun e hm => ?_, fun r' hr => ?_⟩
      · rcases List.mem_cons.1 hm with rfl | hm
        · unfold nc; omega
        · exact hn e hm
      · rw [List.cons_append, expR, if_pos he]; exact hc r' hr
    · cases h; exact ⟨[], rfl, fun _ h => (by cases h), base⟩
theorem fracR_sound {l r : List UInt8} (h : fracR l = some r) : ∃ x, l = x ++ r ∧ (∀ d ∈ x, nc d) ∧ ∀ r', Dr r' → fracR (x ++ r') = some r' := by
  cases l with
  | nil =>
    obtain ⟨x, hx, hn, hc⟩ := expR_sound (l := []) h
    obtain ⟨rfl, rfl⟩ := List.append_eq_nil_iff.1 hx.symm
    refine ⟨[], rfl, fun _ h => (by cases h), fun r' hr => ?_⟩
    have := hc r' hr
    rcases hr with rfl | ⟨c, t, rfl, hc'⟩
    · exact this
    · rw [List.nil_append, fracR, if_neg (by omega)]; exact this
  | cons c t =>
    rw [fracR] at h
    split at h
    · rename_i h46
      split at h
      · rename_i hh
        obtain ⟨x2, hx2, hn2, hc2⟩ := expR_sound h
        obtain ⟨d, x1, hx1, hd1⟩ := hd_split hh
        have hnd := digs_nd t
        rw [hx2] at hx1 hnd
        refine ⟨c :: ((d :: x1) ++ x2), by rw [hx1]; simp, fun e hm => ?_, fun r' hr => ?_⟩
        · rcases List.mem_cons.1 hm with rfl | hm
          · unfold nc; omega
          · rcases List.mem_append.1 hm with hm | hm
            · exact dig_nc (hd1 e hm)
            · exact hn2 e hm
        · have e1 : (c :: ((d :: x1) ++ x2)) ++ r' = c :: ((d :: x1) ++ (x2 ++ r')) := by simp
          rw [e1, fracR, if_pos h46, if_pos (by rw [List.cons_append, hd]; exact hd1 d (by simp)), digs_back hd1 (nd_swap hnd hr)]
          exact hc2 r' hr
      · cases h
    · rename_i h46
      obtain ⟨x, hx, hn, hc⟩ := expR_sound h
      refine ⟨x, hx, hn, fun r' hr => ?_⟩
      have := hc r' hr
      cases x with
      | nil =>
        rcases hr with rfl | ⟨c', t', rfl, hc'⟩
        · exact this
        · rw [List.nil_append, fracR, if_neg (by omega)]; exact this
      | cons e u =>
        rw [List.cons_append, List.cons.injEq] at hx
        rw [List.cons_append, fracR, if_neg (by rw [← hx.1]; exact h46)]; exact this
theorem intR_sound {l r : List UInt8} (h : intR l = some r) : ∃ c x, l = (c :: x) ++ r ∧ dig c = true ∧ (∀ d ∈ x, nc d) ∧ ∀ r', Dr r' → intR ((c :: x) ++ r') = some r' := by
  cases l with
  | nil => cases h
  | cons c t =>
    rw [intR] at h
    split at h
    · rename_i h48
      obtain ⟨x, hx, hn, hc⟩ := fracR_sound h
      refine ⟨c, x, by rw [hx]; rfl, dig_iff.2 (by omega), hn, fun r' hr => ?_⟩
      rw [List.cons_append, intR, if_pos h48]; exact hc r' hr
    · rename_i h48
      split at h
      · rename_i h49
        obtain ⟨x2, hx2, hn2, hc2⟩ := fracR_sound h
        have hdc : dig c = true := dig_iff.2 (by omega)
        obtain ⟨d, x1, hx1, hd1⟩ := hd_split (l := c :: t) (by rw [hd]; exact hdc)
        have hnd := digs_nd (c :: t)
        rw [hx2] at hx1 hnd
        have hcd : c = d := by rw [List.cons_append, List.cons.injEq] at hx1; exact hx1.1
        subst hcd
        refine ⟨c, x1 ++ x2, by rw [hx1]; simp, hdc, fun e hm => ?_, fun r' hr => ?_⟩
        · rcases List.mem_append.1 hm with hm | hm
          · exact dig_nc (hd1 e (by simp [hm]))
          · exact hn2 e hm
        · have e1 : (c :: (x1 ++ x2)) ++ r' = (c :: x1) ++ (x2 ++ r') := by simp
          have e2 := digs_back hd1 (nd_swap hnd hr)
          rw [e1, List.cons_append, intR, if_neg h48, if_pos h49, ← List.cons_append, e2]
          exact hc2 r' hr
      · cases h
theorem numR_sound {l r : List UInt8} (h : numR l = some r) : ∃ c x, l = (c :: x) ++ r ∧ (c.toNat = 45 ∨ dig c = true) ∧ (∀ d ∈ c :: x, nc d) ∧ ∀ r', Dr r' → numR ((c :: x) ++ r') = some r' := by
  cases l with
  | nil => cases h
  | cons c t =>
    rw [numR] at h
    split at h
    · rename_i h45
      obtain ⟨d, x, hx, hdd, hn, hc⟩ := intR_sound h
      refine ⟨c, d :: x, by rw [hx]; rfl, .inl h45, fun e hm => ?_, fun r' hr => ?_⟩
      · rcases List.mem_cons.1 hm with rfl | hm
        · unfold nc; omega
        · rcases List.mem_cons.1 hm with rfl | hm
          · exact dig_nc hdd
          · exact hn e hm
      · rw [List.cons_append, numR, if_pos h45]; exact hc r' hr
    · rename_i h45
      obtain ⟨d, x, hx, hdd, hn, hc⟩ := intR_sound h
      refine ⟨d, x, hx, .inr hdd, fun e hm => ?_, fun r' hr => ?_⟩
      · rcases List.mem_cons.1 hm with rfl | hm
        · exact dig_nc hdd
        · exact hn e hm
      · have := dig_iff.1 hdd
        rw [List.cons_append, numR, if_neg (by omega)]; exact hc r' hr
end Go.Proofs.Qxb6603514aDoor.Pj
