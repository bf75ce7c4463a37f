/-
  Plain: the saturated value by counting significant digits. No Go in sight.
-/
import Derived.Test.Qxb6603029aDoorPlainb
namespace Go.Proofs.Qxb6603029aDoor.Pl

def v1 (e : Int) (c : UInt8) : Int := e * 10 + ((c.toNat : Int) - 48)
def val (l : List UInt8) : Int := l.foldl v1 0

theorem isD_b {c : UInt8} (h : isD c = true) : (0 : Int) ≤ (c.toNat : Int) - 48 ∧ (c.toNat : Int) - 48 ≤ 9 := by
  unfold isD at h; simp at h; omega

theorem foldl_sat (l : List UInt8) (hl : ∀ c ∈ l, isD c = true) : ∀ e : Int, 0 ≤ e → l.foldl sat1 (min e 100000000) = min (l.foldl v1 e) 100000000 := by
  induction l with
  | nil => intro e _; rfl
  | cons c t ih =>
    intro e h0
    have hc := isD_b (hl c (List.mem_cons_self ..))
    simp only [List.foldl_cons]
    rw [← ih (fun x hx => hl x (List.mem_cons_of_mem _ hx)) (v1 e c) (by unfold v1; omega)]
    congr 1
    unfold sat1 v1; omega
theorem sat_val (l : List UInt8) (hl : ∀ c ∈ l, isD c = true) : sat l = min (val l) 100000000 := foldl_sat l hl 0 (by omega)

theorem val_zero (c : UInt8) (t : List UInt8) (h : c = 48) : val (c :: t) = val t := by
  subst h; unfold val; rfl
theorem val_trL (l : List UInt8) : val (trL l) = val l := by
  unfold trL
  induction l with
  | nil => rfl
  | cons c t ih =>
    rw [List.dropWhile_cons]
    split
    · rw [ih, val_zero c t (by simpa using ‹(c == 48) = true›)]
    · rfl
theorem foldl_lo (l : List UInt8) (hl : ∀ c ∈ l, isD c = true) : ∀ e : Int, 0 ≤ e → e * (10 ^ l.length : Nat) ≤ l.foldl v1 e := by
  induction l with
  | nil => intro e _; simp
  | cons c t ih =>
    intro e h0
    have hc := isD_b (hl c (List.mem_cons_self ..))
    have := ih (fun x hx => hl x (List.mem_cons_of_mem _ hx)) (v1 e c) (by unfold v1; omega)
    simp only [List.foldl_cons, List.length_cons]
    refine Int.le_trans ?_ this
    rw [Nat.pow_succ, Int.natCast_mul, Int.mul_comm ((10 ^ t.length : Nat) : Int), ← Int.mul_assoc]
    apply Int.mul_le_mul_of_nonneg_right
    · unfold v1; omega
    · exact Int.natCast_nonneg _
theorem foldl_hi (l : List UInt8) (hl : ∀ c ∈ l, isD c = true) : ∀ e : Int, 0 ≤ e → l.foldl v1 e < (e + 1) * (10 ^ l.length : Nat) := by
  induction l with
  | nil => intro e _; simp; omega
  | cons c t ih =>
    intro e h0
    have hc := isD_b (hl c (List.mem_cons_self ..))
    have := ih (fun x hx => hl x (List.mem_cons_of_mem _ hx)) (v1 e c) (by unfold v1; omega)
    simp only [List.foldl_cons, List.length_cons]
    refine Int.lt_of_lt_of_le this ?_
    rw [Nat.pow_succ, Int.natCast_mul, Int.mul_comm ((10 ^ t.length : Nat) : Int), ← Int.mul_assoc]
    apply Int.mul_le_mul_of_nonneg_right
    · unfold v1; omega
    · exact Int.natCast_nonneg _
theorem val_bound (l : List UInt8) (hl : ∀ c ∈ l, isD c = true) (h : l.length ≤ 9) : 0 ≤ val l ∧ val l < 1000000000 := by
  have h1 := foldl_lo l hl 0 (by omega)
  have h2 := foldl_hi l hl 0 (by omega)
  have h3 : 10 ^ l.length ≤ 10 ^ 9 := Nat.pow_le_pow_right (by omega) h
  unfold val
  generalize 10 ^ l.length = p at *
  omega
theorem trL_head (l : List UInt8) : trL l = [] ∨ ∃ c t, trL l = c :: t ∧ c ≠ 48 := by
  unfold trL
  induction l with
  | nil => exact Or.inl rfl
  | cons c t ih =>
    rw [List.dropWhile_cons]
    split
    · exact ih
    · exact Or.inr ⟨c, t, rfl, by simpa using ‹¬(c == 48) = true›⟩
theorem trL_mem {l : List UInt8} {c : UInt8} (h : c ∈ trL l) : c ∈ l := (List.dropWhile_sublist _).mem h
theorem val_big (l : List UInt8) (hl : ∀ c ∈ l, isD c = true) (h : 9 < (trL l).length) : 100000000 ≤ val l := by
  rw [← val_trL]
  rcases trL_head l with e | ⟨c, t, e, hc⟩
  · rw [e] at h; simp at h
  · rw [e] at h ⊢
    have hc2 := isD_b (hl c (trL_mem (by rw [e]; exact List.mem_cons_self ..)))
    have hc3 : c.toNat ≠ 48 := fun e => hc (UInt8.toNat_inj.1 e)
    have h1 := foldl_lo t (fun x hx => hl x (trL_mem (by rw [e]; exact List.mem_cons_of_mem _ hx))) (v1 0 c) (by unfold v1; omega)
    have h3 : 10 ^ 9 ≤ 10 ^ t.length := Nat.pow_le_pow_right (by omega) (by simp at h; omega)
    show 100000000 ≤ t.foldl v1 (v1 0 c)
    have h4 : (1 : Int) * ((10 ^ t.length : Nat) : Int) ≤ v1 0 c * ((10 ^ t.length : Nat) : Int) := by
      apply Int.mul_le_mul_of_nonneg_right
      · unfold v1; omega
      · omega
    omega
/-- What flagsB1Clamped computes. -/
def clamp (l : List UInt8) : Int := if 9 < (trL l).length then 100000000 else if 100000000 < val (trL l) then 100000000 else val (trL l)
theorem clamp_sat (l : List UInt8) (hl : ∀ c ∈ l, isD c = true) : clamp l = sat l := by
  rw [sat_val l hl]
  unfold clamp
  split
  · have := val_big l hl ‹_›; omega
  · rw [val_trL]; split <;> omega
end Go.Proofs.Qxb6603029aDoor.Pl
