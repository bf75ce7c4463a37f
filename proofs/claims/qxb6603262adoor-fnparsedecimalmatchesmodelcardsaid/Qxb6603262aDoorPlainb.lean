/-
  Plain: the parts of a number under ToLower, Cut and TrimLeft. No Go in sight.
-/
import Derived.Test.Qxb6603262aDoorPlain
import Derived.Lib.Case
import Derived.Lib.SlTrimSet
namespace Go.Proofs.Qxb6603262aDoor.Pl
open Go

def Parts.lep (p : Parts) : List UInt8 := if p.hasE then 101 :: (p.sg ++ p.X) else []
theorem lower_same {c : UInt8} (h : c.toNat < 65) : Lib.lowerB c = c := by
  unfold Lib.lowerB Lib.isUpperB
  rw [if_neg]
  simp [UInt8.le_iff_toNat_le]; omega
theorem lower_ec {c : UInt8} (h : isEc c = true) : Lib.lowerB c = 101 := by
  unfold isEc at h
  simp at h
  rcases h with h | h
  · have e : c = 101 := UInt8.toNat_inj.1 h
    subst e; decide
  · have e : c = 69 := UInt8.toNat_inj.1 h
    subst e; decide
theorem lower_list {l : List UInt8} (h : ∀ c ∈ l, c.toNat < 65) : Lib.toLowerA l = l := by
  unfold Lib.toLowerA
  induction l with
  | nil => rfl
  | cons a t ih => rw [List.map_cons, lower_same (h a (List.mem_cons_self ..)), ih fun c hc => h c (List.mem_cons_of_mem _ hc)]
theorem isD_lt {c : UInt8} (h : isD c = true) : c.toNat < 65 := by have := isD_b h; omega
theorem fp_lt {p : Parts} (hp : p.Ok) : ∀ c ∈ p.fp, c.toNat < 65 := by
  unfold Parts.fp
  intro c hc
  split at hc
  · rcases List.mem_cons.1 hc with rfl | h
    · decide
    · exact isD_lt (hp.fd c h)
  · cases hc
theorem sg_lt {p : Parts} (hp : p.Ok) : ∀ c ∈ p.sg, c.toNat < 65 := by
  intro c hc
  rcases hp.s1 with h | h | h <;> rw [h] at hc
  · cases hc
  · rw [List.mem_singleton.1 hc]; decide
  · rw [List.mem_singleton.1 hc]; decide
theorem lower_app (a b : List UInt8) : Lib.toLowerA (a ++ b) = Lib.toLowerA a ++ Lib.toLowerA b := by
  unfold Lib.toLowerA; exact List.map_append
theorem lower_rest {p : Parts} (hp : p.Ok) : Lib.toLowerA (p.W ++ (p.fp ++ p.ep)) = p.W ++ (p.fp ++ p.lep) := by
  rw [lower_app, lower_app, lower_list (fun c hc => isD_lt (hp.wd c hc)), lower_list (fp_lt hp)]
  congr 2
  unfold Parts.ep Parts.lep
  cases h : p.hasE
  · rfl
  · simp only [if_true]
    have : Lib.toLowerA (p.ec :: (p.sg ++ p.X)) = Lib.lowerB p.ec :: Lib.toLowerA (p.sg ++ p.X) := rfl
    rw [this, lower_ec (hp.e1 h), lower_list]
    intro c hc
    rcases List.mem_append.1 hc with h | h
    · exact sg_lt hp c h
    · exact isD_lt (hp.xd c h)
theorem ep_lt {p : Parts} (hp : p.Ok) : ∀ c ∈ p.ep, c.toNat < 128 := by
  unfold Parts.ep
  intro c hc
  split at hc
  · rename_i h
    rcases List.mem_cons.1 hc with rfl | h2
    · have := hp.e1 h
      unfold isEc at this; simp at this; omega
    · rcases List.mem_append.1 h2 with h3 | h3
      · have := sg_lt hp c h3; omega
      · have := isD_lt (hp.xd c h3); omega
  · cases hc
theorem rest_lt {p : Parts} (hp : p.Ok) : ∀ c ∈ p.W ++ (p.fp ++ p.ep), c.toNat < 128 := by
  intro c hc
  rcases List.mem_append.1 hc with h | h
  · have := isD_lt (hp.wd c h); omega
  · rcases List.mem_append.1 h with h | h
    · have := fp_lt hp c h; omega
    · exact ep_lt hp c h
theorem ne_of_lt {c : UInt8} (h : c.toNat < 65) : c ≠ 101 := by
  intro e; subst e; revert h; decide
theorem mant_ne {p : Parts} (hp : p.Ok) : ∀ c ∈ p.W ++ p.fp, c ≠ 101 := by
  intro c hc
  rcases List.mem_append.1 hc with h | h
  · exact ne_of_lt (isD_lt (hp.wd c h))
  · exact ne_of_lt (fp_lt hp c h)
theorem dig_ne46 {c : UInt8} (h : isD c = true) : c ≠ 46 := by
  intro e; subst e; revert h; decide
theorem trim_sg {p : Parts} (hp : p.Ok) : Lib.trimLeftS (p.sg ++ p.X) [43, 45] = p.X := by
  have hx : Lib.trimLeftS p.X [43, 45] = p.X := by
    cases e : p.X with
    | nil => rfl
    | cons a t =>
      have ha := hp.xd a (by rw [e]; exact List.mem_cons_self ..)
      unfold Lib.trimLeftS
      rw [List.dropWhile_cons_of_neg]
      have := isD_b ha
      simp
      constructor
      · intro e; subst e; revert this; decide
      · intro e; subst e; revert this; decide
  rcases hp.s1 with h | h | h <;> rw [h]
  · exact hx
  · exact hx
  · exact hx
theorem exp_ne {p : Parts} (hp : p.Ok) (he : p.hasE = true) : (p.sg ++ p.X).isEmpty = false := by
  have := hp.x1 he
  cases e : p.X with
  | nil => exact absurd e this
  | cons a t => rcases hp.s1 with h | h | h <;> rw [h] <;> rfl
theorem exp_head {p : Parts} (hp : p.Ok) (he : p.hasE = true) : ∃ a t, p.sg ++ p.X = a :: t ∧ (((a.toNat : Int) == 45) = decide (p.sg = [45])) := by
  have := hp.x1 he
  cases e : p.X with
  | nil => exact absurd e this
  | cons a t =>
    have ha := isD_b (hp.xd a (by rw [e]; exact List.mem_cons_self ..))
    rcases hp.s1 with h | h | h <;> rw [h]
    · refine ⟨a, t, rfl, ?_⟩
      have : ¬ (a.toNat : Int) = 45 := by omega
      simp [this]
    · exact ⟨43, a :: t, rfl, by decide⟩
    · exact ⟨45, a :: t, rfl, by decide⟩
theorem no_exp {p : Parts} (hp : p.Ok) (he : p.hasE = false) : p.e = 0 := by
  have := hp.x0 he
  unfold Parts.e; rw [this.1, this.2]; rfl
theorem e_bound {p : Parts} (hp : p.Ok) : -9007199254740992 ≤ p.e ∧ p.e ≤ 9007199254740992 := by
  have := sat_bound p.X hp.xd
  unfold Parts.e; split <;> omega
theorem res_zero {p : Parts} (h : (trR (trL p.M)).isEmpty = true) : p.res = ⟨0, [], 0⟩ := by unfold Parts.res; rw [h]; rfl
theorem res_some {p : Parts} (h : (trR (trL p.M)).isEmpty = false) : p.res = ⟨if p.neg then -1 else 1, trR (trL p.M), (trL p.M).length - p.F.length + p.e⟩ := by unfold Parts.res; rw [h]; rfl
end Go.Proofs.Qxb6603262aDoor.Pl
