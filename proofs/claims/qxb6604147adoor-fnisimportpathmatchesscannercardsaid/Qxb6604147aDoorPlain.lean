/-
  Plain: import paths, by splitting and by one scan. No Go in sight.
-/
import Derived.Lib.SplitLaws
import Derived.Lib.IndexBytes
namespace Go.Proofs.Qxb6604147aDoor.Pl
open Go

def isLow (c : UInt8) : Bool := decide (97 ≤ c.toNat) && decide (c.toNat ≤ 122)
def isLet (c : UInt8) : Bool := isLow c || (decide (65 ≤ c.toNat) && decide (c.toNat ≤ 90))
def isDig (c : UInt8) : Bool := decide (48 ≤ c.toNat) && decide (c.toNat ≤ 57)
def isSp (c : UInt8) : Bool := decide (c.toNat = 45) || decide (c.toNat = 46) || decide (c.toNat = 95) || decide (c.toNat = 126) || decide (c.toNat = 43)
def pathB (c : UInt8) : Bool := isLet c || isDig c || isSp c
/-- The element ends with a dot. -/
def dotEnd (e : List UInt8) : Bool := decide (e.getLast? = some 46)
def okElem (e : List UInt8) : Bool := !e.isEmpty && !dotEnd e && e.all pathB

/-- The pieces between slashes. -/
def sp : List UInt8 → List (List UInt8)
  | [] => [[]]
  | c :: t => if c = 47 then [] :: sp t else match sp t with
    | [] => [[c]]
    | h :: r => (c :: h) :: r
theorem sp_ne (l : List UInt8) : ∃ h r, sp l = h :: r := by
  cases l with
  | nil => exact ⟨[], [], rfl⟩
  | cons c t =>
    unfold sp
    split
    · exact ⟨_, _, rfl⟩
    · split
      · exact ⟨_, _, rfl⟩
      · exact ⟨_, _, rfl⟩
def okPath (l : List UInt8) : Bool := (sp l).all okElem

/-! ### the scanner -/
structure Sc where
  want : Bool
  n : Nat
  last : UInt8
def step (σ : Sc) (c : UInt8) : Sc :=
  if c = 47 then ⟨σ.want && !(decide (σ.n = 0) || decide (σ.last = 46)), 0, σ.last⟩ else ⟨σ.want && pathB c, σ.n + 1, c⟩
def fin (σ : Sc) : Bool := σ.want && !(decide (σ.n = 0) || decide (σ.last = 46))
def sc0 : Sc := ⟨true, 0, 0⟩
def scan (l : List UInt8) : Bool := fin (l.foldl step sc0)

theorem ok_of (e : List UInt8) (last : UInt8) (hl : e ≠ [] → e.getLast? = some last) : (e.all pathB && !(decide (e.length = 0) || decide (last = 46))) = okElem e := by
  unfold okElem dotEnd
  cases e with
  | nil => rfl
  | cons a t =>
    rw [hl (by simp)]
    simp only [List.length_cons, List.isEmpty_cons, Option.some.injEq]
    cases (a :: t).all pathB <;> simp
theorem scan_eq (l : List UInt8) : ∀ (want : Bool) (e : List UInt8) (last : UInt8), (e ≠ [] → e.getLast? = some last) →
    fin (l.foldl step ⟨want && e.all pathB, e.length, last⟩) = (want && (match sp l with | [] => true | h :: r => okElem (e ++ h) && r.all okElem)) := by
  induction l with
  | nil =>
    intro want e last hl
    simp only [List.foldl_nil, sp, List.append_nil, List.all_nil, Bool.and_true]
    unfold fin
    rw [← ok_of e last hl, Bool.and_assoc]
  | cons c t ih =>
    intro want e last hl
    obtain ⟨h, r, hs⟩ := sp_ne t
    by_cases hc : c = 47
    · have e1 : step ⟨want && e.all pathB, e.length, last⟩ c = ⟨(want && okElem e) && ([] : List UInt8).all pathB, ([] : List UInt8).length, last⟩ := by
        unfold step; rw [if_pos hc, ← ok_of e last hl]; simp [Bool.and_assoc]
      rw [List.foldl_cons, e1, ih _ [] last (by simp), hs]
      unfold sp
      rw [if_pos hc, hs]
      simp [Bool.and_assoc]
    · have e1 : step ⟨want && e.all pathB, e.length, last⟩ c = ⟨want && (e ++ [c]).all pathB, (e ++ [c]).length, c⟩ := by
        unfold step; rw [if_neg hc]; simp [Bool.and_assoc]
      rw [List.foldl_cons, e1, ih _ (e ++ [c]) c (by simp), hs]
      unfold sp
      rw [if_neg hc, hs]
      simp
/-- THE PLAIN LAW. -/
theorem scan_ok (l : List UInt8) : scan l = okPath l := by
  have := scan_eq l true [] 0 (by simp)
  unfold scan sc0 okPath
  obtain ⟨h, r, hs⟩ := sp_ne l
  rw [hs] at this ⊢
  simpa using this

/-! ### strings.Split at '/' gives those pieces -/
theorem index_hit (a b : List UInt8) (c : UInt8) (h : ∀ x ∈ a, x ≠ c) : Lib.indexByte (a ++ c :: b) c = a.length := by
  induction a with
  | nil => simp [Lib.indexByte]
  | cons x t ih =>
    have hx : (x == c) = false := by simpa using h x (List.mem_cons_self ..)
    have := ih fun y hy => h y (List.mem_cons_of_mem _ hy)
    simp only [List.cons_append, Lib.indexByte, hx, this]
    have e : (((t.length : Nat) : Int) == -1) = false := by simp
    rw [e]; simp
theorem index_miss (l : List UInt8) (c : UInt8) (h : ∀ x ∈ l, x ≠ c) : Lib.indexByte l c = -1 := by
  induction l with
  | nil => rfl
  | cons x t ih =>
    have hx : (x == c) = false := by simpa using h x (List.mem_cons_self ..)
    have := ih fun y hy => h y (List.mem_cons_of_mem _ hy)
    simp only [Lib.indexByte, hx, this]; rfl
theorem sp_app (a b : List UInt8) (h : ∀ x ∈ a, x ≠ 47) : sp (a ++ 47 :: b) = a :: sp b := by
  induction a with
  | nil => simp [sp]
  | cons x t ih =>
    have hx := h x (List.mem_cons_self ..)
    rw [List.cons_append]
    conv => lhs; unfold sp
    rw [if_neg hx, ih fun y hy => h y (List.mem_cons_of_mem _ hy)]
theorem sp_none (a : List UInt8) (h : ∀ x ∈ a, x ≠ 47) : sp a = [a] := by
  induction a with
  | nil => rfl
  | cons x t ih =>
    have hx := h x (List.mem_cons_self ..)
    unfold sp
    rw [if_neg hx, ih fun y hy => h y (List.mem_cons_of_mem _ hy)]
/-- A list has no slash, or has a first one. -/
theorem slash (l : List UInt8) : (∀ x ∈ l, x ≠ 47) ∨ ∃ a b, l = a ++ 47 :: b ∧ ∀ x ∈ a, x ≠ 47 := by
  induction l with
  | nil => exact Or.inl (by simp)
  | cons c t ih =>
    by_cases hc : c = 47
    · exact Or.inr ⟨[], t, by rw [hc]; rfl, by simp⟩
    · rcases ih with h | ⟨a, b, e, h⟩
      · refine Or.inl fun x hx => ?_
        rcases List.mem_cons.1 hx with rfl | h2
        · exact hc
        · exact h x h2
      · refine Or.inr ⟨c :: a, b, by rw [e]; rfl, fun x hx => ?_⟩
        rcases List.mem_cons.1 hx with rfl | h2
        · exact hc
        · exact h x h2
theorem splitK_sp : ∀ (k : Nat) (l : List UInt8), l.count 47 = k → Lib.splitK [47] 0 k l = sp l
  | 0, l, h => by
    have hn : ∀ x ∈ l, x ≠ 47 := fun x hx e => by subst e; exact absurd (List.count_pos_iff.2 hx) (by omega)
    rw [sp_none l hn]; rfl
  | k + 1, l, h => by
    rcases slash l with hn | ⟨a, b, e, hn⟩
    · have : l.count 47 = 0 := List.count_eq_zero.2 fun hx => hn 47 hx rfl
      omega
    · have hi : Lib.index l [47] = a.length := by rw [Lib.index_one, e]; exact index_hit a b 47 hn
      have ha : a.count 47 = 0 := List.count_eq_zero.2 fun hx => hn 47 hx rfl
      have hb : b.count 47 = k := by rw [e] at h; simp [List.count_append] at h; omega
      unfold Lib.splitK
      have e1 : (Lib.index l [47] == -1) = false := by rw [hi]; simp
      rw [e1, hi, splitK_sp k (l.drop ((a.length : Int).toNat + [47].length)) (by rw [e]; simp; exact hb), e, sp_app a b hn]
      simp
theorem split_sp (l : List UInt8) : Lib.splitK [47] 0 (Lib.count l [47]) l = sp l := splitK_sp _ l (Lib.count_one 47 l).symm
theorem sp_len : ∀ (k : Nat) (l : List UInt8), l.count 47 = k → (sp l).length = k + 1
  | 0, l, h => by
    have hn : ∀ x ∈ l, x ≠ 47 := fun x hx e => by subst e; exact absurd (List.count_pos_iff.2 hx) (by omega)
    rw [sp_none l hn]; rfl
  | k + 1, l, h => by
    rcases slash l with hn | ⟨a, b, e, hn⟩
    · have : l.count 47 = 0 := List.count_eq_zero.2 fun hx => hn 47 hx rfl
      omega
    · have ha : a.count 47 = 0 := List.count_eq_zero.2 fun hx => hn 47 hx rfl
      have hb : b.count 47 = k := by rw [e] at h; simp [List.count_append] at h; omega
      rw [e, sp_app a b hn, List.length_cons, sp_len k b hb]
end Go.Proofs.Qxb6604147aDoor.Pl
