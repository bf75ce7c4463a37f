/-
  Plain functions on lists of bytes for seat b6603262aD: JSON's numbers by their parts. No Go in sight.
-/
namespace Go.Proofs.Qxb6603262aDoor.Pl

def isD (c : UInt8) : Bool := decide (48 ≤ c.toNat) && decide (c.toNat ≤ 57)
def dg (l : List UInt8) : List UInt8 := l.takeWhile isD
def rs (l : List UInt8) : List UInt8 := l.dropWhile isD
theorem dg_append (l : List UInt8) : dg l ++ rs l = l := List.takeWhile_append_dropWhile
theorem dg_yes {c : UInt8} {t : List UInt8} (h : isD c = true) : dg (c :: t) = c :: dg t := by unfold dg; rw [List.takeWhile_cons, h]; rfl
theorem dg_no {c : UInt8} {t : List UInt8} (h : isD c = false) : dg (c :: t) = [] := by unfold dg; rw [List.takeWhile_cons, h]; rfl
theorem rs_yes {c : UInt8} {t : List UInt8} (h : isD c = true) : rs (c :: t) = rs t := by unfold rs; rw [List.dropWhile_cons, h]; rfl
theorem rs_no {c : UInt8} {t : List UInt8} (h : isD c = false) : rs (c :: t) = c :: t := by unfold rs; rw [List.dropWhile_cons, h]; rfl
theorem dg_all (l : List UInt8) : ∀ c ∈ dg l, isD c = true := fun c hc => by
  induction l with
  | nil => cases hc
  | cons a t ih =>
    cases h : isD a
    · rw [dg_no h] at hc; cases hc
    · rw [dg_yes h] at hc
      rcases List.mem_cons.1 hc with rfl | h2
      · exact h
      · exact ih h2
/-- What follows the digits begins with none. -/
def noD : List UInt8 → Prop
  | [] => True
  | c :: _ => isD c = false
theorem rs_noD (l : List UInt8) : noD (rs l) := by
  induction l with
  | nil => trivial
  | cons a t ih =>
    cases h : isD a
    · rw [rs_no h]; exact h
    · rw [rs_yes h]; exact ih
theorem dg_of {a b : List UInt8} (ha : ∀ c ∈ a, isD c = true) (hb : noD b) : dg (a ++ b) = a ∧ rs (a ++ b) = b := by
  induction a with
  | nil =>
    cases b with
    | nil => exact ⟨rfl, rfl⟩
    | cons c t => exact ⟨dg_no hb, rs_no hb⟩
  | cons c t ih =>
    have hc := ha c (List.mem_cons_self ..)
    have := ih (fun x hx => ha x (List.mem_cons_of_mem _ hx))
    rw [List.cons_append, dg_yes hc, rs_yes hc, this.1, this.2]; exact ⟨rfl, rfl⟩

/-! ### The grammar, as the scanner reads it: by what is left -/
def isEc (c : UInt8) : Bool := decide (c.toNat = 101) || decide (c.toNat = 69)
def isSg (c : UInt8) : Bool := decide (c.toNat = 43) || decide (c.toNat = 45)
def eBody : List UInt8 → List UInt8
  | [] => []
  | c :: t => if isSg c then t else c :: t
/-- Behind the fraction: an exponent or the end. -/
def n3 : List UInt8 → Bool
  | [] => true
  | c :: t => isEc c && !(dg (eBody t)).isEmpty && (rs (eBody t)).isEmpty
/-- Behind the whole part. -/
def n2 : List UInt8 → Bool
  | [] => true
  | c :: t => if c.toNat = 46 then !(dg t).isEmpty && n3 (rs t) else n3 (c :: t)
/-- At the whole part. -/
def n1 : List UInt8 → Bool
  | [] => false
  | c :: t => if c.toNat = 48 then n2 t else if isD c then n2 (rs (c :: t)) else false
def n0 : List UInt8 → Bool
  | [] => false
  | c :: t => if c.toNat = 45 then n1 t else n1 (c :: t)

/-! ### The parts -/
structure Parts where
  neg : Bool
  W : List UInt8
  hasF : Bool
  F : List UInt8
  hasE : Bool
  ec : UInt8
  sg : List UInt8
  X : List UInt8
def Parts.sn (p : Parts) : List UInt8 := if p.neg then [45] else []
def Parts.fp (p : Parts) : List UInt8 := if p.hasF then 46 :: p.F else []
def Parts.ep (p : Parts) : List UInt8 := if p.hasE then p.ec :: (p.sg ++ p.X) else []
def Parts.text (p : Parts) : List UInt8 := p.sn ++ (p.W ++ (p.fp ++ p.ep))
structure Parts.Ok (p : Parts) : Prop where
  w0 : p.W ≠ []
  wd : ∀ c ∈ p.W, isD c = true
  fd : ∀ c ∈ p.F, isD c = true
  f0 : p.hasF = false → p.F = []
  xd : ∀ c ∈ p.X, isD c = true
  x1 : p.hasE = true → p.X ≠ []
  x0 : p.hasE = false → p.X = [] ∧ p.sg = []
  e1 : p.hasE = true → isEc p.ec = true
  s1 : p.sg = [] ∨ p.sg = [43] ∨ p.sg = [45]

theorem sg_of {c : UInt8} (h : isSg c = true) : [c] = [43] ∨ [c] = [45] := by
  unfold isSg at h
  simp at h
  rcases h with h | h
  · exact Or.inl (by have e : c = 43 := UInt8.toNat_inj.1 h; rw [e])
  · exact Or.inr (by have e : c = 45 := UInt8.toNat_inj.1 h; rw [e])
/-- The exponent's parts. -/
theorem n3_parts {l : List UInt8} (h : n3 l = true) : ∃ (hasE : Bool) (ec : UInt8) (sg X : List UInt8), l = (if hasE then ec :: (sg ++ X) else []) ∧ (∀ c ∈ X, isD c = true) ∧ (hasE = true → X ≠ []) ∧ (hasE = false → X = [] ∧ sg = []) ∧ (hasE = true → isEc ec = true) ∧ (sg = [] ∨ sg = [43] ∨ sg = [45]) := by
  cases l with
  | nil => exact ⟨false, 0, [], [], rfl, by simp, by simp, fun _ => ⟨rfl, rfl⟩, by simp, Or.inl rfl⟩
  | cons c t =>
    simp only [n3, Bool.and_eq_true, Bool.not_eq_true'] at h
    obtain ⟨⟨h1, h2⟩, h3⟩ := h
    have hx : eBody t = dg (eBody t) := by
      have := dg_append (eBody t)
      rw [List.isEmpty_iff.1 h3, List.append_nil] at this
      exact this.symm
    have hne : dg (eBody t) ≠ [] := by intro e; rw [e] at h2; cases h2
    cases t with
    | nil => exact absurd rfl hne
    | cons d u =>
      cases hs : isSg d
      · have e : eBody (d :: u) = d :: u := by simp [eBody, hs]
        refine ⟨true, c, [], d :: u, rfl, ?_, fun _ => by simp, by simp, fun _ => h1, Or.inl rfl⟩
        rw [← e, hx]; exact dg_all _
      · have e : eBody (d :: u) = u := by simp [eBody, hs]
        rw [e] at hx hne
        refine ⟨true, c, [d], u, rfl, ?_, fun _ => by rw [hx]; exact hne, by simp, fun _ => h1, Or.inr (sg_of hs)⟩
        rw [hx]; exact dg_all _
theorem n2_parts {l : List UInt8} (h : n2 l = true) : ∃ (hasF : Bool) (F : List UInt8) (r : List UInt8), l = (if hasF then 46 :: F else []) ++ r ∧ (∀ c ∈ F, isD c = true) ∧ (hasF = false → F = []) ∧ n3 r = true := by
  cases l with
  | nil => exact ⟨false, [], [], rfl, by simp, fun _ => rfl, rfl⟩
  | cons c t =>
    by_cases h46 : c.toNat = 46
    · simp only [n2, if_pos h46, Bool.and_eq_true] at h
      refine ⟨true, dg t, rs t, ?_, dg_all _, by simp, h.2⟩
      have : c = 46 := UInt8.toNat_inj.1 h46
      subst this
      simp [dg_append]
    · simp only [n2, if_neg h46] at h
      exact ⟨false, [], c :: t, rfl, by simp, fun _ => rfl, h⟩
theorem n1_parts {l : List UInt8} (h : n1 l = true) : ∃ (W r : List UInt8), l = W ++ r ∧ W ≠ [] ∧ (∀ c ∈ W, isD c = true) ∧ n2 r = true := by
  cases l with
  | nil => cases h
  | cons c t =>
    by_cases h48 : c.toNat = 48
    · simp only [n1, if_pos h48] at h
      refine ⟨[c], t, rfl, by simp, fun x hx => ?_, h⟩
      rw [List.mem_singleton.1 hx]; simp [isD, h48]
    · cases hd : isD c
      · simp [n1, h48, hd] at h
      · simp only [n1, if_neg h48, hd, if_true] at h
        refine ⟨dg (c :: t), rs (c :: t), (dg_append _).symm, by rw [dg_yes hd]; simp, dg_all _, h⟩
/-- A JSON number has its parts. -/
theorem parts_of {l : List UInt8} (h : n0 l = true) : ∃ p : Parts, p.Ok ∧ p.text = l := by
  have key : ∃ (neg : Bool) (m : List UInt8), l = (if neg then [45] else []) ++ m ∧ n1 m = true := by
    cases l with
    | nil => cases h
    | cons c t =>
      by_cases h45 : c.toNat = 45
      · simp only [n0, if_pos h45] at h
        have : c = 45 := UInt8.toNat_inj.1 h45
        subst this
        exact ⟨true, t, rfl, h⟩
      · simp only [n0, if_neg h45] at h
        exact ⟨false, c :: t, rfl, h⟩
  obtain ⟨neg, m, e0, h1⟩ := key
  obtain ⟨W, r, e1, w0, wd, h2⟩ := n1_parts h1
  obtain ⟨hasF, F, r2, e2, fd, f0, h3⟩ := n2_parts h2
  obtain ⟨hasE, ec, sg, X, e3, xd, x1, x0, ee, s1⟩ := n3_parts h3
  refine ⟨⟨neg, W, hasF, F, hasE, ec, sg, X⟩, ⟨w0, wd, fd, f0, xd, x1, x0, ee, s1⟩, ?_⟩
  rw [e0, e1, e2, e3]; rfl

/-! ### The value -/
def trL (l : List UInt8) : List UInt8 := l.dropWhile (· == 48)
def trR (l : List UInt8) : List UInt8 := (l.reverse.dropWhile (· == 48)).reverse
def cap : Int := 9007199254740992
def sat1 (e : Int) (c : UInt8) : Int := min (e * 10 + ((c.toNat : Int) - 48)) 9007199254740992
def sat (l : List UInt8) : Int := l.foldl sat1 0
def Parts.e (p : Parts) : Int := if p.sg = [45] then -sat p.X else sat p.X
structure Res where
  sign : Int
  dig : List UInt8
  point : Int
def Parts.M (p : Parts) : List UInt8 := p.W ++ p.F
def Parts.res (p : Parts) : Res :=
  if (trR (trL p.M)).isEmpty then ⟨0, [], 0⟩
  else ⟨if p.neg then -1 else 1, trR (trL p.M), (trL p.M).length - p.F.length + p.e⟩

theorem isD_b {c : UInt8} (h : isD c = true) : (48 : Int) ≤ (c.toNat : Int) ∧ (c.toNat : Int) ≤ 57 := by
  unfold isD at h; simp at h; omega
theorem sat1_bound (e : Int) (c : UInt8) (h0 : 0 ≤ e) (hc : isD c = true) : 0 ≤ sat1 e c ∧ sat1 e c ≤ 9007199254740992 := by
  have := isD_b hc
  unfold sat1
  omega
theorem foldl_bound (l : List UInt8) (hl : ∀ c ∈ l, isD c = true) : ∀ e : Int, 0 ≤ e → e ≤ 9007199254740992 → 0 ≤ l.foldl sat1 e ∧ l.foldl sat1 e ≤ 9007199254740992 := by
  induction l with
  | nil => intro e h0 h1; exact ⟨h0, h1⟩
  | cons c t ih =>
    intro e h0 _
    have := sat1_bound e c h0 (hl c (List.mem_cons_self ..))
    exact ih (fun x hx => hl x (List.mem_cons_of_mem _ hx)) _ this.1 this.2
theorem sat_bound (l : List UInt8) (hl : ∀ c ∈ l, isD c = true) : 0 ≤ sat l ∧ sat l ≤ 9007199254740992 := foldl_bound l hl 0 (by omega) (by omega)
theorem sat_take_succ (l : List UInt8) (k : Nat) (h : k < l.length) : sat (l.take (k + 1)) = sat1 (sat (l.take k)) l[k] := by
  unfold sat
  rw [List.take_succ_eq_append_getElem h, List.foldl_append]; rfl
theorem trL_len (l : List UInt8) : (trL l).length ≤ l.length := by
  unfold trL
  induction l with
  | nil => simp
  | cons a t ih => rw [List.dropWhile_cons]; split <;> simp <;> omega
theorem trR_len (l : List UInt8) : (trR l).length ≤ l.length := by
  unfold trR
  have := trL_len l.reverse
  unfold trL at this
  simpa using this
end Go.Proofs.Qxb6603262aDoor.Pl
