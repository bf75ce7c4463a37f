/-
  Plain functions on lists of bytes for seat b6603029aD: what flags.leadingDigits, parseExponent, parseDecimal compute. No Go in sight.
-/
namespace Go.Proofs.Qxb6603029aDoor.Pl

def isD (c : UInt8) : Bool := decide (48 ≤ c.toNat) && decide (c.toNat ≤ 57)

/-- The digits a text starts with, and what follows. -/
def dg (l : List UInt8) : List UInt8 := l.takeWhile isD
def rs (l : List UInt8) : List UInt8 := l.dropWhile isD

/-- One digit more onto a saturating value. -/
def sat1 (e : Int) (c : UInt8) : Int := min (e * 10 + ((c.toNat : Int) - 48)) 100000000
def sat (l : List UInt8) : Int := l.foldl sat1 0

def eBody : List UInt8 → List UInt8
  | [] => []
  | c :: t => if c.toNat = 43 ∨ c.toNat = 45 then t else c :: t
def eSign : List UInt8 → Int
  | [] => 1
  | c :: _ => if c.toNat = 45 then -1 else 1

def pExpV (l : List UInt8) : Int := if (dg (eBody l)).isEmpty then 0 else eSign l * sat (dg (eBody l))
def pExpR (l : List UInt8) : List UInt8 := if (dg (eBody l)).isEmpty then eBody l else rs (eBody l)
def pExpOk (l : List UInt8) : Bool := !(dg (eBody l)).isEmpty

theorem dg_append (l : List UInt8) : dg l ++ rs l = l := List.takeWhile_append_dropWhile
theorem dg_all (l : List UInt8) : ∀ c ∈ dg l, isD c = true := fun c hc => by
  unfold dg at hc
  induction l with
  | nil => simp at hc
  | cons a t ih =>
    rw [List.takeWhile_cons] at hc
    split at hc
    · rcases List.mem_cons.1 hc with rfl | h
      · assumption
      · exact ih h
    · simp at hc
theorem dg_len (l : List UInt8) : (dg l).length ≤ l.length := by
  have h := congrArg List.length (dg_append l); simp at h; omega
theorem dg_take (l : List UInt8) : l.take (dg l).length = dg l := by
  conv => lhs; arg 2; rw [← dg_append l]
  simp
theorem dg_drop (l : List UInt8) : l.drop (dg l).length = rs l := by
  conv => lhs; arg 2; rw [← dg_append l]
  simp

theorem sat1_bound (e : Int) (c : UInt8) (h0 : 0 ≤ e) (hc : isD c = true) : 0 ≤ sat1 e c ∧ sat1 e c ≤ 100000000 := by
  unfold sat1 isD at *
  simp at hc
  omega
theorem foldl_bound (l : List UInt8) (hl : ∀ c ∈ l, isD c = true) : ∀ e : Int, 0 ≤ e → e ≤ 100000000 → 0 ≤ l.foldl sat1 e ∧ l.foldl sat1 e ≤ 100000000 := by
  induction l with
  | nil => intro e h0 h1; exact ⟨h0, h1⟩
  | cons c t ih =>
    intro e h0 _
    have := sat1_bound e c h0 (hl c (List.mem_cons_self ..))
    exact ih (fun x hx => hl x (List.mem_cons_of_mem _ hx)) _ this.1 this.2
theorem sat_bound (l : List UInt8) (hl : ∀ c ∈ l, isD c = true) : 0 ≤ sat l ∧ sat l ≤ 100000000 := foldl_bound l hl 0 (by omega) (by omega)
theorem sat_take_succ (l : List UInt8) (k : Nat) (h : k < l.length) : sat (l.take (k + 1)) = sat1 (sat (l.take k)) l[k] := by
  unfold sat
  rw [List.take_succ_eq_append_getElem h, List.foldl_append]; rfl

/-- k is the length of the run of digits iff the first k are digits and the next, if any, is none. -/
theorem dg_of_stop (l : List UInt8) (k : Nat) (hk : k ≤ l.length) (h1 : ∀ j (hj : j < l.length), j < k → isD l[j] = true) (h2 : ∀ h : k < l.length, isD (l[k]'h) = false) : (dg l).length = k := by
  induction l generalizing k with
  | nil => simp at hk; subst hk; rfl
  | cons a t ih =>
    cases k with
    | zero =>
      have := h2 (by simp)
      simp at this
      unfold dg; rw [List.takeWhile_cons, this]; rfl
    | succ k =>
      have ha := h1 0 (by simp) (by omega)
      simp at ha
      have hh := ih k (by simpa using hk) (fun j hj hjk => by
        have := h1 (j + 1) (by simpa using hj) (by omega)
        simpa using this) (fun h => by
        have := h2 (by simpa using h)
        simpa using this)
      unfold dg at *
      rw [List.takeWhile_cons, ha]; simpa using hh
end Go.Proofs.Qxb6603029aDoor.Pl
