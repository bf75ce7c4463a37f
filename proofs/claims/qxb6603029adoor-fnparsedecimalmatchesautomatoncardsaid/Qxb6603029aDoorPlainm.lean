/-
  Plain: the nine-state automaton of the law, and that it reads what parseDecimal reads. No Go in sight.
-/
import Derived.Test.Qxb6603029aDoorPlainb
namespace Go.Proofs.Qxb6603029aDoor.Pl

structure St where
  neg : Bool
  mant : List UInt8
  nf : Nat
  eneg : Bool
  es : Nat
  st : Nat

def isEc (c : UInt8) : Bool := decide (c.toNat = 101) || decide (c.toNat = 69)

def step (i : Nat) (c : UInt8) (σ : St) : Option St :=
  if σ.st = 0 ∨ σ.st = 1 then
    if σ.st = 0 ∧ c.toNat = 45 then some { σ with neg := true, st := 1 }
    else if c.toNat = 48 then some { σ with mant := σ.mant ++ [c], st := 2 }
    else if isD c then some { σ with mant := σ.mant ++ [c], st := 3 }
    else none
  else if σ.st = 2 then
    if c.toNat = 46 then some { σ with st := 4 }
    else if isEc c then some { σ with st := 6 }
    else none
  else if σ.st = 3 then
    if isD c then some { σ with mant := σ.mant ++ [c], st := 3 }
    else if c.toNat = 46 then some { σ with st := 4 }
    else if isEc c then some { σ with st := 6 }
    else none
  else if σ.st = 4 ∨ σ.st = 5 then
    if isD c then some { σ with mant := σ.mant ++ [c], nf := σ.nf + 1, st := 5 }
    else if σ.st = 5 ∧ isEc c then some { σ with st := 6 }
    else none
  else if σ.st = 6 then
    if c.toNat = 43 then some { σ with st := 7 }
    else if c.toNat = 45 then some { σ with eneg := true, st := 7 }
    else if isD c then some { σ with es := i, st := 8 }
    else none
  else if σ.st = 7 then
    if isD c then some { σ with es := i, st := 8 } else none
  else if σ.st = 8 then
    if isD c then some { σ with st := 8 } else none
  else none

def run : Nat → List UInt8 → St → Option St
  | _, [], σ => some σ
  | i, c :: t, σ => match step i c σ with
    | none => none
    | some σ' => run (i + 1) t σ'

def st0 : St := ⟨false, [], 0, false, 0, 0⟩
def accepts (n : Nat) : Bool := decide (n = 2) || decide (n = 3) || decide (n = 5) || decide (n = 8)
/-- The exponent that a state holds: of the whole text L. -/
def mExp (L : List UInt8) (σ : St) : Int := if σ.st = 8 then (if σ.eneg then -sat (L.drop σ.es) else sat (L.drop σ.es)) else 0
def mNum (L : List UInt8) (σ : St) : Num :=
  if (trR (trL σ.mant)).isEmpty then ⟨false, [], 0⟩
  else ⟨σ.neg, trR (trL σ.mant), mExp L σ - σ.nf + (trL σ.mant).length - (trR (trL σ.mant)).length⟩
def acc (L : List UInt8) : Option St → Option Num
  | none => none
  | some σ => if accepts σ.st then some (mNum L σ) else none
def mDec (L : List UInt8) : Option Num := acc L (run 0 L st0)

theorem isD_not {c : UInt8} (h : isD c = true) : c.toNat ≠ 43 ∧ c.toNat ≠ 45 ∧ c.toNat ≠ 46 ∧ c.toNat ≠ 101 ∧ c.toNat ≠ 69 := by
  unfold isD at h; simp at h; omega
theorem dg_yes {c : UInt8} {t : List UInt8} (h : isD c = true) : dg (c :: t) = c :: dg t := by unfold dg; rw [List.takeWhile_cons, h]; rfl
theorem dg_no {c : UInt8} {t : List UInt8} (h : isD c = false) : dg (c :: t) = [] := by unfold dg; rw [List.takeWhile_cons, h]; rfl
theorem rs_yes {c : UInt8} {t : List UInt8} (h : isD c = true) : rs (c :: t) = rs t := by unfold rs; rw [List.dropWhile_cons, h]; rfl
theorem rs_no {c : UInt8} {t : List UInt8} (h : isD c = false) : rs (c :: t) = c :: t := by unfold rs; rw [List.dropWhile_cons, h]; rfl

theorem run8 (i : Nat) (l : List UInt8) (σ : St) (h : σ.st = 8) : run i l σ = if (rs l).isEmpty then some σ else none := by
  induction l generalizing i with
  | nil => rfl
  | cons c t ih =>
    unfold run
    cases hc : isD c
    · rw [rs_no hc]; simp [step, h, hc]
    · rw [rs_yes hc]
      have e : step i c σ = some σ := by simp [step, h, hc]; cases σ; simp_all
      rw [e]; exact ih (i + 1)

theorem rs_nil {l : List UInt8} (h : (rs l).isEmpty = true) : dg l = l := by
  have := dg_append l
  rw [List.isEmpty_iff.1 h] at this; simpa using this

theorem pFin_eq (L : List UInt8) (σ : St) (whole frac : List UInt8) (hm : σ.mant = whole ++ frac) (hn : σ.nf = frac.length) : mNum L σ = pFin σ.neg whole frac (mExp L σ) := by
  unfold mNum pFin; rw [hm, hn]

theorem A7 (L : List UInt8) (i : Nat) (l : List UInt8) (hl : L.drop i = l) (σ : St) (h : σ.st = 7) (whole frac : List UInt8) (hm : σ.mant = whole ++ frac) (hn : σ.nf = frac.length) :
    acc L (run i l σ) = if (dg l).isEmpty then none else pEnd σ.neg whole frac (if σ.eneg then -sat (dg l) else sat (dg l)) (rs l) := by
  cases l with
  | nil => unfold run acc; simp [h, accepts, dg]
  | cons c t =>
    unfold run
    cases hc : isD c
    · rw [dg_no hc]; simp [step, h, hc, acc]
    · have e : step i c σ = some { σ with es := i, st := 8 } := by simp [step, h, hc]
      rw [e]
      simp only
      rw [run8 _ _ _ rfl]
      unfold pEnd
      rw [rs_yes hc]
      have hd : (dg (c :: t)).isEmpty = false := by rw [dg_yes hc]; rfl
      rw [hd]
      cases hr : (rs t).isEmpty
      · rfl
      · have e2 : dg (c :: t) = c :: t := rs_nil (by rw [rs_yes hc]; exact hr)
        simp only [acc, accepts, if_true]
        rw [pFin_eq L { σ with es := i, st := 8 } whole frac hm hn]
        simp [mExp, hl, e2]

theorem A6 (L : List UInt8) (i : Nat) (l : List UInt8) (hl : L.drop i = l) (σ : St) (h : σ.st = 6) (he : σ.eneg = false) (whole frac : List UInt8) (hm : σ.mant = whole ++ frac) (hn : σ.nf = frac.length) :
    acc L (run i l σ) = if pExpOk l then pEnd σ.neg whole frac (pExpV l) (pExpR l) else none := by
  cases l with
  | nil => unfold run acc; simp [h, accepts, pExpOk, eBody, dg]
  | cons c t =>
    have hl' : L.drop (i + 1) = t := by rw [← List.drop_drop, hl]; rfl
    by_cases c43 : c.toNat = 43
    · have e : step i c σ = some { σ with st := 7 } := by simp [step, h, c43]
      unfold run; rw [e]; simp only
      rw [A7 L (i + 1) t hl' { σ with st := 7 } rfl whole frac hm hn]
      have hb : eBody (c :: t) = t := by simp [eBody, c43]
      have hs : eSign (c :: t) = 1 := by simp [eSign, c43]
      unfold pExpOk pExpV pExpR
      rw [hb, hs, he]
      cases (dg t).isEmpty <;> simp
    · by_cases c45 : c.toNat = 45
      · have e : step i c σ = some { σ with eneg := true, st := 7 } := by simp [step, h, c45]
        unfold run; rw [e]; simp only
        rw [A7 L (i + 1) t hl' { σ with eneg := true, st := 7 } rfl whole frac hm hn]
        have hb : eBody (c :: t) = t := by simp [eBody, c45]
        have hs : eSign (c :: t) = -1 := by simp [eSign, c45]
        unfold pExpOk pExpV pExpR
        rw [hb, hs]
        cases (dg t).isEmpty <;> simp [Int.neg_one_mul]
      · have hb : eBody (c :: t) = c :: t := by simp [eBody, c45, c43]
        have hs : eSign (c :: t) = 1 := by simp [eSign, c45]
        unfold pExpOk pExpV pExpR
        rw [hb, hs]
        cases hc : isD c
        · have e : step i c σ = none := by simp [step, h, c43, c45, hc]
          unfold run; rw [e, dg_no hc]; rfl
        · have e1 : step i c σ = some { σ with es := i, st := 8 } := by simp [step, h, c43, c45, hc]
          have e2 := A7 L i (c :: t) hl { σ with st := 7 } rfl whole frac hm hn
          have e3 : step i c { σ with st := 7 } = some { σ with es := i, st := 8 } := by simp [step, hc]
          unfold run at e2 ⊢
          rw [e3] at e2
          rw [e1, e2, he]
          cases (dg (c :: t)).isEmpty <;> simp

theorem A5 (L : List UInt8) (i : Nat) (l : List UInt8) (hl : L.drop i = l) (σ : St) (h : σ.st = 5) (he : σ.eneg = false) (whole frac : List UInt8) (hm : σ.mant = whole ++ frac) (hn : σ.nf = frac.length) :
    acc L (run i l σ) = pTail σ.neg whole (frac ++ dg l) (rs l) := by
  induction l generalizing i σ frac with
  | nil =>
    unfold run acc
    simp [h, accepts, dg, rs, pTail, isE, pEnd]
    rw [pFin_eq L σ whole frac hm hn]
    simp [mExp, h]
  | cons c t ih =>
    have hl' : L.drop (i + 1) = t := by rw [← List.drop_drop, hl]; rfl
    cases hc : isD c
    · rw [dg_no hc, rs_no hc, List.append_nil]
      cases hE : isEc c
      · have e : step i c σ = none := by simp [step, h, hc, hE]
        have e2 : isE (c :: t) = false := hE
        unfold run; rw [e]; unfold pTail pEnd; rw [e2]; rfl
      · have e : step i c σ = some { σ with st := 6 } := by simp [step, h, hc, hE]
        have e2 : isE (c :: t) = true := hE
        unfold run; rw [e]; simp only
        rw [A6 L (i + 1) t hl' { σ with st := 6 } rfl he whole frac hm hn]
        unfold pTail; rw [e2]; rfl
    · have e : step i c σ = some { σ with mant := σ.mant ++ [c], nf := σ.nf + 1, st := 5 } := by simp [step, h, hc]
      unfold run; rw [e]; simp only
      rw [ih (i + 1) hl' { σ with mant := σ.mant ++ [c], nf := σ.nf + 1, st := 5 } rfl he (frac ++ [c]) (by simp [hm]) (by simp [hn]), dg_yes hc, rs_yes hc]
      simp

theorem A4 (L : List UInt8) (i : Nat) (l : List UInt8) (hl : L.drop i = l) (σ : St) (h : σ.st = 4) (he : σ.eneg = false) (whole : List UInt8) (hm : σ.mant = whole) (hn : σ.nf = 0) :
    acc L (run i l σ) = if (dg l).isEmpty then none else pTail σ.neg whole (dg l) (rs l) := by
  cases l with
  | nil => unfold run acc; simp [h, accepts, dg]
  | cons c t =>
    have hl' : L.drop (i + 1) = t := by rw [← List.drop_drop, hl]; rfl
    cases hc : isD c
    · have e : step i c σ = none := by simp [step, h, hc]
      unfold run; rw [e, dg_no hc]; rfl
    · have e : step i c σ = some { σ with mant := σ.mant ++ [c], nf := σ.nf + 1, st := 5 } := by simp [step, h, hc]
      unfold run; rw [e]; simp only
      rw [A5 L (i + 1) t hl' { σ with mant := σ.mant ++ [c], nf := σ.nf + 1, st := 5 } rfl he whole [c] (by simp [hm]) (by simp [hn]), dg_yes hc, rs_yes hc]
      simp

theorem hasH_46 (c : UInt8) (t : List UInt8) : hasH 46 (c :: t) = decide (c.toNat = 46) := by
  unfold hasH
  rw [Bool.eq_iff_iff]; simp [← UInt8.toNat_inj]

/-- Behind the whole part, at no digit: '.', 'e' or the end. -/
theorem A23 (L : List UInt8) (i : Nat) (l : List UInt8) (hl : L.drop i = l) (σ : St) (h : σ.st = 2 ∨ σ.st = 3) (he : σ.eneg = false) (hn : σ.nf = 0) (hd : dg l = []) :
    acc L (run i l σ) = pFrac σ.neg σ.mant l := by
  cases l with
  | nil =>
    have ha : accepts σ.st = true := by rcases h with h | h <;> simp [h, accepts]
    have hx : ¬ σ.st = 8 := by omega
    unfold run acc
    simp only [ha, if_true]
    rw [pFin_eq L σ σ.mant [] (by simp) (by simp [hn])]
    simp [pFrac, hasH, pTail, isE, pEnd, mExp, hx]
  | cons c t =>
    have hl' : L.drop (i + 1) = t := by rw [← List.drop_drop, hl]; rfl
    have hc : isD c = false := by
      cases hc : isD c
      · rfl
      · rw [dg_yes hc] at hd; cases hd
    unfold pFrac
    rw [hasH_46]
    by_cases c46 : c.toNat = 46
    · have e : step i c σ = some { σ with st := 4 } := by rcases h with h | h <;> simp [step, h, hc, c46]
      unfold run; rw [e]; simp only
      rw [A4 L (i + 1) t hl' { σ with st := 4 } rfl he σ.mant rfl hn]
      simp [c46]
    · cases hE : isEc c
      · have e : step i c σ = none := by rcases h with h | h <;> simp [step, h, hc, c46, hE]
        have e2 : isE (c :: t) = false := hE
        unfold run; rw [e]; simp [c46, acc, pTail, e2, pEnd]
      · have e : step i c σ = some { σ with st := 6 } := by rcases h with h | h <;> simp [step, h, hc, c46, hE]
        have e2 : isE (c :: t) = true := hE
        unfold run; rw [e]; simp only
        rw [A6 L (i + 1) t hl' { σ with st := 6 } rfl he σ.mant [] (by simp) (by simp [hn])]
        simp [c46, pTail, e2]
        rfl

theorem A3 (L : List UInt8) (i : Nat) (l : List UInt8) (hl : L.drop i = l) (σ : St) (h : σ.st = 3) (he : σ.eneg = false) (hn : σ.nf = 0) :
    acc L (run i l σ) = pFrac σ.neg (σ.mant ++ dg l) (rs l) := by
  induction l generalizing i σ with
  | nil => rw [A23 L i [] hl σ (Or.inr h) he hn rfl]; simp [dg, rs]
  | cons c t ih =>
    have hl' : L.drop (i + 1) = t := by rw [← List.drop_drop, hl]; rfl
    cases hc : isD c
    · rw [A23 L i _ hl σ (Or.inr h) he hn (dg_no hc), dg_no hc, rs_no hc]; simp
    · have e : step i c σ = some { σ with mant := σ.mant ++ [c], st := 3 } := by simp [step, h, hc]
      unfold run; rw [e]; simp only
      rw [ih (i + 1) hl' { σ with mant := σ.mant ++ [c], st := 3 } rfl he hn, dg_yes hc, rs_yes hc]
      simp

theorem A2 (L : List UInt8) (i : Nat) (l : List UInt8) (hl : L.drop i = l) (σ : St) (h : σ.st = 2) (he : σ.eneg = false) (hn : σ.nf = 0) :
    acc L (run i l σ) = if (dg l).isEmpty then pFrac σ.neg σ.mant (rs l) else none := by
  cases l with
  | nil => rw [A23 L i [] hl σ (Or.inl h) he hn rfl]; simp [dg, rs]
  | cons c t =>
    cases hc : isD c
    · rw [A23 L i _ hl σ (Or.inl h) he hn (dg_no hc), dg_no hc, rs_no hc]; simp
    · have hx := isD_not hc
      have e : step i c σ = none := by simp [step, h, hx, isEc]
      unfold run; rw [e, dg_yes hc]; rfl

theorem A1 (L : List UInt8) (i : Nat) (l : List UInt8) (hl : L.drop i = l) (σ : St) (h : σ.st = 1 ∨ (σ.st = 0 ∧ hasH 45 l = false)) (he : σ.eneg = false) (hn : σ.nf = 0) (hm : σ.mant = []) :
    acc L (run i l σ) = if badWhole (dg l) then none else pFrac σ.neg (dg l) (rs l) := by
  cases l with
  | nil =>
    have ha : accepts σ.st = false := by rcases h with h | h <;> simp [h, accepts]
    unfold run acc; simp [ha, dg, badWhole]
  | cons c t =>
    have hl' : L.drop (i + 1) = t := by rw [← List.drop_drop, hl]; rfl
    have h01 : σ.st = 0 ∨ σ.st = 1 := by rcases h with h | h <;> simp [h]
    have h45 : ¬ (σ.st = 0 ∧ c.toNat = 45) := by
      rintro ⟨h1, h2⟩
      rcases h with h | ⟨_, h⟩
      · omega
      · have : c = 45 := UInt8.toNat_inj.1 (by rw [h2]; rfl)
        rw [this] at h; cases h
    by_cases c48 : c.toNat = 48
    · have hc : isD c = true := by simp [isD, c48]
      have e : step i c σ = some { σ with mant := [c], st := 2 } := by simp only [step, if_pos h01, if_neg h45, if_pos c48, hm, List.nil_append]
      unfold run; rw [e]; simp only
      rw [A2 L (i + 1) t hl' { σ with mant := [c], st := 2 } rfl he hn, dg_yes hc, rs_yes hc]
      cases hd : dg t with
      | nil => simp [badWhole]
      | cons a b => simp [badWhole, c48]
    · cases hc : isD c
      · have e : step i c σ = none := by simp only [step, if_pos h01, if_neg h45, if_neg c48, hc]; rfl
        unfold run; rw [e, dg_no hc]; rfl
      · have e : step i c σ = some { σ with mant := [c], st := 3 } := by simp only [step, if_pos h01, if_neg h45, if_neg c48, hc, hm, List.nil_append, if_true]
        unfold run; rw [e]; simp only
        rw [A3 L (i + 1) t hl' { σ with mant := [c], st := 3 } rfl he hn, dg_yes hc, rs_yes hc]
        simp [badWhole, c48]

/-- THE PLAIN LAW: the automaton reads what parseDecimal reads. -/
theorem dec_eq (L : List UInt8) : mDec L = pDec L := by
  unfold mDec pDec
  cases h : hasH 45 L
  · rw [A1 L 0 L rfl st0 (Or.inr ⟨rfl, h⟩) rfl rfl rfl]
    unfold cutH; rw [h]; rfl
  · cases L with
    | nil => cases h
    | cons c t =>
      have h2 : c.toNat = 45 := by
        unfold hasH at h; simp at h; rw [h]; rfl
      have e : step 0 c st0 = some { st0 with neg := true, st := 1 } := by simp [step, st0, h2]
      unfold run; rw [e]; simp only
      rw [A1 (c :: t) 1 t rfl { st0 with neg := true, st := 1 } (Or.inl rfl) rfl rfl rfl]
      unfold cutH; rw [h]; rfl
end Go.Proofs.Qxb6603029aDoor.Pl
