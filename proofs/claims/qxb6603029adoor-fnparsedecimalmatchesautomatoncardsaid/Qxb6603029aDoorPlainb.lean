/-
  Plain: what flags.parseDecimal computes, on lists of bytes. No Go in sight.
-/
import Derived.Test.Qxb6603029aDoorPlain
namespace Go.Proofs.Qxb6603029aDoor.Pl

def hasH (c : UInt8) : List UInt8 → Bool
  | [] => false
  | a :: _ => a == c
def cutH (c : UInt8) (l : List UInt8) : List UInt8 := if hasH c l then l.tail else l
def trL (l : List UInt8) : List UInt8 := l.dropWhile (· == 48)
def trR (l : List UInt8) : List UInt8 := (l.reverse.dropWhile (· == 48)).reverse

/-- A number: its sign, its significant digits, its power of ten. -/
structure Num where
  neg : Bool
  dig : List UInt8
  exp : Int

def pFin (neg : Bool) (whole frac : List UInt8) (e : Int) : Num :=
  if (trR (trL (whole ++ frac))).isEmpty then ⟨false, [], 0⟩
  else ⟨neg, trR (trL (whole ++ frac)), e - frac.length + (trL (whole ++ frac)).length - (trR (trL (whole ++ frac))).length⟩
def pEnd (neg : Bool) (whole frac : List UInt8) (e : Int) (rest : List UInt8) : Option Num :=
  if rest.isEmpty then some (pFin neg whole frac e) else none
def isE : List UInt8 → Bool
  | [] => false
  | a :: _ => decide (a.toNat = 101) || decide (a.toNat = 69)
def pTail (neg : Bool) (whole frac s : List UInt8) : Option Num :=
  if isE s then (if pExpOk s.tail then pEnd neg whole frac (pExpV s.tail) (pExpR s.tail) else none)
  else pEnd neg whole frac 0 s
def badWhole : List UInt8 → Bool
  | [] => true
  | a :: t => !t.isEmpty && decide (a.toNat = 48)
def pFrac (neg : Bool) (whole s : List UInt8) : Option Num :=
  if hasH 46 s then (if (dg s.tail).isEmpty then none else pTail neg whole (dg s.tail) (rs s.tail))
  else pTail neg whole [] s
def pDec (l : List UInt8) : Option Num :=
  if badWhole (dg (cutH 45 l)) then none else pFrac (hasH 45 l) (dg (cutH 45 l)) (rs (cutH 45 l))

theorem trL_len (l : List UInt8) : (trL l).length ≤ l.length := by
  unfold trL
  induction l with
  | nil => simp
  | cons a t ih => rw [List.dropWhile_cons]; split <;> simp <;> omega
theorem trR_len (l : List UInt8) : (trR l).length ≤ l.length := by
  unfold trR
  have := trL_len l.reverse
  unfold trL at this
  simpa using this
theorem rs_len (l : List UInt8) : (rs l).length ≤ l.length := by
  have h := congrArg List.length (dg_append l); simp at h; omega
theorem pExpV_bound (l : List UInt8) : -100000000 ≤ pExpV l ∧ pExpV l ≤ 100000000 := by
  unfold pExpV
  split
  · omega
  · have := sat_bound (dg (eBody l)) (dg_all _)
    cases l with
    | nil => simp [eSign]; omega
    | cons a t => simp only [eSign]; split <;> omega
end Go.Proofs.Qxb6603029aDoor.Pl
