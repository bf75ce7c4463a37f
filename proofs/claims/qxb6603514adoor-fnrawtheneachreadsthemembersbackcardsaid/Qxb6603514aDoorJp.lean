/-
  Plain: the strict reader of JSON, on what is left of a text.
-/
import Derived.Test.Qxb6603514aDoorPlain
namespace Go.Proofs.Qxb6603514aDoor.Pj
open Go
def skip : List UInt8 → List UInt8
  | [] => []
  | c :: t => if Pl.ws c then skip t else c :: t
def dig (c : UInt8) : Bool := decide (48 ≤ c.toNat) && decide (c.toNat ≤ 57)
def hex (c : UInt8) : Bool := decide (48 ≤ c.toNat ∧ c.toNat ≤ 57) || decide (97 ≤ c.toNat ∧ c.toNat ≤ 102) || decide (65 ≤ c.toNat ∧ c.toNat ≤ 70)
def esc1 (c : UInt8) : Bool := decide (c.toNat = 34) || decide (c.toNat = 92) || decide (c.toNat = 47) || decide (c.toNat = 98) || decide (c.toNat = 102) || decide (c.toNat = 110) || decide (c.toNat = 114) || decide (c.toNat = 116)
/-- four hexadecimal digits -/
def four : List UInt8 → Option (List UInt8)
  | a :: b :: c :: d :: v => if hex a && hex b && hex c && hex d then some v else none
  | _ => none
theorem four_len {l r : List UInt8} (h : four l = some r) : r.length + 4 = l.length := by
  unfold four at h
  split at h
  · split at h
    · cases h; simp
    · cases h
  · cases h
/-- The string's rest, behind its opening quote. -/
def sbody (l : List UInt8) : Option (List UInt8) :=
  match l with
  | [] => none
  | c :: t =>
    if c.toNat = 34 then some t
    else if c.toNat < 32 then none
    else if c.toNat ≠ 92 then sbody t
    else match t with
      | [] => none
      | e :: u =>
        if e.toNat = 117 then match h : four u with
          | none => none
          | some v => have := four_len h; sbody v
        else if esc1 e then sbody u else none
termination_by l.length
decreasing_by all_goals (simp_wf; try omega)
def strR : List UInt8 → Option (List UInt8)
  | [] => none
  | c :: t => if c.toNat = 34 then sbody t else none
def litR (w l : List UInt8) : Option (List UInt8) := if w <+: l then some (l.drop w.length) else none
def digs : List UInt8 → List UInt8
  | [] => []
  | c :: t => if dig c then digs t else c :: t
def hd (p : UInt8 → Bool) : List UInt8 → Bool
  | [] => false
  | c :: _ => p c
def expD (l : List UInt8) : Option (List UInt8) := if hd dig l then some (digs l) else none
def expS (l : List UInt8) : Option (List UInt8) :=
  match l with
  | [] => none
  | d :: v => if d.toNat = 43 ∨ d.toNat = 45 then expD v else expD (d :: v)
def expR (l : List UInt8) : Option (List UInt8) :=
  match l with
  | [] => some []
  | c :: t => if c.toNat = 101 ∨ c.toNat = 69 then expS t else some (c :: t)
def fracR (l : List UInt8) : Option (List UInt8) :=
  match l with
  | [] => expR []
  | c :: t => if c.toNat = 46 then (if hd dig t then expR (digs t) else none) else expR (c :: t)
def intR (l : List UInt8) : Option (List UInt8) :=
  match l with
  | [] => none
  | c :: t => if c.toNat = 48 then fracR t else if 49 ≤ c.toNat ∧ c.toNat ≤ 57 then fracR (digs (c :: t)) else none
def numR (l : List UInt8) : Option (List UInt8) :=
  match l with
  | [] => none
  | c :: t => if c.toNat = 45 then intR t else intR (c :: t)
def cl (op : UInt8) : UInt8 := if op.toNat = 123 then 125 else 93
/-- One item, read by V; the white space behind it is skipped. -/
def item (V : List UInt8 → Option (Nat × List UInt8)) (op : UInt8) (l : List UInt8) : Option (List UInt8) :=
  if op.toNat = 123 then match strR l with
    | none => none
    | some l1 => match skip l1 with
      | [] => none
      | c :: l2 => if c.toNat = 58 then (V (skip l2)).map (fun p => skip p.2) else none
  else (V l).map (fun p => skip p.2)
def loopF (V : List UInt8 → Option (Nat × List UInt8)) (op : UInt8) : Nat → List UInt8 → Option (List UInt8)
  | 0, _ => none
  | _ + 1, [] => none
  | m + 1, d :: l => match item V op (d :: l) with
    | none => none
    | some [] => none
    | some (c :: t) => if c = cl op then some t else if c.toNat = 44 then loopF V op m (skip t) else none
def conF (V : List UInt8 → Option (Nat × List UInt8)) (op : UInt8) (l : List UInt8) : Option (List UInt8) :=
  match skip l with
  | [] => none
  | c :: t => if c = cl op then some t else loopF V op (t.length + 1) (c :: t)
def valF : Nat → List UInt8 → Option (Nat × List UInt8)
  | 0, _ => none
  | _ + 1, [] => none
  | n + 1, c :: t =>
    if c.toNat = 34 then (strR (c :: t)).map (fun r => (4, r))
    else if c.toNat = 116 then (litR [116, 114, 117, 101] (c :: t)).map (fun r => (2, r))
    else if c.toNat = 102 then (litR [102, 97, 108, 115, 101] (c :: t)).map (fun r => (2, r))
    else if c.toNat = 110 then (litR [110, 117, 108, 108] (c :: t)).map (fun r => (1, r))
    else if c.toNat = 91 then (conF (valF n) c t).map (fun r => (5, r))
    else if c.toNat = 123 then (conF (valF n) c t).map (fun r => (6, r))
    else (numR (c :: t)).map (fun r => (3, r))
end Go.Proofs.Qxb6603514aDoor.Pj
