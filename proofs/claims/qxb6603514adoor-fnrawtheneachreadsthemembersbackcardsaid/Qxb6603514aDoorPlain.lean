/-
  Plain: quoting a string, compacting a text (by string ends; by one pass). No Go in sight.
-/
import Derived.Shelf.Unicode.DecodeLastEight
namespace Go.Proofs.Qxb6603514aDoor.Pl
open Go

/-! ### AppendString -/
def hexS : List UInt8 := [48, 49, 50, 51, 52, 53, 54, 55, 56, 57, 97, 98, 99, 100, 101, 102]
def hex (k : Nat) : UInt8 := hexS.getD k 0
def esc (c : UInt8) : List UInt8 :=
  if c.toNat = 34 ∨ c.toNat = 92 then [92, c]
  else if c.toNat = 10 then [92, 110]
  else if c.toNat = 13 then [92, 114]
  else if c.toNat = 9 then [92, 116]
  else if c.toNat = 8 then [92, 98]
  else if c.toNat = 12 then [92, 102]
  else if c.toNat < 32 then [92, 117, 48, 48, hex (c.toNat / 16), hex (c.toNat % 16)]
  else [c]
theorem esc_len (c : UInt8) : (esc c).length ≤ 6 := by
  unfold esc
  repeat' split
  all_goals simp
def wide (r n : Nat) (raw : List UInt8) : List UInt8 :=
  if r = 65533 ∧ n = 1 then [92, 117, 102, 102, 102, 100]
  else if r = 8232 ∨ r = 8233 then [92, 117, 50, 48, 50, hex (r % 16)]
  else raw
theorem wide_len (r n : Nat) (raw : List UInt8) (h1 : 1 ≤ n) (hr : raw.length ≤ n) : (wide r n raw).length ≤ 6 * n := by
  unfold wide
  repeat' split
  · simp only [List.length_cons, List.length_nil]; omega
  · simp only [List.length_cons, List.length_nil]; omega
  · omega
def dec (s : ByteArray) (i : Nat) : Nat × Nat := Lib.decodeGo (s.extract i s.size)
theorem decodeN_pos (n b0 b1 b2 b3 : Nat) : 1 ≤ (Lib.decodeN n b0 b1 b2 b3).2 := by
  unfold Lib.decodeN
  repeat' split
  all_goals simp
theorem ext_size (s : ByteArray) (i : Nat) (h : i < s.size) : (s.extract i s.size).size = s.size - i := by
  rw [ByteArray.size_extract]; omega
theorem dec_pos (s : ByteArray) (i : Nat) (h : i < s.size) : 1 ≤ (dec s i).2 := by
  have := ext_size s i h
  unfold dec Lib.decodeGo
  rw [if_neg (by omega), Lib.decode_at]
  exact decodeN_pos _ _ _ _ _
theorem dec_le (s : ByteArray) (i : Nat) (h : i < s.size) : i + (dec s i).2 ≤ s.size := by
  have := Lib.decodeGo_le_size (s.extract i s.size)
  rw [ext_size s i h] at this
  unfold dec
  omega
def body (s : ByteArray) (i : Nat) : List UInt8 :=
  if h : i < s.size then
    if s[i].toNat < 128 then esc s[i] ++ body s (i + 1)
    else wide (dec s i).1 (dec s i).2 (s.extract i (i + (dec s i).2)).data.toList ++ body s (i + max 1 (dec s i).2)
  else []
termination_by s.size - i
def quote (s : ByteArray) : List UInt8 := 34 :: (body s 0 ++ [34])
theorem body_low (s : ByteArray) (i : Nat) (h : i < s.size) (hc : s[i].toNat < 128) : body s i = esc s[i] ++ body s (i + 1) := by
  rw [body, dif_pos h, if_pos hc]
theorem body_high (s : ByteArray) (i : Nat) (h : i < s.size) (hc : ¬ s[i].toNat < 128) : body s i = wide (dec s i).1 (dec s i).2 (s.extract i (i + (dec s i).2)).data.toList ++ body s (i + (dec s i).2) := by
  have := dec_pos s i h
  rw [body, dif_pos h, if_neg hc, show max 1 (dec s i).2 = (dec s i).2 by omega]
theorem body_end (s : ByteArray) (i : Nat) (h : ¬ i < s.size) : body s i = [] := by rw [body, dif_neg h]
theorem body_len (s : ByteArray) (i : Nat) : (body s i).length ≤ 6 * (s.size - i) := by
  rw [body]
  split
  · rename_i h
    split
    · have := body_len s (i + 1)
      have := esc_len s[i]
      rw [List.length_append]; omega
    · have h1 := dec_pos s i h
      have h2 := dec_le s i h
      have h3 := body_len s (i + max 1 (dec s i).2)
      have h4 := wide_len (dec s i).1 (dec s i).2 (s.extract i (i + (dec s i).2)).data.toList h1 (by
        have : (s.extract i (i + (dec s i).2)).data.toList.length = (s.extract i (i + (dec s i).2)).size := rfl
        rw [this, ByteArray.size_extract]; omega)
      rw [List.length_append]; omega
  · simp
termination_by s.size - i
theorem quote_len (s : ByteArray) : (quote s).length ≤ 6 * s.size + 2 := by
  have := body_len s 0
  unfold quote
  simp only [List.length_cons, List.length_append, List.length_nil]
  omega

/-! ### the compact text, by string ends -/
def ws (c : UInt8) : Bool := decide (c.toNat = 32) || decide (c.toNat = 9) || decide (c.toNat = 10) || decide (c.toNat = 13)
/-- The bytes of a string behind its opening quote, its closing quote among them (all, if none), and what follows. -/
def str : List UInt8 → List UInt8 × List UInt8
  | [] => ([], [])
  | c :: t =>
    if c.toNat = 92 then match t with
      | [] => ([c], [])
      | d :: u => (c :: d :: (str u).1, (str u).2)
    else if c.toNat = 34 then ([c], t)
    else (c :: (str t).1, (str t).2)
theorem str_close (c : UInt8) (t : List UInt8) (h : c.toNat = 34) : str (c :: t) = ([c], t) := by
  rw [str.eq_def]; simp [h]
theorem str_other (c : UInt8) (t : List UInt8) (h1 : ¬ c.toNat = 92) (h2 : ¬ c.toNat = 34) : str (c :: t) = (c :: (str t).1, (str t).2) := by
  rw [str.eq_def]; simp only [h1, h2, if_false]
theorem str_len : ∀ (n : Nat) (l : List UInt8), l.length ≤ n → (str l).1.length + (str l).2.length = l.length
  | _, [], _ => rfl
  | 0, c :: t, h => by simp at h
  | n + 1, c :: t, h => by
    have h' : t.length ≤ n := by simpa using h
    unfold str
    split
    · cases t with
      | nil => rfl
      | cons d u =>
        have := str_len n u (by simp at h'; omega)
        simp only [List.length_cons]; omega
    · split
      · simp; omega
      · have := str_len n t h'
        simp only [List.length_cons]; omega
theorem str_app : ∀ (n : Nat) (l : List UInt8), l.length ≤ n → (str l).1 ++ (str l).2 = l
  | _, [], _ => rfl
  | 0, c :: t, h => by simp at h
  | n + 1, c :: t, h => by
    have h' : t.length ≤ n := by simpa using h
    unfold str
    split
    · cases t with
      | nil => rfl
      | cons d u =>
        have := str_app n u (by simp at h'; omega)
        simp only [List.cons_append, this]
    · split
      · rfl
      · have := str_app n t h'
        simp only [List.cons_append, this]
/-- Without the white space outside strings. -/
def comp (l : List UInt8) : List UInt8 :=
  match l with
  | [] => []
  | c :: t =>
    if ws c then comp t
    else if c.toNat = 34 then c :: ((str t).1 ++ comp (str t).2)
    else c :: comp t
termination_by l.length
decreasing_by
  all_goals simp_wf
  have := str_len t.length t (Nat.le_refl _)
  omega

/-! ### the compact text, by one pass -/
/-- inStr, esc -/
def mach : Bool → Bool → List UInt8 → List UInt8
  | _, _, [] => []
  | true, true, c :: t => c :: mach true false t
  | true, false, c :: t => if c.toNat = 92 then c :: mach true true t else if c.toNat = 34 then c :: mach false false t else c :: mach true false t
  | false, e, c :: t => if ws c then mach false e t else if c.toNat = 34 then c :: mach true e t else c :: mach false e t
theorem mach_str : ∀ (n : Nat) (l : List UInt8), l.length ≤ n → (str l).1 ++ mach false false (str l).2 = mach true false l
  | _, [], _ => rfl
  | 0, c :: t, h => by simp at h
  | n + 1, c :: t, h => by
    have h' : t.length ≤ n := by simpa using h
    by_cases h1 : c.toNat = 92
    · cases t with
      | nil => simp [str, mach, h1]
      | cons d u =>
        have := mach_str n u (by simp at h'; omega)
        simp [str, mach, h1, this]
    · by_cases h2 : c.toNat = 34
      · rw [str_close c t h2]; simp [mach, h2]
      · have := mach_str n t h'
        rw [str_other c t h1 h2]; simp [mach, h1, h2, this]
/-- THE PLAIN LAW. -/
theorem comp_mach (l : List UInt8) : comp l = mach false false l := by
  match l with
  | [] => rw [comp]; rfl
  | c :: t =>
    rw [comp]
    unfold mach
    by_cases h1 : ws c
    · rw [if_pos h1, if_pos h1, comp_mach t]
    · rw [if_neg h1, if_neg h1]
      by_cases h2 : c.toNat = 34
      · rw [if_pos h2, if_pos h2, comp_mach (str t).2, mach_str t.length t (Nat.le_refl _)]
      · rw [if_neg h2, if_neg h2, comp_mach t]
termination_by l.length
decreasing_by
  all_goals simp_wf
  have := str_len t.length t (Nat.le_refl _)
  omega
theorem mach_len (a b : Bool) (l : List UInt8) : (mach a b l).length ≤ l.length := by
  induction l generalizing a b with
  | nil => cases a <;> cases b <;> simp [mach]
  | cons c t ih =>
    cases a with
    | false =>
      unfold mach
      have := ih false b
      have := ih true b
      repeat' split
      all_goals simp only [List.length_cons]
      all_goals omega
    | true =>
      cases b with
      | false =>
        unfold mach
        have := ih true true
        have := ih false false
        have := ih true false
        repeat' split
        all_goals simp only [List.length_cons]
        all_goals omega
      | true =>
        unfold mach
        have := ih true false
        simp only [List.length_cons]
        omega
/-- What is written for a text. -/
def val (l : List UInt8) : List UInt8 := if l.length = 0 then [110, 117, 108, 108] else mach false false l
theorem val_len (l : List UInt8) : (val l).length ≤ l.length + 4 := by
  have := mach_len false false l
  unfold val
  split
  · simp
  · omega
end Go.Proofs.Qxb6603514aDoor.Pl
