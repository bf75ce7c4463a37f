/-
  Plain: the places of a number's parts in its text; the value by counting digits. No Go in sight.
-/
import Derived.Test.Qxb6603262aDoorPlain
namespace Go.Proofs.Qxb6603262aDoor.Pl

def Parts.ws (p : Parts) : Nat := if p.neg then 1 else 0
def Parts.we (p : Parts) : Nat := p.ws + p.W.length
def Parts.fs (p : Parts) : Nat := if p.hasF then p.we + 1 else p.we
def Parts.fe (p : Parts) : Nat := p.fs + p.F.length
def Parts.xs (p : Parts) : Nat := p.fe + 1 + p.sg.length
def Parts.pos (p : Parts) (j : Nat) : Nat := if j < p.W.length then p.ws + j else p.ws + j + 1

theorem sn_len (p : Parts) : p.sn.length = p.ws := by unfold Parts.sn Parts.ws; split <;> rfl
theorem drop_ws (p : Parts) : p.text.drop p.ws = p.W ++ (p.fp ++ p.ep) := by
  unfold Parts.text; rw [List.drop_append_of_le_length (by rw [sn_len]; exact Nat.le_refl _), List.drop_of_length_le (by rw [sn_len]; exact Nat.le_refl _)]; rfl
theorem drop_we (p : Parts) : p.text.drop p.we = p.fp ++ p.ep := by
  unfold Parts.we
  rw [← List.drop_drop, drop_ws, List.drop_left]
theorem fp_len {p : Parts} (hp : p.Ok) : p.we + p.fp.length = p.fe := by
  unfold Parts.fe Parts.fs Parts.fp
  cases h : p.hasF
  · simp [hp.f0 h]
  · simp; omega
theorem drop_fs {p : Parts} (h : p.hasF = true) : p.text.drop p.fs = p.F ++ p.ep := by
  unfold Parts.fs
  rw [if_pos h, ← List.drop_drop, drop_we]
  unfold Parts.fp; rw [if_pos h]; rfl
theorem drop_fe {p : Parts} (hp : p.Ok) : p.text.drop p.fe = p.ep := by
  rw [← fp_len hp, ← List.drop_drop, drop_we, List.drop_left]
theorem text_len {p : Parts} (hp : p.Ok) : p.text.length = p.fe + p.ep.length := by
  have h : p.text.length = p.sn.length + (p.W.length + (p.fp.length + p.ep.length)) := by unfold Parts.text; simp
  rw [h, sn_len, ← fp_len hp]; unfold Parts.we; omega
theorem drop_x1 {p : Parts} (hp : p.Ok) (h : p.hasE = true) : p.text.drop (p.fe + 1) = p.sg ++ p.X := by
  rw [← List.drop_drop, drop_fe hp]; unfold Parts.ep; rw [if_pos h]; rfl
theorem drop_xs {p : Parts} (hp : p.Ok) (h : p.hasE = true) : p.text.drop p.xs = p.X := by
  unfold Parts.xs; rw [← List.drop_drop, drop_x1 hp h, List.drop_left]
theorem len_xs {p : Parts} (hp : p.Ok) (h : p.hasE = true) : p.text.length = p.xs + p.X.length := by
  rw [text_len hp]; unfold Parts.ep Parts.xs; rw [if_pos h]; simp; omega
theorem ep_noD {p : Parts} (hp : p.Ok) : noD p.ep := by
  unfold Parts.ep
  cases h : p.hasE
  · trivial
  · have := hp.e1 h
    show isD p.ec = false
    unfold isEc at this
    unfold isD
    simp at this ⊢
    omega
theorem fpep_noD {p : Parts} (hp : p.Ok) : noD (p.fp ++ p.ep) := by
  unfold Parts.fp
  cases h : p.hasF
  · exact ep_noD hp
  · show isD 46 = false
    decide
theorem get_of_drop {l a b : List UInt8} {k : Nat} (h : l.drop k = a ++ b) (j : Nat) (hj : j < a.length) : l[k + j]? = some a[j] := by
  have : (l.drop k)[j]? = some a[j] := by rw [h, List.getElem?_append_left hj, List.getElem?_eq_getElem hj]
  rwa [List.getElem?_drop] at this
theorem get_W (p : Parts) (j : Nat) (hj : j < p.W.length) : p.text[p.ws + j]? = some p.W[j] := get_of_drop (drop_ws p) j hj
theorem get_F {p : Parts} (h : p.hasF = true) (j : Nat) (hj : j < p.F.length) : p.text[p.fs + j]? = some p.F[j] := get_of_drop (drop_fs h) j hj
theorem hasF_of {p : Parts} (hp : p.Ok) (h : 0 < p.F.length) : p.hasF = true := by
  cases e : p.hasF
  · rw [hp.f0 e] at h; simp at h
  · rfl
theorem get_M {p : Parts} (hp : p.Ok) (j : Nat) (hj : j < p.M.length) : p.text[p.pos j]? = some p.M[j] := by
  unfold Parts.pos
  unfold Parts.M at *
  by_cases h : j < p.W.length
  · rw [if_pos h, get_W p j h, List.getElem_append_left h]
  · rw [if_neg h]
    rw [List.length_append] at hj
    have hF := hasF_of hp (by omega)
    have e : p.ws + j + 1 = p.fs + (j - p.W.length) := by unfold Parts.fs Parts.we; rw [if_pos hF]; omega
    rw [e, get_F hF _ (by omega), List.getElem_append_right (by omega)]
theorem pos_lt (p : Parts) {i j : Nat} (h : i < j) : p.pos i < p.pos j := by unfold Parts.pos; split <;> split <;> omega
theorem pos_W (p : Parts) {j : Nat} (h : j < p.W.length) : p.pos j = p.ws + j := by unfold Parts.pos; rw [if_pos h]
theorem pos_F {p : Parts} (hp : p.Ok) {j : Nat} (h : j < p.F.length) : p.pos (p.W.length + j) = p.fs + j := by
  have hF := hasF_of hp (by omega)
  unfold Parts.pos Parts.fs Parts.we; rw [if_neg (by omega), if_pos hF]; omega

/-! ### the bytes between two places, without the point -/
def noDot (l : List UInt8) : List UInt8 := l.filter (· != 46)
theorem noDot_dig {l : List UInt8} (h : ∀ c ∈ l, isD c = true) : noDot l = l := by
  unfold noDot
  rw [List.filter_eq_self]
  intro c hc
  have := h c hc
  simp
  intro e; subst e; revert this; decide
theorem tkf {p : Parts} (hp : p.Ok) (i : Nat) (hi : i ≤ p.W.length + p.fp.length) : noDot ((p.W ++ p.fp).take i) = p.M.take (if i ≤ p.W.length then i else i - 1) := by
  by_cases h : i ≤ p.W.length
  · rw [if_pos h, List.take_append_of_le_length h, noDot_dig (fun c hc => hp.wd c (List.mem_of_mem_take hc))]
    unfold Parts.M; rw [List.take_append_of_le_length h]
  · rw [if_neg h]
    unfold Parts.fp at *
    cases hF : p.hasF
    · rw [hF] at hi; simp at hi; omega
    · simp only [if_true]
      have e : (p.W ++ 46 :: p.F).take i = p.W ++ 46 :: p.F.take (i - p.W.length - 1) := by
        rw [List.take_append, List.take_of_length_le (by omega)]
        obtain ⟨m, hm⟩ : ∃ m, i - p.W.length = m + 1 := ⟨i - p.W.length - 1, by omega⟩
        rw [hm, List.take_succ_cons]; rfl
      rw [e]
      have e2 : noDot (p.W ++ 46 :: p.F.take (i - p.W.length - 1)) = noDot p.W ++ noDot (p.F.take (i - p.W.length - 1)) := by
        unfold noDot; rw [List.filter_append]; rfl
      rw [e2, noDot_dig hp.wd, noDot_dig (fun c hc => hp.fd c (List.mem_of_mem_take hc))]
      have e3 : (p.W ++ p.F).take (i - 1) = p.W ++ p.F.take (i - 1 - p.W.length) := by rw [List.take_append, List.take_of_length_le (l := p.W) (by omega)]
      unfold Parts.M
      rw [e3, show i - p.W.length - 1 = i - 1 - p.W.length by omega]
def Parts.seg (p : Parts) (a k : Nat) : List UInt8 := noDot ((p.text.drop a).take (k - a))
theorem seg_nil (p : Parts) (a : Nat) : p.seg a a = [] := by unfold Parts.seg; simp [noDot]
theorem seg_step {p : Parts} {a k : Nat} {c : UInt8} (ha : a ≤ k) (h : p.text[k]? = some c) : p.seg a (k + 1) = p.seg a k ++ (if c = 46 then [] else [c]) := by
  unfold Parts.seg
  have hk : (p.text.drop a)[k - a]? = some c := by rw [List.getElem?_drop]; rw [show a + (k - a) = k by omega]; exact h
  rw [show k + 1 - a = (k - a) + 1 by omega, List.take_add_one, hk]
  unfold noDot
  rw [List.filter_append]
  by_cases e : c = 46
  · subst e; rfl
  · simp [e]
theorem seg_len (p : Parts) (a k : Nat) : (p.seg a k).length ≤ k - a := by
  unfold Parts.seg noDot
  exact Nat.le_trans (List.length_filter_le _ _) (List.length_take_le _ _)
theorem seg_all {p : Parts} (hp : p.Ok) {f g : Nat} (hg : g < p.M.length) (hfg : f ≤ g) : p.seg (p.pos f) (p.pos g + 1) = (p.M.drop f).take (g + 1 - f) := by
  have hT : p.text.drop p.ws = (p.W ++ p.fp) ++ p.ep := by rw [drop_ws]; simp
  have hM : p.M.length = p.W.length + p.F.length := by unfold Parts.M; simp
  have hfp : p.W.length ≤ g → p.fp.length = p.F.length + 1 := fun h => by
    have hF := hasF_of hp (by omega)
    unfold Parts.fp; rw [if_pos hF]; rfl
  have key : ∀ j, j < p.M.length → ∃ i, p.pos j = p.ws + i ∧ i + 1 ≤ p.W.length + p.fp.length ∧ noDot ((p.W ++ p.fp).take i) = p.M.take j ∧ noDot ((p.W ++ p.fp).take (i + 1)) = p.M.take (j + 1) := by
    intro j hj
    by_cases h : j < p.W.length
    · refine ⟨j, pos_W p h, by omega, ?_, ?_⟩
      · rw [tkf hp j (by omega), if_pos (by omega)]
      · rw [tkf hp (j + 1) (by omega), if_pos (by omega)]
    · have hF := hasF_of hp (by omega)
      have hl : p.fp.length = p.F.length + 1 := by unfold Parts.fp; rw [if_pos hF]; rfl
      refine ⟨j + 1, ?_, by omega, ?_, ?_⟩
      · unfold Parts.pos; rw [if_neg h]; omega
      · rw [tkf hp (j + 1) (by omega), if_neg (by omega)]; rfl
      · rw [tkf hp (j + 1 + 1) (by omega), if_neg (by omega)]; rfl
  obtain ⟨i, e1, b1, n1, _⟩ := key f (by omega)
  obtain ⟨k, e2, b2, _, n2⟩ := key g hg
  have hik : i ≤ k := by
    rcases Nat.lt_or_ge f g with h | h
    · have := pos_lt p h; omega
    · have : f = g := by omega
      subst this; omega
  have hs : p.seg (p.pos f) (p.pos g + 1) = noDot (((p.W ++ p.fp).drop i).take (k + 1 - i)) := by
    unfold Parts.seg
    rw [e1, e2, ← List.drop_drop, hT, List.drop_append_of_le_length (by simp; omega), List.take_append_of_le_length (by simp; omega)]
    congr 2; omega
  have hsp : (p.W ++ p.fp).take (k + 1) = (p.W ++ p.fp).take i ++ ((p.W ++ p.fp).drop i).take (k + 1 - i) := by
    conv => lhs; rw [show k + 1 = i + (k + 1 - i) by omega, List.take_add]
  have h3 : p.M.take (g + 1) = p.M.take f ++ noDot (((p.W ++ p.fp).drop i).take (k + 1 - i)) := by
    rw [← n2, ← n1, hsp]; unfold noDot; rw [List.filter_append]
  rw [hs]
  have h4 : p.M.take (g + 1) = p.M.take f ++ (p.M.drop f).take (g + 1 - f) := by
    conv => lhs; rw [show g + 1 = f + (g + 1 - f) by omega, List.take_add]
  rw [h4] at h3
  exact (List.append_cancel_left h3).symm

/-! ### the first and the last that is no '0' -/
theorem trL_at {l : List UInt8} {k : Nat} (h1 : ∀ j (hj : j < l.length), j < k → (l[j] == 48) = true) (h2 : ∀ h : k < l.length, (l[k] == 48) = false) : trL l = l.drop k := by
  unfold trL
  induction l generalizing k with
  | nil => simp
  | cons a t ih =>
    cases k with
    | zero => have := h2 (by simp); simp only [List.getElem_cons_zero] at this; rw [List.dropWhile_cons, this]; rfl
    | succ k =>
      have ha := h1 0 (by simp) (by omega)
      simp only [List.getElem_cons_zero] at ha
      rw [List.dropWhile_cons, ha]
      simp only [if_true, List.drop_succ_cons]
      exact ih (fun j hj hjk => by have := h1 (j + 1) (by simpa using hj) (by omega); simpa using this) (fun h => by have := h2 (by simpa using h); simpa using this)
theorem cut_mid {l : List UInt8} {m j : Nat} (hj : j < l.length) (hmj : m ≤ j) (h1 : trL l = l.drop m) (h2 : (l[j] == 48) = false) (h3 : ∀ i (hi : i < l.length), j < i → (l[i] == 48) = true) : trR (trL l) = (l.drop m).take (j + 1 - m) := by
  rw [h1]
  unfold trR
  have e : l.drop m = (l.drop m).take (j + 1 - m) ++ l.drop (j + 1) := by
    conv => lhs; rw [← List.take_append_drop (j + 1 - m) (l.drop m)]
    rw [List.drop_drop]; congr 2; omega
  have hz : ∀ x ∈ (l.drop (j + 1)).reverse, (x == 48) = true := by
    intro x hx
    rw [List.mem_reverse] at hx
    obtain ⟨i, hi, rfl⟩ := List.getElem_of_mem hx
    rw [List.getElem_drop]
    exact h3 _ _ (by omega)
  have hsn : (l.drop m).take (j + 1 - m) = (l.drop m).take (j - m) ++ [l[j]] := by
    rw [show j + 1 - m = (j - m) + 1 by omega, List.take_succ_eq_append_getElem (by rw [List.length_drop]; omega)]
    congr 2
    rw [List.getElem_drop]; congr 1; omega
  conv => lhs; rw [e]
  rw [List.reverse_append, List.dropWhile_append_of_pos hz, hsn, List.reverse_append]
  simp only [List.reverse_cons, List.reverse_nil, List.nil_append, List.cons_append]
  rw [List.dropWhile_cons_of_neg (by rw [h2]; exact Bool.false_ne_true)]
  simp
theorem res_zero' {p : Parts} (h : ∀ j (hj : j < p.M.length), (p.M[j] == 48) = true) : p.res = ⟨0, [], 0⟩ := by
  have e : trL p.M = [] := by rw [trL_at (k := p.M.length) (fun j hj _ => h j hj) (fun h => absurd h (Nat.lt_irrefl _))]; simp
  unfold Parts.res; rw [e]; rfl
theorem res_mid {p : Parts} {f g : Nat} (hg : g < p.M.length) (hfg : f ≤ g) (h1 : ∀ j (hj : j < p.M.length), j < f → (p.M[j] == 48) = true) (h1' : ∀ h : f < p.M.length, (p.M[f] == 48) = false) (h2 : (p.M[g] == 48) = false) (h3 : ∀ i (hi : i < p.M.length), g < i → (p.M[i] == 48) = true) :
    p.res = ⟨if p.neg then -1 else 1, (p.M.drop f).take (g + 1 - f), (p.W.length : Int) - f + p.e⟩ := by
  have e := trL_at h1 h1'
  have e2 := cut_mid hg hfg e h2 h3
  have hM : p.M.length = p.W.length + p.F.length := by unfold Parts.M; simp
  have hl : ((p.M.drop f).take (g + 1 - f)).length = g + 1 - f := by rw [List.length_take, List.length_drop]; omega
  unfold Parts.res
  rw [e2]
  have hne : ((p.M.drop f).take (g + 1 - f)).isEmpty = false := by
    cases h : (p.M.drop f).take (g + 1 - f) with
    | nil => rw [h] at hl; simp at hl; omega
    | cons a b => rfl
  rw [hne, e]
  simp only [Bool.false_eq_true, if_false, List.length_drop]
  congr 1
  omega

/-! ### the exponent -/
def v1 (e : Int) (c : UInt8) : Int := e * 10 + ((c.toNat : Int) - 48)
def val (l : List UInt8) : Int := l.foldl v1 0
theorem foldl_sat (l : List UInt8) (hl : ∀ c ∈ l, isD c = true) : ∀ e : Int, 0 ≤ e → l.foldl sat1 (min e 9007199254740992) = min (l.foldl v1 e) 9007199254740992 := by
  induction l with
  | nil => intro e _; rfl
  | cons c t ih =>
    intro e h0
    have hc := isD_b (hl c (List.mem_cons_self ..))
    simp only [List.foldl_cons]
    rw [← ih (fun x hx => hl x (List.mem_cons_of_mem _ hx)) (v1 e c) (by unfold v1; omega)]
    congr 1
    unfold sat1 v1; omega
theorem sat_val (l : List UInt8) (hl : ∀ c ∈ l, isD c = true) : sat l = min (val l) 9007199254740992 := foldl_sat l hl 0 (by omega)
theorem val_zero (c : UInt8) (t : List UInt8) (h : c = 48) : val (c :: t) = val t := by
  subst h; unfold val; rfl
theorem val_trL (l : List UInt8) : val (trL l) = val l := by
  unfold trL
  induction l with
  | nil => rfl
  | cons c t ih =>
    rw [List.dropWhile_cons]
    split
    · rw [ih, val_zero c t (by simpa using ‹(c == 48) = true›)]
    · rfl
theorem foldl_lo (l : List UInt8) (hl : ∀ c ∈ l, isD c = true) : ∀ e : Int, 0 ≤ e → e * (10 ^ l.length : Nat) ≤ l.foldl v1 e := by
  induction l with
  | nil => intro e _; simp
  | cons c t ih =>
    intro e h0
    have hc := isD_b (hl c (List.mem_cons_self ..))
    have := ih (fun x hx => hl x (List.mem_cons_of_mem _ hx)) (v1 e c) (by unfold v1; omega)
    simp only [List.foldl_cons, List.length_cons]
    refine Int.le_trans ?_ this
    rw [Nat.pow_succ, Int.natCast_mul, Int.mul_comm ((10 ^ t.length : Nat) : Int), ← Int.mul_assoc]
    apply Int.mul_le_mul_of_nonneg_right
    · unfold v1; omega
    · exact Int.natCast_nonneg _
theorem foldl_hi (l : List UInt8) (hl : ∀ c ∈ l, isD c = true) : ∀ e : Int, 0 ≤ e → l.foldl v1 e < (e + 1) * (10 ^ l.length : Nat) := by
  induction l with
  | nil => intro e _; simp; omega
  | cons c t ih =>
    intro e h0
    have hc := isD_b (hl c (List.mem_cons_self ..))
    have := ih (fun x hx => hl x (List.mem_cons_of_mem _ hx)) (v1 e c) (by unfold v1; omega)
    simp only [List.foldl_cons, List.length_cons]
    refine Int.lt_of_lt_of_le this ?_
    rw [Nat.pow_succ, Int.natCast_mul, Int.mul_comm ((10 ^ t.length : Nat) : Int), ← Int.mul_assoc]
    apply Int.mul_le_mul_of_nonneg_right
    · unfold v1; omega
    · exact Int.natCast_nonneg _
theorem val_bound (l : List UInt8) (hl : ∀ c ∈ l, isD c = true) (h : l.length ≤ 16) : 0 ≤ val l ∧ val l < 10000000000000000 := by
  have h1 := foldl_lo l hl 0 (by omega)
  have h2 := foldl_hi l hl 0 (by omega)
  have h3 : 10 ^ l.length ≤ 10 ^ 16 := Nat.pow_le_pow_right (by omega) h
  unfold val
  generalize 10 ^ l.length = q at *
  omega
theorem trL_head (l : List UInt8) : trL l = [] ∨ ∃ c t, trL l = c :: t ∧ c ≠ 48 := by
  unfold trL
  induction l with
  | nil => exact Or.inl rfl
  | cons c t ih =>
    rw [List.dropWhile_cons]
    split
    · exact ih
    · exact Or.inr ⟨c, t, rfl, by simpa using ‹¬(c == 48) = true›⟩
theorem trL_mem {l : List UInt8} {c : UInt8} (h : c ∈ trL l) : c ∈ l := (List.dropWhile_sublist _).mem h
theorem val_big (l : List UInt8) (hl : ∀ c ∈ l, isD c = true) (h : 16 < (trL l).length) : 9007199254740992 ≤ val l := by
  rw [← val_trL]
  rcases trL_head l with e | ⟨c, t, e, hc⟩
  · rw [e] at h; simp at h
  · rw [e] at h ⊢
    have hc2 := isD_b (hl c (trL_mem (by rw [e]; exact List.mem_cons_self ..)))
    have hc3 : c.toNat ≠ 48 := fun e => hc (UInt8.toNat_inj.1 e)
    have h1 := foldl_lo t (fun x hx => hl x (trL_mem (by rw [e]; exact List.mem_cons_of_mem _ hx))) (v1 0 c) (by unfold v1; omega)
    have h3 : 10 ^ 16 ≤ 10 ^ t.length := Nat.pow_le_pow_right (by omega) (by simp at h; omega)
    show 9007199254740992 ≤ t.foldl v1 (v1 0 c)
    have h4 : (1 : Int) * ((10 ^ t.length : Nat) : Int) ≤ v1 0 c * ((10 ^ t.length : Nat) : Int) := by
      apply Int.mul_le_mul_of_nonneg_right
      · unfold v1; omega
      · exact Int.natCast_nonneg _
    omega
theorem sat_big {l : List UInt8} (hl : ∀ c ∈ l, isD c = true) (h : 16 < (trL l).length) : sat l = 9007199254740992 := by
  rw [sat_val l hl]; have := val_big l hl h; omega
theorem sat_small {l : List UInt8} (hl : ∀ c ∈ l, isD c = true) : sat l = min (val (trL l)) 9007199254740992 := by
  rw [sat_val l hl, val_trL]
end Go.Proofs.Qxb6603262aDoor.Pl
