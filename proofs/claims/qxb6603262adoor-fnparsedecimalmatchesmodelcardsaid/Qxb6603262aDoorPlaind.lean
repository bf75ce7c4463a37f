/-
  Plain: searching a number's text for its first and its last digit that is no '0'. No Go in sight.
-/
import Derived.Test.Qxb6603262aDoorPlainc
namespace Go.Proofs.Qxb6603262aDoor.Pl

/-- All bytes of the text from a to b are '0'. -/
def Z (p : Parts) (a b : Nat) : Prop := ∀ i, a ≤ i → i < b → p.text[i]? = some 48
theorem Z.nil (p : Parts) (a : Nat) : Z p a a := fun i h1 h2 => by omega
theorem Z.snoc {p : Parts} {a b : Nat} (h : Z p a b) (hb : p.text[b]? = some 48) : Z p a (b + 1) := fun i h1 h2 => by
  rcases Nat.lt_or_ge i b with h3 | h3
  · exact h i h1 h3
  · have : i = b := by omega
    subst this; exact hb
theorem Z.cons {p : Parts} {a b : Nat} (h : Z p (a + 1) b) (hb : p.text[a]? = some 48) : Z p a b := fun i h1 h2 => by
  rcases Nat.lt_or_ge a i with h3 | h3
  · exact h i h3 h2
  · have : i = a := by omega
    subst this; exact hb
theorem M_len (p : Parts) : p.M.length = p.W.length + p.F.length := by unfold Parts.M; simp
theorem M48 {p : Parts} (hp : p.Ok) {j : Nat} (hj : j < p.M.length) (h : p.text[p.pos j]? = some 48) : (p.M[j] == 48) = true := by
  have := get_M hp j hj
  rw [h] at this
  simp at this; rw [← this]; rfl
theorem M48n {p : Parts} (hp : p.Ok) {j : Nat} (hj : j < p.M.length) {c : UInt8} (h : p.text[p.pos j]? = some c) (hc : c ≠ 48) : (p.M[j] == 48) = false := by
  have := get_M hp j hj
  rw [h] at this
  simp at this; rw [← this]; simpa using hc
theorem pos_in {p : Parts} (hp : p.Ok) {j : Nat} (hj : j < p.M.length) : (j < p.W.length ∧ p.pos j = p.ws + j) ∨ (p.W.length ≤ j ∧ p.pos j = p.fs + (j - p.W.length) ∧ j - p.W.length < p.F.length) := by
  rw [M_len] at hj
  rcases Nat.lt_or_ge j p.W.length with h | h
  · exact Or.inl ⟨h, pos_W p h⟩
  · refine Or.inr ⟨h, ?_, by omega⟩
    have := pos_F hp (j := j - p.W.length) (by omega)
    rwa [show p.W.length + (j - p.W.length) = j by omega] at this

/-- f is the index of the mantissa's first digit that is no '0'. -/
def First (p : Parts) (f : Nat) : Prop := f < p.M.length ∧ (∀ j (hj : j < p.M.length), j < f → (p.M[j] == 48) = true) ∧ (∀ h : f < p.M.length, (p.M[f] == 48) = false)
def Last (p : Parts) (g : Nat) : Prop := ∃ hg : g < p.M.length, (p.M[g] == 48) = false ∧ ∀ i (hi : i < p.M.length), g < i → (p.M[i] == 48) = true

theorem we_eq (p : Parts) : p.we = p.ws + p.W.length := rfl
theorem fe_eq (p : Parts) : p.fe = p.fs + p.F.length := rfl
theorem firstW {p : Parts} (hp : p.Ok) {k : Nat} {c : UInt8} (h1 : p.ws ≤ k) (h2 : k < p.we) (hz : Z p p.ws k) (hc : p.text[k]? = some c) (hn : c ≠ 48) : ∃ f, First p f ∧ p.pos f = k ∧ (p.W.length : Int) - f = (p.we : Int) - k := by
  have hw := we_eq p
  have hf : k - p.ws < p.W.length := by omega
  have hpos : p.pos (k - p.ws) = k := by rw [pos_W p hf]; omega
  have hM : k - p.ws < p.M.length := by rw [M_len]; omega
  refine ⟨k - p.ws, ⟨hM, fun j hj hjf => M48 hp hj (by rw [pos_W p (by omega)]; exact hz _ (by omega) (by omega)), fun h => M48n hp h (by rw [hpos]; exact hc) hn⟩, hpos, by omega⟩
theorem firstF {p : Parts} (hp : p.Ok) {k : Nat} {c : UInt8} (h1 : p.fs ≤ k) (h2 : k < p.fe) (hzw : Z p p.ws p.we) (hz : Z p p.fs k) (hc : p.text[k]? = some c) (hn : c ≠ 48) : ∃ f, First p f ∧ p.pos f = k ∧ (p.W.length : Int) - f = -((k : Int) - p.fs) := by
  have hw := we_eq p
  have hw2 := fe_eq p
  have hk : k - p.fs < p.F.length := by omega
  have hpos : p.pos (p.W.length + (k - p.fs)) = k := by rw [pos_F hp hk]; omega
  have hM : p.W.length + (k - p.fs) < p.M.length := by rw [M_len]; omega
  refine ⟨p.W.length + (k - p.fs), ⟨hM, fun j hj hjf => M48 hp hj ?_, fun h => M48n hp h (by rw [hpos]; exact hc) hn⟩, hpos, by omega⟩
  rcases pos_in hp hj with ⟨h3, h4⟩ | ⟨h3, h4, h5⟩
  · rw [h4]; exact hzw _ (by omega) (by omega)
  · rw [h4]; exact hz _ (by omega) (by omega)
theorem firstN {p : Parts} (hp : p.Ok) (hzw : Z p p.ws p.we) (hz : Z p p.fs p.fe) : p.res = ⟨0, [], 0⟩ := by
  have hw := we_eq p
  have hw2 := fe_eq p
  refine res_zero' fun j hj => M48 hp hj ?_
  rcases pos_in hp hj with ⟨h3, h4⟩ | ⟨h3, h4, h5⟩
  · rw [h4]; exact hzw _ (by omega) (by omega)
  · rw [h4]; exact hz _ (by omega) (by omega)
theorem lastF {p : Parts} (hp : p.Ok) {k : Nat} {c : UInt8} (h1 : p.fs ≤ k) (h2 : k < p.fe) (hz : Z p (k + 1) p.fe) (hc : p.text[k]? = some c) (hn : c ≠ 48) : ∃ g, Last p g ∧ p.pos g = k := by
  have hw2 := fe_eq p
  have hk : k - p.fs < p.F.length := by omega
  have hpos : p.pos (p.W.length + (k - p.fs)) = k := by rw [pos_F hp hk]; omega
  have hM : p.W.length + (k - p.fs) < p.M.length := by rw [M_len]; omega
  refine ⟨p.W.length + (k - p.fs), ⟨hM, M48n hp hM (by rw [hpos]; exact hc) hn, fun i hi hig => M48 hp hi ?_⟩, hpos⟩
  rcases pos_in hp hi with ⟨h3, h4⟩ | ⟨h3, h4, h5⟩
  · omega
  · rw [h4]; exact hz _ (by omega) (by omega)
theorem lastW {p : Parts} (hp : p.Ok) {k : Nat} {c : UInt8} (h1 : p.ws ≤ k) (h2 : k < p.we) (hz : Z p (k + 1) p.we) (hzf : Z p p.fs p.fe) (hc : p.text[k]? = some c) (hn : c ≠ 48) : ∃ g, Last p g ∧ p.pos g = k := by
  have hw := we_eq p
  have hw2 := fe_eq p
  have hf : k - p.ws < p.W.length := by omega
  have hpos : p.pos (k - p.ws) = k := by rw [pos_W p hf]; omega
  have hM : k - p.ws < p.M.length := by rw [M_len]; omega
  refine ⟨k - p.ws, ⟨hM, M48n hp hM (by rw [hpos]; exact hc) hn, fun i hi hig => M48 hp hi ?_⟩, hpos⟩
  rcases pos_in hp hi with ⟨h3, h4⟩ | ⟨h3, h4, h5⟩
  · rw [h4]; exact hz _ (by omega) (by omega)
  · rw [h4]; exact hzf _ (by omega) (by omega)
theorem first_le_last {p : Parts} {f g : Nat} (hf : First p f) (hg : Last p g) : f ≤ g := by
  obtain ⟨h1, h2, h3⟩ := hg
  rcases Nat.lt_or_ge g f with h | h
  · have := hf.2.1 g h1 h; rw [h2] at this; cases this
  · exact h
theorem pos_le (p : Parts) {i j : Nat} (h : i ≤ j) : p.pos i ≤ p.pos j := by
  rcases Nat.lt_or_ge i j with h1 | h1
  · exact Nat.le_of_lt (pos_lt p h1)
  · have : i = j := by omega
    subst this; exact Nat.le_refl _
theorem res_fl {p : Parts} {f g : Nat} (hf : First p f) (hg : Last p g) : p.res = ⟨if p.neg then -1 else 1, (p.M.drop f).take (g + 1 - f), (p.W.length : Int) - f + p.e⟩ := by
  obtain ⟨h1, h2, h3⟩ := hg
  exact res_mid h1 (first_le_last hf ⟨h1, h2, h3⟩) hf.2.1 hf.2.2 h2 h3
end Go.Proofs.Qxb6603262aDoor.Pl
