/-
  Plain: what AppendString writes is a strict JSON string; string segments.
-/
import Derived.Test.Qxb6603514aDoorJi
namespace Go.Proofs.Qxb6603514aDoor.Pj
open Go
/-- Whole characters and escapes of a string. -/
structure Sg (x : List UInt8) : Prop where
  sb : ∀ t, sbody (x ++ t) = sbody t
  st : ∀ t, Pl.str (x ++ t) = (x ++ (Pl.str t).1, (Pl.str t).2)
theorem Sg.nil : Sg [] := ⟨fun _ => rfl, fun _ => rfl⟩
theorem Sg.app {x y : List UInt8} (h : Sg x) (k : Sg y) : Sg (x ++ y) :=
  ⟨fun t => by rw [List.append_assoc, h.sb, k.sb], fun t => by rw [List.append_assoc, h.st, k.st, List.append_assoc]⟩
theorem Sg.one {c : UInt8} (h1 : ¬ c.toNat = 34) (h2 : ¬ c.toNat < 32) (h3 : ¬ c.toNat = 92) : Sg [c] :=
  ⟨fun t => sb_o h1 h2 h3, fun t => by rw [List.cons_append, List.nil_append, Pl.str_other c t h3 h1]; rfl⟩
theorem str_two {c e : UInt8} {t : List UInt8} (hc : c.toNat = 92) : Pl.str (c :: e :: t) = (c :: e :: (Pl.str t).1, (Pl.str t).2) := by
  rw [Pl.str.eq_def]; simp only [hc, if_true]
theorem Sg.esc {c e : UInt8} (hc : c.toNat = 92) (he : esc1 e = true) : Sg [c, e] := by
  have h117 : ¬ e.toNat = 117 := by
    unfold esc1 at he
    simp at he
    omega
  refine ⟨fun t => ?_, fun t => ?_⟩
  · show sbody (c :: e :: t) = _
    rw [sb_b hc]
    simp only [h117, if_false, he, if_true]
  · exact str_two hc
theorem hex_plain {c : UInt8} (h : hex c = true) : ¬ c.toNat = 34 ∧ ¬ c.toNat < 32 ∧ ¬ c.toNat = 92 := by
  unfold hex at h
  simp at h
  omega
theorem Sg.uni {c e p q r s : UInt8} (hc : c.toNat = 92) (he : e.toNat = 117) (hp : hex p = true) (hq : hex q = true) (hr : hex r = true) (hs : hex s = true) : Sg [c, e, p, q, r, s] := by
  refine ⟨fun t => ?_, fun t => ?_⟩
  · show sbody (c :: e :: p :: q :: r :: s :: t) = _
    rw [sb_b hc]
    simp only [he, if_true, four, hp, hq, hr, hs, Bool.and_self]
  · show Pl.str (c :: e :: (p :: q :: r :: s :: t)) = _
    rw [str_two hc, Pl.str_other p _ (hex_plain hp).2.2 (hex_plain hp).1, Pl.str_other q _ (hex_plain hq).2.2 (hex_plain hq).1, Pl.str_other r _ (hex_plain hr).2.2 (hex_plain hr).1, Pl.str_other s _ (hex_plain hs).2.2 (hex_plain hs).1]
    rfl
theorem Sg.all : ∀ {x : List UInt8}, (∀ c ∈ x, 128 ≤ c.toNat) → Sg x
  | [], _ => Sg.nil
  | c :: t, h => by
    have hc := h c (by simp)
    have : Sg ([c] ++ t) := (Sg.one (by omega) (by omega) (by omega)).app (Sg.all fun d hd => h d (by simp [hd]))
    exact this
theorem hexd : ∀ q : Fin 16, hex (Pl.hex q.val) = true := by decide
theorem hexd' {q : Nat} (h : q < 16) : hex (Pl.hex q) = true := hexd ⟨q, h⟩
theorem esc_sg (c : UInt8) (h : c.toNat < 128) : Sg (Pl.esc c) := by
  unfold Pl.esc
  split
  · rename_i h1
    exact Sg.esc (by decide) (by unfold esc1; rcases h1 with h1 | h1 <;> simp [h1])
  split
  · exact Sg.esc (by decide) (by decide)
  split
  · exact Sg.esc (by decide) (by decide)
  split
  · exact Sg.esc (by decide) (by decide)
  split
  · exact Sg.esc (by decide) (by decide)
  split
  · exact Sg.esc (by decide) (by decide)
  split
  · rename_i h7
    exact Sg.uni (by decide) (by decide) (by decide) (by decide) (hexd' (by omega)) (hexd' (by omega))
  · rename_i h1 _ _ _ _ _ h7
    exact Sg.one (by omega) h7 (by omega)
theorem decodeN_high {m b0 b1 b2 b3 r n : Nat} (h : Lib.decodeN m b0 b1 b2 b3 = (r, n)) (h0 : 128 ≤ b0) (hb : ¬ (r = 65533 ∧ n = 1)) : ∀ j, j < n → 128 ≤ (if j = 0 then b0 else if j = 1 then b1 else if j = 2 then b2 else b3) := by
  unfold Lib.decodeN at h
  rw [if_neg (by omega)] at h
  intro j hj
  repeat' split at h
  all_goals simp only [Prod.mk.injEq] at h
  all_goals obtain ⟨h1, h2⟩ := h
  all_goals first
    | (exfalso; exact hb ⟨h1.symm, h2.symm⟩)
    | (subst h2
       split
       · exact h0
       · split
         · omega
         · split <;> omega)
theorem get_ext (s : ByteArray) (i j : Nat) (h : i + j < s.size) : ((s.extract i s.size).get! j) = s[i + j] := by
  have h1 : j < (s.extract i s.size).size := by rw [ByteArray.size_extract]; omega
  have h2 : (s.extract i s.size).get! j = (s.extract i s.size)[j] := by
    show (s.extract i s.size).data[j]! = _
    rw [getElem!_pos (s.extract i s.size).data j h1]; rfl
  rw [h2, ByteArray.getElem_extract]
theorem raw_high (s : ByteArray) (i r n : Nat) (hi : i < s.size) (hc : ¬ s[i].toNat < 128) (hd : Pl.dec s i = (r, n)) (hb : ¬ (r = 65533 ∧ n = 1)) : ∀ c ∈ (s.extract i (i + n)).data.toList, 128 ≤ c.toNat := by
  have hle := Pl.dec_le s i hi
  rw [hd] at hle
  have hle : i + n ≤ s.size := hle
  have hsz := Pl.ext_size s i hi
  have hN : Lib.decodeN (s.extract i s.size).size ((s.extract i s.size).get! 0).toNat ((s.extract i s.size).get! 1).toNat ((s.extract i s.size).get! 2).toNat ((s.extract i s.size).get! 3).toNat = (r, n) := by
    rw [← hd]
    unfold Pl.dec Lib.decodeGo
    rw [if_neg (by omega), Lib.decode_at]
    rfl
  have hh := decodeN_high hN (by rw [get_ext s i 0 (by omega)]; simp only [Nat.add_zero]; omega) hb
  have hn4 : n ≤ 4 := by
    unfold Lib.decodeN at hN
    repeat' split at hN
    all_goals simp only [Prod.mk.injEq] at hN
    all_goals omega
  intro c hcm
  obtain ⟨j, hj, rfl⟩ := List.mem_iff_getElem.1 hcm
  have hj' : j < (s.extract i (i + n)).size := hj
  rw [ByteArray.size_extract] at hj'
  have hjn : j < n := by omega
  have e : (s.extract i (i + n)).data.toList[j] = s[i + j]'(by omega) := by
    have h3 : (s.extract i (i + n))[j]'(by rw [ByteArray.size_extract]; exact hj') = s[i + j]'(by omega) := by rw [ByteArray.getElem_extract]
    rw [← h3]; rfl
  rw [e]
  have := hh j hjn
  rcases Nat.lt_or_ge j 1 with h0 | h0
  · obtain rfl : j = 0 := by omega
    simp only [if_true] at this
    rw [get_ext s i 0 (by omega)] at this
    exact this
  · rcases Nat.lt_or_ge j 2 with h1 | h1
    · obtain rfl : j = 1 := by omega
      simp only [Nat.one_ne_zero, if_false, if_true] at this
      rw [get_ext s i 1 (by omega)] at this
      exact this
    · rcases Nat.lt_or_ge j 3 with h2 | h2
      · obtain rfl : j = 2 := by omega
        simp only [show ¬ (2 = 0) by omega, show ¬ (2 = 1) by omega, if_false, if_true] at this
        rw [get_ext s i 2 (by omega)] at this
        exact this
      · obtain rfl : j = 3 := by omega
        simp only [show ¬ (3 = 0) by omega, show ¬ (3 = 1) by omega, show ¬ (3 = 2) by omega, if_false] at this
        rw [get_ext s i 3 (by omega)] at this
        exact this
theorem wide_sg (s : ByteArray) (i : Nat) (hi : i < s.size) (hc : ¬ s[i].toNat < 128) : Sg (Pl.wide (Pl.dec s i).1 (Pl.dec s i).2 (s.extract i (i + (Pl.dec s i).2)).data.toList) := by
  obtain ⟨r, n, hd⟩ : ∃ r n, Pl.dec s i = (r, n) := ⟨_, _, rfl⟩
  rw [hd]
  unfold Pl.wide
  split
  · exact Sg.uni (by decide) (by decide) (by decide) (by decide) (by decide) (by decide)
  rename_i hb
  split
  · exact Sg.uni (by decide) (by decide) (by decide) (by decide) (by decide) (hexd' (Nat.mod_lt _ (by omega)))
  · exact Sg.all (raw_high s i r n hi hc hd hb)
theorem body_sg (s : ByteArray) (i : Nat) : Sg (Pl.body s i) := by
  by_cases hi : i < s.size
  · by_cases hc : s[i].toNat < 128
    · rw [Pl.body_low s i hi hc]
      exact (esc_sg _ hc).app (body_sg s (i + 1))
    · rw [Pl.body_high s i hi hc]
      have := Pl.dec_pos s i hi
      exact (wide_sg s i hi hc).app (body_sg s (i + (Pl.dec s i).2))
  · rw [Pl.body_end s i hi]; exact Sg.nil
termination_by s.size - i
/-- A whole string: its opening quote, a segment, its closing quote. -/
theorem sb_end {x : List UInt8} (h : Sg x) (r : List UInt8) : sbody (x ++ 34 :: r) = some r := by rw [h.sb, sb_q (by decide)]
theorem st_end {x : List UInt8} (h : Sg x) (r : List UInt8) : Pl.str (x ++ 34 :: r) = (x ++ [34], r) := by rw [h.st, Pl.str_close _ _ (by decide)]
theorem quote_sg (s : ByteArray) : ∃ x, Pl.quote s = 34 :: (x ++ [34]) ∧ Sg x := ⟨_, rfl, body_sg s 0⟩
/-- What the strict reader of strings has passed. -/
theorem sbody_sound : ∀ (n : Nat) (t r : List UInt8), t.length ≤ n → sbody t = some r → ∃ x, t = x ++ 34 :: r ∧ Sg x
  | _, [], r, _, h => by rw [sb_nil] at h; cases h
  | 0, c :: t, r, hn, _ => by simp at hn
  | n + 1, c :: t, r, hn, h => by
    have hn' : t.length ≤ n := by simpa using hn
    by_cases h34 : c.toNat = 34
    · rw [sb_q h34] at h
      cases h
      have : c = 34 := UInt8.toNat_inj.1 h34
      subst this
      exact ⟨[], rfl, Sg.nil⟩
    by_cases h32 : c.toNat < 32
    · rw [sb_c h34 h32] at h; cases h
    by_cases h92 : c.toNat = 92
    · rw [sb_b h92] at h
      cases t with
      | nil => cases h
      | cons e u =>
        simp only at h
        by_cases h117 : e.toNat = 117
        · simp only [h117, if_true] at h
          unfold four at h
          split at h
          · cases h
          · rename_i v hv
            split at hv
            · rename_i a b c' d v'
              split at hv
              · rename_i hx
                cases hv
                simp only [Bool.and_eq_true] at hx
                obtain ⟨x, hx2, hs⟩ := sbody_sound n v r (by simp at hn'; omega) h
                refine ⟨[c, e, a, b, c', d] ++ x, by rw [hx2]; rfl, (Sg.uni h92 h117 hx.1.1.1 hx.1.1.2 hx.1.2 hx.2).app hs⟩
              · cases hv
            · cases hv
        · simp only [h117, if_false] at h
          split at h
          · rename_i he
            obtain ⟨x, hx2, hs⟩ := sbody_sound n u r (by simp at hn'; omega) h
            exact ⟨[c, e] ++ x, by rw [hx2]; rfl, (Sg.esc h92 he).app hs⟩
          · cases h
    · rw [sb_o h34 h32 h92] at h
      obtain ⟨x, hx2, hs⟩ := sbody_sound n t r hn' h
      exact ⟨[c] ++ x, by rw [hx2]; rfl, (Sg.one h34 h32 h92).app hs⟩
end Go.Proofs.Qxb6603514aDoor.Pj
