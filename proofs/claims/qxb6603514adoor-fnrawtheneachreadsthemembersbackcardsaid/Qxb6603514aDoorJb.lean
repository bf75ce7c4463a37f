/-
  zzjString.
-/
import Derived.Test.Qxb6603514aDoorJa
namespace Go.Proofs.Qxb6603514aDoor
open Go.RowKit
namespace Pj
theorem sb_nil : sbody [] = none := by rw [sbody]
theorem sb_q {c : UInt8} {t : List UInt8} (h : c.toNat = 34) : sbody (c :: t) = some t := by rw [sbody.eq_def]; simp only [h, if_true]
theorem sb_c {c : UInt8} {t : List UInt8} (h1 : ¬ c.toNat = 34) (h : c.toNat < 32) : sbody (c :: t) = none := by rw [sbody.eq_def]; simp only [h1, h, if_true, if_false]
theorem sb_o {c : UInt8} {t : List UInt8} (h1 : ¬ c.toNat = 34) (h2 : ¬ c.toNat < 32) (h : ¬ c.toNat = 92) : sbody (c :: t) = sbody t := by rw [sbody.eq_def]; simp only [h1, h2, h, if_true, if_false, ne_eq, not_false_eq_true]
theorem sb_b {c : UInt8} {t : List UInt8} (h : c.toNat = 92) : sbody (c :: t) = (match t with
      | [] => none
      | e :: u =>
        if e.toNat = 117 then match four u with
          | none => none
          | some v => sbody v
        else if esc1 e then sbody u else none) := by
  rw [sbody.eq_def]
  simp only [h]
  cases t with
  | nil => simp
  | cons e u =>
    simp only [show ¬ (92 = 34) by omega, show ¬ (92 < 32) by omega, if_false, ne_eq, not_true_eq_false]
    by_cases h1 : e.toNat = 117
    · simp only [h1, if_true]
      cases hf : four u with
      | none => simp
      | some v => simp
    · simp only [h1, if_false]
theorem four_short {l : List UInt8} (h : l.length < 4) : four l = none := by
  unfold four
  split
  · simp at h; omega
  · rfl
theorem four_all {l : List UInt8} (hl : 4 ≤ l.length) (h : ∀ q (hq : q < l.length), q < 4 → hex l[q] = true) : four l = some (l.drop 4) := by
  match l, hl, h with
  | a :: b :: c :: d :: v, _, h =>
    have h0 := h 0 (by simp) (by omega)
    have h1 := h 1 (by simp) (by omega)
    have h2 := h 2 (by simp) (by omega)
    have h3 := h 3 (by simp) (by omega)
    simp at h0 h1 h2 h3
    simp [four, h0, h1, h2, h3]
theorem four_bad {l : List UInt8} {q : Nat} {c : UInt8} (hq : q < 4) (hl : l[q]? = some c) (h : hex c = false) : four l = none := by
  unfold four
  split
  · rename_i a b c' d v
    match q, hq, hl with
    | 0, _, hl => simp at hl; subst hl; simp [h]
    | 1, _, hl => simp at hl; subst hl; simp [h]
    | 2, _, hl => simp at hl; subst hl; simp [h]
    | 3, _, hl => simp at hl; subst hl; simp [h]
  · rfl
end Pj
theorem nI {c : UInt8} {k : Nat} (h : ((c.toNat : Int) == (k : Int)) = false) : ¬ c.toNat = k := by simp at h; omega
theorem yI {c : UInt8} {k : Nat} (h : ((c.toNat : Int) == (k : Int)) = true) : c.toNat = k := by simp at h; omega
/-- What a reader says: none, or where it ended. -/
def Out (tl : List UInt8) (i : Nat) (r : Option (List UInt8)) (e : Ending) : Prop :=
  (∃ v, e = .returned (.tuple #[v, .bool false]) ∧ r = none) ∨ (∃ j : Nat, e = .returned (.tuple #[.int .i64 j, .bool true]) ∧ i < j ∧ j ≤ tl.length ∧ r = some (tl.drop j))
set_option maxRecDepth 100000 in
set_option maxHeartbeats 4000000 in
theorem str30 (w : World) (b o tc n : Nat) (tl : List UInt8) (hn : n = tl.length) (hT : Tx w b o tl) (hN : n ≤ 100000000000000) (i : Nat) (hi : i ≤ n) :
    Calls Tryd.prog 30 #[.slice (some ⟨b, o, none⟩) n tc, .int .i64 i] w fun e w' => Hid (w' = w ∧ Out tl i (Pj.strR (tl.drop i)) e) := by
  have HT := hide hT
  have HN := hide hn
  clear hT hn
  by_cases hi2 : i < n
  case neg =>
    go_enter Tryd.func30, Tryd.ntmps30
    go_wp2_with fail
    go_ret2
    refine hide ⟨rfl, .inl ⟨_, rfl, ?_⟩⟩
    rw [List.drop_eq_nil_of_le (by rw [← HN.out]; omega)]; rfl
  have hi3 : i < tl.length := by rw [← HN.out]; exact hi2
  obtain ⟨q, hq⟩ : ∃ q, q = tl[i] := ⟨_, rfl⟩
  have hcq : w.cell? ⟨b, o + i, none⟩ = some (.int .u8 q.toNat) := by rw [hq]; exact HT.out.cell i hi3
  have Hd0 : Hid (tl.drop i = q :: tl.drop (i + 1)) := by rw [hq]; exact drop_cons hi3
  clear hq
  cases hq34 : ((q.toNat : Int) == 34)
  · have hqb : ((q.toNat : Int) != 34) = true := by rw [bne, hq34]; rfl
    go_enter Tryd.func30, Tryd.ntmps30
    go_wp2_with fail
    go_ret2
    refine hide ⟨rfl, .inl ⟨_, rfl, ?_⟩⟩
    rw [Hd0.out, Pj.strR, if_neg (nI (k := 34) hq34)]
  have hqb : ((q.toNat : Int) != 34) = false := by rw [bne, hq34]; rfl
  have hdi : decide (n ≤ i) = false := by simp; omega
  have HR : Hid (Pj.strR (tl.drop i) = Pj.sbody (tl.drop (i + 1))) := by
    show _ = _
    rw [Hd0.out, Pj.strR, if_pos (yI (k := 34) hq34)]
  go_enter Tryd.func30, Tryd.ntmps30
  go_wp2_with fail
  clear hcq hq34 hqb
  go_loopg [6] (n - (i + 1)) (fun g c6 wx => ∃ j : Nat, j + g = n ∧ c6 = .int .i64 j ∧ wx = w ∧ i < j ∧ Hid (Pj.strR (tl.drop i) = Pj.sbody (tl.drop j)))
  case atStart => exact ⟨i + 1, by omega, rfl, rfl, by omega, HR⟩
  case round =>
    obtain ⟨j, hjg, rfl, rfl, hij, HS⟩ := hrel
    by_cases hj : j < n
    case neg =>
      go_wp2_with fail
      go_ret2
      refine hide ⟨rfl, .inl ⟨_, rfl, ?_⟩⟩
      rw [HS.out, List.drop_eq_nil_of_le (by rw [← HN.out]; omega)]; exact Pj.sb_nil
    have hj2 : j < tl.length := by rw [← HN.out]; exact hj
    obtain ⟨c, hc⟩ : ∃ c, c = tl[j] := ⟨_, rfl⟩
    have hcell : wr.cell? ⟨b, o + j, none⟩ = some (.int .u8 c.toNat) := by rw [hc]; exact HT.out.cell j hj2
    have Hd : Hid (tl.drop j = c :: tl.drop (j + 1)) := by rw [hc]; exact drop_cons hj2
    clear hc
    cases h34 : ((c.toNat : Int) == 34)
    case true =>
      go_wp2_with fail
      go_ret2
      refine hide ⟨rfl, .inr ⟨j + 1, ?_, by omega, hj2, ?_⟩⟩
      · congr 3
      · rw [HS.out, Hd.out, Pj.sb_q (yI (k := 34) h34)]
    by_cases h32 : (c.toNat : Int) < 32
    · go_wp2_with fail
      go_ret2
      refine hide ⟨rfl, .inl ⟨_, rfl, ?_⟩⟩
      rw [HS.out, Hd.out, Pj.sb_c (nI (k := 34) h34) (by omega)]
    cases h92 : ((c.toNat : Int) == 92)
    · go_wp2_with fail
      go_roundg (n - (j + 1))
      case measure => omega
      case rel => exact ⟨j + 1, by omega, rfl, rfl, by omega, HS.out.trans (by rw [Hd.out, Pj.sb_o (nI (k := 34) h34) (by omega) (nI (k := 92) h92)])⟩
    have HB : Hid (Pj.strR (tl.drop i) = _) := HS.out.trans ((congrArg Pj.sbody Hd.out).trans (Pj.sb_b (yI (k := 92) h92)))
    by_cases hj1 : j + 1 < n
    case neg =>
      go_wp2_with fail
      go_ret2
      refine hide ⟨rfl, .inl ⟨_, rfl, ?_⟩⟩
      rw [HB.out, List.drop_eq_nil_of_le (by rw [← HN.out]; omega)]
    have hj3 : j + 1 < tl.length := by rw [← HN.out]; exact hj1
    obtain ⟨e, he⟩ : ∃ e, e = tl[j + 1] := ⟨_, rfl⟩
    have hcell2 : wr.cell? ⟨b, o + (j + 1), none⟩ = some (.int .u8 e.toNat) := by rw [he]; exact HT.out.cell (j + 1) hj3
    have Hd2 : Hid (tl.drop (j + 1) = e :: tl.drop (j + 2)) := by rw [he]; exact drop_cons hj3
    clear he
    cases h117 : ((e.toNat : Int) == 117)
    case true =>
      have HU : Hid (Pj.strR (tl.drop i) = (match Pj.four (tl.drop (j + 2)) with | none => none | some v => Pj.sbody v)) := by
        have := HB.out
        rw [Hd2.out] at this
        simp only [yI (k := 117) h117, if_true] at this
        exact this
      by_cases hj6 : (n : Int) < (j : Int) + 6
      · go_wp2_with fail
        go_ret2
        refine hide ⟨rfl, .inl ⟨_, rfl, ?_⟩⟩
        rw [HU.out, Pj.four_short (by rw [List.length_drop, ← HN.out]; omega)]
      go_wp2_with fail
      go_loopg [9] 4 (fun g c9 wx => ∃ k : Nat, k + g = 4 ∧ c9 = .int .i64 ((j + 2 + k : Nat) : Int) ∧ wx = wr ∧ Hid (∀ q (hq : q < (tl.drop (j + 2)).length), q < k → Pj.hex (tl.drop (j + 2))[q] = true))
      case atStart => exact ⟨0, by omega, by go_num, rfl, fun q _ hq => by omega⟩
      case round =>
        obtain ⟨k, hkg, rfl, rfl, HA⟩ := hrel
        by_cases hk : k < 4
        · have hk2 : j + 2 + k < tl.length := by rw [← HN.out]; omega
          obtain ⟨d, hd⟩ : ∃ d, d = tl[j + 2 + k] := ⟨_, rfl⟩
          have hcell3 : wr.cell? ⟨b, o + (j + 2 + k), none⟩ = some (.int .u8 d.toNat) := by rw [hd]; exact HT.out.cell (j + 2 + k) hk2
          have HD : Hid ((tl.drop (j + 2))[k]? = some d) := by rw [hd]; exact get_drop hk2
          clear hd
          have hki : ((j + 2 + k : Nat) : Int) < (j : Int) + 6 := by omega
          have hkn : ((j + 2 + k : Nat) : Int) < (n : Int) := by omega
          cases hx : Pj.hex d
          · go_wp2_with (go_at_call 37; refine (hex37 _ _).mono ?_; intro e w' hy; obtain ⟨v, rfl, rfl⟩ := hy.out; rw [hx])
            go_ret2
            refine hide ⟨rfl, .inl ⟨_, rfl, ?_⟩⟩
            rw [HU.out, Pj.four_bad hk HD.out hx]
          · go_wp2_with (go_at_call 37; refine (hex37 _ _).mono ?_; intro e w' hy; obtain ⟨v, rfl, rfl⟩ := hy.out; rw [hx])
            go_roundg (4 - (k + 1))
            case measure => omega
            case rel => exact ⟨k + 1, by omega, by go_num, rfl, fun q hq h => by
              rcases Nat.lt_succ_iff_lt_or_eq.1 h with h | rfl
              · exact HA.out q hq h
              · have := HD.out
                rw [List.getElem?_eq_getElem hq] at this
                rw [Option.some.inj this]; exact hx⟩
        · obtain rfl : k = 4 := by omega
          go_wp2_with fail
          go_roundg (n - (j + 6))
          case measure => omega
          case rel =>
            refine ⟨j + 6, by omega, by go_num, rfl, by omega, ?_⟩
            show _ = _
            rw [HU.out, Pj.four_all (by rw [List.length_drop, ← HN.out]; omega) (fun q hq h => HA.out q hq h), List.drop_drop]
    have HE : Hid (Pj.strR (tl.drop i) = if Pj.esc1 e then Pj.sbody (tl.drop (j + 2)) else none) := by
      have := HB.out
      rw [Hd2.out] at this
      simp only [nI (k := 117) h117, if_false] at this
      exact this
    cases e34 : ((e.toNat : Int) == 34)
    case true =>
      go_wp2_with fail
      go_roundg (n - (j + 2))
      case measure => omega
      case rel => exact ⟨j + 2, by omega, rfl, rfl, by omega, HE.out.trans (by rw [if_pos (by simp [Pj.esc1, yI (k := 34) e34])])⟩
    cases e92 : ((e.toNat : Int) == 92)
    case true =>
      go_wp2_with fail
      go_roundg (n - (j + 2))
      case measure => omega
      case rel => exact ⟨j + 2, by omega, rfl, rfl, by omega, HE.out.trans (by rw [if_pos (by simp [Pj.esc1, yI (k := 92) e92])])⟩
    cases e47 : ((e.toNat : Int) == 47)
    case true =>
      go_wp2_with fail
      go_roundg (n - (j + 2))
      case measure => omega
      case rel => exact ⟨j + 2, by omega, rfl, rfl, by omega, HE.out.trans (by rw [if_pos (by simp [Pj.esc1, yI (k := 47) e47])])⟩
    cases e98 : ((e.toNat : Int) == 98)
    case true =>
      go_wp2_with fail
      go_roundg (n - (j + 2))
      case measure => omega
      case rel => exact ⟨j + 2, by omega, rfl, rfl, by omega, HE.out.trans (by rw [if_pos (by simp [Pj.esc1, yI (k := 98) e98])])⟩
    cases e102 : ((e.toNat : Int) == 102)
    case true =>
      go_wp2_with fail
      go_roundg (n - (j + 2))
      case measure => omega
      case rel => exact ⟨j + 2, by omega, rfl, rfl, by omega, HE.out.trans (by rw [if_pos (by simp [Pj.esc1, yI (k := 102) e102])])⟩
    cases e110 : ((e.toNat : Int) == 110)
    case true =>
      go_wp2_with fail
      go_roundg (n - (j + 2))
      case measure => omega
      case rel => exact ⟨j + 2, by omega, rfl, rfl, by omega, HE.out.trans (by rw [if_pos (by simp [Pj.esc1, yI (k := 110) e110])])⟩
    cases e114 : ((e.toNat : Int) == 114)
    case true =>
      go_wp2_with fail
      go_roundg (n - (j + 2))
      case measure => omega
      case rel => exact ⟨j + 2, by omega, rfl, rfl, by omega, HE.out.trans (by rw [if_pos (by simp [Pj.esc1, yI (k := 114) e114])])⟩
    cases e116 : ((e.toNat : Int) == 116)
    case true =>
      go_wp2_with fail
      go_roundg (n - (j + 2))
      case measure => omega
      case rel => exact ⟨j + 2, by omega, rfl, rfl, by omega, HE.out.trans (by rw [if_pos (by simp [Pj.esc1, yI (k := 116) e116])])⟩
    go_wp2_with fail
    go_ret2
    refine hide ⟨rfl, .inl ⟨_, rfl, ?_⟩⟩
    rw [HE.out, if_neg (by simp [Pj.esc1, nI (k := 34) e34, nI (k := 92) e92, nI (k := 47) e47, nI (k := 98) e98, nI (k := 102) e102, nI (k := 110) e110, nI (k := 114) e114, nI (k := 116) e116])]
end Go.Proofs.Qxb6603514aDoor
