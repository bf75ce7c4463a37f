/-
  valueEnd.
-/
import Derived.Test.Qxb6603514aDoorJi
namespace Go.Proofs.Qxb6603514aDoor
open Go.RowKit
namespace Pj
def del (c : UInt8) : Bool := Pl.ws c || ((c.toNat : Int) == 44) || ((c.toNat : Int) == 93) || ((c.toNat : Int) == 125)
def scal : List UInt8 → List UInt8
  | [] => []
  | c :: t => if del c then c :: t else scal t
def scan (d : Nat) (l : List UInt8) : List UInt8 :=
  match l with
  | [] => []
  | c :: t =>
    if c.toNat = 34 then
      have := Pl.str_len t.length t (Nat.le_refl _)
      scan d (Pl.str t).2
    else if c.toNat = 91 ∨ c.toNat = 123 then scan (d + 1) t
    else if c.toNat = 93 ∨ c.toNat = 125 then (if d ≤ 1 then t else scan (d - 1) t)
    else scan d t
termination_by l.length
decreasing_by all_goals (simp_wf; try omega)
def vend : List UInt8 → List UInt8
  | [] => []
  | c :: t => if c.toNat = 34 then (Pl.str t).2 else if c.toNat = 91 ∨ c.toNat = 123 then scan 0 (c :: t) else scal (c :: t)
theorem scan_nil {d : Nat} : scan d [] = [] := by rw [scan.eq_def]
theorem scan_str {d : Nat} {c : UInt8} {t : List UInt8} (h : c.toNat = 34) : scan d (c :: t) = scan d (Pl.str t).2 := by rw [scan.eq_def]; simp only [h, if_true]
theorem scan_open {d : Nat} {c : UInt8} {t : List UInt8} (h : c.toNat = 91 ∨ c.toNat = 123) : scan d (c :: t) = scan (d + 1) t := by rw [scan.eq_def]; simp only [h, if_true]; rw [if_neg (by omega)]
theorem scan_close {d : Nat} {c : UInt8} {t : List UInt8} (h : c.toNat = 93 ∨ c.toNat = 125) : scan d (c :: t) = if d ≤ 1 then t else scan (d - 1) t := by rw [scan.eq_def]; simp only [h, if_true]; rw [if_neg (by omega), if_neg (by omega)]
theorem scan_other {d : Nat} {c : UInt8} {t : List UInt8} (h1 : ¬ c.toNat = 34) (h2 : ¬ (c.toNat = 91 ∨ c.toNat = 123)) (h3 : ¬ (c.toNat = 93 ∨ c.toNat = 125)) : scan d (c :: t) = scan d t := by rw [scan.eq_def]; simp only [h1, h2, h3, if_false]
end Pj
theorem endb (w : World) (b o tc n : Nat) (tl : List UInt8) (hn : n = tl.length) (hT : Tx w b o tl) (hN : n ≤ 100000000) (k : Nat) (hk : k < n) :
    Calls Tryd.prog 28 #[.slice (some ⟨b, o, none⟩) n tc, .int .i64 k] w fun e w' => Hid (∃ E : Nat, e = .returned (.int .i64 E) ∧ w' = w ∧ k < E ∧ E ≤ n ∧ tl.drop E = (Pl.str (tl.drop (k + 1))).2 ∧ E = k + 1 + (Pl.str (tl.drop (k + 1))).1.length) := by
  subst hn
  refine (end28b b o tc tl k hk hN w hT.cell).mono ?_
  rintro e w' ⟨rfl, rfl⟩
  refine hide ⟨endOf tl (k + 1), rfl, rfl, ?_, end_le hk, piece_rest hk, ?_⟩
  · have := end_ge hk; omega
  · unfold endOf; rw [if_pos (by omega)]
def VE (tl : List UInt8) (n i : Nat) (r : List UInt8) (w : World) (e : Ending) (w' : World) : Prop := ∃ j : Nat, e = .returned (.int .i64 j) ∧ w' = w ∧ i ≤ j ∧ j ≤ n ∧ tl.drop j = r
set_option maxRecDepth 100000 in
set_option maxHeartbeats 8000000 in
theorem vend35 (w : World) (b o tc n : Nat) (tl : List UInt8) (hn : n = tl.length) (hT : Tx w b o tl) (hN : n ≤ 100000000) (i : Nat) (hi : i < n) :
    Calls Tryd.prog 35 #[.slice (some ⟨b, o, none⟩) n tc, .int .i64 i] w fun e w' => Hid (VE tl n i (Pj.vend (tl.drop i)) w e w') := by
  have HT := hide hT
  have HN := hide hn
  clear hT hn
  obtain ⟨c, hc⟩ : ∃ c, c = tl[i]'(by rw [← HN.out]; omega) := ⟨_, rfl⟩
  have xc : w.cell? ⟨b, o + i, none⟩ = some (.int .u8 c.toNat) := by rw [hc]; exact HT.out.cell i (by rw [← HN.out]; omega)
  have Hc : Hid (tl.drop i = c :: tl.drop (i + 1)) := by rw [hc]; exact drop_cons (by rw [← HN.out]; omega)
  clear hc
  cases h34 : ((c.toNat : Int) == 34)
  case true =>
    have HV : Hid (Pj.vend (tl.drop i) = (Pl.str (tl.drop (i + 1))).2) := by show _ = _; rw [Hc.out, Pj.vend, if_pos (yI (k := 34) h34)]
    go_enter Tryd.func35, Tryd.ntmps35
    go_wp2_with fail
    refine (endb w b o tc n tl HN.out HT.out hN i hi).mono ?_
    intro e w' hx
    obtain ⟨E, rfl, rfl, hkE, hEn, hdE, hEq⟩ := hx.out
    have HdE := hide hdE
    clear hdE hx hEq
    go_wp2_with fail
    go_ret
    exact hide ⟨E, rfl, rfl, by omega, hEn, by rw [HV.out, HdE.out]⟩
  obtain ⟨m, hm⟩ : ∃ m, m = (((c.toNat : Int) == 91) || ((c.toNat : Int) == 123)) := ⟨_, rfl⟩
  cases m
  case false =>
    have h91 : ((c.toNat : Int) == 91) = false := by
      cases h : ((c.toNat : Int) == 91)
      · rfl
      · rw [h] at hm; cases hm
    have h123 : ((c.toNat : Int) == 123) = false := by
      cases h : ((c.toNat : Int) == 123)
      · rfl
      · rw [h, Bool.or_true] at hm; cases hm
    clear hm
    have HV : Hid (Pj.vend (tl.drop i) = Pj.scal (tl.drop i)) := by
      show _ = _
      have e1 := nI (k := 34) h34
      have e2 := nI (k := 91) h91
      have e3 := nI (k := 123) h123
      rw [Hc.out, Pj.vend, if_neg e1, if_neg (by omega)]
    go_enter Tryd.func35, Tryd.ntmps35
    go_wp2_with fail
    go_loopg [1] (n - i) (fun g c1 wx => ∃ k : Nat, k + g = n ∧ c1 = .int .i64 k ∧ w = wx ∧ i ≤ k ∧ Hid (Pj.scal (tl.drop k) = Pj.scal (tl.drop i)))
    case atStart => exact ⟨i, by omega, rfl, rfl, by omega, (rfl : _ = _)⟩
    case round =>
      obtain ⟨k, hkg, rfl, rfl, hik, HS⟩ := hrel
      by_cases hk : k < n
      case neg =>
        go_wp2_with fail
        go_ret
        exact hide ⟨k, rfl, rfl, hik, by omega, by rw [HV.out, ← HS.out, dr_nil (by rw [← HN.out]; omega)]; rfl⟩
      obtain ⟨d, hd⟩ : ∃ d, d = tl[k]'(by rw [← HN.out]; omega) := ⟨_, rfl⟩
      have xd : w.cell? ⟨b, o + k, none⟩ = some (.int .u8 d.toNat) := by rw [hd]; exact HT.out.cell k (by rw [← HN.out]; omega)
      have Hd : Hid (tl.drop k = d :: tl.drop (k + 1)) := by rw [hd]; exact drop_cons (by rw [← HN.out]; omega)
      clear hd
      cases hw : Pl.ws d
      case true =>
        go_wp2_with (go_at_call 41; refine (is41 _ _).mono ?_; rintro e w' ⟨rfl, rfl⟩)
        go_ret
        exact hide ⟨k, rfl, rfl, hik, by omega, by rw [HV.out, ← HS.out, Hd.out, Pj.scal, if_pos (by simp [Pj.del, hw])]⟩
      cases e44 : ((d.toNat : Int) == 44)
      case true =>
        have b44 : ((d.toNat : Int) != 44) = false := by rw [bne, e44]; rfl
        go_wp2_with (go_at_call 41; refine (is41 _ _).mono ?_; rintro e w' ⟨rfl, rfl⟩)
        go_ret
        exact hide ⟨k, rfl, rfl, hik, by omega, by rw [HV.out, ← HS.out, Hd.out, Pj.scal, if_pos (by simp only [Pj.del, e44, Bool.or_true, Bool.true_or])]⟩
      have b44 : ((d.toNat : Int) != 44) = true := by rw [bne, e44]; rfl
      cases e93 : ((d.toNat : Int) == 93)
      case true =>
        have b93 : ((d.toNat : Int) != 93) = false := by rw [bne, e93]; rfl
        go_wp2_with (go_at_call 41; refine (is41 _ _).mono ?_; rintro e w' ⟨rfl, rfl⟩)
        go_ret
        exact hide ⟨k, rfl, rfl, hik, by omega, by rw [HV.out, ← HS.out, Hd.out, Pj.scal, if_pos (by simp only [Pj.del, e93, Bool.or_true, Bool.true_or])]⟩
      have b93 : ((d.toNat : Int) != 93) = true := by rw [bne, e93]; rfl
      cases e125 : ((d.toNat : Int) == 125)
      case true =>
        have b125 : ((d.toNat : Int) != 125) = false := by rw [bne, e125]; rfl
        go_wp2_with (go_at_call 41; refine (is41 _ _).mono ?_; rintro e w' ⟨rfl, rfl⟩)
        go_ret
        exact hide ⟨k, rfl, rfl, hik, by omega, by rw [HV.out, ← HS.out, Hd.out, Pj.scal, if_pos (by simp only [Pj.del, e125, Bool.or_true])]⟩
      have b125 : ((d.toNat : Int) != 125) = true := by rw [bne, e125]; rfl
      go_wp2_with (go_at_call 41; refine (is41 _ _).mono ?_; rintro e w' ⟨rfl, rfl⟩)
      go_roundg (n - (k + 1))
      case measure => omega
      case rel => exact ⟨k + 1, by omega, rfl, rfl, by omega, Eq.trans (by rw [Hd.out, Pj.scal, if_neg (by simp only [Pj.del, hw, e44, e93, e125]; decide)]) HS.out⟩
  have HV : Hid (Pj.vend (tl.drop i) = Pj.scan 0 (tl.drop i)) := by
    show _ = _
    have e1 := nI (k := 34) h34
    rw [Hc.out, Pj.vend, if_neg e1, if_pos]
    have := hm.symm
    rw [Bool.or_eq_true] at this
    rcases this with h | h
    · exact .inl (yI (k := 91) h)
    · exact .inr (yI (k := 123) h)
  have HO : Hid (c.toNat = 91 ∨ c.toNat = 123) := by
    have := hm.symm
    rw [Bool.or_eq_true] at this
    rcases this with h | h
    · exact .inl (yI (k := 91) h)
    · exact .inr (yI (k := 123) h)
  cases h91 : ((c.toNat : Int) == 91)
  case false =>
    have h123 : ((c.toNat : Int) == 123) = true := by rw [h91] at hm; exact hm.symm
    clear hm
    go_enter Tryd.func35, Tryd.ntmps35
    go_wp2_with fail
    go_loopg [1, 5] (n - i) (fun g c1 c5 wx => ∃ k d : Nat, k + g = n ∧ c1 = .int .i64 k ∧ c5 = .int .i64 d ∧ w = wx ∧ i ≤ k ∧ d ≤ k ∧ Hid (d = 0 → k = i) ∧ Hid (Pj.scan d (tl.drop k) = Pj.scan 0 (tl.drop i)))
    case atStart => exact ⟨i, 0, by omega, rfl, rfl, rfl, by omega, by omega, fun _ => rfl, (rfl : _ = _)⟩
    case round =>
      obtain ⟨k, d, hkg, rfl, rfl, rfl, hik, hdk, HZ, HS⟩ := hrel
      by_cases hk : k < n
      case neg =>
        go_wp2_with fail
        go_ret
        exact hide ⟨n, rfl, rfl, by omega, by omega, by rw [HV.out, ← HS.out, dr_nil (J := k) (by rw [← HN.out]; omega), dr_nil (by rw [← HN.out]; omega)]; exact Pj.scan_nil.symm⟩
      obtain ⟨x, hx⟩ : ∃ x, x = tl[k]'(by rw [← HN.out]; omega) := ⟨_, rfl⟩
      have xx : w.cell? ⟨b, o + k, none⟩ = some (.int .u8 x.toNat) := by rw [hx]; exact HT.out.cell k (by rw [← HN.out]; omega)
      have Hx : Hid (tl.drop k = x :: tl.drop (k + 1)) := by rw [hx]; exact drop_cons (by rw [← HN.out]; omega)
      clear hx
      have HD : Hid (d = 0 → x.toNat = 91 ∨ x.toNat = 123) := fun h => by
        have e := HZ.out h
        subst e
        have := Hx.out.symm.trans Hc.out
        rw [List.cons.injEq] at this
        rw [this.1]; exact HO.out
      cases g34 : ((x.toNat : Int) == 34)
      case true =>
        go_wp2_with fail
        refine (endb w b o tc n tl HN.out HT.out hN k hk).mono ?_
        intro e w' hy
        obtain ⟨E, rfl, rfl, hkE, hEn, hdE, hEq⟩ := hy.out
        have HdE := hide hdE
        clear hdE hy hEq
        have hE1 : (E : Int) - 1 + 1 = (E : Int) := by omega
        go_wp2_with fail
        go_roundg (n - E)
        case measure => omega
        case rel => exact ⟨E, d, by omega, by go_num, rfl, rfl, by omega, by omega, fun h => by
            have := HD.out h
            have e1 := yI (k := 34) g34
            omega, Eq.trans (by rw [Hx.out, Pj.scan_str (yI (k := 34) g34), HdE.out]) HS.out⟩
      cases g91 : ((x.toNat : Int) == 91)
      case true =>
        go_wp2_with fail
        go_roundg (n - (k + 1))
        case measure => omega
        case rel => exact ⟨k + 1, d + 1, by omega, by go_num, by go_num, rfl, by omega, by omega, fun h => by omega, Eq.trans (by rw [Hx.out, Pj.scan_open (.inl (yI (k := 91) g91))]) HS.out⟩
      cases g123 : ((x.toNat : Int) == 123)
      case true =>
        go_wp2_with fail
        go_roundg (n - (k + 1))
        case measure => omega
        case rel => exact ⟨k + 1, d + 1, by omega, by go_num, by go_num, rfl, by omega, by omega, fun h => by omega, Eq.trans (by rw [Hx.out, Pj.scan_open (.inr (yI (k := 123) g123))]) HS.out⟩
      have hd1 : 1 ≤ d := by
        rcases Nat.eq_zero_or_pos d with h | h
        · have := HD.out h
          have e1 := nI (k := 91) g91
          have e2 := nI (k := 123) g123
          omega
        · exact h
      cases g93 : ((x.toNat : Int) == 93)
      case true =>
        cases hz : ((d : Int) - 1 == 0)
        · have hd2 : ¬ d ≤ 1 := by simp at hz; omega
          go_wp2_with fail
          go_roundg (n - (k + 1))
          case measure => omega
          case rel => exact ⟨k + 1, d - 1, by omega, by go_num, by go_num, rfl, by omega, by omega, fun h => by omega, Eq.trans (by rw [Hx.out, Pj.scan_close (.inl (yI (k := 93) g93)), if_neg hd2]) HS.out⟩
        · have hd2 : d ≤ 1 := by simp at hz; omega
          go_wp2_with fail
          go_ret
          exact hide ⟨k + 1, by first | rfl | (congr 3), rfl, by omega, by omega, by rw [HV.out, ← HS.out, Hx.out, Pj.scan_close (.inl (yI (k := 93) g93)), if_pos hd2]⟩
      cases g125 : ((x.toNat : Int) == 125)
      case true =>
        cases hz : ((d : Int) - 1 == 0)
        · have hd2 : ¬ d ≤ 1 := by simp at hz; omega
          go_wp2_with fail
          go_roundg (n - (k + 1))
          case measure => omega
          case rel => exact ⟨k + 1, d - 1, by omega, by go_num, by go_num, rfl, by omega, by omega, fun h => by omega, Eq.trans (by rw [Hx.out, Pj.scan_close (.inr (yI (k := 125) g125)), if_neg hd2]) HS.out⟩
        · have hd2 : d ≤ 1 := by simp at hz; omega
          go_wp2_with fail
          go_ret
          exact hide ⟨k + 1, by first | rfl | (congr 3), rfl, by omega, by omega, by rw [HV.out, ← HS.out, Hx.out, Pj.scan_close (.inr (yI (k := 125) g125)), if_pos hd2]⟩
      go_wp2_with fail
      go_roundg (n - (k + 1))
      case measure => omega
      case rel => exact ⟨k + 1, d, by omega, by go_num, rfl, rfl, by omega, by omega, fun h => by omega, Eq.trans (by rw [Hx.out, Pj.scan_other (nI (k := 34) g34) (by have e1 := nI (k := 91) g91; have e2 := nI (k := 123) g123; omega) (by have e1 := nI (k := 93) g93; have e2 := nI (k := 125) g125; omega)]) HS.out⟩
  clear hm
  go_enter Tryd.func35, Tryd.ntmps35
  go_wp2_with fail
  go_loopg [1, 5] (n - i) (fun g c1 c5 wx => ∃ k d : Nat, k + g = n ∧ c1 = .int .i64 k ∧ c5 = .int .i64 d ∧ w = wx ∧ i ≤ k ∧ d ≤ k ∧ Hid (d = 0 → k = i) ∧ Hid (Pj.scan d (tl.drop k) = Pj.scan 0 (tl.drop i)))
  case atStart => exact ⟨i, 0, by omega, rfl, rfl, rfl, by omega, by omega, fun _ => rfl, (rfl : _ = _)⟩
  case round =>
    obtain ⟨k, d, hkg, rfl, rfl, rfl, hik, hdk, HZ, HS⟩ := hrel
    by_cases hk : k < n
    case neg =>
      go_wp2_with fail
      go_ret
      exact hide ⟨n, rfl, rfl, by omega, by omega, by rw [HV.out, ← HS.out, dr_nil (J := k) (by rw [← HN.out]; omega), dr_nil (by rw [← HN.out]; omega)]; exact Pj.scan_nil.symm⟩
    obtain ⟨x, hx⟩ : ∃ x, x = tl[k]'(by rw [← HN.out]; omega) := ⟨_, rfl⟩
    have xx : w.cell? ⟨b, o + k, none⟩ = some (.int .u8 x.toNat) := by rw [hx]; exact HT.out.cell k (by rw [← HN.out]; omega)
    have Hx : Hid (tl.drop k = x :: tl.drop (k + 1)) := by rw [hx]; exact drop_cons (by rw [← HN.out]; omega)
    clear hx
    have HD : Hid (d = 0 → x.toNat = 91 ∨ x.toNat = 123) := fun h => by
      have e := HZ.out h
      subst e
      have := Hx.out.symm.trans Hc.out
      rw [List.cons.injEq] at this
      rw [this.1]; exact HO.out
    cases g34 : ((x.toNat : Int) == 34)
    case true =>
      go_wp2_with fail
      refine (endb w b o tc n tl HN.out HT.out hN k hk).mono ?_
      intro e w' hy
      obtain ⟨E, rfl, rfl, hkE, hEn, hdE, hEq⟩ := hy.out
      have HdE := hide hdE
      clear hdE hy hEq
      have hE1 : (E : Int) - 1 + 1 = (E : Int) := by omega
      go_wp2_with fail
      go_roundg (n - E)
      case measure => omega
      case rel => exact ⟨E, d, by omega, by go_num, rfl, rfl, by omega, by omega, fun h => by
          have := HD.out h
          have e1 := yI (k := 34) g34
          omega, Eq.trans (by rw [Hx.out, Pj.scan_str (yI (k := 34) g34), HdE.out]) HS.out⟩
    cases g91 : ((x.toNat : Int) == 91)
    case true =>
      go_wp2_with fail
      go_roundg (n - (k + 1))
      case measure => omega
      case rel => exact ⟨k + 1, d + 1, by omega, by go_num, by go_num, rfl, by omega, by omega, fun h => by omega, Eq.trans (by rw [Hx.out, Pj.scan_open (.inl (yI (k := 91) g91))]) HS.out⟩
    cases g123 : ((x.toNat : Int) == 123)
    case true =>
      go_wp2_with fail
      go_roundg (n - (k + 1))
      case measure => omega
      case rel => exact ⟨k + 1, d + 1, by omega, by go_num, by go_num, rfl, by omega, by omega, fun h => by omega, Eq.trans (by rw [Hx.out, Pj.scan_open (.inr (yI (k := 123) g123))]) HS.out⟩
    have hd1 : 1 ≤ d := by
      rcases Nat.eq_zero_or_pos d with h | h
      · have := HD.out h
        have e1 := nI (k := 91) g91
        have e2 := nI (k := 123) g123
        omega
      · exact h
    cases g93 : ((x.toNat : Int) == 93)
    case true =>
      cases hz : ((d : Int) - 1 == 0)
      · have hd2 : ¬ d ≤ 1 := by simp at hz; omega
        go_wp2_with fail
        go_roundg (n - (k + 1))
        case measure => omega
        case rel => exact ⟨k + 1, d - 1, by omega, by go_num, by go_num, rfl, by omega, by omega, fun h => by omega, Eq.trans (by rw [Hx.out, Pj.scan_close (.inl (yI (k := 93) g93)), if_neg hd2]) HS.out⟩
      · have hd2 : d ≤ 1 := by simp at hz; omega
        go_wp2_with fail
        go_ret
        exact hide ⟨k + 1, by first | rfl | (congr 3), rfl, by omega, by omega, by rw [HV.out, ← HS.out, Hx.out, Pj.scan_close (.inl (yI (k := 93) g93)), if_pos hd2]⟩
    cases g125 : ((x.toNat : Int) == 125)
    case true =>
      cases hz : ((d : Int) - 1 == 0)
      · have hd2 : ¬ d ≤ 1 := by simp at hz; omega
        go_wp2_with fail
        go_roundg (n - (k + 1))
        case measure => omega
        case rel => exact ⟨k + 1, d - 1, by omega, by go_num, by go_num, rfl, by omega, by omega, fun h => by omega, Eq.trans (by rw [Hx.out, Pj.scan_close (.inr (yI (k := 125) g125)), if_neg hd2]) HS.out⟩
      · have hd2 : d ≤ 1 := by simp at hz; omega
        go_wp2_with fail
        go_ret
        exact hide ⟨k + 1, by first | rfl | (congr 3), rfl, by omega, by omega, by rw [HV.out, ← HS.out, Hx.out, Pj.scan_close (.inr (yI (k := 125) g125)), if_pos hd2]⟩
    go_wp2_with fail
    go_roundg (n - (k + 1))
    case measure => omega
    case rel => exact ⟨k + 1, d, by omega, by go_num, rfl, rfl, by omega, by omega, fun h => by omega, Eq.trans (by rw [Hx.out, Pj.scan_other (nI (k := 34) g34) (by have e1 := nI (k := 91) g91; have e2 := nI (k := 123) g123; omega) (by have e1 := nI (k := 93) g93; have e2 := nI (k := 125) g125; omega)]) HS.out⟩
end Go.Proofs.Qxb6603514aDoor
