/-
  zzjNumber.
-/
import Derived.Test.Qxb6603514aDoorJb
import Derived.Deep.DeepCutAuto
namespace Go.Proofs.Qxb6603514aDoor
open Go.RowKit
namespace Pj
theorem digs_le (l : List UInt8) : (digs l).length ≤ l.length := by
  induction l with
  | nil => simp [digs]
  | cons c t ih => unfold digs; split <;> simp <;> omega
end Pj
section
variable {tl : List UInt8} {J : Nat} {c : UInt8}
theorem dr_nil (h : tl.length ≤ J) : tl.drop J = [] := List.drop_eq_nil_of_le h
theorem num_minus (h : tl.drop J = c :: tl.drop (J + 1)) (hc : c.toNat = 45) : Pj.numR (tl.drop J) = Pj.intR (tl.drop (J + 1)) := by rw [h, Pj.numR, if_pos hc]
theorem num_plain (h : tl.drop J = c :: tl.drop (J + 1)) (hc : ¬ c.toNat = 45) : Pj.numR (tl.drop J) = Pj.intR (tl.drop J) := by rw [h, Pj.numR, if_neg hc]
theorem int_nil (h : tl.length ≤ J) : Pj.intR (tl.drop J) = none := by rw [dr_nil h]; rfl
theorem int_zero (h : tl.drop J = c :: tl.drop (J + 1)) (hc : c.toNat = 48) : Pj.intR (tl.drop J) = Pj.fracR (tl.drop (J + 1)) := by rw [h, Pj.intR, if_pos hc]
theorem int_dig (h : tl.drop J = c :: tl.drop (J + 1)) (h1 : ¬ c.toNat = 48) (h2 : 49 ≤ c.toNat ∧ c.toNat ≤ 57) : Pj.intR (tl.drop J) = Pj.fracR (Pj.digs (tl.drop J)) := by rw [h, Pj.intR, if_neg h1, if_pos h2]
theorem int_bad (h : tl.drop J = c :: tl.drop (J + 1)) (h1 : ¬ c.toNat = 48) (h2 : ¬ (49 ≤ c.toNat ∧ c.toNat ≤ 57)) : Pj.intR (tl.drop J) = none := by rw [h, Pj.intR, if_neg h1, if_neg h2]
theorem frac_nil (h : tl.length ≤ J) : Pj.fracR (tl.drop J) = Pj.expR (tl.drop J) := by rw [dr_nil h]; rfl
theorem frac_no (h : tl.drop J = c :: tl.drop (J + 1)) (hc : ¬ c.toNat = 46) : Pj.fracR (tl.drop J) = Pj.expR (tl.drop J) := by rw [h, Pj.fracR, if_neg hc]
theorem frac_end (h : tl.drop J = c :: tl.drop (J + 1)) (hc : c.toNat = 46) (h2 : tl.length ≤ J + 1) : Pj.fracR (tl.drop J) = none := by rw [h, Pj.fracR, if_pos hc, dr_nil h2]; rfl
theorem frac_bad {d : UInt8} (h : tl.drop J = c :: tl.drop (J + 1)) (hc : c.toNat = 46) (h2 : tl.drop (J + 1) = d :: tl.drop (J + 1 + 1)) (hd : Pj.dig d = false) : Pj.fracR (tl.drop J) = none := by rw [h, Pj.fracR, if_pos hc, h2, Pj.hd, hd]; rfl
theorem frac_dot {d : UInt8} (h : tl.drop J = c :: tl.drop (J + 1)) (hc : c.toNat = 46) (h2 : tl.drop (J + 1) = d :: tl.drop (J + 1 + 1)) (hd : Pj.dig d = true) : Pj.fracR (tl.drop J) = Pj.expR (Pj.digs (tl.drop (J + 1))) := by
  rw [h, Pj.fracR, if_pos hc, if_pos (by rw [h2, Pj.hd, hd])]
theorem exp_nil (h : tl.length ≤ J) : Pj.expR (tl.drop J) = some (tl.drop J) := by rw [dr_nil h]; rfl
theorem exp_no (h : tl.drop J = c :: tl.drop (J + 1)) (h1 : ¬ c.toNat = 101) (h2 : ¬ c.toNat = 69) : Pj.expR (tl.drop J) = some (tl.drop J) := by rw [h, Pj.expR, if_neg (by omega)]
theorem exp_e (h : tl.drop J = c :: tl.drop (J + 1)) (h1 : c.toNat = 101 ∨ c.toNat = 69) : Pj.expR (tl.drop J) = Pj.expS (tl.drop (J + 1)) := by rw [h, Pj.expR, if_pos h1]
theorem exps_nil (h : tl.length ≤ J) : Pj.expS (tl.drop J) = none := by rw [dr_nil h]; rfl
theorem exps_sign (h : tl.drop J = c :: tl.drop (J + 1)) (h1 : c.toNat = 43 ∨ c.toNat = 45) : Pj.expS (tl.drop J) = Pj.expD (tl.drop (J + 1)) := by rw [h, Pj.expS, if_pos h1]
theorem exps_no (h : tl.drop J = c :: tl.drop (J + 1)) (h1 : ¬ c.toNat = 43) (h2 : ¬ c.toNat = 45) : Pj.expS (tl.drop J) = Pj.expD (tl.drop J) := by rw [h, Pj.expS, if_neg (by omega)]
theorem expd_nil (h : tl.length ≤ J) : Pj.expD (tl.drop J) = none := by rw [dr_nil h]; rfl
theorem expd_bad (h : tl.drop J = c :: tl.drop (J + 1)) (hd : Pj.dig c = false) : Pj.expD (tl.drop J) = none := by rw [h, Pj.expD, Pj.hd, hd]; rfl
theorem expd_ok (h : tl.drop J = c :: tl.drop (J + 1)) (hd : Pj.dig c = true) : Pj.expD (tl.drop J) = some (Pj.digs (tl.drop J)) := by rw [Pj.expD, if_pos (by rw [h, Pj.hd, hd])]
theorem digs_on (h : tl.drop J = c :: tl.drop (J + 1)) (hd : Pj.dig c = true) : Pj.digs (tl.drop J) = Pj.digs (tl.drop (J + 1)) := by rw [h, Pj.digs, if_pos hd]
theorem digs_stop (h : tl.drop J = c :: tl.drop (J + 1)) (hd : Pj.dig c = false) : Pj.digs (tl.drop J) = tl.drop J := by rw [h, Pj.digs, if_neg (by simp [hd])]
theorem digs_end (h : tl.length ≤ J) : Pj.digs (tl.drop J) = tl.drop J := by rw [dr_nil h]; rfl
theorem hd_nil {p : UInt8 → Bool} (h : tl.length ≤ J) : Pj.hd p (tl.drop J) = false := by rw [dr_nil h]; rfl
theorem hd_cons {p : UInt8 → Bool} (h : tl.drop J = c :: tl.drop (J + 1)) : Pj.hd p (tl.drop J) = p c := by rw [h]; rfl
theorem hd_true {p : UInt8 → Bool} (h : Pj.hd p (tl.drop J) = true) : ∃ c, ∃ hJ : J < tl.length, c = tl[J] ∧ p c = true ∧ tl.drop J = c :: tl.drop (J + 1) := by
  rcases Nat.lt_or_ge J tl.length with hJ | hJ
  · exact ⟨_, hJ, rfl, by rw [hd_cons (drop_cons hJ)] at h; exact h, drop_cons hJ⟩
  · rw [hd_nil hJ] at h; cases h
end
def q45 (c : UInt8) : Bool := ((c.toNat : Int) == 45)
def q46 (c : UInt8) : Bool := ((c.toNat : Int) == 46)
def qe (c : UInt8) : Bool := ((c.toNat : Int) == 101) || ((c.toNat : Int) == 69)
def qs (c : UInt8) : Bool := ((c.toNat : Int) == 43) || ((c.toNat : Int) == 45)
theorem qe_y {c : UInt8} (h : qe c = true) : c.toNat = 101 ∨ c.toNat = 69 := by simp [qe] at h; omega
theorem qe_n {c : UInt8} (h : qe c = false) : ¬ c.toNat = 101 ∧ ¬ c.toNat = 69 := by simp [qe] at h; omega
theorem qs_y {c : UInt8} (h : qs c = true) : c.toNat = 43 ∨ c.toNat = 45 := by simp [qs] at h; omega
theorem qs_n {c : UInt8} (h : qs c = false) : ¬ c.toNat = 43 ∧ ¬ c.toNat = 45 := by simp [qs] at h; omega
theorem gt_of {tl : List UInt8} {j k : Nat} {c : UInt8} (h : Pj.digs (tl.drop k) = Pj.digs (tl.drop j)) (hc : tl.drop j = c :: tl.drop (j + 1)) (hd : Pj.dig c = true) (hk : Pj.digs (tl.drop k) = tl.drop k) (hjk : j ≤ k) : j < k := by
  rcases Nat.lt_or_ge j k with h1 | h1
  · exact h1
  · obtain rfl : j = k := by omega
    rw [hc, Pj.digs, if_pos hd] at hk
    have := congrArg List.length hk
    have hle := Pj.digs_le (tl.drop (j + 1))
    rw [List.length_cons] at this
    omega
set_option maxRecDepth 100000 in
set_option maxHeartbeats 16000000 in
theorem num32 (w : World) (b o tc n : Nat) (tl : List UInt8) (hn : n = tl.length) (hT : Tx w b o tl) (hN : n ≤ 100000000000000) (i : Nat) (hi : i < n) :
    Calls Tryd.prog 32 #[.slice (some ⟨b, o, none⟩) n tc, .int .i64 i] w fun e w' => Hid (w' = w ∧ Out tl i (Pj.numR (tl.drop i)) e) := by
  have HT := hide hT
  have HN := hide hn
  clear hT hn
  go_enter Tryd.func32, Tryd.ntmps32
  obtain ⟨m1, hm1⟩ : ∃ m, m = Pj.hd q45 (tl.drop (i)) := ⟨_, rfl⟩
  have Hm1 := hide hm1
  clear hm1
  go_upto_region 2 with fail
  go_cut [18] from 8 to 17 (fun s wx => w = wx ∧ s = .bool m1)
  case first =>
    by_cases hJ : i < n
    · obtain ⟨cc, hc⟩ : ∃ c, c = tl[i]'(by rw [← HN.out]; omega) := ⟨_, rfl⟩
      have xcc : w.cell? ⟨b, o + (i), none⟩ = some (.int .u8 cc.toNat) := by rw [hc]; exact HT.out.cell (i) (by rw [← HN.out]; omega)
      have Hcc : Hid (tl.drop (i) = cc :: tl.drop (i + 1)) := by rw [hc]; exact drop_cons (by rw [← HN.out]; omega)
      clear hc
      cases hv : ((cc.toNat : Int) == 45)
      · go_wp2_with fail
        go_meet
        exact ⟨rfl, by rw [Hm1.out, hd_cons Hcc.out, q45, hv]⟩
      · go_wp2_with fail
        go_meet
        exact ⟨rfl, by rw [Hm1.out, hd_cons Hcc.out, q45, hv]⟩
    · exact absurd hi hJ
  obtain ⟨rfl, rfl⟩ := hcut
  go_upto_if 18 with fail
  go_cut [6] from 18 to 20 (fun s wx => w = wx ∧ ∃ j : Nat, s = .int .i64 j ∧ i ≤ j ∧ j ≤ n ∧ Hid (Pj.numR (tl.drop i) = Pj.intR (tl.drop j)))
  case first =>
    cases hm : m1
    · subst hm
      go_wp2_with fail
      go_meet
      exact ⟨rfl, i, rfl, by omega, by omega, num_plain (drop_cons (by rw [← HN.out]; omega)) (nI (k := 45) ((hd_cons (drop_cons (by rw [← HN.out]; omega))).symm.trans Hm1.out.symm))⟩
    · subst hm
      go_wp2_with fail
      go_meet
      exact ⟨rfl, i + 1, by go_num, by omega, by omega, num_minus (drop_cons (by rw [← HN.out]; omega)) (yI (k := 45) ((hd_cons (drop_cons (by rw [← HN.out]; omega))).symm.trans Hm1.out.symm))⟩
  obtain ⟨rfl, j, rfl, hij, hjn, HS⟩ := hcut
  clear Hm1
  by_cases hj : j < n
  case neg =>
    have hge : decide (n ≤ j) = true := by simp; omega
    go_wp2_with fail
    go_ret2
    exact hide ⟨rfl, .inl ⟨_, rfl, by rw [HS.out, int_nil (by rw [← HN.out]; omega)]⟩⟩
  have hge : decide (n ≤ j) = false := by simp; omega
  obtain ⟨c, hc⟩ : ∃ c, c = tl[j]'(by rw [← HN.out]; omega) := ⟨_, rfl⟩
  have xc : w.cell? ⟨b, o + (j), none⟩ = some (.int .u8 c.toNat) := by rw [hc]; exact HT.out.cell (j) (by rw [← HN.out]; omega)
  have Hc : Hid (tl.drop (j) = c :: tl.drop (j + 1)) := by rw [hc]; exact drop_cons (by rw [← HN.out]; omega)
  clear hc
  go_upto_if 29 with fail
  go_cut [6] from 25 to 56 (fun s wx => w = wx ∧ ∃ j2 : Nat, s = .int .i64 j2 ∧ j < j2 ∧ j2 ≤ n ∧ Hid (Pj.numR (tl.drop i) = Pj.fracR (tl.drop j2)))
  case first =>
    cases h48 : ((c.toNat : Int) == 48)
    case true =>
      go_wp2_with fail
      go_meet
      exact ⟨rfl, j + 1, by go_num, by omega, by omega, HS.out.trans (int_zero Hc.out (yI (k := 48) h48))⟩
    by_cases hg : (49 : Int) ≤ (c.toNat : Int)
    case neg =>
      have hG : decide ((49 : Int) ≤ (c.toNat : Int)) = false := decide_eq_false hg
      go_wp2_with fail
      go_ret2
      exact hide ⟨rfl, .inl ⟨_, rfl, by rw [HS.out, int_bad Hc.out (nI (k := 48) h48) (by omega)]⟩⟩
    by_cases hl : (c.toNat : Int) ≤ 57
    case neg =>
      have hM : decide ((c.toNat : Int) ≤ 57) = false := decide_eq_false hl
      go_wp2_with fail
      go_ret2
      exact hide ⟨rfl, .inl ⟨_, rfl, by rw [HS.out, int_bad Hc.out (nI (k := 48) h48) (by omega)]⟩⟩
    have HS2 := hide (HS.out.trans (int_dig Hc.out (nI (k := 48) h48) (by omega)))
    have Hdc : Hid (Pj.dig c = true) := by show _ = _; rw [dig_i]; simp only [Bool.and_eq_true, decide_eq_true_eq]; omega
    go_wp2_with fail
    go_loopg [6] (n - (j)) (fun g c6 wx => ∃ k : Nat, k + g = n ∧ c6 = .int .i64 k ∧ w = wx ∧ j ≤ k ∧ Hid (Pj.digs (tl.drop k) = Pj.digs (tl.drop (j))))
    case atStart => exact ⟨j, by omega, by go_num, rfl, by omega, (rfl : _ = _)⟩
    case round =>
      obtain ⟨k, hkg, rfl, rfl, hJk, HD⟩ := hrel
      by_cases hkn : k < n
      case pos =>
        obtain ⟨cd, hc⟩ : ∃ c, c = tl[k]'(by rw [← HN.out]; omega) := ⟨_, rfl⟩
        have xcd : w.cell? ⟨b, o + (k), none⟩ = some (.int .u8 cd.toNat) := by rw [hc]; exact HT.out.cell (k) (by rw [← HN.out]; omega)
        have Hcd : Hid (tl.drop (k) = cd :: tl.drop (k + 1)) := by rw [hc]; exact drop_cons (by rw [← HN.out]; omega)
        clear hc
        cases hdd : Pj.dig cd
        case true =>
          go_wp2_with (go_at_call 38; refine (dig38 _ _).mono ?_; rintro e w' ⟨rfl, rfl⟩)
          go_roundg (n - (k + 1))
          case measure => omega
          case rel => exact ⟨k + 1, by omega, rfl, rfl, by omega, (digs_on Hcd.out hdd).symm.trans HD.out⟩
        go_wp2_with (go_at_call 38; refine (dig38 _ _).mono ?_; rintro e w' ⟨rfl, rfl⟩)
        go_meet
        exact ⟨rfl, k, rfl, gt_of HD.out Hc.out Hdc.out (digs_stop Hcd.out hdd) hJk, by omega, HS2.out.trans (congrArg Pj.fracR (HD.out.symm.trans (digs_stop Hcd.out hdd)))⟩
      go_wp2_with fail
      go_meet
      exact ⟨rfl, k, rfl, gt_of HD.out Hc.out Hdc.out (digs_end (J := k) (by rw [← HN.out]; omega)) hJk, by omega, HS2.out.trans (congrArg Pj.fracR (HD.out.symm.trans (digs_end (J := k) (by rw [← HN.out]; omega))))⟩
  obtain ⟨rfl, j2, rfl, hjj, hj2n, HF⟩ := hcut
  clear HS
  obtain ⟨m4, hm4⟩ : ∃ m, m = Pj.hd q46 (tl.drop (j2)) := ⟨_, rfl⟩
  have Hm4 := hide hm4
  clear hm4
  go_upto_region 12 with fail
  go_cut [67] from 57 to 66 (fun s wx => w = wx ∧ s = .bool m4)
  case first =>
    by_cases hJ : j2 < n
    · obtain ⟨cc, hc⟩ : ∃ c, c = tl[j2]'(by rw [← HN.out]; omega) := ⟨_, rfl⟩
      have xcc : w.cell? ⟨b, o + (j2), none⟩ = some (.int .u8 cc.toNat) := by rw [hc]; exact HT.out.cell (j2) (by rw [← HN.out]; omega)
      have Hcc : Hid (tl.drop (j2) = cc :: tl.drop (j2 + 1)) := by rw [hc]; exact drop_cons (by rw [← HN.out]; omega)
      clear hc
      cases hv : ((cc.toNat : Int) == 46)
      · go_wp2_with fail
        go_meet
        exact ⟨rfl, by rw [Hm4.out, hd_cons Hcc.out, q46, hv]⟩
      · go_wp2_with fail
        go_meet
        exact ⟨rfl, by rw [Hm4.out, hd_cons Hcc.out, q46, hv]⟩
    · go_wp2_with fail
      go_meet
      exact ⟨rfl, by rw [Hm4.out, hd_nil (by rw [← HN.out]; omega)]⟩
  obtain ⟨rfl, rfl⟩ := hcut
  go_upto_if 67 with fail
  go_cut [6] from 67 to 94 (fun s wx => w = wx ∧ ∃ j3 : Nat, s = .int .i64 j3 ∧ j2 ≤ j3 ∧ j3 ≤ n ∧ Hid (Pj.numR (tl.drop i) = Pj.expR (tl.drop j3)))
  case first =>
    cases hm : m4
    · subst hm
      go_wp2_with fail
      go_meet
      refine ⟨rfl, j2, rfl, by omega, by omega, HF.out.trans ?_⟩
      rcases Nat.lt_or_ge j2 n with hlt | hge2
      · exact frac_no (drop_cons (by rw [← HN.out]; omega)) (nI (k := 46) ((hd_cons (drop_cons (by rw [← HN.out]; omega))).symm.trans Hm4.out.symm))
      · exact frac_nil (by rw [← HN.out]; omega)
    · subst hm
      obtain ⟨cp, hlt, hcp, hqp, hdp⟩ := hd_true Hm4.out.symm
      have hlt2 : j2 < n := by rw [HN.out]; exact hlt
      have Hdp := hide hdp
      have Hqp := hide hqp
      have HS := hide (HF.out)
      clear hcp hdp hqp
      by_cases hJ : j2 + 1 < n
      case neg =>
        have hge : decide (n ≤ j2 + 1) = true := by simp; omega
        go_wp2_with fail
        go_ret2
        exact hide ⟨rfl, .inl ⟨_, rfl, by rw [HS.out, frac_end Hdp.out (yI (k := 46) Hqp.out) (by rw [← HN.out]; omega)]⟩⟩
      have hge : decide (n ≤ j2 + 1) = false := by simp; omega
      obtain ⟨ca, hc⟩ : ∃ c, c = tl[j2 + 1]'(by rw [← HN.out]; omega) := ⟨_, rfl⟩
      have xca : w.cell? ⟨b, o + (j2 + 1), none⟩ = some (.int .u8 ca.toNat) := by rw [hc]; exact HT.out.cell (j2 + 1) (by rw [← HN.out]; omega)
      have Hca : Hid (tl.drop (j2 + 1) = ca :: tl.drop (j2 + 1 + 1)) := by rw [hc]; exact drop_cons (by rw [← HN.out]; omega)
      clear hc
      cases hda : Pj.dig ca
      case false =>
        go_wp2_with (go_at_call 38; refine (dig38 _ _).mono ?_; rintro e w' ⟨rfl, rfl⟩)
        go_ret2
        exact hide ⟨rfl, .inl ⟨_, rfl, by rw [HS.out, frac_bad Hdp.out (yI (k := 46) Hqp.out) Hca.out hda]⟩⟩
      have HS2 := hide (HF.out.trans (frac_dot Hdp.out (yI (k := 46) Hqp.out) Hca.out hda))
      go_wp2_with (go_at_call 38; refine (dig38 _ _).mono ?_; rintro e w' ⟨rfl, rfl⟩)
      go_loopg [6] (n - (j2 + 1)) (fun g c6 wx => ∃ k : Nat, k + g = n ∧ c6 = .int .i64 k ∧ w = wx ∧ j2 + 1 ≤ k ∧ Hid (Pj.digs (tl.drop k) = Pj.digs (tl.drop (j2 + 1))))
      case atStart => exact ⟨j2 + 1, by omega, by go_num, rfl, by omega, (rfl : _ = _)⟩
      case round =>
        obtain ⟨k, hkg, rfl, rfl, hJk, HD⟩ := hrel
        by_cases hkn : k < n
        case pos =>
          obtain ⟨cd, hc⟩ : ∃ c, c = tl[k]'(by rw [← HN.out]; omega) := ⟨_, rfl⟩
          have xcd : w.cell? ⟨b, o + (k), none⟩ = some (.int .u8 cd.toNat) := by rw [hc]; exact HT.out.cell (k) (by rw [← HN.out]; omega)
          have Hcd : Hid (tl.drop (k) = cd :: tl.drop (k + 1)) := by rw [hc]; exact drop_cons (by rw [← HN.out]; omega)
          clear hc
          cases hdd : Pj.dig cd
          case true =>
            go_wp2_with (go_at_call 38; refine (dig38 _ _).mono ?_; rintro e w' ⟨rfl, rfl⟩)
            go_roundg (n - (k + 1))
            case measure => omega
            case rel => exact ⟨k + 1, by omega, rfl, rfl, by omega, (digs_on Hcd.out hdd).symm.trans HD.out⟩
          go_wp2_with (go_at_call 38; refine (dig38 _ _).mono ?_; rintro e w' ⟨rfl, rfl⟩)
          go_meet
          exact ⟨rfl, k, rfl, by omega, by omega, HS2.out.trans (congrArg Pj.expR (HD.out.symm.trans (digs_stop Hcd.out hdd)))⟩
        go_wp2_with fail
        go_meet
        exact ⟨rfl, k, rfl, by omega, by omega, HS2.out.trans (congrArg Pj.expR (HD.out.symm.trans (digs_end (J := k) (by rw [← HN.out]; omega))))⟩
  obtain ⟨rfl, j3, rfl, hj23, hj3n, HE⟩ := hcut
  clear HF
  obtain ⟨m5, hm5⟩ : ∃ m, m = Pj.hd qe (tl.drop (j3)) := ⟨_, rfl⟩
  have Hm5 := hide hm5
  clear hm5
  go_upto_region 18 with fail
  go_cut [112] from 95 to 111 (fun s wx => w = wx ∧ s = .bool m5)
  case first =>
    by_cases hJ : j3 < n
    · obtain ⟨cc, hc⟩ : ∃ c, c = tl[j3]'(by rw [← HN.out]; omega) := ⟨_, rfl⟩
      have xcc : w.cell? ⟨b, o + (j3), none⟩ = some (.int .u8 cc.toNat) := by rw [hc]; exact HT.out.cell (j3) (by rw [← HN.out]; omega)
      have Hcc : Hid (tl.drop (j3) = cc :: tl.drop (j3 + 1)) := by rw [hc]; exact drop_cons (by rw [← HN.out]; omega)
      clear hc
      cases hv : ((cc.toNat : Int) == 101)
      · cases hu : ((cc.toNat : Int) == 69)
        · go_wp2_with fail
          go_meet
          exact ⟨rfl, by rw [Hm5.out, hd_cons Hcc.out, qe, hv, hu]; rfl⟩
        · go_wp2_with fail
          go_meet
          exact ⟨rfl, by rw [Hm5.out, hd_cons Hcc.out, qe, hv, hu]; rfl⟩
      · go_wp2_with fail
        go_meet
        exact ⟨rfl, by rw [Hm5.out, hd_cons Hcc.out, qe, hv]; rfl⟩
    · go_wp2_with fail
      go_meet
      exact ⟨rfl, by rw [Hm5.out, hd_nil (by rw [← HN.out]; omega)]⟩
  obtain ⟨rfl, rfl⟩ := hcut
  go_upto_if 112 with fail
  go_cut [6] from 112 to 159 (fun s wx => w = wx ∧ ∃ j4 : Nat, s = .int .i64 j4 ∧ j3 ≤ j4 ∧ j4 ≤ n ∧ Hid (Pj.numR (tl.drop i) = some (tl.drop j4)))
  case first =>
    cases hm : m5
    · subst hm
      go_wp2_with fail
      go_meet
      refine ⟨rfl, j3, rfl, by omega, by omega, HE.out.trans ?_⟩
      rcases Nat.lt_or_ge j3 n with hlt | hge2
      · have hq := qe_n ((hd_cons (drop_cons (by rw [← HN.out]; omega))).symm.trans Hm5.out.symm)
        exact exp_no (drop_cons (by rw [← HN.out]; omega)) hq.1 hq.2
      · exact exp_nil (by rw [← HN.out]; omega)
    · subst hm
      obtain ⟨cp, hlt, hcp, hqp, hdp⟩ := hd_true Hm5.out.symm
      have hlt2 : j3 < n := by rw [HN.out]; exact hlt
      have HX := hide (HE.out.trans (exp_e hdp (qe_y hqp)))
      clear hcp hdp hqp
      obtain ⟨m6, hm6⟩ : ∃ m, m = Pj.hd qs (tl.drop (j3 + 1)) := ⟨_, rfl⟩
      have Hm6 := hide hm6
      clear hm6
      go_upto_region 20 with fail
      go_cut [132] from 115 to 131 (fun s wx => w = wx ∧ s = .bool m6)
      case first =>
        by_cases hJ : j3 + 1 < n
        · obtain ⟨cc, hc⟩ : ∃ c, c = tl[j3 + 1]'(by rw [← HN.out]; omega) := ⟨_, rfl⟩
          have xcc : w.cell? ⟨b, o + (j3 + 1), none⟩ = some (.int .u8 cc.toNat) := by rw [hc]; exact HT.out.cell (j3 + 1) (by rw [← HN.out]; omega)
          have Hcc : Hid (tl.drop (j3 + 1) = cc :: tl.drop (j3 + 1 + 1)) := by rw [hc]; exact drop_cons (by rw [← HN.out]; omega)
          clear hc
          cases hv : ((cc.toNat : Int) == 43)
          · cases hu : ((cc.toNat : Int) == 45)
            · go_wp2_with fail
              go_meet
              exact ⟨rfl, by rw [Hm6.out, hd_cons Hcc.out, qs, hv, hu]; rfl⟩
            · go_wp2_with fail
              go_meet
              exact ⟨rfl, by rw [Hm6.out, hd_cons Hcc.out, qs, hv, hu]; rfl⟩
          · go_wp2_with fail
            go_meet
            exact ⟨rfl, by rw [Hm6.out, hd_cons Hcc.out, qs, hv]; rfl⟩
        · go_wp2_with fail
          go_meet
          exact ⟨rfl, by rw [Hm6.out, hd_nil (by rw [← HN.out]; omega)]⟩
      obtain ⟨rfl, rfl⟩ := hcut
      go_upto_if 132 with fail
      go_cut [6] from 132 to 134 (fun s wx => w = wx ∧ ∃ j5 : Nat, s = .int .i64 j5 ∧ j3 < j5 ∧ j5 ≤ n ∧ Hid (Pj.numR (tl.drop i) = Pj.expD (tl.drop j5)))
      case first =>
        cases hm : m6
        · subst hm
          go_wp2_with fail
          go_meet
          refine ⟨rfl, j3 + 1, by go_num, by omega, by omega, HX.out.trans ?_⟩
          rcases Nat.lt_or_ge (j3 + 1) n with hlt | hge2
          · have hq := qs_n ((hd_cons (drop_cons (by rw [← HN.out]; omega))).symm.trans Hm6.out.symm)
            exact exps_no (drop_cons (by rw [← HN.out]; omega)) hq.1 hq.2
          · rw [exps_nil (by rw [← HN.out]; omega), expd_nil (by rw [← HN.out]; omega)]
        · subst hm
          obtain ⟨cq, hlu, hcq, hqq, hdq⟩ := hd_true Hm6.out.symm
          have HY := hide (HX.out.trans (exps_sign hdq (qs_y hqq)))
          have hlu2 : j3 + 1 < n := by rw [HN.out]; exact hlu
          clear hcq hdq hqq
          go_wp2_with fail
          go_meet
          exact ⟨rfl, j3 + 1 + 1, by go_num, by omega, by omega, HY.out⟩
      obtain ⟨rfl, j5, rfl, hj35, hj5n, HS⟩ := hcut
      by_cases hJ : j5 < n
      case neg =>
        have hge : decide (n ≤ j5) = true := by simp; omega
        go_wp2_with fail
        go_ret2
        exact hide ⟨rfl, .inl ⟨_, rfl, by rw [HS.out, expd_nil (by rw [← HN.out]; omega)]⟩⟩
      have hge : decide (n ≤ j5) = false := by simp; omega
      obtain ⟨ca, hc⟩ : ∃ c, c = tl[j5]'(by rw [← HN.out]; omega) := ⟨_, rfl⟩
      have xca : w.cell? ⟨b, o + (j5), none⟩ = some (.int .u8 ca.toNat) := by rw [hc]; exact HT.out.cell (j5) (by rw [← HN.out]; omega)
      have Hca : Hid (tl.drop (j5) = ca :: tl.drop (j5 + 1)) := by rw [hc]; exact drop_cons (by rw [← HN.out]; omega)
      clear hc
      cases hda : Pj.dig ca
      case false =>
        go_wp2_with (go_at_call 38; refine (dig38 _ _).mono ?_; rintro e w' ⟨rfl, rfl⟩)
        go_ret2
        exact hide ⟨rfl, .inl ⟨_, rfl, by rw [HS.out, expd_bad Hca.out hda]⟩⟩
      have HS2 := hide (HS.out.trans (expd_ok Hca.out hda))
      go_wp2_with (go_at_call 38; refine (dig38 _ _).mono ?_; rintro e w' ⟨rfl, rfl⟩)
      go_loopg [6] (n - (j5)) (fun g c6 wx => ∃ k : Nat, k + g = n ∧ c6 = .int .i64 k ∧ w = wx ∧ j5 ≤ k ∧ Hid (Pj.digs (tl.drop k) = Pj.digs (tl.drop (j5))))
      case atStart => exact ⟨j5, by omega, by go_num, rfl, by omega, (rfl : _ = _)⟩
      case round =>
        obtain ⟨k, hkg, rfl, rfl, hJk, HD⟩ := hrel
        by_cases hkn : k < n
        case pos =>
          obtain ⟨cd, hc⟩ : ∃ c, c = tl[k]'(by rw [← HN.out]; omega) := ⟨_, rfl⟩
          have xcd : w.cell? ⟨b, o + (k), none⟩ = some (.int .u8 cd.toNat) := by rw [hc]; exact HT.out.cell (k) (by rw [← HN.out]; omega)
          have Hcd : Hid (tl.drop (k) = cd :: tl.drop (k + 1)) := by rw [hc]; exact drop_cons (by rw [← HN.out]; omega)
          clear hc
          cases hdd : Pj.dig cd
          case true =>
            go_wp2_with (go_at_call 38; refine (dig38 _ _).mono ?_; rintro e w' ⟨rfl, rfl⟩)
            go_roundg (n - (k + 1))
            case measure => omega
            case rel => exact ⟨k + 1, by omega, rfl, rfl, by omega, (digs_on Hcd.out hdd).symm.trans HD.out⟩
          go_wp2_with (go_at_call 38; refine (dig38 _ _).mono ?_; rintro e w' ⟨rfl, rfl⟩)
          go_meet
          exact ⟨rfl, k, rfl, by omega, by omega, HS2.out.trans (congrArg some (HD.out.symm.trans (digs_stop Hcd.out hdd)))⟩
        go_wp2_with fail
        go_meet
        exact ⟨rfl, k, rfl, by omega, by omega, HS2.out.trans (congrArg some (HD.out.symm.trans (digs_end (J := k) (by rw [← HN.out]; omega))))⟩
  obtain ⟨rfl, j4, rfl, hj34, hj4n, HZ⟩ := hcut
  go_wp2_with fail
  go_ret2
  exact hide ⟨rfl, .inr ⟨j4, rfl, by omega, by rw [← HN.out]; omega, HZ.out⟩⟩
end Go.Proofs.Qxb6603514aDoor
