/-
  isSpace, skipSpace, kindAt, stringEnd (longer texts), zzNoSpaceOutsideStrings.
-/
import Derived.Test.Qxb6603514aDoorJh
namespace Go.Proofs.Qxb6603514aDoor
open Go.RowKit
theorem ws_le {c : UInt8} (h : Pl.ws c = true) : (c.toNat : Int) ≤ 32 := by
  unfold Pl.ws at h; simp at h; omega
theorem is41 (c : UInt8) (w : World) : Calls Tryd.prog 41 #[.int .u8 c.toNat] w fun e w' => e = .returned (.bool (Pl.ws c)) ∧ w = w' := by
  have H := hide (ws_i c)
  cases h1 : ((c.toNat : Int) == 32)
  · cases h2 : ((c.toNat : Int) == 9)
    · cases h3 : ((c.toNat : Int) == 10)
      · cases h4 : ((c.toNat : Int) == 13)
        all_goals
          go_enter Tryd.func41, Tryd.ntmps41
          go_wp2
          go_ret
          exact ⟨ret_bool (by rw [H.out, h1, h2, h3, h4]; rfl), rfl⟩
      · go_enter Tryd.func41, Tryd.ntmps41
        go_wp2
        go_ret
        exact ⟨ret_bool (by rw [H.out, h3]; simp), rfl⟩
    · go_enter Tryd.func41, Tryd.ntmps41
      go_wp2
      go_ret
      exact ⟨ret_bool (by rw [H.out, h2]; simp), rfl⟩
  · go_enter Tryd.func41, Tryd.ntmps41
    go_wp2
    go_ret
    exact ⟨ret_bool (by rw [H.out, h1]; simp), rfl⟩

set_option maxHeartbeats 1000000 in
theorem end28b (b o tc : Nat) (tl : List UInt8) (k : Nat) (hk : k < tl.length) (hl : tl.length ≤ 100000000) (w : World)
    (hcs : ∀ j (hj : j < tl.length), w.cell? ⟨b, o + j, none⟩ = some (.int .u8 tl[j].toNat)) :
    Calls Tryd.prog 28 #[.slice (some ⟨b, o, none⟩) tl.length tc, .int .i64 k] w fun e w' => e = .returned (.int .i64 (endOf tl (k + 1) : Nat)) ∧ w = w' := by
  have HC := hide hcs
  obtain ⟨n, hn⟩ : ∃ n, n = tl.length := ⟨_, rfl⟩
  rw [← hn] at hk hl ⊢
  have HN := hide hn
  clear hcs hn
  obtain ⟨E, hE⟩ : ∃ E, E = endOf tl (k + 1) := ⟨_, rfl⟩
  rw [← hE]
  have HE := hide hE
  clear hE
  go_enter Tryd.func28, Tryd.ntmps28
  go_wp2_with fail
  go_loopg [1] (n + 1 - (k + 1)) (fun g c1 wx => ∃ j : Nat, j ≤ n + 1 ∧ g = n + 1 - j ∧ c1 = .int .i64 j ∧ Hid (E = endOf tl j) ∧ w = wx)
  case atStart => exact ⟨k + 1, by omega, rfl, rfl, HE, rfl⟩
  case round =>
    obtain ⟨j, hj, rfl, rfl, HJ, rfl⟩ := hrel
    by_cases hlt : j < n
    · have hlt2 : j < tl.length := by rw [← HN.out]; exact hlt
      obtain ⟨c, hc⟩ : ∃ c, c = tl[j] := ⟨_, rfl⟩
      have hcell : w.cell? ⟨b, o + j, none⟩ = some (.int .u8 c.toNat) := by rw [hc]; exact HC.out j hlt2
      have Hc := hide hc
      clear hc
      cases h92 : ((c.toNat : Int) == 92)
      · cases h34 : ((c.toNat : Int) == 34)
        · go_wp2_with fail
          go_roundg (n + 1 - (j + 1))
          case measure => omega
          case rel => exact ⟨j + 1, by omega, rfl, rfl, HJ.out.trans (end_other hlt2 Hc.out h92 h34), rfl⟩
        · go_wp2_with fail
          go_ret
          exact ⟨ret_i64 (by rw [HJ.out, end_close hlt2 Hc.out h34]; simp), rfl⟩
      · go_wp2_with fail
        go_roundg (n + 1 - (j + 2))
        case measure => omega
        case rel => exact ⟨j + 2, by omega, rfl, by go_num, HJ.out.trans (end_esc hlt2 Hc.out h92), rfl⟩
    · go_wp2_with fail
      go_ret
      exact ⟨ret_i64 (by rw [HJ.out, end_over (by rw [← HN.out]; exact hlt), HN.out]), rfl⟩
theorem skip34 (w : World) (b o tc n : Nat) (tl : List UInt8) (hn : n = tl.length) (hT : Tx w b o tl) (hN : n ≤ 100000000000000) (i : Nat) (hi : i ≤ n) :
    Calls Tryd.prog 34 #[.slice (some ⟨b, o, none⟩) n tc, .int .i64 i] w fun e w' => Hid (∃ j : Nat, e = .returned (.int .i64 j) ∧ w' = w ∧ i ≤ j ∧ j ≤ n ∧ tl.drop j = Pj.skip (tl.drop i)) := by
  have HT := hide hT
  have HN := hide hn
  clear hT hn
  go_enter Tryd.func34, Tryd.ntmps34
  go_wp2_with fail
  go_loopg [1] (n - i) (fun g c1 wx => ∃ k : Nat, k + g = n ∧ c1 = .int .i64 k ∧ wx = w ∧ i ≤ k ∧ Hid (Pj.skip (tl.drop k) = Pj.skip (tl.drop i)))
  case atStart => exact ⟨i, by omega, rfl, rfl, by omega, (rfl : _ = _)⟩
  case round =>
    obtain ⟨k, hkg, rfl, rfl, hik, HS⟩ := hrel
    by_cases hk : k < n
    · have hk2 : k < tl.length := by rw [← HN.out]; exact hk
      obtain ⟨c, hc⟩ : ∃ c, c = tl[k] := ⟨_, rfl⟩
      have hcell : wr.cell? ⟨b, o + k, none⟩ = some (.int .u8 c.toNat) := by rw [hc]; exact HT.out.cell k hk2
      have Hc := hide hc
      clear hc
      cases hw : Pl.ws c
      · by_cases h32 : (c.toNat : Int) ≤ 32
        case neg =>
          go_wp2_with fail
          go_ret
          exact hide ⟨k, rfl, rfl, hik, by omega, (skip_stop hk2 Hc.out hw).trans HS.out⟩
        go_wp2_with (go_at_call 41; refine (is41 _ _).mono ?_; rintro e w' ⟨rfl, rfl⟩)
        go_ret
        exact hide ⟨k, rfl, rfl, hik, by omega, (skip_stop hk2 Hc.out hw).trans HS.out⟩
      · have h32 : (c.toNat : Int) ≤ 32 := ws_le hw
        go_wp2_with (go_at_call 41; refine (is41 _ _).mono ?_; rintro e w' ⟨rfl, rfl⟩)
        go_roundg (n - (k + 1))
        case measure => omega
        case rel => exact ⟨k + 1, by omega, rfl, rfl, by omega, (skip_ws hk2 Hc.out hw).symm.trans HS.out⟩
    · go_wp2_with fail
      go_ret
      exact hide ⟨k, rfl, rfl, hik, by omega, (skip_end (by rw [← HN.out]; omega)).trans HS.out⟩
namespace Pj
def kindAt (c : UInt8) : Nat := if c.toNat = 123 then 6 else if c.toNat = 91 then 5 else if c.toNat = 34 then 4 else if c.toNat = 116 ∨ c.toNat = 102 then 2 else if c.toNat = 110 then 1 else 3
def nsp : Bool → Bool → List UInt8 → Bool
  | _, _, [] => true
  | true, true, _ :: t => nsp true false t
  | true, false, c :: t => if c.toNat = 92 then nsp true true t else if c.toNat = 34 then nsp false false t else nsp true false t
  | false, e, c :: t => if Pl.ws c then false else if c.toNat = 34 then nsp true e t else nsp false e t
end Pj
theorem kind36 (c : UInt8) (w : World) : Calls Tryd.prog 36 #[.int .u8 c.toNat] w fun e w' => e = .returned (.int .i64 (Pj.kindAt c : Nat)) ∧ w = w' := by
  cases h123 : ((c.toNat : Int) == 123)
  case true =>
    have HK : Hid (Pj.kindAt c = 6) := by show _ = _; simp [Pj.kindAt, yI (k := 123) h123]
    go_enter Tryd.func36, Tryd.ntmps36
    go_wp2
    go_ret
    exact ⟨by rw [HK.out]; rfl, rfl⟩
  cases h91 : ((c.toNat : Int) == 91)
  case true =>
    have HK : Hid (Pj.kindAt c = 5) := by show _ = _; simp [Pj.kindAt, yI (k := 91) h91]
    go_enter Tryd.func36, Tryd.ntmps36
    go_wp2
    go_ret
    exact ⟨by rw [HK.out]; rfl, rfl⟩
  cases h34 : ((c.toNat : Int) == 34)
  case true =>
    have HK : Hid (Pj.kindAt c = 4) := by show _ = _; simp [Pj.kindAt, yI (k := 34) h34]
    go_enter Tryd.func36, Tryd.ntmps36
    go_wp2
    go_ret
    exact ⟨by rw [HK.out]; rfl, rfl⟩
  cases h116 : ((c.toNat : Int) == 116)
  case true =>
    have HK : Hid (Pj.kindAt c = 2) := by show _ = _; simp [Pj.kindAt, yI (k := 116) h116]
    go_enter Tryd.func36, Tryd.ntmps36
    go_wp2
    go_ret
    exact ⟨by rw [HK.out]; rfl, rfl⟩
  cases h102 : ((c.toNat : Int) == 102)
  case true =>
    have HK : Hid (Pj.kindAt c = 2) := by show _ = _; simp [Pj.kindAt, yI (k := 102) h102]
    go_enter Tryd.func36, Tryd.ntmps36
    go_wp2
    go_ret
    exact ⟨by rw [HK.out]; rfl, rfl⟩
  cases h110 : ((c.toNat : Int) == 110)
  case true =>
    have HK : Hid (Pj.kindAt c = 1) := by show _ = _; simp [Pj.kindAt, yI (k := 110) h110]
    go_enter Tryd.func36, Tryd.ntmps36
    go_wp2
    go_ret
    exact ⟨by rw [HK.out]; rfl, rfl⟩
  have HK : Hid (Pj.kindAt c = 3) := by show _ = _; simp [Pj.kindAt, nI (k := 123) h123, nI (k := 91) h91, nI (k := 34) h34, nI (k := 116) h116, nI (k := 102) h102, nI (k := 110) h110]
  go_enter Tryd.func36, Tryd.ntmps36
  go_wp2
  go_ret
  exact ⟨by rw [HK.out]; rfl, rfl⟩
set_option maxHeartbeats 4000000 in
theorem nsp17 (w : World) (b o tc n : Nat) (tl : List UInt8) (hn : n = tl.length) (hT : Tx w b o tl) (hN : n ≤ 100000000) :
    Calls Tryd.prog 17 #[.slice (some ⟨b, o, none⟩) n tc] w fun e w' => Hid (e = .returned (.bool (Pj.nsp false false tl)) ∧ w' = w) := by
  have HT := hide hT
  have HN := hide hn
  clear hT hn
  go_enter Tryd.func17, Tryd.ntmps17
  go_wp2_with fail
  go_loopg [3, 4, 5] n (fun g c3 c4 c5 wx => ∃ (k : Nat) (a e : Bool), k + g = n ∧ c3 = .bool a ∧ c4 = .bool e ∧ c5 = .int .i64 k ∧ w = wx ∧ Hid (Pj.nsp false false tl = Pj.nsp a e (tl.drop k)))
  case atStart => exact ⟨0, false, false, by omega, rfl, rfl, rfl, rfl, (rfl : _ = _)⟩
  case round =>
    obtain ⟨k, a, e, hkg, rfl, rfl, rfl, rfl, HS⟩ := hrel
    by_cases hk : k < n
    case neg =>
      have HE : Hid (Pj.nsp false false tl = true) := HS.out.trans (by rw [dr_nil (by rw [← HN.out]; omega)]; cases a <;> cases e <;> rfl)
      go_wp2_with fail
      go_ret
      exact hide ⟨by rw [HE.out]; rfl, rfl⟩
    obtain ⟨c, hc⟩ : ∃ c, c = tl[k]'(by rw [← HN.out]; omega) := ⟨_, rfl⟩
    have xc : w.cell? ⟨b, o + k, none⟩ = some (.int .u8 c.toNat) := by rw [hc]; exact HT.out.cell k (by rw [← HN.out]; omega)
    have HS2 : Hid (Pj.nsp false false tl = Pj.nsp a e (c :: tl.drop (k + 1))) := HS.out.trans (by rw [hc, ← drop_cons])
    clear hc HS
    cases a
    · cases hw : Pl.ws c
      · cases h34 : ((c.toNat : Int) == 34)
        · go_wp2_with (go_at_call 22; refine (ws22 _ _).mono ?_; rintro e w' ⟨rfl, rfl⟩)
          go_roundg (n - (k + 1))
          case measure => omega
          case rel => exact ⟨k + 1, false, e, by omega, rfl, rfl, rfl, rfl, HS2.out.trans (by simp [Pj.nsp, hw, nI (k := 34) h34])⟩
        · go_wp2_with (go_at_call 22; refine (ws22 _ _).mono ?_; rintro e w' ⟨rfl, rfl⟩)
          go_roundg (n - (k + 1))
          case measure => omega
          case rel => exact ⟨k + 1, true, e, by omega, rfl, rfl, rfl, rfl, HS2.out.trans (by simp [Pj.nsp, hw, yI (k := 34) h34])⟩
      · have HE : Hid (Pj.nsp false false tl = false) := HS2.out.trans (by simp [Pj.nsp, hw])
        go_wp2_with (go_at_call 22; refine (ws22 _ _).mono ?_; rintro e w' ⟨rfl, rfl⟩)
        go_ret
        exact hide ⟨by rw [HE.out]; rfl, rfl⟩
    · cases e
      · cases h92 : ((c.toNat : Int) == 92)
        · cases h34 : ((c.toNat : Int) == 34)
          · go_wp2_with fail
            go_roundg (n - (k + 1))
            case measure => omega
            case rel => exact ⟨k + 1, true, false, by omega, rfl, rfl, rfl, rfl, HS2.out.trans (by simp [Pj.nsp, nI (k := 92) h92, nI (k := 34) h34])⟩
          · go_wp2_with fail
            go_roundg (n - (k + 1))
            case measure => omega
            case rel => exact ⟨k + 1, false, false, by omega, rfl, rfl, rfl, rfl, HS2.out.trans (by simp [Pj.nsp, yI (k := 34) h34])⟩
        · go_wp2_with fail
          go_roundg (n - (k + 1))
          case measure => omega
          case rel => exact ⟨k + 1, true, true, by omega, rfl, rfl, rfl, rfl, HS2.out.trans (by simp [Pj.nsp, yI (k := 92) h92])⟩
      · go_wp2_with fail
        go_roundg (n - (k + 1))
        case measure => omega
        case rel => exact ⟨k + 1, true, false, by omega, rfl, rfl, rfl, rfl, HS2.out.trans (by rfl)⟩
end Go.Proofs.Qxb6603514aDoor
