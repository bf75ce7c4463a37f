/-
  zzIsWS, stringEnd.
-/
import Derived.Test.Qxb6603514aDoorShelf
import Derived.Test.Qxb6603514aDoorPlain
import Derived.Test.Qxb6603514aDoorBuf
import Derived.WalkKit
import Derived.WalkSpells
import Derived.WalkLawsBesides
import Derived.BigQuiet
import Derived.Deep.QuietTactic
import Derived.Deep.LoopGhost
namespace Go.Proofs.Qxb6603514aDoor
open Go.RowKit
theorem hide {p : Prop} (h : p) : Hid p := h
theorem ret_bool {a b : Bool} (h : b = a) : Ending.returned (.bool a) = .returned (.bool b) := by rw [h]
theorem ret_i64 {a b : Int} (h : b = a) : Ending.returned (.int .i64 a) = .returned (.int .i64 b) := by rw [h]
theorem ws_i (c : UInt8) : Pl.ws c = (((c.toNat : Int) == 32) || ((c.toNat : Int) == 9) || ((c.toNat : Int) == 10) || ((c.toNat : Int) == 13)) := by
  unfold Pl.ws; rw [Bool.eq_iff_iff]; simp; omega

theorem ws22 (c : UInt8) (w : World) : Calls Tryd.prog 22 #[.int .u8 c.toNat] w fun e w' => e = .returned (.bool (Pl.ws c)) ∧ w = w' := by
  have H := hide (ws_i c)
  cases h1 : ((c.toNat : Int) == 32)
  · cases h2 : ((c.toNat : Int) == 9)
    · cases h3 : ((c.toNat : Int) == 10)
      · cases h4 : ((c.toNat : Int) == 13)
        all_goals
          go_enter Tryd.func22, Tryd.ntmps22
          go_wp2
          go_ret
          exact ⟨ret_bool (by rw [H.out, h1, h2, h3, h4]; rfl), rfl⟩
      · go_enter Tryd.func22, Tryd.ntmps22
        go_wp2
        go_ret
        exact ⟨ret_bool (by rw [H.out, h3]; simp), rfl⟩
    · go_enter Tryd.func22, Tryd.ntmps22
      go_wp2
      go_ret
      exact ⟨ret_bool (by rw [H.out, h2]; simp), rfl⟩
  · go_enter Tryd.func22, Tryd.ntmps22
    go_wp2
    go_ret
    exact ⟨ret_bool (by rw [H.out, h1]; simp), rfl⟩

/-- Where the string that is read from j on ends. -/
def endOf (tl : List UInt8) (j : Nat) : Nat := if j ≤ tl.length then j + (Pl.str (tl.drop j)).1.length else tl.length
theorem drop_cons {tl : List UInt8} {j : Nat} (h : j < tl.length) : tl.drop j = tl[j] :: tl.drop (j + 1) := List.drop_eq_getElem_cons h
theorem end_esc {tl : List UInt8} {j : Nat} {c : UInt8} (h : j < tl.length) (hc : c = tl[j]) (h1 : ((c.toNat : Int) == 92) = true) : endOf tl j = endOf tl (j + 2) := by
  have h1' : c.toNat = 92 := by simp at h1; omega
  unfold endOf
  rw [if_pos (by omega), drop_cons h, ← hc]
  by_cases h2 : j + 1 < tl.length
  · rw [if_pos (by omega), drop_cons h2]
    conv => lhs; unfold Pl.str
    rw [show j + 1 + 1 = j + 2 by omega]
    simp only [h1', if_true, List.length_cons]
    omega
  · rw [if_neg (by omega), List.drop_eq_nil_of_le (by omega)]
    unfold Pl.str
    simp only [h1', if_true, List.length_cons, List.length_nil]
    omega
theorem end_close {tl : List UInt8} {j : Nat} {c : UInt8} (h : j < tl.length) (hc : c = tl[j]) (h1 : ((c.toNat : Int) == 34) = true) : endOf tl j = j + 1 := by
  have h1' : c.toNat = 34 := by simp at h1; omega
  unfold endOf
  rw [if_pos (by omega), drop_cons h, ← hc, Pl.str_close _ _ h1']
  rfl
theorem end_other {tl : List UInt8} {j : Nat} {c : UInt8} (h : j < tl.length) (hc : c = tl[j]) (h1 : ((c.toNat : Int) == 92) = false) (h2 : ((c.toNat : Int) == 34) = false) : endOf tl j = endOf tl (j + 1) := by
  have h1' : ¬ c.toNat = 92 := by simp at h1; omega
  have h2' : ¬ c.toNat = 34 := by simp at h2; omega
  unfold endOf
  rw [if_pos (by omega), if_pos (by omega), drop_cons h, ← hc, Pl.str_other _ _ h1' h2']
  simp only [List.length_cons]; omega
theorem end_over {tl : List UInt8} {j : Nat} (h : ¬ j < tl.length) : endOf tl j = tl.length := by
  unfold endOf
  split
  · rw [List.drop_eq_nil_of_le (by omega)]; simp [Pl.str]; omega
  · rfl

set_option maxHeartbeats 1000000 in
theorem end28 (b o tc : Nat) (tl : List UInt8) (k : Nat) (hk : k < tl.length) (hl : tl.length ≤ 1048576) (w : World)
    (hcs : ∀ j (hj : j < tl.length), w.cell? ⟨b, o + j, none⟩ = some (.int .u8 tl[j].toNat)) :
    Calls Tryd.prog 28 #[.slice (some ⟨b, o, none⟩) tl.length tc, .int .i64 k] w fun e w' => e = .returned (.int .i64 (endOf tl (k + 1) : Nat)) ∧ w = w' := by
  have HC := hide hcs
  obtain ⟨n, hn⟩ : ∃ n, n = tl.length := ⟨_, rfl⟩
  rw [← hn] at hk hl ⊢
  have HN := hide hn
  clear hcs hn
  obtain ⟨E, hE⟩ : ∃ E, E = endOf tl (k + 1) := ⟨_, rfl⟩
  rw [← hE]
  have HE := hide hE
  clear hE
  go_enter Tryd.func28, Tryd.ntmps28
  go_wp2_with fail
  go_loopg [1] (n + 1 - (k + 1)) (fun g c1 wx => ∃ j : Nat, j ≤ n + 1 ∧ g = n + 1 - j ∧ c1 = .int .i64 j ∧ Hid (E = endOf tl j) ∧ w = wx)
  case atStart => exact ⟨k + 1, by omega, rfl, rfl, HE, rfl⟩
  case round =>
    obtain ⟨j, hj, rfl, rfl, HJ, rfl⟩ := hrel
    by_cases hlt : j < n
    · have hlt2 : j < tl.length := by rw [← HN.out]; exact hlt
      obtain ⟨c, hc⟩ : ∃ c, c = tl[j] := ⟨_, rfl⟩
      have hcell : w.cell? ⟨b, o + j, none⟩ = some (.int .u8 c.toNat) := by rw [hc]; exact HC.out j hlt2
      have Hc := hide hc
      clear hc
      cases h92 : ((c.toNat : Int) == 92)
      · cases h34 : ((c.toNat : Int) == 34)
        · go_wp2_with fail
          go_roundg (n + 1 - (j + 1))
          case measure => omega
          case rel => exact ⟨j + 1, by omega, rfl, rfl, HJ.out.trans (end_other hlt2 Hc.out h92 h34), rfl⟩
        · go_wp2_with fail
          go_ret
          exact ⟨ret_i64 (by rw [HJ.out, end_close hlt2 Hc.out h34]; simp), rfl⟩
      · go_wp2_with fail
        go_roundg (n + 1 - (j + 2))
        case measure => omega
        case rel => exact ⟨j + 2, by omega, rfl, by go_num, HJ.out.trans (end_esc hlt2 Hc.out h92), rfl⟩
    · go_wp2_with fail
      go_ret
      exact ⟨ret_i64 (by rw [HJ.out, end_over (by rw [← HN.out]; exact hlt), HN.out]), rfl⟩
end Go.Proofs.Qxb6603514aDoor
