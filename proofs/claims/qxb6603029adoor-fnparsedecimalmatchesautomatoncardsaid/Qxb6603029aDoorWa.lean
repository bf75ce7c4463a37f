import Derived.Test.Qxb6603029aDoorProg
import Derived.Test.Qxb6603029aDoorPlain
import Derived.WalkKit
import Derived.WalkSpells
namespace Go.Proofs.Qxb6603029aDoor
open Go.RowKit

/-- The contract's words: the digits s starts with, and the rest. -/
def nd (s : ByteArray) : Nat := (Pl.dg s.data.toList).length

theorem nd_le (s : ByteArray) : nd s ≤ s.size := by
  have := Pl.dg_len s.data.toList
  simpa [nd] using this

theorem isD_iff (c : UInt8) : Pl.isD c = true ↔ (48 : Int) ≤ (c.toNat : Int) ∧ (c.toNat : Int) ≤ 57 := by
  unfold Pl.isD; simp; omega

theorem nd_stop (s : ByteArray) (k : Nat) (hk : k ≤ s.size) (h1 : ∀ j (hj : j < s.size), j < k → Pl.isD s[j] = true) (h2 : ∀ h : k < s.size, Pl.isD (s[k]'h) = false) : nd s = k :=
  Pl.dg_of_stop s.data.toList k (by simpa using hk) (fun j hj hjk => h1 j (by simpa using hj) hjk) (fun h => h2 (by simpa using h))

theorem lead_ret {s : ByteArray} {k : Nat} (h : k = nd s) : Ending.returned (.tuple #[.string (s.extract 0 k), .string (s.extract k s.size)]) = .returned (.tuple #[.string (s.extract 0 (nd s)), .string (s.extract (nd s) s.size)]) := by rw [h]

set_option maxHeartbeats 400000 in
theorem leading_any (s : ByteArray) (w : World) (hs : s.size ≤ 4194304) :
    Calls Tryd.prog 24 #[.string s] w fun e w' => e = .returned (.tuple #[.string (s.extract 0 (nd s)), .string (s.extract (nd s) s.size)]) ∧ w' = w.drew := by
  go_enter Tryd.func24, Tryd.ntmps24
  go_wp2
  go_loop [4] (fun i => ∃ k : Nat, k ≤ s.size ∧ i = .int .i64 k ∧ ∀ j (hj : j < s.size), j < k → Pl.isD s[j] = true) (fun i => s.size - (intOf i).toNat)
  case atStart => exact ⟨0, Nat.zero_le _, rfl, fun j hj h => by omega⟩
  case round =>
    obtain ⟨k, hk, rfl, hall⟩ := hrel
    have H := hall
    have HA : Hid (∀ j (hj : j < s.size), j < k → Pl.isD s[j] = true) := H
    clear hall H
    have fin : (∀ h : k < s.size, Pl.isD (s[k]'h) = false) → nd s = k := fun h => nd_stop s k hk HA.out h
    by_cases hlt : k < s.size
    · by_cases hd : (48 : Int) ≤ (s[k].toNat : Int) ∧ (s[k].toNat : Int) ≤ 57
      · have HD : Hid (Pl.isD s[k] = true) := (isD_iff _).2 hd
        obtain ⟨h1, h2⟩ := hd
        clear fin
        go_wp2
        go_round
        case rel =>
          refine ⟨k + 1, by omega, by go_num, fun j hj hjk => ?_⟩
          by_cases e : j = k
          · subst e; exact HD.out
          · exact HA.out j hj (by omega)
        case measure => simp [intOf]; omega
      · have e : Hid (k = nd s) := (fin fun h => by rw [← Bool.not_eq_true, isD_iff]; exact hd).symm
        clear fin
        have hn : nd s ≤ s.size := nd_le s
        go_wp2
        all_goals
          go_region
          all_goals (try go_wp2)
          go_ret2
          exact ⟨lead_ret e.out, rfl⟩
    · have e : Hid (k = nd s) := (fin fun h => absurd h hlt).symm
      clear fin
      go_wp2
      go_region
      all_goals (try go_wp2)
      go_ret2
      exact ⟨lead_ret e.out, rfl⟩
end Go.Proofs.Qxb6603029aDoor
