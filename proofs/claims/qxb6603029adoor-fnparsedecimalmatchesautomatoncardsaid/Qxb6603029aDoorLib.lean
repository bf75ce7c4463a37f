import Derived.Test.Qxb6603029aDoorShelf
import Derived.Test.Qxb6603029aDoorWb
namespace Go.Proofs.Qxb6603029aDoor
open Go.RowKit

theorem hasP (c : UInt8) (l : List UInt8) : Lib.hasPrefix l [c] = Pl.hasH c l := by
  cases l with
  | nil => rfl
  | cons a t => simp [Lib.hasPrefix, Pl.hasH, List.isPrefixOf]; exact BEq.comm
theorem trimP (c : UInt8) (l : List UInt8) : Lib.trimPrefix l [c] = Pl.cutH c l := by
  unfold Lib.trimPrefix Pl.cutH
  rw [hasP]
  cases l with
  | nil => rfl
  | cons a t => simp
theorem cutH_len (c : UInt8) (l : List UInt8) : (Pl.cutH c l).length ≤ l.length := by
  unfold Pl.cutH; split <;> simp
theorem size_mk (l : List UInt8) : (⟨l.toArray⟩ : ByteArray).size = l.length := by
  rw [← size_list]

theorem cut_ex (s : ByteArray) (c : UInt8) (w : World) : Calls Tryd.prog 23 #[.string s, .string ⟨#[c]⟩] w fun e w' => ∃ (r : ByteArray) (b : Bool), e = .returned (.tuple #[.string r, .bool b]) ∧ Hid (b = Pl.hasH c s.data.toList) ∧ Hid (r.data.toList = Pl.cutH c s.data.toList) ∧ r.size ≤ s.size ∧ w' = w := by
  refine (Tryd.strings_CutPrefix s ⟨#[c]⟩ w).mono fun e w' ⟨he, hw⟩ => ?_
  refine ⟨_, _, he, hasP c _, trimP c _, ?_, hw⟩
  rw [size_mk, ← size_list s]
  exact Nat.le_trans (Nat.le_of_eq (congrArg List.length (trimP c _))) (cutH_len c _)
theorem triml_ex (s : ByteArray) (w : World) : Calls Tryd.prog 25 #[.string s, .string ⟨#[48]⟩] w fun e w' => ∃ (r : ByteArray), e = .returned (.string r) ∧ Hid (r.data.toList = Pl.trL s.data.toList) ∧ r.size ≤ s.size ∧ w' = w := by
  refine (Tryd.strings_TrimLeft_one s 48 (by decide) w).mono fun e w' ⟨he, hw⟩ => ?_
  refine ⟨_, he, (rfl : _ = _), ?_, hw⟩
  rw [size_mk, ← size_list s]
  exact Pl.trL_len _
theorem trimr_ex (s : ByteArray) (w : World) (hs : s.size ≤ 4194304) : Calls Tryd.prog 26 #[.string s, .string ⟨#[48]⟩] w fun e w' => ∃ (r : ByteArray), e = .returned (.string r) ∧ Hid (r.data.toList = Pl.trR s.data.toList) ∧ r.size ≤ s.size ∧ w' = w := by
  refine (Tryd.strings_TrimRight_one s 48 (by decide) w (by omega)).mono fun e w' ⟨he, hw⟩ => ?_
  refine ⟨_, he, (rfl : _ = _), ?_, hw⟩
  rw [size_mk, ← size_list s]
  exact Pl.trR_len _
end Go.Proofs.Qxb6603029aDoor
