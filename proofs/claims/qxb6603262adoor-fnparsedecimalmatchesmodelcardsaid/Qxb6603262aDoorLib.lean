import Derived.Test.Qxb6603262aDoorShelf
import Derived.Test.Qxb6603262aDoorPlain
import Derived.WalkKit
import Derived.WalkSpells
import Derived.WalkLawsBesides
import Derived.BigQuiet
import Derived.Deep.QuietTactic
namespace Go.Proofs.Qxb6603262aDoor
open Go.RowKit
namespace Lb
theorem size_list (s : ByteArray) : s.data.toList.length = s.size := by
  simp only [Array.length_toList]; rfl
theorem extract_list (s : ByteArray) (a b : Nat) : (s.extract a b).data.toList = (s.data.toList.drop a).take (b - a) := by
  obtain ⟨⟨l⟩⟩ := s
  rw [ByteArray.extract_mk]
theorem ext_drop (s : ByteArray) (k : Nat) : (s.extract k s.size).data.toList = s.data.toList.drop k := by
  rw [extract_list, List.take_of_length_le]
  rw [List.length_drop, size_list]; exact Nat.le_refl _
theorem ext_take (s : ByteArray) (k : Nat) : (s.extract 0 k).data.toList = s.data.toList.take k := by
  rw [extract_list]; simp
theorem size_mk (l : List UInt8) : (⟨l.toArray⟩ : ByteArray).size = l.length := by
  rw [← size_list]

theorem index_yes (a b : List UInt8) (c : UInt8) (h : ∀ x ∈ a, x ≠ c) : Lib.indexByte (a ++ c :: b) c = a.length := by
  induction a with
  | nil => simp [Lib.indexByte]
  | cons x t ih =>
    have hx : (x == c) = false := by simpa using h x (List.mem_cons_self ..)
    have := ih fun y hy => h y (List.mem_cons_of_mem _ hy)
    simp only [List.cons_append, Lib.indexByte, hx, this]
    have e : (((t.length : Nat) : Int) == -1) = false := by simp
    rw [e]; simp
theorem index_no (l : List UInt8) (c : UInt8) (h : ∀ x ∈ l, x ≠ c) : Lib.indexByte l c = -1 := by
  induction l with
  | nil => rfl
  | cons x t ih =>
    have hx : (x == c) = false := by simpa using h x (List.mem_cons_self ..)
    have := ih fun y hy => h y (List.mem_cons_of_mem _ hy)
    simp only [Lib.indexByte, hx, this]; rfl

set_option maxHeartbeats 400000 in
theorem cut18_yes (s : ByteArray) (c : UInt8) (n : Nat) (hn : n < s.size) (hi : Lib.indexByte s.data.toList c = n) (hs : s.size ≤ 4194304) (w : World) :
    Calls Tryd.prog 18 #[.string s, .string ⟨#[c]⟩] w fun e w' => e = .returned (.tuple #[.string (s.extract 0 n), .string (s.extract (n + 1) s.size), .bool true]) ∧ ∃ nq, w' = w.drewN nq := by
  have C := Tryd.stringslite_Index_one s c w
  rw [hi] at C
  clear hi
  go_enter Tryd.func18, Tryd.ntmps18
  go_wp2_with fail
  refine C.mono ?_
  rintro e w' ⟨rfl, rfl⟩
  have h1 : (n : Int) ≤ (s.size : Int) := by omega
  have h2 : (n : Int) + 1 ≤ (s.size : Int) := by omega
  have h3 : ((n : Int) + 1).toNat = n + 1 := by omega
  have h4 : ((⟨#[c]⟩ : ByteArray).size) = 1 := rfl
  go_wp2_with fail
  go_quiet (fail)
  go_wp2
  go_ret3
  exact ⟨rfl, _, rfl⟩
set_option maxHeartbeats 400000 in
theorem cut18_no (s : ByteArray) (c : UInt8) (hi : Lib.indexByte s.data.toList c = -1) (w : World) :
    Calls Tryd.prog 18 #[.string s, .string ⟨#[c]⟩] w fun e w' => e = .returned (.tuple #[.string s, .string ⟨#[]⟩, .bool false]) ∧ ∃ nq, w' = w.drewN nq := by
  have C := Tryd.stringslite_Index_one s c w
  rw [hi] at C
  clear hi
  go_enter Tryd.func18, Tryd.ntmps18
  go_wp2_with fail
  refine C.mono ?_
  rintro e w' ⟨rfl, rfl⟩
  go_wp2
  go_ret3
  exact ⟨rfl, 0, rfl⟩

theorem cut_yes (s : ByteArray) (c : UInt8) (a b : List UInt8) (hl : s.data.toList = a ++ c :: b) (ha : ∀ x ∈ a, x ≠ c) (hs : s.size ≤ 4194304) (w : World) :
    Calls Tryd.prog 14 #[.string s, .string ⟨#[c]⟩] w fun e w' => ∃ A B : ByteArray, e = .returned (.tuple #[.string A, .string B, .bool true]) ∧ Hid (A.data.toList = a) ∧ Hid (B.data.toList = b) ∧ A.size ≤ s.size ∧ B.size ≤ s.size ∧ ∃ nq, w' = w.drewN nq := by
  have hz : a.length < s.size := by rw [← size_list, hl]; simp
  have C := cut18_yes s c a.length hz (by rw [hl]; exact index_yes a b c ha) hs w
  have hA : (s.extract 0 a.length).data.toList = a := by rw [ext_take, hl]; simp
  have hB : (s.extract (a.length + 1) s.size).data.toList = b := by rw [ext_drop, hl]; simp
  have sA : (s.extract 0 a.length).size ≤ s.size := by simp; omega
  have sB : (s.extract (a.length + 1) s.size).size ≤ s.size := by simp
  have H : Hid ((s.extract 0 a.length).data.toList = a ∧ (s.extract (a.length + 1) s.size).data.toList = b) := ⟨hA, hB⟩
  clear hA hB hl
  generalize s.extract 0 a.length = A at *
  generalize s.extract (a.length + 1) s.size = B at *
  go_enter Tryd.func14, Tryd.ntmps14
  go_wp2_with fail
  refine C.mono ?_
  rintro e w' ⟨rfl, nq, rfl⟩
  go_wp2
  go_ret3
  exact ⟨A, B, rfl, H.out.1, H.out.2, sA, sB, nq, rfl⟩
theorem cut_no (s : ByteArray) (c : UInt8) (ha : ∀ x ∈ s.data.toList, x ≠ c) (w : World) :
    Calls Tryd.prog 14 #[.string s, .string ⟨#[c]⟩] w fun e w' => e = .returned (.tuple #[.string s, .string ⟨#[]⟩, .bool false]) ∧ ∃ nq, w' = w.drewN nq := by
  have C := cut18_no s c (index_no _ c ha) w
  clear ha
  go_enter Tryd.func14, Tryd.ntmps14
  go_wp2_with fail
  refine C.mono ?_
  rintro e w' ⟨rfl, nq, rfl⟩
  go_wp2
  go_ret3
  exact ⟨rfl, nq, rfl⟩

theorem lower_ex (s : ByteArray) (hs : s.size ≤ 4194304) (hascii : ∀ x ∈ s.data.toList, x.toNat < 128) (w : World) :
    Calls Tryd.prog 15 #[.string s] w fun e w' => ∃ r : ByteArray, e = .returned (.string r) ∧ Hid (r.data.toList = Lib.toLowerA s.data.toList) ∧ r.size ≤ s.size ∧ Below w.heap.size w w' := by
  refine (Tryd.strings_ToLower_ascii s w (by omega) (fun j b h => hascii b (List.mem_of_getElem? h))).mono fun e w' ⟨he, hb⟩ => ?_
  refine ⟨_, he, (rfl : _ = _), ?_, hb⟩
  rw [size_mk, ← size_list s]; simp [Lib.toLowerA]
theorem triml_ex (s : ByteArray) (w : World) : Calls Tryd.prog 16 #[.string s, .string ⟨#[48]⟩] w fun e w' => ∃ (r : ByteArray), e = .returned (.string r) ∧ Hid (r.data.toList = Pl.trL s.data.toList) ∧ r.size ≤ s.size ∧ w = w' := by
  refine (Tryd.strings_TrimLeft_one s 48 (by decide) w).mono fun e w' ⟨he, hw⟩ => ?_
  refine ⟨_, he, (rfl : _ = _), ?_, hw.symm⟩
  rw [size_mk, ← size_list s]
  exact Pl.trL_len _
theorem trimr_ex (s : ByteArray) (w : World) (hs : s.size ≤ 4194304) : Calls Tryd.prog 17 #[.string s, .string ⟨#[48]⟩] w fun e w' => ∃ (r : ByteArray), e = .returned (.string r) ∧ Hid (r.data.toList = Pl.trR s.data.toList) ∧ r.size ≤ s.size ∧ w = w' := by
  refine (Tryd.strings_TrimRight_one s 48 (by decide) w (by omega)).mono fun e w' ⟨he, hw⟩ => ?_
  refine ⟨_, he, (rfl : _ = _), ?_, hw.symm⟩
  rw [size_mk, ← size_list s]
  exact Pl.trR_len _
theorem trims_ex (s : ByteArray) (w : World) : Calls Tryd.prog 16 #[.string s, .string ⟨#[43, 45]⟩] w fun e w' => ∃ (r : ByteArray), e = .returned (.string r) ∧ Hid (r.data.toList = Lib.trimLeftS s.data.toList [43, 45]) ∧ r.size ≤ s.size ∧ Below w.heap.size w w' := by
  have hcon := Any.strings_TrimLeft_laid Tryd.lays161 (by kernel_rfl) s ⟨#[43, 45]⟩ w (by decide) (ascii_of_all (by decide))
  refine hcon.mono fun e w' ⟨he, hb⟩ => ?_
  refine ⟨_, he, (rfl : _ = _), ?_, hb⟩
  rw [size_mk, ← size_list s]
  exact (List.dropWhile_sublist _).length_le
end Lb
end Go.Proofs.Qxb6603262aDoor
