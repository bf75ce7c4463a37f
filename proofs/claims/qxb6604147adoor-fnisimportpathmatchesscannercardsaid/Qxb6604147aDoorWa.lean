import Derived.Test.Qxb6604147aDoorShelf
import Derived.Test.Qxb6604147aDoorPlain
import Derived.WalkKit
import Derived.WalkSpells
import Derived.WalkLawsBesides
import Derived.BigQuiet
import Derived.Deep.QuietTactic
namespace Go.Proofs.Qxb6604147aDoor
open Go.RowKit
theorem hide {p : Prop} (h : p) : Hid p := h
theorem low_i (c : UInt8) : Pl.isLow c = (decide ((97 : Int) ≤ (c.toNat : Int)) && decide ((c.toNat : Int) ≤ 122)) := by
  unfold Pl.isLow; rw [Bool.eq_iff_iff]; simp; omega
theorem let_i (c : UInt8) : Pl.isLet c = (Pl.isLow c || (decide ((65 : Int) ≤ (c.toNat : Int)) && decide ((c.toNat : Int) ≤ 90))) := by
  unfold Pl.isLet; congr 1; rw [Bool.eq_iff_iff]; simp; omega
theorem dig_i (c : UInt8) : Pl.isDig c = (decide ((48 : Int) ≤ (c.toNat : Int)) && decide ((c.toNat : Int) ≤ 57)) := by
  unfold Pl.isDig; rw [Bool.eq_iff_iff]; simp; omega
theorem sp_i (c : UInt8) : Pl.isSp c = (((c.toNat : Int) == 45) || ((c.toNat : Int) == 46) || ((c.toNat : Int) == 95) || ((c.toNat : Int) == 126) || ((c.toNat : Int) == 43)) := by
  unfold Pl.isSp; rw [Bool.eq_iff_iff]; simp; omega

theorem low9 (c : UInt8) (w : World) : Calls Tryd.prog 9 #[.int .u8 c.toNat] w fun e w' => e = .returned (.bool (Pl.isLow c)) ∧ w = w' := by
  have H := hide (low_i c)
  by_cases h : (97 : Int) ≤ (c.toNat : Int)
  · go_enter Tryd.func9, Tryd.ntmps9
    go_wp2
    go_ret
    exact ⟨by rw [H.out]; simp [h], rfl⟩
  · go_enter Tryd.func9, Tryd.ntmps9
    go_wp2
    go_ret
    exact ⟨by rw [H.out]; simp; omega, rfl⟩
theorem low14 (c : UInt8) (w : World) : Calls Tryd.prog 14 #[.int .u8 c.toNat] w fun e w' => e = .returned (.bool (Pl.isLow c)) ∧ w = w' := by
  have H := hide (low_i c)
  by_cases h : (97 : Int) ≤ (c.toNat : Int)
  · go_enter Tryd.func14, Tryd.ntmps14
    go_wp2
    go_ret
    exact ⟨by rw [H.out]; simp [h], rfl⟩
  · go_enter Tryd.func14, Tryd.ntmps14
    go_wp2
    go_ret
    exact ⟨by rw [H.out]; simp; omega, rfl⟩
theorem let7 (c : UInt8) (w : World) : Calls Tryd.prog 7 #[.int .u8 c.toNat] w fun e w' => e = .returned (.bool (Pl.isLet c)) ∧ w = w' := by
  have H := hide (let_i c)
  cases hl : Pl.isLow c
  · by_cases h : (65 : Int) ≤ (c.toNat : Int)
    · go_enter Tryd.func7, Tryd.ntmps7
      go_wp2_with (go_at_call 9; refine (low9 _ _).mono ?_; rintro e w' ⟨rfl, rfl⟩)
      go_ret
      exact ⟨by rw [H.out, hl]; simp [h], rfl⟩
    · go_enter Tryd.func7, Tryd.ntmps7
      go_wp2_with (go_at_call 9; refine (low9 _ _).mono ?_; rintro e w' ⟨rfl, rfl⟩)
      go_ret
      exact ⟨by rw [H.out, hl]; simp; omega, rfl⟩
  · go_enter Tryd.func7, Tryd.ntmps7
    go_wp2_with (go_at_call 9; refine (low9 _ _).mono ?_; rintro e w' ⟨rfl, rfl⟩)
    go_ret
    exact ⟨by rw [H.out, hl]; simp, rfl⟩
theorem let11 (c : UInt8) (w : World) : Calls Tryd.prog 11 #[.int .u8 c.toNat] w fun e w' => e = .returned (.bool (Pl.isLet c)) ∧ w = w' := by
  have H := hide (let_i c)
  cases hl : Pl.isLow c
  · by_cases h : (65 : Int) ≤ (c.toNat : Int)
    · go_enter Tryd.func11, Tryd.ntmps11
      go_wp2_with (go_at_call 14; refine (low14 _ _).mono ?_; rintro e w' ⟨rfl, rfl⟩)
      go_ret
      exact ⟨by rw [H.out, hl]; simp [h], rfl⟩
    · go_enter Tryd.func11, Tryd.ntmps11
      go_wp2_with (go_at_call 14; refine (low14 _ _).mono ?_; rintro e w' ⟨rfl, rfl⟩)
      go_ret
      exact ⟨by rw [H.out, hl]; simp; omega, rfl⟩
  · go_enter Tryd.func11, Tryd.ntmps11
    go_wp2_with (go_at_call 14; refine (low14 _ _).mono ?_; rintro e w' ⟨rfl, rfl⟩)
    go_ret
    exact ⟨by rw [H.out, hl]; simp, rfl⟩

theorem ret_bool {a b : Bool} (h : b = a) : Ending.returned (.bool a) = .returned (.bool b) := by rw [h]
theorem path_let {c : UInt8} (h : Pl.isLet c = true) : Pl.pathB c = true := by unfold Pl.pathB; rw [h]; rfl
theorem path_dig {c : UInt8} (h : Pl.isDig c = true) : Pl.pathB c = true := by unfold Pl.pathB; rw [h]; simp
theorem path_sp {c : UInt8} (h1 : Pl.isLet c = false) (h2 : Pl.isDig c = false) : Pl.pathB c = Pl.isSp c := by unfold Pl.pathB; rw [h1, h2]; rfl
theorem dig_yes {c : UInt8} (h1 : (48 : Int) ≤ (c.toNat : Int)) (h2 : (c.toNat : Int) ≤ 57) : Pl.isDig c = true := by rw [dig_i]; simp [h1, h2]
theorem dig_no {c : UInt8} (h : ¬ ((48 : Int) ≤ (c.toNat : Int) ∧ (c.toNat : Int) ≤ 57)) : Pl.isDig c = false := by rw [dig_i]; simp; omega

set_option maxHeartbeats 1000000 in
theorem path5 (c : UInt8) (w : World) : Calls Tryd.prog 5 #[.int .u8 c.toNat] w fun e w' => e = .returned (.bool (Pl.pathB c)) ∧ w = w' := by
  cases hl : Pl.isLet c
  · by_cases hd : (48 : Int) ≤ (c.toNat : Int) ∧ (c.toNat : Int) ≤ 57
    · obtain ⟨h1, h2⟩ := hd
      have H := hide (path_dig (dig_yes h1 h2))
      go_enter Tryd.func5, Tryd.ntmps5
      go_wp2_with (go_at_call 7; refine (let7 _ _).mono ?_; rintro e w' ⟨rfl, rfl⟩)
      go_ret
      exact ⟨ret_bool H.out, rfl⟩
    · have H := hide ((path_sp hl (dig_no hd)).trans (sp_i c))
      rcases (show (c.toNat : Int) < 48 ∨ 57 < (c.toNat : Int) by omega) with h | h
      all_goals
        clear hd
        cases h45 : ((c.toNat : Int) == 45)
        · cases h46 : ((c.toNat : Int) == 46)
          · cases h95 : ((c.toNat : Int) == 95)
            · cases h126 : ((c.toNat : Int) == 126)
              · cases h43 : ((c.toNat : Int) == 43)
                all_goals
                  go_enter Tryd.func5, Tryd.ntmps5
                  go_wp2_with (go_at_call 7; refine (let7 _ _).mono ?_; rintro e w' ⟨rfl, rfl⟩)
                  go_ret
                  exact ⟨ret_bool (by rw [H.out, h45, h46, h95, h126, h43]; rfl), rfl⟩
              · go_enter Tryd.func5, Tryd.ntmps5
                go_wp2_with (go_at_call 7; refine (let7 _ _).mono ?_; rintro e w' ⟨rfl, rfl⟩)
                go_ret
                exact ⟨ret_bool (by rw [H.out, h126]; simp), rfl⟩
            · go_enter Tryd.func5, Tryd.ntmps5
              go_wp2_with (go_at_call 7; refine (let7 _ _).mono ?_; rintro e w' ⟨rfl, rfl⟩)
              go_ret
              exact ⟨ret_bool (by rw [H.out, h95]; simp), rfl⟩
          · go_enter Tryd.func5, Tryd.ntmps5
            go_wp2_with (go_at_call 7; refine (let7 _ _).mono ?_; rintro e w' ⟨rfl, rfl⟩)
            go_ret
            exact ⟨ret_bool (by rw [H.out, h46]; simp), rfl⟩
        · go_enter Tryd.func5, Tryd.ntmps5
          go_wp2_with (go_at_call 7; refine (let7 _ _).mono ?_; rintro e w' ⟨rfl, rfl⟩)
          go_ret
          exact ⟨ret_bool (by rw [H.out, h45]; simp), rfl⟩
  · have H := hide (path_let hl)
    go_enter Tryd.func5, Tryd.ntmps5
    go_wp2_with (go_at_call 7; refine (let7 _ _).mono ?_; rintro e w' ⟨rfl, rfl⟩)
    go_ret
    exact ⟨ret_bool H.out, rfl⟩
end Go.Proofs.Qxb6604147aDoor
