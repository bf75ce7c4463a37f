import Derived.Test.Qxb6603029aDoorWf
namespace Go.Proofs.Qxb6603029aDoor
open Go.RowKit

theorem zz8 (s : ByteArray) (w : World) (h : s.size ≤ 1048576) :
    Calls Tryd.prog 8 #[.string s] w fun e w' => e = .returned (.bool true) ∧ w' = w := by
  go_enter Tryd.func8, Tryd.ntmps8
  go_wp2
  go_ret
  exact ⟨rfl, rfl⟩

theorem big3 (s : ByteArray) (w : World) (h : 1048576 < s.size) (hs : s.size ≤ maxLen) :
    Calls Tryd.prog 3 #[.string s] w fun e w' => e = .returned (.bool true) ∧ Below w.heap.size w w' := by
  unfold maxLen at hs
  go_enter Tryd.func3, Tryd.ntmps3
  go_wp2
  go_ret
  exact ⟨rfl, Below.refl _ _⟩

set_option maxHeartbeats 1000000 in
theorem law3 (s : ByteArray) (w : World) (hs : s.size ≤ 1048576) :
    Calls Tryd.prog 3 #[.string s] w fun e w' => e = .returned (.bool true) ∧ Below w.heap.size w w' := by
  generalize ho : Pl.pDec s.data.toList = o
  have c9 : ∀ w1, Calls Tryd.prog 9 #[.string s] w1 fun e w' => e = .returned (dec4 o) ∧ Below w1.heap.size w1 w' := fun w1 => by
    have h := zzdec_any s w1 (by omega)
    rw [ho] at h
    exact h
  have c10 : ∀ w1, Calls Tryd.prog 10 #[.string s] w1 fun e w' => e = .returned (dec4 o) ∧ Below w1.heap.size w1 w' := fun w1 => by
    have h := model_any s w1 hs
    rw [Pl.dec_eq, ho] at h
    exact h
  have C9 := hide c9
  have C10 := hide c10
  clear c9 c10 ho
  cases o with
  | none =>
    go_enter Tryd.func3, Tryd.ntmps3
    go_wp2_with fail
    refine (zz8 _ _ hs).mono ?_
    rintro e w1 ⟨rfl, rfl⟩
    go_wp2_with fail
    refine (C9.out _).mono ?_
    rintro e w1 ⟨rfl, hb1⟩
    unfold dec4
    go_wp2_with fail
    refine (C10.out _).mono ?_
    rintro e w2 ⟨rfl, hb2⟩
    unfold dec4
    go_wp2
    go_ret
    exact ⟨rfl, hb1.trans (hb2.mono hb1.size)⟩
  | some n =>
    obtain ⟨ne, d, ex⟩ := n
    go_enter Tryd.func3, Tryd.ntmps3
    go_wp2_with fail
    refine (zz8 _ _ hs).mono ?_
    rintro e w1 ⟨rfl, rfl⟩
    go_wp2_with fail
    refine (C9.out _).mono ?_
    rintro e w1 ⟨rfl, hb1⟩
    unfold dec4
    simp only
    go_wp2_with fail
    refine (C10.out _).mono ?_
    rintro e w2 ⟨rfl, hb2⟩
    unfold dec4
    simp only
    go_wp2
    go_ret
    exact ⟨rfl, hb1.trans (hb2.mono hb1.size)⟩

theorem law3_any (s : ByteArray) (w : World) (hs : s.size ≤ maxLen) :
    Calls Tryd.prog 3 #[.string s] w fun e w' => e = .returned (.bool true) ∧ Below w.heap.size w w' := by
  by_cases h : s.size ≤ 1048576
  · exact law3 s w h
  · exact big3 s w (by omega) hs
end Go.Proofs.Qxb6603029aDoor
