import Derived.Test.Qxb6603262aDoorWj
import Derived.Test.Qxb6603262aDoorWp
import Derived.Test.Qxb6603262aDoorWm
namespace Go.Proofs.Qxb6603262aDoor
open Go.RowKit
set_option maxHeartbeats 400000 in
theorem zzdec_any (p : Pl.Parts) (hp : p.Ok) (s : ByteArray) (hl : s.data.toList = p.text) (hs : s.size ≤ 1048576) (w : World) :
    Calls Tryd.prog 7 #[.string s] w fun e w' => e = .returned (Md.res3 p.res) ∧ Below w.heap.size w w' := by
  have c := Pd.pd_any p hp s hl hs w
  generalize p.res = r at *
  clear hl
  obtain ⟨sg, d, pt⟩ := r
  unfold Pd.resV at c
  unfold Md.res3
  simp only at c ⊢
  go_enter Tryd.func7, Tryd.ntmps7
  go_wp2_with fail
  refine c.mono ?_
  rintro e w1 ⟨rfl, hb⟩
  go_wp2
  go_quiet (fail)
  go_wp2
  go_ret3
  exact ⟨rfl, below_drewN (hb.alloc hb.size _) _⟩

theorem zz5 (s : ByteArray) (w : World) (h : s.size ≤ 1048576) :
    Calls Tryd.prog 5 #[.string s] w fun e w' => e = .returned (.bool true) ∧ w' = w := by
  go_enter Tryd.func5, Tryd.ntmps5
  go_wp2
  go_ret
  exact ⟨rfl, rfl⟩

theorem big3 (s : ByteArray) (w : World) (h : 1048576 < s.size) (hs : s.size ≤ maxLen) :
    Calls Tryd.prog 3 #[.string s] w fun e w' => e = .returned (.bool true) ∧ Below w.heap.size w w' := by
  unfold maxLen at hs
  go_enter Tryd.func3, Tryd.ntmps3
  go_wp2
  go_ret
  exact ⟨rfl, Below.refl _ _⟩

theorem law3_no (s : ByteArray) (w : World) (hs : s.size ≤ 1048576) (hn : Pl.n0 s.data.toList = false) :
    Calls Tryd.prog 3 #[.string s] w fun e w' => e = .returned (.bool true) ∧ Below w.heap.size w w' := by
  have c := json_any s w hs
  rw [hn] at c
  clear hn
  go_enter Tryd.func3, Tryd.ntmps3
  go_wp2_with fail
  refine (zz5 _ _ hs).mono ?_
  rintro e w1 ⟨rfl, rfl⟩
  go_wp2_with fail
  refine c.mono ?_
  rintro e w1 ⟨rfl, rfl⟩
  go_wp2
  go_ret
  exact ⟨rfl, Below.refl _ _⟩

set_option maxHeartbeats 1000000 in
theorem law3_yes (s : ByteArray) (w : World) (hs : s.size ≤ 1048576) (hn : Pl.n0 s.data.toList = true) :
    Calls Tryd.prog 3 #[.string s] w fun e w' => e = .returned (.bool true) ∧ Below w.heap.size w w' := by
  have c := json_any s w hs
  rw [hn] at c
  obtain ⟨p, hp, hl⟩ := Pl.parts_of hn
  have C7 := hide (zzdec_any p hp s hl.symm hs)
  have C8 := hide (Md.model_any p hp s (hide hl.symm) hs)
  clear hn hl hp
  generalize p.res = r at *
  obtain ⟨sg, d, pt⟩ := r
  go_enter Tryd.func3, Tryd.ntmps3
  go_wp2_with fail
  refine (zz5 _ _ hs).mono ?_
  rintro e w1 ⟨rfl, rfl⟩
  go_wp2_with fail
  refine c.mono ?_
  rintro e w1 ⟨rfl, rfl⟩
  go_wp2_with fail
  refine (C7.out _).mono ?_
  rintro e w1 ⟨rfl, hb1⟩
  unfold Md.res3
  simp only
  go_wp2_with fail
  refine (C8.out _).mono ?_
  rintro e w2 ⟨rfl, hb2⟩
  unfold Md.res3
  simp only
  go_wp2
  go_ret
  exact ⟨rfl, hb1.trans (hb2.mono hb1.size)⟩

theorem law3_any (s : ByteArray) (w : World) (hs : s.size ≤ maxLen) :
    Calls Tryd.prog 3 #[.string s] w fun e w' => e = .returned (.bool true) ∧ Below w.heap.size w w' := by
  by_cases h : s.size ≤ 1048576
  · cases hn : Pl.n0 s.data.toList
    · exact law3_no s w h hn
    · exact law3_yes s w h hn
  · exact big3 s w (by omega) hs
end Go.Proofs.Qxb6603262aDoor
