import Derived.Test.Qxb6603029aDoorWc
import Derived.Test.Qxb6603029aDoorPlaine
import Derived.BigQuiet
import Derived.Deep.QuietTactic
import Derived.WalkLawsBesides
namespace Go.Proofs.Qxb6603029aDoor
open Go.RowKit
def dec4 : Option Pl.Num → Value
  | none => .tuple #[.bool false, .string ⟨#[]⟩, .int .i64 0, .bool false]
  | some n => .tuple #[.bool n.neg, .string ⟨n.dig.toArray⟩, .int .i64 n.exp, .bool true]

set_option maxHeartbeats 400000 in
theorem zzdec_any (s : ByteArray) (w : World) (hs : s.size ≤ 2097152) :
    Calls Tryd.prog 9 #[.string s] w fun e w' => e = .returned (dec4 (Pl.pDec s.data.toList)) ∧ Below w.heap.size w w' := by
  generalize ho : Pl.pDec s.data.toList = o
  have c := pdec_any s w hs
  rw [ho] at c
  clear ho
  cases o with
  | none =>
    go_enter Tryd.func9, Tryd.ntmps9
    go_wp2_with fail
    refine c.mono ?_
    rintro e w1 ⟨rfl, hb⟩
    unfold decV
    go_wp2
    go_quiet (fail)
    go_wp2
    exact bodyPost_ret (v := .tuple #[.bool false, .string ⟨#[]⟩, .int .i64 0, .bool false]) (by simp [results, Tryd.results9, go_sem]) rfl ⟨rfl, below_drewN (hb.alloc hb.size _) _⟩
  | some n =>
    obtain ⟨ne, d, ex⟩ := n
    go_enter Tryd.func9, Tryd.ntmps9
    go_wp2_with fail
    refine c.mono ?_
    rintro e w1 ⟨rfl, hb⟩
    unfold decV
    simp only
    go_wp2
    go_quiet (fail)
    go_wp2
    exact bodyPost_ret (v := .tuple #[.bool ne, .string ⟨d.toArray⟩, .int .i64 ex, .bool true]) (by simp [results, Tryd.results9, go_sem]) rfl ⟨rfl, below_drewN (hb.alloc hb.size _) _⟩

theorem zzexp_any (s : ByteArray) (w : World) (hs : s.size ≤ 4194304) :
    Calls Tryd.prog 15 #[.string s] w fun e w' => PexpPost s.data.toList w e w' := by
  have c := pexp_any s w hs
  go_enter Tryd.func15, Tryd.ntmps15
  go_wp2_with fail
  refine c.mono ?_
  rintro e w2 (⟨r4, rfl, HK, rfl⟩ | ⟨v, r4, di, pos, rfl, HK, HV, HR4, hv1, hv2, hr4, rfl⟩)
  · go_wp2
    go_ret3
    exact Or.inl ⟨r4, rfl, HK, rfl⟩
  · go_wp2
    go_ret3
    exact Or.inr ⟨v, r4, di, pos, rfl, HK, HV, HR4, hv1, hv2, hr4, rfl⟩

theorem zz14 (s : ByteArray) (w : World) (h : s.size ≤ 1048576) :
    Calls Tryd.prog 14 #[.string s] w fun e w' => e = .returned (.bool true) ∧ w' = w := by
  go_enter Tryd.func14, Tryd.ntmps14
  go_wp2
  go_ret
  exact ⟨rfl, rfl⟩

theorem big6 (s : ByteArray) (w : World) (h : 1048574 < s.size) (hs : s.size ≤ maxLen) :
    Calls Tryd.prog 6 #[.string s] w fun e w' => e = .returned (.bool true) ∧ Below w.heap.size w w' := by
  unfold maxLen at hs
  by_cases h1 : s.size ≤ 1048576
  · go_enter Tryd.func6, Tryd.ntmps6
    go_wp2
    go_ret
    exact ⟨rfl, Below.refl _ _⟩
  · go_enter Tryd.func6, Tryd.ntmps6
    go_wp2
    go_ret
    exact ⟨rfl, Below.refl _ _⟩

theorem below_after_drew {w w1 : World} (h : Below w.drew.heap.size w.drew w1) : Below w.heap.size w w1 := ((Below.refl _ _).drew).trans h
theorem below_after_iter {w w1 : World} {o : Obj} (h : Below (w.alloc o).drew.heap.size (w.alloc o).drew w1) : Below w.heap.size w w1 :=
  (((Below.refl _ _).alloc (Nat.le_refl _) o).drew).trans (h.mono (by simp))

set_option maxHeartbeats 1000000 in
theorem law6 (s : ByteArray) (w : World) (hs : s.size ≤ 1048574) :
    Calls Tryd.prog 6 #[.string s] w fun e w' => e = .returned (.bool true) ∧ Below w.heap.size w w' := by
  have c9 : ∀ w1, Calls Tryd.prog 9 #[.string ((⟨#[49, 101]⟩ : ByteArray) ++ s)] w1 fun e w' => e = .returned (dec4 (Pl.pDec (49 :: 101 :: s.data.toList))) ∧ Below w1.heap.size w1 w' := fun w1 => by
    have h := zzdec_any ((⟨#[49, 101]⟩ : ByteArray) ++ s) w1 (by rw [← size_list, data_app]; simp; omega)
    rw [data_app] at h
    exact h
  have C9 := hide c9
  clear c9
  go_enter Tryd.func6, Tryd.ntmps6
  go_wp2_with fail
  refine (zz14 _ _ (by omega)).mono ?_
  rintro e w1 ⟨rfl, rfl⟩
  go_wp2_with fail
  refine (zzexp_any _ _ (by omega)).mono ?_
  rintro e w2 (⟨r4, rfl, HK, rfl⟩ | ⟨v, r4, di, pos, rfl, HK, HV, HR4, hv1, hv2, hr4, rfl⟩)
  · go_wp2_with fail
    refine (C9.out _).mono ?_
    rintro e w2 ⟨rfl, hb⟩
    rw [Pl.dec_1e_no HK.out]
    unfold dec4
    go_wp2
    go_ret
    exact ⟨rfl, below_after_drew hb⟩
  · go_wp2_with fail
    refine (C9.out _).mono ?_
    rintro e w2 ⟨rfl, hb⟩
    cases he : r4.toList.isEmpty
    · rw [Pl.dec_1e_rest HK.out (by rw [← HR4.out, ← toList_d]; exact he)]
      unfold dec4
      go_wp2
      go_ret
      exact ⟨rfl, below_after_iter hb⟩
    · rw [Pl.dec_1e_yes HK.out (by rw [← HR4.out, ← toList_d]; exact he), ← HV.out]
      unfold dec4
      simp only
      go_wp2
      go_ret
      exact ⟨rfl, below_after_iter hb⟩

theorem law6_any (s : ByteArray) (w : World) (hs : s.size ≤ maxLen) :
    Calls Tryd.prog 6 #[.string s] w fun e w' => e = .returned (.bool true) ∧ Below w.heap.size w w' := by
  by_cases h : s.size ≤ 1048574
  · exact law6 s w h
  · exact big6 s w (by omega) hs
end Go.Proofs.Qxb6603029aDoor
