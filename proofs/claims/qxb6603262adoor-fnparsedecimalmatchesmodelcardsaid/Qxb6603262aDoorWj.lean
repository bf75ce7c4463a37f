import Derived.Test.Qxb6603262aDoorProg
import Derived.Test.Qxb6603262aDoorPlain
import Derived.WalkKit
import Derived.WalkSpells
import Derived.WalkLawsBesides
import Derived.Deep.DeepCutAuto
import Derived.Deep.CutBlock
namespace Go.Proofs.Qxb6603262aDoor
open Go.RowKit
theorem hide {p : Prop} (h : p) : Hid p := h
theorem size_list (s : ByteArray) : s.data.toList.length = s.size := by
  simp only [Array.length_toList]; rfl
theorem drop_at (s : ByteArray) (k : Nat) (h : k < s.size) : s.data.toList.drop k = s[k] :: s.data.toList.drop (k + 1) :=
  List.drop_eq_getElem_cons (by rw [size_list]; exact h)
theorem drop_end (s : ByteArray) (k : Nat) (h : ¬ k < s.size) : s.data.toList.drop k = [] := List.drop_of_length_le (by rw [size_list]; omega)
theorem isD_iff (c : UInt8) : Pl.isD c = true ↔ (48 : Int) ≤ (c.toNat : Int) ∧ (c.toNat : Int) ≤ 57 := by
  unfold Pl.isD; simp; omega
theorem q_iff (c : UInt8) (n : Nat) : (c.toNat = n) ↔ (((c.toNat : Int) == (n : Int)) = true) := by simp; omega
theorem ret_bool {a b : Bool} (h : b = a) : Ending.returned (.bool a) = .returned (.bool b) := by rw [h]
theorem drop_empty (s : ByteArray) (k : Nat) (hk : k ≤ s.size) : (s.data.toList.drop k).isEmpty = ((k : Int) == (s.size : Int)) := by
  rw [Bool.eq_iff_iff]; simp [List.drop_eq_nil_iff]; omega
theorem int_eq {a b : Int} (h : a = b) : Value.int .i64 a = .int .i64 b := by rw [h]

theorem isd12 (c : UInt8) (w : World) : Calls Tryd.prog 12 #[.int .u8 c.toNat] w fun e w' => e = .returned (.bool (Pl.isD c)) ∧ w = w' := by
  have e : Pl.isD c = (decide ((48 : Int) ≤ (c.toNat : Int)) && decide ((c.toNat : Int) ≤ 57)) := by
    rw [Bool.eq_iff_iff, isD_iff]; simp
  have H := hide e
  clear e
  by_cases h : (48 : Int) ≤ (c.toNat : Int)
  · go_enter Tryd.func12, Tryd.ntmps12
    go_wp2
    go_ret
    exact ⟨by rw [H.out]; simp [h], rfl⟩
  · go_enter Tryd.func12, Tryd.ntmps12
    go_wp2
    go_ret
    exact ⟨by rw [H.out]; simp; omega, rfl⟩

/-- Where a run of digits that begins at k0 has been read as far as k. -/
def DigTo (l : List UInt8) (k0 k : Nat) : Prop := k0 ≤ k ∧ Pl.rs (l.drop k) = Pl.rs (l.drop k0) ∧ (k0 < k → (Pl.dg (l.drop k0)).isEmpty = false)
theorem DigTo.refl (l : List UInt8) (k : Nat) : DigTo l k k := ⟨Nat.le_refl _, rfl, fun h => by omega⟩
theorem DigTo.step {s : ByteArray} {k0 k : Nat} (h : DigTo s.data.toList k0 k) (hk : k < s.size) (hd : Pl.isD s[k] = true) : DigTo s.data.toList k0 (k + 1) := by
  have e := drop_at s k hk
  refine ⟨by have := h.1; omega, ?_, fun _ => ?_⟩
  · rw [← h.2.1, e, Pl.rs_yes hd]
  · by_cases hh : k0 < k
    · exact h.2.2 hh
    · have : k0 = k := by have := h.1; omega
      subst this
      rw [e, Pl.dg_yes hd]; rfl
/-- The run's end: what is left, and whether it had a digit. -/
theorem DigTo.stop {s : ByteArray} {k0 k : Nat} (h : DigTo s.data.toList k0 k) (hd : ∀ hk : k < s.size, Pl.isD s[k] = false) : Pl.rs (s.data.toList.drop k0) = s.data.toList.drop k ∧ ((Pl.dg (s.data.toList.drop k0)).isEmpty = decide (k = k0)) := by
  have e : Pl.rs (s.data.toList.drop k) = s.data.toList.drop k := by
    by_cases hk : k < s.size
    · rw [drop_at s k hk, Pl.rs_no (hd hk)]
    · rw [drop_end s k hk]; rfl
  refine ⟨by rw [← h.2.1, e], ?_⟩
  by_cases hh : k0 < k
  · rw [h.2.2 hh]; symm; simp; omega
  · have : k0 = k := by have := h.1; omega
    subst this
    have hx := Pl.dg_append (s.data.toList.drop k0)
    rw [e] at hx
    have : Pl.dg (s.data.toList.drop k0) = [] := by
      have := congrArg List.length hx
      simp only [List.length_append] at this
      exact List.length_eq_zero_iff.1 (by omega)
    rw [this]; simp

set_option maxRecDepth 100000 in
set_option maxHeartbeats 4000000 in
theorem json_any (s : ByteArray) (w : World) (hs : s.size ≤ 1048576) :
    Calls Tryd.prog 6 #[.string s] w fun e w' => e = .returned (.bool (Pl.n0 s.data.toList)) ∧ w' = w := by
  obtain ⟨wo, hwo⟩ : ∃ wo : World, wo = w := ⟨_, rfl⟩
  subst hwo
  go_enter Tryd.func6, Tryd.ntmps6
  go_upto_region 3 with fail
  go_cut [17] (fun v wx => wo = wx ∧ ((v = .bool true ∧ 1 ≤ s.size ∧ Hid (Pl.n0 s.data.toList = Pl.n1 (s.data.toList.drop 1))) ∨ (v = .bool false ∧ Hid (Pl.n0 s.data.toList = Pl.n1 (s.data.toList.drop 0)))))
  case first =>
    by_cases h0 : 0 < s.size
    · have e0 := drop_at s 0 h0
      rw [List.drop_zero] at e0
      cases h45 : ((s[0].toNat : Int) == 45)
      · have H : Hid (Pl.n0 s.data.toList = Pl.n1 (s.data.toList.drop 0)) := (by rw [List.drop_zero, e0]; simp [Pl.n0, q_iff, h45] : _ = _)
        clear e0
        go_wp2
        go_meet
        exact ⟨rfl, Or.inr ⟨rfl, H⟩⟩
      · have H : Hid (Pl.n0 s.data.toList = Pl.n1 (s.data.toList.drop 1)) := (by rw [e0]; simp [Pl.n0, q_iff, h45] : _ = _)
        clear e0
        go_wp2
        go_meet
        exact ⟨rfl, Or.inl ⟨rfl, h0, H⟩⟩
    · have H : Hid (Pl.n0 s.data.toList = Pl.n1 (s.data.toList.drop 0)) := (by have := drop_end s 0 h0; rw [List.drop_zero] at this; rw [this]; rfl : _ = _)
      go_wp2
      go_meet
      exact ⟨rfl, Or.inr ⟨rfl, H⟩⟩
  case rest =>
    obtain ⟨rfl, hv⟩ := hcut
    go_upto_if 17 with fail
    go_cut [4, 17] (fun c4 _ wx => wo = wx ∧ ∃ k : Nat, k ≤ s.size ∧ c4 = .int .i64 k ∧ Hid (Pl.n0 s.data.toList = Pl.n1 (s.data.toList.drop k)))
    case first =>
      rcases hv with ⟨rfl, h1, H⟩ | ⟨rfl, H⟩
      · go_wp2
        go_meet
        exact ⟨rfl, 1, h1, rfl, H⟩
      · go_wp2
        go_meet
        exact ⟨rfl, 0, by omega, rfl, H⟩
    case rest =>
      clear hv
      obtain ⟨rfl, k1, hk1, rfl, H1⟩ := hcut
      by_cases hl1 : k1 < s.size
      rotate_left
      · go_wp2
        go_ret
        exact ⟨by rw [H1.out, drop_end s k1 hl1]; rfl, rfl⟩
      · have e1 := hide (drop_at s k1 hl1)
        have hge : decide (s.size ≤ k1) = false := by simp; omega
        go_upto_if 26 with fail
        go_cut [4, 26] (fun c4 _ wx => wo = wx ∧ ∃ k : Nat, k ≤ s.size ∧ c4 = .int .i64 k ∧ Hid (Pl.n0 s.data.toList = Pl.n2 (s.data.toList.drop k)))
        case first =>
          cases h48 : ((s[k1].toNat : Int) == 48)
          · by_cases h49 : (49 : Int) ≤ (s[k1].toNat : Int) ∧ (s[k1].toNat : Int) ≤ 57
            · have hD1 : Pl.isD s[k1] = true := (isD_iff _).2 (by omega)
              have H2 : Hid (Pl.n0 s.data.toList = Pl.n2 (Pl.rs (s.data.toList.drop k1))) := (by rw [H1.out, e1.out]; simp [Pl.n1, q_iff, h48, hD1] : _ = _)
              obtain ⟨h491, h492⟩ := h49
              clear hD1 H1 e1
              go_wp2_with fail
              go_loopg [4] (s.size - k1) (fun g c4 wx => ∃ k : Nat, k ≤ s.size ∧ g = s.size - k ∧ c4 = .int .i64 k ∧ Hid (DigTo s.data.toList k1 k) ∧ wo = wx)
              case atStart => exact ⟨k1, by omega, rfl, by first | rfl | go_num, DigTo.refl _ _, rfl⟩
              case round =>
                obtain ⟨k, hk, rfl, rfl, HDT, rfl⟩ := hrel
                have hk0 : k1 ≤ k := HDT.out.1
                by_cases hlt : k < s.size
                · cases hD : Pl.isD s[k]
                  · have HS := hide (HDT.out.stop (fun _ => hD))
                    go_wp2_with (go_at_call 12; refine (isd12 _ _).mono ?_; rintro e w' ⟨rfl, rfl⟩)
                    go_meet
                    exact ⟨rfl, k, hk, rfl, (by rw [H2.out, HS.out.1] : _ = _)⟩
                  · have HST := hide (HDT.out.step hlt hD)
                    go_wp2_with (go_at_call 12; refine (isd12 _ _).mono ?_; rintro e w' ⟨rfl, rfl⟩)
                    go_roundg (s.size - (k + 1))
                    case measure => omega
                    case rel => exact ⟨k + 1, by omega, rfl, by go_num, HST, rfl⟩
                · have HS := hide (HDT.out.stop (fun h => absurd h hlt))
                  go_wp2_with (go_at_call 12; refine (isd12 _ _).mono ?_; rintro e w' ⟨rfl, rfl⟩)
                  go_meet
                  exact ⟨rfl, k, hk, rfl, (by rw [H2.out, HS.out.1] : _ = _)⟩
            · have hD1 : Pl.isD s[k1] = false := by
                cases h : Pl.isD s[k1]
                · rfl
                · have := (isD_iff _).1 h; simp at h48; omega
              have H2 := hide (show Pl.n0 s.data.toList = false by rw [H1.out, e1.out]; simp [Pl.n1, q_iff, h48, hD1])
              clear hD1
              by_cases h491 : (49 : Int) ≤ (s[k1].toNat : Int)
              all_goals
                go_wp2
                go_ret
                exact ⟨ret_bool H2.out, rfl⟩
          · have H2 : Hid (Pl.n0 s.data.toList = Pl.n2 (s.data.toList.drop (k1 + 1))) := (by rw [H1.out, e1.out]; simp [Pl.n1, q_iff, h48] : _ = _)
            go_wp2
            go_meet
            exact ⟨rfl, k1 + 1, by omega, by go_num, H2⟩
        case rest =>
          clear e1 H1
          obtain ⟨rfl, k2, hk2, rfl, H2⟩ := hcut
          go_upto_region 13 with fail
          go_cut [58] (fun v wx => wo = wx ∧ ((v = .bool true ∧ k2 + 1 ≤ s.size ∧ Hid (Pl.n0 s.data.toList = (!(Pl.dg (s.data.toList.drop (k2 + 1))).isEmpty && Pl.n3 (Pl.rs (s.data.toList.drop (k2 + 1)))))) ∨ (v = .bool false ∧ Hid (Pl.n0 s.data.toList = Pl.n3 (s.data.toList.drop k2)))))
          case first =>
            by_cases h0 : k2 < s.size
            · have e0 := hide (drop_at s k2 h0)
              cases h46 : ((s[k2].toNat : Int) == 46)
              · have H : Hid (Pl.n0 s.data.toList = Pl.n3 (s.data.toList.drop k2)) := (by rw [H2.out, e0.out]; simp [Pl.n2, q_iff, h46] : _ = _)
                go_wp2
                go_meet
                exact ⟨rfl, Or.inr ⟨rfl, H⟩⟩
              · have H : Hid (Pl.n0 s.data.toList = (!(Pl.dg (s.data.toList.drop (k2 + 1))).isEmpty && Pl.n3 (Pl.rs (s.data.toList.drop (k2 + 1))))) := (by rw [H2.out, e0.out]; simp [Pl.n2, q_iff, h46] : _ = _)
                go_wp2
                go_meet
                exact ⟨rfl, Or.inl ⟨rfl, h0, H⟩⟩
            · have H : Hid (Pl.n0 s.data.toList = Pl.n3 (s.data.toList.drop k2)) := (by rw [H2.out, drop_end s k2 h0]; rfl : _ = _)
              go_wp2
              go_meet
              exact ⟨rfl, Or.inr ⟨rfl, H⟩⟩
          case rest =>
            obtain ⟨rfl, hv⟩ := hcut
            go_upto_if 58 with fail
            go_cut [4, 5, 58] (fun c4 _ _ wx => wo = wx ∧ ∃ k : Nat, k ≤ s.size ∧ c4 = .int .i64 k ∧ Hid (Pl.n0 s.data.toList = Pl.n3 (s.data.toList.drop k)))
            case first =>
              rcases hv with ⟨rfl, h1, H⟩ | ⟨rfl, H⟩
              · have hk21 : k2 + 1 ≤ s.size := h1
                go_wp2_with fail
                go_loopg [4] (s.size - (k2 + 1)) (fun g c4 wx => ∃ k : Nat, k ≤ s.size ∧ g = s.size - k ∧ c4 = .int .i64 k ∧ Hid (DigTo s.data.toList (k2 + 1) k) ∧ wo = wx)
                case atStart => exact ⟨(k2 + 1), by omega, rfl, by first | rfl | go_num, DigTo.refl _ _, rfl⟩
                case round =>
                  obtain ⟨k, hk, rfl, rfl, HDT, rfl⟩ := hrel
                  have hk0 : (k2 + 1) ≤ k := HDT.out.1
                  by_cases hlt : k < s.size
                  · cases hD : Pl.isD s[k]
                    · have HS := hide (HDT.out.stop (fun _ => hD))
                      cases hz : decide (k = k2 + 1)
                      · have hkn : ((k : Int) == (k2 : Int) + 1) = false := by simp at hz ⊢; omega
                        go_wp2_with (go_at_call 12; refine (isd12 _ _).mono ?_; rintro e w' ⟨rfl, rfl⟩)
                        go_meet
                        exact ⟨rfl, k, hk, rfl, (by rw [H.out, HS.out.2, hz, HS.out.1]; rfl : _ = _)⟩
                      · have hkn : ((k : Int) == (k2 : Int) + 1) = true := by simp at hz ⊢; omega
                        go_wp2_with (go_at_call 12; refine (isd12 _ _).mono ?_; rintro e w' ⟨rfl, rfl⟩)
                        go_ret
                        exact ⟨by rw [H.out, HS.out.2, hz]; rfl, rfl⟩
                    · have HST := hide (HDT.out.step hlt hD)
                      go_wp2_with (go_at_call 12; refine (isd12 _ _).mono ?_; rintro e w' ⟨rfl, rfl⟩)
                      go_roundg (s.size - (k + 1))
                      case measure => omega
                      case rel => exact ⟨k + 1, by omega, rfl, by go_num, HST, rfl⟩
                  · have HS := hide (HDT.out.stop (fun h => absurd h hlt))
                    cases hz : decide (k = k2 + 1)
                    · have hkn : ((k : Int) == (k2 : Int) + 1) = false := by simp at hz ⊢; omega
                      go_wp2_with (go_at_call 12; refine (isd12 _ _).mono ?_; rintro e w' ⟨rfl, rfl⟩)
                      go_meet
                      exact ⟨rfl, k, hk, rfl, (by rw [H.out, HS.out.2, hz, HS.out.1]; rfl : _ = _)⟩
                    · have hkn : ((k : Int) == (k2 : Int) + 1) = true := by simp at hz ⊢; omega
                      go_wp2_with (go_at_call 12; refine (isd12 _ _).mono ?_; rintro e w' ⟨rfl, rfl⟩)
                      go_ret
                      exact ⟨by rw [H.out, HS.out.2, hz]; rfl, rfl⟩
              · go_wp2
                go_meet
                exact ⟨rfl, k2, hk2, rfl, H⟩
            case rest =>
              clear hv H2
              obtain ⟨rfl, k3, hk3, rfl, H3⟩ := hcut
              go_upto_region 20 with fail
              go_cut [90] (fun v wx => wo = wx ∧ ((v = .bool true ∧ k3 + 1 ≤ s.size ∧ Hid (Pl.n0 s.data.toList = (!(Pl.dg (Pl.eBody (s.data.toList.drop (k3 + 1)))).isEmpty && (Pl.rs (Pl.eBody (s.data.toList.drop (k3 + 1)))).isEmpty))) ∨ (v = .bool false ∧ Hid (Pl.n0 s.data.toList = (s.data.toList.drop k3).isEmpty))))
              case first =>
                by_cases h0 : k3 < s.size
                · have e0 := hide (drop_at s k3 h0)
                  cases h101 : ((s[k3].toNat : Int) == 101)
                  · cases h69 : ((s[k3].toNat : Int) == 69)
                    · have H : Hid (Pl.n0 s.data.toList = (s.data.toList.drop k3).isEmpty) := (by rw [H3.out, e0.out]; simp [Pl.n3, Pl.isEc, q_iff, h101, h69] : _ = _)
                      go_wp2
                      go_meet
                      exact ⟨rfl, Or.inr ⟨rfl, H⟩⟩
                    · have H : Hid (Pl.n0 s.data.toList = (!(Pl.dg (Pl.eBody (s.data.toList.drop (k3 + 1)))).isEmpty && (Pl.rs (Pl.eBody (s.data.toList.drop (k3 + 1)))).isEmpty)) := (by rw [H3.out, e0.out]; simp [Pl.n3, Pl.isEc, q_iff, h69] : _ = _)
                      go_wp2
                      go_meet
                      exact ⟨rfl, Or.inl ⟨rfl, h0, H⟩⟩
                  · have H : Hid (Pl.n0 s.data.toList = (!(Pl.dg (Pl.eBody (s.data.toList.drop (k3 + 1)))).isEmpty && (Pl.rs (Pl.eBody (s.data.toList.drop (k3 + 1)))).isEmpty)) := (by rw [H3.out, e0.out]; simp [Pl.n3, Pl.isEc, q_iff, h101] : _ = _)
                    go_wp2
                    go_meet
                    exact ⟨rfl, Or.inl ⟨rfl, h0, H⟩⟩
                · have H : Hid (Pl.n0 s.data.toList = (s.data.toList.drop k3).isEmpty) := (by rw [H3.out, drop_end s k3 h0]; rfl : _ = _)
                  go_wp2
                  go_meet
                  exact ⟨rfl, Or.inr ⟨rfl, H⟩⟩
              case rest =>
                obtain ⟨rfl, hv⟩ := hcut
                clear H3
                go_upto_if 90 with fail
                go_cut [4, 6, 90] (fun c4 _ _ wx => wo = wx ∧ ∃ k : Nat, k ≤ s.size ∧ c4 = .int .i64 k ∧ Hid (Pl.n0 s.data.toList = (s.data.toList.drop k).isEmpty))
                case first =>
                  rcases hv with ⟨rfl, h1, H⟩ | ⟨rfl, H⟩
                  rotate_left
                  · go_wp2
                    go_meet
                    exact ⟨rfl, k3, hk3, rfl, H⟩
                  · go_upto_region 22 with fail
                    go_cut [107] (fun v wx => wo = wx ∧ ((v = .bool true ∧ k3 + 2 ≤ s.size ∧ Hid (Pl.eBody (s.data.toList.drop (k3 + 1)) = s.data.toList.drop (k3 + 2))) ∨ (v = .bool false ∧ Hid (Pl.eBody (s.data.toList.drop (k3 + 1)) = s.data.toList.drop (k3 + 1)))))
                    case first =>
                      by_cases h0 : k3 + 1 < s.size
                      · have e0 := hide (drop_at s (k3 + 1) h0)
                        cases h43 : ((s[k3 + 1].toNat : Int) == 43)
                        · cases h45 : ((s[k3 + 1].toNat : Int) == 45)
                          · have H : Hid (Pl.eBody (s.data.toList.drop (k3 + 1)) = s.data.toList.drop (k3 + 1)) := (by rw [e0.out]; simp [Pl.eBody, Pl.isSg, q_iff, h43, h45] : _ = _)
                            go_wp2
                            go_meet
                            exact ⟨rfl, Or.inr ⟨rfl, H⟩⟩
                          · have H : Hid (Pl.eBody (s.data.toList.drop (k3 + 1)) = s.data.toList.drop (k3 + 2)) := (by rw [e0.out]; simp [Pl.eBody, Pl.isSg, q_iff, h45] : _ = _)
                            go_wp2
                            go_meet
                            exact ⟨rfl, Or.inl ⟨rfl, h0, H⟩⟩
                        · have H : Hid (Pl.eBody (s.data.toList.drop (k3 + 1)) = s.data.toList.drop (k3 + 2)) := (by rw [e0.out]; simp [Pl.eBody, Pl.isSg, q_iff, h43] : _ = _)
                          go_wp2
                          go_meet
                          exact ⟨rfl, Or.inl ⟨rfl, h0, H⟩⟩
                      · have H : Hid (Pl.eBody (s.data.toList.drop (k3 + 1)) = s.data.toList.drop (k3 + 1)) := (by rw [drop_end s (k3 + 1) h0]; rfl : _ = _)
                        go_wp2
                        go_meet
                        exact ⟨rfl, Or.inr ⟨rfl, H⟩⟩
                    case rest =>
                      obtain ⟨rfl, hv2⟩ := hcut
                      go_upto_if 107 with fail
                      go_cut [4, 107] (fun c4 _ wx => wo = wx ∧ ∃ k : Nat, k ≤ s.size ∧ c4 = .int .i64 k ∧ Hid (Pl.eBody (s.data.toList.drop (k3 + 1)) = s.data.toList.drop k))
                      case first =>
                        rcases hv2 with ⟨rfl, h2, H2⟩ | ⟨rfl, H2⟩
                        · go_wp2
                          go_meet
                          exact ⟨rfl, k3 + 2, h2, int_eq (by omega), H2⟩
                        · go_wp2
                          go_meet
                          exact ⟨rfl, k3 + 1, h1, by go_num, H2⟩
                      case rest =>
                        clear hv2
                        obtain ⟨rfl, k4, hk4, rfl, H4⟩ := hcut
                        have H5 : Hid (Pl.n0 s.data.toList = (!(Pl.dg (s.data.toList.drop k4)).isEmpty && (Pl.rs (s.data.toList.drop k4)).isEmpty)) := (by rw [H.out, H4.out] : _ = _)
                        clear H H4
                        go_wp2_with fail
                        go_loopg [4] (s.size - k4) (fun g c4 wx => ∃ k : Nat, k ≤ s.size ∧ g = s.size - k ∧ c4 = .int .i64 k ∧ Hid (DigTo s.data.toList k4 k) ∧ wo = wx)
                        case atStart => exact ⟨k4, by omega, rfl, by first | rfl | go_num, DigTo.refl _ _, rfl⟩
                        case round =>
                          obtain ⟨k, hk, rfl, rfl, HDT, rfl⟩ := hrel
                          have hk0 : k4 ≤ k := HDT.out.1
                          by_cases hlt : k < s.size
                          · cases hD : Pl.isD s[k]
                            · have HS := hide (HDT.out.stop (fun _ => hD))
                              cases hz : decide (k = k4)
                              · have hkn : ((k : Int) == (k4 : Int)) = false := by simp at hz ⊢; omega
                                go_wp2_with (go_at_call 12; refine (isd12 _ _).mono ?_; rintro e w' ⟨rfl, rfl⟩)
                                go_meet
                                exact ⟨rfl, k, hk, rfl, (by rw [H5.out, HS.out.2, hz, HS.out.1]; rfl : _ = _)⟩
                              · have hkn : ((k : Int) == (k4 : Int)) = true := by simp at hz ⊢; omega
                                go_wp2_with (go_at_call 12; refine (isd12 _ _).mono ?_; rintro e w' ⟨rfl, rfl⟩)
                                go_ret
                                exact ⟨by rw [H5.out, HS.out.2, hz]; rfl, rfl⟩
                            · have HST := hide (HDT.out.step hlt hD)
                              go_wp2_with (go_at_call 12; refine (isd12 _ _).mono ?_; rintro e w' ⟨rfl, rfl⟩)
                              go_roundg (s.size - (k + 1))
                              case measure => omega
                              case rel => exact ⟨k + 1, by omega, rfl, by go_num, HST, rfl⟩
                          · have HS := hide (HDT.out.stop (fun h => absurd h hlt))
                            cases hz : decide (k = k4)
                            · have hkn : ((k : Int) == (k4 : Int)) = false := by simp at hz ⊢; omega
                              go_wp2_with (go_at_call 12; refine (isd12 _ _).mono ?_; rintro e w' ⟨rfl, rfl⟩)
                              go_meet
                              exact ⟨rfl, k, hk, rfl, (by rw [H5.out, HS.out.2, hz, HS.out.1]; rfl : _ = _)⟩
                            · have hkn : ((k : Int) == (k4 : Int)) = true := by simp at hz ⊢; omega
                              go_wp2_with (go_at_call 12; refine (isd12 _ _).mono ?_; rintro e w' ⟨rfl, rfl⟩)
                              go_ret
                              exact ⟨by rw [H5.out, HS.out.2, hz]; rfl, rfl⟩
                case rest =>
                  clear hv
                  obtain ⟨rfl, k5, hk5, rfl, H5⟩ := hcut
                  have H6 := hide (H5.out.trans (drop_empty s k5 hk5))
                  go_wp2
                  go_ret
                  exact ⟨ret_bool H6.out, rfl⟩
end Go.Proofs.Qxb6603262aDoor
