import Derived.Test.Qxb6604147aDoorWd
namespace Go.Proofs.Qxb6604147aDoor
open Go.RowKit
theorem below_drewN {B : Nat} {a w : World} (h : Below B a w) (n : Nat) : Below B a (w.drewN n) := h.trans ⟨rfl, rfl, rfl, Nat.le_refl _, fun _ _ => rfl⟩
theorem emp_iff (e : ByteArray) : e.toList.isEmpty = e.data.toList.isEmpty := by rw [Lib.toList_data]
theorem bad_elem {e : ByteArray} {p : ByteArray} {ps : List ByteArray} (hM : ps.map (·.data.toList) = Pl.sp p.data.toList) (k : Nat) (hk : k < ps.length) (he : e = ps[k]) (hb : Pl.okElem e.data.toList = false) : Pl.okPath p.data.toList = false := by
  unfold Pl.okPath
  rw [← hM, ← Bool.not_eq_true]
  intro h
  rw [List.all_eq_true] at h
  have := h e.data.toList (by rw [he]; exact List.mem_map_of_mem (List.getElem_mem ..))
  rw [hb] at this; cases this
theorem last_dot (e : ByteArray) (h : e.size - 1 < e.size) : Pl.dotEnd e.data.toList = ((e[e.size - 1].toNat : Int) == 46) := by
  have h1 : e.data.toList.getLast? = some e[e.size - 1] := by
    rw [List.getLast?_eq_getElem?, List.getElem?_eq_getElem (by simpa using h)]
    rfl
  unfold Pl.dotEnd
  rw [h1, Bool.eq_iff_iff]
  simp only [Option.some.injEq, decide_eq_true_eq, beq_iff_eq]
  rw [← UInt8.toNat_inj]
  have e46 : (46 : UInt8).toNat = 46 := rfl
  rw [e46]
  omega
theorem pos_of {e : ByteArray} (h : e.toList.isEmpty = false) : 1 ≤ e.size := by
  rw [emp_iff] at h
  have h2 : e.data.toList.length = e.size := by simp
  cases hd : e.data.toList with
  | nil => rw [hd] at h; cases h
  | cons a t => rw [hd] at h2; simp at h2; omega
theorem next_path {e : ByteArray} {j : Nat} {c : UInt8} (h : ∀ i (hi : i < e.size), i < j → Pl.pathB e[i] = true) (hj : j < e.size) (hc : c = e[j]) (hp : Pl.pathB c = true) : ∀ i (hi : i < e.size), i < j + 1 → Pl.pathB e[i] = true := by
  intro i hi hlt
  by_cases hij : i = j
  · subst hij; rw [← hc]; exact hp
  · exact h i hi (by omega)
theorem next_elem {ps : List ByteArray} {k : Nat} {e : ByteArray} (h : ∀ j (hj : j < ps.length), j < k → Pl.okElem ps[j].data.toList = true) (hk : k < ps.length) (he : e = ps[k]) (ho : Pl.okElem e.data.toList = true) : ∀ j (hj : j < ps.length), j < k + 1 → Pl.okElem ps[j].data.toList = true := by
  intro i hi hlt
  by_cases hij : i = k
  · subst hij; rw [← he]; exact ho
  · exact h i hi (by omega)
theorem bad_byte {e : ByteArray} {c : UInt8} (j : Nat) (hj : j < e.size) (hc : c = e[j]) (hp : Pl.pathB c = false) : Pl.okElem e.data.toList = false := by
  unfold Pl.okElem
  have : e.data.toList.all Pl.pathB = false := by
    rw [← Bool.not_eq_true]
    intro h
    rw [List.all_eq_true] at h
    have := h c (by rw [hc]; exact List.getElem_mem (l := e.data.toList) (by simpa using hj))
    rw [hp] at this; cases this
  rw [this]; simp

set_option maxRecDepth 100000 in
set_option maxHeartbeats 4000000 in
theorem path8 (p : ByteArray) (w : World) (hsh : w.ShapedOpen Tryd.prog) (hs : p.size ≤ 1048576) : Calls Tryd.prog 8 #[.string p] w fun e w' => e = .returned (.bool (Pl.okPath p.data.toList)) ∧ Below w.heap.size w w' := by
  have HC := hide (split10 p w hsh hs)
  clear hsh hs
  go_enter Tryd.func8, Tryd.ntmps8
  go_wp2_with fail
  refine HC.out.mono ?_
  rintro e w1 ⟨n, ps, rfl, hn, HL, HM, HS, HCl, HB, HZ⟩
  clear HC
  go_wp2_with fail
  obtain ⟨B, hB⟩ : ∃ B : Nat, B = w.heap.size := ⟨_, rfl⟩
  rw [← hB]
  rw [← hB] at HCl HZ
  have HeB := hide hB
  clear hB
  go_loopg [10] n (fun g c10 wx => ∃ k : Nat, k + g = n ∧ c10 = .int .i64 k ∧ Hid (Below w1.heap.size w1 wx) ∧ Hid (∀ j (hj : j < ps.length), j < k → Pl.okElem ps[j].data.toList = true))
  case atStart => exact ⟨0, by omega, rfl, Below.refl _ _, fun j _ h => absurd h (Nat.not_lt_zero _)⟩
  case round =>
    obtain ⟨k, hkg, rfl, HBx, HO⟩ := hrel
    have HW : Hid (Below w.heap.size w wr) := HB.out.trans (HBx.out.mono HB.out.size)
    by_cases hk : k < n
    · have hkl : k < ps.length := by rw [HL.out]; exact hk
      obtain ⟨e, he⟩ : ∃ e, e = ps[k] := ⟨_, rfl⟩
      have hcell : wr.cell? ⟨B, k, none⟩ = some (.string e) := by
        rw [HBx.out.cell (p := ⟨B, k, none⟩) HZ.out, he]; exact HCl.out k hkl
      have hes : e.size ≤ 1048576 := by rw [he]; exact HS.out _ (List.getElem_mem ..)
      have He := hide he
      clear he
      cases h0 : e.toList.isEmpty
      · have Hne := hide h0
        have hpos : 1 ≤ e.size := pos_of h0
        have hlt : e.size - 1 < e.size := by omega
        have hw : IntKind.i64.wrap ((e.size : Int) - 1) = (e.size : Int) - 1 := by rw [IntKind.wrap_i64]; omega
        have hnt : ((e.size : Int) - 1).toNat = e.size - 1 := by omega
        cases hd : ((e[e.size - 1].toNat : Int) == 46)
        · obtain ⟨cap, wb, hconv, hcl, HBb⟩ := conv_row e wr
          have Hd := hide hd
          obtain ⟨B2, hB2⟩ : ∃ B2 : Nat, B2 = wr.heap.size := ⟨_, rfl⟩
          have HBB := hide HBb
          have HX : Hid (Below w1.heap.size w1 wb) := HBx.out.trans (HBb.mono HBx.out.size)
          have HW2 : Hid (Below w.heap.size w wb) := HW.out.trans (HBb.mono HW.out.size)
          rw [← hB2] at hconv hcl
          have HCb := hide hcl
          clear hcl HBb hB2
          go_wp2_with fail
          clear hconv hcell h0
          go_loopg [27] e.size (fun g c27 wx => ∃ j nq : Nat, j + g = e.size ∧ c27 = .int .i64 j ∧ wx = wb.drewN nq ∧ Hid (∀ i (hi : i < e.size), i < j → Pl.pathB e[i] = true))
          case atStart => exact ⟨0, 0, by omega, rfl, rfl, fun j _ h => absurd h (Nat.not_lt_zero _)⟩
          case round =>
            obtain ⟨j, nq, hjg, rfl, rfl, HP⟩ := hrel
            by_cases hj : j < e.size
            · obtain ⟨c, hc⟩ : ∃ c, c = e[j] := ⟨_, rfl⟩
              have hcb : wb.cell? ⟨B2, j, none⟩ = some (.int .u8 c.toNat) := by rw [hc]; exact HCb.out j hj
              have Hc := hide hc
              clear hc
              cases hl : Pl.isLet c
              · by_cases hdg : (48 : Int) ≤ (c.toNat : Int) ∧ (c.toNat : Int) ≤ 57
                · obtain ⟨h1, h2⟩ := hdg
                  have H := hide (path_dig (dig_yes h1 h2))
                  go_wp2_with (go_at_call 11; refine (let11 _ _).mono ?_; rintro e w' ⟨rfl, rfl⟩)
                  go_roundg (e.size - (j + 1))
                  case measure => omega
                  case rel => exact ⟨j + 1, nq, by omega, rfl, rfl, next_path HP.out hj Hc.out H.out⟩
                · have H := hide (path_sp hl (dig_no hdg))
                  have hc3 : (c.toNat : Int) < 256 := by have := c.toNat_lt; omega
                  rcases (show (c.toNat : Int) < 48 ∨ ((48 : Int) ≤ (c.toNat : Int) ∧ decide ((c.toNat : Int) ≤ 57) = false) by simp only [decide_eq_false_iff_not]; omega) with h | ⟨h, h57⟩
                  all_goals
                    clear hdg
                    cases hp : Pl.isSp c
                    · go_wp2_with (first | (go_at_call 11; refine (let11 _ _).mono ?_; rintro e w' ⟨rfl, rfl⟩) | (go_at_call 12; refine (crune _ _).mono ?_; rintro e w' ⟨rfl, nr, rfl⟩))
                      go_ret
                      exact ⟨ret_bool (bad_elem HM.out k hkl He.out (bad_byte j hj Hc.out (H.out.trans hp))), below_drewN HW2.out _⟩
                    · go_wp2_with (first | (go_at_call 11; refine (let11 _ _).mono ?_; rintro e w' ⟨rfl, rfl⟩) | (go_at_call 12; refine (crune _ _).mono ?_; rintro e w' ⟨rfl, nr, rfl⟩))
                      go_roundg (e.size - (j + 1))
                      case measure => omega
                      case rel => exact ⟨j + 1, nq + nr, by omega, rfl, by first | rfl | simp [World.drewN, Nat.add_assoc, Nat.add_comm, Nat.add_left_comm], next_path HP.out hj Hc.out (H.out.trans hp)⟩
              · have H := hide (path_let hl)
                go_wp2_with (go_at_call 11; refine (let11 _ _).mono ?_; rintro e w' ⟨rfl, rfl⟩)
                go_roundg (e.size - (j + 1))
                case measure => omega
                case rel => exact ⟨j + 1, nq, by omega, rfl, rfl, next_path HP.out hj Hc.out H.out⟩
            · have hje : j = e.size := by omega
              have Hje := hide hje
              clear hje
              go_wp2_with fail
              go_roundg (n - (k + 1))
              case measure => omega
              case rel =>
                refine ⟨k + 1, by omega, rfl, below_drewN HX.out _, ?_⟩
                refine next_elem HO.out hkl He.out ?_
                unfold Pl.okElem
                rw [last_dot e hlt, ← emp_iff, Hne.out, Hd.out]
                simp only [Bool.not_false, Bool.true_and]
                rw [List.all_eq_true]
                intro x hx
                obtain ⟨i, hi, rfl⟩ := List.getElem_of_mem hx
                have hi2 : i < e.size := by simpa using hi
                exact HP.out i hi2 (by have := Hje.out; omega)
        · go_wp2_with fail
          go_ret
          exact ⟨ret_bool (bad_elem HM.out k hkl He.out (by unfold Pl.okElem; rw [last_dot e hlt, hd]; simp)), HW.out⟩
      · go_wp2_with fail
        go_ret
        exact ⟨ret_bool (bad_elem HM.out k hkl He.out (by unfold Pl.okElem; rw [← emp_iff, h0]; simp)), HW.out⟩
    · go_wp2_with fail
      go_ret
      refine ⟨ret_bool ?_, HW.out⟩
      unfold Pl.okPath
      rw [← HM.out, List.all_map, List.all_eq_true]
      intro x hx
      obtain ⟨j, hj, rfl⟩ := List.getElem_of_mem hx
      exact HO.out j hj (by have := HL.out; omega)
end Go.Proofs.Qxb6604147aDoor
