import Derived.Test.Qxb6603029aDoorWb
import Derived.Test.Qxb6603029aDoorPlainc
namespace Go.Proofs.Qxb6603029aDoor
open Go.RowKit

theorem ne48 {c : UInt8} (h : ((c.toNat : Int) == 48) = false) : (c == 48) = false := by
  simp at h ⊢
  intro e; subst e; exact h rfl
theorem eq48 {c : UInt8} (h : ((c.toNat : Int) == 48) = true) : (c == 48) = true := by
  simp at h ⊢
  exact UInt8.toNat_inj.1 (by rw [show (48 : UInt8).toNat = 48 from rfl]; omega)
theorem trL_at {l : List UInt8} {k : Nat} (h1 : ∀ j (hj : j < l.length), j < k → (l[j] == 48) = true) (h2 : ∀ h : k < l.length, (l[k] == 48) = false) : Pl.trL l = l.drop k := by
  unfold Pl.trL
  induction l generalizing k with
  | nil => simp
  | cons a t ih =>
    cases k with
    | zero => have := h2 (by simp); simp only [List.getElem_cons_zero] at this; rw [List.dropWhile_cons, this]; rfl
    | succ k =>
      have ha := h1 0 (by simp) (by omega)
      simp only [List.getElem_cons_zero] at ha
      rw [List.dropWhile_cons, ha]
      simp only [if_true, List.drop_succ_cons]
      exact ih (fun j hj hjk => by have := h1 (j + 1) (by simpa using hj) (by omega); simpa using this) (fun h => by have := h2 (by simpa using h); simpa using this)
theorem val_succ {d : ByteArray} (k : Nat) (hk : k < d.size) : Pl.val (d.data.toList.take (k + 1)) = Pl.val (d.data.toList.take k) * 10 + ((d[k].toNat : Int) - 48) := by
  unfold Pl.val
  rw [List.take_succ_eq_append_getElem (by rw [size_list]; exact hk), List.foldl_append]; rfl
theorem wrap8 {c : UInt8} (h1 : (48 : Int) ≤ (c.toNat : Int)) : (IntKind.u8.wrap ((c.toNat : Int) - 48)) = (c.toNat : Int) - 48 := by
  have := c.toNat_lt
  simp [IntKind.wrap, IntKind.bits, IntKind.signed]; omega

theorem size_ext (s : ByteArray) (k : Nat) : (s.extract k s.size).size = s.size - k := by simp
theorem dig_mem {g : ByteArray} (h : Hid (∀ c ∈ g.data.toList, Pl.isD c = true)) (k : Nat) (hk : k < g.size) : (48 : Int) ≤ (g[k].toNat : Int) ∧ (g[k].toNat : Int) ≤ 57 :=
  (isD_iff _).1 (h.out _ (List.getElem_mem (l := g.data.toList) (by rw [size_list]; exact hk)))
theorem val_take_bound {g : ByteArray} (h : Hid (∀ c ∈ g.data.toList, Pl.isD c = true)) (m : Nat) (h9 : g.size ≤ 9) : 0 ≤ Pl.val (g.data.toList.take m) ∧ Pl.val (g.data.toList.take m) < 1000000000 :=
  Pl.val_bound _ (fun c hc => h.out c (List.mem_of_mem_take hc)) (by have := size_list g; rw [List.length_take]; omega)
theorem clamp_big {l : List UInt8} {g : ByteArray} (h : Pl.trL l = g.data.toList) (h9 : 9 < g.size) : Ending.returned (.int .i64 100000000) = .returned (.int .i64 (Pl.clamp l)) := by
  unfold Pl.clamp; rw [h, size_list, if_pos h9]
theorem clamp_mid {l : List UInt8} {g : ByteArray} (h : Pl.trL l = g.data.toList) (h9 : ¬ 9 < g.size) (hm : 100000000 < Pl.val g.data.toList) : Ending.returned (.int .i64 100000000) = .returned (.int .i64 (Pl.clamp l)) := by
  unfold Pl.clamp; rw [h, size_list, if_neg h9, if_pos hm]
theorem clamp_low {l : List UInt8} {g : ByteArray} {v : Int} (h : Pl.trL l = g.data.toList) (h9 : ¬ 9 < g.size) (hm : ¬ 100000000 < Pl.val g.data.toList ∧ v = Pl.val g.data.toList) : Ending.returned (.int .i64 v) = .returned (.int .i64 (Pl.clamp l)) := by
  unfold Pl.clamp; rw [h, size_list, if_neg h9, if_neg hm.1, hm.2]

set_option maxHeartbeats 1000000 in
theorem clamp_any (s : ByteArray) (w : World) (hs : s.size ≤ 4194304) (hd : ∀ c ∈ s.data.toList, Pl.isD c = true) :
    Calls Tryd.prog 20 #[.string s] w fun e w' => e = .returned (.int .i64 (Pl.clamp s.data.toList)) ∧ w' = w := by
  have HD : Hid (∀ c ∈ s.data.toList, Pl.isD c = true) := hd
  clear hd
  go_enter Tryd.func20, Tryd.ntmps20
  go_wp2
  go_loop [3] (fun i => ∃ k : Nat, k ≤ s.size ∧ i = .int .i64 k ∧ ∀ j (hj : j < s.data.toList.length), j < k → (s.data.toList[j] == 48) = true) (fun i => s.size - (intOf i).toNat)
  case atStart => exact ⟨0, Nat.zero_le _, rfl, fun j hj h => by omega⟩
  case round =>
    obtain ⟨k, hk, rfl, hall⟩ := hrel
    have HA : Hid (∀ j (hj : j < s.data.toList.length), j < k → (s.data.toList[j] == 48) = true) := hall
    clear hall
    have hgo : (∀ h : k < s.data.toList.length, (s.data.toList[k] == 48) = false) → Pl.trL s.data.toList = (s.extract k s.size).data.toList := fun h => by
      rw [trL_at HA.out h, extract_list, List.take_of_length_le]
      rw [List.length_drop, size_list]; exact Nat.le_refl _
    by_cases hlt : k < s.size
    · cases h48 : ((s[k].toNat : Int) == 48)
      · have HT : Hid (Pl.trL s.data.toList = (s.extract k s.size).data.toList) := hgo fun _ => ne48 h48
        clear hgo
        by_cases h9 : (9 : Int) < ((s.size - k : Nat) : Int)
        · go_wp2
          go_ret
          exact ⟨clamp_big HT.out (by rw [size_ext]; omega), rfl⟩
        · have hg9 : (s.extract k s.size).size ≤ 9 := by rw [size_ext]; omega
          have hgd : ∀ c ∈ (s.extract k s.size).data.toList, Pl.isD c = true := fun c hc => HD.out c (Pl.trL_mem (HT.out ▸ hc))
          go_wp2
          generalize s.extract k s.size = g at *
          have HG : Hid (∀ c ∈ g.data.toList, Pl.isD c = true) := hgd
          clear hgd
          go_loop [5, 6] (fun v j => ∃ m : Nat, m ≤ g.size ∧ j = .int .i64 m ∧ v = .int .i64 (Pl.val (g.data.toList.take m))) (fun _ j => g.size - (intOf j).toNat)
          case atStart => exact ⟨0, Nat.zero_le _, rfl, rfl⟩
          case round =>
            obtain ⟨m, hm, rfl, rfl⟩ := hrel
            obtain ⟨hv1, hv2⟩ := val_take_bound HG m hg9
            by_cases hlm : m < g.size
            · obtain ⟨hb1, hb2⟩ := dig_mem HG m hlm
              have hw8 := wrap8 hb1
              have HS := val_succ m hlm
              have HS2 : Hid (Pl.val (g.data.toList.take (m + 1)) = Pl.val (g.data.toList.take m) * 10 + ((g[m].toNat : Int) - 48)) := HS
              clear HS
              go_wp2
              go_round
              case rel => exact ⟨m + 1, by omega, by go_num, by rw [HS2.out]⟩
              case measure => simp [intOf]; omega
            · have HE : Hid (g.data.toList.take m = g.data.toList) := (List.take_of_length_le (by rw [size_list]; omega) : _ = _)
              by_cases hM : (100000000 : Int) < Pl.val (g.data.toList.take m)
              · go_wp2
                go_ret
                exact ⟨clamp_mid HT.out (by omega) (by rw [← HE.out]; exact hM), rfl⟩
              · go_wp2
                go_ret
                exact ⟨clamp_low HT.out (by omega) (by rw [HE.out] at hM ⊢; exact ⟨by omega, rfl⟩), rfl⟩
      · clear hgo
        go_wp2
        go_round
        case rel =>
          refine ⟨k + 1, by omega, by go_num, fun j hj hjk => ?_⟩
          by_cases e : j = k
          · subst e; exact eq48 h48
          · exact HA.out j hj (by omega)
        case measure => simp [intOf]; omega
    · have HT : Hid (Pl.trL s.data.toList = (s.extract k s.size).data.toList) := hgo fun h => by rw [size_list] at h; exact absurd h hlt
      clear hgo
      by_cases h9 : (9 : Int) < ((s.size - k : Nat) : Int)
      · go_wp2
        go_ret
        exact ⟨clamp_big HT.out (by rw [size_ext]; omega), rfl⟩
      · have hg9 : (s.extract k s.size).size ≤ 9 := by rw [size_ext]; omega
        have hgd : ∀ c ∈ (s.extract k s.size).data.toList, Pl.isD c = true := fun c hc => HD.out c (Pl.trL_mem (HT.out ▸ hc))
        go_wp2
        generalize s.extract k s.size = g at *
        have HG : Hid (∀ c ∈ g.data.toList, Pl.isD c = true) := hgd
        clear hgd
        go_loop [5, 6] (fun v j => ∃ m : Nat, m ≤ g.size ∧ j = .int .i64 m ∧ v = .int .i64 (Pl.val (g.data.toList.take m))) (fun _ j => g.size - (intOf j).toNat)
        case atStart => exact ⟨0, Nat.zero_le _, rfl, rfl⟩
        case round =>
          obtain ⟨m, hm, rfl, rfl⟩ := hrel
          obtain ⟨hv1, hv2⟩ := val_take_bound HG m hg9
          by_cases hlm : m < g.size
          · obtain ⟨hb1, hb2⟩ := dig_mem HG m hlm
            have hw8 := wrap8 hb1
            have HS := val_succ m hlm
            have HS2 : Hid (Pl.val (g.data.toList.take (m + 1)) = Pl.val (g.data.toList.take m) * 10 + ((g[m].toNat : Int) - 48)) := HS
            clear HS
            go_wp2
            go_round
            case rel => exact ⟨m + 1, by omega, by go_num, by rw [HS2.out]⟩
            case measure => simp [intOf]; omega
          · have HE : Hid (g.data.toList.take m = g.data.toList) := (List.take_of_length_le (by rw [size_list]; omega) : _ = _)
            by_cases hM : (100000000 : Int) < Pl.val (g.data.toList.take m)
            · go_wp2
              go_ret
              exact ⟨clamp_mid HT.out (by omega) (by rw [← HE.out]; exact hM), rfl⟩
            · go_wp2
              go_ret
              exact ⟨clamp_low HT.out (by omega) (by rw [HE.out] at hM ⊢; exact ⟨by omega, rfl⟩), rfl⟩
end Go.Proofs.Qxb6603029aDoor
