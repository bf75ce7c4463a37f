/-
  zzIsDigit, zzHexVal, zzjSkip, zzjLit.
-/
import Derived.Test.Qxb6603514aDoorMo
import Derived.Test.Qxb6603514aDoorJp
namespace Go.Proofs.Qxb6603514aDoor
open Go.RowKit
/-- The text tl lies at ⟨b, o⟩. -/
structure Tx (w : World) (b o : Nat) (tl : List UInt8) : Prop where
  cell : ∀ j (hj : j < tl.length), w.cell? ⟨b, o + j, none⟩ = some (.int .u8 tl[j].toNat)
theorem Tx.old {w0 w : World} {b o : Nat} {tl : List UInt8} (h : Tx w0 b o tl) (ho : Old w0 w) : Tx w b o tl := ⟨fun j hj => ho.cell (h.cell j hj)⟩
theorem dig_i (c : UInt8) : Pj.dig c = (decide ((48 : Int) ≤ (c.toNat : Int)) && decide ((c.toNat : Int) ≤ 57)) := by
  unfold Pj.dig; rw [Bool.eq_iff_iff]; simp; omega
theorem dig38 (c : UInt8) (w : World) : Calls Tryd.prog 38 #[.int .u8 c.toNat] w fun e w' => e = .returned (.bool (Pj.dig c)) ∧ w = w' := by
  have H := hide (dig_i c)
  by_cases h1 : (48 : Int) ≤ (c.toNat : Int)
  · by_cases h2 : (c.toNat : Int) ≤ 57
    · go_enter Tryd.func38, Tryd.ntmps38
      go_wp2
      go_ret
      exact ⟨ret_bool (by rw [H.out]; simp [h1, h2]), rfl⟩
    · go_enter Tryd.func38, Tryd.ntmps38
      go_wp2
      go_ret
      exact ⟨ret_bool (by rw [H.out]; simp [h1, h2]), rfl⟩
  · go_enter Tryd.func38, Tryd.ntmps38
    go_wp2
    go_ret
    exact ⟨ret_bool (by rw [H.out, decide_eq_false (by omega)]; rfl), rfl⟩
theorem skip_ws {tl : List UInt8} {k : Nat} {c : UInt8} (hk : k < tl.length) (hc : c = tl[k]) (h : Pl.ws c = true) : Pj.skip (tl.drop k) = Pj.skip (tl.drop (k + 1)) := by
  rw [drop_cons hk, ← hc, Pj.skip, if_pos h]
theorem skip_stop {tl : List UInt8} {k : Nat} {c : UInt8} (hk : k < tl.length) (hc : c = tl[k]) (h : Pl.ws c = false) : tl.drop k = Pj.skip (tl.drop k) := by
  rw [drop_cons hk, ← hc, Pj.skip, if_neg (by simp [h])]
theorem skip_end {tl : List UInt8} {k : Nat} (hk : tl.length ≤ k) : tl.drop k = Pj.skip (tl.drop k) := by
  rw [List.drop_eq_nil_of_le hk]; rfl
theorem skip23 (w : World) (b o tc n : Nat) (tl : List UInt8) (hn : n = tl.length) (hT : Tx w b o tl) (hN : n ≤ 100000000000000) (i : Nat) (hi : i ≤ n) :
    Calls Tryd.prog 23 #[.slice (some ⟨b, o, none⟩) n tc, .int .i64 i] w fun e w' => Hid (∃ j : Nat, e = .returned (.int .i64 j) ∧ w' = w ∧ i ≤ j ∧ j ≤ n ∧ tl.drop j = Pj.skip (tl.drop i)) := by
  have HT := hide hT
  have HN := hide hn
  clear hT hn
  go_enter Tryd.func23, Tryd.ntmps23
  go_wp2_with fail
  go_loopg [1] (n - i) (fun g c1 wx => ∃ k : Nat, k + g = n ∧ c1 = .int .i64 k ∧ wx = w ∧ i ≤ k ∧ Hid (Pj.skip (tl.drop k) = Pj.skip (tl.drop i)))
  case atStart => exact ⟨i, by omega, rfl, rfl, by omega, (rfl : _ = _)⟩
  case round =>
    obtain ⟨k, hkg, rfl, rfl, hik, HS⟩ := hrel
    by_cases hk : k < n
    · have hk2 : k < tl.length := by rw [← HN.out]; exact hk
      obtain ⟨c, hc⟩ : ∃ c, c = tl[k] := ⟨_, rfl⟩
      have hcell : wr.cell? ⟨b, o + k, none⟩ = some (.int .u8 c.toNat) := by rw [hc]; exact HT.out.cell k hk2
      have Hc := hide hc
      clear hc
      cases hw : Pl.ws c
      · go_wp2_with (go_at_call 22; refine (ws22 _ _).mono ?_; rintro e w' ⟨rfl, rfl⟩)
        go_ret
        exact hide ⟨k, rfl, rfl, hik, by omega, (skip_stop hk2 Hc.out hw).trans HS.out⟩
      · go_wp2_with (go_at_call 22; refine (ws22 _ _).mono ?_; rintro e w' ⟨rfl, rfl⟩)
        go_roundg (n - (k + 1))
        case measure => omega
        case rel => exact ⟨k + 1, by omega, rfl, rfl, by omega, (skip_ws hk2 Hc.out hw).symm.trans HS.out⟩
    · go_wp2_with fail
      go_ret
      exact hide ⟨k, rfl, rfl, hik, by omega, (skip_end (by rw [← HN.out]; omega)).trans HS.out⟩
def lowS : ByteArray := ⟨#[48, 49, 50, 51, 52, 53, 54, 55, 56, 57, 97, 98, 99, 100, 101, 102]⟩
def upS : ByteArray := ⟨#[48, 49, 50, 51, 52, 53, 54, 55, 56, 57, 65, 66, 67, 68, 69, 70]⟩
theorem hexL : ∀ k : Fin 16, Pj.hex (lowS[k.val]'k.isLt) = true ∧ Pj.hex (upS[k.val]'k.isLt) = true := by decide
set_option maxRecDepth 100000 in
theorem hexN' : ∀ c : Fin 256, (∀ k : Fin 16, (lowS[k.val]'k.isLt).toNat ≠ c.val ∧ (upS[k.val]'k.isLt).toNat ≠ c.val) → Pj.hex (UInt8.ofNat c.val) = false := by decide
theorem hexN {c : UInt8} (h : ∀ k (hk : k < 16), (lowS[k]'hk).toNat ≠ c.toNat ∧ (upS[k]'hk).toNat ≠ c.toNat) : Pj.hex c = false := by
  have := hexN' ⟨c.toNat, c.toNat_lt⟩ (fun k => h k.val k.isLt)
  simpa using this
set_option maxRecDepth 100000 in
set_option maxHeartbeats 2000000 in
theorem hex37 (c : UInt8) (w : World) : Calls Tryd.prog 37 #[.int .u8 c.toNat] w fun e w' => Hid (∃ v, e = .returned (.tuple #[v, .bool (Pj.hex c)]) ∧ w' = w) := by
  go_enter Tryd.func37, Tryd.ntmps37
  go_wp2_with fail
  go_loopg [4] 16 (fun g c4 wx => ∃ k : Nat, k + g = 16 ∧ c4 = .int .i64 k ∧ wx = w ∧ Hid (∀ i (hi : i < 16), i < k → (lowS[i]'hi).toNat ≠ c.toNat ∧ (upS[i]'hi).toNat ≠ c.toNat))
  case atStart => exact ⟨0, by omega, rfl, rfl, fun i _ hi => by omega⟩
  case round =>
    obtain ⟨k, hkg, rfl, rfl, HA⟩ := hrel
    by_cases hk : k < 16
    · have hki : (k : Int) < 16 := by omega
      cases h1 : ((c.toNat : Int) == (((⟨#[48, 49, 50, 51, 52, 53, 54, 55, 56, 57, 97, 98, 99, 100, 101, 102]⟩ : ByteArray)[k]'hk).toNat : Int))
      · cases h2 : ((c.toNat : Int) == (((⟨#[48, 49, 50, 51, 52, 53, 54, 55, 56, 57, 65, 66, 67, 68, 69, 70]⟩ : ByteArray)[k]'hk).toNat : Int))
        · go_wp2_with fail
          go_roundg (16 - (k + 1))
          case measure => omega
          case rel => exact ⟨k + 1, by omega, rfl, rfl, fun i hi h => by
            rcases Nat.lt_succ_iff_lt_or_eq.1 h with h | rfl
            · exact HA.out i hi h
            · rw [beq_eq_false_iff_ne] at h1 h2
              exact ⟨fun e => h1 (congrArg Int.ofNat e.symm), fun e => h2 (congrArg Int.ofNat e.symm)⟩⟩
        · have Hh : Hid (Pj.hex c = true) := by
            rw [beq_iff_eq] at h2
            have := (hexL ⟨k, hk⟩).2
            rw [show upS[k]'hk = c from UInt8.toNat_inj.1 (Int.ofNat.inj h2.symm)] at this
            exact this
          go_wp2_with fail
          go_ret2
          exact hide ⟨_, by rw [Hh.out]; rfl, rfl⟩
      · have Hh : Hid (Pj.hex c = true) := by
          rw [beq_iff_eq] at h1
          have := (hexL ⟨k, hk⟩).1
          rw [show lowS[k]'hk = c from UInt8.toNat_inj.1 (Int.ofNat.inj h1.symm)] at this
          exact this
        go_wp2_with fail
        go_ret2
        exact hide ⟨_, by rw [Hh.out]; rfl, rfl⟩
    · have Hh : Hid (Pj.hex c = false) := hexN (fun i hi => HA.out i hi (by omega))
      go_wp2_with fail
      go_ret2
      exact hide ⟨_, by rw [Hh.out]; rfl, rfl⟩
theorem get_drop {tl : List UInt8} {i k : Nat} (h : i + k < tl.length) : (tl.drop i)[k]? = some tl[i + k] := by
  rw [List.getElem?_drop, List.getElem?_eq_getElem h]
theorem lit_all {w l : List UInt8} (h : ∀ k, k < w.length → w[k]? = l[k]?) : w <+: l := by
  rw [List.prefix_iff_eq_take]
  apply List.ext_getElem?
  intro k
  by_cases hk : k < w.length
  · rw [h k hk, List.getElem?_take, if_pos hk]
  · rw [List.getElem?_eq_none (by omega), List.getElem?_take, if_neg hk]
theorem lit_not {w l : List UInt8} {k : Nat} {x y : UInt8} (h1 : w[k]? = some x) (h2 : l[k]? = some y) (h : y ≠ x) : ¬ w <+: l := fun hp => by
  obtain ⟨t, rfl⟩ := hp
  have hk := (List.getElem?_eq_some_iff.1 h1).1
  rw [List.getElem?_append_left hk, h1] at h2
  exact h (Option.some.inj h2).symm
set_option maxHeartbeats 2000000 in
theorem lit31 (w : World) (b o tc n : Nat) (tl : List UInt8) (hn : n = tl.length) (hT : Tx w b o tl) (hN : n ≤ 100000000000000) (i : Nat) (hi : i ≤ n) (s : ByteArray) (hs : s.size ≤ 100) :
    Calls Tryd.prog 31 #[.slice (some ⟨b, o, none⟩) n tc, .int .i64 i, .string s] w fun e w' => Hid (Old w w' ∧ ((∃ v, e = .returned (.tuple #[v, .bool false]) ∧ Pj.litR s.data.toList (tl.drop i) = none) ∨ (e = .returned (.tuple #[.int .i64 ((i + s.size : Nat) : Int), .bool true]) ∧ i + s.size ≤ n ∧ Pj.litR s.data.toList (tl.drop i) = some (tl.drop (i + s.size))))) := by
  have HT := hide hT
  have HN := hide hn
  clear hT hn
  have HL : Hid (s.data.toList.length = s.size) := (rfl : _ = _)
  by_cases h1 : (n : Int) < (i : Int) + (s.size : Int)
  · go_enter Tryd.func31, Tryd.ntmps31
    go_wp2_with fail
    go_ret2
    refine hide ⟨Old.refl _, .inl ⟨_, rfl, ?_⟩⟩
    unfold Pj.litR
    rw [if_neg]
    intro hp
    have := hp.length_le
    rw [List.length_drop, HL.out, ← HN.out] at this
    omega
  · go_enter Tryd.func31, Tryd.ntmps31
    go_wp2_with fail
    go_loopg [8] s.size (fun g c8 wx => ∃ k : Nat, k + g = s.size ∧ c8 = .int .i64 k ∧ Hid (Old w wx) ∧ Hid (∀ j, j < k → s.data.toList[j]? = (tl.drop i)[j]?))
    case atStart => exact ⟨0, by omega, rfl, Old.refl _, fun j hj => by omega⟩
    case round =>
      obtain ⟨k, hkg, rfl, HO, HA⟩ := hrel
      by_cases hk : k < s.size
      · have hk2 : i + k < tl.length := by rw [← HN.out]; omega
        obtain ⟨c, hc⟩ : ∃ c, c = tl[i + k] := ⟨_, rfl⟩
        have hcell : wr.cell? ⟨b, o + (i + k), none⟩ = some (.int .u8 c.toNat) := by rw [hc]; exact HO.out.cell (HT.out.cell (i + k) hk2)
        have Hc := hide hc
        clear hc
        obtain ⟨d, hd⟩ : ∃ d, s[k] = d := ⟨_, rfl⟩
        have Hd : Hid (s.data.toList[k]? = some d) := by
          show _ = _
          rw [← hd]; simp [ByteArray.getElem_eq_getElem_data, hk]
        have hki : (k : Int) < (s.size : Int) := by omega
        have hik : (i : Int) + (k : Int) < (n : Int) := by omega
        cases h2 : ((c.toNat : Int) == (d.toNat : Int))
        · go_wp2_with fail
          go_quiet (fail)
          go_wp2_with fail
          go_ret2
          refine hide ⟨HO.out.drewN _, .inl ⟨_, rfl, ?_⟩⟩
          unfold Pj.litR
          rw [if_neg]
          refine lit_not Hd.out ((get_drop hk2).trans (congrArg some Hc.out.symm)) ?_
          rintro rfl
          simp at h2
        · have Hcd : Hid (c = d) := by
            rw [beq_iff_eq] at h2
            exact UInt8.toNat_inj.1 (Int.ofNat.inj h2)
          go_wp2_with fail
          go_quiet (fail)
          go_wp2_with fail
          go_roundg (s.size - (k + 1))
          case measure => omega
          case rel => exact ⟨k + 1, by omega, rfl, HO.out.drewN _, fun j hj => by
            rcases Nat.lt_succ_iff_lt_or_eq.1 hj with h | rfl
            · exact HA.out j h
            · rw [Hd.out, get_drop hk2, ← Hc.out, Hcd.out]⟩
      · go_wp2_with fail
        go_ret2
        refine hide ⟨HO.out, .inr ⟨?_, by omega, ?_⟩⟩
        · congr 3
        · unfold Pj.litR
          rw [if_pos, List.drop_drop, HL.out]
          exact lit_all (fun j hj => HA.out j (by rw [HL.out] at hj; omega))
end Go.Proofs.Qxb6603514aDoor
