import Derived.Test.Qxb6604147aDoorWa
import Derived.Deep.LoopGhost
namespace Go.Proofs.Qxb6604147aDoor
open Go.RowKit

theorem enc_hi (c : UInt8) (h : 128 ≤ c.toNat) : ∃ x y : UInt8, Utf8.encode (c.toNat : Int) = ⟨#[x, y]⟩ ∧ 128 ≤ y.toNat := by
  have h2 := c.toNat_lt
  have hv : Utf8.valid (c.toNat : Int) = true := by simp [Utf8.valid]; omega
  refine ⟨UInt8.ofNat (0xC0 + c.toNat / 64), UInt8.ofNat (0x80 + c.toNat % 64), ?_, ?_⟩
  · unfold Utf8.encode
    simp only [hv, if_true, Int.toNat_natCast]
    rw [if_neg (by omega), if_pos (by omega)]
  · simp; omega
theorem valid_hi (c : UInt8) : Lib.validRune (c.toNat : Int) = true := by
  have h2 := c.toNat_lt
  unfold Lib.validRune
  simp; omega
theorem extract_list (s : ByteArray) (a b : Nat) : (s.extract a b).data.toList = (s.data.toList.drop a).take (b - a) := by
  obtain ⟨⟨l⟩⟩ := s
  rw [ByteArray.extract_mk]

set_option maxRecDepth 100000 in
set_option maxHeartbeats 1000000 in
theorem index15 (S : ByteArray) (hS : S.size = 5) (hA : ∀ x ∈ S.data.toList, x.toNat < 128) (c : UInt8) (h : 128 ≤ c.toNat) (w : World) : Calls Tryd.prog 15 #[.string S, .int .i32 c.toNat] w fun e w' => e = .returned (.int .i64 (-1)) ∧ ∃ nq, w' = w.drewN nq := by
  obtain ⟨R, hR⟩ : ∃ R, Utf8.encode (c.toNat : Int) = R := ⟨_, rfl⟩
  obtain ⟨hR2, hR1⟩ : R.size = 2 ∧ ∀ h : 1 < R.size, 128 ≤ R[1].toNat := by
    obtain ⟨x, y, e, hy⟩ := enc_hi c h
    rw [hR] at e
    subst e
    exact ⟨rfl, fun _ => hy⟩
  have hlt : 1 < R.size := by omega
  have hls : 1 < S.size := by omega
  have hv := Tryd.utf8_ValidRune (c.toNat : Int) w
  rw [valid_hi] at hv
  have hi : ∀ w, Calls Tryd.prog 19 #[.string (S.extract 2 S.size), .int .u8 R[1].toNat] w fun e w' => e = .returned (.int .i64 (-1)) ∧ w' = w := fun w => by
    have h := Tryd.strings_IndexByte (S.extract 2 S.size) (R[1].toNat : Int) w
    have e1 : ((R[1].toNat : Int)).toNat.toUInt8 = R[1] := by simp
    rw [e1] at h
    have e2 : Lib.indexByte (S.extract 2 S.size).data.toList R[1] = -1 := Pl.index_miss _ _ (fun x hx e => by
      rw [extract_list] at hx
      have h1 := hA x (List.mem_of_mem_drop (List.mem_of_mem_take hx))
      have h2 := hR1 hlt
      rw [e] at h1; omega)
    rw [e2] at h
    exact h
  have h1 : ¬ (c.toNat : Int) < 128 := by omega
  have h2 : ((c.toNat : Int) == 65533) = false := by have := c.toNat_lt; simp; omega
  have hne : ((S[1].toNat : Int) != (R[1].toNat : Int)) = true := by
    have h3 := hA S[1] (List.getElem_mem (l := S.data.toList) (by simpa using hls))
    have h4 := hR1 hlt
    simp; omega
  have hb2 : (2 : Int) ≤ (S.size : Int) := by omega
  have hb5 : S.size ≤ 5 := by omega
  have hw2 : IntKind.i64.wrap 2 = 2 := by decide
  have hr2 : (R.size : Int) - 1 = 1 := by omega
  have HV := hide hv
  have HI := hide hi
  clear hS
  clear hv hi hA hR1 h
  go_enter Tryd.func15, Tryd.ntmps15
  go_wp2_with (go_at_call 20; refine HV.out.mono ?_; rintro e w' ⟨rfl, rfl⟩)
  go_step3
  go_wp2
  obtain ⟨wo, rfl⟩ : ∃ wo : World, wo = w' := ⟨_, rfl⟩
  go_loopg [9, 10] 1 (fun g c9 c10 wx => ∃ i : Nat, Hid (i = 1) ∧ 1 ≤ i ∧ i ≤ 1 ∧ c9 = .int .i64 i ∧ c10 = .int .i64 0 ∧ wo = wx)
  case atStart => exact ⟨1, (rfl : _ = _), Nat.le_refl _, Nat.le_refl _, rfl, rfl, rfl⟩
  case round =>
    obtain ⟨i, Hi1, hi1, hi2, rfl, rfl, rfl⟩ := hrel
    have his : i < S.size := by omega
    have hi5 : (i : Int) + 1 ≤ (S.size : Int) := by omega
    have hin : ((i : Int) + 1).toNat = i + 1 := by omega
    have hwi : IntKind.i64.wrap ((i : Int) + 1) = (i : Int) + 1 := by rw [IntKind.wrap_i64]; omega
    have hne2 : ((S[i].toNat : Int) != (R[1].toNat : Int)) = true := by have e := Hi1.out; subst e; exact hne
    have HI2 : Hid (∀ w, Calls Tryd.prog 19 #[.string (S.extract (i + 1) S.size), .int .u8 R[1].toNat] w fun e w' => e = .returned (.int .i64 (-1)) ∧ w' = w) := by have e := Hi1.out; subst e; exact HI.out
    clear HV h1 h2 hR hne HI hb2 hw2
    go_wp2
    go_step3
    go_wp2
    go_quiet (fail)
    go_wp2_with fail
    go_region_with (go_at_call 19; refine (HI2.out _).mono ?_; rintro e w2 ⟨rfl, rfl⟩)
    all_goals go_wp2
    all_goals rw [Exit.noGoto_ret]
    all_goals go_wp2
    all_goals rw [Exit.noGoto_ret]
    all_goals go_wp2
    all_goals go_ret
    all_goals exact ⟨rfl, nq + 1, by first | rfl | simp [World.drewN]⟩
end Go.Proofs.Qxb6604147aDoor
