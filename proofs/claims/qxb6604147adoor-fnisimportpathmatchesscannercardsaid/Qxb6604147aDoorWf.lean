import Derived.Test.Qxb6604147aDoorWe
namespace Go.Proofs.Qxb6604147aDoor
open Go.RowKit

theorem zz6 (p : ByteArray) (w : World) (hsh : w.ShapedOpen Tryd.prog) (hs : p.size ≤ 1048576) : Calls Tryd.prog 6 #[.string p] w fun e w' => e = .returned (.bool (Pl.okPath p.data.toList)) ∧ Below w.heap.size w w' := by
  have HC := hide (path8 p w hsh hs)
  clear hsh hs
  generalize Pl.okPath p.data.toList = b at *
  go_enter Tryd.func6, Tryd.ntmps6
  go_wp2_with fail
  refine HC.out.mono ?_
  rintro e w1 ⟨rfl, HB⟩
  have HB2 := hide HB
  clear HB
  go_wp2
  go_ret
  exact ⟨rfl, HB2.out⟩
theorem bytes4 (p : ByteArray) (w : World) : Calls Tryd.prog 4 #[.string p] w fun e w' => e = .returned (.bool (decide (p.size ≤ 1048576))) ∧ w = w' := by
  by_cases h : (p.size : Int) ≤ 1048576
  · have H := hide (decide_eq_true (show p.size ≤ 1048576 by omega))
    go_enter Tryd.func4, Tryd.ntmps4
    go_wp2
    go_ret
    exact ⟨ret_bool H.out, rfl⟩
  · have H := hide (decide_eq_false (show ¬ p.size ≤ 1048576 by omega))
    have h2 : (1048576 : Int) < (p.size : Int) := by omega
    clear h
    go_enter Tryd.func4, Tryd.ntmps4
    go_wp2
    go_ret
    exact ⟨ret_bool H.out, rfl⟩

theorem dz (n : Nat) : ((n : Int) == 0) = decide (n = 0) := by rw [Bool.eq_iff_iff]; simp
theorem du (c : UInt8) (k : UInt8) : ((c.toNat : Int) == (k.toNat : Int)) = decide (c = k) := by
  rw [Bool.eq_iff_iff]; simp only [beq_iff_eq, decide_eq_true_eq]; rw [← UInt8.toNat_inj]; omega
theorem d46 (c : UInt8) : ((c.toNat : Int) == 46) = decide (c = 46) := du c 46
theorem d47 (c : UInt8) : ((c.toNat : Int) == 47) = decide (c = 47) := du c 47
theorem nextF {p : ByteArray} {i : Nat} {c : UInt8} {σ τ : Pl.Sc} (hi : i < p.size) (hc : c = p[i]) (h : (p.data.toList.take i).foldl Pl.step Pl.sc0 = σ) (hs : Pl.step σ c = τ) : (p.data.toList.take (i + 1)).foldl Pl.step Pl.sc0 = τ := by
  have hl : i < p.data.toList.length := by simpa using hi
  rw [List.take_add_one, List.foldl_append, h, List.getElem?_eq_getElem hl]
  have e : p.data.toList[i] = c := by rw [hc]; rfl
  rw [e]
  exact hs
theorem st_slash {want : Bool} {n : Nat} {last c : UInt8} {b1 b2 : Bool} (hc : ((c.toNat : Int) == 47) = true) (h1 : ((n : Int) == 0) = b1) (h2 : ((last.toNat : Int) == 46) = b2) : Pl.step ⟨want, n, last⟩ c = ⟨want && !(b1 || b2), 0, last⟩ := by
  rw [d47] at hc
  unfold Pl.step
  rw [if_pos (by simpa using hc), ← h1, ← h2, dz, d46]
theorem st_else {want : Bool} {n : Nat} {last c : UInt8} {b : Bool} (hc : ((c.toNat : Int) == 47) = false) (h1 : Pl.pathB c = b) : Pl.step ⟨want, n, last⟩ c = ⟨want && b, n + 1, c⟩ := by
  rw [d47] at hc
  unfold Pl.step
  rw [if_neg (by simpa using hc), h1]
theorem finF {p : ByteArray} {want : Bool} {n : Nat} {last : UInt8} {b1 b2 : Bool} {i : Nat} (hi : i = p.size) (h : (p.data.toList.take i).foldl Pl.step Pl.sc0 = ⟨want, n, last⟩) (h1 : ((n : Int) == 0) = b1) (h2 : ((last.toNat : Int) == 46) = b2) : Pl.okPath p.data.toList = (want && !(b1 || b2)) := by
  rw [← Pl.scan_ok]
  unfold Pl.scan
  rw [List.take_of_length_le (by simp [hi])] at h
  rw [h, ← h1, ← h2, dz, d46]
  rfl

set_option maxRecDepth 100000 in
set_option maxHeartbeats 2000000 in
theorem law3 (p : ByteArray) (w : World) (hsh : w.ShapedOpen Tryd.prog) : Calls Tryd.prog 3 #[.string p] w fun e w' => e = .returned (.bool true) ∧ Below w.heap.size w w' := by
  by_cases hp : p.size ≤ 1048576
  · have C4 := bytes4 p w
    rw [decide_eq_true hp] at C4
    have HC := hide (zz6 p w hsh hp)
    have H4 := hide C4
    have Hp := hide hp
    have hpi : (p.size : Int) ≤ 1048576 := by omega
    clear C4 hsh
    go_enter Tryd.func3, Tryd.ntmps3
    go_wp2_with (go_at_call 4; refine H4.out.mono ?_; rintro e w' ⟨rfl, rfl⟩)
    go_loopg [3, 4, 5, 6] p.size (fun g c3 c4 c5 c6 wx => ∃ (i n : Nat) (want : Bool) (last : UInt8), i + g = p.size ∧ n ≤ i ∧ c3 = .bool want ∧ c4 = .int .i64 n ∧ c5 = .int .u8 last.toNat ∧ c6 = .int .i64 i ∧ Hid ((p.data.toList.take i).foldl Pl.step Pl.sc0 = ⟨want, n, last⟩) ∧ w = wx)
    case atStart => exact ⟨0, 0, true, 0, by omega, Nat.le_refl _, rfl, rfl, rfl, rfl, (rfl : _ = _), rfl⟩
    case round =>
      obtain ⟨i, n, want, last, hig, hni, rfl, rfl, rfl, rfl, HF, rfl⟩ := hrel
      by_cases hi : i < p.size
      · obtain ⟨c, hc⟩ : ∃ c, p[i] = c := ⟨_, rfl⟩
        have Hc := hide hc
        cases h47 : ((c.toNat : Int) == 47)
        · cases hpb : Pl.pathB c
          · go_wp2_with (go_at_call 5; refine (path5 _ _).mono ?_; rintro e w' ⟨rfl, rfl⟩)
            go_roundg (p.size - (i + 1))
            case measure => omega
            case rel => exact ⟨i + 1, n + 1, false, c, by omega, by omega, rfl, rfl, rfl, rfl, nextF hi Hc.out.symm HF.out (by rw [st_else h47 hpb, Bool.and_false]), rfl⟩
          · go_wp2_with (go_at_call 5; refine (path5 _ _).mono ?_; rintro e w' ⟨rfl, rfl⟩)
            go_roundg (p.size - (i + 1))
            case measure => omega
            case rel => exact ⟨i + 1, n + 1, want, c, by omega, by omega, rfl, rfl, rfl, rfl, nextF hi Hc.out.symm HF.out (by rw [st_else h47 hpb, Bool.and_true]), rfl⟩
        · cases h0 : ((n : Int) == 0)
          · cases h46 : ((last.toNat : Int) == 46)
            · go_wp2_with fail
              go_roundg (p.size - (i + 1))
              case measure => omega
              case rel => exact ⟨i + 1, 0, want, last, by omega, by omega, rfl, rfl, rfl, rfl, nextF hi Hc.out.symm HF.out (by rw [st_slash h47 h0 h46]; simp), rfl⟩
            · go_wp2_with fail
              go_roundg (p.size - (i + 1))
              case measure => omega
              case rel => exact ⟨i + 1, 0, false, last, by omega, by omega, rfl, rfl, rfl, rfl, nextF hi Hc.out.symm HF.out (by rw [st_slash h47 h0 h46]; simp), rfl⟩
          · go_wp2_with fail
            go_roundg (p.size - (i + 1))
            case measure => omega
            case rel => exact ⟨i + 1, 0, false, last, by omega, by omega, rfl, rfl, rfl, rfl, nextF hi Hc.out.symm HF.out (by rw [st_slash h47 h0 rfl]; simp), rfl⟩
      · have hie : i = p.size := by omega
        cases h0 : ((n : Int) == 0)
        · cases h46 : ((last.toNat : Int) == 46)
          · have HR := hide (finF hie HF.out h0 h46)
            rw [HR.out] at HC
            simp only [Bool.or_false, Bool.not_false, Bool.and_true] at HC
            clear hie
            go_wp2_with (go_at_call 6; refine HC.out.mono ?_; rintro e w' ⟨rfl, HB⟩)
            go_ret
            exact ⟨by simp, HB⟩
          · have HR := hide (finF hie HF.out h0 h46)
            rw [HR.out] at HC
            simp only [Bool.or_true, Bool.not_true, Bool.and_false] at HC
            clear hie
            go_wp2_with (go_at_call 6; refine HC.out.mono ?_; rintro e w' ⟨rfl, HB⟩)
            go_ret
            exact ⟨by simp, HB⟩
        · have HR := hide (finF hie HF.out h0 rfl)
          rw [HR.out] at HC
          simp only [Bool.true_or, Bool.not_true, Bool.and_false] at HC
          clear hie
          go_wp2_with (go_at_call 6; refine HC.out.mono ?_; rintro e w' ⟨rfl, HB⟩)
          go_ret
          exact ⟨by simp, HB⟩
  · have C4 := bytes4 p w
    rw [decide_eq_false hp] at C4
    have H4 := hide C4
    clear C4 hsh
    go_enter Tryd.func3, Tryd.ntmps3
    go_wp2_with (go_at_call 4; refine H4.out.mono ?_; rintro e w' ⟨rfl, rfl⟩)
    go_ret
    exact ⟨rfl, Below.refl _ _⟩
end Go.Proofs.Qxb6604147aDoor
