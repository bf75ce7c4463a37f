/-
  appendCompact.
-/
import Derived.Test.Qxb6603514aDoorWb
namespace Go.Proofs.Qxb6603514aDoor
open Go.RowKit
theorem str_drop (l : List UInt8) : l.drop (Pl.str l).1.length = (Pl.str l).2 := by
  have := congrArg (List.drop (Pl.str l).1.length) (Pl.str_app l.length l (Nat.le_refl _))
  rw [List.drop_left] at this
  exact this.symm
theorem str_take (l : List UInt8) : l.take (Pl.str l).1.length = (Pl.str l).1 := by
  have := congrArg (List.take (Pl.str l).1.length) (Pl.str_app l.length l (Nat.le_refl _))
  rw [List.take_left] at this
  exact this.symm
theorem end_le {tl : List UInt8} {k : Nat} (hk : k < tl.length) : endOf tl (k + 1) ≤ tl.length := by
  unfold endOf
  rw [if_pos (by omega)]
  have := Pl.str_len _ (tl.drop (k + 1)) (Nat.le_refl _)
  simp at this
  omega
theorem end_ge {tl : List UInt8} {k : Nat} (hk : k < tl.length) : k + 1 ≤ endOf tl (k + 1) := by
  unfold endOf
  rw [if_pos (by omega)]
  omega
theorem comp_ws {c : UInt8} {t : List UInt8} (h : Pl.ws c = true) : Pl.comp (c :: t) = Pl.comp t := by rw [Pl.comp, if_pos h]
theorem comp_str {c : UInt8} {t : List UInt8} (h : Pl.ws c = false) (h2 : ((c.toNat : Int) == 34) = true) : Pl.comp (c :: t) = c :: ((Pl.str t).1 ++ Pl.comp (Pl.str t).2) := by
  rw [Pl.comp, if_neg (by simp [h]), if_pos (y34 h2)]
theorem comp_other {c : UInt8} {t : List UInt8} (h : Pl.ws c = false) (h2 : ((c.toNat : Int) == 34) = false) : Pl.comp (c :: t) = c :: Pl.comp t := by
  rw [Pl.comp, if_neg (by simp [h]), if_neg (n34 h2)]
/-- The string at k, as a piece of the text. -/
def piece (tl : List UInt8) (k : Nat) : List UInt8 := (tl.drop k).take (endOf tl (k + 1) - k)
theorem piece_len {tl : List UInt8} {k : Nat} (hk : k < tl.length) : (piece tl k).length = endOf tl (k + 1) - k := by
  have := end_le hk
  unfold piece
  rw [List.length_take, List.length_drop]; omega
theorem piece_eq {tl : List UInt8} {k : Nat} (hk : k < tl.length) : piece tl k = tl[k] :: (Pl.str (tl.drop (k + 1))).1 := by
  unfold piece endOf
  rw [if_pos (by omega), drop_cons hk, show k + 1 + (Pl.str (tl.drop (k + 1))).1.length - k = (Pl.str (tl.drop (k + 1))).1.length + 1 by omega, List.take_succ_cons, str_take]
theorem piece_rest {tl : List UInt8} {k : Nat} (hk : k < tl.length) : tl.drop (endOf tl (k + 1)) = (Pl.str (tl.drop (k + 1))).2 := by
  unfold endOf
  rw [if_pos (by omega), ← List.drop_drop, str_drop]
theorem piece_get {tl : List UInt8} {k : Nat} (j : Nat) (hj : j < (piece tl k).length) : ∃ h : k + j < tl.length, (piece tl k)[j] = tl[k + j] := by
  unfold piece at hj ⊢
  have h : k + j < tl.length := by rw [List.length_take, List.length_drop] at hj; omega
  exact ⟨h, by simp⟩
theorem step_str {l' R tl : List UInt8} {k : Nat} {c : UInt8} (hk : k < tl.length) (hc : c = tl[k]) (h : l' ++ Pl.comp (c :: tl.drop (k + 1)) = R) (hw : Pl.ws c = false) (h2 : ((c.toNat : Int) == 34) = true) : (l' ++ piece tl k) ++ Pl.comp (tl.drop (endOf tl (k + 1))) = R := by
  rw [← h, comp_str hw h2, piece_eq hk, piece_rest hk, hc]; simp

theorem step_other {l' R t : List UInt8} {c : UInt8} (h : l' ++ Pl.comp (c :: t) = R) (hw : Pl.ws c = false) (h2 : ((c.toNat : Int) == 34) = false) : (l' ++ [c]) ++ Pl.comp t = R := by
  rw [← h, comp_other hw h2]; simp
theorem step_ws {l' R t : List UInt8} {c : UInt8} (h : l' ++ Pl.comp (c :: t) = R) (hw : Pl.ws c = true) : l' ++ Pl.comp t = R := by
  rw [← h, comp_ws hw]
theorem piece_bound {l' l tl : List UInt8} {k E : Nat} (hk : k < tl.length) (hE : E = endOf tl (k + 1)) (h : l'.length ≤ l.length + k) : (l' ++ piece tl k).length ≤ l.length + E := by
  have := end_ge hk
  rw [List.length_append, piece_len hk]; omega
set_option maxHeartbeats 2000000 in
theorem comp20 (w : World) (ao : Option Addr) (cp : Nat) (l : List UInt8) (hB : Buf w ao cp l) (b o tc : Nat) (tl : List UInt8) (htl : tl.length ≤ 1048576) (hpos : 0 < tl.length) (htc : tl.length ≤ tc) (hbw : b < w.heap.size) (hne : blk ao ≠ some b)
    (hcs : ∀ j (hj : j < tl.length), w.cell? ⟨b, o + j, none⟩ = some (.int .u8 tl[j].toNat)) (hlen : l.length + tl.length ≤ 100000000000000) :
    Calls Tryd.prog 20 #[.slice ao l.length cp, .slice (some ⟨b, o, none⟩) tl.length tc] w fun e w' => ∃ ao' c' l', e = .returned (.slice ao' l'.length c') ∧ l' = l ++ Pl.comp tl ∧ Buf w' ao' c' l' ∧ Step w ao w' ao' := by
  have HC := hide hcs
  have HB0 := hide hB
  obtain ⟨n, hn⟩ : ∃ n, n = tl.length := ⟨_, rfl⟩
  have h28 := fun (wr : World) (k : Nat) (hk : k < tl.length) hcs => end28 b o tc tl k hk htl wr hcs
  rw [← hn] at htl hpos htc ⊢
  have HN := hide hn
  have Hne := hide hne
  have Hbw := hide hbw
  have HL := hide hlen
  have H28 := hide h28
  have hn0 : ((n : Int) == 0) = false := by simp; omega
  clear hcs hn hB hne hbw hlen h28
  go_enter Tryd.func20, Tryd.ntmps20
  go_wp2_with fail
  go_loopg [0, 5] n (fun g c0 c5 wx => ∃ (k : Nat) (l' : List UInt8) (ao' : Option Addr) (c' : Nat), k ≤ n ∧ g = n - k ∧ c0 = .slice ao' l'.length c' ∧ c5 = .int .i64 k ∧
    Hid (Buf wx ao' c' l') ∧ Hid (Step w ao wx ao') ∧ Hid (l' ++ Pl.comp (tl.drop k) = l ++ Pl.comp tl) ∧ Hid (l'.length ≤ l.length + k))
  case atStart => exact ⟨0, l, ao, cp, by omega, by omega, rfl, rfl, HB0, Step.refl _ _, (rfl : _ = _), Nat.le_refl _⟩
  case round =>
    obtain ⟨k, l', ao', c', hkn, rfl, rfl, rfl, HB, HS, HM, HK⟩ := hrel
    by_cases hk : k < n
    · have hk2 : k < tl.length := by rw [← HN.out]; exact hk
      obtain ⟨c, hc⟩ : ∃ c, c = tl[k] := ⟨_, rfl⟩
      have HCx : Hid (∀ j (hj : j < tl.length), wr.cell? ⟨b, o + j, none⟩ = some (.int .u8 tl[j].toNat)) := fun j hj => by
        rw [HS.out.cell (p := ⟨b, o + j, none⟩) Hbw.out Hne.out]; exact HC.out j hj
      have hcell : wr.cell? ⟨b, o + k, none⟩ = some (.int .u8 c.toNat) := by
        rw [hc]; exact HCx.out k hk2
      have HM2 : Hid (l' ++ Pl.comp (c :: tl.drop (k + 1)) = l ++ Pl.comp tl) := by
        have := HM.out; rw [drop_cons hk2, ← hc] at this; exact this
      have Hc := hide hc
      clear hc HM
      have HW := hide (ws_i c)
      cases h1 : ((c.toNat : Int) == 32)
      · cases h2 : ((c.toNat : Int) == 9)
        · cases h3 : ((c.toNat : Int) == 10)
          · cases h4 : ((c.toNat : Int) == 13)
            · have Hw : Hid (Pl.ws c = false) := by show _ = _; rw [HW.out, h1, h2, h3, h4]; rfl
              cases h34 : ((c.toNat : Int) == 34)
              · go_wp2_with (at_builtin; refine app _ rfl (.tmp 24) (.tmp 26) 25 rfl l' rfl (HB.out.alloc _) _ 1 [c] rfl rfl (srcNew _ [c]) (by have := HK.out; have := HL.out; have := HN.out; omega) ?_; intro ao2 c2 w2 hB2 hS2)
                go_roundg (n - (k + 1))
                case measure => omega
                case rel => exact ⟨k + 1, l' ++ [c], ao2, c2, by omega, rfl, by simp, rfl, hB2, HS.out.trans ((Step.alloc _ _ _).trans hS2), step_other HM2.out Hw.out h34, next_len HK.out⟩
              · obtain ⟨E, hE⟩ : ∃ E, E = endOf tl (k + 1) := ⟨_, rfl⟩
                have h5 : E ≤ n := by rw [hE, HN.out]; exact end_le hk2
                have h6 : k + 1 ≤ E := by rw [hE]; exact end_ge hk2
                have H29 := hide (H28.out wr k hk2 HCx.out)
                rw [← HN.out, ← hE] at H29
                have HE := hide hE
                clear hE
                have HP : Hid ((piece tl k).length = E - k) := by show _ = _; rw [HE.out]; exact piece_len hk2
                have HPC : Hid (∀ j (hj : j < (piece tl k).length), wr.cell? ⟨b, o + k + j, none⟩ = some (.int .u8 (piece tl k)[j].toNat)) := fun j hj => by
                  obtain ⟨h, e⟩ := piece_get j hj
                  rw [e, Nat.add_assoc]; exact HCx.out (k + j) h
                go_wp2_with (first | (go_at_call 28; refine H29.out.mono ?_; rintro e w' ⟨rfl, rfl⟩) | (at_builtin; refine app _ rfl (.tmp 38) (.tmp 42) 25 rfl l' rfl HB.out _ (E - k) (piece tl k) HP.out rfl (srcText _ b (o + k) (E - k) (tc - k) (piece tl k) HP.out HPC.out) (by have := HK.out; have := HL.out; have := HN.out; omega) ?_; intro ao2 c2 w2 hB2 hS2))
                go_roundg (n - E)
                case measure => omega
                case rel => exact ⟨E, l' ++ piece tl k, ao2, c2, by omega, rfl, by simp [HP.out], by go_num, hB2, HS.out.trans hS2, by show _ = _; rw [HE.out]; exact step_str hk2 Hc.out HM2.out Hw.out h34, piece_bound hk2 HE.out HK.out⟩
            · have Hw : Hid (Pl.ws c = true) := by show _ = _; rw [HW.out, h4]; simp
              go_wp2_with fail
              go_roundg (n - (k + 1))
              case measure => omega
              case rel => exact ⟨k + 1, l', ao', c', by omega, rfl, rfl, rfl, HB.out, HS.out, step_ws HM2.out Hw.out, Nat.le_succ_of_le HK.out⟩
          · have Hw : Hid (Pl.ws c = true) := by show _ = _; rw [HW.out, h3]; simp
            go_wp2_with fail
            go_roundg (n - (k + 1))
            case measure => omega
            case rel => exact ⟨k + 1, l', ao', c', by omega, rfl, rfl, rfl, HB.out, HS.out, step_ws HM2.out Hw.out, Nat.le_succ_of_le HK.out⟩
        · have Hw : Hid (Pl.ws c = true) := by show _ = _; rw [HW.out, h2]; simp
          go_wp2_with fail
          go_roundg (n - (k + 1))
          case measure => omega
          case rel => exact ⟨k + 1, l', ao', c', by omega, rfl, rfl, rfl, HB.out, HS.out, step_ws HM2.out Hw.out, Nat.le_succ_of_le HK.out⟩
      · have Hw : Hid (Pl.ws c = true) := by show _ = _; rw [HW.out, h1]; simp
        go_wp2_with fail
        go_roundg (n - (k + 1))
        case measure => omega
        case rel => exact ⟨k + 1, l', ao', c', by omega, rfl, rfl, rfl, HB.out, HS.out, step_ws HM2.out Hw.out, Nat.le_succ_of_le HK.out⟩
    · go_wp2_with fail
      go_ret
      refine ⟨ao', c', l', rfl, ?_, HB.out, HS.out⟩
      have := HM.out
      rw [List.drop_eq_nil_of_le (by rw [← HN.out]; omega), Pl.comp] at this
      simpa using this
theorem null20 (w : World) (ao : Option Addr) (cp : Nat) (l : List UInt8) (hB : Buf w ao cp l) (ta : Option Addr) (tc : Nat) (hlen : l.length ≤ 100000000000000) :
    Calls Tryd.prog 20 #[.slice ao l.length cp, .slice ta 0 tc] w fun e w' => ∃ ao' c' l', e = .returned (.slice ao' l'.length c') ∧ l' = l ++ [110, 117, 108, 108] ∧ Buf w' ao' c' l' ∧ Step w ao w' ao' := by
  have HB := hide hB
  clear hB
  go_enter Tryd.func20, Tryd.ntmps20
  go_wp2_with (at_builtin; refine app _ rfl (.tmp 11) (.const (.string ⟨#[110, 117, 108, 108]⟩)) 9 rfl l rfl HB.out _ 4 [110, 117, 108, 108] rfl rfl (srcStr w ⟨#[110, 117, 108, 108]⟩) (by omega) ?_; intro ao2 c2 w2 hB2 hS2)
  go_ret
  exact ⟨ao2, c2, l ++ [110, 117, 108, 108], by simp, rfl, hB2, hS2⟩
end Go.Proofs.Qxb6603514aDoor
