/-
  The second law: what is needed beside the walk.
-/
import Derived.Test.Qxb6603514aDoorAl
import Derived.Test.Qxb6603514aDoorPm
import Derived.Test.Qxb6603514aDoorWf
namespace Go.Proofs.Qxb6603514aDoor
open Go.RowKit
/-- How long the first k members are. -/
def sm (N : Nat → ByteArray) (L : Nat → List UInt8) : Nat → Nat
  | 0 => 0
  | k + 1 => sm N L k + ((N k).size + (L k).length)
theorem sm_le (N : Nat → ByteArray) (L : Nat → List UInt8) : ∀ (n i : Nat), i < n → (N i).size + (L i).length ≤ sm N L n
  | 0, i, h => by omega
  | n + 1, i, h => by
    rw [sm]
    rcases Nat.lt_succ_iff_lt_or_eq.1 h with h | rfl
    · have := sm_le N L n i h; omega
    · omega
set_option maxHeartbeats 2000000 in
theorem bytes13 (w : World) (a : Option Addr) (n c : Nat) (N : Nat → ByteArray) (A : Nat → Option Addr) (C : Nat → Nat) (L : Nat → List UInt8) (hR : Mem w a n N A C L) :
    Calls Tryd.prog 13 #[.slice a n c] w fun e w' => (e = .returned (.bool false) ∧ w' = w) ∨ (e = .returned (.bool true) ∧ w' = w ∧ Hid (n + sm N L n ≤ 1048576)) := by
  have HR := hide hR
  clear hR
  go_enter Tryd.func13, Tryd.ntmps13
  by_cases h1 : (1048576 : Int) < (n : Int)
  · go_wp2_with fail
    go_ret
    exact .inl ⟨rfl, rfl⟩
  · go_wp2_with fail
    go_loopg [3, 4] n (fun g c3 c4 wx => ∃ (k z : Nat), k + g = n ∧ c3 = .int .i64 z ∧ c4 = .int .i64 k ∧ z ≤ 1048576 ∧ wx = w ∧ Hid (z = n + sm N L k))
    case atStart => exact ⟨0, n, by omega, rfl, rfl, by omega, rfl, (rfl : _ = _)⟩
    case round =>
      obtain ⟨k, z, hkg, rfl, rfl, hz, rfl, HK⟩ := hrel
      by_cases hk : k < n
      · obtain ⟨b, o, rfl, hrow, _⟩ := HR.out (by omega)
        obtain ⟨hc1, hc2⟩ := hrow k hk
        clear hrow
        obtain ⟨s, hs⟩ : ∃ s, s = N k := ⟨_, rfl⟩
        obtain ⟨m, hm⟩ : ∃ m, m = (L k).length := ⟨_, rfl⟩
        rw [← hs] at hc1
        rw [← hm] at hc2
        have Hs := hide hs
        have Hm := hide hm
        clear hs hm
        by_cases h2 : (1048576 : Int) < (s.size : Int)
        · go_wp2_with fail
          go_ret
          exact .inl ⟨rfl, rfl⟩
        · by_cases h3 : (1048576 : Int) < (z : Int) + (s.size : Int)
          · go_wp2_with fail
            go_ret
            exact .inl ⟨rfl, rfl⟩
          · by_cases h4 : (1048576 : Int) < (m : Int)
            · go_wp2_with fail
              go_ret
              exact .inl ⟨rfl, rfl⟩
            · by_cases h5 : (1048576 : Int) < (z : Int) + (s.size : Int) + (m : Int)
              · go_wp2_with fail
                go_ret
                exact .inl ⟨rfl, rfl⟩
              · go_wp2_with fail
                go_roundg (n - (k + 1))
                case measure => omega
                case rel => exact ⟨k + 1, z + s.size + m, by omega, by go_num, rfl, by omega, rfl, (by have := HK.out; show _ = _; rw [sm, ← Hs.out, ← Hm.out]; omega)⟩
      · go_wp2_with fail
        go_ret
        obtain rfl : k = n := by omega
        exact .inr ⟨rfl, rfl, (by have := HK.out; show _ ≤ _; omega)⟩
set_option maxHeartbeats 4000000 in
theorem eqT (w : World) (b1 o1 b2 o2 c1 c2 n : Nat) (l : List UInt8) (hn : n = l.length) (h1 : Tx w b1 o1 l) (h2 : Tx w b2 o2 l) (hlen : n ≤ 100000000) :
    Calls Tryd.prog 11 #[.slice (some ⟨b1, o1, none⟩) n c1, .slice (some ⟨b2, o2, none⟩) n c2] w fun e w' => e = .returned (.bool true) ∧ Old w w' := by
  have H1 := hide h1
  have H2 := hide h2
  have HN := hide hn
  clear h1 h2 hn
  go_enter Tryd.func11, Tryd.ntmps11
  go_wp2_with fail
  go_loopg [5] n (fun g c5 wx => ∃ (k : Nat), k + g = n ∧ c5 = .int .i64 k ∧ Hid (Old w wx))
  case atStart => exact ⟨0, by omega, rfl, Old.refl _⟩
  case round =>
    obtain ⟨k, hkg, rfl, HO⟩ := hrel
    by_cases hk : k < n
    · have hk2 : k < l.length := by rw [← HN.out]; exact hk
      obtain ⟨c, hc⟩ : ∃ c, c = l[k] := ⟨_, rfl⟩
      have d1 : wr.cell? ⟨b1, o1 + k, none⟩ = some (.int .u8 c.toNat) := by rw [hc]; exact HO.out.cell (H1.out.cell k hk2)
      have d2 : wr.cell? ⟨b2, o2 + k, none⟩ = some (.int .u8 c.toNat) := by rw [hc]; exact HO.out.cell (H2.out.cell k hk2)
      clear hc
      have hki : (k : Int) < (n : Int) := by omega
      go_wp2_with fail
      go_quiet (fail)
      go_wp2_with fail
      go_roundg (n - (k + 1))
      case measure => omega
      case rel => exact ⟨k + 1, by omega, rfl, HO.out.drewN _⟩
    · go_wp2_with fail
      go_ret
      exact ⟨rfl, HO.out⟩
theorem Buf.tx {w : World} {ao : Option Addr} {c : Nat} {l : List UInt8} (h : Buf w ao c l) (hl : 0 < l.length) : ∃ b, ao = some ⟨b, 0, none⟩ ∧ Tx w b 0 l := by
  obtain ⟨b, e, hc⟩ := h.cells hl
  exact ⟨b, e, ⟨fun j hj => by rw [Nat.zero_add]; exact hc j hj⟩⟩
theorem mach_ws_nil : ∀ {w : List UInt8}, Pj.W w → Pl.mach false false w = [] := fun {w} h => by
  have := Pj.mach_ws (r := []) h
  rw [List.append_nil] at this
  rw [this]; rfl
theorem kind_good {tl : List UInt8} {k : Nat} (h : Kind tl k) : ∃ x, Pj.Good k x (Pl.val tl) := by
  rcases h with ⟨rfl, rfl⟩ | ⟨pre, mid, post, rfl, hp, hq, ht⟩
  · exact ⟨_, Pj.good_null⟩
  · unfold Pj.topR at ht
    cases hv : Pj.valF (mid.length + 1) mid with
    | none => rw [hv] at ht; cases ht
    | some p =>
      obtain ⟨k', r⟩ := p
      rw [hv] at ht
      cases r with
      | cons c t => cases ht
      | nil =>
        cases ht
        obtain ⟨x, y, hx, g⟩ := Pj.snd _ _ _ _ hv
        rw [List.append_nil] at hx
        subst hx
        have hm : Pl.mach false false (pre ++ (mid ++ post)) = y := by
          rw [Pj.mach_ws hp, g.comp, mach_ws_nil hq, List.append_nil]
        refine ⟨mid, ?_⟩
        have hval : Pl.val (pre ++ (mid ++ post)) = y := by
          unfold Pl.val
          rw [if_neg, hm]
          intro h0
          have : pre ++ (mid ++ post) = [] := List.length_eq_zero_iff.1 h0
          rw [this] at hm
          obtain ⟨c, t, e, _⟩ := g.head
          rw [e] at hm
          cases hm
        rw [hval]
        exact g
theorem Dl.dr {r : List UInt8} (h : Dl r) : Pj.Dr r := by
  obtain ⟨c, t, rfl, h⟩ := h
  exact .inr ⟨c, t, rfl, by rcases h with rfl | rfl | rfl <;> decide⟩
section
variable {n : Nat} {N : Nat → ByteArray} {L : Nat → List UInt8} {kd : Nat → Nat}
def qF (N : Nat → ByteArray) (k : Nat) : List UInt8 := Pl.quote (N k)
def yF (L : Nat → List UInt8) (k : Nat) : List UInt8 := Pl.val (L k)
theorem doc_of (hk : ∀ k, k < n → Kind (L k) (kd k)) {tl : List UInt8} (htl : tl = 123 :: sfx n (qF N) (yF L) 0) : Doc tl n (qF N) (yF L) kd := by
  refine ⟨htl, fun k _ => ?_, fun k hkn => ?_⟩
  · obtain ⟨x, e, hs⟩ := Pj.quote_sg (N k)
    exact ⟨x ++ [34], e, fun r => by rw [List.append_assoc]; exact Pj.st_end hs r⟩
  · obtain ⟨x, g⟩ := kind_good (hk k hkn)
    obtain ⟨c, t, e, h1, h2, _, _⟩ := g.head
    exact ⟨c, t, e, h1, h2, fun r hr => g.vend r hr.dr⟩
theorem doc_loop (hk : ∀ k, k < n → Kind (L k) (kd k)) (F : Nat) : ∀ (j k M : Nat), k + (j + 1) = n → (sfx n (qF N) (yF L) k).length ≤ F → (sfx n (qF N) (yF L) k).length ≤ M → Pj.loopF (Pj.valF F) 123 M (sfx n (qF N) (yF L) k) = some [] := by
  intro j
  induction j with
  | zero =>
    intro k M hkj hF hM
    have hkn : k < n := by omega
    obtain ⟨x, g⟩ := kind_good (hk k hkn)
    obtain ⟨c, t, ey, h1, _, _, _⟩ := g.head
    obtain ⟨q, eq, hs⟩ := Pj.quote_sg (N k)
    have e : sfx n (qF N) (yF L) k = 34 :: (q ++ 34 :: (58 :: (Pl.val (L k) ++ [125]))) := by
      rw [sfx, if_pos hkn, tl_end (by omega)]
      show Pl.quote (N k) ++ 58 :: (Pl.val (L k) ++ [125]) = _
      rw [eq]; simp
    rw [e] at hF hM ⊢
    obtain ⟨M, rfl⟩ : ∃ M', M = M' + 1 := ⟨M - 1, by simp only [List.length_cons] at hM; omega⟩
    have hyF : (Pl.val (L k)).length < F := by simp only [List.length_cons, List.length_append, List.length_nil] at hF; omega
    have hsk : Pj.skip (Pl.val (L k) ++ [125]) = Pl.val (L k) ++ [125] := by rw [ey]; exact Pj.skip_head h1
    have hi : Pj.item (Pj.valF F) 123 (34 :: (q ++ 34 :: (58 :: (Pl.val (L k) ++ [125])))) = some [125] := by
      rw [Pj.item, if_pos (by decide), Pj.strR, if_pos (by decide), Pj.sb_end hs]
      simp only [Pj.skip_head (show Pl.ws 58 = false by decide), show (58 : UInt8).toNat = 58 by decide, if_true, hsk, g.parse F [125] hyF (.inr ⟨125, [], rfl, by decide⟩), Option.map_some]
      rfl
    rw [Pj.loopF, hi]
    simp only [show (125 : UInt8) = Pj.cl 123 by decide, if_true]
  | succ j ih =>
    intro k M hkj hF hM
    have hkn : k < n := by omega
    obtain ⟨x, g⟩ := kind_good (hk k hkn)
    obtain ⟨c, t, ey, h1, _, _, _⟩ := g.head
    obtain ⟨q, eq, hs⟩ := Pj.quote_sg (N k)
    have e : sfx n (qF N) (yF L) k = 34 :: (q ++ 34 :: (58 :: (Pl.val (L k) ++ 44 :: sfx n (qF N) (yF L) (k + 1)))) := by
      rw [sfx, if_pos hkn, tl_sfx (by omega)]
      show Pl.quote (N k) ++ 58 :: (Pl.val (L k) ++ 44 :: _) = _
      rw [eq]; simp
    rw [e] at hF hM ⊢
    obtain ⟨M, rfl⟩ : ∃ M', M = M' + 1 := ⟨M - 1, by simp only [List.length_cons] at hM; omega⟩
    simp only [List.length_cons, List.length_append] at hF hM
    have hsk : Pj.skip (Pl.val (L k) ++ 44 :: sfx n (qF N) (yF L) (k + 1)) = Pl.val (L k) ++ 44 :: sfx n (qF N) (yF L) (k + 1) := by rw [ey]; exact Pj.skip_head h1
    have hi : Pj.item (Pj.valF F) 123 (34 :: (q ++ 34 :: (58 :: (Pl.val (L k) ++ 44 :: sfx n (qF N) (yF L) (k + 1))))) = some (44 :: sfx n (qF N) (yF L) (k + 1)) := by
      rw [Pj.item, if_pos (by decide), Pj.strR, if_pos (by decide), Pj.sb_end hs]
      simp only [Pj.skip_head (show Pl.ws 58 = false by decide), show (58 : UInt8).toNat = 58 by decide, if_true, hsk, g.parse F (44 :: sfx n (qF N) (yF L) (k + 1)) (by omega) (.inr ⟨44, _, rfl, by decide⟩), Option.map_some]
      rw [Pj.skip_head (by decide)]
    have hk1 : k + 1 < n := by omega
    obtain ⟨q2, eq2, _⟩ := Pj.quote_sg (N (k + 1))
    have hsk2 : Pj.skip (sfx n (qF N) (yF L) (k + 1)) = sfx n (qF N) (yF L) (k + 1) := by
      rw [sfx, if_pos hk1]
      show Pj.skip (Pl.quote (N (k + 1)) ++ _) = Pl.quote (N (k + 1)) ++ _
      rw [eq2]
      exact Pj.skip_head (by decide)
    rw [Pj.loopF, hi]
    simp only [show ¬ ((44 : UInt8) = Pj.cl 123) by decide, show (44 : UInt8).toNat = 44 by decide, if_true, if_false, hsk2]
    exact ih (k + 1) M (by omega) (by omega) (by omega)
theorem doc_top (hn : 0 < n) (hk : ∀ k, k < n → Kind (L k) (kd k)) {tl : List UInt8} (htl : tl = 123 :: sfx n (qF N) (yF L) 0) : Pj.topR tl = some 6 := by
  unfold Pj.topR
  obtain ⟨q, eq, _⟩ := Pj.quote_sg (N 0)
  have hh : ∃ t, sfx n (qF N) (yF L) 0 = 34 :: t := by
    rw [sfx, if_pos hn]
    show ∃ t, Pl.quote (N 0) ++ _ = _
    rw [eq]
    exact ⟨_, rfl⟩
  obtain ⟨t, ht⟩ := hh
  have hl := doc_loop hk (N := N) tl.length (n - 1) 0 (t.length + 1) (by omega) (by rw [htl, List.length_cons]; omega) (by rw [ht, List.length_cons]; exact Nat.le_refl _)
  have hv : Pj.valF (tl.length + 1) tl = some (6, []) := by
    rw [htl, Pj.val_obj, Pj.conF]
    rw [ht] at hl ⊢
    rw [Pj.skip_head (by decide)]
    simp only [show ¬ ((34 : UInt8) = Pj.cl 123) by decide, if_false]
    rw [htl, ht] at hl
    rw [hl]; rfl
  rw [hv]
/-- What is yet to be written at member k. -/
def yet (n : Nat) (N : Nat → ByteArray) (L : Nat → List UInt8) (k : Nat) : List UInt8 := if k = 0 then 123 :: sfx n (qF N) (yF L) 0 else tlF (qF N) (yF L) k (n - k)
theorem yet_step {k : Nat} {l l1 : List UInt8} (hk : k < n) (hz : l.length = 0 ↔ k = 0) (h1 : l1 = l ++ [sep l] ++ mem (N k) (L k)) : l ++ yet n N L k = l1 ++ yet n N L (k + 1) := by
  have e : yet n N L k = sep l :: (mem (N k) (L k) ++ yet n N L (k + 1)) := by
    unfold yet sep mem
    rw [if_neg (Nat.succ_ne_zero k)]
    by_cases h0 : k = 0
    · rw [if_pos h0, if_pos (hz.2 h0)]
      subst h0
      rw [sfx, if_pos hk]
      simp [qF, yF]
    · rw [if_neg h0, if_neg (fun h => h0 (hz.1 h))]
      obtain ⟨j, hj⟩ : ∃ j, n - k = j + 1 := ⟨n - k - 1, by omega⟩
      rw [hj, tlF, show n - (k + 1) = j by omega]
      simp [qF, yF]
  rw [e, h1]; simp
theorem yet_end (hn : 0 < n) : yet n N L n = [125] := by
  unfold yet
  rw [if_neg (by omega), Nat.sub_self, tlF]
end
theorem sm_mono (N : Nat → ByteArray) (L : Nat → List UInt8) {i j : Nat} (h : i ≤ j) : sm N L i ≤ sm N L j := by
  induction h with
  | refl => exact Nat.le_refl _
  | step _ ih => rw [sm]; omega
theorem len_step {N : Nat → ByteArray} {L : Nat → List UInt8} {k : Nat} {l l1 : List UInt8} (h : l.length ≤ 8 * k + 6 * sm N L k) (h1 : l1 = l ++ [sep l] ++ mem (N k) (L k)) : l1.length ≤ 8 * (k + 1) + 6 * sm N L (k + 1) := by
  have := Pl.quote_len (N k)
  have := Pl.val_len (L k)
  rw [h1, sm]
  unfold mem
  simp only [List.length_append, List.length_cons, List.length_nil]
  omega
end Go.Proofs.Qxb6603514aDoor
