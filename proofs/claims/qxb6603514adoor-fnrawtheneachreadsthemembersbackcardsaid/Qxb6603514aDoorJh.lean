/-
  zzjTop, zzTextKind.
-/
import Derived.Test.Qxb6603514aDoorJg
import Derived.Test.Qxb6603514aDoorMb
namespace Go.Proofs.Qxb6603514aDoor
open Go.RowKit
namespace Pj
def topR (tl : List UInt8) : Option Nat := match valF (tl.length + 1) tl with
  | some (k, []) => some k
  | _ => none
end Pj
theorem top_none {tl : List UInt8} {n : Nat} (h : Pj.valF (n + 1) (tl.drop 0) = none) (hn : n = tl.length) : Pj.topR tl = none := by
  subst hn
  unfold Pj.topR
  rw [List.drop_zero] at h
  rw [h]
theorem top_more {tl : List UInt8} {n k j : Nat} (h : Pj.valF (n + 1) (tl.drop 0) = some (k, tl.drop j)) (hn : n = tl.length) (hj : j < n) : Pj.topR tl = none := by
  subst hn
  unfold Pj.topR
  rw [List.drop_zero] at h
  rw [h, drop_cons hj]
theorem top_all {tl : List UInt8} {n k j : Nat} (h : Pj.valF (n + 1) (tl.drop 0) = some (k, tl.drop j)) (hn : n = tl.length) (hj : j = n) : Pj.topR tl = some k := by
  subst hj; subst hn
  unfold Pj.topR
  rw [List.drop_zero] at h
  rw [h, dr_nil (Nat.le_refl _)]
def TOut (r : Option Nat) (e : Ending) : Prop :=
  (∃ v x y z k, e = .returned (.tuple #[v, x, y, z, k]) ∧ (k = .bool false ∧ r = none)) ∨ (∃ (k : Nat) (x y z : Value), e = .returned (.tuple #[.int .i64 k, x, y, z, .bool true]) ∧ r = some k)
theorem top_empty (w : World) (ao : Option Addr) (tc : Nat) : Calls Tryd.prog 15 #[.slice ao 0 tc] w fun e w' => Hid (w = w' ∧ ∃ v x y z, e = .returned (.tuple #[v, x, y, z, .bool false])) := by
  go_enter Tryd.func15, Tryd.ntmps15
  go_wp2_with fail
  (try simp only [Exit.inBlock, Exit.then]); refine bodyPost_ret (results_tmp5 rfl _ _ _) rfl ?_
  exact hide ⟨rfl, _, _, _, _, rfl⟩
set_option maxRecDepth 100000 in
set_option maxHeartbeats 8000000 in
theorem top15 (b o tc n : Nat) (tl : List UInt8) (hn : n = tl.length) (hN : n ≤ 50000000) (hpos : 0 < n) (w : World) (hT : Tx w b o tl) :
    Calls Tryd.prog 15 #[.slice (some ⟨b, o, none⟩) n tc] w fun e w' => Hid (Old w w' ∧ TOut (Pj.topR tl) e) := by
  have HT := hide hT
  have HN := hide hn
  clear hT hn
  have hn0 : ((n : Int) == 0) = false := by simp; omega
  obtain ⟨c, hc⟩ : ∃ c, c = tl[0]'(by rw [← HN.out]; omega) := ⟨_, rfl⟩
  have xc : w.cell? ⟨b, o, none⟩ = some (.int .u8 c.toNat) := by rw [hc]; exact HT.out.cell 0 (by rw [← HN.out]; omega)
  have Hc : Hid (tl.drop 0 = c :: tl.drop (0 + 1)) := by rw [hc]; exact drop_cons (by rw [← HN.out]; omega)
  have Hop : Hid (∃ h : 0 < tl.length, tl[0] = c) := ⟨by rw [← HN.out]; omega, hc.symm⟩
  clear hc
  cases h91 : ((c.toNat : Int) == 91)
  case true =>
    go_enter Tryd.func15, Tryd.ntmps15
    go_wp2_with fail
    refine (conA b o tc n tl n HN.out hN (val25 b o tc n tl HN.out hN n) w HT.out 0 hpos ?_ (by omega)).mono ?_
    · obtain ⟨h, e⟩ := Hop.out
      exact ⟨h, by rw [e]; exact UInt8.toNat_inj.1 (yI (k := 91) h91)⟩
    intro e w1 hx
    obtain ⟨hO, hv⟩ := hx.out
    have HO := hide hO
    clear hx
    have xc1 := hO.cell xc
    clear hO
    rcases hv with ⟨v, x, y, z, rfl, hr⟩ | ⟨j, x, y, z, rfl, hij, hjn, hr⟩
    · have Hr := hide hr
      clear hr
      go_wp2_with fail
      (try simp only [Exit.inBlock, Exit.then]); refine bodyPost_ret (results_tmp5 rfl _ _ _) rfl ?_
      exact hide ⟨HO.out, .inl ⟨_, _, _, _, _, rfl, rfl, top_none (map_none (vf_arr (i := 0) Hc.out (yI (k := 91) h91)) Hr.out) HN.out⟩⟩
    · have Hr := hide hr
      have Hv : Hid (Pj.valF (n + 1) (tl.drop 0) = some (5, tl.drop j)) := map_some (vf_arr (i := 0) Hc.out (yI (k := 91) h91)) Hr.out
      have hjn : j ≤ n := by rw [HN.out]; exact hjn
      clear hr
      cases hjj : ((j : Int) == (n : Int))
      · have hjb : ((j : Int) != (n : Int)) = true := by rw [bne, hjj]; rfl
        have hj2 : ¬ j = n := by simp at hjj; omega
        go_wp2_with fail
        (try simp only [Exit.inBlock, Exit.then]); refine bodyPost_ret (results_tmp5 rfl _ _ _) rfl ?_
        exact hide ⟨HO.out, .inl ⟨_, _, _, _, _, rfl, rfl, top_more Hv.out HN.out (by omega)⟩⟩
      · have hjb : ((j : Int) != (n : Int)) = false := by rw [bne, hjj]; rfl
        have hj2 : j = n := by simp at hjj; omega
        have Hj2 := hide hj2
        clear hj2
        go_wp2_with fail
        (try simp only [Exit.inBlock, Exit.then]); refine bodyPost_ret (results_tmp5 rfl _ _ _) rfl ?_
        exact hide ⟨HO.out, .inr ⟨5, _, _, _, rfl, top_all Hv.out HN.out Hj2.out⟩⟩
  cases h123 : ((c.toNat : Int) == 123)
  case true =>
    go_enter Tryd.func15, Tryd.ntmps15
    go_wp2_with fail
    refine (conO b o tc n tl n HN.out hN (val25 b o tc n tl HN.out hN n) w HT.out 0 hpos ?_ (by omega)).mono ?_
    · obtain ⟨h, e⟩ := Hop.out
      exact ⟨h, by rw [e]; exact UInt8.toNat_inj.1 (yI (k := 123) h123)⟩
    intro e w1 hx
    obtain ⟨hO, hv⟩ := hx.out
    have HO := hide hO
    clear hx
    have xc1 := hO.cell xc
    clear hO
    rcases hv with ⟨v, x, y, z, rfl, hr⟩ | ⟨j, x, y, z, rfl, hij, hjn, hr⟩
    · have Hr := hide hr
      clear hr
      go_wp2_with fail
      (try simp only [Exit.inBlock, Exit.then]); refine bodyPost_ret (results_tmp5 rfl _ _ _) rfl ?_
      exact hide ⟨HO.out, .inl ⟨_, _, _, _, _, rfl, rfl, top_none (map_none (vf_obj (i := 0) Hc.out (yI (k := 123) h123)) Hr.out) HN.out⟩⟩
    · have Hr := hide hr
      have Hv : Hid (Pj.valF (n + 1) (tl.drop 0) = some (6, tl.drop j)) := map_some (vf_obj (i := 0) Hc.out (yI (k := 123) h123)) Hr.out
      have hjn : j ≤ n := by rw [HN.out]; exact hjn
      clear hr
      cases hjj : ((j : Int) == (n : Int))
      · have hjb : ((j : Int) != (n : Int)) = true := by rw [bne, hjj]; rfl
        have hj2 : ¬ j = n := by simp at hjj; omega
        go_wp2_with fail
        (try simp only [Exit.inBlock, Exit.then]); refine bodyPost_ret (results_tmp5 rfl _ _ _) rfl ?_
        exact hide ⟨HO.out, .inl ⟨_, _, _, _, _, rfl, rfl, top_more Hv.out HN.out (by omega)⟩⟩
      · have hjb : ((j : Int) != (n : Int)) = false := by rw [bne, hjj]; rfl
        have hj2 : j = n := by simp at hjj; omega
        have Hj2 := hide hj2
        clear hj2
        go_wp2_with fail
        (try simp only [Exit.inBlock, Exit.then]); refine bodyPost_ret (results_tmp5 rfl _ _ _) rfl ?_
        exact hide ⟨HO.out, .inr ⟨6, _, _, _, rfl, top_all Hv.out HN.out Hj2.out⟩⟩
  go_enter Tryd.func15, Tryd.ntmps15
  go_wp2_with fail
  refine (val25 b o tc n tl HN.out hN (n + 1) w HT.out 0 (by omega) (by omega)).mono ?_
  intro e w1 hx
  obtain ⟨hO, hv⟩ := hx.out
  have HO := hide hO
  clear hx hO
  rcases hv with ⟨v, k, rfl, hr⟩ | ⟨j, k, rfl, hij, hjn, hr⟩
  · have Hr := hide hr
    clear hr
    go_wp2_with fail
    (try simp only [Exit.inBlock, Exit.then]); refine bodyPost_ret (results_tmp5 rfl _ _ _) rfl ?_
    exact hide ⟨HO.out, .inl ⟨_, _, _, _, _, rfl, rfl, top_none Hr.out HN.out⟩⟩
  · have Hv := hide hr
    have hjn : j ≤ n := by rw [HN.out]; exact hjn
    clear hr
    cases hjj : ((j : Int) == (n : Int))
    · have hjb : ((j : Int) != (n : Int)) = true := by rw [bne, hjj]; rfl
      have hj2 : ¬ j = n := by simp at hjj; omega
      go_wp2_with fail
      (try simp only [Exit.inBlock, Exit.then]); refine bodyPost_ret (results_tmp5 rfl _ _ _) rfl ?_
      exact hide ⟨HO.out, .inl ⟨_, _, _, _, _, rfl, rfl, top_more Hv.out HN.out (by omega)⟩⟩
    · have hjb : ((j : Int) != (n : Int)) = false := by rw [bne, hjj]; rfl
      have hj2 : j = n := by simp at hjj; omega
      have Hj2 := hide hj2
      clear hj2
      go_wp2_with fail
      (try simp only [Exit.inBlock, Exit.then]); refine bodyPost_ret (results_tmp5 rfl _ _ _) rfl ?_
      exact hide ⟨HO.out, .inr ⟨k, _, _, _, rfl, top_all Hv.out HN.out Hj2.out⟩⟩
/-- What zzTextKind's word says of a text. -/
def Kind (tl : List UInt8) (k : Nat) : Prop := (tl = [] ∧ k = 1) ∨ ∃ pre mid post : List UInt8, tl = pre ++ (mid ++ post) ∧ (∀ x ∈ pre, Pl.ws x = true) ∧ (∀ x ∈ post, Pl.ws x = true) ∧ Pj.topR mid = some k
theorem skip_pre : ∀ l : List UInt8, ∃ pre, l = pre ++ Pj.skip l ∧ ∀ x ∈ pre, Pl.ws x = true
  | [] => ⟨[], rfl, fun _ h => by cases h⟩
  | c :: t => by
    unfold Pj.skip
    by_cases h : Pl.ws c = true
    · obtain ⟨pre, e, hp⟩ := skip_pre t
      rw [if_pos h]
      exact ⟨c :: pre, by rw [List.cons_append, ← e], fun x hx => by
        rcases List.mem_cons.1 hx with rfl | hx
        · exact h
        · exact hp x hx⟩
    · rw [if_neg h]
      exact ⟨[], rfl, fun _ h => by cases h⟩
theorem kind_of {tl mid : List UInt8} {s e k : Nat} (hs : tl.drop s = Pj.skip tl) (hse : s ≤ e) (hmid : mid = (tl.drop s).take (e - s)) (hpost : ∀ j (hj : j < tl.length), e ≤ j → Pl.ws tl[j] = true) (ht : Pj.topR mid = some k) : Kind tl k := by
  obtain ⟨pre, hp, hw⟩ := skip_pre tl
  refine .inr ⟨pre, mid, tl.drop e, ?_, hw, fun x hx => ?_, ht⟩
  · rw [hmid]
    have : (tl.drop s).take (e - s) ++ tl.drop e = tl.drop s := by
      rw [show tl.drop e = (tl.drop s).drop (e - s) by rw [List.drop_drop]; congr 1; omega, List.take_append_drop]
    rw [this, hs, ← hp]
  · obtain ⟨j, hj, rfl⟩ := List.mem_iff_getElem.1 hx
    rw [List.getElem_drop]
    exact hpost _ _ (by omega)
theorem Tx.part {w : World} {b o : Nat} {tl : List UInt8} (h : Tx w b o tl) {s m : Nat} (hs : s + m ≤ tl.length) : Tx w b (o + s) ((tl.drop s).take m) := ⟨fun j hj => by
  rw [List.length_take, List.length_drop] at hj
  rw [Nat.add_assoc, h.cell (s + j) (by omega)]
  simp [List.getElem_take, List.getElem_drop]⟩
set_option maxRecDepth 100000 in
set_option maxHeartbeats 8000000 in
theorem kind14 (w : World) (ao : Option Addr) (tc : Nat) (tl : List UInt8) (hT : Txt w ao tl) (hN : tl.length ≤ 1048576) (htc : tl.length ≤ tc) :
    Calls Tryd.prog 14 #[.slice ao tl.length tc] w fun e w' => Hid (Old w w' ∧ ((∃ v, e = .returned (.tuple #[v, .bool false])) ∨ ∃ k : Nat, e = .returned (.tuple #[.int .i64 k, .bool true]) ∧ Kind tl k)) := by
  obtain ⟨n, hn⟩ : ∃ n, n = tl.length := ⟨_, rfl⟩
  have HT := hide hT
  rw [← hn] at hN htc ⊢
  have HN := hide hn
  clear hT hn
  rcases Nat.eq_zero_or_pos n with h0 | hpos
  · have HZ : Hid (tl = []) := List.length_eq_zero_iff.1 (by rw [← HN.out]; exact h0)
    subst h0
    go_enter Tryd.func14, Tryd.ntmps14
    go_wp2_with fail
    go_ret2
    exact hide ⟨Old.refl _, .inr ⟨1, rfl, .inl ⟨HZ.out, rfl⟩⟩⟩
  obtain ⟨b, o, rfl, hb, hcs⟩ := HT.out (by rw [← HN.out]; exact hpos)
  have HX : Hid (Tx w b o tl) := ⟨hcs⟩
  clear hb hcs HT
  have hn0 : ((n : Int) == 0) = false := by simp; omega
  go_enter Tryd.func14, Tryd.ntmps14
  go_wp2_with fail
  refine (skip23 w b o tc n tl HN.out HX.out (by omega) 0 (by omega)).mono ?_
  intro e w' hx
  obtain ⟨s, rfl, rfl, _, hsn, hds⟩ := hx.out
  have Hds : Hid (tl.drop s = Pj.skip tl) := hds
  clear hds hx
  go_wp2_with fail
  go_loopg [5] (n - s) (fun g c5 wx => ∃ k : Nat, s + g = k ∧ k ≤ n ∧ c5 = .int .i64 k ∧ w' = wx ∧ Hid (∀ j (hj : j < tl.length), k ≤ j → Pl.ws tl[j] = true))
  case atStart => exact ⟨n, by omega, by omega, rfl, rfl, fun j hj h => by rw [← HN.out] at hj; omega⟩
  case round =>
    obtain ⟨k, hkg, hkn, rfl, rfl, HP⟩ := hrel
    by_cases hk : s < k
    · obtain ⟨q, rfl⟩ : ∃ q, k = q + 1 := ⟨k - 1, by omega⟩
      obtain ⟨c, hc⟩ : ∃ c, c = tl[q]'(by rw [← HN.out]; omega) := ⟨_, rfl⟩
      have xc : w'.cell? ⟨b, o + q, none⟩ = some (.int .u8 c.toNat) := by rw [hc]; exact HX.out.cell q (by rw [← HN.out]; omega)
      have Hc := hide hc
      clear hc
      have hsub : ((q + 1 : Nat) : Int) - 1 = (q : Int) := by omega
      have hgt : (s : Int) < ((q + 1 : Nat) : Int) := by omega
      cases hw : Pl.ws c
      · go_wp2_with (go_at_call 22; refine (ws22 _ _).mono ?_; rintro e w' ⟨rfl, rfl⟩)
        refine (top15 b (o + s) (tc - s) (q + 1 - s) ((tl.drop s).take (q + 1 - s)) (by rw [List.length_take, List.length_drop, ← HN.out]; omega) (by omega) (by omega) w' (HX.out.part (by rw [← HN.out]; omega))).mono ?_
        intro e w1 hx
        obtain ⟨hO, hv⟩ := hx.out
        have HO := hide hO
        clear hx hO
        rcases hv with ⟨v, x, y, z, kb, rfl, rfl, hr⟩ | ⟨kd, x, y, z, rfl, hr⟩
        · clear hr
          go_wp2_with fail
          go_ret2
          exact hide ⟨HO.out, .inl ⟨_, rfl⟩⟩
        · have Hr := hide hr
          clear hr
          go_wp2_with fail
          go_ret2
          exact hide ⟨HO.out, .inr ⟨kd, rfl, kind_of Hds.out (by omega) rfl HP.out Hr.out⟩⟩
      · go_wp2_with (go_at_call 22; refine (ws22 _ _).mono ?_; rintro e w' ⟨rfl, rfl⟩)
        go_roundg (q - s)
        case measure => omega
        case rel => exact ⟨q, by omega, by omega, by go_num, rfl, fun j hj h => by
          rcases Nat.eq_or_lt_of_le h with rfl | h
          · rw [← Hc.out]; exact hw
          · exact HP.out j hj h⟩
    · obtain rfl : k = s := by omega
      by_cases htk : tc = k
      all_goals
        go_wp2_with fail
        refine (top_empty _ _ _).mono ?_
        intro e w1 hx
        obtain ⟨rfl, v, x, y, z, rfl⟩ := hx.out
        clear hx
        go_wp2_with fail
        go_ret2
        exact hide ⟨Old.refl _, .inl ⟨_, rfl⟩⟩
end Go.Proofs.Qxb6603514aDoor
