/-
  zzjContainer.
-/
import Derived.Test.Qxb6603514aDoorJd
namespace Go.Proofs.Qxb6603514aDoor
open Go.RowKit

set_option maxRecDepth 100000 in
set_option maxHeartbeats 8000000 in
theorem conA (b o tc n : Nat) (tl : List UInt8) (N : Nat) (hn : n = tl.length) (hN : n ≤ 50000000) (hV : VOk b o tc n tl N) (w : World) (hT : Tx w b o tl) (i : Nat) (hi : i < n) (hop : ∃ h : i < tl.length, tl[i] = 91) (hf : n - i ≤ N) :
    Calls Tryd.prog 24 #[.slice (some ⟨b, o, none⟩) n tc, .int .i64 i] w fun e w' => Hid (Old w w' ∧ COut tl i (Pj.conF (Pj.valF N) 91 (tl.drop (i + 1))) e) := by
  have HT := hide hT
  have HN := hide hn
  have HV := hide hV
  have hcell0 : w.cell? ⟨b, o + i, none⟩ = some (.int .u8 91) := by
    obtain ⟨h, e⟩ := hop
    have := hT.cell i h
    rw [e] at this
    exact this
  have hcl : ∀ d : UInt8, ((d.toNat : Int) == 93) = true → d = Pj.cl 91 := fun d h => UInt8.toNat_inj.1 (yI (k := 93) h)
  have hcn : ∀ d : UInt8, ((d.toNat : Int) == 93) = false → d ≠ Pj.cl 91 := fun d h e => nI (k := 93) h (by rw [e]; decide)
  have Hcl := hide hcl
  have Hcn := hide hcn
  clear hT hn hV hop hcl hcn
  go_enter Tryd.func24, Tryd.ntmps24
  go_wp2_with fail
  refine (skip23 w b o tc n tl HN.out HT.out (by omega) (i + 1) (by omega)).mono ?_
  intro e w' hx
  obtain ⟨j0, rfl, rfl, hij0, hjn0, hd0⟩ := hx.out
  have Hd0 := hide hd0
  clear hd0 hx
  by_cases hj0 : j0 < n
  case neg =>
    go_wp2_with fail
    go_loopg [11, 12, 13, 14] 0 (fun g c11 c12 c13 c14 wx => g = 0 ∧ c11 = .slice none 0 0 ∧ c12 = .slice none 0 0 ∧ c13 = .slice none 0 0 ∧ c14 = .int .i64 j0 ∧ w' = wx)
    case atStart => exact ⟨rfl, rfl, rfl, rfl, rfl, rfl⟩
    case round =>
      obtain ⟨rfl, rfl, rfl, rfl, rfl, rfl⟩ := hrel
      go_wp2_with fail
      (try simp only [Exit.inBlock, Exit.then]); refine bodyPost_ret (results_tmp5 rfl _ _ _) rfl ?_
      exact hide ⟨Old.refl _, .inl ⟨_, _, _, _, rfl, con_nil Hd0.out (by rw [← HN.out]; omega)⟩⟩
  obtain ⟨c, hc⟩ : ∃ c, c = tl[j0]'(by rw [← HN.out]; omega) := ⟨_, rfl⟩
  have xc : w'.cell? ⟨b, o + j0, none⟩ = some (.int .u8 c.toNat) := by rw [hc]; exact HT.out.cell j0 (by rw [← HN.out]; omega)
  have Hc : Hid (tl.drop j0 = c :: tl.drop (j0 + 1)) := by rw [hc]; exact drop_cons (by rw [← HN.out]; omega)
  clear hc
  cases hcc : ((c.toNat : Int) == 93)
  case true =>
    go_wp2_with fail
    (try simp only [Exit.inBlock, Exit.then]); refine bodyPost_ret (results_tmp5 rfl _ _ _) rfl ?_
    exact hide ⟨Old.refl _, .inr ⟨j0 + 1, _, _, _, (by first | rfl | (congr 3)), by omega, by rw [← HN.out]; omega, con_empty Hd0.out Hc.out (Hcl.out c hcc)⟩⟩
  have HR : Hid (Pj.conF (Pj.valF N) 91 (tl.drop (i + 1)) = Pj.loopF (Pj.valF N) 91 (n - (j0 + 1) + 1) (tl.drop j0)) := by
    have := con_loop (V := Pj.valF N) (op := 91) Hd0.out Hc.out (Hcn.out c hcc)
    rw [← HN.out] at this
    exact this
  go_wp2_with fail
  clear Hc Hd0 xc hcc
  go_loopg [11, 12, 13, 14] (n - j0) (fun g c11 c12 c13 c14 wx => ∃ (j m : Nat) (a1 : Option Addr) (c1 n1 : Nat) (a2 : Option Addr) (c2 n2 : Nat) (a3 : Option Addr) (c3 n3 : Nat), j + g = n ∧ c11 = .slice a1 n1 c1 ∧ c12 = .slice a2 n2 c2 ∧ c13 = .slice a3 n3 c3 ∧ c14 = .int .i64 j ∧ i < j ∧ n1 ≤ j ∧ n2 ≤ j ∧ n3 ≤ j ∧
    Hid (n - j ≤ m) ∧ Hid (Pj.conF (Pj.valF N) 91 (tl.drop (i + 1)) = Pj.loopF (Pj.valF N) 91 m (tl.drop j)) ∧ Hid (Tri w' wx a1 c1 n1 a2 c2 n2 a3 c3 n3))
  case atStart => exact ⟨j0, _, none, 0, 0, none, 0, 0, none, 0, 0, by omega, rfl, rfl, rfl, rfl, by omega, by omega, by omega, by omega, (by show _ ≤ _; omega), HR, Tri.start _⟩
  case round =>
    obtain ⟨j, m, a1, c1, n1, a2, c2, n2, a3, c3, n3, hjg, rfl, rfl, rfl, rfl, hij, hn1, hn2, hn3, Hm, HL, HTri⟩ := hrel
    by_cases hj : j < n
    case neg =>
      go_wp2_with fail
      (try simp only [Exit.inBlock, Exit.then]); refine bodyPost_ret (results_tmp5 rfl _ _ _) rfl ?_
      exact hide ⟨HTri.out.old, .inl ⟨_, _, _, _, rfl, HL.out.trans (loop_nil (by rw [← HN.out]; omega))⟩⟩
    obtain ⟨m, rfl⟩ : ∃ m', m = m' + 1 := ⟨m - 1, by have := Hm.out; omega⟩
    have hjl : j < tl.length := by rw [← HN.out]; exact hj
    have Hjl := hide hjl
    clear hjl
    go_wp2_with fail
    refine (HV.out wr (HT.out.old HTri.out.old) j (by omega) (by omega)).mono ?_
    intro e w5 hx
    obtain ⟨hO1, hv⟩ := hx.out
    have HTri := hide (HTri.out.on hO1)
    clear hO1 hx
    rcases hv with ⟨v, kk, rfl, hr⟩ | ⟨ve, vk, rfl, hjv, hvn, hr⟩
    · have Hr := hide hr
      clear hr
      go_wp2_with fail
      (try simp only [Exit.inBlock, Exit.then]); refine bodyPost_ret (results_tmp5 rfl _ _ _) rfl ?_
      exact hide ⟨HTri.out.old, .inl ⟨_, _, _, _, rfl, HL.out.trans (loop_none (item_a_none Hr.out) Hjl.out)⟩⟩
    have hvn : ve ≤ n := by rw [HN.out]; exact hvn
    have Hr := hide hr
    clear hr
    go_wp2_with (first | (at_builtin; refine appS _ rfl (.tmp 94) (.tmp 98) rfl rfl (HTri.out.on ((Old.refl _).alloc _)).b2 _ _ rfl (srcPair _ _ _) ?_ ?_; omega; intro a2' c2' w6 HB6 HS6; have HTri6 := hide ((HTri.out.on ((Old.refl _).alloc _)).s2 HS6.out HB6.out); clear HB6 HS6) | (at_builtin; refine appI _ rfl (.tmp 100) (.tmp 102) rfl rfl (HTri6.out.on ((Old.refl _).alloc _)).b3 _ _ rfl (srcInt _ _) ?_ ?_; omega; intro a3' c3' w7 HB7 HS7; have HTri7 := hide ((HTri6.out.on ((Old.refl _).alloc _)).s3 HS7.out HB7.out); clear HB7 HS7))
    clear HTri HTri6
    refine (skip23 w7 b o tc n tl HN.out (HT.out.old HTri7.out.old) (by omega) ve (by omega)).mono ?_
    intro e w8 hx
    obtain ⟨j2, rfl, rfl, hvj2, hj2n, hd2⟩ := hx.out
    have Hd2 := hide hd2
    clear hd2 hx
    have HIt : Hid (Pj.item (Pj.valF N) 91 (tl.drop j) = some (tl.drop j2)) := (item_a_ok Hr.out Hd2.out)
    by_cases hj2 : j2 < n
    case neg =>
      have hge2 : decide (n ≤ j2) = true := by simp; omega
      go_wp2_with fail
      (try simp only [Exit.inBlock, Exit.then]); refine bodyPost_ret (results_tmp5 rfl _ _ _) rfl ?_
      exact hide ⟨HTri7.out.old, .inl ⟨_, _, _, _, rfl, HL.out.trans (loop_end HIt.out Hjl.out (by rw [← HN.out]; omega))⟩⟩
    have hge2 : decide (n ≤ j2) = false := by simp; omega
    obtain ⟨d, hd⟩ : ∃ d, d = tl[j2]'(by rw [← HN.out]; omega) := ⟨_, rfl⟩
    have xd : w8.cell? ⟨b, o + j2, none⟩ = some (.int .u8 d.toNat) := by rw [hd]; exact HTri7.out.old.cell (HT.out.cell j2 (by rw [← HN.out]; omega))
    have Hd : Hid (tl.drop j2 = d :: tl.drop (j2 + 1)) := by rw [hd]; exact drop_cons (by rw [← HN.out]; omega)
    clear hd
    cases hdc : ((d.toNat : Int) == 93)
    case true =>
      go_wp2_with fail
      (try simp only [Exit.inBlock, Exit.then]); refine bodyPost_ret (results_tmp5 rfl _ _ _) rfl ?_
      exact hide ⟨HTri7.out.old, .inr ⟨j2 + 1, _, _, _, (by first | rfl | (congr 3)), by omega, by rw [← HN.out]; omega, HL.out.trans (loop_close HIt.out Hjl.out Hd.out (Hcl.out d hdc))⟩⟩
    cases h44 : ((d.toNat : Int) == 44)
    case false =>
      go_wp2_with fail
      (try simp only [Exit.inBlock, Exit.then]); refine bodyPost_ret (results_tmp5 rfl _ _ _) rfl ?_
      exact hide ⟨HTri7.out.old, .inl ⟨_, _, _, _, rfl, HL.out.trans (loop_bad HIt.out Hjl.out Hd.out (Hcn.out d hdc) (nI (k := 44) h44))⟩⟩
    go_wp2_with fail
    refine (skip23 w8 b o tc n tl HN.out (HT.out.old HTri7.out.old) (by omega) (j2 + 1) (by omega)).mono ?_
    intro e w9 hx
    obtain ⟨j3, rfl, rfl, hj23, hj3n, hd3⟩ := hx.out
    have HNx := hide (loop_on (m := m) HIt.out Hjl.out Hd.out (Hcn.out d hdc) (yI (k := 44) h44) hd3)
    clear hd3 hx
    go_wp2_with fail
    go_roundg (n - j3)
    case measure => omega
    case rel => exact ⟨j3, m, a1, c1, n1, a2', c2', n2 + 1, a3', c3', n3 + 1, by omega, rfl, rfl, rfl, rfl, by omega, by omega, by omega, by omega, (by have := Hm.out; show _ ≤ _; omega), HL.out.trans HNx.out, HTri7.out⟩
end Go.Proofs.Qxb6603514aDoor
