/-
  zzjValue, zzjTop.
-/
import Derived.Test.Qxb6603514aDoorJf
namespace Go.Proofs.Qxb6603514aDoor
open Go.RowKit
section
variable {tl : List UInt8} {i N : Nat} {c : UInt8}
theorem vf_nil (h : tl.length ≤ i) : Pj.valF (N + 1) (tl.drop i) = none := by rw [dr_nil h, Pj.valF]
theorem vf_str (h : tl.drop i = c :: tl.drop (i + 1)) (hc : c.toNat = 34) : Pj.valF (N + 1) (tl.drop i) = (Pj.strR (tl.drop i)).map (fun r => (4, r)) := by
  rw [h, Pj.valF, if_pos hc]
theorem vf_true (h : tl.drop i = c :: tl.drop (i + 1)) (hc : c.toNat = 116) : Pj.valF (N + 1) (tl.drop i) = (Pj.litR [116, 114, 117, 101] (tl.drop i)).map (fun r => (2, r)) := by
  rw [h, Pj.valF, if_neg (by omega), if_pos hc]
theorem vf_false (h : tl.drop i = c :: tl.drop (i + 1)) (hc : c.toNat = 102) : Pj.valF (N + 1) (tl.drop i) = (Pj.litR [102, 97, 108, 115, 101] (tl.drop i)).map (fun r => (2, r)) := by
  rw [h, Pj.valF, if_neg (by omega), if_neg (by omega), if_pos hc]
theorem vf_null (h : tl.drop i = c :: tl.drop (i + 1)) (hc : c.toNat = 110) : Pj.valF (N + 1) (tl.drop i) = (Pj.litR [110, 117, 108, 108] (tl.drop i)).map (fun r => (1, r)) := by
  rw [h, Pj.valF, if_neg (by omega), if_neg (by omega), if_neg (by omega), if_pos hc]
theorem vf_arr (h : tl.drop i = c :: tl.drop (i + 1)) (hc : c.toNat = 91) : Pj.valF (N + 1) (tl.drop i) = (Pj.conF (Pj.valF N) 91 (tl.drop (i + 1))).map (fun r => (5, r)) := by
  rw [h, Pj.valF, if_neg (by omega), if_neg (by omega), if_neg (by omega), if_neg (by omega), if_pos hc, show c = 91 from UInt8.toNat_inj.1 hc]
theorem vf_obj (h : tl.drop i = c :: tl.drop (i + 1)) (hc : c.toNat = 123) : Pj.valF (N + 1) (tl.drop i) = (Pj.conF (Pj.valF N) 123 (tl.drop (i + 1))).map (fun r => (6, r)) := by
  rw [h, Pj.valF, if_neg (by omega), if_neg (by omega), if_neg (by omega), if_neg (by omega), if_neg (by omega), if_pos hc, show c = 123 from UInt8.toNat_inj.1 hc]
theorem vf_num (h : tl.drop i = c :: tl.drop (i + 1)) (h1 : ¬ c.toNat = 34) (h2 : ¬ c.toNat = 116) (h3 : ¬ c.toNat = 102) (h4 : ¬ c.toNat = 110) (h5 : ¬ c.toNat = 91) (h6 : ¬ c.toNat = 123) : Pj.valF (N + 1) (tl.drop i) = (Pj.numR (tl.drop i)).map (fun r => (3, r)) := by
  rw [h, Pj.valF, if_neg h1, if_neg h2, if_neg h3, if_neg h4, if_neg h5, if_neg h6]
end
theorem map_none {α β : Type} {f : α → β} {x : Option β} {y : Option α} (h : x = y.map f) (hy : y = none) : x = none := by rw [h, hy]; rfl
theorem map_some {α β : Type} {f : α → β} {x : Option β} {y : Option α} {a : α} (h : x = y.map f) (hy : y = some a) : x = some (f a) := by rw [h, hy]; rfl
set_option maxRecDepth 100000 in
set_option maxHeartbeats 8000000 in
theorem val_step (b o tc n : Nat) (tl : List UInt8) (N : Nat) (hn : n = tl.length) (hN : n ≤ 50000000) (hV : VOk b o tc n tl N) : VOk b o tc n tl (N + 1) := by
  intro w hT i hi hf
  have HT := hide hT
  have HN := hide hn
  have HV := hide hV
  clear hT hn hV
  by_cases hi2 : i < n
  case neg =>
    go_enter Tryd.func25, Tryd.ntmps25
    go_wp2_with fail
    go_ret3
    exact hide ⟨Old.refl _, .inl ⟨_, _, rfl, vf_nil (by rw [← HN.out]; omega)⟩⟩
  obtain ⟨c, hc⟩ : ∃ c, c = tl[i]'(by rw [← HN.out]; omega) := ⟨_, rfl⟩
  have xc : w.cell? ⟨b, o + i, none⟩ = some (.int .u8 c.toNat) := by rw [hc]; exact HT.out.cell i (by rw [← HN.out]; omega)
  have Hc : Hid (tl.drop i = c :: tl.drop (i + 1)) := by rw [hc]; exact drop_cons (by rw [← HN.out]; omega)
  have Hop : Hid (∃ h : i < tl.length, tl[i] = c) := ⟨by rw [← HN.out]; omega, hc.symm⟩
  clear hc
  cases h34 : ((c.toNat : Int) == 34)
  case true =>
    go_enter Tryd.func25, Tryd.ntmps25
    go_wp2_with fail
    refine (str30 w b o tc n tl HN.out HT.out (by omega) i hi).mono ?_
    intro e w1 hx
    obtain ⟨rfl, hv⟩ := hx.out
    clear hx
    rcases hv with ⟨v, rfl, hr⟩ | ⟨j, rfl, hij, hjn, hr⟩
    · have Hr := hide hr
      clear hr
      go_wp2_with fail
      go_ret3
      exact hide ⟨Old.refl _, .inl ⟨_, _, rfl, map_none (vf_str Hc.out (yI (k := 34) h34)) Hr.out⟩⟩
    · have Hr := hide hr
      clear hr
      go_wp2_with fail
      go_ret3
      exact hide ⟨Old.refl _, .inr ⟨j, 4, rfl, hij, hjn, map_some (vf_str Hc.out (yI (k := 34) h34)) Hr.out⟩⟩
  cases h116 : ((c.toNat : Int) == 116)
  case true =>
    go_enter Tryd.func25, Tryd.ntmps25
    go_wp2_with fail
    refine (lit31 w b o tc n tl HN.out HT.out (by omega) i hi ⟨#[116, 114, 117, 101]⟩ (by decide)).mono ?_
    intro e w1 hx
    obtain ⟨hO, hv⟩ := hx.out
    have HO := hide hO
    clear hx hO
    rcases hv with ⟨v, rfl, hr⟩ | ⟨rfl, hjn, hr⟩
    · have Hr := hide hr
      clear hr
      go_wp2_with fail
      go_ret3
      exact hide ⟨HO.out, .inl ⟨_, _, rfl, map_none (vf_true Hc.out (yI (k := 116) h116)) Hr.out⟩⟩
    · have Hr := hide hr
      have hjn : i + 4 ≤ n := hjn
      clear hr
      go_wp2_with fail
      go_ret3
      exact hide ⟨HO.out, .inr ⟨i + 4, 2, rfl, by omega, by rw [← HN.out]; omega, map_some (vf_true Hc.out (yI (k := 116) h116)) Hr.out⟩⟩
  cases h102 : ((c.toNat : Int) == 102)
  case true =>
    go_enter Tryd.func25, Tryd.ntmps25
    go_wp2_with fail
    refine (lit31 w b o tc n tl HN.out HT.out (by omega) i hi ⟨#[102, 97, 108, 115, 101]⟩ (by decide)).mono ?_
    intro e w1 hx
    obtain ⟨hO, hv⟩ := hx.out
    have HO := hide hO
    clear hx hO
    rcases hv with ⟨v, rfl, hr⟩ | ⟨rfl, hjn, hr⟩
    · have Hr := hide hr
      clear hr
      go_wp2_with fail
      go_ret3
      exact hide ⟨HO.out, .inl ⟨_, _, rfl, map_none (vf_false Hc.out (yI (k := 102) h102)) Hr.out⟩⟩
    · have Hr := hide hr
      have hjn : i + 5 ≤ n := hjn
      clear hr
      go_wp2_with fail
      go_ret3
      exact hide ⟨HO.out, .inr ⟨i + 5, 2, rfl, by omega, by rw [← HN.out]; omega, map_some (vf_false Hc.out (yI (k := 102) h102)) Hr.out⟩⟩
  cases h110 : ((c.toNat : Int) == 110)
  case true =>
    go_enter Tryd.func25, Tryd.ntmps25
    go_wp2_with fail
    refine (lit31 w b o tc n tl HN.out HT.out (by omega) i hi ⟨#[110, 117, 108, 108]⟩ (by decide)).mono ?_
    intro e w1 hx
    obtain ⟨hO, hv⟩ := hx.out
    have HO := hide hO
    clear hx hO
    rcases hv with ⟨v, rfl, hr⟩ | ⟨rfl, hjn, hr⟩
    · have Hr := hide hr
      clear hr
      go_wp2_with fail
      go_ret3
      exact hide ⟨HO.out, .inl ⟨_, _, rfl, map_none (vf_null Hc.out (yI (k := 110) h110)) Hr.out⟩⟩
    · have Hr := hide hr
      have hjn : i + 4 ≤ n := hjn
      clear hr
      go_wp2_with fail
      go_ret3
      exact hide ⟨HO.out, .inr ⟨i + 4, 1, rfl, by omega, by rw [← HN.out]; omega, map_some (vf_null Hc.out (yI (k := 110) h110)) Hr.out⟩⟩
  cases h91 : ((c.toNat : Int) == 91)
  case true =>
    go_enter Tryd.func25, Tryd.ntmps25
    go_wp2_with fail
    refine (conA b o tc n tl N HN.out hN HV.out w HT.out i hi2 ?_ (by omega)).mono ?_
    · obtain ⟨h, e⟩ := Hop.out
      exact ⟨h, by rw [e]; exact UInt8.toNat_inj.1 (yI (k := 91) h91)⟩
    intro e w1 hx
    obtain ⟨hO, hv⟩ := hx.out
    have HO := hide hO
    clear hx hO
    rcases hv with ⟨v, x, y, z, rfl, hr⟩ | ⟨j, x, y, z, rfl, hij, hjn, hr⟩
    · have Hr := hide hr
      clear hr
      go_wp2_with fail
      go_ret3
      exact hide ⟨HO.out, .inl ⟨_, _, rfl, map_none (vf_arr Hc.out (yI (k := 91) h91)) Hr.out⟩⟩
    · have Hr := hide hr
      clear hr
      go_wp2_with fail
      go_ret3
      exact hide ⟨HO.out, .inr ⟨j, 5, rfl, hij, hjn, map_some (vf_arr Hc.out (yI (k := 91) h91)) Hr.out⟩⟩
  cases h123 : ((c.toNat : Int) == 123)
  case true =>
    go_enter Tryd.func25, Tryd.ntmps25
    go_wp2_with fail
    refine (conO b o tc n tl N HN.out hN HV.out w HT.out i hi2 ?_ (by omega)).mono ?_
    · obtain ⟨h, e⟩ := Hop.out
      exact ⟨h, by rw [e]; exact UInt8.toNat_inj.1 (yI (k := 123) h123)⟩
    intro e w1 hx
    obtain ⟨hO, hv⟩ := hx.out
    have HO := hide hO
    clear hx hO
    rcases hv with ⟨v, x, y, z, rfl, hr⟩ | ⟨j, x, y, z, rfl, hij, hjn, hr⟩
    · have Hr := hide hr
      clear hr
      go_wp2_with fail
      go_ret3
      exact hide ⟨HO.out, .inl ⟨_, _, rfl, map_none (vf_obj Hc.out (yI (k := 123) h123)) Hr.out⟩⟩
    · have Hr := hide hr
      clear hr
      go_wp2_with fail
      go_ret3
      exact hide ⟨HO.out, .inr ⟨j, 6, rfl, hij, hjn, map_some (vf_obj Hc.out (yI (k := 123) h123)) Hr.out⟩⟩
  go_enter Tryd.func25, Tryd.ntmps25
  go_wp2_with fail
  refine (num32 w b o tc n tl HN.out HT.out (by omega) i hi2).mono ?_
  intro e w1 hx
  obtain ⟨rfl, hv⟩ := hx.out
  clear hx
  have HF : Hid (Pj.valF (N + 1) (tl.drop i) = (Pj.numR (tl.drop i)).map (fun r => (3, r))) := vf_num Hc.out (nI (k := 34) h34) (nI (k := 116) h116) (nI (k := 102) h102) (nI (k := 110) h110) (nI (k := 91) h91) (nI (k := 123) h123)
  rcases hv with ⟨v, rfl, hr⟩ | ⟨j, rfl, hij, hjn, hr⟩
  · have Hr := hide hr
    clear hr
    go_wp2_with fail
    go_ret3
    exact hide ⟨Old.refl _, .inl ⟨_, _, rfl, map_none HF.out Hr.out⟩⟩
  · have Hr := hide hr
    clear hr
    go_wp2_with fail
    go_ret3
    exact hide ⟨Old.refl _, .inr ⟨j, 3, rfl, hij, hjn, map_some HF.out Hr.out⟩⟩
theorem val25 (b o tc n : Nat) (tl : List UInt8) (hn : n = tl.length) (hN : n ≤ 50000000) (N : Nat) : VOk b o tc n tl N := by
  induction N with
  | zero => intro w _ i _ hf; omega
  | succ N ih => exact val_step b o tc n tl N hn hN ih
end Go.Proofs.Qxb6603514aDoor
