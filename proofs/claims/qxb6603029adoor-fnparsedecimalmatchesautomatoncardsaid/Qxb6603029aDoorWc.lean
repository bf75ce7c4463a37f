import Derived.Test.Qxb6603029aDoorWb
import Derived.Test.Qxb6603029aDoorLib
namespace Go.Proofs.Qxb6603029aDoor
open Go.RowKit

theorem hide {p : Prop} (h : p) : Hid p := h
theorem data_app (a b : ByteArray) : (a ++ b).data.toList = a.data.toList ++ b.data.toList := by
  rw [ByteArray.data_append, Array.toList_append]
def decV : Option Pl.Num → Value
  | none => .tuple #[.agg #[.bool false, .string ⟨#[]⟩, .int .i64 0], .bool false]
  | some n => .tuple #[.agg #[.bool n.neg, .string ⟨n.dig.toArray⟩, .int .i64 n.exp], .bool true]
theorem dec_none {o : Option Pl.Num} (h : o = none) : Ending.returned (.tuple #[.agg #[.bool false, .string ⟨#[]⟩, .int .i64 0], .bool false]) = .returned (decV o) := by subst h; rfl
theorem dec_zero {o : Option Pl.Num} (h : o = some ⟨false, [], 0⟩) {d : ByteArray} (hd : d.toList.isEmpty = true) : Ending.returned (.tuple #[.agg #[.bool false, .string d, .int .i64 0], .bool true]) = .returned (decV o) := by
  subst h
  have : d.data.toList = [] := by rw [← toList_d]; exact List.isEmpty_iff.1 hd
  rw [mk_list d _ this]; rfl
theorem dec_some {o : Option Pl.Num} {neg : Bool} {d : ByteArray} {e : Int} {l : List UInt8} (hd : Hid (d.data.toList = l)) (h : o = some ⟨neg, l, e⟩) {v : Int} (hv : v = e) : Ending.returned (.tuple #[.agg #[.bool neg, .string d, .int .i64 v], .bool true]) = .returned (decV o) := by
  subst h
  rw [mk_list d _ hd.out, hv]; rfl

theorem leading_ex2 (s : ByteArray) (w : World) (hs : s.size ≤ 4194304) :
    Calls Tryd.prog 24 #[.string s] w fun e w' => ∃ d r : ByteArray, e = .returned (.tuple #[.string d, .string r]) ∧ Hid (d.data.toList = Pl.dg s.data.toList) ∧ Hid (r.data.toList = Pl.rs s.data.toList) ∧ d.size ≤ s.size ∧ r.size ≤ s.size ∧ w' = w.drew :=
  (leading_ex s w hs).mono fun _ _ ⟨d, r, h1, h2, h3, h4, h5, h6⟩ => ⟨d, r, h1, h2, h3, h4, h5, h6.out⟩

theorem empty_iff (d : ByteArray) : d.toList.isEmpty = true ↔ d.data.toList = [] := by rw [toList_d]; exact List.isEmpty_iff
theorem pos_of (d : ByteArray) (h : d.toList.isEmpty = false) : 0 < d.size := by
  rw [toList_d] at h
  cases e : d.data.toList with
  | nil => rw [e] at h; cases h
  | cons a t => rw [← size_list, e]; simp

/-- The pure steps: from what the walk has met to 'pDec'. -/
theorem dec_bad0 {l : List UInt8} (h : Pl.dg (Pl.cutH 45 l) = []) : Pl.pDec l = none := by unfold Pl.pDec; rw [h]; rfl
theorem dec_bad1 {l : List UInt8} (h : Pl.badWhole (Pl.dg (Pl.cutH 45 l)) = true) : Pl.pDec l = none := by unfold Pl.pDec; rw [h]; rfl
theorem dec_good {l : List UInt8} (h : Pl.badWhole (Pl.dg (Pl.cutH 45 l)) = false) : Pl.pDec l = Pl.pFrac (Pl.hasH 45 l) (Pl.dg (Pl.cutH 45 l)) (Pl.rs (Pl.cutH 45 l)) := by unfold Pl.pDec; rw [h]; rfl
theorem bad_yes {d : ByteArray} (hp : 0 < d.size) (h1 : 1 < d.size) (h2 : ((d[0].toNat : Int) == 48) = true) : Pl.badWhole d.data.toList = true := by
  obtain ⟨t, ht⟩ := head_of d hp
  have hl := size_list d
  rw [ht] at hl ⊢
  cases t with
  | nil => simp at hl; omega
  | cons b t => simp at h2; simp [Pl.badWhole]; omega
theorem bad_no {d : ByteArray} (hp : 0 < d.size) (h : ((d[0].toNat : Int) == 48) = false ∨ d.size ≤ 1) : Pl.badWhole d.data.toList = false := by
  obtain ⟨t, ht⟩ := head_of d hp
  have hl := size_list d
  rw [ht] at hl ⊢
  rcases h with h | h
  · simp at h; simp [Pl.badWhole]; intro _; omega
  · cases t with
    | nil => rfl
    | cons b t => simp at hl; omega
theorem isE_yes {d : ByteArray} (hp : 0 < d.size) (h : ((d[0].toNat : Int) == 101) = true ∨ ((d[0].toNat : Int) == 69) = true) : Pl.isE d.data.toList = true := by
  obtain ⟨t, ht⟩ := head_of d hp
  rw [ht]
  simp [Pl.isE]
  rcases h with h | h <;> simp at h <;> omega
theorem isE_no {d : ByteArray} (hp : 0 < d.size) (h : ((d[0].toNat : Int) == 101) = false) (h2 : ((d[0].toNat : Int) == 69) = false) : Pl.isE d.data.toList = false := by
  obtain ⟨t, ht⟩ := head_of d hp
  rw [ht]
  simp [Pl.isE]
  simp at h h2
  omega
theorem ne_of_pos {d : ByteArray} (hp : 0 < d.size) : d.data.toList.isEmpty = false := by
  obtain ⟨t, ht⟩ := head_of d hp
  rw [ht]; rfl

/-- The facts that every way behind the whole part carries. -/
theorem tail_stop {neg : Bool} {whole frac : List UInt8} {q : ByteArray} (hp : 0 < q.size) (h : Pl.isE q.data.toList = false) : Pl.pTail neg whole frac q.data.toList = none := by
  unfold Pl.pTail Pl.pEnd; rw [h, ne_of_pos hp]; rfl
theorem tail_end {neg : Bool} {whole frac : List UInt8} {q : ByteArray} (h : q.toList.isEmpty = true) : Pl.pTail neg whole frac q.data.toList = some (Pl.pFin neg whole frac 0) := by
  have e : q.data.toList = [] := (empty_iff q).1 h
  rw [e]; rfl
theorem tail_no {neg : Bool} {whole frac : List UInt8} {q b : ByteArray} (h : Pl.isE q.data.toList = true) (hb : Hid (b.data.toList = q.data.toList.tail)) (h2 : Hid (Pl.pExpOk b.data.toList = false)) : Pl.pTail neg whole frac q.data.toList = none := by
  have e2 := h2.out
  rw [hb.out] at e2
  unfold Pl.pTail; rw [h, e2]; rfl
theorem tail_rest {neg : Bool} {whole frac : List UInt8} {q b r : ByteArray} (h : Pl.isE q.data.toList = true) (hb : Hid (b.data.toList = q.data.toList.tail)) (h2 : Hid (Pl.pExpOk b.data.toList = true)) (hr : Hid (r.data.toList = Pl.pExpR b.data.toList)) (h0 : r.toList.isEmpty = false) : Pl.pTail neg whole frac q.data.toList = none := by
  have e2 := h2.out
  have e3 := hr.out
  rw [hb.out] at e2 e3
  unfold Pl.pTail Pl.pEnd; rw [h, e2, ← e3, ← toList_d, h0]; rfl
theorem tail_exp {neg : Bool} {whole frac : List UInt8} {q b r : ByteArray} {v : Int} (h : Pl.isE q.data.toList = true) (hb : Hid (b.data.toList = q.data.toList.tail)) (h2 : Hid (Pl.pExpOk b.data.toList = true)) (hv : Hid (v = Pl.pExpV b.data.toList)) (hr : Hid (r.data.toList = Pl.pExpR b.data.toList)) (h0 : r.toList.isEmpty = true) : Pl.pTail neg whole frac q.data.toList = some (Pl.pFin neg whole frac v) := by
  have e2 := h2.out
  have e3 := hr.out
  have e4 := hv.out
  rw [hb.out] at e2 e3 e4
  unfold Pl.pTail Pl.pEnd; rw [h, e2, ← e3, ← toList_d, h0, ← e4]; rfl
theorem fin_zero {neg : Bool} {whole frac : List UInt8} {e : Int} {m dd : ByteArray} (hm : Hid (m.data.toList = Pl.trL (whole ++ frac))) (hd : Hid (dd.data.toList = Pl.trR m.data.toList)) (h0 : dd.toList.isEmpty = true) : Pl.pFin neg whole frac e = ⟨false, [], 0⟩ := by
  have e1 := hd.out
  rw [hm.out] at e1
  unfold Pl.pFin; rw [← e1, ← toList_d, h0]; rfl
theorem fin_some {neg : Bool} {whole frac : List UInt8} {e : Int} {m dd : ByteArray} (hm : Hid (m.data.toList = Pl.trL (whole ++ frac))) (hd : Hid (dd.data.toList = Pl.trR m.data.toList)) (h0 : dd.toList.isEmpty = false) : Pl.pFin neg whole frac e = ⟨neg, dd.data.toList, e - frac.length + m.size - dd.size⟩ := by
  have e1 := hd.out
  rw [hm.out] at e1
  unfold Pl.pFin; rw [← e1, ← toList_d, h0, ← hm.out, size_list, toList_d, size_list]; rfl

set_option maxHeartbeats 4000000 in
theorem pdec_any (s : ByteArray) (w : World) (hs : s.size ≤ 2097152) :
    Calls Tryd.prog 18 #[.string s] w fun e w' => e = .returned (decV (Pl.pDec s.data.toList)) ∧ Below w.heap.size w w' := by
  go_enter Tryd.func18, Tryd.ntmps18
  go_wp2_with fail
  refine (cut_ex _ _ _).mono ?_
  rintro e w1 ⟨q, neg, rfl, HN, HQ, hq, rfl⟩
  go_wp2_with fail
  refine (leading_ex2 _ _ (by omega)).mono ?_
  rintro e w1 ⟨d1, r1, rfl, HD1, HR1, hd1, hr1, rfl⟩
  have HD : Hid (d1.data.toList = Pl.dg (Pl.cutH 45 s.data.toList)) := (HD1.out.trans (congrArg Pl.dg HQ.out) : _ = _)
  have HR : Hid (r1.data.toList = Pl.rs (Pl.cutH 45 s.data.toList)) := (HR1.out.trans (congrArg Pl.rs HQ.out) : _ = _)
  clear HD1 HR1
  cases he1 : d1.toList.isEmpty
  rotate_left
  · go_wp2
    exact bodyPost_ret (v := .tuple #[.agg #[.bool false, .string ⟨#[]⟩, .int .i64 0], .bool false]) (by simp [results, Tryd.results18, go_sem]) rfl ⟨dec_none (dec_bad0 (HD.out.symm.trans ((empty_iff d1).1 he1))), (by repeat (first | exact Below.refl _ _ | refine Below.drew ?_ | refine Below.alloc ?_ (by simp <;> omega) _))⟩
  · have hp : 0 < d1.size := pos_of d1 he1
    by_cases h1 : (1 : Int) < (d1.size : Int)
    · cases h2 : ((d1[0].toNat : Int) == 48)
      · have HG : Hid (Pl.pDec s.data.toList = Pl.pFrac neg d1.data.toList r1.data.toList) := (by rw [dec_good (by rw [← HD.out]; exact bad_no hp (Or.inl h2)), HN.out, HD.out, HR.out] : _ = _)
        go_wp2_with fail
        refine (cut_ex _ _ _).mono ?_
        rintro e w1 ⟨q2, b2, rfl, HB2, HQ2, hq2, rfl⟩
        cases b2
        · have HT : Hid (Pl.pDec s.data.toList = Pl.pTail neg d1.data.toList [] r1.data.toList) := (by rw [HG.out]; unfold Pl.pFrac; rw [← HB2.out]; rfl : _ = _)
          clear HQ2 hq2
          cases he4 : r1.toList.isEmpty
          rotate_left
          · -- nothing more
            go_wp2_with fail
            generalize hj : d1 ++ ({ data := #[] } : ByteArray) = j
            have hjl : j.data.toList = d1.data.toList ++ [] := by rw [← hj]; exact data_app d1 _
            have hjs : j.size ≤ 4194304 := by rw [← size_list, hjl]; simp; omega
            clear hj
            have HJ := hide hjl
            clear hjl
            refine (triml_ex _ _).mono ?_
            rintro e w2 ⟨m, rfl, HM, hm, rfl⟩
            go_wp2_with fail
            refine (trimr_ex _ _ (by omega)).mono ?_
            rintro e w2 ⟨dd, rfl, HDD, hdd, rfl⟩
            have HM2 : Hid (m.data.toList = Pl.trL (d1.data.toList ++ [])) := (HM.out.trans (congrArg Pl.trL HJ.out) : _ = _)
            cases he5 : dd.toList.isEmpty
            · go_wp2
              exact bodyPost_ret (v := .tuple #[.agg #[.bool neg, .string dd, .int .i64 (0 - 0 + m.size - dd.size)], .bool true]) (by simp [results, Tryd.results18, go_sem]) rfl ⟨dec_some (neg := neg) (l := dd.data.toList) (hide rfl) ((HT.out.trans (tail_end he4)).trans (congrArg some (fin_some HM2 HDD he5))) (by simp), (by repeat (first | exact Below.refl _ _ | refine Below.drew ?_ | refine Below.alloc ?_ (by simp <;> omega) _))⟩
            · go_wp2
              exact bodyPost_ret (v := .tuple #[.agg #[.bool false, .string dd, .int .i64 0], .bool true]) (by simp [results, Tryd.results18, go_sem]) rfl ⟨dec_zero ((HT.out.trans (tail_end he4)).trans (congrArg some (fin_zero HM2 HDD he5))) he5, (by repeat (first | exact Below.refl _ _ | refine Below.drew ?_ | refine Below.alloc ?_ (by simp <;> omega) _))⟩
          · have hpq : 0 < r1.size := pos_of r1 he4
            by_cases c101 : ((r1[0].toNat : Int) == 101) = true ∨ ((r1[0].toNat : Int) == 69) = true
            · have HE := hide (isE_yes hpq c101)
              have hbs : (r1.extract 1 r1.size).size ≤ 4194304 := by simp; omega
              have HXT := hide (extract_tail r1)
              obtain ⟨b, hb⟩ : ∃ b, b = r1.extract 1 r1.size := ⟨_, rfl⟩
              rw [← hb] at hbs HXT
              have HB := hide hb
              clear hb
              have step : True := trivial
              rcases (show ((r1[0].toNat : Int) == 101) = true ∨ (((r1[0].toNat : Int) == 101) = false ∧ ((r1[0].toNat : Int) == 69) = true) by cases h : ((r1[0].toNat : Int) == 101) <;> simp_all) with c1 | ⟨c1, c2⟩
              all_goals
                clear c101 step
                go_wp2_with fail
                rw [← HB.out]
                refine (pexp_any _ _ hbs).mono ?_
                rintro e w2 (⟨r4, rfl, HK, rfl⟩ | ⟨v, r4, di, pos, rfl, HK, HV, HR4, hv1, hv2, hr4, rfl⟩)
                · go_wp2
                  exact bodyPost_ret (v := .tuple #[.agg #[.bool false, .string ⟨#[]⟩, .int .i64 0], .bool false]) (by simp [results, Tryd.results18, go_sem]) rfl ⟨dec_none (HT.out.trans (tail_no HE.out HXT HK)), (by repeat (first | exact Below.refl _ _ | refine Below.drew ?_ | refine Below.alloc ?_ (by simp <;> omega) _))⟩
                · cases he6 : r4.toList.isEmpty
                  · go_wp2
                    exact bodyPost_ret (v := .tuple #[.agg #[.bool false, .string ⟨#[]⟩, .int .i64 0], .bool false]) (by simp [results, Tryd.results18, go_sem]) rfl ⟨dec_none (HT.out.trans (tail_rest HE.out HXT HK HR4 he6)), (by repeat (first | exact Below.refl _ _ | refine Below.drew ?_ | refine Below.alloc ?_ (by simp <;> omega) _))⟩
                  · -- the end behind an exponent
                    go_wp2_with fail
                    generalize hj : d1 ++ ({ data := #[] } : ByteArray) = j
                    have hjl : j.data.toList = d1.data.toList ++ [] := by rw [← hj]; exact data_app d1 _
                    have hjs : j.size ≤ 4194304 := by rw [← size_list, hjl]; simp; omega
                    clear hj
                    have HJ := hide hjl
                    clear hjl
                    refine (triml_ex _ _).mono ?_
                    rintro e w2 ⟨m, rfl, HM, hm, rfl⟩
                    go_wp2_with fail
                    refine (trimr_ex _ _ (by omega)).mono ?_
                    rintro e w2 ⟨dd, rfl, HDD, hdd, rfl⟩
                    have HM2 : Hid (m.data.toList = Pl.trL (d1.data.toList ++ [])) := (HM.out.trans (congrArg Pl.trL HJ.out) : _ = _)
                    cases he5 : dd.toList.isEmpty
                    · go_wp2
                      exact bodyPost_ret (v := .tuple #[.agg #[.bool neg, .string dd, .int .i64 (v - 0 + m.size - dd.size)], .bool true]) (by simp [results, Tryd.results18, go_sem]) rfl ⟨dec_some (neg := neg) (l := dd.data.toList) (hide rfl) ((HT.out.trans (tail_exp HE.out HXT HK HV HR4 he6)).trans (congrArg some (fin_some HM2 HDD he5))) (by simp), (by repeat (first | exact Below.refl _ _ | refine Below.drew ?_ | refine Below.alloc ?_ (by simp <;> omega) _))⟩
                    · go_wp2
                      exact bodyPost_ret (v := .tuple #[.agg #[.bool false, .string dd, .int .i64 0], .bool true]) (by simp [results, Tryd.results18, go_sem]) rfl ⟨dec_zero ((HT.out.trans (tail_exp HE.out HXT HK HV HR4 he6)).trans (congrArg some (fin_zero HM2 HDD he5))) he5, (by repeat (first | exact Below.refl _ _ | refine Below.drew ?_ | refine Below.alloc ?_ (by simp <;> omega) _))⟩
            · have c1 : ((r1[0].toNat : Int) == 101) = false := by cases h : ((r1[0].toNat : Int) == 101) <;> simp_all
              have c2 : ((r1[0].toNat : Int) == 69) = false := by cases h : ((r1[0].toNat : Int) == 69) <;> simp_all
              have HE := hide (isE_no hpq c1 c2)
              clear c101
              go_wp2
              exact bodyPost_ret (v := .tuple #[.agg #[.bool false, .string ⟨#[]⟩, .int .i64 0], .bool false]) (by simp [results, Tryd.results18, go_sem]) rfl ⟨dec_none (HT.out.trans (tail_stop hpq HE.out)), (by repeat (first | exact Below.refl _ _ | refine Below.drew ?_ | refine Below.alloc ?_ (by simp <;> omega) _))⟩
        · have HQ3 : Hid (q2.data.toList = r1.data.toList.tail) := (by rw [HQ2.out]; unfold Pl.cutH; rw [← HB2.out]; rfl : _ = _)
          go_wp2_with fail
          refine (leading_ex2 _ _ (by omega)).mono ?_
          rintro e w1 ⟨d3, r3, rfl, HD3, HR3, hd3, hr3, rfl⟩
          cases he3 : d3.toList.isEmpty
          rotate_left
          · go_wp2
            exact bodyPost_ret (v := .tuple #[.agg #[.bool false, .string ⟨#[]⟩, .int .i64 0], .bool false]) (by simp [results, Tryd.results18, go_sem]) rfl ⟨dec_none (HG.out.trans (by unfold Pl.pFrac; rw [← HB2.out, ← HQ3.out, ← HD3.out, ← toList_d, he3]; rfl)), (by repeat (first | exact Below.refl _ _ | refine Below.drew ?_ | refine Below.alloc ?_ (by simp <;> omega) _))⟩
          · have HT : Hid (Pl.pDec s.data.toList = Pl.pTail neg d1.data.toList d3.data.toList r3.data.toList) := (by rw [HG.out]; unfold Pl.pFrac; rw [← HB2.out, ← HQ3.out, ← HD3.out, ← HR3.out, ← toList_d d3, he3]; rfl : _ = _)
            have hp3 : 0 < d3.size := pos_of d3 he3
            cases he4 : r3.toList.isEmpty
            rotate_left
            · -- nothing more
              go_wp2_with fail
              generalize hj : d1 ++ d3 = j
              have hjl : j.data.toList = d1.data.toList ++ d3.data.toList := by rw [← hj]; exact data_app d1 d3
              have hjs : j.size ≤ 4194304 := by rw [← size_list, hjl]; simp; omega
              clear hj
              have HJ := hide hjl
              clear hjl
              refine (triml_ex _ _).mono ?_
              rintro e w2 ⟨m, rfl, HM, hm, rfl⟩
              go_wp2_with fail
              refine (trimr_ex _ _ (by omega)).mono ?_
              rintro e w2 ⟨dd, rfl, HDD, hdd, rfl⟩
              have HM2 : Hid (m.data.toList = Pl.trL (d1.data.toList ++ d3.data.toList)) := (HM.out.trans (congrArg Pl.trL HJ.out) : _ = _)
              cases he5 : dd.toList.isEmpty
              · go_wp2
                exact bodyPost_ret (v := .tuple #[.agg #[.bool neg, .string dd, .int .i64 (0 - (d3.size : Int) + m.size - dd.size)], .bool true]) (by simp [results, Tryd.results18, go_sem]) rfl ⟨dec_some (neg := neg) (l := dd.data.toList) (hide rfl) ((HT.out.trans (tail_end he4)).trans (congrArg some (fin_some HM2 HDD he5))) (by simp), (by repeat (first | exact Below.refl _ _ | refine Below.drew ?_ | refine Below.alloc ?_ (by simp <;> omega) _))⟩
              · go_wp2
                exact bodyPost_ret (v := .tuple #[.agg #[.bool false, .string dd, .int .i64 0], .bool true]) (by simp [results, Tryd.results18, go_sem]) rfl ⟨dec_zero ((HT.out.trans (tail_end he4)).trans (congrArg some (fin_zero HM2 HDD he5))) he5, (by repeat (first | exact Below.refl _ _ | refine Below.drew ?_ | refine Below.alloc ?_ (by simp <;> omega) _))⟩
            · have hpq : 0 < r3.size := pos_of r3 he4
              by_cases c101 : ((r3[0].toNat : Int) == 101) = true ∨ ((r3[0].toNat : Int) == 69) = true
              · have HE := hide (isE_yes hpq c101)
                have hbs : (r3.extract 1 r3.size).size ≤ 4194304 := by simp; omega
                have HXT := hide (extract_tail r3)
                obtain ⟨b, hb⟩ : ∃ b, b = r3.extract 1 r3.size := ⟨_, rfl⟩
                rw [← hb] at hbs HXT
                have HB := hide hb
                clear hb
                have step : True := trivial
                rcases (show ((r3[0].toNat : Int) == 101) = true ∨ (((r3[0].toNat : Int) == 101) = false ∧ ((r3[0].toNat : Int) == 69) = true) by cases h : ((r3[0].toNat : Int) == 101) <;> simp_all) with c1 | ⟨c1, c2⟩
                all_goals
                  clear c101 step
                  go_wp2_with fail
                  rw [← HB.out]
                  refine (pexp_any _ _ hbs).mono ?_
                  rintro e w2 (⟨r4, rfl, HK, rfl⟩ | ⟨v, r4, di, pos, rfl, HK, HV, HR4, hv1, hv2, hr4, rfl⟩)
                  · go_wp2
                    exact bodyPost_ret (v := .tuple #[.agg #[.bool false, .string ⟨#[]⟩, .int .i64 0], .bool false]) (by simp [results, Tryd.results18, go_sem]) rfl ⟨dec_none (HT.out.trans (tail_no HE.out HXT HK)), (by repeat (first | exact Below.refl _ _ | refine Below.drew ?_ | refine Below.alloc ?_ (by simp <;> omega) _))⟩
                  · cases he6 : r4.toList.isEmpty
                    · go_wp2
                      exact bodyPost_ret (v := .tuple #[.agg #[.bool false, .string ⟨#[]⟩, .int .i64 0], .bool false]) (by simp [results, Tryd.results18, go_sem]) rfl ⟨dec_none (HT.out.trans (tail_rest HE.out HXT HK HR4 he6)), (by repeat (first | exact Below.refl _ _ | refine Below.drew ?_ | refine Below.alloc ?_ (by simp <;> omega) _))⟩
                    · -- the end behind an exponent
                      go_wp2_with fail
                      generalize hj : d1 ++ d3 = j
                      have hjl : j.data.toList = d1.data.toList ++ d3.data.toList := by rw [← hj]; exact data_app d1 d3
                      have hjs : j.size ≤ 4194304 := by rw [← size_list, hjl]; simp; omega
                      clear hj
                      have HJ := hide hjl
                      clear hjl
                      refine (triml_ex _ _).mono ?_
                      rintro e w2 ⟨m, rfl, HM, hm, rfl⟩
                      go_wp2_with fail
                      refine (trimr_ex _ _ (by omega)).mono ?_
                      rintro e w2 ⟨dd, rfl, HDD, hdd, rfl⟩
                      have HM2 : Hid (m.data.toList = Pl.trL (d1.data.toList ++ d3.data.toList)) := (HM.out.trans (congrArg Pl.trL HJ.out) : _ = _)
                      cases he5 : dd.toList.isEmpty
                      · go_wp2
                        exact bodyPost_ret (v := .tuple #[.agg #[.bool neg, .string dd, .int .i64 (v - (d3.size : Int) + m.size - dd.size)], .bool true]) (by simp [results, Tryd.results18, go_sem]) rfl ⟨dec_some (neg := neg) (l := dd.data.toList) (hide rfl) ((HT.out.trans (tail_exp HE.out HXT HK HV HR4 he6)).trans (congrArg some (fin_some HM2 HDD he5))) (by simp), (by repeat (first | exact Below.refl _ _ | refine Below.drew ?_ | refine Below.alloc ?_ (by simp <;> omega) _))⟩
                      · go_wp2
                        exact bodyPost_ret (v := .tuple #[.agg #[.bool false, .string dd, .int .i64 0], .bool true]) (by simp [results, Tryd.results18, go_sem]) rfl ⟨dec_zero ((HT.out.trans (tail_exp HE.out HXT HK HV HR4 he6)).trans (congrArg some (fin_zero HM2 HDD he5))) he5, (by repeat (first | exact Below.refl _ _ | refine Below.drew ?_ | refine Below.alloc ?_ (by simp <;> omega) _))⟩
              · have c1 : ((r3[0].toNat : Int) == 101) = false := by cases h : ((r3[0].toNat : Int) == 101) <;> simp_all
                have c2 : ((r3[0].toNat : Int) == 69) = false := by cases h : ((r3[0].toNat : Int) == 69) <;> simp_all
                have HE := hide (isE_no hpq c1 c2)
                clear c101
                go_wp2
                exact bodyPost_ret (v := .tuple #[.agg #[.bool false, .string ⟨#[]⟩, .int .i64 0], .bool false]) (by simp [results, Tryd.results18, go_sem]) rfl ⟨dec_none (HT.out.trans (tail_stop hpq HE.out)), (by repeat (first | exact Below.refl _ _ | refine Below.drew ?_ | refine Below.alloc ?_ (by simp <;> omega) _))⟩
      · go_wp2
        exact bodyPost_ret (v := .tuple #[.agg #[.bool false, .string ⟨#[]⟩, .int .i64 0], .bool false]) (by simp [results, Tryd.results18, go_sem]) rfl ⟨dec_none (dec_bad1 (by rw [← HD.out]; exact bad_yes hp (by omega) h2)), (by repeat (first | exact Below.refl _ _ | refine Below.drew ?_ | refine Below.alloc ?_ (by simp <;> omega) _))⟩
    · have HG : Hid (Pl.pDec s.data.toList = Pl.pFrac neg d1.data.toList r1.data.toList) := (by rw [dec_good (by rw [← HD.out]; exact bad_no hp (Or.inr (by omega))), HN.out, HD.out, HR.out] : _ = _)
      go_wp2_with fail
      refine (cut_ex _ _ _).mono ?_
      rintro e w1 ⟨q2, b2, rfl, HB2, HQ2, hq2, rfl⟩
      cases b2
      · have HT : Hid (Pl.pDec s.data.toList = Pl.pTail neg d1.data.toList [] r1.data.toList) := (by rw [HG.out]; unfold Pl.pFrac; rw [← HB2.out]; rfl : _ = _)
        clear HQ2 hq2
        cases he4 : r1.toList.isEmpty
        rotate_left
        · -- nothing more
          go_wp2_with fail
          generalize hj : d1 ++ ({ data := #[] } : ByteArray) = j
          have hjl : j.data.toList = d1.data.toList ++ [] := by rw [← hj]; exact data_app d1 _
          have hjs : j.size ≤ 4194304 := by rw [← size_list, hjl]; simp; omega
          clear hj
          have HJ := hide hjl
          clear hjl
          refine (triml_ex _ _).mono ?_
          rintro e w2 ⟨m, rfl, HM, hm, rfl⟩
          go_wp2_with fail
          refine (trimr_ex _ _ (by omega)).mono ?_
          rintro e w2 ⟨dd, rfl, HDD, hdd, rfl⟩
          have HM2 : Hid (m.data.toList = Pl.trL (d1.data.toList ++ [])) := (HM.out.trans (congrArg Pl.trL HJ.out) : _ = _)
          cases he5 : dd.toList.isEmpty
          · go_wp2
            exact bodyPost_ret (v := .tuple #[.agg #[.bool neg, .string dd, .int .i64 (0 - 0 + m.size - dd.size)], .bool true]) (by simp [results, Tryd.results18, go_sem]) rfl ⟨dec_some (neg := neg) (l := dd.data.toList) (hide rfl) ((HT.out.trans (tail_end he4)).trans (congrArg some (fin_some HM2 HDD he5))) (by simp), (by repeat (first | exact Below.refl _ _ | refine Below.drew ?_ | refine Below.alloc ?_ (by simp <;> omega) _))⟩
          · go_wp2
            exact bodyPost_ret (v := .tuple #[.agg #[.bool false, .string dd, .int .i64 0], .bool true]) (by simp [results, Tryd.results18, go_sem]) rfl ⟨dec_zero ((HT.out.trans (tail_end he4)).trans (congrArg some (fin_zero HM2 HDD he5))) he5, (by repeat (first | exact Below.refl _ _ | refine Below.drew ?_ | refine Below.alloc ?_ (by simp <;> omega) _))⟩
        · have hpq : 0 < r1.size := pos_of r1 he4
          by_cases c101 : ((r1[0].toNat : Int) == 101) = true ∨ ((r1[0].toNat : Int) == 69) = true
          · have HE := hide (isE_yes hpq c101)
            have hbs : (r1.extract 1 r1.size).size ≤ 4194304 := by simp; omega
            have HXT := hide (extract_tail r1)
            obtain ⟨b, hb⟩ : ∃ b, b = r1.extract 1 r1.size := ⟨_, rfl⟩
            rw [← hb] at hbs HXT
            have HB := hide hb
            clear hb
            have step : True := trivial
            rcases (show ((r1[0].toNat : Int) == 101) = true ∨ (((r1[0].toNat : Int) == 101) = false ∧ ((r1[0].toNat : Int) == 69) = true) by cases h : ((r1[0].toNat : Int) == 101) <;> simp_all) with c1 | ⟨c1, c2⟩
            all_goals
              clear c101 step
              go_wp2_with fail
              rw [← HB.out]
              refine (pexp_any _ _ hbs).mono ?_
              rintro e w2 (⟨r4, rfl, HK, rfl⟩ | ⟨v, r4, di, pos, rfl, HK, HV, HR4, hv1, hv2, hr4, rfl⟩)
              · go_wp2
                exact bodyPost_ret (v := .tuple #[.agg #[.bool false, .string ⟨#[]⟩, .int .i64 0], .bool false]) (by simp [results, Tryd.results18, go_sem]) rfl ⟨dec_none (HT.out.trans (tail_no HE.out HXT HK)), (by repeat (first | exact Below.refl _ _ | refine Below.drew ?_ | refine Below.alloc ?_ (by simp <;> omega) _))⟩
              · cases he6 : r4.toList.isEmpty
                · go_wp2
                  exact bodyPost_ret (v := .tuple #[.agg #[.bool false, .string ⟨#[]⟩, .int .i64 0], .bool false]) (by simp [results, Tryd.results18, go_sem]) rfl ⟨dec_none (HT.out.trans (tail_rest HE.out HXT HK HR4 he6)), (by repeat (first | exact Below.refl _ _ | refine Below.drew ?_ | refine Below.alloc ?_ (by simp <;> omega) _))⟩
                · -- the end behind an exponent
                  go_wp2_with fail
                  generalize hj : d1 ++ ({ data := #[] } : ByteArray) = j
                  have hjl : j.data.toList = d1.data.toList ++ [] := by rw [← hj]; exact data_app d1 _
                  have hjs : j.size ≤ 4194304 := by rw [← size_list, hjl]; simp; omega
                  clear hj
                  have HJ := hide hjl
                  clear hjl
                  refine (triml_ex _ _).mono ?_
                  rintro e w2 ⟨m, rfl, HM, hm, rfl⟩
                  go_wp2_with fail
                  refine (trimr_ex _ _ (by omega)).mono ?_
                  rintro e w2 ⟨dd, rfl, HDD, hdd, rfl⟩
                  have HM2 : Hid (m.data.toList = Pl.trL (d1.data.toList ++ [])) := (HM.out.trans (congrArg Pl.trL HJ.out) : _ = _)
                  cases he5 : dd.toList.isEmpty
                  · go_wp2
                    exact bodyPost_ret (v := .tuple #[.agg #[.bool neg, .string dd, .int .i64 (v - 0 + m.size - dd.size)], .bool true]) (by simp [results, Tryd.results18, go_sem]) rfl ⟨dec_some (neg := neg) (l := dd.data.toList) (hide rfl) ((HT.out.trans (tail_exp HE.out HXT HK HV HR4 he6)).trans (congrArg some (fin_some HM2 HDD he5))) (by simp), (by repeat (first | exact Below.refl _ _ | refine Below.drew ?_ | refine Below.alloc ?_ (by simp <;> omega) _))⟩
                  · go_wp2
                    exact bodyPost_ret (v := .tuple #[.agg #[.bool false, .string dd, .int .i64 0], .bool true]) (by simp [results, Tryd.results18, go_sem]) rfl ⟨dec_zero ((HT.out.trans (tail_exp HE.out HXT HK HV HR4 he6)).trans (congrArg some (fin_zero HM2 HDD he5))) he5, (by repeat (first | exact Below.refl _ _ | refine Below.drew ?_ | refine Below.alloc ?_ (by simp <;> omega) _))⟩
          · have c1 : ((r1[0].toNat : Int) == 101) = false := by cases h : ((r1[0].toNat : Int) == 101) <;> simp_all
            have c2 : ((r1[0].toNat : Int) == 69) = false := by cases h : ((r1[0].toNat : Int) == 69) <;> simp_all
            have HE := hide (isE_no hpq c1 c2)
            clear c101
            go_wp2
            exact bodyPost_ret (v := .tuple #[.agg #[.bool false, .string ⟨#[]⟩, .int .i64 0], .bool false]) (by simp [results, Tryd.results18, go_sem]) rfl ⟨dec_none (HT.out.trans (tail_stop hpq HE.out)), (by repeat (first | exact Below.refl _ _ | refine Below.drew ?_ | refine Below.alloc ?_ (by simp <;> omega) _))⟩
      · have HQ3 : Hid (q2.data.toList = r1.data.toList.tail) := (by rw [HQ2.out]; unfold Pl.cutH; rw [← HB2.out]; rfl : _ = _)
        go_wp2_with fail
        refine (leading_ex2 _ _ (by omega)).mono ?_
        rintro e w1 ⟨d3, r3, rfl, HD3, HR3, hd3, hr3, rfl⟩
        cases he3 : d3.toList.isEmpty
        rotate_left
        · go_wp2
          exact bodyPost_ret (v := .tuple #[.agg #[.bool false, .string ⟨#[]⟩, .int .i64 0], .bool false]) (by simp [results, Tryd.results18, go_sem]) rfl ⟨dec_none (HG.out.trans (by unfold Pl.pFrac; rw [← HB2.out, ← HQ3.out, ← HD3.out, ← toList_d, he3]; rfl)), (by repeat (first | exact Below.refl _ _ | refine Below.drew ?_ | refine Below.alloc ?_ (by simp <;> omega) _))⟩
        · have HT : Hid (Pl.pDec s.data.toList = Pl.pTail neg d1.data.toList d3.data.toList r3.data.toList) := (by rw [HG.out]; unfold Pl.pFrac; rw [← HB2.out, ← HQ3.out, ← HD3.out, ← HR3.out, ← toList_d d3, he3]; rfl : _ = _)
          have hp3 : 0 < d3.size := pos_of d3 he3
          cases he4 : r3.toList.isEmpty
          rotate_left
          · -- nothing more
            go_wp2_with fail
            generalize hj : d1 ++ d3 = j
            have hjl : j.data.toList = d1.data.toList ++ d3.data.toList := by rw [← hj]; exact data_app d1 d3
            have hjs : j.size ≤ 4194304 := by rw [← size_list, hjl]; simp; omega
            clear hj
            have HJ := hide hjl
            clear hjl
            refine (triml_ex _ _).mono ?_
            rintro e w2 ⟨m, rfl, HM, hm, rfl⟩
            go_wp2_with fail
            refine (trimr_ex _ _ (by omega)).mono ?_
            rintro e w2 ⟨dd, rfl, HDD, hdd, rfl⟩
            have HM2 : Hid (m.data.toList = Pl.trL (d1.data.toList ++ d3.data.toList)) := (HM.out.trans (congrArg Pl.trL HJ.out) : _ = _)
            cases he5 : dd.toList.isEmpty
            · go_wp2
              exact bodyPost_ret (v := .tuple #[.agg #[.bool neg, .string dd, .int .i64 (0 - (d3.size : Int) + m.size - dd.size)], .bool true]) (by simp [results, Tryd.results18, go_sem]) rfl ⟨dec_some (neg := neg) (l := dd.data.toList) (hide rfl) ((HT.out.trans (tail_end he4)).trans (congrArg some (fin_some HM2 HDD he5))) (by simp), (by repeat (first | exact Below.refl _ _ | refine Below.drew ?_ | refine Below.alloc ?_ (by simp <;> omega) _))⟩
            · go_wp2
              exact bodyPost_ret (v := .tuple #[.agg #[.bool false, .string dd, .int .i64 0], .bool true]) (by simp [results, Tryd.results18, go_sem]) rfl ⟨dec_zero ((HT.out.trans (tail_end he4)).trans (congrArg some (fin_zero HM2 HDD he5))) he5, (by repeat (first | exact Below.refl _ _ | refine Below.drew ?_ | refine Below.alloc ?_ (by simp <;> omega) _))⟩
          · have hpq : 0 < r3.size := pos_of r3 he4
            by_cases c101 : ((r3[0].toNat : Int) == 101) = true ∨ ((r3[0].toNat : Int) == 69) = true
            · have HE := hide (isE_yes hpq c101)
              have hbs : (r3.extract 1 r3.size).size ≤ 4194304 := by simp; omega
              have HXT := hide (extract_tail r3)
              obtain ⟨b, hb⟩ : ∃ b, b = r3.extract 1 r3.size := ⟨_, rfl⟩
              rw [← hb] at hbs HXT
              have HB := hide hb
              clear hb
              have step : True := trivial
              rcases (show ((r3[0].toNat : Int) == 101) = true ∨ (((r3[0].toNat : Int) == 101) = false ∧ ((r3[0].toNat : Int) == 69) = true) by cases h : ((r3[0].toNat : Int) == 101) <;> simp_all) with c1 | ⟨c1, c2⟩
              all_goals
                clear c101 step
                go_wp2_with fail
                rw [← HB.out]
                refine (pexp_any _ _ hbs).mono ?_
                rintro e w2 (⟨r4, rfl, HK, rfl⟩ | ⟨v, r4, di, pos, rfl, HK, HV, HR4, hv1, hv2, hr4, rfl⟩)
                · go_wp2
                  exact bodyPost_ret (v := .tuple #[.agg #[.bool false, .string ⟨#[]⟩, .int .i64 0], .bool false]) (by simp [results, Tryd.results18, go_sem]) rfl ⟨dec_none (HT.out.trans (tail_no HE.out HXT HK)), (by repeat (first | exact Below.refl _ _ | refine Below.drew ?_ | refine Below.alloc ?_ (by simp <;> omega) _))⟩
                · cases he6 : r4.toList.isEmpty
                  · go_wp2
                    exact bodyPost_ret (v := .tuple #[.agg #[.bool false, .string ⟨#[]⟩, .int .i64 0], .bool false]) (by simp [results, Tryd.results18, go_sem]) rfl ⟨dec_none (HT.out.trans (tail_rest HE.out HXT HK HR4 he6)), (by repeat (first | exact Below.refl _ _ | refine Below.drew ?_ | refine Below.alloc ?_ (by simp <;> omega) _))⟩
                  · -- the end behind an exponent
                    go_wp2_with fail
                    generalize hj : d1 ++ d3 = j
                    have hjl : j.data.toList = d1.data.toList ++ d3.data.toList := by rw [← hj]; exact data_app d1 d3
                    have hjs : j.size ≤ 4194304 := by rw [← size_list, hjl]; simp; omega
                    clear hj
                    have HJ := hide hjl
                    clear hjl
                    refine (triml_ex _ _).mono ?_
                    rintro e w2 ⟨m, rfl, HM, hm, rfl⟩
                    go_wp2_with fail
                    refine (trimr_ex _ _ (by omega)).mono ?_
                    rintro e w2 ⟨dd, rfl, HDD, hdd, rfl⟩
                    have HM2 : Hid (m.data.toList = Pl.trL (d1.data.toList ++ d3.data.toList)) := (HM.out.trans (congrArg Pl.trL HJ.out) : _ = _)
                    cases he5 : dd.toList.isEmpty
                    · go_wp2
                      exact bodyPost_ret (v := .tuple #[.agg #[.bool neg, .string dd, .int .i64 (v - (d3.size : Int) + m.size - dd.size)], .bool true]) (by simp [results, Tryd.results18, go_sem]) rfl ⟨dec_some (neg := neg) (l := dd.data.toList) (hide rfl) ((HT.out.trans (tail_exp HE.out HXT HK HV HR4 he6)).trans (congrArg some (fin_some HM2 HDD he5))) (by simp), (by repeat (first | exact Below.refl _ _ | refine Below.drew ?_ | refine Below.alloc ?_ (by simp <;> omega) _))⟩
                    · go_wp2
                      exact bodyPost_ret (v := .tuple #[.agg #[.bool false, .string dd, .int .i64 0], .bool true]) (by simp [results, Tryd.results18, go_sem]) rfl ⟨dec_zero ((HT.out.trans (tail_exp HE.out HXT HK HV HR4 he6)).trans (congrArg some (fin_zero HM2 HDD he5))) he5, (by repeat (first | exact Below.refl _ _ | refine Below.drew ?_ | refine Below.alloc ?_ (by simp <;> omega) _))⟩
            · have c1 : ((r3[0].toNat : Int) == 101) = false := by cases h : ((r3[0].toNat : Int) == 101) <;> simp_all
              have c2 : ((r3[0].toNat : Int) == 69) = false := by cases h : ((r3[0].toNat : Int) == 69) <;> simp_all
              have HE := hide (isE_no hpq c1 c2)
              clear c101
              go_wp2
              exact bodyPost_ret (v := .tuple #[.agg #[.bool false, .string ⟨#[]⟩, .int .i64 0], .bool false]) (by simp [results, Tryd.results18, go_sem]) rfl ⟨dec_none (HT.out.trans (tail_stop hpq HE.out)), (by repeat (first | exact Below.refl _ _ | refine Below.drew ?_ | refine Below.alloc ?_ (by simp <;> omega) _))⟩
end Go.Proofs.Qxb6603029aDoor
