import Derived.Test.Qxb6603262aDoorLib
import Derived.Test.Qxb6603262aDoorPlainb
namespace Go.Proofs.Qxb6603262aDoor
open Go.RowKit
set_option linter.unusedSimpArgs false
namespace Pd
open Lb
theorem hide {p : Prop} (h : p) : Hid p := h
theorem toList_d (b : ByteArray) : b.toList = b.data.toList := ByteArray.toList_eq b
theorem mk_list (b : ByteArray) (l : List UInt8) (h : b.data.toList = l) : b = ⟨l.toArray⟩ := by
  obtain ⟨⟨x⟩⟩ := b; subst h; rfl
theorem data_app (a b : ByteArray) : (a ++ b).data.toList = a.data.toList ++ b.data.toList := by
  rw [ByteArray.data_append, Array.toList_append]
theorem head_of (s : ByteArray) (hp : 0 < s.size) : ∃ t, s.data.toList = s[0] :: t := by
  obtain ⟨⟨l⟩⟩ := s
  cases l with
  | nil => simp [ByteArray.size] at hp
  | cons a t => exact ⟨t, rfl⟩
theorem int_eq {a b : Int} (h : a = b) : Value.int .i64 a = .int .i64 b := by rw [h]

/-- The call's own two structs: the result (all zero) and d (its sign set), in a world behind. -/
structure Fr (w : World) (sg : Int) (W : World) : Prop where
  below : Below w.heap.size w W
  size : w.heap.size + 1 < W.heap.size
  r0 : W.cell? ⟨w.heap.size, 0, none⟩ = some (.int .i64 0)
  r1 : W.cell? ⟨w.heap.size, 1, none⟩ = some (.string ⟨#[]⟩)
  r2 : W.cell? ⟨w.heap.size, 2, none⟩ = some (.int .i64 0)
  c0 : W.cell? ⟨w.heap.size + 1, 0, none⟩ = some (.int .i64 sg)
  c1 : W.cell? ⟨w.heap.size + 1, 1, none⟩ = some (.string ⟨#[]⟩)
  c2 : W.cell? ⟨w.heap.size + 1, 2, none⟩ = some (.int .i64 0)
  f0 : ∀ j, W.frozen? ⟨w.heap.size, j, none⟩ = false
  f1 : ∀ j, W.frozen? ⟨w.heap.size + 1, j, none⟩ = false
theorem Fr.later {w W W' : World} {sg : Int} (h : Fr w sg W) (hb : Below W.heap.size W W') : Fr w sg W' := by
  have hz := h.size
  refine ⟨h.below.trans (hb.mono h.below.size), by have := hb.size; omega, ?_, ?_, ?_, ?_, ?_, ?_, ?_, ?_⟩
  · rw [hb.cell (by show w.heap.size < _; omega)]; exact h.r0
  · rw [hb.cell (by show w.heap.size < _; omega)]; exact h.r1
  · rw [hb.cell (by show w.heap.size < _; omega)]; exact h.r2
  · rw [hb.cell (by show w.heap.size + 1 < _; omega)]; exact h.c0
  · rw [hb.cell (by show w.heap.size + 1 < _; omega)]; exact h.c1
  · rw [hb.cell (by show w.heap.size + 1 < _; omega)]; exact h.c2
  · intro j; rw [hb.frozen (by show w.heap.size < _; omega)]; exact h.f0 j
  · intro j; rw [hb.frozen (by show w.heap.size + 1 < _; omega)]; exact h.f1 j
theorem Fr.first (w : World) (sg : Int) : Fr w sg ((w.alloc (.cells #[.int .i64 0, .string ⟨#[]⟩, .int .i64 0] 29)).alloc (.cells #[.int .i64 sg, .string ⟨#[]⟩, .int .i64 0] 29)) := by
  refine ⟨?_, by simp, by simp, by simp, by simp, by simp, by simp, by simp, fun j => by simp, fun j => by simp⟩
  exact ((Below.refl _ _).alloc (Nat.le_refl _) _).alloc (by simp) _
theorem Fr.drewN {w W : World} {sg : Int} (h : Fr w sg W) (n : Nat) : Fr w sg (W.drewN n) := h.later (below_drewN (Below.refl _ _) n)
theorem Fr.drew {w W : World} {sg : Int} (h : Fr w sg W) : Fr w sg W.drew := h.later ((Below.refl _ _).drew)
theorem Fr.iter {w W : World} {sg : Int} (h : Fr w sg W) (d : ByteArray) (pos : Nat) : Fr w sg (W.iter d pos) := h.later ((Below.refl _ _).alloc (Nat.le_refl _) _)

def resV (r : Pl.Res) : Value := .agg #[.int .i64 r.sign, .string ⟨r.dig.toArray⟩, .int .i64 r.point]
theorem ret_zero {p : Pl.Parts} (h : p.res = ⟨0, [], 0⟩) : Ending.returned (.agg #[.int .i64 0, .string ⟨#[]⟩, .int .i64 0]) = .returned (resV p.res) := by rw [h]; rfl
theorem ret_some {p : Pl.Parts} {sg v : Int} {d : ByteArray} {l : List UInt8} {e : Int} (h : p.res = ⟨sg, l, e⟩) (hd : d.data.toList = l) (hv : v = e) : Ending.returned (.agg #[.int .i64 sg, .string d, .int .i64 v]) = .returned (resV p.res) := by
  rw [h, mk_list d l hd, hv]; rfl

/-- A digit of the exponent. -/
theorem dig_at {d : ByteArray} {l : List UInt8} (h : Hid (d.data.toList = l)) (hl : ∀ c ∈ l, Pl.isD c = true) (k : Nat) (hk : k < d.size) : (48 : Int) ≤ (d[k].toNat : Int) ∧ (d[k].toNat : Int) ≤ 57 := by
  refine Pl.isD_b (hl _ ?_)
  rw [← h.out]
  exact List.getElem_mem (l := d.data.toList) (by rw [size_list]; exact hk)
theorem sat_at {d : ByteArray} {l : List UInt8} (h : Hid (d.data.toList = l)) (hl : ∀ c ∈ l, Pl.isD c = true) (k : Nat) : 0 ≤ Pl.sat (d.data.toList.take k) ∧ Pl.sat (d.data.toList.take k) ≤ 9007199254740992 :=
  Pl.sat_bound _ fun c hc => hl c (h.out ▸ List.mem_of_mem_take hc)
theorem sat_step {d : ByteArray} (k : Nat) (hk : k < d.size) :
    Value.int .i64 (min (Pl.sat (d.data.toList.take k) * 10 + ((d[k].toNat : Int) - 48)) 9007199254740992) = .int .i64 (Pl.sat (d.data.toList.take (k + 1))) := by
  have e : Pl.sat (d.data.toList.take (k + 1)) = Pl.sat1 (Pl.sat (d.data.toList.take k)) d[k] := Pl.sat_take_succ d.data.toList k (by rw [size_list]; exact hk)
  rw [e]; rfl
theorem sat_all (d : ByteArray) (pos : Nat) (h : ¬ pos < d.size) : d.data.toList.take pos = d.data.toList := List.take_of_length_le (by rw [size_list]; omega)

set_option maxRecDepth 100000 in
set_option maxHeartbeats 3000000 in
theorem pd_false (p : Pl.Parts) (hp : p.Ok) (s s1 : ByteArray) (hneg : p.neg = false) (hs : s.size ≤ 1048576) (h0 : 0 < s.size) (hh : ((s[0].toNat : Int) == 45) = false) (H1 : Hid (s1 = s)) (HL : Hid (s1.data.toList = p.W ++ (p.fp ++ p.ep))) (h1s : s1.size ≤ 1048576) (w : World) :
    Calls Tryd.prog 13 #[.string s] w fun e w' => e = .returned (resV p.res) ∧ Below w.heap.size w w' := by
  have e1 := H1.out
  subst e1
  go_enter Tryd.func13, Tryd.ntmps13
  go_wp2_with fail
  refine (lower_ex _ (by omega) (by rw [HL.out]; exact Pl.rest_lt hp) _).mono ?_
  rintro e w1 ⟨lo, rfl, HLO, hlo, hb1⟩
  have FR1 := (Fr.first w 1).later hb1
  have HLL : Hid (lo.data.toList = p.W ++ (p.fp ++ p.lep)) := (by rw [HLO.out, HL.out]; exact Pl.lower_rest hp : _ = _)
  clear hb1 HLO HL
  cases hE : p.hasE
  · have HMA : Hid (lo.data.toList = p.W ++ p.fp) := (by rw [HLL.out]; unfold Pl.Parts.lep; rw [hE]; simp : _ = _)
    have HNE := hide (show ∀ x ∈ lo.data.toList, x ≠ 101 by rw [HMA.out]; exact Pl.mant_ne hp)
    go_wp2_with fail
    refine (cut_no _ _ HNE.out _).mono ?_
    rintro e w3 ⟨rfl, nq, rfl⟩
    clear HNE HLL
    obtain ⟨ma, hma0⟩ : ∃ ma, ma = lo := ⟨_, rfl⟩
    subst hma0
    have hmas : ma.size ≤ 1048576 := by omega
    have HE0 := hide (Pl.no_exp hp hE)
    cases hF : p.hasF
    · have hma : ma.data.toList = p.W := by rw [HMA.out]; unfold Pl.Parts.fp; rw [hF]; simp
      have HF0 := hide (hp.f0 hF)
      have HNO := hide (show ∀ x ∈ ma.data.toList, x ≠ 46 from fun x hx => Pl.dig_ne46 (hp.wd x (hma ▸ hx)))
      have HMW := hide hma
      clear hma
      go_wp2_with fail
      refine (cut_no _ _ HNO.out _).mono ?_
      rintro e w4 ⟨rfl, nq2, rfl⟩
      have HFR : Hid (({ data := #[] } : ByteArray).data.toList = p.F) := (HF0.out.symm : _ = _)
      obtain ⟨wh, hwh⟩ : ∃ wh, wh = ma := ⟨_, rfl⟩
      subst hwh
      have HWH := HMW
      have hws : wh.size ≤ 2097152 := by omega
      clear HNO HMW HMA
      go_wp2_with fail
      generalize hj : wh ++ ({ data := #[] } : ByteArray) = j
      have hjl : j.data.toList = p.M := by rw [← hj, data_app, HWH.out, HFR.out]; rfl
      have hjs : j.size ≤ 4194304 := by rw [← size_list, ← hj, data_app]; simp; omega
      clear hj
      have HJ := hide hjl
      clear hjl
      refine (triml_ex _ _).mono ?_
      rintro e w5 ⟨al, rfl, HAL, hal, rfl⟩
      go_wp2_with fail
      refine (trimr_ex _ _ (by omega)).mono ?_
      rintro e w5 ⟨dd, rfl, HDD, hdd, rfl⟩
      have HA2 : Hid (al.data.toList = Pl.trL p.M) := (HAL.out.trans (congrArg Pl.trL HJ.out) : _ = _)
      have HD2 : Hid (dd.data.toList = Pl.trR (Pl.trL p.M)) := (HDD.out.trans (congrArg Pl.trR HA2.out) : _ = _)
      obtain ⟨frb, frz, r0, r1, r2, c0, c1, c2, f0, f1⟩ := FR1
      have hlA : ((Pl.trL p.M).length : Int) = (al.size : Int) := by rw [← HA2.out, size_list]
      have hlF : (p.F.length : Int) = 0 := by rw [← HFR.out]; rfl
      have HV : Hid ((al.size : Int) - 0 + 0 = ((Pl.trL p.M).length : Int) - (p.F.length : Int) + p.e) := (by rw [hlA, hlF, HE0.out] : _ = _)
      clear hlA hlF
      have hfs : (0 : Int) ≤ 0 ∧ 0 ≤ 4194304 := by omega
      cases he5 : dd.toList.isEmpty
      · have HRS := hide ((Pl.res_some (by rw [← HD2.out, ← toList_d]; exact he5)).trans (by rw [hneg]; rfl : _ = (⟨1, Pl.trR (Pl.trL p.M), ((Pl.trL p.M).length : Int) - (p.F.length : Int) + p.e⟩ : Pl.Res)))
        go_wp2
        exact bodyPost_ret (v := .agg #[.int .i64 (1), .string dd, .int .i64 ((al.size : Int) - 0 + 0)]) (by simp [results, Tryd.results13, go_sem, r0, r1, r2, c0, c1, c2, f0, f1, frz]) rfl ⟨ret_some HRS.out HD2.out HV.out, (((((below_drewN frb _).setCell (by simp) _).setCell (by simp) _).setCell (by simp) _).setCell (by simp) _).setCell (by simp) _⟩
      · have HRZ := hide (Pl.res_zero (p := p) (by rw [← HD2.out, ← toList_d]; exact he5))
        go_wp2
        exact bodyPost_ret (v := .agg #[.int .i64 0, .string ⟨#[]⟩, .int .i64 0]) (by simp [results, Tryd.results13, go_sem, r0, r1, r2, c0, c1, c2, f0, f1, frz]) rfl ⟨ret_zero HRZ.out, ((((below_drewN frb _).setCell (by simp) _).setCell (by simp) _).setCell (by simp) _).setCell (by simp) _⟩
    · have hma : ma.data.toList = p.W ++ 46 :: p.F := by rw [HMA.out]; unfold Pl.Parts.fp; rw [hF]; rfl
      have HMW := hide hma
      clear hma
      go_wp2_with fail
      refine (cut_yes _ _ p.W p.F HMW.out (fun x hx => Pl.dig_ne46 (hp.wd x hx)) (by omega) _).mono ?_
      rintro e w4 ⟨wh, fr, rfl, HWH, HFR, hws, hfs, nq2, rfl⟩
      clear HMW HMA
      go_wp2_with fail
      generalize hj : wh ++ fr = j
      have hjl : j.data.toList = p.M := by rw [← hj, data_app, HWH.out, HFR.out]; rfl
      have hjs : j.size ≤ 4194304 := by rw [← size_list, ← hj, data_app]; simp; omega
      clear hj
      have HJ := hide hjl
      clear hjl
      refine (triml_ex _ _).mono ?_
      rintro e w5 ⟨al, rfl, HAL, hal, rfl⟩
      go_wp2_with fail
      refine (trimr_ex _ _ (by omega)).mono ?_
      rintro e w5 ⟨dd, rfl, HDD, hdd, rfl⟩
      have HA2 : Hid (al.data.toList = Pl.trL p.M) := (HAL.out.trans (congrArg Pl.trL HJ.out) : _ = _)
      have HD2 : Hid (dd.data.toList = Pl.trR (Pl.trL p.M)) := (HDD.out.trans (congrArg Pl.trR HA2.out) : _ = _)
      obtain ⟨frb, frz, r0, r1, r2, c0, c1, c2, f0, f1⟩ := FR1
      have hlA : ((Pl.trL p.M).length : Int) = (al.size : Int) := by rw [← HA2.out, size_list]
      have hlF : (p.F.length : Int) = (fr.size : Int) := by rw [← HFR.out]; rw [size_list]
      have HV : Hid ((al.size : Int) - (fr.size : Int) + 0 = ((Pl.trL p.M).length : Int) - (p.F.length : Int) + p.e) := (by rw [hlA, hlF, HE0.out] : _ = _)
      clear hlA hlF
      have hfs : (0 : Int) ≤ (fr.size : Int) ∧ (fr.size : Int) ≤ 4194304 := by omega
      cases he5 : dd.toList.isEmpty
      · have HRS := hide ((Pl.res_some (by rw [← HD2.out, ← toList_d]; exact he5)).trans (by rw [hneg]; rfl : _ = (⟨1, Pl.trR (Pl.trL p.M), ((Pl.trL p.M).length : Int) - (p.F.length : Int) + p.e⟩ : Pl.Res)))
        go_wp2
        exact bodyPost_ret (v := .agg #[.int .i64 (1), .string dd, .int .i64 ((al.size : Int) - (fr.size : Int) + 0)]) (by simp [results, Tryd.results13, go_sem, r0, r1, r2, c0, c1, c2, f0, f1, frz]) rfl ⟨ret_some HRS.out HD2.out HV.out, (((((below_drewN frb _).setCell (by simp) _).setCell (by simp) _).setCell (by simp) _).setCell (by simp) _).setCell (by simp) _⟩
      · have HRZ := hide (Pl.res_zero (p := p) (by rw [← HD2.out, ← toList_d]; exact he5))
        go_wp2
        exact bodyPost_ret (v := .agg #[.int .i64 0, .string ⟨#[]⟩, .int .i64 0]) (by simp [results, Tryd.results13, go_sem, r0, r1, r2, c0, c1, c2, f0, f1, frz]) rfl ⟨ret_zero HRZ.out, ((((below_drewN frb _).setCell (by simp) _).setCell (by simp) _).setCell (by simp) _).setCell (by simp) _⟩
  · have HMX : Hid (lo.data.toList = (p.W ++ p.fp) ++ 101 :: (p.sg ++ p.X)) := (by rw [HLL.out]; unfold Pl.Parts.lep; rw [hE]; simp : _ = _)
    go_wp2_with fail
    refine (cut_yes _ _ (p.W ++ p.fp) (p.sg ++ p.X) HMX.out (Pl.mant_ne hp) (by omega) _).mono ?_
    rintro e w3 ⟨ma, ex, rfl, HMA, HEX, hma, hex, nq, rfl⟩
    clear HMX HLL
    have hmas : ma.size ≤ 1048576 := by omega
    cases hF : p.hasF
    · have hma : ma.data.toList = p.W := by rw [HMA.out]; unfold Pl.Parts.fp; rw [hF]; simp
      have HF0 := hide (hp.f0 hF)
      have HNO := hide (show ∀ x ∈ ma.data.toList, x ≠ 46 from fun x hx => Pl.dig_ne46 (hp.wd x (hma ▸ hx)))
      have HMW := hide hma
      clear hma
      go_wp2_with fail
      refine (cut_no _ _ HNO.out _).mono ?_
      rintro e w4 ⟨rfl, nq2, rfl⟩
      have HFR : Hid (({ data := #[] } : ByteArray).data.toList = p.F) := (HF0.out.symm : _ = _)
      obtain ⟨wh, hwh⟩ : ∃ wh, wh = ma := ⟨_, rfl⟩
      subst hwh
      have HWH := HMW
      have hws : wh.size ≤ 2097152 := by omega
      clear HNO HMW HMA
      obtain ⟨a0, t0, hat, ha45⟩ := Pl.exp_head hp hE
      have hexl : ex.data.toList = a0 :: t0 := HEX.out.trans hat
      have hex0 : ex.toList.isEmpty = false := by rw [toList_d, hexl]; rfl
      have hexs : 0 < ex.size := by rw [← size_list, hexl]; simp
      have ha0 : ex[0] = a0 := by obtain ⟨t, ht⟩ := head_of ex hexs; rw [hexl] at ht; exact (List.cons.inj ht).1.symm
      have hneq : ((ex[0].toNat : Int) == 45) = decide (p.sg = [45]) := by rw [ha0]; exact ha45
      have HXL := hide (Pl.trim_sg hp)
      clear hat ha45 hexl ha0
      cases hm45 : decide (p.sg = [45])
      · rw [hm45] at hneq
        go_wp2_with fail
        refine (trims_ex _ _).mono ?_
        rintro e w4 ⟨xx, rfl, HX0, hxx, hb4⟩
        have HX : Hid (xx.data.toList = p.X) := (by rw [HX0.out, HEX.out, HXL.out] : _ = _)
        have FR2 := (FR1.drewN (nq + nq2)).later hb4
        clear FR1 HX0 HXL hb4
        go_wp2_with fail
        go_loopw [10] (fun n w' => ∃ pos : Nat, pos ≤ xx.size ∧ w' = w4.iter xx pos ∧ n = .int .i64 (Pl.sat (xx.data.toList.take pos))) (fun _ w' => xx.size - w'.iterPos w4.heap.size)
        case atStart => exact ⟨0, Nat.zero_le _, rfl, rfl⟩
        case round =>
          obtain ⟨pos, hpos, rfl, rfl⟩ := hrel
          obtain ⟨hs1, hs2⟩ := sat_at HX hp.xd pos
          by_cases hlt : pos < xx.size
          · obtain ⟨hb1, hb2⟩ := dig_at HX hp.xd pos hlt
            have hnx : ∀ ty, (Instr.next (.pointer (some ⟨w4.heap.size, 0, none⟩)) true ty).run Tryd.prog (w4.iter xx pos) = _ := fun ty => run_next_ascii w4 xx pos ty hlt (by omega)
            go_wp2
            go_roundw
            case rel => exact ⟨pos + 1, by omega, rfl, sat_step pos hlt⟩
            case measure => simp; omega
          · have hnx : ∀ ty, (Instr.next (.pointer (some ⟨w4.heap.size, 0, none⟩)) true ty).run Tryd.prog (w4.iter xx pos) = _ := fun ty => run_next_end w4 xx pos ty hlt
            have FR := FR2.iter xx pos
            clear FR2
            have HE : Hid (p.e = (if decide (p.sg = [45]) = true then -Pl.sat (xx.data.toList.take pos) else Pl.sat (xx.data.toList.take pos))) := (by rw [sat_all xx pos hlt, HX.out]; unfold Pl.Parts.e; simp : _ = _)
            rw [hm45] at HE
            have HE2 : Hid (p.e = Pl.sat (xx.data.toList.take pos)) := (HE.out : _ = _)
            have hEb : -9007199254740992 ≤ Pl.sat (xx.data.toList.take pos) ∧ Pl.sat (xx.data.toList.take pos) ≤ 9007199254740992 := by omega
            go_wp2_with fail
            generalize hj : wh ++ ({ data := #[] } : ByteArray) = j
            have hjl : j.data.toList = p.M := by rw [← hj, data_app, HWH.out, HFR.out]; rfl
            have hjs : j.size ≤ 4194304 := by rw [← size_list, ← hj, data_app]; simp; omega
            clear hj
            have HJ := hide hjl
            clear hjl
            refine (triml_ex _ _).mono ?_
            rintro e w5 ⟨al, rfl, HAL, hal, rfl⟩
            go_wp2_with fail
            refine (trimr_ex _ _ (by omega)).mono ?_
            rintro e w5 ⟨dd, rfl, HDD, hdd, rfl⟩
            have HA2 : Hid (al.data.toList = Pl.trL p.M) := (HAL.out.trans (congrArg Pl.trL HJ.out) : _ = _)
            have HD2 : Hid (dd.data.toList = Pl.trR (Pl.trL p.M)) := (HDD.out.trans (congrArg Pl.trR HA2.out) : _ = _)
            obtain ⟨frb, frz, r0, r1, r2, c0, c1, c2, f0, f1⟩ := FR
            have hlA : ((Pl.trL p.M).length : Int) = (al.size : Int) := by rw [← HA2.out, size_list]
            have hlF : (p.F.length : Int) = 0 := by rw [← HFR.out]; rfl
            have HV : Hid ((al.size : Int) - 0 + Pl.sat (xx.data.toList.take pos) = ((Pl.trL p.M).length : Int) - (p.F.length : Int) + p.e) := (by rw [hlA, hlF, HE2.out] : _ = _)
            clear hlA hlF
            have hfs : (0 : Int) ≤ 0 ∧ 0 ≤ 4194304 := by omega
            cases he5 : dd.toList.isEmpty
            · have HRS := hide ((Pl.res_some (by rw [← HD2.out, ← toList_d]; exact he5)).trans (by rw [hneg]; rfl : _ = (⟨1, Pl.trR (Pl.trL p.M), ((Pl.trL p.M).length : Int) - (p.F.length : Int) + p.e⟩ : Pl.Res)))
              go_wp2
              exact bodyPost_ret (v := .agg #[.int .i64 (1), .string dd, .int .i64 ((al.size : Int) - 0 + Pl.sat (xx.data.toList.take pos))]) (by simp [results, Tryd.results13, go_sem, r0, r1, r2, c0, c1, c2, f0, f1, frz]) rfl ⟨ret_some HRS.out HD2.out HV.out, (((((frb).setCell (by simp) _).setCell (by simp) _).setCell (by simp) _).setCell (by simp) _).setCell (by simp) _⟩
            · have HRZ := hide (Pl.res_zero (p := p) (by rw [← HD2.out, ← toList_d]; exact he5))
              go_wp2
              exact bodyPost_ret (v := .agg #[.int .i64 0, .string ⟨#[]⟩, .int .i64 0]) (by simp [results, Tryd.results13, go_sem, r0, r1, r2, c0, c1, c2, f0, f1, frz]) rfl ⟨ret_zero HRZ.out, ((((frb).setCell (by simp) _).setCell (by simp) _).setCell (by simp) _).setCell (by simp) _⟩
      · rw [hm45] at hneq
        go_wp2_with fail
        refine (trims_ex _ _).mono ?_
        rintro e w4 ⟨xx, rfl, HX0, hxx, hb4⟩
        have HX : Hid (xx.data.toList = p.X) := (by rw [HX0.out, HEX.out, HXL.out] : _ = _)
        have FR2 := (FR1.drewN (nq + nq2)).later hb4
        clear FR1 HX0 HXL hb4
        go_wp2_with fail
        go_loopw [10] (fun n w' => ∃ pos : Nat, pos ≤ xx.size ∧ w' = w4.iter xx pos ∧ n = .int .i64 (Pl.sat (xx.data.toList.take pos))) (fun _ w' => xx.size - w'.iterPos w4.heap.size)
        case atStart => exact ⟨0, Nat.zero_le _, rfl, rfl⟩
        case round =>
          obtain ⟨pos, hpos, rfl, rfl⟩ := hrel
          obtain ⟨hs1, hs2⟩ := sat_at HX hp.xd pos
          by_cases hlt : pos < xx.size
          · obtain ⟨hb1, hb2⟩ := dig_at HX hp.xd pos hlt
            have hnx : ∀ ty, (Instr.next (.pointer (some ⟨w4.heap.size, 0, none⟩)) true ty).run Tryd.prog (w4.iter xx pos) = _ := fun ty => run_next_ascii w4 xx pos ty hlt (by omega)
            go_wp2
            go_roundw
            case rel => exact ⟨pos + 1, by omega, rfl, sat_step pos hlt⟩
            case measure => simp; omega
          · have hnx : ∀ ty, (Instr.next (.pointer (some ⟨w4.heap.size, 0, none⟩)) true ty).run Tryd.prog (w4.iter xx pos) = _ := fun ty => run_next_end w4 xx pos ty hlt
            have FR := FR2.iter xx pos
            clear FR2
            have HE : Hid (p.e = (if decide (p.sg = [45]) = true then -Pl.sat (xx.data.toList.take pos) else Pl.sat (xx.data.toList.take pos))) := (by rw [sat_all xx pos hlt, HX.out]; unfold Pl.Parts.e; simp : _ = _)
            rw [hm45] at HE
            have HE2 : Hid (p.e = (-Pl.sat (xx.data.toList.take pos))) := (HE.out : _ = _)
            have hEb : -9007199254740992 ≤ (-Pl.sat (xx.data.toList.take pos)) ∧ (-Pl.sat (xx.data.toList.take pos)) ≤ 9007199254740992 := by omega
            go_wp2_with fail
            generalize hj : wh ++ ({ data := #[] } : ByteArray) = j
            have hjl : j.data.toList = p.M := by rw [← hj, data_app, HWH.out, HFR.out]; rfl
            have hjs : j.size ≤ 4194304 := by rw [← size_list, ← hj, data_app]; simp; omega
            clear hj
            have HJ := hide hjl
            clear hjl
            refine (triml_ex _ _).mono ?_
            rintro e w5 ⟨al, rfl, HAL, hal, rfl⟩
            go_wp2_with fail
            refine (trimr_ex _ _ (by omega)).mono ?_
            rintro e w5 ⟨dd, rfl, HDD, hdd, rfl⟩
            have HA2 : Hid (al.data.toList = Pl.trL p.M) := (HAL.out.trans (congrArg Pl.trL HJ.out) : _ = _)
            have HD2 : Hid (dd.data.toList = Pl.trR (Pl.trL p.M)) := (HDD.out.trans (congrArg Pl.trR HA2.out) : _ = _)
            obtain ⟨frb, frz, r0, r1, r2, c0, c1, c2, f0, f1⟩ := FR
            have hlA : ((Pl.trL p.M).length : Int) = (al.size : Int) := by rw [← HA2.out, size_list]
            have hlF : (p.F.length : Int) = 0 := by rw [← HFR.out]; rfl
            have HV : Hid ((al.size : Int) - 0 + (-Pl.sat (xx.data.toList.take pos)) = ((Pl.trL p.M).length : Int) - (p.F.length : Int) + p.e) := (by rw [hlA, hlF, HE2.out] : _ = _)
            clear hlA hlF
            have hfs : (0 : Int) ≤ 0 ∧ 0 ≤ 4194304 := by omega
            cases he5 : dd.toList.isEmpty
            · have HRS := hide ((Pl.res_some (by rw [← HD2.out, ← toList_d]; exact he5)).trans (by rw [hneg]; rfl : _ = (⟨1, Pl.trR (Pl.trL p.M), ((Pl.trL p.M).length : Int) - (p.F.length : Int) + p.e⟩ : Pl.Res)))
              go_wp2
              exact bodyPost_ret (v := .agg #[.int .i64 (1), .string dd, .int .i64 ((al.size : Int) - 0 + (-Pl.sat (xx.data.toList.take pos)))]) (by simp [results, Tryd.results13, go_sem, r0, r1, r2, c0, c1, c2, f0, f1, frz]) rfl ⟨ret_some HRS.out HD2.out HV.out, (((((frb).setCell (by simp) _).setCell (by simp) _).setCell (by simp) _).setCell (by simp) _).setCell (by simp) _⟩
            · have HRZ := hide (Pl.res_zero (p := p) (by rw [← HD2.out, ← toList_d]; exact he5))
              go_wp2
              exact bodyPost_ret (v := .agg #[.int .i64 0, .string ⟨#[]⟩, .int .i64 0]) (by simp [results, Tryd.results13, go_sem, r0, r1, r2, c0, c1, c2, f0, f1, frz]) rfl ⟨ret_zero HRZ.out, ((((frb).setCell (by simp) _).setCell (by simp) _).setCell (by simp) _).setCell (by simp) _⟩

    · have hma : ma.data.toList = p.W ++ 46 :: p.F := by rw [HMA.out]; unfold Pl.Parts.fp; rw [hF]; rfl
      have HMW := hide hma
      clear hma
      go_wp2_with fail
      refine (cut_yes _ _ p.W p.F HMW.out (fun x hx => Pl.dig_ne46 (hp.wd x hx)) (by omega) _).mono ?_
      rintro e w4 ⟨wh, fr, rfl, HWH, HFR, hws, hfs, nq2, rfl⟩
      clear HMW HMA
      obtain ⟨a0, t0, hat, ha45⟩ := Pl.exp_head hp hE
      have hexl : ex.data.toList = a0 :: t0 := HEX.out.trans hat
      have hex0 : ex.toList.isEmpty = false := by rw [toList_d, hexl]; rfl
      have hexs : 0 < ex.size := by rw [← size_list, hexl]; simp
      have ha0 : ex[0] = a0 := by obtain ⟨t, ht⟩ := head_of ex hexs; rw [hexl] at ht; exact (List.cons.inj ht).1.symm
      have hneq : ((ex[0].toNat : Int) == 45) = decide (p.sg = [45]) := by rw [ha0]; exact ha45
      have HXL := hide (Pl.trim_sg hp)
      clear hat ha45 hexl ha0
      cases hm45 : decide (p.sg = [45])
      · rw [hm45] at hneq
        go_wp2_with fail
        refine (trims_ex _ _).mono ?_
        rintro e w4 ⟨xx, rfl, HX0, hxx, hb4⟩
        have HX : Hid (xx.data.toList = p.X) := (by rw [HX0.out, HEX.out, HXL.out] : _ = _)
        have FR2 := (FR1.drewN (nq + nq2)).later hb4
        clear FR1 HX0 HXL hb4
        go_wp2_with fail
        go_loopw [10] (fun n w' => ∃ pos : Nat, pos ≤ xx.size ∧ w' = w4.iter xx pos ∧ n = .int .i64 (Pl.sat (xx.data.toList.take pos))) (fun _ w' => xx.size - w'.iterPos w4.heap.size)
        case atStart => exact ⟨0, Nat.zero_le _, rfl, rfl⟩
        case round =>
          obtain ⟨pos, hpos, rfl, rfl⟩ := hrel
          obtain ⟨hs1, hs2⟩ := sat_at HX hp.xd pos
          by_cases hlt : pos < xx.size
          · obtain ⟨hb1, hb2⟩ := dig_at HX hp.xd pos hlt
            have hnx : ∀ ty, (Instr.next (.pointer (some ⟨w4.heap.size, 0, none⟩)) true ty).run Tryd.prog (w4.iter xx pos) = _ := fun ty => run_next_ascii w4 xx pos ty hlt (by omega)
            go_wp2
            go_roundw
            case rel => exact ⟨pos + 1, by omega, rfl, sat_step pos hlt⟩
            case measure => simp; omega
          · have hnx : ∀ ty, (Instr.next (.pointer (some ⟨w4.heap.size, 0, none⟩)) true ty).run Tryd.prog (w4.iter xx pos) = _ := fun ty => run_next_end w4 xx pos ty hlt
            have FR := FR2.iter xx pos
            clear FR2
            have HE : Hid (p.e = (if decide (p.sg = [45]) = true then -Pl.sat (xx.data.toList.take pos) else Pl.sat (xx.data.toList.take pos))) := (by rw [sat_all xx pos hlt, HX.out]; unfold Pl.Parts.e; simp : _ = _)
            rw [hm45] at HE
            have HE2 : Hid (p.e = Pl.sat (xx.data.toList.take pos)) := (HE.out : _ = _)
            have hEb : -9007199254740992 ≤ Pl.sat (xx.data.toList.take pos) ∧ Pl.sat (xx.data.toList.take pos) ≤ 9007199254740992 := by omega
            go_wp2_with fail
            generalize hj : wh ++ fr = j
            have hjl : j.data.toList = p.M := by rw [← hj, data_app, HWH.out, HFR.out]; rfl
            have hjs : j.size ≤ 4194304 := by rw [← size_list, ← hj, data_app]; simp; omega
            clear hj
            have HJ := hide hjl
            clear hjl
            refine (triml_ex _ _).mono ?_
            rintro e w5 ⟨al, rfl, HAL, hal, rfl⟩
            go_wp2_with fail
            refine (trimr_ex _ _ (by omega)).mono ?_
            rintro e w5 ⟨dd, rfl, HDD, hdd, rfl⟩
            have HA2 : Hid (al.data.toList = Pl.trL p.M) := (HAL.out.trans (congrArg Pl.trL HJ.out) : _ = _)
            have HD2 : Hid (dd.data.toList = Pl.trR (Pl.trL p.M)) := (HDD.out.trans (congrArg Pl.trR HA2.out) : _ = _)
            obtain ⟨frb, frz, r0, r1, r2, c0, c1, c2, f0, f1⟩ := FR
            have hlA : ((Pl.trL p.M).length : Int) = (al.size : Int) := by rw [← HA2.out, size_list]
            have hlF : (p.F.length : Int) = (fr.size : Int) := by rw [← HFR.out]; rw [size_list]
            have HV : Hid ((al.size : Int) - (fr.size : Int) + Pl.sat (xx.data.toList.take pos) = ((Pl.trL p.M).length : Int) - (p.F.length : Int) + p.e) := (by rw [hlA, hlF, HE2.out] : _ = _)
            clear hlA hlF
            have hfs : (0 : Int) ≤ (fr.size : Int) ∧ (fr.size : Int) ≤ 4194304 := by omega
            cases he5 : dd.toList.isEmpty
            · have HRS := hide ((Pl.res_some (by rw [← HD2.out, ← toList_d]; exact he5)).trans (by rw [hneg]; rfl : _ = (⟨1, Pl.trR (Pl.trL p.M), ((Pl.trL p.M).length : Int) - (p.F.length : Int) + p.e⟩ : Pl.Res)))
              go_wp2
              exact bodyPost_ret (v := .agg #[.int .i64 (1), .string dd, .int .i64 ((al.size : Int) - (fr.size : Int) + Pl.sat (xx.data.toList.take pos))]) (by simp [results, Tryd.results13, go_sem, r0, r1, r2, c0, c1, c2, f0, f1, frz]) rfl ⟨ret_some HRS.out HD2.out HV.out, (((((frb).setCell (by simp) _).setCell (by simp) _).setCell (by simp) _).setCell (by simp) _).setCell (by simp) _⟩
            · have HRZ := hide (Pl.res_zero (p := p) (by rw [← HD2.out, ← toList_d]; exact he5))
              go_wp2
              exact bodyPost_ret (v := .agg #[.int .i64 0, .string ⟨#[]⟩, .int .i64 0]) (by simp [results, Tryd.results13, go_sem, r0, r1, r2, c0, c1, c2, f0, f1, frz]) rfl ⟨ret_zero HRZ.out, ((((frb).setCell (by simp) _).setCell (by simp) _).setCell (by simp) _).setCell (by simp) _⟩
      · rw [hm45] at hneq
        go_wp2_with fail
        refine (trims_ex _ _).mono ?_
        rintro e w4 ⟨xx, rfl, HX0, hxx, hb4⟩
        have HX : Hid (xx.data.toList = p.X) := (by rw [HX0.out, HEX.out, HXL.out] : _ = _)
        have FR2 := (FR1.drewN (nq + nq2)).later hb4
        clear FR1 HX0 HXL hb4
        go_wp2_with fail
        go_loopw [10] (fun n w' => ∃ pos : Nat, pos ≤ xx.size ∧ w' = w4.iter xx pos ∧ n = .int .i64 (Pl.sat (xx.data.toList.take pos))) (fun _ w' => xx.size - w'.iterPos w4.heap.size)
        case atStart => exact ⟨0, Nat.zero_le _, rfl, rfl⟩
        case round =>
          obtain ⟨pos, hpos, rfl, rfl⟩ := hrel
          obtain ⟨hs1, hs2⟩ := sat_at HX hp.xd pos
          by_cases hlt : pos < xx.size
          · obtain ⟨hb1, hb2⟩ := dig_at HX hp.xd pos hlt
            have hnx : ∀ ty, (Instr.next (.pointer (some ⟨w4.heap.size, 0, none⟩)) true ty).run Tryd.prog (w4.iter xx pos) = _ := fun ty => run_next_ascii w4 xx pos ty hlt (by omega)
            go_wp2
            go_roundw
            case rel => exact ⟨pos + 1, by omega, rfl, sat_step pos hlt⟩
            case measure => simp; omega
          · have hnx : ∀ ty, (Instr.next (.pointer (some ⟨w4.heap.size, 0, none⟩)) true ty).run Tryd.prog (w4.iter xx pos) = _ := fun ty => run_next_end w4 xx pos ty hlt
            have FR := FR2.iter xx pos
            clear FR2
            have HE : Hid (p.e = (if decide (p.sg = [45]) = true then -Pl.sat (xx.data.toList.take pos) else Pl.sat (xx.data.toList.take pos))) := (by rw [sat_all xx pos hlt, HX.out]; unfold Pl.Parts.e; simp : _ = _)
            rw [hm45] at HE
            have HE2 : Hid (p.e = (-Pl.sat (xx.data.toList.take pos))) := (HE.out : _ = _)
            have hEb : -9007199254740992 ≤ (-Pl.sat (xx.data.toList.take pos)) ∧ (-Pl.sat (xx.data.toList.take pos)) ≤ 9007199254740992 := by omega
            go_wp2_with fail
            generalize hj : wh ++ fr = j
            have hjl : j.data.toList = p.M := by rw [← hj, data_app, HWH.out, HFR.out]; rfl
            have hjs : j.size ≤ 4194304 := by rw [← size_list, ← hj, data_app]; simp; omega
            clear hj
            have HJ := hide hjl
            clear hjl
            refine (triml_ex _ _).mono ?_
            rintro e w5 ⟨al, rfl, HAL, hal, rfl⟩
            go_wp2_with fail
            refine (trimr_ex _ _ (by omega)).mono ?_
            rintro e w5 ⟨dd, rfl, HDD, hdd, rfl⟩
            have HA2 : Hid (al.data.toList = Pl.trL p.M) := (HAL.out.trans (congrArg Pl.trL HJ.out) : _ = _)
            have HD2 : Hid (dd.data.toList = Pl.trR (Pl.trL p.M)) := (HDD.out.trans (congrArg Pl.trR HA2.out) : _ = _)
            obtain ⟨frb, frz, r0, r1, r2, c0, c1, c2, f0, f1⟩ := FR
            have hlA : ((Pl.trL p.M).length : Int) = (al.size : Int) := by rw [← HA2.out, size_list]
            have hlF : (p.F.length : Int) = (fr.size : Int) := by rw [← HFR.out]; rw [size_list]
            have HV : Hid ((al.size : Int) - (fr.size : Int) + (-Pl.sat (xx.data.toList.take pos)) = ((Pl.trL p.M).length : Int) - (p.F.length : Int) + p.e) := (by rw [hlA, hlF, HE2.out] : _ = _)
            clear hlA hlF
            have hfs : (0 : Int) ≤ (fr.size : Int) ∧ (fr.size : Int) ≤ 4194304 := by omega
            cases he5 : dd.toList.isEmpty
            · have HRS := hide ((Pl.res_some (by rw [← HD2.out, ← toList_d]; exact he5)).trans (by rw [hneg]; rfl : _ = (⟨1, Pl.trR (Pl.trL p.M), ((Pl.trL p.M).length : Int) - (p.F.length : Int) + p.e⟩ : Pl.Res)))
              go_wp2
              exact bodyPost_ret (v := .agg #[.int .i64 (1), .string dd, .int .i64 ((al.size : Int) - (fr.size : Int) + (-Pl.sat (xx.data.toList.take pos)))]) (by simp [results, Tryd.results13, go_sem, r0, r1, r2, c0, c1, c2, f0, f1, frz]) rfl ⟨ret_some HRS.out HD2.out HV.out, (((((frb).setCell (by simp) _).setCell (by simp) _).setCell (by simp) _).setCell (by simp) _).setCell (by simp) _⟩
            · have HRZ := hide (Pl.res_zero (p := p) (by rw [← HD2.out, ← toList_d]; exact he5))
              go_wp2
              exact bodyPost_ret (v := .agg #[.int .i64 0, .string ⟨#[]⟩, .int .i64 0]) (by simp [results, Tryd.results13, go_sem, r0, r1, r2, c0, c1, c2, f0, f1, frz]) rfl ⟨ret_zero HRZ.out, ((((frb).setCell (by simp) _).setCell (by simp) _).setCell (by simp) _).setCell (by simp) _⟩


set_option maxRecDepth 100000 in
set_option maxHeartbeats 3000000 in
theorem pd_true (p : Pl.Parts) (hp : p.Ok) (s s1 : ByteArray) (hneg : p.neg = true) (hs : s.size ≤ 1048576) (h0 : 0 < s.size) (hh : ((s[0].toNat : Int) == 45) = true) (H1 : Hid (s1 = s.extract 1 s.size)) (HL : Hid (s1.data.toList = p.W ++ (p.fp ++ p.ep))) (h1s : s1.size ≤ 1048576) (w : World) :
    Calls Tryd.prog 13 #[.string s] w fun e w' => e = .returned (resV p.res) ∧ Below w.heap.size w w' := by
  go_enter Tryd.func13, Tryd.ntmps13
  go_wp2_with fail
  go_region
  all_goals go_wp2_with fail
  rw [← H1.out]
  refine (lower_ex _ (by omega) (by rw [HL.out]; exact Pl.rest_lt hp) _).mono ?_
  rintro e w1 ⟨lo, rfl, HLO, hlo, hb1⟩
  have FR1 := ((Fr.first w (-1)).drew).later hb1
  have HLL : Hid (lo.data.toList = p.W ++ (p.fp ++ p.lep)) := (by rw [HLO.out, HL.out]; exact Pl.lower_rest hp : _ = _)
  clear hb1 HLO HL
  cases hE : p.hasE
  · have HMA : Hid (lo.data.toList = p.W ++ p.fp) := (by rw [HLL.out]; unfold Pl.Parts.lep; rw [hE]; simp : _ = _)
    have HNE := hide (show ∀ x ∈ lo.data.toList, x ≠ 101 by rw [HMA.out]; exact Pl.mant_ne hp)
    go_wp2_with fail
    refine (cut_no _ _ HNE.out _).mono ?_
    rintro e w3 ⟨rfl, nq, rfl⟩
    clear HNE HLL
    obtain ⟨ma, hma0⟩ : ∃ ma, ma = lo := ⟨_, rfl⟩
    subst hma0
    have hmas : ma.size ≤ 1048576 := by omega
    have HE0 := hide (Pl.no_exp hp hE)
    cases hF : p.hasF
    · have hma : ma.data.toList = p.W := by rw [HMA.out]; unfold Pl.Parts.fp; rw [hF]; simp
      have HF0 := hide (hp.f0 hF)
      have HNO := hide (show ∀ x ∈ ma.data.toList, x ≠ 46 from fun x hx => Pl.dig_ne46 (hp.wd x (hma ▸ hx)))
      have HMW := hide hma
      clear hma
      go_wp2_with fail
      refine (cut_no _ _ HNO.out _).mono ?_
      rintro e w4 ⟨rfl, nq2, rfl⟩
      have HFR : Hid (({ data := #[] } : ByteArray).data.toList = p.F) := (HF0.out.symm : _ = _)
      obtain ⟨wh, hwh⟩ : ∃ wh, wh = ma := ⟨_, rfl⟩
      subst hwh
      have HWH := HMW
      have hws : wh.size ≤ 2097152 := by omega
      clear HNO HMW HMA
      go_wp2_with fail
      generalize hj : wh ++ ({ data := #[] } : ByteArray) = j
      have hjl : j.data.toList = p.M := by rw [← hj, data_app, HWH.out, HFR.out]; rfl
      have hjs : j.size ≤ 4194304 := by rw [← size_list, ← hj, data_app]; simp; omega
      clear hj
      have HJ := hide hjl
      clear hjl
      refine (triml_ex _ _).mono ?_
      rintro e w5 ⟨al, rfl, HAL, hal, rfl⟩
      go_wp2_with fail
      refine (trimr_ex _ _ (by omega)).mono ?_
      rintro e w5 ⟨dd, rfl, HDD, hdd, rfl⟩
      have HA2 : Hid (al.data.toList = Pl.trL p.M) := (HAL.out.trans (congrArg Pl.trL HJ.out) : _ = _)
      have HD2 : Hid (dd.data.toList = Pl.trR (Pl.trL p.M)) := (HDD.out.trans (congrArg Pl.trR HA2.out) : _ = _)
      obtain ⟨frb, frz, r0, r1, r2, c0, c1, c2, f0, f1⟩ := FR1
      have hlA : ((Pl.trL p.M).length : Int) = (al.size : Int) := by rw [← HA2.out, size_list]
      have hlF : (p.F.length : Int) = 0 := by rw [← HFR.out]; rfl
      have HV : Hid ((al.size : Int) - 0 + 0 = ((Pl.trL p.M).length : Int) - (p.F.length : Int) + p.e) := (by rw [hlA, hlF, HE0.out] : _ = _)
      clear hlA hlF
      have hfs : (0 : Int) ≤ 0 ∧ 0 ≤ 4194304 := by omega
      cases he5 : dd.toList.isEmpty
      · have HRS := hide ((Pl.res_some (by rw [← HD2.out, ← toList_d]; exact he5)).trans (by rw [hneg]; rfl : _ = (⟨-1, Pl.trR (Pl.trL p.M), ((Pl.trL p.M).length : Int) - (p.F.length : Int) + p.e⟩ : Pl.Res)))
        go_wp2
        exact bodyPost_ret (v := .agg #[.int .i64 (-1), .string dd, .int .i64 ((al.size : Int) - 0 + 0)]) (by simp [results, Tryd.results13, go_sem, r0, r1, r2, c0, c1, c2, f0, f1, frz]) rfl ⟨ret_some HRS.out HD2.out HV.out, (((((below_drewN frb _).setCell (by simp) _).setCell (by simp) _).setCell (by simp) _).setCell (by simp) _).setCell (by simp) _⟩
      · have HRZ := hide (Pl.res_zero (p := p) (by rw [← HD2.out, ← toList_d]; exact he5))
        go_wp2
        exact bodyPost_ret (v := .agg #[.int .i64 0, .string ⟨#[]⟩, .int .i64 0]) (by simp [results, Tryd.results13, go_sem, r0, r1, r2, c0, c1, c2, f0, f1, frz]) rfl ⟨ret_zero HRZ.out, ((((below_drewN frb _).setCell (by simp) _).setCell (by simp) _).setCell (by simp) _).setCell (by simp) _⟩
    · have hma : ma.data.toList = p.W ++ 46 :: p.F := by rw [HMA.out]; unfold Pl.Parts.fp; rw [hF]; rfl
      have HMW := hide hma
      clear hma
      go_wp2_with fail
      refine (cut_yes _ _ p.W p.F HMW.out (fun x hx => Pl.dig_ne46 (hp.wd x hx)) (by omega) _).mono ?_
      rintro e w4 ⟨wh, fr, rfl, HWH, HFR, hws, hfs, nq2, rfl⟩
      clear HMW HMA
      go_wp2_with fail
      generalize hj : wh ++ fr = j
      have hjl : j.data.toList = p.M := by rw [← hj, data_app, HWH.out, HFR.out]; rfl
      have hjs : j.size ≤ 4194304 := by rw [← size_list, ← hj, data_app]; simp; omega
      clear hj
      have HJ := hide hjl
      clear hjl
      refine (triml_ex _ _).mono ?_
      rintro e w5 ⟨al, rfl, HAL, hal, rfl⟩
      go_wp2_with fail
      refine (trimr_ex _ _ (by omega)).mono ?_
      rintro e w5 ⟨dd, rfl, HDD, hdd, rfl⟩
      have HA2 : Hid (al.data.toList = Pl.trL p.M) := (HAL.out.trans (congrArg Pl.trL HJ.out) : _ = _)
      have HD2 : Hid (dd.data.toList = Pl.trR (Pl.trL p.M)) := (HDD.out.trans (congrArg Pl.trR HA2.out) : _ = _)
      obtain ⟨frb, frz, r0, r1, r2, c0, c1, c2, f0, f1⟩ := FR1
      have hlA : ((Pl.trL p.M).length : Int) = (al.size : Int) := by rw [← HA2.out, size_list]
      have hlF : (p.F.length : Int) = (fr.size : Int) := by rw [← HFR.out]; rw [size_list]
      have HV : Hid ((al.size : Int) - (fr.size : Int) + 0 = ((Pl.trL p.M).length : Int) - (p.F.length : Int) + p.e) := (by rw [hlA, hlF, HE0.out] : _ = _)
      clear hlA hlF
      have hfs : (0 : Int) ≤ (fr.size : Int) ∧ (fr.size : Int) ≤ 4194304 := by omega
      cases he5 : dd.toList.isEmpty
      · have HRS := hide ((Pl.res_some (by rw [← HD2.out, ← toList_d]; exact he5)).trans (by rw [hneg]; rfl : _ = (⟨-1, Pl.trR (Pl.trL p.M), ((Pl.trL p.M).length : Int) - (p.F.length : Int) + p.e⟩ : Pl.Res)))
        go_wp2
        exact bodyPost_ret (v := .agg #[.int .i64 (-1), .string dd, .int .i64 ((al.size : Int) - (fr.size : Int) + 0)]) (by simp [results, Tryd.results13, go_sem, r0, r1, r2, c0, c1, c2, f0, f1, frz]) rfl ⟨ret_some HRS.out HD2.out HV.out, (((((below_drewN frb _).setCell (by simp) _).setCell (by simp) _).setCell (by simp) _).setCell (by simp) _).setCell (by simp) _⟩
      · have HRZ := hide (Pl.res_zero (p := p) (by rw [← HD2.out, ← toList_d]; exact he5))
        go_wp2
        exact bodyPost_ret (v := .agg #[.int .i64 0, .string ⟨#[]⟩, .int .i64 0]) (by simp [results, Tryd.results13, go_sem, r0, r1, r2, c0, c1, c2, f0, f1, frz]) rfl ⟨ret_zero HRZ.out, ((((below_drewN frb _).setCell (by simp) _).setCell (by simp) _).setCell (by simp) _).setCell (by simp) _⟩
  · have HMX : Hid (lo.data.toList = (p.W ++ p.fp) ++ 101 :: (p.sg ++ p.X)) := (by rw [HLL.out]; unfold Pl.Parts.lep; rw [hE]; simp : _ = _)
    go_wp2_with fail
    refine (cut_yes _ _ (p.W ++ p.fp) (p.sg ++ p.X) HMX.out (Pl.mant_ne hp) (by omega) _).mono ?_
    rintro e w3 ⟨ma, ex, rfl, HMA, HEX, hma, hex, nq, rfl⟩
    clear HMX HLL
    have hmas : ma.size ≤ 1048576 := by omega
    cases hF : p.hasF
    · have hma : ma.data.toList = p.W := by rw [HMA.out]; unfold Pl.Parts.fp; rw [hF]; simp
      have HF0 := hide (hp.f0 hF)
      have HNO := hide (show ∀ x ∈ ma.data.toList, x ≠ 46 from fun x hx => Pl.dig_ne46 (hp.wd x (hma ▸ hx)))
      have HMW := hide hma
      clear hma
      go_wp2_with fail
      refine (cut_no _ _ HNO.out _).mono ?_
      rintro e w4 ⟨rfl, nq2, rfl⟩
      have HFR : Hid (({ data := #[] } : ByteArray).data.toList = p.F) := (HF0.out.symm : _ = _)
      obtain ⟨wh, hwh⟩ : ∃ wh, wh = ma := ⟨_, rfl⟩
      subst hwh
      have HWH := HMW
      have hws : wh.size ≤ 2097152 := by omega
      clear HNO HMW HMA
      obtain ⟨a0, t0, hat, ha45⟩ := Pl.exp_head hp hE
      have hexl : ex.data.toList = a0 :: t0 := HEX.out.trans hat
      have hex0 : ex.toList.isEmpty = false := by rw [toList_d, hexl]; rfl
      have hexs : 0 < ex.size := by rw [← size_list, hexl]; simp
      have ha0 : ex[0] = a0 := by obtain ⟨t, ht⟩ := head_of ex hexs; rw [hexl] at ht; exact (List.cons.inj ht).1.symm
      have hneq : ((ex[0].toNat : Int) == 45) = decide (p.sg = [45]) := by rw [ha0]; exact ha45
      have HXL := hide (Pl.trim_sg hp)
      clear hat ha45 hexl ha0
      cases hm45 : decide (p.sg = [45])
      · rw [hm45] at hneq
        go_wp2_with fail
        refine (trims_ex _ _).mono ?_
        rintro e w4 ⟨xx, rfl, HX0, hxx, hb4⟩
        have HX : Hid (xx.data.toList = p.X) := (by rw [HX0.out, HEX.out, HXL.out] : _ = _)
        have FR2 := (FR1.drewN (nq + nq2)).later hb4
        clear FR1 HX0 HXL hb4
        go_wp2_with fail
        go_loopw [10] (fun n w' => ∃ pos : Nat, pos ≤ xx.size ∧ w' = w4.iter xx pos ∧ n = .int .i64 (Pl.sat (xx.data.toList.take pos))) (fun _ w' => xx.size - w'.iterPos w4.heap.size)
        case atStart => exact ⟨0, Nat.zero_le _, rfl, rfl⟩
        case round =>
          obtain ⟨pos, hpos, rfl, rfl⟩ := hrel
          obtain ⟨hs1, hs2⟩ := sat_at HX hp.xd pos
          by_cases hlt : pos < xx.size
          · obtain ⟨hb1, hb2⟩ := dig_at HX hp.xd pos hlt
            have hnx : ∀ ty, (Instr.next (.pointer (some ⟨w4.heap.size, 0, none⟩)) true ty).run Tryd.prog (w4.iter xx pos) = _ := fun ty => run_next_ascii w4 xx pos ty hlt (by omega)
            go_wp2
            go_roundw
            case rel => exact ⟨pos + 1, by omega, rfl, sat_step pos hlt⟩
            case measure => simp; omega
          · have hnx : ∀ ty, (Instr.next (.pointer (some ⟨w4.heap.size, 0, none⟩)) true ty).run Tryd.prog (w4.iter xx pos) = _ := fun ty => run_next_end w4 xx pos ty hlt
            have FR := FR2.iter xx pos
            clear FR2
            have HE : Hid (p.e = (if decide (p.sg = [45]) = true then -Pl.sat (xx.data.toList.take pos) else Pl.sat (xx.data.toList.take pos))) := (by rw [sat_all xx pos hlt, HX.out]; unfold Pl.Parts.e; simp : _ = _)
            rw [hm45] at HE
            have HE2 : Hid (p.e = Pl.sat (xx.data.toList.take pos)) := (HE.out : _ = _)
            have hEb : -9007199254740992 ≤ Pl.sat (xx.data.toList.take pos) ∧ Pl.sat (xx.data.toList.take pos) ≤ 9007199254740992 := by omega
            go_wp2_with fail
            generalize hj : wh ++ ({ data := #[] } : ByteArray) = j
            have hjl : j.data.toList = p.M := by rw [← hj, data_app, HWH.out, HFR.out]; rfl
            have hjs : j.size ≤ 4194304 := by rw [← size_list, ← hj, data_app]; simp; omega
            clear hj
            have HJ := hide hjl
            clear hjl
            refine (triml_ex _ _).mono ?_
            rintro e w5 ⟨al, rfl, HAL, hal, rfl⟩
            go_wp2_with fail
            refine (trimr_ex _ _ (by omega)).mono ?_
            rintro e w5 ⟨dd, rfl, HDD, hdd, rfl⟩
            have HA2 : Hid (al.data.toList = Pl.trL p.M) := (HAL.out.trans (congrArg Pl.trL HJ.out) : _ = _)
            have HD2 : Hid (dd.data.toList = Pl.trR (Pl.trL p.M)) := (HDD.out.trans (congrArg Pl.trR HA2.out) : _ = _)
            obtain ⟨frb, frz, r0, r1, r2, c0, c1, c2, f0, f1⟩ := FR
            have hlA : ((Pl.trL p.M).length : Int) = (al.size : Int) := by rw [← HA2.out, size_list]
            have hlF : (p.F.length : Int) = 0 := by rw [← HFR.out]; rfl
            have HV : Hid ((al.size : Int) - 0 + Pl.sat (xx.data.toList.take pos) = ((Pl.trL p.M).length : Int) - (p.F.length : Int) + p.e) := (by rw [hlA, hlF, HE2.out] : _ = _)
            clear hlA hlF
            have hfs : (0 : Int) ≤ 0 ∧ 0 ≤ 4194304 := by omega
            cases he5 : dd.toList.isEmpty
            · have HRS := hide ((Pl.res_some (by rw [← HD2.out, ← toList_d]; exact he5)).trans (by rw [hneg]; rfl : _ = (⟨-1, Pl.trR (Pl.trL p.M), ((Pl.trL p.M).length : Int) - (p.F.length : Int) + p.e⟩ : Pl.Res)))
              go_wp2
              exact bodyPost_ret (v := .agg #[.int .i64 (-1), .string dd, .int .i64 ((al.size : Int) - 0 + Pl.sat (xx.data.toList.take pos))]) (by simp [results, Tryd.results13, go_sem, r0, r1, r2, c0, c1, c2, f0, f1, frz]) rfl ⟨ret_some HRS.out HD2.out HV.out, (((((frb).setCell (by simp) _).setCell (by simp) _).setCell (by simp) _).setCell (by simp) _).setCell (by simp) _⟩
            · have HRZ := hide (Pl.res_zero (p := p) (by rw [← HD2.out, ← toList_d]; exact he5))
              go_wp2
              exact bodyPost_ret (v := .agg #[.int .i64 0, .string ⟨#[]⟩, .int .i64 0]) (by simp [results, Tryd.results13, go_sem, r0, r1, r2, c0, c1, c2, f0, f1, frz]) rfl ⟨ret_zero HRZ.out, ((((frb).setCell (by simp) _).setCell (by simp) _).setCell (by simp) _).setCell (by simp) _⟩
      · rw [hm45] at hneq
        go_wp2_with fail
        refine (trims_ex _ _).mono ?_
        rintro e w4 ⟨xx, rfl, HX0, hxx, hb4⟩
        have HX : Hid (xx.data.toList = p.X) := (by rw [HX0.out, HEX.out, HXL.out] : _ = _)
        have FR2 := (FR1.drewN (nq + nq2)).later hb4
        clear FR1 HX0 HXL hb4
        go_wp2_with fail
        go_loopw [10] (fun n w' => ∃ pos : Nat, pos ≤ xx.size ∧ w' = w4.iter xx pos ∧ n = .int .i64 (Pl.sat (xx.data.toList.take pos))) (fun _ w' => xx.size - w'.iterPos w4.heap.size)
        case atStart => exact ⟨0, Nat.zero_le _, rfl, rfl⟩
        case round =>
          obtain ⟨pos, hpos, rfl, rfl⟩ := hrel
          obtain ⟨hs1, hs2⟩ := sat_at HX hp.xd pos
          by_cases hlt : pos < xx.size
          · obtain ⟨hb1, hb2⟩ := dig_at HX hp.xd pos hlt
            have hnx : ∀ ty, (Instr.next (.pointer (some ⟨w4.heap.size, 0, none⟩)) true ty).run Tryd.prog (w4.iter xx pos) = _ := fun ty => run_next_ascii w4 xx pos ty hlt (by omega)
            go_wp2
            go_roundw
            case rel => exact ⟨pos + 1, by omega, rfl, sat_step pos hlt⟩
            case measure => simp; omega
          · have hnx : ∀ ty, (Instr.next (.pointer (some ⟨w4.heap.size, 0, none⟩)) true ty).run Tryd.prog (w4.iter xx pos) = _ := fun ty => run_next_end w4 xx pos ty hlt
            have FR := FR2.iter xx pos
            clear FR2
            have HE : Hid (p.e = (if decide (p.sg = [45]) = true then -Pl.sat (xx.data.toList.take pos) else Pl.sat (xx.data.toList.take pos))) := (by rw [sat_all xx pos hlt, HX.out]; unfold Pl.Parts.e; simp : _ = _)
            rw [hm45] at HE
            have HE2 : Hid (p.e = (-Pl.sat (xx.data.toList.take pos))) := (HE.out : _ = _)
            have hEb : -9007199254740992 ≤ (-Pl.sat (xx.data.toList.take pos)) ∧ (-Pl.sat (xx.data.toList.take pos)) ≤ 9007199254740992 := by omega
            go_wp2_with fail
            generalize hj : wh ++ ({ data := #[] } : ByteArray) = j
            have hjl : j.data.toList = p.M := by rw [← hj, data_app, HWH.out, HFR.out]; rfl
            have hjs : j.size ≤ 4194304 := by rw [← size_list, ← hj, data_app]; simp; omega
            clear hj
            have HJ := hide hjl
            clear hjl
            refine (triml_ex _ _).mono ?_
            rintro e w5 ⟨al, rfl, HAL, hal, rfl⟩
            go_wp2_with fail
            refine (trimr_ex _ _ (by omega)).mono ?_
            rintro e w5 ⟨dd, rfl, HDD, hdd, rfl⟩
            have HA2 : Hid (al.data.toList = Pl.trL p.M) := (HAL.out.trans (congrArg Pl.trL HJ.out) : _ = _)
            have HD2 : Hid (dd.data.toList = Pl.trR (Pl.trL p.M)) := (HDD.out.trans (congrArg Pl.trR HA2.out) : _ = _)
            obtain ⟨frb, frz, r0, r1, r2, c0, c1, c2, f0, f1⟩ := FR
            have hlA : ((Pl.trL p.M).length : Int) = (al.size : Int) := by rw [← HA2.out, size_list]
            have hlF : (p.F.length : Int) = 0 := by rw [← HFR.out]; rfl
            have HV : Hid ((al.size : Int) - 0 + (-Pl.sat (xx.data.toList.take pos)) = ((Pl.trL p.M).length : Int) - (p.F.length : Int) + p.e) := (by rw [hlA, hlF, HE2.out] : _ = _)
            clear hlA hlF
            have hfs : (0 : Int) ≤ 0 ∧ 0 ≤ 4194304 := by omega
            cases he5 : dd.toList.isEmpty
            · have HRS := hide ((Pl.res_some (by rw [← HD2.out, ← toList_d]; exact he5)).trans (by rw [hneg]; rfl : _ = (⟨-1, Pl.trR (Pl.trL p.M), ((Pl.trL p.M).length : Int) - (p.F.length : Int) + p.e⟩ : Pl.Res)))
              go_wp2
              exact bodyPost_ret (v := .agg #[.int .i64 (-1), .string dd, .int .i64 ((al.size : Int) - 0 + (-Pl.sat (xx.data.toList.take pos)))]) (by simp [results, Tryd.results13, go_sem, r0, r1, r2, c0, c1, c2, f0, f1, frz]) rfl ⟨ret_some HRS.out HD2.out HV.out, (((((frb).setCell (by simp) _).setCell (by simp) _).setCell (by simp) _).setCell (by simp) _).setCell (by simp) _⟩
            · have HRZ := hide (Pl.res_zero (p := p) (by rw [← HD2.out, ← toList_d]; exact he5))
              go_wp2
              exact bodyPost_ret (v := .agg #[.int .i64 0, .string ⟨#[]⟩, .int .i64 0]) (by simp [results, Tryd.results13, go_sem, r0, r1, r2, c0, c1, c2, f0, f1, frz]) rfl ⟨ret_zero HRZ.out, ((((frb).setCell (by simp) _).setCell (by simp) _).setCell (by simp) _).setCell (by simp) _⟩

    · have hma : ma.data.toList = p.W ++ 46 :: p.F := by rw [HMA.out]; unfold Pl.Parts.fp; rw [hF]; rfl
      have HMW := hide hma
      clear hma
      go_wp2_with fail
      refine (cut_yes _ _ p.W p.F HMW.out (fun x hx => Pl.dig_ne46 (hp.wd x hx)) (by omega) _).mono ?_
      rintro e w4 ⟨wh, fr, rfl, HWH, HFR, hws, hfs, nq2, rfl⟩
      clear HMW HMA
      obtain ⟨a0, t0, hat, ha45⟩ := Pl.exp_head hp hE
      have hexl : ex.data.toList = a0 :: t0 := HEX.out.trans hat
      have hex0 : ex.toList.isEmpty = false := by rw [toList_d, hexl]; rfl
      have hexs : 0 < ex.size := by rw [← size_list, hexl]; simp
      have ha0 : ex[0] = a0 := by obtain ⟨t, ht⟩ := head_of ex hexs; rw [hexl] at ht; exact (List.cons.inj ht).1.symm
      have hneq : ((ex[0].toNat : Int) == 45) = decide (p.sg = [45]) := by rw [ha0]; exact ha45
      have HXL := hide (Pl.trim_sg hp)
      clear hat ha45 hexl ha0
      cases hm45 : decide (p.sg = [45])
      · rw [hm45] at hneq
        go_wp2_with fail
        refine (trims_ex _ _).mono ?_
        rintro e w4 ⟨xx, rfl, HX0, hxx, hb4⟩
        have HX : Hid (xx.data.toList = p.X) := (by rw [HX0.out, HEX.out, HXL.out] : _ = _)
        have FR2 := (FR1.drewN (nq + nq2)).later hb4
        clear FR1 HX0 HXL hb4
        go_wp2_with fail
        go_loopw [10] (fun n w' => ∃ pos : Nat, pos ≤ xx.size ∧ w' = w4.iter xx pos ∧ n = .int .i64 (Pl.sat (xx.data.toList.take pos))) (fun _ w' => xx.size - w'.iterPos w4.heap.size)
        case atStart => exact ⟨0, Nat.zero_le _, rfl, rfl⟩
        case round =>
          obtain ⟨pos, hpos, rfl, rfl⟩ := hrel
          obtain ⟨hs1, hs2⟩ := sat_at HX hp.xd pos
          by_cases hlt : pos < xx.size
          · obtain ⟨hb1, hb2⟩ := dig_at HX hp.xd pos hlt
            have hnx : ∀ ty, (Instr.next (.pointer (some ⟨w4.heap.size, 0, none⟩)) true ty).run Tryd.prog (w4.iter xx pos) = _ := fun ty => run_next_ascii w4 xx pos ty hlt (by omega)
            go_wp2
            go_roundw
            case rel => exact ⟨pos + 1, by omega, rfl, sat_step pos hlt⟩
            case measure => simp; omega
          · have hnx : ∀ ty, (Instr.next (.pointer (some ⟨w4.heap.size, 0, none⟩)) true ty).run Tryd.prog (w4.iter xx pos) = _ := fun ty => run_next_end w4 xx pos ty hlt
            have FR := FR2.iter xx pos
            clear FR2
            have HE : Hid (p.e = (if decide (p.sg = [45]) = true then -Pl.sat (xx.data.toList.take pos) else Pl.sat (xx.data.toList.take pos))) := (by rw [sat_all xx pos hlt, HX.out]; unfold Pl.Parts.e; simp : _ = _)
            rw [hm45] at HE
            have HE2 : Hid (p.e = Pl.sat (xx.data.toList.take pos)) := (HE.out : _ = _)
            have hEb : -9007199254740992 ≤ Pl.sat (xx.data.toList.take pos) ∧ Pl.sat (xx.data.toList.take pos) ≤ 9007199254740992 := by omega
            go_wp2_with fail
            generalize hj : wh ++ fr = j
            have hjl : j.data.toList = p.M := by rw [← hj, data_app, HWH.out, HFR.out]; rfl
            have hjs : j.size ≤ 4194304 := by rw [← size_list, ← hj, data_app]; simp; omega
            clear hj
            have HJ := hide hjl
            clear hjl
            refine (triml_ex _ _).mono ?_
            rintro e w5 ⟨al, rfl, HAL, hal, rfl⟩
            go_wp2_with fail
            refine (trimr_ex _ _ (by omega)).mono ?_
            rintro e w5 ⟨dd, rfl, HDD, hdd, rfl⟩
            have HA2 : Hid (al.data.toList = Pl.trL p.M) := (HAL.out.trans (congrArg Pl.trL HJ.out) : _ = _)
            have HD2 : Hid (dd.data.toList = Pl.trR (Pl.trL p.M)) := (HDD.out.trans (congrArg Pl.trR HA2.out) : _ = _)
            obtain ⟨frb, frz, r0, r1, r2, c0, c1, c2, f0, f1⟩ := FR
            have hlA : ((Pl.trL p.M).length : Int) = (al.size : Int) := by rw [← HA2.out, size_list]
            have hlF : (p.F.length : Int) = (fr.size : Int) := by rw [← HFR.out]; rw [size_list]
            have HV : Hid ((al.size : Int) - (fr.size : Int) + Pl.sat (xx.data.toList.take pos) = ((Pl.trL p.M).length : Int) - (p.F.length : Int) + p.e) := (by rw [hlA, hlF, HE2.out] : _ = _)
            clear hlA hlF
            have hfs : (0 : Int) ≤ (fr.size : Int) ∧ (fr.size : Int) ≤ 4194304 := by omega
            cases he5 : dd.toList.isEmpty
            · have HRS := hide ((Pl.res_some (by rw [← HD2.out, ← toList_d]; exact he5)).trans (by rw [hneg]; rfl : _ = (⟨-1, Pl.trR (Pl.trL p.M), ((Pl.trL p.M).length : Int) - (p.F.length : Int) + p.e⟩ : Pl.Res)))
              go_wp2
              exact bodyPost_ret (v := .agg #[.int .i64 (-1), .string dd, .int .i64 ((al.size : Int) - (fr.size : Int) + Pl.sat (xx.data.toList.take pos))]) (by simp [results, Tryd.results13, go_sem, r0, r1, r2, c0, c1, c2, f0, f1, frz]) rfl ⟨ret_some HRS.out HD2.out HV.out, (((((frb).setCell (by simp) _).setCell (by simp) _).setCell (by simp) _).setCell (by simp) _).setCell (by simp) _⟩
            · have HRZ := hide (Pl.res_zero (p := p) (by rw [← HD2.out, ← toList_d]; exact he5))
              go_wp2
              exact bodyPost_ret (v := .agg #[.int .i64 0, .string ⟨#[]⟩, .int .i64 0]) (by simp [results, Tryd.results13, go_sem, r0, r1, r2, c0, c1, c2, f0, f1, frz]) rfl ⟨ret_zero HRZ.out, ((((frb).setCell (by simp) _).setCell (by simp) _).setCell (by simp) _).setCell (by simp) _⟩
      · rw [hm45] at hneq
        go_wp2_with fail
        refine (trims_ex _ _).mono ?_
        rintro e w4 ⟨xx, rfl, HX0, hxx, hb4⟩
        have HX : Hid (xx.data.toList = p.X) := (by rw [HX0.out, HEX.out, HXL.out] : _ = _)
        have FR2 := (FR1.drewN (nq + nq2)).later hb4
        clear FR1 HX0 HXL hb4
        go_wp2_with fail
        go_loopw [10] (fun n w' => ∃ pos : Nat, pos ≤ xx.size ∧ w' = w4.iter xx pos ∧ n = .int .i64 (Pl.sat (xx.data.toList.take pos))) (fun _ w' => xx.size - w'.iterPos w4.heap.size)
        case atStart => exact ⟨0, Nat.zero_le _, rfl, rfl⟩
        case round =>
          obtain ⟨pos, hpos, rfl, rfl⟩ := hrel
          obtain ⟨hs1, hs2⟩ := sat_at HX hp.xd pos
          by_cases hlt : pos < xx.size
          · obtain ⟨hb1, hb2⟩ := dig_at HX hp.xd pos hlt
            have hnx : ∀ ty, (Instr.next (.pointer (some ⟨w4.heap.size, 0, none⟩)) true ty).run Tryd.prog (w4.iter xx pos) = _ := fun ty => run_next_ascii w4 xx pos ty hlt (by omega)
            go_wp2
            go_roundw
            case rel => exact ⟨pos + 1, by omega, rfl, sat_step pos hlt⟩
            case measure => simp; omega
          · have hnx : ∀ ty, (Instr.next (.pointer (some ⟨w4.heap.size, 0, none⟩)) true ty).run Tryd.prog (w4.iter xx pos) = _ := fun ty => run_next_end w4 xx pos ty hlt
            have FR := FR2.iter xx pos
            clear FR2
            have HE : Hid (p.e = (if decide (p.sg = [45]) = true then -Pl.sat (xx.data.toList.take pos) else Pl.sat (xx.data.toList.take pos))) := (by rw [sat_all xx pos hlt, HX.out]; unfold Pl.Parts.e; simp : _ = _)
            rw [hm45] at HE
            have HE2 : Hid (p.e = (-Pl.sat (xx.data.toList.take pos))) := (HE.out : _ = _)
            have hEb : -9007199254740992 ≤ (-Pl.sat (xx.data.toList.take pos)) ∧ (-Pl.sat (xx.data.toList.take pos)) ≤ 9007199254740992 := by omega
            go_wp2_with fail
            generalize hj : wh ++ fr = j
            have hjl : j.data.toList = p.M := by rw [← hj, data_app, HWH.out, HFR.out]; rfl
            have hjs : j.size ≤ 4194304 := by rw [← size_list, ← hj, data_app]; simp; omega
            clear hj
            have HJ := hide hjl
            clear hjl
            refine (triml_ex _ _).mono ?_
            rintro e w5 ⟨al, rfl, HAL, hal, rfl⟩
            go_wp2_with fail
            refine (trimr_ex _ _ (by omega)).mono ?_
            rintro e w5 ⟨dd, rfl, HDD, hdd, rfl⟩
            have HA2 : Hid (al.data.toList = Pl.trL p.M) := (HAL.out.trans (congrArg Pl.trL HJ.out) : _ = _)
            have HD2 : Hid (dd.data.toList = Pl.trR (Pl.trL p.M)) := (HDD.out.trans (congrArg Pl.trR HA2.out) : _ = _)
            obtain ⟨frb, frz, r0, r1, r2, c0, c1, c2, f0, f1⟩ := FR
            have hlA : ((Pl.trL p.M).length : Int) = (al.size : Int) := by rw [← HA2.out, size_list]
            have hlF : (p.F.length : Int) = (fr.size : Int) := by rw [← HFR.out]; rw [size_list]
            have HV : Hid ((al.size : Int) - (fr.size : Int) + (-Pl.sat (xx.data.toList.take pos)) = ((Pl.trL p.M).length : Int) - (p.F.length : Int) + p.e) := (by rw [hlA, hlF, HE2.out] : _ = _)
            clear hlA hlF
            have hfs : (0 : Int) ≤ (fr.size : Int) ∧ (fr.size : Int) ≤ 4194304 := by omega
            cases he5 : dd.toList.isEmpty
            · have HRS := hide ((Pl.res_some (by rw [← HD2.out, ← toList_d]; exact he5)).trans (by rw [hneg]; rfl : _ = (⟨-1, Pl.trR (Pl.trL p.M), ((Pl.trL p.M).length : Int) - (p.F.length : Int) + p.e⟩ : Pl.Res)))
              go_wp2
              exact bodyPost_ret (v := .agg #[.int .i64 (-1), .string dd, .int .i64 ((al.size : Int) - (fr.size : Int) + (-Pl.sat (xx.data.toList.take pos)))]) (by simp [results, Tryd.results13, go_sem, r0, r1, r2, c0, c1, c2, f0, f1, frz]) rfl ⟨ret_some HRS.out HD2.out HV.out, (((((frb).setCell (by simp) _).setCell (by simp) _).setCell (by simp) _).setCell (by simp) _).setCell (by simp) _⟩
            · have HRZ := hide (Pl.res_zero (p := p) (by rw [← HD2.out, ← toList_d]; exact he5))
              go_wp2
              exact bodyPost_ret (v := .agg #[.int .i64 0, .string ⟨#[]⟩, .int .i64 0]) (by simp [results, Tryd.results13, go_sem, r0, r1, r2, c0, c1, c2, f0, f1, frz]) rfl ⟨ret_zero HRZ.out, ((((frb).setCell (by simp) _).setCell (by simp) _).setCell (by simp) _).setCell (by simp) _⟩


theorem pd_any (p : Pl.Parts) (hp : p.Ok) (s : ByteArray) (hl : s.data.toList = p.text) (hs : s.size ≤ 1048576) (w : World) :
    Calls Tryd.prog 13 #[.string s] w fun e w' => e = .returned (resV p.res) ∧ Below w.heap.size w w' := by
  obtain ⟨a, t, hW⟩ : ∃ a t, p.W = a :: t := by
    cases e : p.W with
    | nil => exact absurd e hp.w0
    | cons a t => exact ⟨a, t, rfl⟩
  have h0 : 0 < s.size := by
    rw [← size_list, hl]; unfold Pl.Parts.text; rw [hW]; simp; omega
  obtain ⟨t0, ht⟩ := head_of s h0
  cases hn : p.neg
  · have hl2 : s.data.toList = p.W ++ (p.fp ++ p.ep) := by rw [hl]; unfold Pl.Parts.text Pl.Parts.sn; rw [hn]; rfl
    have ha : s[0] = a := by rw [hl2, hW] at ht; exact (List.cons.inj ht).1.symm
    have hd := Pl.isD_b (hp.wd a (by rw [hW]; exact List.mem_cons_self ..))
    exact pd_false p hp s s hn hs h0 (by rw [ha]; simp; omega) (hide rfl) hl2 hs w
  · have hl2 : s.data.toList = 45 :: (p.W ++ (p.fp ++ p.ep)) := by rw [hl]; unfold Pl.Parts.text Pl.Parts.sn; rw [hn]; rfl
    have ha : s[0] = 45 := by rw [hl2] at ht; exact (List.cons.inj ht).1.symm
    exact pd_true p hp s (s.extract 1 s.size) hn hs h0 (by rw [ha]; rfl) (hide rfl) (show _ = _ by rw [ext_drop, hl2]; rfl) (by simp; omega) w

end Pd
end Go.Proofs.Qxb6603262aDoor
