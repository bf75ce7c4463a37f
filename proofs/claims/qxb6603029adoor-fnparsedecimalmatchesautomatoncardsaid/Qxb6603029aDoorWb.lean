import Derived.Test.Qxb6603029aDoorWa
import Derived.Test.Qxb6603029aDoorPlainb
namespace Go.Proofs.Qxb6603029aDoor
open Go.RowKit

theorem extract_list (s : ByteArray) (a b : Nat) : (s.extract a b).data.toList = (s.data.toList.drop a).take (b - a) := by
  obtain ⟨⟨l⟩⟩ := s
  rw [ByteArray.extract_mk]
theorem size_list (s : ByteArray) : s.data.toList.length = s.size := by
  simp only [Array.length_toList]; rfl
theorem lead_dg (s : ByteArray) : (s.extract 0 (nd s)).data.toList = Pl.dg s.data.toList := by
  rw [extract_list]; simpa [nd] using Pl.dg_take s.data.toList
theorem lead_rs (s : ByteArray) : (s.extract (nd s) s.size).data.toList = Pl.rs s.data.toList := by
  rw [extract_list, List.take_of_length_le]
  · exact Pl.dg_drop s.data.toList
  · rw [List.length_drop, size_list]; exact Nat.le_refl _
theorem extract_tail (s : ByteArray) : (s.extract 1 s.size).data.toList = s.data.toList.tail := by
  rw [extract_list, List.take_of_length_le]
  · simp
  · rw [List.length_drop, size_list]; exact Nat.le_refl _
theorem mk_list (b : ByteArray) (l : List UInt8) (h : b.data.toList = l) : b = ⟨l.toArray⟩ := by
  obtain ⟨⟨x⟩⟩ := b; subst h; rfl
theorem toList_d (b : ByteArray) : b.toList = b.data.toList := ByteArray.toList_eq b

/-- leadingDigits, its two results by what they read as. -/
theorem leading_ex (s : ByteArray) (w : World) (hs : s.size ≤ 4194304) :
    Calls Tryd.prog 24 #[.string s] w fun e w' => ∃ d r : ByteArray, e = .returned (.tuple #[.string d, .string r]) ∧ Hid (d.data.toList = Pl.dg s.data.toList) ∧ Hid (r.data.toList = Pl.rs s.data.toList) ∧ d.size ≤ s.size ∧ r.size ≤ s.size ∧ Hid (w' = w.drew) := by
  refine (leading_any s w hs).mono fun e w' ⟨he, hw⟩ => ?_
  refine ⟨_, _, he, lead_dg s, lead_rs s, ?_, ?_, hw⟩
  · rw [← size_list, lead_dg, ← size_list]; exact Pl.dg_len _
  · rw [← size_list, lead_rs, ← size_list]
    have h := congrArg List.length (Pl.dg_append s.data.toList); simp at h; simp; omega

theorem below_iter {w w1 : World} (h : Hid (w1 = w.drew)) (d : ByteArray) (pos : Nat) : Below w.heap.size w (w1.iter d pos) := by
  rw [h.out]; exact ((Below.refl _ _).drew).alloc (Nat.le_refl _) _
theorem below_drew {w w1 : World} (h : Hid (w1 = w.drew)) : Below w.heap.size w w1 := by
  rw [h.out]; exact (Below.refl _ _).drew

/-- A digit of a run of digits. -/
theorem dig_at {d : ByteArray} {l : List UInt8} (h : Hid (d.data.toList = Pl.dg l)) (k : Nat) (hk : k < d.size) : (48 : Int) ≤ (d[k].toNat : Int) ∧ (d[k].toNat : Int) ≤ 57 := by
  refine (isD_iff _).1 (Pl.dg_all l _ ?_)
  rw [← h.out]
  exact List.getElem_mem (l := d.data.toList) (by rw [size_list]; exact hk)
theorem sat_at {d : ByteArray} {l : List UInt8} (h : Hid (d.data.toList = Pl.dg l)) (k : Nat) : 0 ≤ Pl.sat (d.data.toList.take k) ∧ Pl.sat (d.data.toList.take k) ≤ 100000000 :=
  Pl.sat_bound _ fun c hc => Pl.dg_all l c (h.out ▸ List.mem_of_mem_take hc)
theorem sat_step {d : ByteArray} (k : Nat) (hk : k < d.size) :
    Value.int .i64 (if 100000000 < Pl.sat (d.data.toList.take k) * 10 + ((d[k].toNat : Int) - 48) then 100000000 else Pl.sat (d.data.toList.take k) * 10 + ((d[k].toNat : Int) - 48)) = .int .i64 (Pl.sat (d.data.toList.take (k + 1))) := by
  have e : Pl.sat (d.data.toList.take (k + 1)) = Pl.sat1 (Pl.sat (d.data.toList.take k)) d[k] := Pl.sat_take_succ d.data.toList k (by rw [size_list]; exact hk)
  rw [e]
  unfold Pl.sat1
  congr 1
  split <;> omega
theorem sat_all (d : ByteArray) (pos : Nat) (h : ¬ pos < d.size) : d.data.toList.take pos = d.data.toList := List.take_of_length_le (by rw [size_list]; omega)

/-- What parseExponent leaves: refused; or a value, the rest, and the loop's iterator in memory. -/
def PexpPost (l : List UInt8) (w : World) (e : Ending) (w' : World) : Prop :=
  (∃ r : ByteArray, e = .returned (.tuple #[.int .i64 0, .string r, .bool false]) ∧ Hid (Pl.pExpOk l = false) ∧ w' = w.drew) ∨
  (∃ (v : Int) (r d : ByteArray) (pos : Nat), e = .returned (.tuple #[.int .i64 v, .string r, .bool true]) ∧ Hid (Pl.pExpOk l = true) ∧ Hid (v = Pl.pExpV l) ∧ Hid (r.data.toList = Pl.pExpR l) ∧ -100000000 ≤ v ∧ v ≤ 100000000 ∧ r.size ≤ 4194304 ∧ w' = (w.alloc (.stringIter d pos)).drew)
theorem pexp_no {l : List UInt8} {b d : ByteArray} {w w1 : World} (hb : b.data.toList = Pl.eBody l) (hd : Hid (d.data.toList = Pl.dg b.data.toList)) (h0 : d.toList.isEmpty = true) (hw : Hid (w1 = w.drew)) :
    PexpPost l w (.returned (.tuple #[.int .i64 0, .string b, .bool false])) w1 := by
  have e : (Pl.dg (Pl.eBody l)).isEmpty = true := by rw [← hb, ← hd.out, ← toList_d]; exact h0
  exact Or.inl ⟨b, rfl, (show _ = _ by unfold Pl.pExpOk; rw [e]; rfl), hw.out⟩
theorem pexp_yes {l : List UInt8} {b d r : ByteArray} {v : Int} {w w1 : World} {pos : Nat} (hb : b.data.toList = Pl.eBody l) (hd : Hid (d.data.toList = Pl.dg b.data.toList)) (hr : Hid (r.data.toList = Pl.rs b.data.toList)) (h0 : d.toList.isEmpty = false) (hv : v = Pl.eSign l * Pl.sat d.data.toList) (hs : r.size ≤ 4194304) (hw : Hid (w1 = w.drew)) :
    PexpPost l w (.returned (.tuple #[.int .i64 v, .string r, .bool true])) (w1.iter d pos) := by
  have e : (Pl.dg (Pl.eBody l)).isEmpty = false := by rw [← hb, ← hd.out, ← toList_d]; exact h0
  have ev : v = Pl.pExpV l := by unfold Pl.pExpV; rw [e, hv, hd.out, hb]; rfl
  have hbd := Pl.pExpV_bound l
  refine Or.inr ⟨v, r, d, pos, rfl, (show _ = _ by unfold Pl.pExpOk; rw [e]; rfl), ev, (show _ = _ by unfold Pl.pExpR; rw [e, hr.out, hb]; rfl), by omega, by omega, hs, ?_⟩
  rw [hw.out]; rfl
theorem body_in {c : UInt8} {t : List UInt8} (h : c.toNat = 43 ∨ c.toNat = 45) : Pl.eBody (c :: t) = t := by simp [Pl.eBody, h]
theorem body_out {c : UInt8} {t : List UInt8} (h1 : ¬ c.toNat = 43) (h2 : ¬ c.toNat = 45) : Pl.eBody (c :: t) = c :: t := by simp [Pl.eBody, h1, h2]
theorem sign_p {c : UInt8} {t : List UInt8} (h : ¬ c.toNat = 45) : Pl.eSign (c :: t) = 1 := by simp [Pl.eSign, h]
theorem sign_m {c : UInt8} {t : List UInt8} (h : c.toNat = 45) : Pl.eSign (c :: t) = -1 := by simp [Pl.eSign, h]
theorem head_of (s : ByteArray) (hp : 0 < s.size) : ∃ t, s.data.toList = s[0] :: t := by
  obtain ⟨⟨l⟩⟩ := s
  cases l with
  | nil => simp [ByteArray.size] at hp
  | cons a t => exact ⟨t, rfl⟩

set_option maxHeartbeats 400000 in
theorem pexp_E (s : ByteArray) (w : World) (hs : s.size ≤ 4194304) (h0 : s.toList = []) (Hb : Hid (s.data.toList = Pl.eBody s.data.toList)) (Hs : Hid (Pl.eSign s.data.toList = 1)) :
    Calls Tryd.prog 21 #[.string s] w fun e w' => PexpPost s.data.toList w e w' := by
  go_enter Tryd.func21, Tryd.ntmps21
  go_wp2_with fail
  refine (leading_ex _ _ hs).mono ?_
  rintro e w1 ⟨d, r, rfl, HD, HR, hd, hr, HW⟩
  cases hd0 : d.toList.isEmpty
  · go_wp2
    go_loopw [2] (fun n w' => ∃ pos : Nat, pos ≤ d.size ∧ w' = w1.iter d pos ∧ n = .int .i64 (Pl.sat (d.data.toList.take pos))) (fun _ w' => d.size - w'.iterPos w1.heap.size)
    case atStart => exact ⟨0, Nat.zero_le _, rfl, rfl⟩
    case round =>
      obtain ⟨pos, hpos, rfl, rfl⟩ := hrel
      obtain ⟨hs1, hs2⟩ := sat_at HD pos
      by_cases hlt : pos < d.size
      · obtain ⟨hb1, hb2⟩ := dig_at HD pos hlt
        have hnx : ∀ ty, (Instr.next (.pointer (some ⟨w1.heap.size, 0, none⟩)) true ty).run Tryd.prog (w1.iter d pos) = _ := fun ty => run_next_ascii w1 d pos ty hlt (by omega)
        go_wp2
        go_roundw
        case rel => exact ⟨pos + 1, by omega, rfl, sat_step pos hlt⟩
        case measure => simp; omega
      · have hnx : ∀ ty, (Instr.next (.pointer (some ⟨w1.heap.size, 0, none⟩)) true ty).run Tryd.prog (w1.iter d pos) = _ := fun ty => run_next_end w1 d pos ty hlt
        go_wp2
        go_ret3
        exact pexp_yes Hb.out HD HR hd0 (by rw [Hs.out, sat_all d pos hlt]; omega) (by omega) HW
  · go_wp2
    go_ret3
    exact pexp_no Hb.out HD hd0 HW

set_option maxHeartbeats 400000 in
theorem pexp_P (s : ByteArray) (w : World) (hs : s.size ≤ 4194304) (hp : 0 < s.size) (hne : s.toList.isEmpty = false) (c43 : ((s[0].toNat : Int) == 43) = true) (c45 : ((s[0].toNat : Int) == 45) = false) (Hb : Hid ((s.extract 1 s.size).data.toList = Pl.eBody s.data.toList)) (Hs : Hid (Pl.eSign s.data.toList = 1)) :
    Calls Tryd.prog 21 #[.string s] w fun e w' => PexpPost s.data.toList w e w' := by
  go_enter Tryd.func21, Tryd.ntmps21
  go_wp2_with fail
  have hbs : (s.extract 1 s.size).size ≤ 4194304 := by simp; omega
  generalize s.extract 1 s.size = b at *
  refine (leading_ex _ _ hbs).mono ?_
  rintro e w1 ⟨d, r, rfl, HD, HR, hd, hr, HW⟩
  cases hd0 : d.toList.isEmpty
  · go_wp2
    go_loopw [2] (fun n w' => ∃ pos : Nat, pos ≤ d.size ∧ w' = w1.iter d pos ∧ n = .int .i64 (Pl.sat (d.data.toList.take pos))) (fun _ w' => d.size - w'.iterPos w1.heap.size)
    case atStart => exact ⟨0, Nat.zero_le _, rfl, rfl⟩
    case round =>
      obtain ⟨pos, hpos, rfl, rfl⟩ := hrel
      obtain ⟨hs1, hs2⟩ := sat_at HD pos
      by_cases hlt : pos < d.size
      · obtain ⟨hb1, hb2⟩ := dig_at HD pos hlt
        have hnx : ∀ ty, (Instr.next (.pointer (some ⟨w1.heap.size, 0, none⟩)) true ty).run Tryd.prog (w1.iter d pos) = _ := fun ty => run_next_ascii w1 d pos ty hlt (by omega)
        go_wp2
        go_roundw
        case rel => exact ⟨pos + 1, by omega, rfl, sat_step pos hlt⟩
        case measure => simp; omega
      · have hnx : ∀ ty, (Instr.next (.pointer (some ⟨w1.heap.size, 0, none⟩)) true ty).run Tryd.prog (w1.iter d pos) = _ := fun ty => run_next_end w1 d pos ty hlt
        go_wp2
        go_ret3
        exact pexp_yes Hb.out HD HR hd0 (by rw [Hs.out, sat_all d pos hlt]; omega) (by omega) HW
  · go_wp2
    go_ret3
    exact pexp_no Hb.out HD hd0 HW

set_option maxHeartbeats 400000 in
theorem pexp_M (s : ByteArray) (w : World) (hs : s.size ≤ 4194304) (hp : 0 < s.size) (hne : s.toList.isEmpty = false) (c43 : ((s[0].toNat : Int) == 43) = false) (c45 : ((s[0].toNat : Int) == 45) = true) (Hb : Hid ((s.extract 1 s.size).data.toList = Pl.eBody s.data.toList)) (Hs : Hid (Pl.eSign s.data.toList = -1)) :
    Calls Tryd.prog 21 #[.string s] w fun e w' => PexpPost s.data.toList w e w' := by
  go_enter Tryd.func21, Tryd.ntmps21
  go_wp2_with fail
  have hbs : (s.extract 1 s.size).size ≤ 4194304 := by simp; omega
  generalize s.extract 1 s.size = b at *
  refine (leading_ex _ _ hbs).mono ?_
  rintro e w1 ⟨d, r, rfl, HD, HR, hd, hr, HW⟩
  cases hd0 : d.toList.isEmpty
  · go_wp2
    go_loopw [2] (fun n w' => ∃ pos : Nat, pos ≤ d.size ∧ w' = w1.iter d pos ∧ n = .int .i64 (Pl.sat (d.data.toList.take pos))) (fun _ w' => d.size - w'.iterPos w1.heap.size)
    case atStart => exact ⟨0, Nat.zero_le _, rfl, rfl⟩
    case round =>
      obtain ⟨pos, hpos, rfl, rfl⟩ := hrel
      obtain ⟨hs1, hs2⟩ := sat_at HD pos
      by_cases hlt : pos < d.size
      · obtain ⟨hb1, hb2⟩ := dig_at HD pos hlt
        have hnx : ∀ ty, (Instr.next (.pointer (some ⟨w1.heap.size, 0, none⟩)) true ty).run Tryd.prog (w1.iter d pos) = _ := fun ty => run_next_ascii w1 d pos ty hlt (by omega)
        go_wp2
        go_roundw
        case rel => exact ⟨pos + 1, by omega, rfl, sat_step pos hlt⟩
        case measure => simp; omega
      · have hnx : ∀ ty, (Instr.next (.pointer (some ⟨w1.heap.size, 0, none⟩)) true ty).run Tryd.prog (w1.iter d pos) = _ := fun ty => run_next_end w1 d pos ty hlt
        go_wp2
        go_ret3
        exact pexp_yes Hb.out HD HR hd0 (by rw [Hs.out, sat_all d pos hlt]; omega) (by omega) HW
  · go_wp2
    go_ret3
    exact pexp_no Hb.out HD hd0 HW

set_option maxHeartbeats 400000 in
theorem pexp_O (s : ByteArray) (w : World) (hs : s.size ≤ 4194304) (hp : 0 < s.size) (hne : s.toList.isEmpty = false) (c43 : ((s[0].toNat : Int) == 43) = false) (c45 : ((s[0].toNat : Int) == 45) = false) (Hb : Hid (s.data.toList = Pl.eBody s.data.toList)) (Hs : Hid (Pl.eSign s.data.toList = 1)) :
    Calls Tryd.prog 21 #[.string s] w fun e w' => PexpPost s.data.toList w e w' := by
  go_enter Tryd.func21, Tryd.ntmps21
  go_wp2_with fail
  refine (leading_ex _ _ hs).mono ?_
  rintro e w1 ⟨d, r, rfl, HD, HR, hd, hr, HW⟩
  cases hd0 : d.toList.isEmpty
  · go_wp2
    go_loopw [2] (fun n w' => ∃ pos : Nat, pos ≤ d.size ∧ w' = w1.iter d pos ∧ n = .int .i64 (Pl.sat (d.data.toList.take pos))) (fun _ w' => d.size - w'.iterPos w1.heap.size)
    case atStart => exact ⟨0, Nat.zero_le _, rfl, rfl⟩
    case round =>
      obtain ⟨pos, hpos, rfl, rfl⟩ := hrel
      obtain ⟨hs1, hs2⟩ := sat_at HD pos
      by_cases hlt : pos < d.size
      · obtain ⟨hb1, hb2⟩ := dig_at HD pos hlt
        have hnx : ∀ ty, (Instr.next (.pointer (some ⟨w1.heap.size, 0, none⟩)) true ty).run Tryd.prog (w1.iter d pos) = _ := fun ty => run_next_ascii w1 d pos ty hlt (by omega)
        go_wp2
        go_roundw
        case rel => exact ⟨pos + 1, by omega, rfl, sat_step pos hlt⟩
        case measure => simp; omega
      · have hnx : ∀ ty, (Instr.next (.pointer (some ⟨w1.heap.size, 0, none⟩)) true ty).run Tryd.prog (w1.iter d pos) = _ := fun ty => run_next_end w1 d pos ty hlt
        go_wp2
        go_ret3
        exact pexp_yes Hb.out HD HR hd0 (by rw [Hs.out, sat_all d pos hlt]; omega) (by omega) HW
  · go_wp2
    go_ret3
    exact pexp_no Hb.out HD hd0 HW

theorem pexp_any (s : ByteArray) (w : World) (hs : s.size ≤ 4194304) :
    Calls Tryd.prog 21 #[.string s] w fun e w' => PexpPost s.data.toList w e w' := by
  by_cases hp : 0 < s.size
  · obtain ⟨t, ht⟩ := head_of s hp
    have hne : s.toList.isEmpty = false := by rw [toList_d, ht]; rfl
    have ht' : s.data.toList.tail = t := by rw [ht]; rfl
    by_cases c43 : (s[0].toNat : Int) = 43
    · exact pexp_P s w hs hp hne (by simp [c43]) (by simp [c43]) (show _ = _ by rw [extract_tail, ht', ht, body_in (by omega)]) (show _ = _ by rw [ht, sign_p (by omega)])
    · by_cases c45 : (s[0].toNat : Int) = 45
      · exact pexp_M s w hs hp hne (by simp [c45]) (by simp [c45]) (show _ = _ by rw [extract_tail, ht', ht, body_in (by omega)]) (show _ = _ by rw [ht, sign_m (by omega)])
      · exact pexp_O s w hs hp hne (by simp [c43]) (by simp [c45]) (show _ = _ by rw [ht, body_out (by omega) (by omega)]) (show _ = _ by rw [ht, sign_p (by omega)])
  · have h0 : s.data.toList = [] := List.length_eq_zero_iff.1 (by rw [size_list]; omega)
    exact pexp_E s w hs (by rw [toList_d]; exact h0) (by rw [h0]; rfl) (by rw [h0]; rfl)
end Go.Proofs.Qxb6603029aDoor
