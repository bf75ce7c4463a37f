/-
  zzCloneBytes.
-/
import Derived.Test.Qxb6603514aDoorMa
import Derived.Deep.OwnRows
import Derived.Deep.RegionWith
namespace Go.Proofs.Qxb6603514aDoor
open Go.RowKit
def cp (tl : List UInt8) (k i : Nat) : Value := if i < k then bv (tl.getD i 0) else .int .u8 0
theorem cp_step {w : World} {B n k : Nat} {tl : List UInt8} {c : UInt8} (h : w.rowIs B 5 n (cp tl k)) (hk : k < tl.length) (hc : c = tl[k]) : (w.setCell ⟨B, k, none⟩ (.int .u8 c.toNat)).rowIs B 5 n (cp tl (k + 1)) := by
  refine (h.set k _).congr fun i _ => ?_
  unfold cp
  by_cases e : i = k
  · subst e
    rw [if_pos rfl, if_pos (by omega), hc]
    simp [bv, List.getD, List.getElem?_eq_getElem hk]
  · rw [if_neg e]
    by_cases h1 : i < k
    · rw [if_pos h1, if_pos (by omega)]
    · rw [if_neg h1, if_neg (by omega)]
theorem cp_txt {w : World} {B n k : Nat} {tl : List UInt8} (h : w.rowIs B 5 n (cp tl k)) (hn : tl.length ≤ n) (hk : tl.length ≤ k) : Txt w (some ⟨B, 0, none⟩) tl := fun _ =>
  ⟨B, 0, rfl, h.lt, fun j hj => by
    rw [Nat.zero_add, h.cell (Nat.lt_of_lt_of_le hj hn)]
    unfold cp
    rw [if_pos (by omega)]
    simp [bv, List.getD, List.getElem?_eq_getElem hj]⟩
set_option maxHeartbeats 2000000 in
theorem clone18 (w : World) (ao : Option Addr) (tc : Nat) (tl : List UInt8) (hT : Txt w ao tl) (htl : tl.length ≤ 1048576) :
    Calls Tryd.prog 18 #[.slice ao tl.length tc] w fun e w' => Hid (∃ ao' c', e = .returned (.slice ao' tl.length c') ∧ Txt w' ao' tl ∧ Own w ao' ∧ Old w w' ∧ tl.length ≤ c') := by
  have HT := hide hT
  clear hT
  cases ao with
  | none =>
    have hz : tl.length = 0 := by
      rcases Nat.eq_zero_or_pos tl.length with h | h
      · exact h
      · obtain ⟨_, _, h, _⟩ := HT.out h; cases h
    have HZ := hide hz
    rw [hz]
    clear hz
    have hnil := fun w => Lib.run_eql_slice_nil (P := Tryd.prog) w 25 5 none 0 tc 0 0 Tryd.underlying25
    go_enter Tryd.func18, Tryd.ntmps18
    go_wp2_with fail
    go_ret
    exact hide ⟨none, 0, rfl, fun h => by rw [HZ.out] at h; omega, fun _ h => (by cases h), Old.refl _, by have := HZ.out; omega⟩
  | some a =>
    obtain ⟨n, hn⟩ : ∃ n, n = tl.length := ⟨_, rfl⟩
    rw [← hn] at htl ⊢
    have HN := hide hn
    clear hn
    have hnil := fun w => Lib.run_eql_slice_nil (P := Tryd.prog) w 25 5 (some a) n tc 0 0 Tryd.underlying25
    have hmk := run_make_row' (P := Tryd.prog) 25 5 (.int .u8 0) 1 Tryd.underlying25 info5 rfl .i64 .i64 n (by omega) (by omega)
    go_enter Tryd.func18, Tryd.ntmps18
    go_wp2_with fail
    clear hnil hmk
    go_loopg [4] n (fun g c4 wx => ∃ (k : Nat), k + g = n ∧ c4 = .int .i64 k ∧ Hid (wx.rowIs w.heap.size 5 n (cp tl k)) ∧ Hid (Old w wx))
    case atStart => exact ⟨0, by omega, rfl, World.rowIs_made w _ n 5, (Old.refl w).alloc _⟩
    case round =>
      obtain ⟨k, hkg, rfl, HR, HO⟩ := hrel
      by_cases hk : k < n
      · have hk2 : k < tl.length := by rw [← HN.out]; exact hk
        obtain ⟨b, o, rfl, hb, hcs⟩ : ∃ b o, a = ⟨b, o, none⟩ ∧ b < w.heap.size ∧ ∀ j (hj : j < tl.length), w.cell? ⟨b, o + j, none⟩ = some (.int .u8 tl[j].toNat) := by
          obtain ⟨b, o, e, r⟩ := HT.out (by omega)
          exact ⟨b, o, Option.some.inj e, r⟩
        obtain ⟨c, hc⟩ : ∃ c, c = tl[k] := ⟨_, rfl⟩
        have hcell : wr.cell? ⟨b, o + k, none⟩ = some (.int .u8 c.toNat) := by rw [hc]; exact HO.out.cell (hcs k hk2)
        have hcell2 : wr.cell? ⟨w.heap.size, k, none⟩ = some (.int .u8 0) := by rw [HR.out.cell hk]; simp [cp]
        have hfz : wr.frozen? ⟨w.heap.size, k, none⟩ = false := HR.out.frozen k
        have Hc := hide hc
        clear hc hcs hb
        go_wp2_with fail
        go_roundg (n - (k + 1))
        case measure => omega
        case rel => exact ⟨k + 1, by omega, rfl, cp_step HR.out hk2 Hc.out, HO.out.setCell (Nat.le_refl _) _⟩
      · go_wp2_with fail
        go_ret
        exact hide ⟨some ⟨w.heap.size, 0, none⟩, n, rfl, cp_txt HR.out (by rw [HN.out]; exact Nat.le_refl _) (by have := HN.out; omega), fun j h => by cases h; exact Nat.le_refl _, HO.out, by have := HN.out; omega⟩
end Go.Proofs.Qxb6603514aDoor
