/-
  Raw, ZZobjectBytes, zzBytesEq.
-/
import Derived.Test.Qxb6603514aDoorWe
namespace Go.Proofs.Qxb6603514aDoor
open Go.RowKit
/-- What a member is written as, behind what stands ahead of it. -/
def mem (s : ByteArray) (tl : List UInt8) : List UInt8 := Pl.quote s ++ [58] ++ Pl.val tl
theorem mem_len (s : ByteArray) (tl : List UInt8) (hs : s.size ≤ 1048576) (ht : tl.length ≤ 1048576) : (mem s tl).length ≤ 10000000 := by
  have := Pl.quote_len s
  have := Pl.val_len tl
  unfold mem
  simp only [List.length_append, List.length_cons, List.length_nil]
  omega
theorem obj12 (w : World) (Bo : Nat) (ao : Option Addr) (c : Nat) (l : List UInt8) (hW : Ow w Bo ao c l) :
    Calls Tryd.prog 12 #[.pointer (some ⟨Bo, 0, none⟩)] w fun e w' => e = .returned (.slice ao l.length c) ∧ w = w' := by
  have hc0 : w.cell? ⟨Bo, 0, none⟩ = some (.slice ao l.length c) := hW.box.cell (by omega)
  clear hW
  go_enter Tryd.func12, Tryd.ntmps12
  go_wp2_with fail
  go_ret
  exact ⟨rfl, rfl⟩
theorem comp20a (w : World) (ao : Option Addr) (cp : Nat) (l : List UInt8) (hB : Buf w ao cp l) (ta : Option Addr) (tc : Nat) (tl : List UInt8) (w0 : World) (hT : Txt w0 ta tl) (hO : Old w0 w) (hA : Own w0 ao) (htl : tl.length ≤ 1048576) (htc : tl.length ≤ tc) (hlen : l.length + tl.length ≤ 100000000000000) :
    Calls Tryd.prog 20 #[.slice ao l.length cp, .slice ta tl.length tc] w fun e w' => ∃ ao' c' l', e = .returned (.slice ao' l'.length c') ∧ l' = l ++ Pl.val tl ∧ Buf w' ao' c' l' ∧ Step w ao w' ao' := by
  rcases Nat.eq_zero_or_pos tl.length with h | h
  · have hv : Pl.val tl = [110, 117, 108, 108] := by unfold Pl.val; rw [if_pos h]
    rw [hv, h]
    exact null20 w ao cp l hB ta tc (by omega)
  · have hv : Pl.val tl = Pl.comp tl := by unfold Pl.val; rw [if_neg (by omega), Pl.comp_mach]
    rw [hv]
    obtain ⟨b, o, rfl, hb, hc⟩ := hT h
    exact comp20 w ao cp l hB b o tc tl htl h htc (Nat.lt_of_lt_of_le hb hO.size) (fun e => by have := hA b e; omega) (fun j hj => hO.cell (hc j hj)) hlen
theorem comp10a (w : World) (ao : Option Addr) (cp : Nat) (l : List UInt8) (hB : Buf w ao cp l) (ta : Option Addr) (tc : Nat) (tl : List UInt8) (w0 : World) (hT : Txt w0 ta tl) (hO : Old w0 w) (hA : Own w0 ao) (htl : tl.length ≤ 1048576) (hlen : l.length + tl.length ≤ 100000000000000) :
    Calls Tryd.prog 10 #[.slice ao l.length cp, .slice ta tl.length tc] w fun e w' => ∃ ao' c' l', e = .returned (.slice ao' l'.length c') ∧ l' = l ++ Pl.val tl ∧ Buf w' ao' c' l' ∧ Step w ao w' ao' := by
  rcases Nat.eq_zero_or_pos tl.length with h | h
  · have hv : Pl.val tl = [110, 117, 108, 108] := by unfold Pl.val; rw [if_pos h]
    rw [hv, h]
    exact null10 w ao cp l hB ta tc (by omega)
  · have hv : Pl.val tl = Pl.mach false false tl := by unfold Pl.val; rw [if_neg (by omega)]
    rw [hv]
    obtain ⟨b, o, rfl, hb, hc⟩ := hT h
    exact comp10 w ao cp l hB b o tc tl htl h (Nat.lt_of_lt_of_le hb hO.size) (fun e => by have := hA b e; omega) (fun j hj => hO.cell (hc j hj)) hlen
set_option maxRecDepth 100000 in
set_option maxHeartbeats 4000000 in
theorem raw8 (w0 : World) (hT : Lib.Utf8Tabs 0 1 w0) (s : ByteArray) (hsz : s.size ≤ 1048576) (ta : Option Addr) (tc : Nat) (tl : List UInt8) (hTx : Txt w0 ta tl) (htl : tl.length ≤ 1048576) (htc : tl.length ≤ tc) (w : World) (hO : Old w0 w) (Bo : Nat) (hBo : w0.heap.size ≤ Bo) (ao : Option Addr) (cp : Nat) (l : List UInt8) (hW : Ow w Bo ao cp l) (hA : Own w0 ao) (hlen : l.length ≤ 50000000000000) :
    Calls Tryd.prog 8 #[.pointer (some ⟨Bo, 0, none⟩), .string s, .slice ta tl.length tc] w fun e w' => Hid (∃ v ao' c' l', e = .returned v ∧ l' = l ++ [sep l] ++ mem s tl ∧ Ow w' Bo ao' c' l' ∧ Wr Bo w ao w' ao') := by
  have HT := hide hT
  have HTx := hide hTx
  have HO := hide hO
  have HA := hide hA
  have HW := hide hW
  have HBo := hide hBo
  have Htc := hide htc
  clear hT hTx hO hA hW hBo htc
  go_enter Tryd.func8, Tryd.ntmps8
  go_wp2_with (first
    | (go_at_call 19; refine (name19 w0 HT.out s hsz _ HO.out Bo HBo.out ao cp l HW.out HA.out hlen).mono ?_; intro e w1 hx; obtain ⟨v1, ao1, c1, l1, rfl, hl1, hW1, hR1⟩ := hx.out; have Hl1 := hide hl1; have HW1 := hide hW1; have HR1 := hide hR1; have f1 := hW1.box.cell (i := 0) (by omega); clear hl1 hW1 hR1 hx)
    | (go_at_call 20; have HO1 := hide (HR1.out.old HO.out HA.out HBo.out); have HA1 := hide (HR1.out.own HO.out HA.out); refine (comp20a _ ao1 c1 l1 HW1.out.buf ta tc tl w0 HTx.out HO1.out HA1.out htl Htc.out ?_).mono ?_; (have h1 := congrArg List.length Hl1.out; have h3 := Pl.quote_len s; simp only [List.length_append, List.length_cons, List.length_nil] at h1; omega); rintro e w2 ⟨ao2, c2, l2, rfl, hl2, hB2, hS2⟩; have Hl2 := hide hl2; have HB2 := hide hB2; have HX2 := hide (HW1.out.grown hS2); have HR2 := hide (HR1.out.trans (Wr.of hS2)); have g1 := HX2.out.1.cell (i := 0) (by omega); have g2 := HX2.out.1.frozen 0; clear hl2 hB2 hS2 f1))
  go_end0
  refine hide ⟨_, ao2, c2, l2, rfl, ?_, Ow.told HX2.out.1 HB2.out HX2.out.2, HR2.out.trans (Wr.set Bo w2 ao2 _)⟩
  rw [Hl2.out, Hl1.out]
  simp [mem]
set_option maxHeartbeats 4000000 in
theorem eq11 (w : World) (a1 a2 : Option Addr) (c1 c2 : Nat) (l : List UInt8) (h1 : Buf w a1 c1 l) (h2 : Buf w a2 c2 l) (hlen : l.length ≤ 100000000000000) :
    Calls Tryd.prog 11 #[.slice a1 l.length c1, .slice a2 l.length c2] w fun e w' => e = .returned (.bool true) ∧ Old w w' := by
  have H1 := hide h1
  have H2 := hide h2
  obtain ⟨n, hn⟩ : ∃ n, n = l.length := ⟨_, rfl⟩
  rw [← hn] at hlen ⊢
  have HN := hide hn
  clear h1 h2 hn
  go_enter Tryd.func11, Tryd.ntmps11
  go_wp2_with fail
  go_loopg [5] n (fun g c5 wx => ∃ (k : Nat), k + g = n ∧ c5 = .int .i64 k ∧ Hid (Old w wx))
  case atStart => exact ⟨0, by omega, rfl, Old.refl _⟩
  case round =>
    obtain ⟨k, hkg, rfl, HO⟩ := hrel
    by_cases hk : k < n
    · have hk2 : k < l.length := by rw [← HN.out]; exact hk
      obtain ⟨b1, rfl, hb1⟩ := H1.out.cells (by omega)
      obtain ⟨b2, rfl, hb2⟩ := H2.out.cells (by omega)
      obtain ⟨c, hc⟩ : ∃ c, c = l[k] := ⟨_, rfl⟩
      have d1 : wr.cell? ⟨b1, k, none⟩ = some (.int .u8 c.toNat) := by rw [hc]; exact HO.out.cell (hb1 k hk2)
      have d2 : wr.cell? ⟨b2, k, none⟩ = some (.int .u8 c.toNat) := by rw [hc]; exact HO.out.cell (hb2 k hk2)
      clear hc hb1 hb2
      have hki : (k : Int) < (n : Int) := by omega
      go_wp2_with fail
      go_quiet (fail)
      go_wp2_with fail
      go_roundg (n - (k + 1))
      case measure => omega
      case rel => exact ⟨k + 1, by omega, rfl, HO.out.drewN _⟩
    · go_wp2_with fail
      go_ret
      exact ⟨rfl, HO.out⟩
end Go.Proofs.Qxb6603514aDoor
