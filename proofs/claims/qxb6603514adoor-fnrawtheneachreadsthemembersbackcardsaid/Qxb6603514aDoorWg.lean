/-
  The law FnRawWritesNameColonCompactText.
-/
import Derived.Test.Qxb6603514aDoorWf
namespace Go.Proofs.Qxb6603514aDoor
open Go.RowKit
theorem Buf.wr {Bo : Nat} {w w' : World} {ao a a' : Option Addr} {c : Nat} {l : List UInt8} (h : Buf w ao c l) (s : Wr Bo w a w' a') (h1 : blk ao ≠ some Bo) (hn : ∀ k, blk ao = some k → blk a ≠ some k) : Buf w' ao c l :=
  h.kept s.size fun k hk => s.block k (h.lt k hk) (fun e => h1 (by rw [hk, e])) (hn k hk)
/-- The two buffers: the object writer's, and the one beside it. -/
structure Duo (w2 : World) (Bo : Nat) (w : World) (ao : Option Addr) (co : Nat) (aw : Option Addr) (cw : Nat) (l : List UInt8) : Prop where
  ow : Ow w Bo ao co l
  buf : Buf w aw cw l
  old : Old w2 w
  own : Own w2 ao
  ownw : Own w2 aw
  nb : blk aw ≠ some Bo
  apart : ∀ j, blk aw = some j → blk ao ≠ some j
theorem Duo.start (w2 : World) : Duo w2 w2.heap.size (w2.alloc (.cells #[.slice none 0 0] 27)) none 0 none 0 [] :=
  ⟨⟨World.rowIs_alloc _ _ _ _ (fun i hi => by simp at hi; subst hi; rfl), Buf.empty _, by simp [blk]⟩, Buf.empty _, (Old.refl _).alloc _, fun _ h => by simp [blk] at h, fun _ h => by simp [blk] at h, by simp [blk], fun _ h => by simp [blk] at h⟩
/-- A round: W is the world with the member's copy; Raw has led to w3, what follows to w7. -/
theorem Duo.next {w2 : World} {Bo : Nat} {w W w3 w7 : World} {ao a1 : Option Addr} {co c1 : Nat} {aw a7 : Option Addr} {cw c7 : Nat} {l l1 : List UInt8} (h : Duo w2 Bo w ao co aw cw l) (hBo : w2.heap.size ≤ Bo)
    (hW : Step w ao W ao) (h3 : Wr Bo W ao w3 a1) (ho : Ow w3 Bo a1 c1 l1) (h7 : Step w3 aw w7 a7) (hb : Buf w7 a7 c7 l1) : Duo w2 Bo w7 a1 c1 a7 c7 l1 := by
  have hOW : Old w2 W := h.old.step hW h.own
  have hO3 : Old w2 w3 := h3.old hOW h.own hBo
  have hA1 : Own w2 a1 := h3.own hOW h.own
  have hbW : Buf W aw cw l := h.buf.step hW h.apart
  have hb3 : Buf w3 aw cw l := hbW.wr h3 h.nb h.apart
  have nab : ∀ j, blk a1 = some j → blk aw ≠ some j := fun j hj e => by
    rcases h3.row j hj with h1 | h1
    · exact h.apart j e h1
    · have := hbW.lt j e; omega
  refine ⟨⟨ho.box.of_block (h7.block Bo ho.box.lt h.nb), ho.buf.step h7 nab, ho.ne⟩, hb, hO3.step h7 h.ownw, hA1, h.ownw.step hO3 h7, fun e => ?_, fun j hj e => ?_⟩
  · rcases h7.row Bo e with h1 | h1
    · exact h.nb h1
    · have := ho.box.lt; omega
  · rcases h7.row j hj with h1 | h1
    · exact nab j e h1
    · have := ho.buf.lt j e; omega
theorem Ow.alloc {w : World} {Bo : Nat} {ao : Option Addr} {c : Nat} {l : List UInt8} (h : Ow w Bo ao c l) (o : Obj) : Ow (w.alloc o) Bo ao c l := ⟨h.box.alloc o, h.buf.alloc o, h.ne⟩
theorem len_next {l l1 tl : List UInt8} {s : ByteArray} {k : Nat} (h : l.length ≤ k * 20000000) (h1 : l1 = l ++ [sep l] ++ mem s tl) (hs : s.size ≤ 1048576) (ht : tl.length ≤ 1048576) : l1.length ≤ (k + 1) * 20000000 := by
  have := mem_len s tl hs ht
  rw [h1]
  simp only [List.length_append, List.length_cons, List.length_nil]
  omega
theorem zero_next {l l1 tl : List UInt8} {s : ByteArray} {k : Nat} (h1 : l1 = l ++ [sep l] ++ mem s tl) : l1.length = 0 ↔ k + 1 = 0 := by
  rw [h1]; simp
/-- The member's copy stays. -/
theorem copy_raw {w : World} {Bo : Nat} {ao a1 : Option Addr} {co : Nat} {l : List UInt8} {v0 v1 : Value} {w3 : World} (h : Ow w Bo ao co l) (h3 : Wr Bo (w.alloc (.cells #[v0, v1] 29)) ao w3 a1) :
    w3.cell? ⟨w.heap.size, 0, none⟩ = some v0 ∧ w3.cell? ⟨w.heap.size, 1, none⟩ = some v1 := by
  have hb := h3.block w.heap.size (by simp) (fun e => by have := h.box.lt; omega) (fun e => by have := h.buf.lt _ e; omega)
  rw [World.cell?_of_block (a := ⟨w.heap.size, 0, none⟩) (w := w.alloc (.cells #[v0, v1] 29)) hb, World.cell?_of_block (a := ⟨w.heap.size, 1, none⟩) (w := w.alloc (.cells #[v0, v1] 29)) hb, World.cell?_alloc_at _ _ _ _ rfl, World.cell?_alloc_at _ _ _ _ rfl]
  exact ⟨rfl, rfl⟩
theorem copy_on {w3 w4 : World} {P : Nat} {aw a4 : Option Addr} {v0 v1 : Value} (h : w3.cell? ⟨P, 0, none⟩ = some v0 ∧ w3.cell? ⟨P, 1, none⟩ = some v1) (hs : Step w3 aw w4 a4) (hn : blk aw ≠ some P) : w4.cell? ⟨P, 0, none⟩ = some v0 ∧ w4.cell? ⟨P, 1, none⟩ = some v1 := by
  have hlt : P < w3.heap.size := World.block_lt_of_cell? _ _ h.1
  rw [hs.cell (p := ⟨P, 0, none⟩) hlt hn, hs.cell (p := ⟨P, 1, none⟩) hlt hn]
  exact h
set_option maxRecDepth 100000 in
set_option maxHeartbeats 8000000 in
theorem law3 (w : World) (hT : Lib.Utf8Tabs 0 1 w) (a : Option Addr) (n c : Nat) (N : Nat → ByteArray) (A : Nat → Option Addr) (C : Nat → Nat) (L : Nat → List UInt8) (hM : Mem w a n N A C L) :
    Calls Tryd.prog 3 #[.slice a n c] w fun e w' => e = .returned (.bool true) ∧ Hid (Old w w') := by
  have HT := hide hT
  have HM := hide hM
  clear hT hM
  go_enter Tryd.func3, Tryd.ntmps3
  go_wp2_with fail
  refine (bytes5 w a n c N A C L HM.out).mono ?_
  rintro e w' (⟨rfl, rfl⟩ | ⟨rfl, rfl, HB⟩)
  · go_wp2_with fail
    go_ret
    exact ⟨rfl, Old.refl _⟩
  obtain ⟨hn, hb⟩ := HB.out
  have HBd := hide hb
  clear hb HB
  go_wp2_with fail
  refine (big6 w' a n c N A C L HM.out hn HBd.out).mono ?_
  rintro e w1 ⟨rfl | rfl, hO1⟩
  case inr =>
    go_wp2_with fail
    go_ret
    exact ⟨rfl, hO1⟩
  have HO1 := hide hO1
  clear hO1
  go_wp2_with fail
  refine (clone7 w1 a n c N A C L (HM.out.old HO1.out) hn HBd.out).mono ?_
  intro e w2 hx
  obtain ⟨a', c', A', C', rfl, hM2, hO2⟩ := hx.out
  have HM2 := hide hM2
  have HO2 := hide (HO1.out.trans hO2)
  have HT2 := hide (HO2.out.tabs HT.out)
  clear hM2 hO2 hx HM HO1 HT
  go_wp2_with fail
  go_loopg [4, 5] n (fun g c4 c5 wx => ∃ (k : Nat) (l : List UInt8) (ao : Option Addr) (co : Nat) (aw : Option Addr) (cw : Nat), k + g = n ∧ c4 = .slice aw l.length cw ∧ c5 = .int .i64 k ∧
    Hid (Duo w2 w2.heap.size wx ao co aw cw l) ∧ Hid (l.length ≤ k * 20000000) ∧ Hid (l.length = 0 ↔ k = 0))
  case atStart => exact ⟨0, [], none, 0, none, 0, by omega, rfl, rfl, Duo.start w2, Nat.le_refl _, by show _ ↔ _; simp⟩
  case round =>
    obtain ⟨k, l, ao, co, aw, cw, hkg, rfl, rfl, HD, HK, HZ⟩ := hrel
    by_cases hk : k < n
    · obtain ⟨b, o, rfl, hrow, htx⟩ := HM2.out (by omega)
      obtain ⟨hc1, hc2⟩ := hrow k hk
      have hc1 := HD.out.old.cell hc1
      have hc2 := HD.out.old.cell hc2
      obtain ⟨s, hs⟩ : ∃ s, s = N k := ⟨_, rfl⟩
      obtain ⟨tl, htl⟩ : ∃ tl, tl = L k := ⟨_, rfl⟩
      obtain ⟨ta, hta⟩ : ∃ ta, ta = A' k := ⟨_, rfl⟩
      obtain ⟨tc, htc⟩ : ∃ tc, tc = C' k := ⟨_, rfl⟩
      have Hsz : Hid (s.size ≤ 1048576) := by rw [hs]; exact (HBd.out k hk).1
      have Htl : Hid (tl.length ≤ 1048576) := by rw [htl]; exact (HBd.out k hk).2
      have HTx : Hid (Txt w2 ta tl) := by rw [hta, htl]; exact (htx k hk).1
      have Htc : Hid (tl.length ≤ tc) := by rw [htc, htl]; exact (htx k hk).2
      rw [← hs] at hc1
      rw [← htl, ← hta, ← htc] at hc2
      clear hs htl hta htc hrow htx
      have hki : (k : Int) < (n : Int) := by omega
      have HP : Hid (blk aw ≠ some wr.heap.size) := fun e => by have := HD.out.buf.lt _ e; omega
      have HKn : Hid (l.length ≤ 21000000000000) := by have := HK.out; show _ ≤ _; omega
      cases hk0 : ((k : Int) == 0)
      · have HE : Hid (sep l = 44) := by
          show _ = _
          unfold sep
          rw [if_neg (by have := HZ.out; simp at hk0; omega)]
        go_wp2_with (first
        | (go_at_call 8; refine (raw8 w2 HT2.out s Hsz.out ta tc tl HTx.out Htl.out Htc.out _ (HD.out.old.alloc _) w2.heap.size (Nat.le_refl _) ao co l (Ow.alloc HD.out.ow _) HD.out.own ?_).mono ?_; (have := HK.out; omega); intro e w3 hx; obtain ⟨v1, a1, c1, l1, rfl, hl1, hW1, hR1⟩ := hx.out; have Hl1 := hide hl1; have HW1 := hide hW1; have HR1 := hide hR1; have HC3 := hide (copy_raw HD.out.ow hR1); have HB3 := hide ((HD.out.buf.alloc (.cells #[.string s, .slice ta tl.length tc] 29)).wr hR1 HD.out.nb HD.out.apart); have HO3 := hide (hR1.old (HD.out.old.alloc _) HD.out.own (Nat.le_refl _)); clear hl1 hW1 hR1 hx)
        | (at_builtin; refine appN _ rfl (.tmp 34) (.tmp 35) 25 rfl l rfl (HB3.out.alloc _) _ 1 [44] rfl rfl (srcNew _ [44]) ?_ ?_; (have := HK.out; omega); intro a4 c4 w4 l4 Hl4 HB4 HS4; have HS4 := hide ((Step.alloc _ _ _).trans HS4.out); have HC4 := hide (copy_on HC3.out HS4.out HP.out); obtain ⟨m1, m2⟩ := HC4.out)
        | (go_at_call 9; refine (quote9 w2 HT2.out s Hsz.out _ (HO3.out.step HS4.out HD.out.ownw) a4 c4 l4 HB4.out (HD.out.ownw.step HO3.out HS4.out) ?_).mono ?_; (have := HK.out; have := congrArg List.length Hl4.out; simp only [List.length_append, List.length_cons, List.length_nil] at this; omega); rintro e w5 ⟨a5, c5, l5, rfl, hl5, hB5, hS5⟩; have Hl5 := hide hl5; have HB5 := hide hB5; have HS5 := hide (HS4.out.trans hS5); clear hl5 hB5 hS5 m1 m2; obtain ⟨m1, m2⟩ := copy_on HC3.out HS5.out HP.out)
        | (at_builtin; refine appN _ rfl (.tmp 41) (.tmp 42) 25 rfl l5 rfl (HB5.out.alloc _) _ 1 [58] rfl rfl (srcNew _ [58]) ?_ ?_; (have := HK.out; have h1 := congrArg List.length Hl4.out; have h2 := congrArg List.length Hl5.out; have h3 := Pl.quote_len s; have h4 := Hsz.out; simp only [List.length_append, List.length_cons, List.length_nil] at h1 h2; omega); intro a6 c6 w6 l6 Hl6 HB6 HS6; have HS6 := hide (HS5.out.trans ((Step.alloc _ _ _).trans HS6.out)); clear m1 m2; obtain ⟨m1, m2⟩ := copy_on HC3.out HS6.out HP.out)
        | (go_at_call 10; refine (comp10a _ a6 c6 l6 HB6.out ta tc tl w2 HTx.out (HO3.out.step HS6.out HD.out.ownw) (HD.out.ownw.step HO3.out HS6.out) Htl.out ?_).mono ?_; (have := HK.out; have h1 := congrArg List.length Hl4.out; have h2 := congrArg List.length Hl5.out; have h3 := Pl.quote_len s; have h4 := Hsz.out; have h5 := congrArg List.length Hl6.out; have h6 := Htl.out; simp only [List.length_append, List.length_cons, List.length_nil] at h1 h2 h5; omega); rintro e w7 ⟨a7, c7, l7, rfl, hl7, hB7, hS7⟩; have Hl7 := hide hl7; have HB7 := hide hB7; have HS7 := hide (HS6.out.trans hS7); clear hl7 hB7 hS7 m1 m2))
        have HQ : Hid (l7 = l1) := by
          show _ = _
          rw [Hl7.out, Hl6.out, Hl5.out, Hl4.out, Hl1.out, HE.out]
          simp [mem]
        have HB8 : Hid (Buf w7 a7 c7 l1) := by rw [← HQ.out]; exact HB7.out
        go_roundg (n - (k + 1))
        case measure => omega
        case rel => exact ⟨k + 1, l1, a1, c1, a7, c7, by omega, by rw [HQ.out], by go_num, HD.out.next (Nat.le_refl _) (Step.alloc _ _ _) HR1.out HW1.out HS7.out HB8.out, len_next HK.out Hl1.out Hsz.out Htl.out, zero_next Hl1.out⟩
      · have HE : Hid (sep l = 123) := by
          show _ = _
          unfold sep
          rw [if_pos (by have := HZ.out; simp at hk0; omega)]
        go_wp2_with (first
        | (go_at_call 8; refine (raw8 w2 HT2.out s Hsz.out ta tc tl HTx.out Htl.out Htc.out _ (HD.out.old.alloc _) w2.heap.size (Nat.le_refl _) ao co l (Ow.alloc HD.out.ow _) HD.out.own ?_).mono ?_; (have := HK.out; omega); intro e w3 hx; obtain ⟨v1, a1, c1, l1, rfl, hl1, hW1, hR1⟩ := hx.out; have Hl1 := hide hl1; have HW1 := hide hW1; have HR1 := hide hR1; have HC3 := hide (copy_raw HD.out.ow hR1); have HB3 := hide ((HD.out.buf.alloc (.cells #[.string s, .slice ta tl.length tc] 29)).wr hR1 HD.out.nb HD.out.apart); have HO3 := hide (hR1.old (HD.out.old.alloc _) HD.out.own (Nat.le_refl _)); clear hl1 hW1 hR1 hx)
        | (at_builtin; refine appN _ rfl (.tmp 31) (.tmp 32) 25 rfl l rfl (HB3.out.alloc _) _ 1 [123] rfl rfl (srcNew _ [123]) ?_ ?_; (have := HK.out; omega); intro a4 c4 w4 l4 Hl4 HB4 HS4; have HS4 := hide ((Step.alloc _ _ _).trans HS4.out); have HC4 := hide (copy_on HC3.out HS4.out HP.out); obtain ⟨m1, m2⟩ := HC4.out)
        | (go_at_call 9; refine (quote9 w2 HT2.out s Hsz.out _ (HO3.out.step HS4.out HD.out.ownw) a4 c4 l4 HB4.out (HD.out.ownw.step HO3.out HS4.out) ?_).mono ?_; (have := HK.out; have := congrArg List.length Hl4.out; simp only [List.length_append, List.length_cons, List.length_nil] at this; omega); rintro e w5 ⟨a5, c5, l5, rfl, hl5, hB5, hS5⟩; have Hl5 := hide hl5; have HB5 := hide hB5; have HS5 := hide (HS4.out.trans hS5); clear hl5 hB5 hS5 m1 m2; obtain ⟨m1, m2⟩ := copy_on HC3.out HS5.out HP.out)
        | (at_builtin; refine appN _ rfl (.tmp 41) (.tmp 42) 25 rfl l5 rfl (HB5.out.alloc _) _ 1 [58] rfl rfl (srcNew _ [58]) ?_ ?_; (have := HK.out; have h1 := congrArg List.length Hl4.out; have h2 := congrArg List.length Hl5.out; have h3 := Pl.quote_len s; have h4 := Hsz.out; simp only [List.length_append, List.length_cons, List.length_nil] at h1 h2; omega); intro a6 c6 w6 l6 Hl6 HB6 HS6; have HS6 := hide (HS5.out.trans ((Step.alloc _ _ _).trans HS6.out)); clear m1 m2; obtain ⟨m1, m2⟩ := copy_on HC3.out HS6.out HP.out)
        | (go_at_call 10; refine (comp10a _ a6 c6 l6 HB6.out ta tc tl w2 HTx.out (HO3.out.step HS6.out HD.out.ownw) (HD.out.ownw.step HO3.out HS6.out) Htl.out ?_).mono ?_; (have := HK.out; have h1 := congrArg List.length Hl4.out; have h2 := congrArg List.length Hl5.out; have h3 := Pl.quote_len s; have h4 := Hsz.out; have h5 := congrArg List.length Hl6.out; have h6 := Htl.out; simp only [List.length_append, List.length_cons, List.length_nil] at h1 h2 h5; omega); rintro e w7 ⟨a7, c7, l7, rfl, hl7, hB7, hS7⟩; have Hl7 := hide hl7; have HB7 := hide hB7; have HS7 := hide (HS6.out.trans hS7); clear hl7 hB7 hS7 m1 m2))
        have HQ : Hid (l7 = l1) := by
          show _ = _
          rw [Hl7.out, Hl6.out, Hl5.out, Hl4.out, Hl1.out, HE.out]
          simp [mem]
        have HB8 : Hid (Buf w7 a7 c7 l1) := by rw [← HQ.out]; exact HB7.out
        go_roundg (n - (k + 1))
        case measure => omega
        case rel => exact ⟨k + 1, l1, a1, c1, a7, c7, by omega, by rw [HQ.out], by go_num, HD.out.next (Nat.le_refl _) (Step.alloc _ _ _) HR1.out HW1.out HS7.out HB8.out, len_next HK.out Hl1.out Hsz.out Htl.out, zero_next Hl1.out⟩
    · go_wp2_with (first
        | (go_at_call 12; refine (obj12 _ w2.heap.size ao co l HD.out.ow).mono ?_; rintro e w3 ⟨rfl, rfl⟩)
        | (go_at_call 11; refine (eq11 _ ao aw co cw l HD.out.ow.buf HD.out.buf ?_).mono ?_; (have := HK.out; omega); rintro e w4 ⟨rfl, hO4⟩; have HO4 := hide hO4; clear hO4))
      go_ret
      exact ⟨rfl, HO2.out.trans (HD.out.old.trans HO4.out)⟩
end Go.Proofs.Qxb6603514aDoor
