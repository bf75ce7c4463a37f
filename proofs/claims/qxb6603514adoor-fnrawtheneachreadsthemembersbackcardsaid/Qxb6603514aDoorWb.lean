/-
  append at this program; zzCompact.
-/
import Derived.Test.Qxb6603514aDoorWa
namespace Go.Proofs.Qxb6603514aDoor
open Go.RowKit
theorem info5 : (Tryd.prog.info? 5).map (fun i => (i.zero, i.size, i.bytes)) = some (some (.int .u8 0), 1, 1) := by kernel_rfl
/-- append at this program's []byte. -/
theorem app (w : World) {ops : Array Oper} {rest : List Oper} {o : Oper} {a : Act} {Q : Exit → Act → World → Prop} (hgd : o.guard = none) (s x : Operand) (tx : TypeId)
    (ho : o.op = .call { callee := .builtin .append, args := #[s, x], argTypes := #[25, tx] })
    {ao : Option Addr} {c : Nat} (l : List UInt8) (hv : a.eval s = .slice ao l.length c) (h : Buf w ao c l)
    (xv : Value) (n : Nat) (news : List UInt8) (hn : news.length = n) (hx : a.eval x = xv) (hs : Src Tryd.prog 1 tx xv n (news.map bv) w) (hb : l.length + n ≤ 140737488355328)
    (hK : ∀ ao' c' w', Buf w' ao' c' (l ++ news) → Step w ao w' ao' → wpList Tryd.prog ops Q rest (a.put o.dst (.slice ao' (l ++ news).length c')) w') : wpList Tryd.prog ops Q (o :: rest) a w := by
  obtain ⟨i0, hi, hz0, hz1, hz2⟩ := info_parts info5
  exact wpList_append_buf w hgd s x 25 tx ho 5 i0 (.int .u8 0) Tryd.underlying25 hi hz0 hz1 hz2 rfl hv h xv n news hn hx hs hb hK
theorem bv_one (news : List UInt8) : ∀ u ∈ news.map bv, u.oneCell' = true := fun u hu => by
  obtain ⟨_, _, rfl⟩ := List.mem_map.1 hu
  rfl
/-- A literal row, laid for an append. -/
theorem srcNew (w : World) (news : List UInt8) : Src Tryd.prog 1 25 (.slice (some ⟨w.heap.size, 0, none⟩) news.length news.length) news.length (news.map bv) (w.alloc (.cells (news.map bv).toArray 5)) :=
  Src.ofSlice _ Tryd.underlying25 _ _ _ _ (by simp) (fun j u hj => by
    rw [Addr.add_lit, World.cell?_alloc_at _ _ _ _ rfl]
    simpa using hj) (bv_one news)
theorem srcText (w : World) (b o n c : Nat) (news : List UInt8) (hn : news.length = n) (hcs : ∀ j (hj : j < news.length), w.cell? ⟨b, o + j, none⟩ = some (.int .u8 news[j].toNat)) : Src Tryd.prog 1 25 (.slice (some ⟨b, o, none⟩) n c) n (news.map bv) w :=
  Src.ofSlice _ Tryd.underlying25 _ _ _ _ (by simp [hn]) (fun j u hj => by
    have hl : j < news.length := by have := (List.getElem?_eq_some_iff.1 hj).1; simpa using this
    rw [List.getElem?_map, List.getElem?_eq_getElem hl] at hj
    simp only [Option.map_some, Option.some.injEq] at hj
    subst hj
    rw [Addr.add_lit]
    exact hcs j hl) (bv_one news)
theorem srcStr (w : World) (s : ByteArray) : Src Tryd.prog 1 9 (.string s) s.size (s.data.toList.map bv) w := Src.ofString w Tryd.underlying9 s

theorem next_m {l' l R t : List UInt8} {c : UInt8} {a e a' e' : Bool} (h : l' ++ Pl.mach a e (c :: t) = l ++ R) (hm : Pl.mach a e (c :: t) = c :: Pl.mach a' e' t) : (l' ++ [c]) ++ Pl.mach a' e' t = l ++ R := by
  rw [← h, hm]; simp

theorem next_len {l' l : List UInt8} {k : Nat} {c : UInt8} (h : l'.length ≤ l.length + k) : (l' ++ [c]).length ≤ l.length + (k + 1) := by simp; omega
theorem n34 {c : UInt8} (h : ((c.toNat : Int) == 34) = false) : ¬ c.toNat = 34 := by simp at h; omega
theorem y34 {c : UInt8} (h : ((c.toNat : Int) == 34) = true) : c.toNat = 34 := by simp at h; omega
theorem n92 {c : UInt8} (h : ((c.toNat : Int) == 92) = false) : ¬ c.toNat = 92 := by simp at h; omega
theorem y92 {c : UInt8} (h : ((c.toNat : Int) == 92) = true) : c.toNat = 92 := by simp at h; omega
set_option maxHeartbeats 2000000 in
theorem comp10 (w : World) (ao : Option Addr) (cp : Nat) (l : List UInt8) (hB : Buf w ao cp l) (b o tc : Nat) (tl : List UInt8) (htl : tl.length ≤ 1048576) (hpos : 0 < tl.length) (hbw : b < w.heap.size) (hne : blk ao ≠ some b)
    (hcs : ∀ j (hj : j < tl.length), w.cell? ⟨b, o + j, none⟩ = some (.int .u8 tl[j].toNat)) (hlen : l.length + tl.length ≤ 100000000000000) :
    Calls Tryd.prog 10 #[.slice ao l.length cp, .slice (some ⟨b, o, none⟩) tl.length tc] w fun e w' => ∃ ao' c' l', e = .returned (.slice ao' l'.length c') ∧ l' = l ++ Pl.mach false false tl ∧ Buf w' ao' c' l' ∧ Step w ao w' ao' := by
  have HC := hide hcs
  have HB0 := hide hB
  obtain ⟨n, hn⟩ : ∃ n, n = tl.length := ⟨_, rfl⟩
  rw [← hn] at htl hpos ⊢
  have HN := hide hn
  have Hne := hide hne
  have Hbw := hide hbw
  have HL := hide hlen
  have hn0 : ((n : Int) == 0) = false := by simp; omega
  clear hcs hn hB hne hbw hlen
  go_enter Tryd.func10, Tryd.ntmps10
  go_wp2_with fail
  go_loopg [0, 5, 6, 7] n (fun g c0 c5 c6 c7 wx => ∃ (k : Nat) (a e : Bool) (l' : List UInt8) (ao' : Option Addr) (c' : Nat), k + g = n ∧ c0 = .slice ao' l'.length c' ∧ c5 = .bool a ∧ c6 = .bool e ∧ c7 = .int .i64 k ∧
    Hid (Buf wx ao' c' l') ∧ Hid (Step w ao wx ao') ∧ Hid (l' ++ Pl.mach a e (tl.drop k) = l ++ Pl.mach false false tl) ∧ Hid (l'.length ≤ l.length + k))
  case atStart => exact ⟨0, false, false, l, ao, cp, by omega, rfl, rfl, rfl, rfl, HB0, Step.refl _ _, (rfl : _ = _), Nat.le_refl _⟩
  case round =>
    obtain ⟨k, a, e, l', ao', c', hkg, rfl, rfl, rfl, rfl, HB, HS, HM, HK⟩ := hrel
    by_cases hk : k < n
    · have hk2 : k < tl.length := by rw [← HN.out]; exact hk
      obtain ⟨c, hc⟩ : ∃ c, c = tl[k] := ⟨_, rfl⟩
      have hcell : wr.cell? ⟨b, o + k, none⟩ = some (.int .u8 c.toNat) := by
        rw [hc, HS.out.cell (p := ⟨b, o + k, none⟩) Hbw.out Hne.out]; exact HC.out k hk2
      have HM2 : Hid (l' ++ Pl.mach a e (c :: tl.drop (k + 1)) = l ++ Pl.mach false false tl) := by
        have := HM.out; rw [drop_cons hk2, ← hc] at this; exact this
      clear hc HM
      cases a
      · cases hw : Pl.ws c
        · cases h34 : ((c.toNat : Int) == 34)
          · go_wp2_with (first | (go_at_call 22; refine (ws22 _ _).mono ?_; rintro e w' ⟨rfl, rfl⟩) | (at_builtin; refine app _ rfl (.tmp 37) (.tmp 39) 25 rfl l' rfl (HB.out.alloc _) _ 1 [c] rfl rfl (srcNew _ [c]) (by have := HK.out; have := HL.out; have := HN.out; omega) ?_; intro ao2 c2 w2 hB2 hS2))
            go_roundg (n - (k + 1))
            case measure => omega
            case rel => exact ⟨k + 1, false, e, l' ++ [c], ao2, c2, by omega, by simp, rfl, rfl, rfl, hB2, HS.out.trans ((Step.alloc _ _ _).trans hS2), next_m HM2.out (by simp [Pl.mach, hw, n34 h34]), next_len HK.out⟩
          · go_wp2_with (first | (go_at_call 22; refine (ws22 _ _).mono ?_; rintro e w' ⟨rfl, rfl⟩) | (at_builtin; refine app _ rfl (.tmp 37) (.tmp 39) 25 rfl l' rfl (HB.out.alloc _) _ 1 [c] rfl rfl (srcNew _ [c]) (by have := HK.out; have := HL.out; have := HN.out; omega) ?_; intro ao2 c2 w2 hB2 hS2))
            go_roundg (n - (k + 1))
            case measure => omega
            case rel => exact ⟨k + 1, true, e, l' ++ [c], ao2, c2, by omega, by simp, rfl, rfl, rfl, hB2, HS.out.trans ((Step.alloc _ _ _).trans hS2), next_m HM2.out (by simp [Pl.mach, hw, y34 h34]), next_len HK.out⟩
        · go_wp2_with (go_at_call 22; refine (ws22 _ _).mono ?_; rintro e w' ⟨rfl, rfl⟩)
          go_roundg (n - (k + 1))
          case measure => omega
          case rel => exact ⟨k + 1, false, e, l', ao', c', by omega, rfl, rfl, rfl, rfl, HB.out, HS.out, by have := HM2.out; simp only [Pl.mach, hw, if_true] at this; exact this, Nat.le_succ_of_le HK.out⟩
      · cases e
        · cases h92 : ((c.toNat : Int) == 92)
          · cases h34 : ((c.toNat : Int) == 34)
            · go_wp2_with (first | (at_builtin; refine app _ rfl (.tmp 26) (.tmp 28) 25 rfl l' rfl (HB.out.alloc _) _ 1 [c] rfl rfl (srcNew _ [c]) (by have := HK.out; have := HL.out; have := HN.out; omega) ?_; intro ao2 c2 w2 hB2 hS2))
              go_roundg (n - (k + 1))
              case measure => omega
              case rel => exact ⟨k + 1, true, false, l' ++ [c], ao2, c2, by omega, by simp, rfl, rfl, rfl, hB2, HS.out.trans ((Step.alloc _ _ _).trans hS2), next_m HM2.out (by simp [Pl.mach, n92 h92, n34 h34]), next_len HK.out⟩
            · go_wp2_with (first | (at_builtin; refine app _ rfl (.tmp 26) (.tmp 28) 25 rfl l' rfl (HB.out.alloc _) _ 1 [c] rfl rfl (srcNew _ [c]) (by have := HK.out; have := HL.out; have := HN.out; omega) ?_; intro ao2 c2 w2 hB2 hS2))
              go_roundg (n - (k + 1))
              case measure => omega
              case rel => exact ⟨k + 1, false, false, l' ++ [c], ao2, c2, by omega, by simp, rfl, rfl, rfl, hB2, HS.out.trans ((Step.alloc _ _ _).trans hS2), next_m HM2.out (by simp [Pl.mach, y34 h34]), next_len HK.out⟩
          · go_wp2_with (first | (at_builtin; refine app _ rfl (.tmp 26) (.tmp 28) 25 rfl l' rfl (HB.out.alloc _) _ 1 [c] rfl rfl (srcNew _ [c]) (by have := HK.out; have := HL.out; have := HN.out; omega) ?_; intro ao2 c2 w2 hB2 hS2))
            go_roundg (n - (k + 1))
            case measure => omega
            case rel => exact ⟨k + 1, true, true, l' ++ [c], ao2, c2, by omega, by simp, rfl, rfl, rfl, hB2, HS.out.trans ((Step.alloc _ _ _).trans hS2), next_m HM2.out (by simp [Pl.mach, y92 h92]), next_len HK.out⟩
        · go_wp2_with (first | (at_builtin; refine app _ rfl (.tmp 26) (.tmp 28) 25 rfl l' rfl (HB.out.alloc _) _ 1 [c] rfl rfl (srcNew _ [c]) (by have := HK.out; have := HL.out; have := HN.out; omega) ?_; intro ao2 c2 w2 hB2 hS2))
          go_roundg (n - (k + 1))
          case measure => omega
          case rel => exact ⟨k + 1, true, false, l' ++ [c], ao2, c2, by omega, by simp, rfl, rfl, rfl, hB2, HS.out.trans ((Step.alloc _ _ _).trans hS2), next_m HM2.out (by rfl), next_len HK.out⟩
    · go_wp2_with fail
      go_ret
      refine ⟨ao', c', l', rfl, ?_, HB.out, HS.out⟩
      have := HM.out
      rw [List.drop_eq_nil_of_le (by rw [← HN.out]; omega)] at this
      cases a <;> cases e <;> simpa [Pl.mach] using this
theorem null10 (w : World) (ao : Option Addr) (cp : Nat) (l : List UInt8) (hB : Buf w ao cp l) (ta : Option Addr) (tc : Nat) (hlen : l.length ≤ 100000000000000) :
    Calls Tryd.prog 10 #[.slice ao l.length cp, .slice ta 0 tc] w fun e w' => ∃ ao' c' l', e = .returned (.slice ao' l'.length c') ∧ l' = l ++ [110, 117, 108, 108] ∧ Buf w' ao' c' l' ∧ Step w ao w' ao' := by
  have HB := hide hB
  clear hB
  go_enter Tryd.func10, Tryd.ntmps10
  go_wp2_with (at_builtin; refine app _ rfl (.tmp 12) (.tmp 13) 25 rfl l rfl (HB.out.alloc _) _ 4 [110, 117, 108, 108] rfl rfl (srcNew _ [110, 117, 108, 108]) (by omega) ?_; intro ao2 c2 w2 hB2 hS2)
  go_ret
  exact ⟨ao2, c2, l ++ [110, 117, 108, 108], by simp, rfl, hB2, (Step.alloc _ _ _).trans hS2⟩
end Go.Proofs.Qxb6603514aDoor
