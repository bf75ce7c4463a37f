/-
  AppendString.
-/
import Derived.Test.Qxb6603514aDoorMo
import Derived.Deep.RegionLaw
import Derived.BigRegion
namespace Go.Proofs.Qxb6603514aDoor
open Go.RowKit
theorem app_step (w : World) {ops : Array Oper} {o : Oper} {a : Act} {K : Act → World → Prop} {Q : Exit → Act → World → Prop} {E : Prop} (hgd : o.guard = none) (s x : Operand) (tx : TypeId)
    (ho : o.op = .call { callee := .builtin .append, args := #[s, x], argTypes := #[25, tx] })
    {ao : Option Addr} {c : Nat} (l : List UInt8) (hv : a.eval s = .slice ao l.length c) (h : Buf w ao c l)
    (xv : Value) (n : Nat) (news : List UInt8) (hn : news.length = n) (hx : a.eval x = xv) (hs : Src Tryd.prog 1 tx xv n (news.map bv) w) (hb : l.length + n ≤ 140737488355328)
    (hK : ∀ ao' c' w', Buf w' ao' c' (l ++ news) → Step w ao w' ao' → K (a.put o.dst (.slice ao' (l ++ news).length c')) w') :
    if Region.wanted o (yielded ops a.tmps) = true then Oper.wp Tryd.prog o a w K Q else E := by
  have hw : Region.wanted o (yielded ops a.tmps) = true := by simp [Region.wanted, hgd]
  rw [if_pos hw]
  obtain ⟨i0, hi, hz0, hz1, hz2⟩ := info_parts info5
  obtain ⟨ao', c', w', hrun, hB, hS⟩ := run_append_buf (P := Tryd.prog) 25 tx o.type 5 i0 (.int .u8 0) Tryd.underlying25 hi hz0 hz1 hz2 rfl h xv n news hn hs hb
  have hk := hK ao' c' w' hB hS
  generalize Value.slice ao' (l ++ news).length c' = v' at hrun hk
  unfold Oper.wp
  simp [execOp, ho, resolve, invoke, builtin, hv, hx, hrun, Result.andThen]
  exact hk
set_option maxRecDepth 100000 in
theorem and15 : ∀ x : Fin 256, bits .and .u8 ((x.val : Nat) : Int) 15 = ((x.val % 16 : Nat) : Int) := by decide
theorem and15c (c : UInt8) : bits .and .u8 (c.toNat : Int) 15 = ((c.toNat % 16 : Nat) : Int) := and15 ⟨c.toNat, c.toNat_lt⟩
theorem hex16 : ∀ q : Fin 16, (⟨#[48, 49, 50, 51, 52, 53, 54, 55, 56, 57, 97, 98, 99, 100, 101, 102]⟩ : ByteArray)[q.val]'(by have := q.isLt; exact this) = Pl.hex q.val := by decide
theorem hexq (q : Nat) (h : q < 16) : (⟨#[48, 49, 50, 51, 52, 53, 54, 55, 56, 57, 97, 98, 99, 100, 101, 102]⟩ : ByteArray)[q]'h = Pl.hex q := hex16 ⟨q, h⟩
theorem esc_ctl {c : UInt8} (h10 : ((c.toNat : Int) == 10) = false) (h13 : ((c.toNat : Int) == 13) = false) (h9 : ((c.toNat : Int) == 9) = false) (h8 : ((c.toNat : Int) == 8) = false) (h12 : ((c.toNat : Int) == 12) = false) (h32 : (c.toNat : Int) < 32) :
    Pl.esc c = [92, 117, 48, 48, Pl.hex (c.toNat / 16), Pl.hex (c.toNat % 16)] := by
  have h32' : c.toNat < 32 := by omega
  simp only [beq_eq_false_iff_ne, ne_eq] at h10 h13 h9 h8 h12
  unfold Pl.esc
  rw [if_neg (by omega), if_neg (by omega), if_neg (by omega), if_neg (by omega), if_neg (by omega), if_neg (by omega), if_pos h32']
theorem next_low {s : ByteArray} {l' R : List UInt8} {i : Nat} {c : UInt8} {x : List UInt8} (hi : i < s.size) (hc : s[i] = c) (hlo : c.toNat < 128) (h : l' ++ Pl.body s i = R) (hx : Pl.esc c = x) : (l' ++ x) ++ Pl.body s (i + 1) = R := by
  rw [← h, Pl.body_low s i hi (by rw [hc]; exact hlo), hc, hx]; simp
theorem next_lowlen {l' l x : List UInt8} {i : Nat} (h : l'.length ≤ l.length + 1 + 6 * i) (hx : x.length ≤ 6) : (l' ++ x).length ≤ l.length + 1 + 6 * (i + 1) := by rw [List.length_append]; omega
theorem Buf.below {w w' : World} {ao : Option Addr} {c : Nat} {l : List UInt8} (h : Buf w ao c l) (hb : Below w.heap.size w w') : Buf w' ao c l := h.kept hb.size fun k hk => hb.block k (h.lt k hk)
theorem next_high {s : ByteArray} {l' R : List UInt8} {i r n : Nat} {x : List UInt8} (hi : i < s.size) (hh : ¬ s[i].toNat < 128) (hd : Pl.dec s i = (r, n)) (h : l' ++ Pl.body s i = R) (hx : Pl.wide r n (s.extract i (i + n)).data.toList = x) : (l' ++ x) ++ Pl.body s (i + n) = R := by
  rw [← h, Pl.body_high s i hi hh, hd, ← hx]; simp
theorem next_highlen {l' l x : List UInt8} {i n : Nat} (h : l'.length ≤ l.length + 1 + 6 * i) (hx : x.length ≤ 6 * n) : (l' ++ x).length ≤ l.length + 1 + 6 * (i + n) := by rw [List.length_append]; omega
theorem wide_bad {r n : Nat} {raw : List UInt8} (h1 : ((r : Int) == 65533) = true) (h2 : ((n : Int) == 1) = true) : Pl.wide r n raw = [92, 117, 102, 102, 102, 100] := by
  simp only [beq_iff_eq] at h1 h2
  unfold Pl.wide
  rw [if_pos ⟨by omega, by omega⟩]
theorem wide_raw {r n : Nat} {raw : List UInt8} (h : ¬ (((r : Int) == 65533) = true ∧ ((n : Int) == 1) = true)) (h1 : ((r : Int) == 8232) = false) (h2 : ((r : Int) == 8233) = false) : Pl.wide r n raw = raw := by
  simp only [beq_iff_eq, beq_eq_false_iff_ne, ne_eq] at h h1 h2
  unfold Pl.wide
  rw [if_neg (by omega), if_neg (by omega)]
theorem ne_of {r : Nat} {a b : Int} (h : ((r : Int) == a) = true) (hab : a ≠ b) : ((r : Int) == b) = false := by
  rw [beq_iff_eq] at h
  rw [h]
  exact beq_false_of_ne hab
theorem lenB (x : ByteArray) : x.data.toList.length = x.size := rfl
/-- append with the new list behind a name. -/
theorem appN (w : World) {ops : Array Oper} {rest : List Oper} {o : Oper} {a : Act} {Q : Exit → Act → World → Prop} (hgd : o.guard = none) (s x : Operand) (tx : TypeId)
    (ho : o.op = .call { callee := .builtin .append, args := #[s, x], argTypes := #[25, tx] })
    {ao : Option Addr} {c : Nat} (l : List UInt8) (hv : a.eval s = .slice ao l.length c) (h : Buf w ao c l)
    (xv : Value) (n : Nat) (news : List UInt8) (hn : news.length = n) (hx : a.eval x = xv) (hs : Src Tryd.prog 1 tx xv n (news.map bv) w) (hb : l.length + n ≤ 140737488355328)
    (hK : ∀ ao' c' w' l2, Hid (l2 = l ++ news) → Hid (Buf w' ao' c' l2) → Hid (Step w ao w' ao') → wpList Tryd.prog ops Q rest (a.put o.dst (.slice ao' l2.length c')) w') : wpList Tryd.prog ops Q (o :: rest) a w :=
  app w hgd s x tx ho l hv h xv n news hn hx hs hb fun ao' c' w' h1 h2 => hK ao' c' w' _ (hide rfl) (hide h1) (hide h2)
theorem two_eq {l' l2 x R T : List UInt8} {b : UInt8} (h : l2 = l' ++ x) (hh : (l' ++ (x ++ [b])) ++ R = T) : (l2 ++ [b]) ++ R = T := by
  rw [h, ← hh]; simp
theorem two_len {l' l2 x : List UInt8} {b : UInt8} {N : Nat} (h : l2 = l' ++ x) (hh : (l' ++ (x ++ [b])).length ≤ N) : (l2 ++ [b]).length ≤ N := by
  rw [h]; simpa using hh
theorem wide_ps56 {r n : Nat} {raw : List UInt8} (h : ((r : Int) == 8232) = true) : Pl.wide r n raw = [92, 117, 50, 48, 50] ++ [56] := by
  rw [beq_iff_eq] at h
  obtain rfl : r = 8232 := by omega
  unfold Pl.wide
  rw [if_neg (by omega), if_pos (by omega)]; rfl
theorem wide_ps57 {r n : Nat} {raw : List UInt8} (h : ((r : Int) == 8233) = true) : Pl.wide r n raw = [92, 117, 50, 48, 50] ++ [57] := by
  rw [beq_iff_eq] at h
  obtain rfl : r = 8233 := by omega
  unfold Pl.wide
  rw [if_neg (by omega), if_pos (by omega)]; rfl
theorem nW {c : UInt8} {k : Nat} (h : ((c.toNat : Int) == (k : Int)) = false) : ¬ c.toNat = k := by simp at h; omega
theorem yW {c : UInt8} {k : Nat} (h : ((c.toNat : Int) == (k : Int)) = true) : c.toNat = k := by simp at h; omega

set_option maxRecDepth 100000 in
set_option maxHeartbeats 4000000 in
theorem quote9 (w0 : World) (hT : Lib.Utf8Tabs 0 1 w0) (s : ByteArray) (hsz : s.size ≤ 1048576) (w : World) (hO : Old w0 w) (ao : Option Addr) (cp : Nat) (l : List UInt8) (hB : Buf w ao cp l) (hA : Own w0 ao) (hlen : l.length ≤ 100000000000000) :
    Calls Tryd.prog 9 #[.slice ao l.length cp, .string s] w fun e w' => ∃ ao' c' l', e = .returned (.slice ao' l'.length c') ∧ l' = l ++ Pl.quote s ∧ Buf w' ao' c' l' ∧ Step w ao w' ao' := by
  have HT := hide hT
  have HO := hide hO
  have HA := hide hA
  have HB0 := hide hB
  clear hT hO hA hB
  go_enter Tryd.func9, Tryd.ntmps9
  go_wp2_with (at_builtin; refine app _ rfl (.tmp 9) (.tmp 10) 25 rfl l rfl (HB0.out.alloc _) _ 1 [34] rfl rfl (srcNew _ [34]) (by omega) ?_; intro ao1 c1 w1 hB1 hS1)
  have HB1 := hide hB1
  have HS1 := hide ((Step.alloc w ao _).trans hS1)
  clear hB1 hS1 HB0
  go_loopg [0, 5] s.size (fun g c0 c5 wx => ∃ (i : Nat) (l' : List UInt8) (ao' : Option Addr) (c' : Nat), i ≤ s.size ∧ g = s.size - i ∧ c0 = .slice ao' l'.length c' ∧ c5 = .int .i64 i ∧
    Hid (Buf wx ao' c' l') ∧ Hid (Step w ao wx ao') ∧ Hid (l' ++ Pl.body s i = l ++ 34 :: Pl.body s 0) ∧ Hid (l'.length ≤ l.length + 1 + 6 * i))
  case atStart => exact ⟨0, l ++ [34], ao1, c1, by omega, by omega, by simp, rfl, HB1, HS1, by show _ = _; simp, by show _ ≤ _; simp⟩
  case round =>
    obtain ⟨i, l', ao', c', hin, rfl, rfl, rfl, HB, HS, HM, HK⟩ := hrel
    by_cases hi : i < s.size
    · obtain ⟨c, hc⟩ : ∃ c, s[i] = c := ⟨_, rfl⟩
      have Hc := hide hc
      by_cases hlo : (c.toNat : Int) < 128
      · have Hlo : Hid (c.toNat < 128) := by show _ < _; omega
        cases h34 : ((c.toNat : Int) == 34)
        · skip
          cases h92 : ((c.toNat : Int) == 92)
          · skip
            cases h10 : ((c.toNat : Int) == 10)
            · skip
              cases h13 : ((c.toNat : Int) == 13)
              · skip
                cases h9 : ((c.toNat : Int) == 9)
                · skip
                  cases h8 : ((c.toNat : Int) == 8)
                  · skip
                    cases h12 : ((c.toNat : Int) == 12)
                    · skip
                      by_cases h32 : (c.toNat : Int) < 32
                      · obtain ⟨q, hq⟩ : ∃ q, q = c.toNat / 16 := ⟨_, rfl⟩
                        obtain ⟨r, hr⟩ : ∃ r, r = c.toNat % 16 := ⟨_, rfl⟩
                        have h5 : (c.toNat : Int) / 16 = (q : Int) := by omega
                        have h6 : bits .and .u8 (c.toNat : Int) 15 = (r : Int) := by rw [and15c, hr]
                        have hq16 : q < 16 := by omega
                        have hr16 : r < 16 := by omega
                        have hq16i : (q : Int) < 16 := by omega
                        have hr16i : (r : Int) < 16 := by omega
                        have Hq := hide hq
                        have Hr := hide hr
                        clear hq hr
                        go_wp2_with fail
                        go_region_law (refine app_step _ rfl (.tmp 64) (.tmp 71) 25 rfl l' rfl ((HB.out.alloc _).drew) _ 6 [92, 117, 48, 48, (⟨#[48, 49, 50, 51, 52, 53, 54, 55, 56, 57, 97, 98, 99, 100, 101, 102]⟩ : ByteArray)[q]'hq16, (⟨#[48, 49, 50, 51, 52, 53, 54, 55, 56, 57, 97, 98, 99, 100, 101, 102]⟩ : ByteArray)[r]'hr16] rfl rfl (srcNew wr.drew [92, 117, 48, 48, (⟨#[48, 49, 50, 51, 52, 53, 54, 55, 56, 57, 97, 98, 99, 100, 101, 102]⟩ : ByteArray)[q]'hq16, (⟨#[48, 49, 50, 51, 52, 53, 54, 55, 56, 57, 97, 98, 99, 100, 101, 102]⟩ : ByteArray)[r]'hr16]) (by have := HK.out; omega) ?_; intro ao2 c2 w2 hB2 hS2)
                        all_goals go_wp2
                        all_goals go_roundg (s.size - (i + 1))
                        all_goals first
                          | (refine ⟨i + 1, l' ++ _, ao2, c2, by omega, rfl, by simp, rfl, hB2, HS.out.trans ((Step.alloc _ _ _).trans ((Step.drew _ _).trans hS2)), next_low hi Hc.out Hlo.out HM.out ?_, next_lowlen HK.out (by simp)⟩
                             rw [hexq q hq16, hexq r hr16, Hq.out, Hr.out]
                             exact esc_ctl h10 h13 h9 h8 h12 h32)
                          | omega
                      · go_wp2_with (at_builtin; refine app _ rfl (.tmp 21) (.tmp 23) 25 rfl l' rfl (HB.out.alloc _) _ 1 [c] rfl rfl (srcNew _ [c]) (by have := HK.out; omega) ?_; intro ao2 c2 w2 hB2 hS2)
                        go_roundg (s.size - (i + 1))
                        case measure => omega
                        case rel => exact ⟨i + 1, l' ++ [c], ao2, c2, by omega, rfl, by simp, rfl, hB2, HS.out.trans ((Step.alloc _ _ _).trans hS2), next_low hi Hc.out Hlo.out HM.out (by unfold Pl.esc; simp [nW (k := 34) h34, nW (k := 92) h92, nW (k := 10) h10, nW (k := 13) h13, nW (k := 9) h9, nW (k := 8) h8, nW (k := 12) h12]; omega), next_lowlen HK.out (by simp)⟩
                    · go_wp2_with (at_builtin; refine app _ rfl (.tmp 59) (.const (.string ⟨#[92, 102]⟩)) 9 rfl l' rfl HB.out _ 2 [92, 102] rfl rfl (srcStr _ ⟨#[92, 102]⟩) (by have := HK.out; omega) ?_; intro ao2 c2 w2 hB2 hS2)
                      go_roundg (s.size - (i + 1))
                      case measure => omega
                      case rel => exact ⟨i + 1, l' ++ [92, 102], ao2, c2, by omega, rfl, by simp, rfl, hB2, HS.out.trans hS2, next_low hi Hc.out Hlo.out HM.out (by unfold Pl.esc; simp [yW (k := 12) h12]), next_lowlen HK.out (by simp)⟩
                  · go_wp2_with (at_builtin; refine app _ rfl (.tmp 54) (.const (.string ⟨#[92, 98]⟩)) 9 rfl l' rfl HB.out _ 2 [92, 98] rfl rfl (srcStr _ ⟨#[92, 98]⟩) (by have := HK.out; omega) ?_; intro ao2 c2 w2 hB2 hS2)
                    go_roundg (s.size - (i + 1))
                    case measure => omega
                    case rel => exact ⟨i + 1, l' ++ [92, 98], ao2, c2, by omega, rfl, by simp, rfl, hB2, HS.out.trans hS2, next_low hi Hc.out Hlo.out HM.out (by unfold Pl.esc; simp [yW (k := 8) h8]), next_lowlen HK.out (by simp)⟩
                · go_wp2_with (at_builtin; refine app _ rfl (.tmp 49) (.const (.string ⟨#[92, 116]⟩)) 9 rfl l' rfl HB.out _ 2 [92, 116] rfl rfl (srcStr _ ⟨#[92, 116]⟩) (by have := HK.out; omega) ?_; intro ao2 c2 w2 hB2 hS2)
                  go_roundg (s.size - (i + 1))
                  case measure => omega
                  case rel => exact ⟨i + 1, l' ++ [92, 116], ao2, c2, by omega, rfl, by simp, rfl, hB2, HS.out.trans hS2, next_low hi Hc.out Hlo.out HM.out (by unfold Pl.esc; simp [yW (k := 9) h9]), next_lowlen HK.out (by simp)⟩
              · go_wp2_with (at_builtin; refine app _ rfl (.tmp 44) (.const (.string ⟨#[92, 114]⟩)) 9 rfl l' rfl HB.out _ 2 [92, 114] rfl rfl (srcStr _ ⟨#[92, 114]⟩) (by have := HK.out; omega) ?_; intro ao2 c2 w2 hB2 hS2)
                go_roundg (s.size - (i + 1))
                case measure => omega
                case rel => exact ⟨i + 1, l' ++ [92, 114], ao2, c2, by omega, rfl, by simp, rfl, hB2, HS.out.trans hS2, next_low hi Hc.out Hlo.out HM.out (by unfold Pl.esc; simp [yW (k := 13) h13]), next_lowlen HK.out (by simp)⟩
            · go_wp2_with (at_builtin; refine app _ rfl (.tmp 39) (.const (.string ⟨#[92, 110]⟩)) 9 rfl l' rfl HB.out _ 2 [92, 110] rfl rfl (srcStr _ ⟨#[92, 110]⟩) (by have := HK.out; omega) ?_; intro ao2 c2 w2 hB2 hS2)
              go_roundg (s.size - (i + 1))
              case measure => omega
              case rel => exact ⟨i + 1, l' ++ [92, 110], ao2, c2, by omega, rfl, by simp, rfl, hB2, HS.out.trans hS2, next_low hi Hc.out Hlo.out HM.out (by unfold Pl.esc; simp [yW (k := 10) h10]), next_lowlen HK.out (by simp)⟩
          · go_wp2_with (at_builtin; refine app _ rfl (.tmp 32) (.tmp 34) 25 rfl l' rfl (HB.out.alloc _) _ 2 [92, c] rfl rfl (srcNew _ [92, c]) (by have := HK.out; omega) ?_; intro ao2 c2 w2 hB2 hS2)
            go_roundg (s.size - (i + 1))
            case measure => omega
            case rel => exact ⟨i + 1, l' ++ [92, c], ao2, c2, by omega, rfl, by simp, rfl, hB2, HS.out.trans ((Step.alloc _ _ _).trans hS2), next_low hi Hc.out Hlo.out HM.out (by unfold Pl.esc; simp [yW (k := 92) h92]), next_lowlen HK.out (by simp)⟩
        · go_wp2_with (at_builtin; refine app _ rfl (.tmp 32) (.tmp 34) 25 rfl l' rfl (HB.out.alloc _) _ 2 [92, c] rfl rfl (srcNew _ [92, c]) (by have := HK.out; omega) ?_; intro ao2 c2 w2 hB2 hS2)
          go_roundg (s.size - (i + 1))
          case measure => omega
          case rel => exact ⟨i + 1, l' ++ [92, c], ao2, c2, by omega, rfl, by simp, rfl, hB2, HS.out.trans ((Step.alloc _ _ _).trans hS2), next_low hi Hc.out Hlo.out HM.out (by unfold Pl.esc; simp [yW (k := 34) h34]), next_lowlen HK.out (by simp)⟩
      · have Hhi : Hid (¬ s[i].toNat < 128) := by show ¬ _; rw [hc]; omega
        obtain ⟨r, n, hd⟩ : ∃ r n, Pl.dec s i = (r, n) := ⟨_, _, rfl⟩
        have hn1 : 1 ≤ n := by have := Pl.dec_pos s i hi; rw [hd] at this; exact this
        have hn2 : i + n ≤ s.size := by have := Pl.dec_le s i hi; rw [hd] at this; exact this
        have H21 := hide (Tryd.utf8_DecodeRuneInString (s.extract i s.size) wr ((HO.out.step HS.out HA.out).tabs HT.out))
        rw [show Lib.decodeGo (s.extract i s.size) = (r, n) from hd] at H21
        have hs1 : (i : Int) + (n : Int) ≤ (s.size : Int) := by omega
        have hs2 : IntKind.i64.wrap ((i : Int) + (n : Int)) = (i : Int) + (n : Int) := by rw [IntKind.wrap_i64]; omega
        have hs3 : ((i : Int) + (n : Int)).toNat = i + n := by omega
        have hs4 : (i : Int) ≤ (i : Int) + (n : Int) := by omega
        have Hd := hide hd
        clear hd
        by_cases hbad : ((r : Int) == 65533) = true ∧ ((n : Int) == 1) = true
        · obtain ⟨hA, hN⟩ := hbad
          go_wp2_with (first | (go_at_call 21; refine H21.out.mono ?_; rintro e w2 ⟨rfl, hBl⟩; have HBl := hide hBl; clear hBl) | (at_builtin; refine app _ rfl (.tmp 97) (.const (.string ⟨#[92, 117, 102, 102, 102, 100]⟩)) 9 rfl l' rfl (HB.out.below HBl.out) _ 6 [92, 117, 102, 102, 102, 100] rfl rfl (srcStr _ ⟨#[92, 117, 102, 102, 102, 100]⟩) (by have := HK.out; omega) ?_; intro ao2 c2 w3 hB2 hS2))
          go_roundg (s.size - (i + n))
          case measure => omega
          case rel => exact ⟨i + n, l' ++ [92, 117, 102, 102, 102, 100], ao2, c2, by omega, rfl, by simp, by go_num, hB2, HS.out.trans ((Step.of_below HBl.out _).trans hS2), next_high hi Hhi.out Hd.out HM.out (wide_bad hA hN), next_highlen HK.out (by simp; omega)⟩
        · have HX : Hid ((s.extract i (i + n)).size = n) := by show _ = _; rw [ByteArray.size_extract]; omega
          cases hA : ((r : Int) == 65533)
          · cases h28 : ((r : Int) == 8232)
            · cases h29 : ((r : Int) == 8233)
              · go_wp2_with (first | (go_at_call 21; refine H21.out.mono ?_; rintro e w2 ⟨rfl, hBl⟩; have HBl := hide hBl; clear hBl) | (at_builtin; refine app _ rfl (.tmp 82) (.tmp 88) 9 rfl l' rfl (HB.out.below HBl.out) _ (s.extract i (i + n)).size (s.extract i (i + n)).data.toList (lenB _) rfl (srcStr _ (s.extract i (i + n))) (by have := HK.out; have := HX.out; omega) ?_; intro ao2 c2 w3 hB2 hS2))
                go_roundg (s.size - (i + n))
                case measure => omega
                case rel => exact ⟨i + n, l' ++ (s.extract i (i + n)).data.toList, ao2, c2, by omega, rfl, by rw [List.length_append, lenB, HX.out, Nat.min_eq_left (by omega)], by go_num, hB2, HS.out.trans ((Step.of_below HBl.out _).trans hS2), next_high hi Hhi.out Hd.out HM.out (wide_raw hbad h28 h29), next_highlen HK.out (by rw [lenB, HX.out]; omega)⟩
              · have hb15 : bits .and .i32 (r : Int) 15 = 9 := by rw [beq_iff_eq] at h29; rw [h29]; decide
                go_wp2_with (first | (go_at_call 21; refine H21.out.mono ?_; rintro e w2 ⟨rfl, hBl⟩; have HBl := hide hBl; clear hBl) | (at_builtin; refine appN _ rfl (.tmp 106) (.const (.string ⟨#[92, 117, 50, 48, 50]⟩)) 9 rfl l' rfl (HB.out.below HBl.out) _ 5 [92, 117, 50, 48, 50] rfl rfl (srcStr _ ⟨#[92, 117, 50, 48, 50]⟩) (by have := HK.out; omega) ?_; intro ao2 c2 w3 l2 Hl2 HB2 HS2) | (at_builtin; refine app _ rfl (.tmp 108) (.tmp 112) 25 rfl l2 rfl (HB2.out.alloc _) _ 1 [57] rfl rfl (srcNew _ [57]) (by have := HK.out; have := congrArg List.length Hl2.out; simp only [List.length_append, List.length_cons, List.length_nil] at this; omega) ?_; intro ao3 c3 w4 hB3 hS3))
                go_roundg (s.size - (i + n))
                case measure => omega
                case rel => exact ⟨i + n, l2 ++ [57], ao3, c3, by omega, rfl, by simp, by go_num, hB3, HS.out.trans ((Step.of_below HBl.out _).trans (HS2.out.trans ((Step.alloc _ _ _).trans hS3))), two_eq Hl2.out (next_high hi Hhi.out Hd.out HM.out (wide_ps57 h29 )), two_len Hl2.out (next_highlen (x := [92, 117, 50, 48, 50, 57]) HK.out (by simp; omega))⟩
            · have h29 : ((r : Int) == 8233) = false := ne_of h28 (by decide)
              have hb15 : bits .and .i32 (r : Int) 15 = 8 := by rw [beq_iff_eq] at h28; rw [h28]; decide
              go_wp2_with (first | (go_at_call 21; refine H21.out.mono ?_; rintro e w2 ⟨rfl, hBl⟩; have HBl := hide hBl; clear hBl) | (at_builtin; refine appN _ rfl (.tmp 106) (.const (.string ⟨#[92, 117, 50, 48, 50]⟩)) 9 rfl l' rfl (HB.out.below HBl.out) _ 5 [92, 117, 50, 48, 50] rfl rfl (srcStr _ ⟨#[92, 117, 50, 48, 50]⟩) (by have := HK.out; omega) ?_; intro ao2 c2 w3 l2 Hl2 HB2 HS2) | (at_builtin; refine app _ rfl (.tmp 108) (.tmp 112) 25 rfl l2 rfl (HB2.out.alloc _) _ 1 [56] rfl rfl (srcNew _ [56]) (by have := HK.out; have := congrArg List.length Hl2.out; simp only [List.length_append, List.length_cons, List.length_nil] at this; omega) ?_; intro ao3 c3 w4 hB3 hS3))
              go_roundg (s.size - (i + n))
              case measure => omega
              case rel => exact ⟨i + n, l2 ++ [56], ao3, c3, by omega, rfl, by simp, by go_num, hB3, HS.out.trans ((Step.of_below HBl.out _).trans (HS2.out.trans ((Step.alloc _ _ _).trans hS3))), two_eq Hl2.out (next_high hi Hhi.out Hd.out HM.out (wide_ps56 h28 )), two_len Hl2.out (next_highlen (x := [92, 117, 50, 48, 50, 56]) HK.out (by simp; omega))⟩
          · have hN : ((n : Int) == 1) = false := by
              cases h : ((n : Int) == 1)
              · rfl
              · exact absurd ⟨hA, h⟩ hbad
            have h28 : ((r : Int) == 8232) = false := ne_of hA (by decide)
            have h29 : ((r : Int) == 8233) = false := ne_of hA (by decide)
            go_wp2_with (first | (go_at_call 21; refine H21.out.mono ?_; rintro e w2 ⟨rfl, hBl⟩; have HBl := hide hBl; clear hBl) | (at_builtin; refine app _ rfl (.tmp 82) (.tmp 88) 9 rfl l' rfl (HB.out.below HBl.out) _ (s.extract i (i + n)).size (s.extract i (i + n)).data.toList (lenB _) rfl (srcStr _ (s.extract i (i + n))) (by have := HK.out; have := HX.out; omega) ?_; intro ao2 c2 w3 hB2 hS2))
            go_roundg (s.size - (i + n))
            case measure => omega
            case rel => exact ⟨i + n, l' ++ (s.extract i (i + n)).data.toList, ao2, c2, by omega, rfl, by rw [List.length_append, lenB, HX.out, Nat.min_eq_left (by omega)], by go_num, hB2, HS.out.trans ((Step.of_below HBl.out _).trans hS2), next_high hi Hhi.out Hd.out HM.out (wide_raw hbad h28 h29), next_highlen HK.out (by rw [lenB, HX.out]; omega)⟩
    · go_wp2_with (at_builtin; refine app _ rfl (.tmp 117) (.tmp 118) 25 rfl l' rfl (HB.out.alloc _) _ 1 [34] rfl rfl (srcNew _ [34]) (by have := HK.out; omega) ?_; intro ao2 c2 w2 hB2 hS2)
      go_ret
      refine ⟨ao2, c2, l' ++ [34], by simp, ?_, hB2, HS.out.trans ((Step.alloc _ _ _).trans hS2)⟩
      have := HM.out
      rw [Pl.body_end s i hi, List.append_nil] at this
      rw [this]
      simp [Pl.quote]
end Go.Proofs.Qxb6603514aDoor
