/-
  The law FnRawThenEachReadsTheMembersBack.
-/
import Derived.Test.Qxb6603514aDoorLa
import Derived.Test.Qxb6603514aDoorWg
import Derived.Deep.Light
import Derived.Deep.RegionHeld
namespace Go.Proofs.Qxb6603514aDoor
open Go.RowKit
def kp (kd : Nat → Nat) (k i : Nat) : Value := if i < k then .int .i64 (kd i) else .int .i64 0
theorem kp_step {w : World} {B n k : Nat} {kd : Nat → Nat} {v : Nat} (h : w.rowIs B 3 n (kp kd k)) : (w.setCell ⟨B, k, none⟩ (.int .i64 v)).rowIs B 3 n (kp (upd kd k v) (k + 1)) := by
  refine (h.set k _).congr fun i _ => ?_
  unfold kp upd
  by_cases e : i = k
  · subst e
    rw [if_pos rfl, if_pos (by omega), if_pos rfl]
  · rw [if_neg e, if_neg e]
    by_cases h1 : i < k
    · rw [if_pos h1, if_pos (by omega)]
    · rw [if_neg h1, if_neg (by omega)]
theorem kinds_step {L : Nat → List UInt8} {kd : Nat → Nat} {k v : Nat} (h : ∀ i, i < k → Kind (L i) (kd i)) (hv : Kind (L k) v) : ∀ i, i < k + 1 → Kind (L i) (upd kd k v i) := fun i hi => by
  unfold upd
  by_cases e : i = k
  · subst e; rw [if_pos rfl]; exact hv
  · rw [if_neg e]; exact h i (by omega)
theorem Ow.drew {w : World} {Bo : Nat} {ao : Option Addr} {c : Nat} {l : List UInt8} (h : Ow w Bo ao c l) : Ow w.drew Bo ao c l := ⟨h.box.drew, h.buf.drew, h.ne⟩
theorem Step.old_none {w w' : World} {a' : Option Addr} (h : Step w none w' a') : Old w w' := ⟨h.os, h.output, h.size, fun k hk => h.block k hk (by simp [blk])⟩
theorem map_get {α : Type} (f : Nat → α) {q k : Nat} (h : k < q) : ((List.range q).map f)[k]? = some (f k) := by simp [h]
theorem sfx_suffix {m : Nat} {Q Y : Nat → List UInt8} {tl : List UInt8} (h : tl = 123 :: sfx m Q Y 0) : ∀ k, k ≤ m → sfx m Q Y k <:+ tl
  | 0, _ => by rw [h]; exact List.suffix_cons _ _
  | k + 1, hk => by
    refine List.IsSuffix.trans ?_ (sfx_suffix h k (by omega))
    have e : sfx m Q Y k = Q k ++ 58 :: (Y k ++ tlF Q Y (k + 1) (m - (k + 1))) := by rw [sfx, if_pos (by omega)]
    rw [e]
    by_cases h1 : k + 1 < m
    · rw [tl_sfx h1]
      exact ⟨Q k ++ 58 :: (Y k ++ [44]), by simp⟩
    · rw [tl_end (by omega), sfx, if_neg h1]
      exact ⟨Q k ++ 58 :: Y k, by simp⟩
theorem drop_pQ {n m : Nat} {Q Y : Nat → List UInt8} {tl : List UInt8} (h : tl = 123 :: sfx m Q Y 0) (hn : n = tl.length) {k : Nat} (hk : k < m) : tl.drop (pQ n m Q Y k) = Q k ++ 58 :: (Y k ++ tlF Q Y (k + 1) (m - (k + 1))) := by
  have hs := List.suffix_iff_eq_drop.1 (sfx_suffix h k (by omega))
  unfold pQ
  rw [hn, ← hs, sfx, if_pos hk]
theorem Tx.sub {w : World} {b o : Nat} {tl x r : List UInt8} {i : Nat} (h : Tx w b o tl) (hd : tl.drop i = x ++ r) : Tx w b (o + i) x := by
  have hl := congrArg List.length hd
  rw [List.length_drop, List.length_append] at hl
  rcases Nat.eq_zero_or_pos x.length with h0 | h0
  · exact ⟨fun j hj => by omega⟩
  · have := h.part (s := i) (m := x.length) (by omega)
    rw [hd, List.take_left] at this
    exact this
set_option maxRecDepth 100000 in
set_option maxHeartbeats 16000000 in
theorem law4 (w : World) (hT : Lib.Utf8Tabs 0 1 w) (a : Option Addr) (n c : Nat) (N : Nat → ByteArray) (A : Nat → Option Addr) (C : Nat → Nat) (L : Nat → List UInt8) (hM : Mem w a n N A C L) :
    Calls Tryd.prog 4 #[.slice a n c] w fun e w' => e = .returned (.bool true) ∧ Hid (Old w w') := by
  have HT := hide hT
  have HM := hide hM
  clear hT hM
  go_enter Tryd.func4, Tryd.ntmps4
  go_wp2_with fail
  refine (bytes13 w a n c N A C L HM.out).mono ?_
  rintro e w' (⟨rfl, rfl⟩ | ⟨rfl, rfl, HB⟩)
  · go_wp2_with fail
    go_ret
    exact ⟨rfl, Old.refl _⟩
  have hn : n ≤ 1048576 := by have := HB.out; omega
  have hbd : ∀ i, i < n → (N i).size ≤ 1048576 ∧ (L i).length ≤ 1048576 := fun i hi => by have := sm_le N L n i hi; have := HB.out; omega
  have HBd := hide hbd
  clear hbd
  go_wp2_with fail
  refine (big6 w' a n c N A C L HM.out hn HBd.out).mono ?_
  rintro e w1 ⟨rfl | rfl, hO1⟩
  case inr =>
    go_wp2_with fail
    go_ret
    exact ⟨rfl, hO1⟩
  have HO1 := hide hO1
  clear hO1
  cases hn0 : ((n : Int) == 0)
  case true =>
    go_wp2_with fail
    go_ret
    exact ⟨rfl, HO1.out⟩
  have hpos : 0 < n := by simp at hn0; omega
  obtain ⟨b, o, rfl, hrow, htx⟩ := HM.out hpos
  have HRow := hide hrow
  have HTx := hide htx
  clear hrow htx
  have hmk := run_make_row' (P := Tryd.prog) 36 3 (.int .i64 0) 8 Tryd.underlying36 info3 rfl .i64 .i64 n (by omega) (by omega)
  go_wp2_with fail
  clear hmk
  go_loopg [4] n (fun g c4 wx => ∃ (k : Nat) (kd : Nat → Nat), k + g = n ∧ c4 = .int .i64 k ∧ Hid (wx.rowIs w1.heap.size 3 n (kp kd k)) ∧ Hid (∀ i, i < k → Kind (L i) (kd i)) ∧ Hid (Old w1 wx))
  case atStart => exact ⟨0, fun _ => 0, by omega, rfl, World.rowIs_made w1 _ n 3, fun i hi => by omega, (Old.refl w1).alloc _⟩
  case round =>
    obtain ⟨k, kd, hkg, rfl, HR, HK, HO⟩ := hrel
    by_cases hk : k < n
    · have hc2 := HO.out.cell (HO1.out.cell (HRow.out k hk).2)
      have HTk := hide (((HTx.out k hk).1.old HO1.out).old HO.out)
      have hki : (k : Int) < (n : Int) := by omega
      go_wp2_with fail
      refine (kind14 wr (A k) (C k) (L k) HTk.out (HBd.out k hk).2 (HTx.out k hk).2).mono ?_
      intro e w2 hx
      obtain ⟨hO2, hv⟩ := hx.out
      have HO2 := hide hO2
      clear hO2 hx hc2
      rcases hv with ⟨v, rfl⟩ | ⟨v, rfl, hKv⟩
      · go_wp2_with fail
        go_ret
        exact ⟨rfl, HO1.out.trans (HO.out.trans HO2.out)⟩
      · have HKv := hide hKv
        have HR2 := hide (HR.out.of_block (HO2.out.block _ HR.out.lt))
        have hcell : w2.cell? ⟨w1.heap.size, k, none⟩ = some (.int .i64 0) := by rw [HR2.out.cell hk]; simp [kp]
        have hfz : w2.frozen? ⟨w1.heap.size, k, none⟩ = false := HR2.out.frozen k
        clear hKv
        go_wp2_with fail
        go_roundg (n - (k + 1))
        case measure => omega
        case rel => exact ⟨k + 1, upd kd k v, by omega, rfl, kp_step HR2.out, kinds_step HK.out HKv.out, (HO.out.trans HO2.out).setCell (Nat.le_refl _) _⟩
    obtain rfl : k = n := by omega
    go_wp2_with fail
    refine (clone7 wr (some ⟨b, o, none⟩) k c N A C L ((HM.out.old HO1.out).old HO.out) hn HBd.out).mono ?_
    intro e w2 hx
    obtain ⟨a', c', A', C', rfl, hM2, hO2⟩ := hx.out
    obtain ⟨b', o', rfl, hrow2, htx2⟩ := hM2 hpos
    have HRow2 := hide hrow2
    have HTx2 := hide htx2
    have HOw2 := hide ((HO1.out.trans HO.out).trans hO2)
    have HT2 := hide (HOw2.out.tabs HT.out)
    have HR2 := hide (HR.out.of_block (hO2.block _ HR.out.lt))
    clear hrow2 htx2 hM2 hO2 hx HR HO
    go_wp2_with fail
    go_loopg [8] k (fun g c8 wx => ∃ (q : Nat) (l : List UInt8) (ao : Option Addr) (co : Nat), q + g = k ∧ c8 = .int .i64 q ∧ Hid (Ow wx w2.heap.size ao co l) ∧ Hid (Old w2 wx) ∧ Hid (Own w2 ao) ∧ Hid (l ++ yet k N L q = yet k N L 0) ∧ Hid (l.length ≤ 8 * q + 6 * sm N L q) ∧ Hid (l.length = 0 ↔ q = 0))
    case atStart => exact ⟨0, [], none, 0, by omega, rfl, (Duo.start w2).ow, (Old.refl w2).alloc _, fun _ h => (by cases h), (rfl : _ = _), Nat.zero_le _, by show _ ↔ _; simp⟩
    case round =>
      obtain ⟨q, l, ao, co, hqg, rfl, HW, HOx, HOwn, HY, HLn, HZ⟩ := hrel
      by_cases hq : q < k
      · obtain ⟨hc1, hc2⟩ := HRow2.out q hq
        have hc1 := HOx.out.cell hc1
        have hc2 := HOx.out.cell hc2
        have hqi : (q : Int) < (k : Int) := by omega
        have i0 : (0 : Int) ≤ (q : Int) := by omega
        have Hsml : Hid (l.length ≤ 50000000000000) := by have := HLn.out; have := HB.out; have := sm_mono N L (Nat.le_of_lt hq); show _ ≤ _; omega
        go_upto_region 20 with fail
        refine region_tail 10 (by kernel_rfl) (by kernel_rfl) ?_
        simp only [List.take_succ_cons, List.take_zero, List.drop_succ_cons, List.drop_zero]
        iterate 10 still_step
        refine wpStill_nil ?_
        go_wp2_with (go_at_call 8; refine (raw8 w2 HT2.out (N q) (HBd.out q hq).1 (A' q) (C' q) (L q) (HTx2.out q hq).1 (HBd.out q hq).2 (HTx2.out q hq).2 _ HOx.out.drew w2.heap.size (Nat.le_refl _) ao co l HW.out.drew HOwn.out Hsml.out).mono ?_; intro e w3 hx; obtain ⟨v1, a1, c1, l1, rfl, hl1, hW1, hR1⟩ := hx.out; have Hl1 := hide hl1; have HW1 := hide hW1; have HR1 := hide hR1; clear hl1 hW1 hR1 hx)
        go_roundg (k - (q + 1))
        case measure => omega
        case rel => exact ⟨q + 1, l1, a1, c1, by omega, by go_num, HW1.out, HR1.out.old HOx.out.drew HOwn.out (Nat.le_refl _), HR1.out.own HOx.out.drew HOwn.out, (yet_step hq HZ.out Hl1.out).symm.trans HY.out, len_step HLn.out Hl1.out, zero_next Hl1.out⟩
      obtain rfl : q = k := by omega
      have HD : Hid (l ++ [125] = 123 :: sfx q (qF N) (yF L) 0) := by
        have := HY.out
        rw [yet_end hpos] at this
        exact this
      have HLn2 : Hid (l.length ≤ 20000000) := by have := HLn.out; have := HB.out; show _ ≤ _; omega
      go_wp2_with (first
        | (go_at_call 12; refine (obj12 _ w2.heap.size ao co l HW.out).mono ?_; rintro e w3 ⟨rfl, rfl⟩)
        | (at_builtin; refine appN _ rfl (.tmp 71) (.tmp 72) 25 rfl l rfl (HW.out.buf.alloc _) _ 1 [125] rfl rfl (srcNew _ [125]) ?_ ?_; (have := HLn2.out; omega); intro ad cd wd l2 Hl2 HBd2 HSd))
      have HD2 : Hid (l2 = 123 :: sfx q (qF N) (yF L) 0) := Hl2.out.trans HD.out
      have HOd := hide (HOx.out.step ((Step.alloc _ _ _).trans HSd.out) HOwn.out)
      have hl2a : l2.length ≤ 50000000 := by have := HLn2.out; have h2 := congrArg List.length Hl2.out; simp only [List.length_append, List.length_cons, List.length_nil] at h2; omega
      have hl2b : 0 < l2.length := by have h2 := congrArg List.length Hl2.out; simp only [List.length_append, List.length_cons, List.length_nil] at h2; omega
      have hl2c : l2.length ≤ cd := HBd2.out.le
      obtain ⟨bd, rfl, hTd⟩ := HBd2.out.tx hl2b
      have HTd := hide hTd
      have Htop := hide (doc_top hpos HK.out HD2.out)
      clear hTd HW HY HLn HZ HD HLn2 HBd2 HSd Hl2
      refine (top15 bd 0 cd l2.length l2 rfl hl2a hl2b wd HTd.out).mono ?_
      intro e wt hx
      obtain ⟨hOt, hv⟩ := hx.out
      have HOt := hide (HOd.out.trans hOt)
      have HTt := hide (HTd.out.old hOt)
      clear hOt hx
      rcases hv with ⟨v, x, y, z, kb, rfl, rfl, hr⟩ | ⟨kk, x, y, z, rfl, hr⟩
      · rw [Htop.out] at hr; cases hr
      obtain rfl : kk = 6 := Option.some.inj (hr.symm.trans Htop.out)
      clear hr HTd HOd
      go_wp2_with fail
      refine (all16 wt bd 0 cd l2.length l2 rfl HTt.out hl2a hl2c q (qF N) (yF L) kd (doc_of HK.out HD2.out) (by omega)).mono ?_
      intro e wz hx
      obtain ⟨a0, a1, a2, a3, c0, c1, c2, c3, rfl, hOz, hb0, hb1, hb2, hb3⟩ := hx.out
      obtain ⟨x0, rfl, hx0⟩ := hb0.cells hpos
      obtain ⟨x1, rfl, hx1⟩ := hb1.cells hpos
      obtain ⟨x2, rfl, hx2⟩ := hb2.cells hpos
      obtain ⟨x3, rfl, hx3⟩ := hb3.cells hpos
      have HX0 := hide hx0
      have HX1 := hide hx1
      have HX2 := hide hx2
      have HX3 := hide hx3
      have HOz := hide (HOt.out.trans hOz)
      have HTz := hide (HTt.out.old hOz)
      clear hx hOz hb0 hb1 hb2 hb3 hx0 hx1 hx2 hx3 HOt HTt
      have HRz := hide (HR2.out.of_block (HOz.out.block _ HR2.out.lt))
      go_wp2_with fail
      go_loopg [19] q (fun g c19 wx => ∃ k : Nat, k + g = q ∧ c19 = .int .i64 k ∧ Hid (Old wz wx))
      case atStart => exact ⟨0, by omega, rfl, Old.refl _⟩
      case round =>
        obtain ⟨k, hkg, rfl, HO3⟩ := hrel
        by_cases hk : k < q
        case neg =>
          go_wp2_with fail
          go_ret
          exact ⟨rfl, HOw2.out.trans (HOz.out.trans HO3.out)⟩
        obtain ⟨P, hP⟩ : ∃ P, P = pQ l2.length q (qF N) (yF L) k := ⟨_, rfl⟩
        have hdP := drop_pQ HD2.out rfl hk
        rw [← hP] at hdP
        obtain ⟨R, hR⟩ : ∃ R, R = P + (qF N k).length + 1 := ⟨_, rfl⟩
        have hdR : l2.drop R = yF L k ++ tlF (qF N) (yF L) (k + 1) (q - (k + 1)) := by rw [hR]; exact drop_one (drop_app hdP)
        have HTn : Hid (Tx wr bd P (qF N k)) := by have := (HTz.out.sub hdP).old HO3.out; rw [Nat.zero_add] at this; exact this
        have HTv : Hid (Tx wr bd R (yF L k)) := by have := (HTz.out.sub hdR).old HO3.out; rw [Nat.zero_add] at this; exact this
        have xn : wr.cell? ⟨x0, k, none⟩ = some (.slice (some ⟨bd, P, none⟩) (qF N k).length (cd - P)) := by
          have := HO3.out.cell (HX0.out k _ (map_get _ hk))
          rw [nmV, ← hP, Nat.zero_add] at this
          exact this
        have xk : wr.cell? ⟨x1, k, none⟩ = some (.int .i64 4) := HO3.out.cell (HX1.out k _ (map_get _ hk))
        have xv : wr.cell? ⟨x2, k, none⟩ = some (.slice (some ⟨bd, R, none⟩) (yF L k).length (cd - R)) := by
          have := HO3.out.cell (HX2.out k _ (map_get _ hk))
          rw [vlV, ← hP, ← hR, Nat.zero_add] at this
          exact this
        have xK : wr.cell? ⟨x3, k, none⟩ = some (.int .i64 (kd k)) := HO3.out.cell (HX3.out k _ (map_get _ hk))
        have xw : wr.cell? ⟨w1.heap.size, k, none⟩ = some (.int .i64 (kd k)) := by
          have := HO3.out.cell (HRz.out.cell hk)
          rw [kp, if_pos hk] at this
          exact this
        have xm : wr.cell? ⟨b', o' + k * 2, none⟩ = some (.string (N k)) := HO3.out.cell (HOz.out.cell (HRow2.out k hk).1)
        have Hgood := hide (kind_good (HK.out k hk))
        have hki : (k : Int) < (q : Int) := by omega
        have HQn : Hid ((qF N k).length ≤ 100000000) := by have := Pl.quote_len (N k); have := (HBd.out k hk).1; show (Pl.quote (N k)).length ≤ _; omega
        have HQp : Hid (0 < (qF N k).length) := by show 0 < (Pl.quote (N k)).length; simp [Pl.quote]
        have HYn : Hid ((yF L k).length ≤ 100000000) := by have := Pl.val_len (L k); have := (HBd.out k hk).2; show (Pl.val (L k)).length ≤ _; omega
        have HOw := hide (HOz.out.trans HO3.out)
        clear hdP hdR hP hR
        go_upto_region 31 with fail
        go_cut [145] from 127 to 144 (fun s wx => s = .bool false ∧ Hid (Old wr wx))
        case first =>
          clear xv xK xw HTv Hgood HRz HR2 HX0 HX1 HX2 HX3 HTz HD2 Htop HK HB HM HRow HTx HO1
          go_region_held (fun w' => w'.cell? ⟨x1, k, none⟩ = some (.int .i64 4) ∧ w'.cell? ⟨x0, k, none⟩ = some (.slice (some ⟨bd, P, none⟩) (qF N k).length (cd - P)) ∧ w'.cell? ⟨b', o' + k * 2, none⟩ = some (.string (N k))) (go_keep) (first
            | (go_at_call 9; refine (quote9 w2 HT2.out (N k) (HBd.out k hk).1 _ HOw.out.drew none 0 [] (Buf.empty _) (fun _ h => nomatch h) (by decide)).mono ?_; rintro e wq ⟨aq, cq, lq, rfl, hlq, hBq, hSq⟩; obtain rfl : lq = qF N k := hlq; obtain ⟨bq, rfl, hTq⟩ := hBq.tx HQp.out; have hOq : Old wr wq := (Old.refl wr).drew.trans hSq.old_none; have yn := hOq.cell xn; have yk := hOq.cell xk; have ym := hOq.cell xm; have HTq := hide hTq; have HOq := hide hOq; clear hBq hSq hTq hOq)
            | (go_at_call 11; refine (eqT _ bd P bq 0 (cd - P) cq (qF N k).length (qF N k) rfl (HTn.out.old HOq.out) HTq.out HQn.out).mono ?_; rintro e w5 ⟨rfl, hO5⟩; have zn := hO5.cell yn; have zk := hO5.cell yk; have zm := hO5.cell ym; have HO5 := hide (HOq.out.trans hO5); clear hO5))
          all_goals go_wp2_with fail
          all_goals go_meet
          all_goals exact ⟨rfl, HO5⟩
        obtain ⟨rfl, HO5⟩ := hcut
        have xv := HO5.out.cell xv
        have xK := HO5.out.cell xK
        have xw := HO5.out.cell xw
        go_wp2_with fail
        go_quiet (fail)
        go_wp2_with fail
        refine (nsp17 _ bd R (cd - R) (yF L k).length (yF L k) rfl ((HTv.out.old HO5.out).old ((Old.refl wc).drewN _)) HYn.out).mono ?_
        intro e w6 hx
        obtain ⟨rfl, rfl⟩ := hx.out
        have hns : Pj.nsp false false (yF L k) = true := by
          obtain ⟨x, g⟩ := Hgood.out
          have := g.nsp []
          rw [List.append_nil] at this
          exact this
        rw [hns]
        clear hns hx
        go_wp2_with fail
        go_roundg (q - (k + 1))
        case measure => omega
        case rel => exact ⟨k + 1, by omega, by go_num, (HO3.out.trans HO5.out).drewN _⟩
end Go.Proofs.Qxb6603514aDoor
