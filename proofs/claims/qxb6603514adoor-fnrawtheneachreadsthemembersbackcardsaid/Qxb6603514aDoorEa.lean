/-
  each, over an object's text that is known.
-/
import Derived.Test.Qxb6603514aDoorCl
import Derived.Deep.DeepCutAuto
import Derived.Deep.RegionWith
import Derived.StillTailTactics
namespace Go.Proofs.Qxb6603514aDoor
open Go.RowKit
/-- What is left of the text at member k, and behind it. -/
def tlF (Q Y : Nat → List UInt8) (k : Nat) : Nat → List UInt8
  | 0 => [125]
  | j + 1 => 44 :: (Q k ++ 58 :: (Y k ++ tlF Q Y (k + 1) j))
def sfx (m : Nat) (Q Y : Nat → List UInt8) (k : Nat) : List UInt8 := if k < m then Q k ++ 58 :: (Y k ++ tlF Q Y (k + 1) (m - (k + 1))) else [125]
theorem tl_sfx {m k : Nat} {Q Y : Nat → List UInt8} (h : k + 1 < m) : tlF Q Y (k + 1) (m - (k + 1)) = 44 :: sfx m Q Y (k + 1) := by
  obtain ⟨j, hj⟩ : ∃ j, m - (k + 1) = j + 1 := ⟨m - (k + 1) - 1, by omega⟩
  rw [hj, tlF, sfx, if_pos h, show m - (k + 1 + 1) = j by omega]
theorem tl_end {m k : Nat} {Q Y : Nat → List UInt8} (h : k + 1 = m) : tlF Q Y (k + 1) (m - (k + 1)) = [125] := by
  rw [h, Nat.sub_self, tlF]
def Dl (r : List UInt8) : Prop := ∃ c t, r = c :: t ∧ (c = 44 ∨ c = 93 ∨ c = 125)
theorem tl_dl (Q Y : Nat → List UInt8) (k j : Nat) : Dl (tlF Q Y k j) := by
  cases j with
  | zero => exact ⟨125, [], rfl, by simp⟩
  | succ j => exact ⟨44, _, rfl, by simp⟩
structure Doc (tl : List UInt8) (m : Nat) (Q Y : Nat → List UInt8) (K : Nat → Nat) : Prop where
  whole : tl = 123 :: sfx m Q Y 0
  q : ∀ k, k < m → ∃ t, Q k = 34 :: t ∧ ∀ r, Pl.str (t ++ r) = (t, r)
  y : ∀ k, k < m → ∃ c t, Y k = c :: t ∧ Pl.ws c = false ∧ Pj.kindAt c = K k ∧ ∀ r, Dl r → Pj.vend (Y k ++ r) = r
theorem drop_inj {tl : List UInt8} {i j : Nat} (hi : i ≤ tl.length) (hj : j ≤ tl.length) (h : tl.drop i = tl.drop j) : i = j := by
  have := congrArg List.length h
  rw [List.length_drop, List.length_drop] at this
  omega
theorem skip_same {tl t : List UInt8} {i j : Nat} {c : UInt8} (hi : i ≤ tl.length) (hj : j ≤ tl.length) (h : tl.drop j = Pj.skip (tl.drop i)) (hc : tl.drop i = c :: t) (hw : Pl.ws c = false) : j = i := by
  refine drop_inj hj hi ?_
  rw [h, hc, Pj.skip, if_neg (by simp [hw])]
theorem drop_app {tl x r : List UInt8} {i : Nat} (h : tl.drop i = x ++ r) : tl.drop (i + x.length) = r := by
  rw [← List.drop_drop, h, List.drop_left]
theorem drop_one {tl r : List UInt8} {i : Nat} {c : UInt8} (h : tl.drop i = c :: r) : tl.drop (i + 1) = r := by
  rw [← List.drop_drop, h]; rfl
theorem drop_lt {tl r : List UInt8} {i : Nat} {c : UInt8} (h : tl.drop i = c :: r) : ∃ hi : i < tl.length, tl[i] = c := by
  have hi : i < tl.length := by
    rcases Nat.lt_or_ge i tl.length with h1 | h1
    · exact h1
    · rw [List.drop_eq_nil_of_le h1] at h; cases h
  refine ⟨hi, ?_⟩
  rw [drop_cons hi] at h
  exact (List.cons.inj h).1
theorem Tx.at {w : World} {b o : Nat} {tl r : List UInt8} {i : Nat} {c : UInt8} (h : Tx w b o tl) (hd : tl.drop i = c :: r) : w.cell? ⟨b, o + i, none⟩ = some (.int .u8 c.toNat) := by
  obtain ⟨hi, e⟩ := drop_lt hd
  rw [h.cell i hi, e]
/-- The value's own box. -/
structure Vb (B V : Nat) (w : World) (a : Fin 4 → Option Addr) : Prop where
  k : w.cell? ⟨V, 0, none⟩ = some (.int .i64 6)
  d : w.cell? ⟨V, 2, none⟩ = some (.pointer none)
  lt : B + 4 ≤ V
  ne : ∀ i, blk (a i) ≠ some V
theorem Vb.on {B V : Nat} {w w' : World} {a : Fin 4 → Option Addr} (h : Vb B V w a) (ho : Old w w') : Vb B V w' a := ⟨ho.cell h.k, ho.cell h.d, h.lt, h.ne⟩
theorem Vb.fr {B V : Nat} {w w' : World} {a a' : Fin 4 → Option Addr} (h : Vb B V w a) (hf : Fr B w a w' a') : Vb B V w' a' :=
  ⟨hf.cell h.k h.lt h.ne, hf.cell h.d h.lt h.ne, h.lt, hf.aside (World.block_lt_of_cell? _ _ h.k) h.ne⟩
/-- Where member k starts; where its value starts. -/
def pQ (n m : Nat) (Q Y : Nat → List UInt8) (k : Nat) : Nat := n - (sfx m Q Y k).length
def nmV (b o tc n m : Nat) (Q Y : Nat → List UInt8) (k : Nat) : Value := .slice (some ⟨b, o + pQ n m Q Y k, none⟩) (Q k).length (tc - pQ n m Q Y k)
def vlV (b o tc n m : Nat) (Q Y : Nat → List UInt8) (k : Nat) : Value := .slice (some ⟨b, o + (pQ n m Q Y k + (Q k).length + 1), none⟩) (Y k).length (tc - (pQ n m Q Y k + (Q k).length + 1))
theorem pQ_of {tl : List UInt8} {n m k p : Nat} {Q Y : Nat → List UInt8} (hn : n = tl.length) (hp : p ≤ n) (h : tl.drop p = sfx m Q Y k) : p = pQ n m Q Y k := by
  unfold pQ
  rw [← h, List.length_drop, ← hn]
  omega
theorem range_next {α : Type} (f : Nat → α) (k : Nat) : (List.range k).map f ++ [f k] = (List.range (k + 1)).map f := by
  rw [List.range_succ, List.map_append]; rfl
theorem region_tail {P : Program} {id : Nat} {Q : Exit → Act → World → Prop} {a : Act} {w : World} {l : List Oper} (n : Nat) (hm : P.follows .mixedOrders = true) (hB : Region.lexTailB .any l.toArray n = true)
    (h : wpStill P l.toArray w.drew (fun a' => wpList P l.toArray Q (l.drop n) a' w.drew) (l.take n) a) : (Code.region id l.toArray true).wp P Q a w := wp_region_still_tail n hm hB h
set_option maxRecDepth 100000 in
set_option maxHeartbeats 8000000 in
theorem each26 (w0 : World) (B b o tc n : Nat) (tl : List UInt8) (hn : n = tl.length) (hT : Tx w0 b o tl) (hN : n ≤ 50000000) (htc : n ≤ tc) (m : Nat) (Q Y : Nat → List UInt8) (K : Nat → Nat) (hD : Doc tl m Q Y K) (hm : m ≤ 50000000)
    (w : World) (hQ : Quad w0 B w (q4 none none none none) (q4 0 0 0 0) (q4 0 0 0 0) (q4 [] [] [] [])) :
    Calls Tryd.prog 26 #[.agg #[.int .i64 6, .slice (some ⟨b, o, none⟩) n tc, .pointer none], .func (Fn.func 27) #[] #[.pointer (some ⟨B, 0, none⟩), .pointer (some ⟨B + 1, 0, none⟩), .pointer (some ⟨B + 2, 0, none⟩), .pointer (some ⟨B + 3, 0, none⟩)]] w fun e w' =>
      Hid (∃ v a0 a1 a2 a3 c0 c1 c2 c3, e = .returned v ∧ Quad w0 B w' (q4 a0 a1 a2 a3) (q4 c0 c1 c2 c3) (q4 m m m m) (q4 ((List.range m).map (nmV b o tc n m Q Y)) ((List.range m).map fun _ => .int .i64 4) ((List.range m).map (vlV b o tc n m Q Y)) ((List.range m).map fun k => .int .i64 (K k)))) := by
  have HT := hide hT
  have HN := hide hn
  have HD := hide hD
  have HQ0 := hide (hQ.on ((Old.refl w).alloc (.cells #[.int .i64 6, .slice (some ⟨b, o, none⟩) n tc, .pointer none] 60)))
  have HV0 : Hid (Vb B w.heap.size (w.alloc (.cells #[.int .i64 6, .slice (some ⟨b, o, none⟩) n tc, .pointer none] 60)) (q4 none none none none)) :=
    ⟨by rw [World.cell?_alloc_at _ _ _ _ rfl]; rfl, by rw [World.cell?_alloc_at _ _ _ _ rfl]; rfl, hQ.lt, fun i e => by have := (hQ.buf i).lt _ e; omega⟩
  have hd1 : tl.drop 1 = sfx m Q Y 0 := by rw [hD.whole]; rfl
  have Hd1 := hide hd1
  have hlen : 2 ≤ n := by
    have := congrArg List.length hd1
    rw [List.length_drop, ← hn] at this
    have : 1 ≤ (sfx m Q Y 0).length := by
      unfold sfx; split
      · simp only [List.length_append, List.length_cons]; omega
      · simp
    omega
  have hS0 : ∃ c t, sfx m Q Y 0 = c :: t ∧ Pl.ws c = false := by
    unfold sfx
    split
    · rename_i h
      obtain ⟨t, e, _⟩ := hD.q 0 h
      exact ⟨34, _, by rw [e]; rfl, by decide⟩
    · exact ⟨125, [], rfl, by decide⟩
  have HS0 := hide hS0
  clear hT hn hD hQ hd1 hS0
  go_enter Tryd.func26, Tryd.ntmps26
  go_wp2_with fail
  refine (from33 _ _).mono ?_
  intro e w1 hx
  obtain ⟨rfl, hO1⟩ := hx.out
  have HQ1 := hide (HQ0.out.on hO1)
  have HV1 := hide (HV0.out.on hO1)
  clear hO1 hx HQ0 HV0
  go_wp2_with fail
  refine (skip34 w1 b o tc n tl HN.out (HT.out.old HQ1.out.old) (by omega) 1 (by omega)).mono ?_
  intro e w2 hx
  obtain ⟨j, rfl, rfl, hij, hjn, hd⟩ := hx.out
  obtain rfl : j = 1 := by
    obtain ⟨c, t, e1, e2⟩ := HS0.out
    exact skip_same (by rw [← HN.out]; omega) (by rw [← HN.out]; omega) hd (Hd1.out.trans e1) e2
  clear hd hx
  go_wp2_with fail
  go_loopg [6, 7] m (fun g c6 c7 wx => ∃ (k p : Nat) (a0 a1 a2 a3 : Option Addr) (e0 e1 e2 e3 : Nat), k + g = m ∧ c6 = .slice none 0 0 ∧ c7 = .int .i64 p ∧ p ≤ n ∧ Hid (tl.drop p = sfx m Q Y k) ∧
    Hid (Quad w0 B wx (q4 a0 a1 a2 a3) (q4 e0 e1 e2 e3) (q4 k k k k) (q4 ((List.range k).map (nmV b o tc n m Q Y)) ((List.range k).map fun _ => .int .i64 4) ((List.range k).map (vlV b o tc n m Q Y)) ((List.range k).map fun k => .int .i64 (K k)))) ∧ Hid (Vb B w.heap.size wx (q4 a0 a1 a2 a3)))
  case atStart => exact ⟨0, 1, none, none, none, none, 0, 0, 0, 0, by omega, rfl, rfl, by omega, Hd1, HQ1, HV1⟩
  case round =>
    obtain ⟨k, p, a0, a1, a2, a3, e0, e1, e2, e3, hkg, rfl, rfl, hpn, Hp, HQ, HV⟩ := hrel
    clear HQ1 HV1
    by_cases hk : k < m
    case neg =>
      have hdp : tl.drop p = 125 :: [] := by have := Hp.out; unfold sfx at this; rw [if_neg hk] at this; exact this
      have xp : wr.cell? ⟨b, o + p, none⟩ = some (.int .u8 125) := (HT.out.old HQ.out.old).at hdp
      have hplt : p < n := by rw [HN.out]; exact (drop_lt hdp).1
      obtain rfl : k = m := by omega
      clear hdp
      go_wp2_with fail
      go_end0
      exact hide ⟨_, a0, a1, a2, a3, e0, e1, e2, e3, rfl, HQ.out⟩
    obtain ⟨qt, hq, hqs⟩ := HD.out.q k hk
    obtain ⟨yc, yt, hy, hyw, hyk, hyv⟩ := HD.out.y k hk
    have hdp : tl.drop p = Q k ++ 58 :: (Y k ++ tlF Q Y (k + 1) (m - (k + 1))) := by have := Hp.out; unfold sfx at this; rw [if_pos hk] at this; exact this
    have hdp2 : tl.drop p = 34 :: (qt ++ 58 :: (Y k ++ tlF Q Y (k + 1) (m - (k + 1)))) := by rw [hdp, hq]; rfl
    have xp : wr.cell? ⟨b, o + p, none⟩ = some (.int .u8 34) := (HT.out.old HQ.out.old).at hdp2
    have hplt : p < n := by rw [HN.out]; exact (drop_lt hdp2).1
    have hstr : Pl.str (tl.drop (p + 1)) = (qt, 58 :: (Y k ++ tlF Q Y (k + 1) (m - (k + 1)))) := by rw [drop_one hdp2, hqs]
    obtain ⟨E, hE⟩ : ∃ E, E = p + (Q k).length := ⟨_, rfl⟩
    have hE1 : p + 1 + qt.length = E := by rw [hE, hq, List.length_cons]; omega
    have hdE : tl.drop E = 58 :: (Y k ++ tlF Q Y (k + 1) (m - (k + 1))) := by rw [hE]; exact drop_app hdp
    have hEn : E < n := by rw [HN.out]; exact (drop_lt hdE).1
    have hdR : tl.drop (E + 1) = Y k ++ tlF Q Y (k + 1) (m - (k + 1)) := drop_one hdE
    have hdR2 : tl.drop (E + 1) = yc :: (yt ++ tlF Q Y (k + 1) (m - (k + 1))) := by rw [hdR, hy]; rfl
    have hRn : E + 1 < n := by rw [HN.out]; exact (drop_lt hdR2).1
    have Hstr := hide hstr
    have HE := hide hE
    have HE1 := hide hE1
    have HdE := hide hdE
    have HdR := hide hdR
    have HdR2 := hide hdR2
    have Hyw := hide hyw
    have Hyk := hide hyk
    have Hyv := hide hyv
    have HXp := hide (HT.out.old HQ.out.old)
    obtain ⟨hV0, hV2, _, _⟩ := HV.out
    have hVlt : w.heap.size < wr.heap.size := World.block_lt_of_cell? _ _ hV0
    have hVne : ¬ w.heap.size = wr.heap.size := by omega
    have hV0a : ∀ o : Obj, (wr.alloc o).cell? ⟨w.heap.size, 0, none⟩ = some (.int .i64 6) := fun o => ((Old.refl wr).alloc o).cell hV0
    have hV2a : ∀ o : Obj, (wr.alloc o).cell? ⟨w.heap.size, 2, none⟩ = some (.pointer none) := fun o => ((Old.refl wr).alloc o).cell hV2
    clear hV0 hV2
    have htp : ¬ tc = p := by omega
    clear hdp hdp2 hstr hE hE1 hdE hdR hdR2 hyw hyk hyv hq hqs hy
    go_wp2_with fail
    refine (endb _ b o tc n tl HN.out (HXp.out.old ((Old.refl _).alloc _)) (by omega) p hplt).mono ?_
    intro e w3 hx
    obtain ⟨E', rfl, rfl, hpE, hEn', _, hE'⟩ := hx.out
    obtain rfl : E' = E := by rw [hE', Hstr.out]; exact HE1.out
    clear hE' hx
    have hpE2 : (p : Int) ≤ (E' : Int) := by omega
    go_wp2_with fail
    refine (skip34 _ b o tc n tl HN.out (HXp.out.old ((Old.refl _).alloc _)) (by omega) E' (by omega)).mono ?_
    intro e w4 hx
    obtain ⟨j1, rfl, rfl, _, hj1n, hd⟩ := hx.out
    obtain rfl : j1 = E' := skip_same (by rw [← HN.out]; omega) (by rw [← HN.out]; omega) hd HdE.out (by decide)
    clear hd hx
    go_wp2_with fail
    refine (skip34 _ b o tc n tl HN.out (HXp.out.old ((Old.refl _).alloc _)) (by omega) (j1 + 1) (by omega)).mono ?_
    intro e w5 hx
    obtain ⟨j2, rfl, rfl, _, hj2n, hd⟩ := hx.out
    obtain rfl : j2 = j1 + 1 := skip_same (by rw [← HN.out]; omega) (by rw [← HN.out]; omega) hd HdR2.out Hyw.out
    clear hd hx
    go_wp2_with fail
    go_loopg [6] 0 (fun g c6 wx => g = 0 ∧ c6 = .slice none 0 0 ∧ wr.alloc (.cells #[.int .i64 4, .slice (some ⟨b, o + p, none⟩) (j1 - p) (tc - p), .pointer none] 60) = wx)
    case atStart => exact ⟨rfl, rfl, rfl⟩
    case round =>
      obtain ⟨rfl, rfl, rfl⟩ := hrel
      have HXq := hide (HXp.out.old ((Old.refl wr).alloc (.cells #[.int .i64 4, .slice (some ⟨b, o + p, none⟩) (j1 - p) (tc - p), .pointer none] 60)))
      go_wp2_with fail
      refine (vend35 _ b o tc n tl HN.out HXq.out (by omega) (j1 + 1) (by omega)).mono ?_
      intro e w6 hx
      obtain ⟨j, rfl, rfl, hRj, hjn, hd⟩ := hx.out
      have hdj : tl.drop j = tlF Q Y (k + 1) (m - (k + 1)) := by rw [hd, HdR.out]; exact Hyv.out _ (tl_dl _ _ _ _)
      have hjv : j = j1 + 1 + (Y k).length := drop_inj (by rw [← HN.out]; omega) (by
        have := congrArg List.length HdR.out
        rw [List.length_drop, List.length_append] at this
        have h2 := congrArg List.length hdj
        rw [List.length_drop] at h2
        rw [← HN.out] at this h2 ⊢
        omega) (by rw [hdj, drop_app HdR.out])
      have Hdj := hide hdj
      have Hjv := hide hjv
      clear hd hdj hjv hx
      have xy : (wr.alloc (.cells #[.int .i64 4, .slice (some ⟨b, o + p, none⟩) (j1 - p) (tc - p), .pointer none] 60)).cell? ⟨b, o + (j1 + 1), none⟩ = some (.int .u8 yc.toNat) := HXq.out.at HdR2.out
      have hRj2 : ((j1 + 1 : Nat) : Int) ≤ (j : Int) := by omega
      have htR : ¬ tc = j1 + 1 := by omega
      have hpq : p = pQ n m Q Y k := pQ_of HN.out hpn Hp.out
      have hEj : j1 = p + (Q k).length := HE.out
      have hJv : j = j1 + 1 + (Y k).length := Hjv.out
      have E0 : (List.range k).map (nmV b o tc n m Q Y) ++ [.slice (some ⟨b, o + p, none⟩) (j1 - p) (tc - p)] = (List.range (k + 1)).map (nmV b o tc n m Q Y) := by
        rw [← range_next]
        congr 2
        unfold nmV
        rw [← hpq, show (Q k).length = j1 - p by omega]
      have E2 : (List.range k).map (vlV b o tc n m Q Y) ++ [.slice (some ⟨b, o + (j1 + 1), none⟩) (j - (j1 + 1)) (tc - (j1 + 1))] = (List.range (k + 1)).map (vlV b o tc n m Q Y) := by
        rw [← range_next]
        congr 2
        unfold vlV
        rw [← hpq, show (Y k).length = j - (j1 + 1) by omega, show p + (Q k).length + 1 = j1 + 1 by omega]
      have E1 : (List.range k).map (fun _ => Value.int .i64 4) ++ [.int .i64 4] = (List.range (k + 1)).map (fun _ => Value.int .i64 4) := range_next (fun _ => Value.int .i64 4) k
      have E3 : (List.range k).map (fun k => Value.int .i64 (K k)) ++ [.int .i64 (Pj.kindAt yc : Nat)] = (List.range (k + 1)).map (fun k => Value.int .i64 (K k)) := by
        rw [Hyk.out]; exact range_next (fun k => Value.int .i64 (K k)) k
      have HE0 := hide E0
      have HE1' := hide E1
      have HE2 := hide E2
      have HE3 := hide E3
      clear E0 E1 E2 E3 hpq hEj hJv
      go_upto_region 17 with fail
      go_cut [111] from 96 to 110 (fun s wx => s = .bool false ∧ Hid (∃ a0' a1' a2' a3' e0' e1' e2' e3', Quad w0 B wx (q4 a0' a1' a2' a3') (q4 e0' e1' e2' e3') (q4 (k + 1) (k + 1) (k + 1) (k + 1)) (q4 ((List.range (k + 1)).map (nmV b o tc n m Q Y)) ((List.range (k + 1)).map fun _ => .int .i64 4) ((List.range (k + 1)).map (vlV b o tc n m Q Y)) ((List.range (k + 1)).map fun k => .int .i64 (K k))) ∧ Vb B w.heap.size wx (q4 a0' a1' a2' a3')))
      case first =>
        have HQd := hide (HQ.out.on (((Old.refl wr).alloc (.cells #[.int .i64 4, .slice (some ⟨b, o + p, none⟩) (j1 - p) (tc - p), .pointer none] 60)).drew))
        have hk5 : k ≤ 50000000 := by omega
        have i1 : (0 : Int) ≤ (j1 : Int) + 1 := by omega
        have i2 : (j1 : Int) + 1 < (n : Int) := by omega
        have i3 : (j1 : Int) + 1 ≤ (j : Int) := by omega
        have i4 : (j : Int) ≤ (tc : Int) := by omega
        have i5 : (j : Int) ≤ (n : Int) := by omega
        refine region_tail 14 (by kernel_rfl) (by kernel_rfl) ?_
        simp only [List.take_succ_cons, List.take_zero, List.drop_succ_cons, List.drop_zero]
        iterate 6 still_step
        still_call ((kind36 yc _).mono fun e w' h => ⟨h.1, h.2.symm⟩)
        iterate 7 still_step
        refine wpStill_nil ?_
        go_wp2_with (go_at_call 27; refine (clos27 w0 B _ a0 a1 a2 a3 e0 e1 e2 e3 k k k k _ _ _ _ HQd.out 4 (some ⟨b, o + p, none⟩) (j1 - p) (tc - p) (Pj.kindAt yc : Nat) (some ⟨b, o + (j1 + 1), none⟩) (j - (j1 + 1)) (tc - (j1 + 1)) hk5 hk5 hk5 hk5).mono ?_; intro e w7 hx; obtain ⟨a0', a1', a2', a3', e0', e1', e2', e3', rfl, hq', hf'⟩ := hx.out; have HQ7 := hide hq'; have HF7 := hide hf'; clear hq' hf' hx)
        go_meet
        have hq7 := HQ7.out
        rw [HE0.out, HE1'.out, HE2.out, HE3.out] at hq7
        exact ⟨rfl, hide ⟨a0', a1', a2', a3', e0', e1', e2', e3', hq7, (HV.out.on (((Old.refl _).alloc _).drew)).fr HF7.out⟩⟩
      obtain ⟨rfl, HX⟩ := hcut
      obtain ⟨a0', a1', a2', a3', e0', e1', e2', e3', hq7, hv7⟩ := HX.out
      have HQ7 := hide hq7
      have HV7 := hide hv7
      clear HX hq7 hv7 HE0 HE1' HE2 HE3 xy hV0a hV2a xp HXq
      go_wp2_with fail
      refine (skip34 _ b o tc n tl HN.out (HT.out.old HQ7.out.old) (by omega) j (by omega)).mono ?_
      intro e w8 hx
      obtain ⟨j4, rfl, rfl, _, hj4n, hd⟩ := hx.out
      obtain rfl : j4 = j := by
        obtain ⟨c, t, e1, e2⟩ := tl_dl Q Y (k + 1) (m - (k + 1))
        exact skip_same (by rw [← HN.out]; omega) (by rw [← HN.out]; omega) hd (Hdj.out.trans e1) (by rcases e2 with rfl | rfl | rfl <;> decide)
      clear hd hx
      by_cases hk1 : k + 1 < m
      · have hd44 : tl.drop j4 = 44 :: sfx m Q Y (k + 1) := Hdj.out.trans (tl_sfx hk1)
        have x44 : w8.cell? ⟨b, o + j4, none⟩ = some (.int .u8 44) := (HT.out.old HQ7.out.old).at hd44
        have hj4lt : j4 < n := by rw [HN.out]; exact (drop_lt hd44).1
        have Hd45 := hide (drop_one hd44)
        clear hd44
        go_wp2_with fail
        refine (skip34 _ b o tc n tl HN.out (HT.out.old HQ7.out.old) (by omega) (j4 + 1) (by omega)).mono ?_
        intro e w9 hx
        obtain ⟨j5, rfl, rfl, _, hj5n, hd⟩ := hx.out
        obtain rfl : j5 = j4 + 1 := by
          obtain ⟨t', e1, _⟩ := HD.out.q (k + 1) hk1
          refine skip_same (t := t' ++ 58 :: (Y (k + 1) ++ tlF Q Y (k + 1 + 1) (m - (k + 1 + 1)))) (c := 34) (by rw [← HN.out]; omega) (by rw [← HN.out]; omega) hd ?_ (by decide)
          rw [Hd45.out, sfx, if_pos hk1, e1]; rfl
        clear hd hx
        go_wp2_with fail
        go_roundg (m - (k + 1))
        case measure => omega
        case rel => exact ⟨k + 1, j4 + 1, a0', a1', a2', a3', e0', e1', e2', e3', by omega, rfl, by go_num, by omega, Hd45, HQ7, HV7⟩
      · have hkm : k + 1 = m := by omega
        have hd125 : tl.drop j4 = 125 :: [] := Hdj.out.trans (tl_end hkm)
        have x125 : w8.cell? ⟨b, o + j4, none⟩ = some (.int .u8 125) := (HT.out.old HQ7.out.old).at hd125
        have hj4lt : j4 < n := by rw [HN.out]; exact (drop_lt hd125).1
        have Hd45 : Hid (tl.drop j4 = sfx m Q Y (k + 1)) := by rw [hd125, sfx, if_neg hk1]; exact (rfl : _ = _)
        clear hd125 hkm
        go_wp2_with fail
        go_roundg (m - (k + 1))
        case measure => omega
        case rel => exact ⟨k + 1, j4, a0', a1', a2', a3', e0', e1', e2', e3', by omega, rfl, rfl, by omega, Hd45, HQ7, HV7⟩
end Go.Proofs.Qxb6603514aDoor
