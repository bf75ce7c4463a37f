/-
  Plain: a text that the strict reader passes: its compact form is passed too, of the same kind, and found again.
-/
import Derived.Test.Qxb6603514aDoorPn
import Derived.Test.Qxb6603514aDoorJj
namespace Go.Proofs.Qxb6603514aDoor.Pj
open Go
def W (w : List UInt8) : Prop := ∀ c ∈ w, Pl.ws c = true
theorem mach_ws : ∀ {w r : List UInt8}, W w → Pl.mach false false (w ++ r) = Pl.mach false false r
  | [], _, _ => rfl
  | c :: w, r, h => by
    rw [List.cons_append, Pl.mach, if_pos (h c (by simp))]
    exact mach_ws fun d hd => h d (by simp [hd])
theorem mach_one {c : UInt8} {r : List UInt8} (h1 : Pl.ws c = false) (h2 : ¬ c.toNat = 34) : Pl.mach false false (c :: r) = c :: Pl.mach false false r := by
  rw [Pl.mach, if_neg (by simp [h1]), if_neg h2]
theorem nsp_one {c : UInt8} {r : List UInt8} (h1 : Pl.ws c = false) (h2 : ¬ c.toNat = 34) : nsp false false (c :: r) = nsp false false r := by
  rw [nsp, if_neg (by simp [h1]), if_neg h2]
theorem mach_strq {s r : List UInt8} (h : Sg s) : Pl.mach false false (34 :: (s ++ 34 :: r)) = 34 :: (s ++ 34 :: Pl.mach false false r) := by
  rw [Pl.mach, if_neg (by decide), if_pos (by decide), ← Pl.mach_str _ _ (Nat.le_refl _), st_end h]
  simp
theorem nsp_str : ∀ (n : Nat) (l : List UInt8), l.length ≤ n → nsp true false l = nsp false false (Pl.str l).2
  | _, [], _ => rfl
  | 0, c :: t, h => by simp at h
  | n + 1, c :: t, h => by
    have h' : t.length ≤ n := by simpa using h
    by_cases h1 : c.toNat = 92
    · cases t with
      | nil => simp [Pl.str, nsp, h1]
      | cons d u =>
        have := nsp_str n u (by simp at h'; omega)
        simp [Pl.str, nsp, h1, this]
    · by_cases h2 : c.toNat = 34
      · rw [Pl.str_close c t h2]; simp [nsp, h2]
      · have := nsp_str n t h'
        rw [Pl.str_other c t h1 h2]; simp [nsp, h1, h2, this]
theorem nsp_strq {s r : List UInt8} (h : Sg s) : nsp false false (34 :: (s ++ 34 :: r)) = nsp false false r := by
  rw [nsp, if_neg (by decide), if_pos (by decide), nsp_str _ _ (Nat.le_refl _), st_end h]
theorem scan_strq {s r : List UInt8} {d : Nat} (h : Sg s) : scan d (34 :: (s ++ 34 :: r)) = scan d r := by
  rw [scan_str (by decide), st_end h]
structure Good (k : Nat) (x y : List UInt8) : Prop where
  comp : ∀ r, Pl.mach false false (x ++ r) = y ++ Pl.mach false false r
  parse : ∀ N r, y.length < N → Dr r → valF N (y ++ r) = some (k, r)
  vend : ∀ r, Dr r → vend (y ++ r) = r
  scan : ∀ d r, 1 ≤ d → scan d (y ++ r) = scan d r
  nsp : ∀ r, nsp false false (y ++ r) = nsp false false r
  head : ∃ c t, y = c :: t ∧ Pl.ws c = false ∧ kindAt c = k ∧ ¬ c.toNat = 93 ∧ ¬ c.toNat = 125
/-- A character of a number or a word. -/
def pc (c : UInt8) : Prop := Pl.ws c = false ∧ ¬ c.toNat = 34 ∧ ¬ c.toNat = 91 ∧ ¬ c.toNat = 93 ∧ ¬ c.toNat = 123 ∧ ¬ c.toNat = 125 ∧ ¬ c.toNat = 44
theorem nc_pc {c : UInt8} (h : nc c) : pc c := by
  unfold nc at h
  have hw : Pl.ws c = false := by unfold Pl.ws; simp; omega
  exact ⟨hw, by omega, by omega, by omega, by omega, by omega, by omega⟩
theorem pc_mach : ∀ {z r : List UInt8}, (∀ c ∈ z, pc c) → Pl.mach false false (z ++ r) = z ++ Pl.mach false false r
  | [], _, _ => rfl
  | c :: z, r, h => by
    have hc := h c (by simp)
    rw [List.cons_append, mach_one hc.1 hc.2.1, pc_mach fun d hd => h d (by simp [hd])]; rfl
theorem pc_nsp : ∀ {z r : List UInt8}, (∀ c ∈ z, pc c) → nsp false false (z ++ r) = nsp false false r
  | [], _, _ => rfl
  | c :: z, r, h => by
    have hc := h c (by simp)
    rw [List.cons_append, nsp_one hc.1 hc.2.1, pc_nsp fun d hd => h d (by simp [hd])]
theorem pc_scan : ∀ {z r : List UInt8} {d : Nat}, (∀ c ∈ z, pc c) → scan d (z ++ r) = scan d r
  | [], _, _, _ => rfl
  | c :: z, r, d, h => by
    have hc := h c (by simp)
    rw [List.cons_append, scan_other hc.2.1 (by have := hc.2.2; omega) (by have := hc.2.2; omega), pc_scan fun d hd => h d (by simp [hd])]
theorem scal_dr {r : List UInt8} (h : Dr r) : scal r = r := by
  rcases h with rfl | ⟨c, t, rfl, hc⟩
  · rfl
  · rw [scal, if_pos]
    unfold del
    rcases hc with h | h | h <;> simp [h]
theorem pc_scal : ∀ {z r : List UInt8}, (∀ c ∈ z, pc c) → Dr r → scal (z ++ r) = r
  | [], _, _, hr => scal_dr hr
  | c :: z, r, h, hr => by
    have hc := h c (by simp)
    rw [List.cons_append, scal, if_neg, pc_scal (fun d hd => h d (by simp [hd])) hr]
    unfold del
    have := hc.2.2
    simp [hc.1]
    omega
theorem good_pc {k : Nat} {c : UInt8} {t : List UInt8} (hz : ∀ d ∈ c :: t, pc d) (hk : kindAt c = k) (hp : ∀ N r, (c :: t).length < N → Dr r → valF N ((c :: t) ++ r) = some (k, r)) : Good k (c :: t) (c :: t) := by
  have hc := hz c (by simp)
  refine ⟨fun r => pc_mach hz, hp, fun r hr => ?_, fun d r _ => pc_scan hz, fun r => pc_nsp hz, c, t, rfl, hc.1, hk, by have := hc.2.2; omega, by have := hc.2.2; omega⟩
  have := pc_scal hz hr
  have h2 := hc.2.2
  rw [List.cons_append] at this ⊢
  rw [Pj.vend, if_neg hc.2.1, if_neg (by omega), this]
theorem good_str {s : List UInt8} (h : Sg s) : Good 4 (34 :: (s ++ [34])) (34 :: (s ++ [34])) := by
  have e : ∀ r, 34 :: (s ++ [34]) ++ r = 34 :: (s ++ 34 :: r) := fun r => by simp
  refine ⟨fun r => by rw [e, mach_strq h]; simp, fun N r hN _ => ?_, fun r _ => ?_, fun d r _ => by rw [e, scan_strq h], fun r => by rw [e, nsp_strq h], 34, _, rfl, by decide, by decide, by decide, by decide⟩
  · obtain ⟨N, rfl⟩ : ∃ M, N = M + 1 := ⟨N - 1, by omega⟩
    rw [e, valF, if_pos (by decide), strR, if_pos (by decide), sb_end h]
    rfl
  · rw [e, Pj.vend, if_pos (by decide), st_end h]
theorem lit_back {w r : List UInt8} : litR w (w ++ r) = some r := by
  unfold litR
  rw [if_pos (List.prefix_append w r), List.drop_left]
theorem lit_split {w l r : List UInt8} (h : litR w l = some r) : l = w ++ r := by
  unfold litR at h
  split at h
  · rename_i hp
    cases h
    obtain ⟨t, rfl⟩ := hp
    rw [List.drop_left]
  · cases h
theorem good_true : Good 2 [116, 114, 117, 101] [116, 114, 117, 101] := good_pc (by unfold pc; decide) (by decide) fun N r hN _ => by
  obtain ⟨N, rfl⟩ : ∃ M, N = M + 1 := ⟨N - 1, by omega⟩
  have := lit_back (w := [116, 114, 117, 101]) (r := r)
  rw [List.cons_append] at this ⊢
  rw [valF, if_neg (by decide), if_pos (by decide), this]; rfl
theorem good_false : Good 2 [102, 97, 108, 115, 101] [102, 97, 108, 115, 101] := good_pc (by unfold pc; decide) (by decide) fun N r hN _ => by
  obtain ⟨N, rfl⟩ : ∃ M, N = M + 1 := ⟨N - 1, by omega⟩
  have := lit_back (w := [102, 97, 108, 115, 101]) (r := r)
  rw [List.cons_append] at this ⊢
  rw [valF, if_neg (by decide), if_neg (by decide), if_pos (by decide), this]; rfl
theorem good_null : Good 1 [110, 117, 108, 108] [110, 117, 108, 108] := good_pc (by unfold pc; decide) (by decide) fun N r hN _ => by
  obtain ⟨N, rfl⟩ : ∃ M, N = M + 1 := ⟨N - 1, by omega⟩
  have := lit_back (w := [110, 117, 108, 108]) (r := r)
  rw [List.cons_append] at this ⊢
  rw [valF, if_neg (by decide), if_neg (by decide), if_neg (by decide), if_pos (by decide), this]; rfl
theorem good_num {c : UInt8} {x : List UInt8} (h1 : c.toNat = 45 ∨ dig c = true) (h2 : ∀ d ∈ c :: x, nc d) (h3 : ∀ r', Dr r' → numR ((c :: x) ++ r') = some r') : Good 3 (c :: x) (c :: x) := by
  have hcc : c.toNat = 45 ∨ (48 ≤ c.toNat ∧ c.toNat ≤ 57) := h1.imp id dig_iff.1
  refine good_pc (fun d hd => nc_pc (h2 d hd)) (by unfold kindAt; rw [if_neg (by omega), if_neg (by omega), if_neg (by omega), if_neg (by omega), if_neg (by omega)]) fun N r hN hr => ?_
  obtain ⟨N, rfl⟩ : ∃ M, N = M + 1 := ⟨N - 1, by omega⟩
  have := h3 r hr
  rw [List.cons_append] at this ⊢
  rw [valF, if_neg (by omega), if_neg (by omega), if_neg (by omega), if_neg (by omega), if_neg (by omega), if_neg (by omega), this]; rfl
/-- One item. -/
structure IGood (op : UInt8) (x y : List UInt8) : Prop where
  comp : ∀ r, Pl.mach false false (x ++ r) = y ++ Pl.mach false false r
  parse : ∀ N r, y.length < N → Dr r → item (valF N) op (y ++ r) = some (skip r)
  scan : ∀ d r, 1 ≤ d → scan d (y ++ r) = scan d r
  nsp : ∀ r, nsp false false (y ++ r) = nsp false false r
  head : ∃ c t, y = c :: t ∧ Pl.ws c = false ∧ c ≠ cl op
theorem skip_head {c : UInt8} {t : List UInt8} (h : Pl.ws c = false) : skip (c :: t) = c :: t := by rw [skip, if_neg (by simp [h])]
def Snd (N : Nat) : Prop := ∀ l k r, valF N l = some (k, r) → ∃ x y, l = x ++ r ∧ Good k x y
theorem item_sound {N : Nat} (ih : Snd N) {op : UInt8} (hop : op = 91 ∨ op = 123) {l l3 : List UInt8} (h : item (valF N) op l = some l3) : ∃ x w y, l = x ++ (w ++ l3) ∧ W w ∧ IGood op x y := by
  rcases hop with rfl | rfl
  · rw [item, if_neg (by decide)] at h
    obtain ⟨⟨k, r1⟩, hv, rfl⟩ := Option.map_eq_some_iff.1 h
    obtain ⟨x, y, rfl, g⟩ := ih l k r1 hv
    obtain ⟨w, hw, hws⟩ := skip_pre r1
    refine ⟨x, w, y, by rw [← hw], hws, g.comp, fun N' r hN hr => ?_, g.scan, g.nsp, ?_⟩
    · rw [item, if_neg (by decide), g.parse N' r hN hr]; rfl
    · obtain ⟨c, t, e, h1, _, h2, _⟩ := g.head
      exact ⟨c, t, e, h1, fun e2 => h2 (by rw [e2]; decide)⟩
  · rw [item, if_pos (by decide)] at h
    cases hs : strR l with
    | none => rw [hs] at h; cases h
    | some l1 =>
      rw [hs] at h
      simp only at h
      cases l with
      | nil => cases hs
      | cons q t =>
        rw [strR] at hs
        split at hs
        · rename_i hq
          obtain rfl : q = 34 := UInt8.toNat_inj.1 hq
          obtain ⟨s, rfl, hsg⟩ := sbody_sound _ _ _ (Nat.le_refl _) hs
          obtain ⟨w1, hw1, hws1⟩ := skip_pre l1
          cases hk : skip l1 with
          | nil => rw [hk] at h; cases h
          | cons c l2 =>
            rw [hk] at h hw1
            simp only at h
            split at h
            · rename_i h58
              obtain rfl : c = 58 := UInt8.toNat_inj.1 h58
              obtain ⟨⟨k, r1⟩, hv, rfl⟩ := Option.map_eq_some_iff.1 h
              obtain ⟨x, y, hx, g⟩ := ih _ k r1 hv
              obtain ⟨w2, hw2, hws2⟩ := skip_pre l2
              obtain ⟨w, hw, hws⟩ := skip_pre r1
              obtain ⟨c0, t0, ey, hy1, _, _, _⟩ := g.head
              refine ⟨34 :: (s ++ 34 :: (w1 ++ 58 :: (w2 ++ x))), w, 34 :: (s ++ 34 :: 58 :: y), ?_, hws, fun r => ?_, fun N' r hN hr => ?_, fun d r hd => ?_, fun r => ?_, 34, _, rfl, by decide, by decide⟩
              · rw [hw1, hw2, hx]
                simp only [List.cons_append, List.append_assoc]
                rw [← hw]
              · have e1 : 34 :: (s ++ 34 :: (w1 ++ 58 :: (w2 ++ x))) ++ r = 34 :: (s ++ 34 :: (w1 ++ (58 :: (w2 ++ (x ++ r))))) := by simp
                rw [e1, mach_strq hsg, mach_ws hws1, mach_one (by decide) (by decide), mach_ws hws2, g.comp]
                simp
              · have e1 : 34 :: (s ++ 34 :: 58 :: y) ++ r = 34 :: (s ++ 34 :: (58 :: (y ++ r))) := by simp
                have hyN : y.length < N' := by simp only [List.length_cons, List.length_append] at hN; omega
                have hsk : skip (y ++ r) = y ++ r := by rw [ey]; exact skip_head hy1
                rw [e1, item, if_pos (by decide), strR, if_pos (by decide), sb_end hsg]
                simp only [skip_head (show Pl.ws 58 = false by decide), show (58 : UInt8).toNat = 58 by decide, if_true, hsk, g.parse N' r hyN hr, Option.map_some]
              · have e1 : 34 :: (s ++ 34 :: 58 :: y) ++ r = 34 :: (s ++ 34 :: (58 :: (y ++ r))) := by simp
                rw [e1, scan_strq hsg, scan_other (by decide) (by decide) (by decide), g.scan d r hd]
              · have e1 : 34 :: (s ++ 34 :: 58 :: y) ++ r = 34 :: (s ++ 34 :: (58 :: (y ++ r))) := by simp
                rw [e1, nsp_strq hsg, nsp_one (by decide) (by decide), g.nsp]
            · cases h
        · cases hs
/-- Items, the closing bracket with them. -/
structure LGood (op : UInt8) (x y : List UInt8) : Prop where
  comp : ∀ r, Pl.mach false false (x ++ r) = y ++ Pl.mach false false r
  parse : ∀ N M r, y.length < N → y.length ≤ M → loopF (valF N) op M (y ++ r) = some r
  scan : ∀ d r, 1 ≤ d → scan d (y ++ r) = if d ≤ 1 then r else scan (d - 1) r
  nsp : ∀ r, nsp false false (y ++ r) = nsp false false r
  head : ∃ c t, y = c :: t ∧ Pl.ws c = false ∧ c ≠ cl op
theorem cl_facts {op : UInt8} (hop : op = 91 ∨ op = 123) : Pl.ws (cl op) = false ∧ ¬ (cl op).toNat = 34 ∧ ((cl op).toNat = 93 ∨ (cl op).toNat = 125) ∧ cl op ≠ 44 := by
  rcases hop with rfl | rfl <;> decide
theorem loop_sound {N : Nat} (ih : Snd N) {op : UInt8} (hop : op = 91 ∨ op = 123) : ∀ (m : Nat) (l r : List UInt8), loopF (valF N) op m l = some r → ∃ x y, l = x ++ r ∧ LGood op x y
  | 0, l, r, h => by cases h
  | m + 1, [], r, h => by cases h
  | m + 1, d :: l, r, h => by
    obtain ⟨hc1, hc2, hc3, hc4⟩ := cl_facts hop
    rw [loopF] at h
    cases hi : item (valF N) op (d :: l) with
    | none => rw [hi] at h; cases h
    | some l3 =>
      rw [hi] at h
      obtain ⟨x1, w, y1, hl, hw, g⟩ := item_sound ih hop hi
      obtain ⟨c0, t0, ey, hy1, hy2⟩ := g.head
      cases l3 with
      | nil => cases h
      | cons c t =>
        simp only at h
        split at h
        · rename_i hcc
          cases h
          subst hcc
          have e : ∀ r', y1 ++ [cl op] ++ r' = y1 ++ (cl op :: r') := fun r' => by simp
          have hdr : ∀ r', Dr (cl op :: r') := fun r' => .inr ⟨_, _, rfl, by omega⟩
          refine ⟨x1 ++ (w ++ [cl op]), y1 ++ [cl op], by rw [hl]; simp, fun r' => ?_, fun N' M r' hN hM => ?_, fun d' r' hd => ?_, fun r' => ?_, c0, t0 ++ [cl op], by rw [ey]; rfl, hy1, hy2⟩
          · have e1 : x1 ++ (w ++ [cl op]) ++ r' = x1 ++ (w ++ (cl op :: r')) := by simp
            rw [e1, g.comp, mach_ws hw, mach_one hc1 hc2]
            simp
          · obtain ⟨M, rfl⟩ : ∃ M', M = M' + 1 := ⟨M - 1, by simp only [List.length_append, List.length_cons, List.length_nil] at hM; omega⟩
            have hp := g.parse N' (cl op :: r') (by simp only [List.length_append, List.length_cons, List.length_nil] at hN; omega) (hdr r')
            rw [e]
            rw [ey, List.cons_append] at hp ⊢
            rw [loopF, hp, skip_head hc1]
            simp only [if_true]
          · rw [e, g.scan d' _ hd, scan_close hc3]
          · rw [e, g.nsp, nsp_one hc1 hc2]
        · rename_i hcc
          split at h
          · rename_i h44
            obtain rfl : c = 44 := UInt8.toNat_inj.1 h44
            obtain ⟨x2, y2, hx2, g2⟩ := loop_sound ih hop m _ r h
            obtain ⟨w2, hw2, hws2⟩ := skip_pre t
            obtain ⟨c2, t2, ey2, hy21, hy22⟩ := g2.head
            have e : ∀ r', y1 ++ 44 :: y2 ++ r' = y1 ++ (44 :: (y2 ++ r')) := fun r' => by simp
            refine ⟨x1 ++ (w ++ 44 :: (w2 ++ x2)), y1 ++ 44 :: y2, ?_, fun r' => ?_, fun N' M r' hN hM => ?_, fun d' r' hd => ?_, fun r' => ?_, c0, t0 ++ 44 :: y2, by rw [ey]; rfl, hy1, hy2⟩
            · rw [hl, hw2, hx2]; simp
            · have e1 : x1 ++ (w ++ 44 :: (w2 ++ x2)) ++ r' = x1 ++ (w ++ (44 :: (w2 ++ (x2 ++ r')))) := by simp
              rw [e1, g.comp, mach_ws hw, mach_one (by decide) (by decide), mach_ws hws2, g2.comp]
              simp
            · obtain ⟨M, rfl⟩ : ∃ M', M = M' + 1 := ⟨M - 1, by simp only [List.length_append, List.length_cons] at hM; omega⟩
              simp only [List.length_append, List.length_cons] at hN hM
              have hp := g.parse N' (44 :: (y2 ++ r')) (by omega) (.inr ⟨44, _, rfl, by decide⟩)
              have hq := g2.parse N' M r' (by omega) (by omega)
              have hsk : skip (y2 ++ r') = y2 ++ r' := by rw [ey2]; exact skip_head hy21
              rw [e]
              rw [ey, List.cons_append] at hp ⊢
              rw [loopF, hp, skip_head (by decide)]
              simp only [show (44 : UInt8).toNat = 44 by decide, if_true, hsk, hq, show ¬ ((44 : UInt8) = cl op) from fun e => hc4 e.symm, if_false]
            · rw [e, g.scan d' _ hd, scan_other (by decide) (by decide) (by decide), g2.scan d' r' hd]
            · rw [e, g.nsp, nsp_one (by decide) (by decide), g2.nsp]
          · cases h
theorem good_con {op : UInt8} {k : Nat} (hop : op = 91 ∨ op = 123) (hk : kindAt op = k) (hv : ∀ N t, valF (N + 1) (op :: t) = (conF (valF N) op t).map (fun r => (k, r))) {w x y : List UInt8} (hw : W w)
    (hcomp : ∀ r, Pl.mach false false (x ++ r) = y ++ Pl.mach false false r) (hparse : ∀ N r, y.length < N → conF (valF N) op (y ++ r) = some r) (hscan : ∀ d r, 1 ≤ d → scan d (y ++ r) = if d ≤ 1 then r else scan (d - 1) r) (hnsp : ∀ r, nsp false false (y ++ r) = nsp false false r) :
    Good k (op :: (w ++ x)) (op :: y) := by
  have f : Pl.ws op = false ∧ ¬ op.toNat = 34 ∧ (op.toNat = 91 ∨ op.toNat = 123) := by rcases hop with rfl | rfl <;> decide
  refine ⟨fun r => ?_, fun N r hN _ => ?_, fun r _ => ?_, fun d r hd => ?_, fun r => ?_, op, y, rfl, f.1, hk, by omega, by omega⟩
  · have e1 : op :: (w ++ x) ++ r = op :: (w ++ (x ++ r)) := by simp
    rw [e1, mach_one f.1 f.2.1, mach_ws hw, hcomp]; rfl
  · obtain ⟨N, rfl⟩ : ∃ M, N = M + 1 := ⟨N - 1, by omega⟩
    rw [List.cons_append, hv, hparse N r (by simp only [List.length_cons] at hN; omega)]; rfl
  · rw [List.cons_append, Pj.vend, if_neg f.2.1, if_pos f.2.2, scan_open f.2.2, hscan 1 r (by omega), if_pos (by omega)]
  · rw [List.cons_append, scan_open f.2.2, hscan (d + 1) r (by omega), if_neg (by omega)]; rfl
  · rw [List.cons_append, nsp_one f.1 f.2.1, hnsp]
theorem con_sound {N : Nat} (ih : Snd N) {op : UInt8} {k : Nat} (hop : op = 91 ∨ op = 123) (hk : kindAt op = k) (hv : ∀ N t, valF (N + 1) (op :: t) = (conF (valF N) op t).map (fun r => (k, r))) {t r : List UInt8} (h : conF (valF N) op t = some r) : ∃ x y, op :: t = x ++ r ∧ Good k x y := by
  obtain ⟨hc1, hc2, hc3, hc4⟩ := cl_facts hop
  obtain ⟨w, hw, hws⟩ := skip_pre t
  rw [conF] at h
  cases hs : skip t with
  | nil => rw [hs] at h; cases h
  | cons c u =>
    rw [hs] at h hw
    simp only at h
    split at h
    · rename_i hcc
      cases h
      subst hcc
      refine ⟨op :: (w ++ [cl op]), op :: [cl op], by rw [hw]; simp, good_con hop hk hv hws (fun r => ?_) (fun N r _ => ?_) (fun d r hd => ?_) fun r => ?_⟩
      · rw [List.cons_append, List.nil_append, mach_one hc1 hc2]; rfl
      · rw [List.cons_append, List.nil_append, conF, skip_head hc1]; simp only [if_true]
      · rw [List.cons_append, List.nil_append, scan_close hc3]
      · rw [List.cons_append, List.nil_append, nsp_one hc1 hc2]
    · obtain ⟨x, y, hx, g⟩ := loop_sound ih hop _ _ _ h
      obtain ⟨c0, t0, ey, hy1, hy2⟩ := g.head
      refine ⟨op :: (w ++ x), op :: y, by rw [hw, hx]; simp, good_con hop hk hv hws g.comp (fun N r hN => ?_) g.scan g.nsp⟩
      have hq := g.parse N (t0 ++ r).length.succ r hN (by rw [ey]; simp only [List.length_append, List.length_cons]; omega)
      rw [ey, List.cons_append] at hq ⊢
      rw [conF, skip_head hy1]
      simp only [hy2, if_false]
      exact hq
theorem val_arr (N : Nat) (t : List UInt8) : valF (N + 1) (91 :: t) = (conF (valF N) 91 t).map (fun r => (5, r)) := by
  rw [valF, if_neg (by decide), if_neg (by decide), if_neg (by decide), if_neg (by decide), if_pos (by decide)]
theorem val_obj (N : Nat) (t : List UInt8) : valF (N + 1) (123 :: t) = (conF (valF N) 123 t).map (fun r => (6, r)) := by
  rw [valF, if_neg (by decide), if_neg (by decide), if_neg (by decide), if_neg (by decide), if_neg (by decide), if_pos (by decide)]
/-- THE PLAIN LAW. -/
theorem snd : ∀ N, Snd N
  | 0 => fun l k r h => by cases h
  | N + 1 => fun l k r h => by
    have ih := snd N
    cases l with
    | nil => cases h
    | cons c t =>
      by_cases h1 : c.toNat = 34
      · rw [valF, if_pos h1] at h
        obtain ⟨r1, hr, he⟩ := Option.map_eq_some_iff.1 h
        cases he
        rw [strR, if_pos h1] at hr
        obtain rfl : c = 34 := UInt8.toNat_inj.1 h1
        obtain ⟨s, rfl, hsg⟩ := sbody_sound _ _ _ (Nat.le_refl _) hr
        exact ⟨_, _, by simp, good_str hsg⟩
      by_cases h2 : c.toNat = 116
      · rw [valF, if_neg h1, if_pos h2] at h
        obtain ⟨r1, hr, he⟩ := Option.map_eq_some_iff.1 h
        cases he
        exact ⟨_, _, lit_split hr, good_true⟩
      by_cases h3 : c.toNat = 102
      · rw [valF, if_neg h1, if_neg h2, if_pos h3] at h
        obtain ⟨r1, hr, he⟩ := Option.map_eq_some_iff.1 h
        cases he
        exact ⟨_, _, lit_split hr, good_false⟩
      by_cases h4 : c.toNat = 110
      · rw [valF, if_neg h1, if_neg h2, if_neg h3, if_pos h4] at h
        obtain ⟨r1, hr, he⟩ := Option.map_eq_some_iff.1 h
        cases he
        exact ⟨_, _, lit_split hr, good_null⟩
      by_cases h5 : c.toNat = 91
      · obtain rfl : c = 91 := UInt8.toNat_inj.1 h5
        rw [val_arr] at h
        obtain ⟨r1, hr, he⟩ := Option.map_eq_some_iff.1 h
        cases he
        exact con_sound ih (.inl rfl) (by decide) val_arr hr
      by_cases h6 : c.toNat = 123
      · obtain rfl : c = 123 := UInt8.toNat_inj.1 h6
        rw [val_obj] at h
        obtain ⟨r1, hr, he⟩ := Option.map_eq_some_iff.1 h
        cases he
        exact con_sound ih (.inr rfl) (by decide) val_obj hr
      rw [valF, if_neg h1, if_neg h2, if_neg h3, if_neg h4, if_neg h5, if_neg h6] at h
      obtain ⟨r1, hr, he⟩ := Option.map_eq_some_iff.1 h
      cases he
      obtain ⟨d, x, hx, g1, g2, g3⟩ := numR_sound hr
      exact ⟨_, _, hx, good_num g1 g2 g3⟩
end Go.Proofs.Qxb6603514aDoor.Pj
