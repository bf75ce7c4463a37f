import Derived.Test.Qxb6603029aDoorWe
import Derived.Test.Qxb6603029aDoorPlainn
import Derived.Test.Qxb6603029aDoorWd
import Derived.Deep.DeepCutAuto
import Derived.Deep.CutBlock
namespace Go.Proofs.Qxb6603029aDoor
open Go.RowKit
set_option linter.unusedSimpArgs false
theorem infoU8 : (Tryd.prog.info? 5).map (fun i => (i.zero, i.size, i.bytes)) = some (some (.int .u8 0), 1, 1) := by kernel_rfl
def bv (c : UInt8) : Value := .int .u8 c.toNat

theorem isd19 (c : UInt8) (w : World) : Calls Tryd.prog 19 #[.int .u8 c.toNat] w fun e w' => e = .returned (.bool (Pl.isD c)) ∧ w = w' := by
  have e : Pl.isD c = (decide ((48 : Int) ≤ (c.toNat : Int)) && decide ((c.toNat : Int) ≤ 57)) := by
    rw [Bool.eq_iff_iff, isD_iff]; simp
  have H : Hid (Pl.isD c = (decide ((48 : Int) ≤ (c.toNat : Int)) && decide ((c.toNat : Int) ≤ 57))) := e
  clear e
  by_cases h : (48 : Int) ≤ (c.toNat : Int)
  · go_enter Tryd.func19, Tryd.ntmps19
    go_wp2
    go_ret
    exact ⟨by rw [H.out]; simp [h], rfl⟩
  · go_enter Tryd.func19, Tryd.ntmps19
    go_wp2
    go_ret
    exact ⟨by rw [H.out]; simp; omega, rfl⟩

/-- The automaton's step, its tests as the walk writes them. -/
def q (c : UInt8) (n : Int) : Bool := (c.toNat : Int) == n
theorem q_iff (c : UInt8) (n : Nat) : (c.toNat = n) ↔ (((c.toNat : Int) == (n : Int)) = true) := by simp; omega

def StepRel (s : ByteArray) (w : World) (k : Nat) (c : UInt8) (σ : Pl.St) (ng mt nf en es nx : Value) (wx : World) : Prop :=
  (Hid (Pl.step k c σ = none) ∧ nx = .int .i64 (-1) ∧ Below w.heap.size w wx) ∨
  (∃ σ' : Pl.St, Hid (Pl.step k c σ = some σ') ∧ ng = .bool σ'.neg ∧ mt = .slice (some ⟨w.heap.size, 0, none⟩) σ'.mant.length s.size ∧ nf = .int .i64 σ'.nf ∧ en = .bool σ'.eneg ∧ es = .int .i64 σ'.es ∧ nx = .int .i64 σ'.st ∧
    wx.ownsRow w.heap.size 5 1 (.slice (some ⟨w.heap.size, 0, none⟩) σ'.mant.length s.size) σ'.mant.length (σ'.mant.map bv) ∧ Below w.heap.size w wx ∧ σ'.mant.length ≤ k + 1 ∧ σ'.nf ≤ k + 1 ∧ σ'.es ≤ k + 1 ∧ σ'.st ≤ 8)
def LoopRel (s : ByteArray) (w : World) (g : Nat) (ng mt nf en es st i : Value) (wr : World) : Prop :=
  ∃ (k : Nat) (σ : Pl.St), k ≤ s.size ∧ g = s.size - k ∧ Hid (Pl.run k (s.data.toList.drop k) σ = Pl.run 0 s.data.toList Pl.st0) ∧ Hid (Pl.Inv s.data.toList k σ) ∧ σ.mant.length ≤ k ∧ σ.nf ≤ k ∧ σ.es ≤ k ∧ σ.st ≤ 8 ∧
    ng = .bool σ.neg ∧ mt = .slice (some ⟨w.heap.size, 0, none⟩) σ.mant.length s.size ∧ nf = .int .i64 σ.nf ∧ en = .bool σ.eneg ∧ es = .int .i64 σ.es ∧ st = .int .i64 σ.st ∧ i = .int .i64 k ∧
    wr.ownsRow w.heap.size 5 1 (.slice (some ⟨w.heap.size, 0, none⟩) σ.mant.length s.size) σ.mant.length (σ.mant.map bv) ∧ Below w.heap.size w wr
theorem drop_at (s : ByteArray) (k : Nat) (h : k < s.size) : s.data.toList.drop k = s[k] :: s.data.toList.drop (k + 1) :=
  List.drop_eq_getElem_cons (by rw [size_list]; exact h)

theorem own_snoc {w1 : World} {B cap : Nat} {a : Option Addr} {mant : List UInt8} {c : UInt8} (h : w1.ownsRow B 5 1 (.slice a (mant.length + 1) cap) (mant.length + 1) (mant.map bv ++ [.int .u8 c.toNat])) :
    w1.ownsRow B 5 1 (.slice a (mant ++ [c]).length cap) (mant ++ [c]).length ((mant ++ [c]).map bv) := by
  rw [List.length_append, List.map_append]; exact h
theorem below_app {w wr w1 : World} {o : Obj} (hb : Below w.heap.size w wr) (hg : (wr.alloc o).grownBy w1 (some w.heap.size)) : Below w.heap.size w w1 :=
  (hb.alloc hb.size o).grown hg (by have := hb.size; simp; omega) (fun k e => by cases e; exact Nat.le_refl _)
theorem int_eq {a b : Int} (h : a = b) : Value.int .i64 a = .int .i64 b := by rw [h]
theorem slice_len {a : Option Addr} {n m cap : Nat} (h : n = m) : Value.slice a n cap = .slice a m cap := by rw [h]

theorem isEc_eq (c : UInt8) : Pl.isEc c = (((c.toNat : Int) == 101) || ((c.toNat : Int) == 69)) := by
  unfold Pl.isEc; rw [Bool.eq_iff_iff]; simp; omega

theorem ext_drop (s : ByteArray) (k : Nat) : (s.extract k s.size).data.toList = s.data.toList.drop k := by
  rw [extract_list, List.take_of_length_le]
  rw [List.length_drop, size_list]; exact Nat.le_refl _
theorem clamp_ex (s : ByteArray) (hs : s.size ≤ 4194304) (hd : ∀ c ∈ s.data.toList, Pl.isD c = true) (w : World) :
    Calls Tryd.prog 20 #[.string s] w fun e w' => e = .returned (.int .i64 (Pl.sat s.data.toList)) ∧ w = w' := by
  refine (clamp_any s w hs hd).mono fun e w' ⟨he, hw⟩ => ⟨?_, hw.symm⟩
  rw [he, Pl.clamp_sat _ hd]
theorem sat_drop_bound {l : List UInt8} {es : Nat} (h : ∀ c ∈ l.drop es, Pl.isD c = true) : 0 ≤ Pl.sat (l.drop es) ∧ Pl.sat (l.drop es) ≤ 100000000 := Pl.sat_bound _ h
theorem mExp_bound {L : List UInt8} {σ : Pl.St} (h : σ.st = 8 → ∀ c ∈ L.drop σ.es, Pl.isD c = true) : -100000000 ≤ Pl.mExp L σ ∧ Pl.mExp L σ ≤ 100000000 := by
  unfold Pl.mExp
  split
  · have := Pl.sat_bound _ (h ‹_›)
    split <;> omega
  · omega
theorem conv_mid {wo : World} {B cap m j : Nat} {mant : List UInt8} (hc : ∀ i (hi : i < mant.length), wo.cell? ⟨B, i, none⟩ = some (.int .u8 mant[i].toNat)) (hmj : m ≤ j) (hj : j < mant.length) (nq : Nat) :
    (convert 35 9 (.slice (some ⟨B, m, none⟩) (j + 1 - m) (cap - m))).run Tryd.prog (wo.drewN nq) = .ok (.string ⟨((mant.drop m).take (j + 1 - m)).toArray⟩) (wo.drewN nq) := by
  have hl : ((mant.drop m).take (j + 1 - m)).length = j + 1 - m := by rw [List.length_take, List.length_drop]; omega
  have h := run_convert_bytes_back (P := Tryd.prog) (wo.drewN nq) 35 9 5 ⟨B, m, none⟩ (cap - m) ((mant.drop m).take (j + 1 - m)) Tryd.underlying35 Tryd.underlying5 Tryd.underlying9 (fun i hi => by
    rw [hl] at hi
    have e : (⟨B, m, none⟩ : Addr).add i = ⟨B, m + i, none⟩ := by simp [Addr.add]
    rw [e]
    simp only [World.cell?_drewN, List.getElem_take, List.getElem_drop]
    exact hc (m + i) (by omega))
  rw [hl] at h
  exact h
theorem own_cells {w : World} {B g cap : Nat} {mant : List UInt8} (h : w.ownsRow B 5 1 (.slice (some ⟨g, 0, none⟩) mant.length cap) mant.length (mant.map bv)) (j : Nat) (hj : j < mant.length) : w.cell? ⟨g, j, none⟩ = some (.int .u8 mant[j].toNat) := by
  rw [h.cellAt j (by omega), List.getElem?_map, List.getElem?_eq_getElem hj]; rfl

set_option maxRecDepth 100000 in
set_option maxHeartbeats 8000000 in
theorem model_any (s : ByteArray) (w : World) (hs : s.size ≤ 1048576) :
    Calls Tryd.prog 10 #[.string s] w fun e w' => e = .returned (dec4 (Pl.mDec s.data.toList)) ∧ Below w.heap.size w w' := by
  obtain ⟨i0, hi, hz0, hz1, hz2⟩ := info_parts infoU8
  go_enter Tryd.func10, Tryd.ntmps10
  go_wp2_with (at_make; refine wpList_make_own _ rfl _ _ 35 rfl w.heap.size 5 i0 (.int .u8 0) 1 Tryd.underlying35 hi hz0 hz1 _ _ _ s.size rfl rfl (by omega) ?b2 ?b3 (Nat.le_refl _) ?_)
  case b2 => rw [hz2]; omega
  case b3 => unfold maxLen; omega
  intro w1 hown1 hgrow1
  go_wp2_with fail
  go_loopg [6, 7, 8, 9, 10, 11, 12] s.size (fun g ng mt nf en es st i wr => LoopRel s w g ng mt nf en es st i wr)
  case atStart => exact ⟨0, Pl.st0, Nat.zero_le _, rfl, (rfl : _ = _), (Pl.Inv0 _ : Pl.Inv _ _ _), Nat.le_refl _, Nat.le_refl _, Nat.le_refl _, by decide, rfl, rfl, rfl, rfl, rfl, rfl, rfl, hown1, (Below.refl _ _).grown hgrow1 (Nat.le_refl _) (by simp)⟩
  case round =>
    obtain ⟨k, σ, hk, rfl, HR, HI, hm, hn, he, hst, rfl, rfl, rfl, rfl, rfl, rfl, rfl, hown, hb⟩ := hrel
    by_cases hlt : k < s.size
    · go_upto_region 12 with ((go_at_call 19; refine (isd19 _ _).mono ?_; rintro e w' ⟨rfl, rfl⟩))
      go_cut [15] (fun v wx => v = .bool (Pl.isEc s[k]) ∧ wr = wx)
      case first =>
        have HE : Hid (Pl.isEc s[k] = (((s[k].toNat : Int) == 101) || ((s[k].toNat : Int) == 69))) := isEc_eq s[k]
        cases h101 : ((s[k].toNat : Int) == 101)
        · go_wp2
          go_meet
          exact ⟨by rw [HE.out, h101]; rfl, rfl⟩
        · go_wp2
          go_meet
          exact ⟨by rw [HE.out, h101]; rfl, rfl⟩
      case rest =>
        obtain ⟨rfl, rfl⟩ := hcut
        go_upto_block 2 with fail
        obtain ⟨ng, mant, nf, en, es, st⟩ := σ
        go_cut [6, 7, 8, 9, 10, 14, 15, 16] (fun c6 c7 c8 c9 c10 _ _ c16 wx => StepRel s w k s[k] ⟨ng, mant, nf, en, es, st⟩ c6 c7 c8 c9 c10 c16 wx)
        case first =>
          simp only at hm hn he hst hown
          rcases (show st = 0 ∨ st = 1 ∨ st = 2 ∨ st = 3 ∨ st = 4 ∨ st = 5 ∨ st = 6 ∨ st = 7 ∨ st = 8 by omega) with rfl | rfl | rfl | rfl | rfl | rfl | rfl | rfl | rfl
          · as_aux_lemma =>
            cases hc45 : ((s[k].toNat : Int) == 45)
            · cases hc48 : ((s[k].toNat : Int) == 48)
              · cases hD : Pl.isD s[k]
                · have HS : Hid (Pl.step k s[k] ⟨ng, mant, nf, en, es, 0⟩ = none) := (by simp [Pl.step, q_iff, hc45, hc48, hD] : _ = _)
                  go_wp2
                  go_meet
                  exact Or.inl ⟨HS, rfl, hb⟩
                · have HS : Hid (Pl.step k s[k] ⟨ng, mant, nf, en, es, 0⟩ = some ⟨ng, mant ++ [s[k]], nf, en, es, 3⟩) := (by simp [Pl.step, q_iff, hc45, hc48, hD] : _ = _)
                  go_wp2_with (at_builtin; refine wpList_append_fits _ rfl (.tmp 57) (.tmp 59) 35 rfl w.heap.size 5 i0 1 Tryd.underlying35 hi hz1 w.heap.size mant.length s.size _ rfl (hown.alloc _) ⟨wr.heap.size, 0, none⟩ 1 1 [.int .u8 s[k].toNat] rfl rfl (cell_one_new _ _ _) (by intro u hu; simp at hu; subst hu; rfl) (by omega) ?_; intro w1 hown1 hgrow1)
                  go_meet
                  exact Or.inr ⟨_, HS, rfl, slice_len (by simp), by go_num, rfl, rfl, rfl, own_snoc hown1, below_app hb hgrow1, by simp <;> omega, by simp <;> omega, by simp <;> omega, by simp⟩
              · have HS : Hid (Pl.step k s[k] ⟨ng, mant, nf, en, es, 0⟩ = some ⟨ng, mant ++ [s[k]], nf, en, es, 2⟩) := (by simp [Pl.step, q_iff, hc45, hc48] : _ = _)
                go_wp2_with (at_builtin; refine wpList_append_fits _ rfl (.tmp 52) (.tmp 54) 35 rfl w.heap.size 5 i0 1 Tryd.underlying35 hi hz1 w.heap.size mant.length s.size _ rfl (hown.alloc _) ⟨wr.heap.size, 0, none⟩ 1 1 [.int .u8 s[k].toNat] rfl rfl (cell_one_new _ _ _) (by intro u hu; simp at hu; subst hu; rfl) (by omega) ?_; intro w1 hown1 hgrow1)
                go_meet
                exact Or.inr ⟨_, HS, rfl, slice_len (by simp), by go_num, rfl, rfl, rfl, own_snoc hown1, below_app hb hgrow1, by simp <;> omega, by simp <;> omega, by simp <;> omega, by simp⟩
            · have HS : Hid (Pl.step k s[k] ⟨ng, mant, nf, en, es, 0⟩ = some ⟨true, mant, nf, en, es, 1⟩) := (by simp [Pl.step, q_iff, hc45] : _ = _)
              go_wp2
              go_meet
              exact Or.inr ⟨_, HS, rfl, rfl, rfl, rfl, rfl, rfl, hown, hb, by simp <;> omega, by simp <;> omega, by simp <;> omega, by simp⟩
          · as_aux_lemma =>
            cases hc48 : ((s[k].toNat : Int) == 48)
            · cases hD : Pl.isD s[k]
              · have HS : Hid (Pl.step k s[k] ⟨ng, mant, nf, en, es, 1⟩ = none) := (by simp [Pl.step, q_iff, hc48, hD] : _ = _)
                go_wp2
                go_meet
                exact Or.inl ⟨HS, rfl, hb⟩
              · have HS : Hid (Pl.step k s[k] ⟨ng, mant, nf, en, es, 1⟩ = some ⟨ng, mant ++ [s[k]], nf, en, es, 3⟩) := (by simp [Pl.step, q_iff, hc48, hD] : _ = _)
                go_wp2_with (at_builtin; refine wpList_append_fits _ rfl (.tmp 57) (.tmp 59) 35 rfl w.heap.size 5 i0 1 Tryd.underlying35 hi hz1 w.heap.size mant.length s.size _ rfl (hown.alloc _) ⟨wr.heap.size, 0, none⟩ 1 1 [.int .u8 s[k].toNat] rfl rfl (cell_one_new _ _ _) (by intro u hu; simp at hu; subst hu; rfl) (by omega) ?_; intro w1 hown1 hgrow1)
                go_meet
                exact Or.inr ⟨_, HS, rfl, slice_len (by simp), by go_num, rfl, rfl, rfl, own_snoc hown1, below_app hb hgrow1, by simp <;> omega, by simp <;> omega, by simp <;> omega, by simp⟩
            · have HS : Hid (Pl.step k s[k] ⟨ng, mant, nf, en, es, 1⟩ = some ⟨ng, mant ++ [s[k]], nf, en, es, 2⟩) := (by simp [Pl.step, q_iff, hc48] : _ = _)
              go_wp2_with (at_builtin; refine wpList_append_fits _ rfl (.tmp 52) (.tmp 54) 35 rfl w.heap.size 5 i0 1 Tryd.underlying35 hi hz1 w.heap.size mant.length s.size _ rfl (hown.alloc _) ⟨wr.heap.size, 0, none⟩ 1 1 [.int .u8 s[k].toNat] rfl rfl (cell_one_new _ _ _) (by intro u hu; simp at hu; subst hu; rfl) (by omega) ?_; intro w1 hown1 hgrow1)
              go_meet
              exact Or.inr ⟨_, HS, rfl, slice_len (by simp), by go_num, rfl, rfl, rfl, own_snoc hown1, below_app hb hgrow1, by simp <;> omega, by simp <;> omega, by simp <;> omega, by simp⟩
          · as_aux_lemma =>
            cases hc46 : ((s[k].toNat : Int) == 46)
            · cases hE : Pl.isEc s[k]
              · have HS : Hid (Pl.step k s[k] ⟨ng, mant, nf, en, es, 2⟩ = none) := (by simp [Pl.step, q_iff, hc46, hE] : _ = _)
                go_wp2
                go_meet
                exact Or.inl ⟨HS, rfl, hb⟩
              · have HS : Hid (Pl.step k s[k] ⟨ng, mant, nf, en, es, 2⟩ = some ⟨ng, mant, nf, en, es, 6⟩) := (by simp [Pl.step, q_iff, hc46, hE] : _ = _)
                go_wp2
                go_meet
                exact Or.inr ⟨_, HS, rfl, rfl, rfl, rfl, rfl, rfl, hown, hb, by simp <;> omega, by simp <;> omega, by simp <;> omega, by simp⟩
            · have HS : Hid (Pl.step k s[k] ⟨ng, mant, nf, en, es, 2⟩ = some ⟨ng, mant, nf, en, es, 4⟩) := (by simp [Pl.step, q_iff, hc46] : _ = _)
              go_wp2
              go_meet
              exact Or.inr ⟨_, HS, rfl, rfl, rfl, rfl, rfl, rfl, hown, hb, by simp <;> omega, by simp <;> omega, by simp <;> omega, by simp⟩
          · as_aux_lemma =>
            cases hD : Pl.isD s[k]
            · cases hc46 : ((s[k].toNat : Int) == 46)
              · cases hE : Pl.isEc s[k]
                · have HS : Hid (Pl.step k s[k] ⟨ng, mant, nf, en, es, 3⟩ = none) := (by simp [Pl.step, q_iff, hD, hc46, hE] : _ = _)
                  go_wp2
                  go_meet
                  exact Or.inl ⟨HS, rfl, hb⟩
                · have HS : Hid (Pl.step k s[k] ⟨ng, mant, nf, en, es, 3⟩ = some ⟨ng, mant, nf, en, es, 6⟩) := (by simp [Pl.step, q_iff, hD, hc46, hE] : _ = _)
                  go_wp2
                  go_meet
                  exact Or.inr ⟨_, HS, rfl, rfl, rfl, rfl, rfl, rfl, hown, hb, by simp <;> omega, by simp <;> omega, by simp <;> omega, by simp⟩
              · have HS : Hid (Pl.step k s[k] ⟨ng, mant, nf, en, es, 3⟩ = some ⟨ng, mant, nf, en, es, 4⟩) := (by simp [Pl.step, q_iff, hD, hc46] : _ = _)
                go_wp2
                go_meet
                exact Or.inr ⟨_, HS, rfl, rfl, rfl, rfl, rfl, rfl, hown, hb, by simp <;> omega, by simp <;> omega, by simp <;> omega, by simp⟩
            · have HS : Hid (Pl.step k s[k] ⟨ng, mant, nf, en, es, 3⟩ = some ⟨ng, mant ++ [s[k]], nf, en, es, 3⟩) := (by simp [Pl.step, q_iff, hD] : _ = _)
              go_wp2_with (at_builtin; refine wpList_append_fits _ rfl (.tmp 69) (.tmp 71) 35 rfl w.heap.size 5 i0 1 Tryd.underlying35 hi hz1 w.heap.size mant.length s.size _ rfl (hown.alloc _) ⟨wr.heap.size, 0, none⟩ 1 1 [.int .u8 s[k].toNat] rfl rfl (cell_one_new _ _ _) (by intro u hu; simp at hu; subst hu; rfl) (by omega) ?_; intro w1 hown1 hgrow1)
              go_meet
              exact Or.inr ⟨_, HS, rfl, slice_len (by simp), by go_num, rfl, rfl, rfl, own_snoc hown1, below_app hb hgrow1, by simp <;> omega, by simp <;> omega, by simp <;> omega, by simp⟩
          · as_aux_lemma =>
            cases hD : Pl.isD s[k]
            · have HS : Hid (Pl.step k s[k] ⟨ng, mant, nf, en, es, 4⟩ = none) := (by simp [Pl.step, q_iff, hD] : _ = _)
              go_wp2
              go_meet
              exact Or.inl ⟨HS, rfl, hb⟩
            · have HS : Hid (Pl.step k s[k] ⟨ng, mant, nf, en, es, 4⟩ = some ⟨ng, mant ++ [s[k]], nf + 1, en, es, 5⟩) := (by simp [Pl.step, q_iff, hD] : _ = _)
              go_wp2_with (at_builtin; refine wpList_append_fits _ rfl (.tmp 80) (.tmp 82) 35 rfl w.heap.size 5 i0 1 Tryd.underlying35 hi hz1 w.heap.size mant.length s.size _ rfl (hown.alloc _) ⟨wr.heap.size, 0, none⟩ 1 1 [.int .u8 s[k].toNat] rfl rfl (cell_one_new _ _ _) (by intro u hu; simp at hu; subst hu; rfl) (by omega) ?_; intro w1 hown1 hgrow1)
              go_meet
              exact Or.inr ⟨_, HS, rfl, slice_len (by simp), by go_num, rfl, rfl, rfl, own_snoc hown1, below_app hb hgrow1, by simp <;> omega, by simp <;> omega, by simp <;> omega, by simp⟩
          · as_aux_lemma =>
            cases hD : Pl.isD s[k]
            · cases hE : Pl.isEc s[k]
              · have HS : Hid (Pl.step k s[k] ⟨ng, mant, nf, en, es, 5⟩ = none) := (by simp [Pl.step, q_iff, hD, hE] : _ = _)
                go_wp2
                go_meet
                exact Or.inl ⟨HS, rfl, hb⟩
              · have HS : Hid (Pl.step k s[k] ⟨ng, mant, nf, en, es, 5⟩ = some ⟨ng, mant, nf, en, es, 6⟩) := (by simp [Pl.step, q_iff, hD, hE] : _ = _)
                go_wp2
                go_meet
                exact Or.inr ⟨_, HS, rfl, rfl, rfl, rfl, rfl, rfl, hown, hb, by simp <;> omega, by simp <;> omega, by simp <;> omega, by simp⟩
            · have HS : Hid (Pl.step k s[k] ⟨ng, mant, nf, en, es, 5⟩ = some ⟨ng, mant ++ [s[k]], nf + 1, en, es, 5⟩) := (by simp [Pl.step, q_iff, hD] : _ = _)
              go_wp2_with (at_builtin; refine wpList_append_fits _ rfl (.tmp 80) (.tmp 82) 35 rfl w.heap.size 5 i0 1 Tryd.underlying35 hi hz1 w.heap.size mant.length s.size _ rfl (hown.alloc _) ⟨wr.heap.size, 0, none⟩ 1 1 [.int .u8 s[k].toNat] rfl rfl (cell_one_new _ _ _) (by intro u hu; simp at hu; subst hu; rfl) (by omega) ?_; intro w1 hown1 hgrow1)
              go_meet
              exact Or.inr ⟨_, HS, rfl, slice_len (by simp), by go_num, rfl, rfl, rfl, own_snoc hown1, below_app hb hgrow1, by simp <;> omega, by simp <;> omega, by simp <;> omega, by simp⟩
          · as_aux_lemma =>
            cases hc43 : ((s[k].toNat : Int) == 43)
            · cases hc45 : ((s[k].toNat : Int) == 45)
              · cases hD : Pl.isD s[k]
                · have HS : Hid (Pl.step k s[k] ⟨ng, mant, nf, en, es, 6⟩ = none) := (by simp [Pl.step, q_iff, hc43, hc45, hD] : _ = _)
                  go_wp2
                  go_meet
                  exact Or.inl ⟨HS, rfl, hb⟩
                · have HS : Hid (Pl.step k s[k] ⟨ng, mant, nf, en, es, 6⟩ = some ⟨ng, mant, nf, en, k, 8⟩) := (by simp [Pl.step, q_iff, hc43, hc45, hD] : _ = _)
                  go_wp2
                  go_meet
                  exact Or.inr ⟨_, HS, rfl, rfl, rfl, rfl, rfl, rfl, hown, hb, by simp <;> omega, by simp <;> omega, by simp <;> omega, by simp⟩
              · have HS : Hid (Pl.step k s[k] ⟨ng, mant, nf, en, es, 6⟩ = some ⟨ng, mant, nf, true, es, 7⟩) := (by simp [Pl.step, q_iff, hc43, hc45] : _ = _)
                go_wp2
                go_meet
                exact Or.inr ⟨_, HS, rfl, rfl, rfl, rfl, rfl, rfl, hown, hb, by simp <;> omega, by simp <;> omega, by simp <;> omega, by simp⟩
            · have HS : Hid (Pl.step k s[k] ⟨ng, mant, nf, en, es, 6⟩ = some ⟨ng, mant, nf, en, es, 7⟩) := (by simp [Pl.step, q_iff, hc43] : _ = _)
              go_wp2
              go_meet
              exact Or.inr ⟨_, HS, rfl, rfl, rfl, rfl, rfl, rfl, hown, hb, by simp <;> omega, by simp <;> omega, by simp <;> omega, by simp⟩
          · as_aux_lemma =>
            cases hD : Pl.isD s[k]
            · have HS : Hid (Pl.step k s[k] ⟨ng, mant, nf, en, es, 7⟩ = none) := (by simp [Pl.step, q_iff, hD] : _ = _)
              go_wp2
              go_meet
              exact Or.inl ⟨HS, rfl, hb⟩
            · have HS : Hid (Pl.step k s[k] ⟨ng, mant, nf, en, es, 7⟩ = some ⟨ng, mant, nf, en, k, 8⟩) := (by simp [Pl.step, q_iff, hD] : _ = _)
              go_wp2
              go_meet
              exact Or.inr ⟨_, HS, rfl, rfl, rfl, rfl, rfl, rfl, hown, hb, by simp <;> omega, by simp <;> omega, by simp <;> omega, by simp⟩
          · as_aux_lemma =>
            cases hD : Pl.isD s[k]
            · have HS : Hid (Pl.step k s[k] ⟨ng, mant, nf, en, es, 8⟩ = none) := (by simp [Pl.step, q_iff, hD] : _ = _)
              go_wp2
              go_meet
              exact Or.inl ⟨HS, rfl, hb⟩
            · have HS : Hid (Pl.step k s[k] ⟨ng, mant, nf, en, es, 8⟩ = some ⟨ng, mant, nf, en, es, 8⟩) := (by simp [Pl.step, q_iff, hD] : _ = _)
              go_wp2
              go_meet
              exact Or.inr ⟨_, HS, rfl, rfl, rfl, rfl, rfl, rfl, hown, hb, by simp <;> omega, by simp <;> omega, by simp <;> omega, by simp⟩
        case rest =>
          rcases hcut with ⟨HS, rfl, hb'⟩ | ⟨σ', HS, rfl, rfl, rfl, rfl, rfl, rfl, hown', hb', h1, h2, h3, h4⟩
          · go_wp2
            exact bodyPost_ret (v := .tuple #[.bool false, .string ⟨#[]⟩, .int .i64 0, .bool false]) (by simp [results, Tryd.results10, go_sem]) rfl ⟨by rw [Pl.run_none HR.out (drop_at s k hlt) HS.out]; rfl, hb'⟩
          · go_wp2
            go_roundg (s.size - (k + 1))
            case measure => omega
            case rel => exact ⟨k + 1, σ', by omega, rfl, (Pl.run_some HR.out (drop_at s k hlt) HS.out : _ = _), (Pl.Inv_step HI.out (drop_at s k hlt) HS.out : Pl.Inv _ _ _), h1, h2, h3, h4, rfl, rfl, rfl, rfl, rfl, rfl, by go_num, hown', hb'⟩
    · obtain rfl : k = s.size := by omega
      have HM : Hid (Pl.mDec s.data.toList = Pl.acc s.data.toList (some σ)) := (Pl.run_end HR.out (by rw [size_list]; exact Nat.le_refl _) : _ = _)
      have HI2 : Hid (σ.st = 8 → ∀ c ∈ s.data.toList.drop σ.es, Pl.isD c = true) := fun h => Pl.Inv_end (by rw [size_list]; exact HI.out) h
      obtain ⟨wo, rfl⟩ : ∃ wo : World, wo = wr := ⟨_, rfl⟩
      clear HR HI
      obtain ⟨ng, mant, nf, en, es, st⟩ := σ
      simp only at hm hn he hst hown HI2
      go_upto_region 66 with fail
      go_cut [122] (fun v wx => v = .bool (!Pl.accepts st) ∧ wo = wx)
      case first =>
        rcases (show st = 0 ∨ st = 1 ∨ st = 2 ∨ st = 3 ∨ st = 4 ∨ st = 5 ∨ st = 6 ∨ st = 7 ∨ st = 8 by omega) with rfl | rfl | rfl | rfl | rfl | rfl | rfl | rfl | rfl
        all_goals
          go_wp2
          go_meet
          exact ⟨rfl, rfl⟩
      case rest =>
        obtain ⟨rfl, rfl⟩ := hcut
        cases hacc : Pl.accepts st
        · go_wp2
          exact bodyPost_ret (v := .tuple #[.bool false, .string ⟨#[]⟩, .int .i64 0, .bool false]) (by simp [results, Tryd.results10, go_sem]) rfl ⟨by rw [Pl.end_no HM.out hacc]; rfl, hb⟩
        · have HA : Hid (Pl.accepts st = true) := hacc
          have HM2 : Hid (Pl.mDec s.data.toList = some (Pl.mNum s.data.toList ⟨ng, mant, nf, en, es, st⟩)) := (Pl.end_yes HM.out hacc : _ = _)
          go_upto_if 124 with fail
          go_cut [9, 17] (fun _ v wx => v = .int .i64 (Pl.mExp s.data.toList ⟨ng, mant, nf, en, es, st⟩) ∧ wo = wx)
          case first =>
            by_cases h8 : st = 8
            · subst h8
              have hes : (s.extract es s.size).size ≤ 4194304 := by simp; omega
              have hdl : ∀ c ∈ (s.extract es s.size).data.toList, Pl.isD c = true := fun c hc => HI2.out rfl c (by rw [ext_drop] at hc; exact hc)
              have HC := hide (clamp_ex (s.extract es s.size) hes hdl)
              have HBD := hide (sat_drop_bound (l := s.data.toList) (es := es) (HI2.out rfl))
              clear hdl hes HI2
              have hee : es ≤ s.size := he
              go_wp2_with fail
              refine (HC.out _).mono ?_
              rintro e w' ⟨rfl, rfl⟩
              obtain ⟨hb1, hb2⟩ := HBD.out
              rw [ext_drop]
              cases hen : en
              · go_wp2
                go_meet
                exact ⟨by simp [Pl.mExp, hen], rfl⟩
              · go_wp2
                go_meet
                exact ⟨by simp [Pl.mExp, hen], rfl⟩
            · have h8b : ((st : Int) == 8) = false := by simp; omega
              go_wp2
              go_meet
              exact ⟨by simp [Pl.mExp, h8], rfl⟩
          case rest =>
            obtain ⟨rfl, rfl⟩ := hcut
            obtain ⟨hE1, hE2⟩ := mExp_bound (L := s.data.toList) (σ := ⟨ng, mant, nf, en, es, st⟩) HI2.out
            clear HI2 HM HA hacc
            have HN := hide (fun (m j : Nat) (hj : j < mant.length) (hmj : m ≤ j) h1 h2 h3 => HM2.out.trans (congrArg some (Pl.num_some (L := s.data.toList) (σ := ⟨ng, mant, nf, en, es, st⟩) (m := m) (j := j) hj hmj h1 h2 h3)))
            have HZ := hide (fun (h : Pl.trL mant = []) => HM2.out.trans (congrArg some (Pl.num_zero (L := s.data.toList) (σ := ⟨ng, mant, nf, en, es, st⟩) h)))
            simp only at HN
            generalize Pl.mExp s.data.toList ⟨ng, mant, nf, en, es, st⟩ = E at *
            clear HM2
            have hcell := own_cells hown
            have HCL := hide hcell
            clear hcell
            have HOWN := hide hown
            clear hown
            go_wp2_with fail
            go_loopg [18] mant.length (fun g c18 wx => ∃ m : Nat, m ≤ mant.length ∧ g = mant.length - m ∧ c18 = .int .i64 m ∧ Hid (∀ j (hj : j < mant.length), j < m → (mant[j] == 48) = true) ∧ wo = wx)
            case atStart => exact ⟨0, Nat.zero_le _, rfl, rfl, fun j hj h => by omega, rfl⟩
            case round =>
              obtain ⟨m, hmm, rfl, rfl, HB, rfl⟩ := hrel
              by_cases hlm : m < mant.length
              · have hc := HCL.out m hlm
                cases h48 : ((mant[m].toNat : Int) == 48)
                · have HT := hide (trL_at (l := mant) (k := m) HB.out (fun _ => ne48 h48))
                  have HNE := hide (ne48 h48)
                  have hml : ((m : Int) == (mant.length : Int)) = false := by simp; omega
                  go_wp2_with fail
                  clear hc h48
                  go_loopg [19] (mant.length - 1) (fun g c19 wx => ∃ j : Nat, j < mant.length ∧ m ≤ j ∧ j = g ∧ c19 = .int .i64 j ∧ Hid (∀ i (hi : i < mant.length), j < i → (mant[i] == 48) = true) ∧ wo = wx)
                  case atStart => exact ⟨mant.length - 1, by omega, by omega, rfl, int_eq (by omega), fun i hi h => by omega, rfl⟩
                  case round =>
                    obtain ⟨j, hj, hmj, rfl, rfl, HJ, rfl⟩ := hrel
                    have hc := HCL.out j hj
                    cases h48 : ((mant[j].toNat : Int) == 48)
                    · have HF := hide (HN.out m j hj hmj HT.out (ne48 h48) HJ.out)
                      have hcv := conv_mid (wo := wo) (B := w.heap.size) (cap := s.size) HCL.out hmj hj
                      have hms : (m : Int) < (s.size : Int) := by omega
                      have hjs : (j : Int) + 1 ≤ (s.size : Int) := by omega
                      have hmj2 : (m : Int) ≤ (j : Int) + 1 := by omega
                      have hne : ¬ s.size = m := by omega
                      have htn : ((j : Int) + 1).toNat = j + 1 := by omega
                      clear HN HZ HT HNE HJ HB HCL HOWN
                      go_wp2_with fail
                      go_quiet (fail)
                      go_wp2
                      exact bodyPost_ret (v := .tuple #[.bool ng, .string ⟨((mant.drop m).take (j + 1 - m)).toArray⟩, .int .i64 (E - (nf : Int) + ((mant.length : Int) - 1 - (j : Int))), .bool true]) (by simp [results, Tryd.results10, go_sem]) rfl ⟨by rw [HF.out]; rfl, below_drewN hb _⟩
                    · have hjm : j ≠ m := fun e => by subst e; have := HNE.out; rw [eq48 h48] at this; cases this
                      go_wp2
                      go_roundg (j - 1)
                      case measure => omega
                      case rel =>
                        refine ⟨j - 1, by omega, by omega, rfl, int_eq (by omega), fun i hi h => ?_, rfl⟩
                        by_cases e : i = j
                        · subst e; exact eq48 h48
                        · exact HJ.out i hi (by omega)
                · go_wp2
                  go_roundg (mant.length - (m + 1))
                  case measure => omega
                  case rel =>
                    refine ⟨m + 1, by omega, rfl, by go_num, fun j hj hjk => ?_, rfl⟩
                    by_cases e : j = m
                    · subst e; exact eq48 h48
                    · exact HB.out j hj (by omega)
              · have hme : (m : Int) = (mant.length : Int) := by omega
                have HT := hide ((trL_at (l := mant) (k := m) HB.out (fun h => absurd h hlm)).trans (List.drop_of_length_le (by omega)))
                have hml : ((m : Int) == (mant.length : Int)) = true := by simp; omega
                clear hme
                go_wp2
                exact bodyPost_ret (v := .tuple #[.bool false, .string ⟨#[]⟩, .int .i64 0, .bool true]) (by simp [results, Tryd.results10, go_sem]) rfl ⟨by rw [HZ.out HT.out]; rfl, hb⟩
end Go.Proofs.Qxb6603029aDoor
