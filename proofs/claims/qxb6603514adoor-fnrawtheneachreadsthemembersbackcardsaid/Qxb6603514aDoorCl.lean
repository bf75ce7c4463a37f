/-
  The closure of ZZeachAll.
-/
import Derived.Test.Qxb6603514aDoorQd
namespace Go.Proofs.Qxb6603514aDoor
open Go.RowKit
theorem srcRx (W : World) (x : Nat) (a : Option Addr) (n c : Nat) (hx : x = W.heap.size) : Src Tryd.prog 1 42 (.slice (some ⟨x, 0, none⟩) 1 1) 1 [.slice a n c] (W.alloc (.cells #[.slice a n c] 25)) := by subst hx; exact srcR W a n c
theorem srcKx (W : World) (x : Nat) (k : Int) (hx : x = W.heap.size) : Src Tryd.prog 1 43 (.slice (some ⟨x, 0, none⟩) 1 1) 1 [.int .i64 k] (W.alloc (.cells #[.int .i64 k] 46)) := by subst hx; exact srcK W k
/-- At the store: the boxes, the new row apart. -/
theorem Quad.facts {w0 : World} {B : Nat} {w : World} {a : Fin 4 → Option Addr} {c n : Fin 4 → Nat} {l : Fin 4 → List Value} (h : Quad w0 B w a c n l) (i : Fin 4) {w1 : World} {a' : Option Addr} (s : Step w (a i) w1 a') (j : Fin 4) :
    w1.cell? ⟨B + j.val, 0, none⟩ = some (.slice (a j) (n j) (c j)) ∧ w1.frozen? ⟨B + j.val, 0, none⟩ = false := by
  have hr : w1.rowIs (B + j.val) (ty4 j) 1 (fun _ => .slice (a j) (n j) (c j)) := (h.box j).of_block (s.block _ (h.box j).lt (fun e => by have := h.own i _ e; have := j.isLt; omega))
  exact ⟨hr.cell (by omega), hr.frozen 0⟩
theorem Step.keepc {w w1 : World} {a a' : Option Addr} (s : Step w a w1 a') {p : Addr} {v : Value} (hp : w.cell? p = some v) (hn : blk a ≠ some p.block) : w1.cell? p = some v := (s.cell (World.block_lt_of_cell? _ _ hp) hn).trans hp
structure Env (w0 : World) (B X : Nat) (e0 e1 f0 f1 : Value) (w : World) (a : Fin 4 → Option Addr) (c n : Fin 4 → Nat) (l : Fin 4 → List Value) : Prop where
  quad : Quad w0 B w a c n l
  lt : B + 4 ≤ X
  x0 : w.cell? ⟨X, 0, none⟩ = some e0
  x1 : w.cell? ⟨X, 1, none⟩ = some e1
  y0 : w.cell? ⟨X + 1, 0, none⟩ = some f0
  y1 : w.cell? ⟨X + 1, 1, none⟩ = some f1
  as0 : ∀ i, blk (a i) ≠ some X
  as1 : ∀ i, blk (a i) ≠ some (X + 1)
section
variable {w0 : World} {B X : Nat} {e0 e1 f0 f1 : Value} {w : World} {a : Fin 4 → Option Addr} {c n : Fin 4 → Nat} {l : Fin 4 → List Value}
theorem Env.on (h : Env w0 B X e0 e1 f0 f1 w a c n l) {w' : World} (ho : Old w w') : Env w0 B X e0 e1 f0 f1 w' a c n l :=
  ⟨h.quad.on ho, h.lt, ho.cell h.x0, ho.cell h.x1, ho.cell h.y0, ho.cell h.y1, h.as0, h.as1⟩
/-- At the store. -/
theorem Env.mid (h : Env w0 B X e0 e1 f0 f1 w a c n l) (i : Fin 4) {w1 : World} {a' : Option Addr} (s : Step w (a i) w1 a') :
    w1.cell? ⟨X, 0, none⟩ = some e0 ∧ w1.cell? ⟨X, 1, none⟩ = some e1 ∧ w1.cell? ⟨X + 1, 0, none⟩ = some f0 ∧ w1.cell? ⟨X + 1, 1, none⟩ = some f1 :=
  ⟨s.keepc h.x0 (h.as0 i), s.keepc h.x1 (h.as0 i), s.keepc h.y0 (h.as1 i), s.keepc h.y1 (h.as1 i)⟩
theorem Env.step (h : Env w0 B X e0 e1 f0 f1 w a c n l) (i : Fin 4) {w1 : World} {a' : Option Addr} {c' n' : Nat} {l' : List Value} (s : Step w (a i) w1 a') (hb : Bg 1 w1 a' c' n' l') :
    Env w0 B X e0 e1 f0 f1 (w1.setCell ⟨B + i.val, 0, none⟩ (.slice a' n' c')) (up4 a i a') (up4 c i c') (up4 n i n') (up4 l i l') ∧ Fr B w a (w1.setCell ⟨B + i.val, 0, none⟩ (.slice a' n' c')) (up4 a i a') := by
  obtain ⟨hq, hf⟩ := h.quad.step i s hb
  have hX : X < w.heap.size := World.block_lt_of_cell? _ _ h.x0
  have hY : X + 1 < w.heap.size := World.block_lt_of_cell? _ _ h.y0
  have l1 := h.lt
  exact ⟨⟨hq, h.lt, hf.cell h.x0 h.lt h.as0, hf.cell h.x1 h.lt h.as0, hf.cell h.y0 (show B + 4 ≤ X + 1 by omega) h.as1, hf.cell h.y1 (show B + 4 ≤ X + 1 by omega) h.as1, hf.aside hX h.as0, hf.aside hY h.as1⟩, hf⟩
end
set_option maxRecDepth 100000 in
set_option maxHeartbeats 4000000 in
theorem clos27 (w0 : World) (B : Nat) (w : World) (a0 a1 a2 a3 : Option Addr) (c0 c1 c2 c3 n0 n1 n2 n3 : Nat) (l0 l1 l2 l3 : List Value) (hQ : Quad w0 B w (q4 a0 a1 a2 a3) (q4 c0 c1 c2 c3) (q4 n0 n1 n2 n3) (q4 l0 l1 l2 l3))
    (k1 : Int) (r1 : Option Addr) (m1 d1 : Nat) (k2 : Int) (r2 : Option Addr) (m2 d2 : Nat) (h0 : n0 ≤ 50000000) (h1 : n1 ≤ 50000000) (h2 : n2 ≤ 50000000) (h3 : n3 ≤ 50000000) :
    Calls Tryd.prog 27 #[.agg #[.int .i64 k1, .slice r1 m1 d1, .pointer none], .agg #[.int .i64 k2, .slice r2 m2 d2, .pointer none], .pointer (some ⟨B, 0, none⟩), .pointer (some ⟨B + 1, 0, none⟩), .pointer (some ⟨B + 2, 0, none⟩), .pointer (some ⟨B + 3, 0, none⟩)] w fun e w' =>
      Hid (∃ a0' a1' a2' a3' c0' c1' c2' c3', e = .returned (.bool true) ∧ Quad w0 B w' (q4 a0' a1' a2' a3') (q4 c0' c1' c2' c3') (q4 (n0 + 1) (n1 + 1) (n2 + 1) (n3 + 1)) (q4 (l0 ++ [.slice r1 m1 d1]) (l1 ++ [.int .i64 k1]) (l2 ++ [.slice r2 m2 d2]) (l3 ++ [.int .i64 k2])) ∧ Fr B w (q4 a0 a1 a2 a3) w' (q4 a0' a1' a2' a3')) := by
  have HE : Hid (Env w0 B w.heap.size (.int .i64 k1) (.slice r1 m1 d1) (.int .i64 k2) (.slice r2 m2 d2) ((w.alloc (.cells #[.int .i64 k1, .slice r1 m1 d1, .pointer none] 60)).alloc (.cells #[.int .i64 k2, .slice r2 m2 d2, .pointer none] 60)) (q4 a0 a1 a2 a3) (q4 c0 c1 c2 c3) (q4 n0 n1 n2 n3) (q4 l0 l1 l2 l3)) := by
    have hO1 : Old (w.alloc (.cells #[.int .i64 k1, .slice r1 m1 d1, .pointer none] 60)) ((w.alloc (.cells #[.int .i64 k1, .slice r1 m1 d1, .pointer none] 60)).alloc (.cells #[.int .i64 k2, .slice r2 m2 d2, .pointer none] 60)) := (Old.refl _).alloc _
    have e : (w.alloc (.cells #[.int .i64 k1, .slice r1 m1 d1, .pointer none] 60)).heap.size = w.heap.size + 1 := by simp
    refine ⟨hQ.on (((Old.refl w).alloc _).alloc _), hQ.lt, hO1.cell ?_, hO1.cell ?_, ?_, ?_, fun i e => by have := (hQ.buf i).lt _ e; omega, fun i e => by have := (hQ.buf i).lt _ e; omega⟩
    · rw [World.cell?_alloc_at _ _ _ _ rfl]; rfl
    · rw [World.cell?_alloc_at _ _ _ _ rfl]; rfl
    · rw [← e, World.cell?_alloc_at _ _ _ _ rfl]; rfl
    · rw [← e, World.cell?_alloc_at _ _ _ _ rfl]; rfl
  have HF := hide (Fr.of (B := B) (a := q4 a0 a1 a2 a3) (((Old.refl w).alloc (.cells #[.int .i64 k1, .slice r1 m1 d1, .pointer none] 60)).alloc (.cells #[.int .i64 k2, .slice r2 m2 d2, .pointer none] 60)))
  have hlt := hQ.lt
  have hBne : ¬ B = w.heap.size := by omega
  have hBn1 : ¬ B + 1 = w.heap.size := by omega
  have hBn2 : ¬ B + 2 = w.heap.size := by omega
  have hBn3 : ¬ B + 3 = w.heap.size := by omega
  have f0 : ((w.alloc (.cells #[.int .i64 k1, .slice r1 m1 d1, .pointer none] 60)).alloc (.cells #[.int .i64 k2, .slice r2 m2 d2, .pointer none] 60)).cell? ⟨B, 0, none⟩ = some (.slice a0 n0 c0) := (HE.out.quad.box 0).cell (by omega)
  clear hQ hlt
  go_enter Tryd.func27, Tryd.ntmps27
  go_wp2_with (first
    | (at_builtin; refine appR _ rfl (.tmp 9) (.tmp 12) rfl l0 rfl ((HE.out.on ((Old.refl _).alloc _)).quad.buf 0) _ _ rfl (srcRx _ _ _ _ _ ?_) ?_ ?_; (simp); omega; intro a0' c0' w1 HB HS; have u00 : w1.cell? ⟨B, 0, none⟩ = some (.slice a0 n0 c0) := ((HE.out.on ((Old.refl _).alloc _)).quad.facts 0 HS.out 0).1; have u01 : w1.cell? ⟨B + 1, 0, none⟩ = some (.slice a1 n1 c1) := ((HE.out.on ((Old.refl _).alloc _)).quad.facts 0 HS.out 1).1; have u02 : w1.cell? ⟨B + 2, 0, none⟩ = some (.slice a2 n2 c2) := ((HE.out.on ((Old.refl _).alloc _)).quad.facts 0 HS.out 2).1; have u03 : w1.cell? ⟨B + 3, 0, none⟩ = some (.slice a3 n3 c3) := ((HE.out.on ((Old.refl _).alloc _)).quad.facts 0 HS.out 3).1; have v0 : w1.frozen? ⟨B, 0, none⟩ = false := ((HE.out.on ((Old.refl _).alloc _)).quad.facts 0 HS.out 0).2; obtain ⟨x00, x01, y00, y01⟩ := (HE.out.on ((Old.refl _).alloc _)).mid 0 HS.out; have HP := hide ((HE.out.on ((Old.refl _).alloc _)).step 0 HS.out HB.out); rw [up4_0, up4_0, up4_0, up4_0] at HP; have HF := hide (HF.out.trans ((Fr.of ((Old.refl _).alloc _)).trans HP.out.2)); have HE := hide HP.out.1; clear HP HB HS)
    | (at_builtin; refine appK _ rfl (.tmp 14) (.tmp 17) rfl l1 rfl ((HE.out.on ((Old.refl _).alloc _)).quad.buf 1) _ _ rfl (srcKx _ _ _ ?_) ?_ ?_; (simp); omega; intro a1' c1' w2 HB HS; have u10 : w2.cell? ⟨B, 0, none⟩ = some (.slice a0' (n0 + 1) c0') := ((HE.out.on ((Old.refl _).alloc _)).quad.facts 1 HS.out 0).1; have u11 : w2.cell? ⟨B + 1, 0, none⟩ = some (.slice a1 n1 c1) := ((HE.out.on ((Old.refl _).alloc _)).quad.facts 1 HS.out 1).1; have u12 : w2.cell? ⟨B + 2, 0, none⟩ = some (.slice a2 n2 c2) := ((HE.out.on ((Old.refl _).alloc _)).quad.facts 1 HS.out 2).1; have u13 : w2.cell? ⟨B + 3, 0, none⟩ = some (.slice a3 n3 c3) := ((HE.out.on ((Old.refl _).alloc _)).quad.facts 1 HS.out 3).1; have v1 : w2.frozen? ⟨B + 1, 0, none⟩ = false := ((HE.out.on ((Old.refl _).alloc _)).quad.facts 1 HS.out 1).2; obtain ⟨x10, x11, y10, y11⟩ := (HE.out.on ((Old.refl _).alloc _)).mid 1 HS.out; have HP := hide ((HE.out.on ((Old.refl _).alloc _)).step 1 HS.out HB.out); rw [up4_1, up4_1, up4_1, up4_1] at HP; have HF := hide (HF.out.trans ((Fr.of ((Old.refl _).alloc _)).trans HP.out.2)); have HE := hide HP.out.1; clear HP HB HS)
    | (at_builtin; refine appR _ rfl (.tmp 19) (.tmp 22) rfl l2 rfl ((HE.out.on ((Old.refl _).alloc _)).quad.buf 2) _ _ rfl (srcRx _ _ _ _ _ ?_) ?_ ?_; (simp); omega; intro a2' c2' w3 HB HS; have u20 : w3.cell? ⟨B, 0, none⟩ = some (.slice a0' (n0 + 1) c0') := ((HE.out.on ((Old.refl _).alloc _)).quad.facts 2 HS.out 0).1; have u21 : w3.cell? ⟨B + 1, 0, none⟩ = some (.slice a1' (n1 + 1) c1') := ((HE.out.on ((Old.refl _).alloc _)).quad.facts 2 HS.out 1).1; have u22 : w3.cell? ⟨B + 2, 0, none⟩ = some (.slice a2 n2 c2) := ((HE.out.on ((Old.refl _).alloc _)).quad.facts 2 HS.out 2).1; have u23 : w3.cell? ⟨B + 3, 0, none⟩ = some (.slice a3 n3 c3) := ((HE.out.on ((Old.refl _).alloc _)).quad.facts 2 HS.out 3).1; have v2 : w3.frozen? ⟨B + 2, 0, none⟩ = false := ((HE.out.on ((Old.refl _).alloc _)).quad.facts 2 HS.out 2).2; obtain ⟨x20, x21, y20, y21⟩ := (HE.out.on ((Old.refl _).alloc _)).mid 2 HS.out; have HP := hide ((HE.out.on ((Old.refl _).alloc _)).step 2 HS.out HB.out); rw [up4_2, up4_2, up4_2, up4_2] at HP; have HF := hide (HF.out.trans ((Fr.of ((Old.refl _).alloc _)).trans HP.out.2)); have HE := hide HP.out.1; clear HP HB HS)
    | (at_builtin; refine appK _ rfl (.tmp 24) (.tmp 27) rfl l3 rfl ((HE.out.on ((Old.refl _).alloc _)).quad.buf 3) _ _ rfl (srcKx _ _ _ ?_) ?_ ?_; (simp); omega; intro a3' c3' w4 HB HS; have u30 : w4.cell? ⟨B, 0, none⟩ = some (.slice a0' (n0 + 1) c0') := ((HE.out.on ((Old.refl _).alloc _)).quad.facts 3 HS.out 0).1; have u31 : w4.cell? ⟨B + 1, 0, none⟩ = some (.slice a1' (n1 + 1) c1') := ((HE.out.on ((Old.refl _).alloc _)).quad.facts 3 HS.out 1).1; have u32 : w4.cell? ⟨B + 2, 0, none⟩ = some (.slice a2' (n2 + 1) c2') := ((HE.out.on ((Old.refl _).alloc _)).quad.facts 3 HS.out 2).1; have u33 : w4.cell? ⟨B + 3, 0, none⟩ = some (.slice a3 n3 c3) := ((HE.out.on ((Old.refl _).alloc _)).quad.facts 3 HS.out 3).1; have v3 : w4.frozen? ⟨B + 3, 0, none⟩ = false := ((HE.out.on ((Old.refl _).alloc _)).quad.facts 3 HS.out 3).2; obtain ⟨x30, x31, y30, y31⟩ := (HE.out.on ((Old.refl _).alloc _)).mid 3 HS.out; have HP := hide ((HE.out.on ((Old.refl _).alloc _)).step 3 HS.out HB.out); rw [up4_3, up4_3, up4_3, up4_3] at HP; have HF := hide (HF.out.trans ((Fr.of ((Old.refl _).alloc _)).trans HP.out.2)); have HE := hide HP.out.1; clear HP HB HS))
  go_ret
  exact hide ⟨a0', a1', a2', a3', c0', c1', c2', c3', rfl, HE.out.quad, HF.out⟩
end Go.Proofs.Qxb6603514aDoor
