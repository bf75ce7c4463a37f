import Derived.Test.Qxb6603262aDoorWj
import Derived.Test.Qxb6603262aDoorPlaind
import Derived.Test.Qxb6603262aDoorWp
namespace Go.Proofs.Qxb6603262aDoor
open Go.RowKit
set_option linter.unusedSimpArgs false
namespace Md
theorem byte_of {s : ByteArray} {k : Nat} {c : UInt8} (h : s.data.toList[k]? = some c) : ∃ hk : k < s.size, s[k] = c := by
  obtain ⟨h1, h2⟩ := List.getElem?_eq_some_iff.1 h
  rw [size_list] at h1
  exact ⟨h1, h2⟩
theorem drop_inj {l : List UInt8} {a b : Nat} (ha : a ≤ l.length) (hb : b ≤ l.length) (h : l.drop a = l.drop b) : a = b := by
  have := congrArg List.length h; simp at this; omega
theorem ne_b {c : UInt8} (h : ((c.toNat : Int) == 48) = false) : c ≠ 48 := by
  intro e; subst e; revert h; decide
theorem eq_b {c : UInt8} (h : ((c.toNat : Int) == 48) = true) : c = 48 := by
  simp at h; exact UInt8.toNat_inj.1 (by rw [show (48 : UInt8).toNat = 48 from rfl]; omega)
theorem get_s {s : ByteArray} {p : Pl.Parts} (HL : Hid (s.data.toList = p.text)) (k : Nat) (hk : k < s.size) : p.text[k]? = some s[k] := by
  rw [← HL.out]; exact List.getElem?_eq_getElem (l := s.data.toList) (by rw [size_list]; exact hk)
theorem size_text {s : ByteArray} {p : Pl.Parts} (HL : Hid (s.data.toList = p.text)) : p.text.length = s.size := by rw [← HL.out, size_list]
theorem neg_head {s : ByteArray} {p : Pl.Parts} (hp : p.Ok) (HL : Hid (s.data.toList = p.text)) (h0 : 0 < s.size) : ((s[0].toNat : Int) == 45) = p.neg := by
  have h1 := get_s HL 0 h0
  obtain ⟨a, t, hW⟩ : ∃ a t, p.W = a :: t := by
    cases e : p.W with
    | nil => exact absurd e hp.w0
    | cons a t => exact ⟨a, t, rfl⟩
  unfold Pl.Parts.text Pl.Parts.sn at h1
  cases hn : p.neg
  · rw [hn, hW] at h1
    simp at h1
    have := Pl.isD_b (hp.wd a (by rw [hW]; exact List.mem_cons_self ..))
    rw [← h1]; simp; omega
  · rw [hn] at h1
    simp at h1
    rw [← h1]; rfl
theorem dot_at {s : ByteArray} {p : Pl.Parts} (hp : p.Ok) (HL : Hid (s.data.toList = p.text)) (h : p.we < s.size) : ((s[p.we].toNat : Int) == 46) = p.hasF := by
  have h1 := get_s HL p.we h
  have h2 : (p.text.drop p.we)[0]? = some s[p.we] := by rw [List.getElem?_drop]; exact h1
  rw [Pl.drop_we] at h2
  unfold Pl.Parts.fp at h2
  cases hF : p.hasF
  · rw [hF] at h2
    unfold Pl.Parts.ep at h2
    cases hE : p.hasE
    · rw [hE] at h2; simp at h2
    · rw [hE] at h2; simp at h2
      have := hp.e1 hE
      unfold Pl.isEc at this
      simp at this
      rw [← h2]; simp; omega
  · rw [hF] at h2; simp at h2
    rw [← h2]; rfl
theorem dot_end {p : Pl.Parts} {s : ByteArray} (HL : Hid (s.data.toList = p.text)) (h : ¬ p.we < s.size) : p.hasF = false := by
  have h1 := Pl.drop_we p
  rw [List.drop_of_length_le (by rw [size_text HL]; omega)] at h1
  unfold Pl.Parts.fp at h1
  cases hF : p.hasF
  · rfl
  · rw [hF] at h1; simp at h1
def epos (p : Pl.Parts) : Bool := decide (p.sg = [43])
def eneg (p : Pl.Parts) : Bool := decide (p.sg = [45])
theorem sg_at {s : ByteArray} {p : Pl.Parts} (hp : p.Ok) (HL : Hid (s.data.toList = p.text)) (hE : p.hasE = true) : ∃ h : p.fe + 1 < s.size, ((s[p.fe + 1].toNat : Int) == 43) = epos p ∧ ((s[p.fe + 1].toNat : Int) == 45) = eneg p := by
  unfold epos eneg
  have hx := Pl.drop_x1 hp hE
  obtain ⟨a, t, hX⟩ : ∃ a t, p.X = a :: t := by
    cases e : p.X with
    | nil => exact absurd e (hp.x1 hE)
    | cons a t => exact ⟨a, t, rfl⟩
  have hd := Pl.isD_b (hp.xd a (by rw [hX]; exact List.mem_cons_self ..))
  have hg : ∀ c, (p.sg ++ p.X)[0]? = some c → p.text[p.fe + 1]? = some c := fun c hc => by
    rw [← hx, List.getElem?_drop] at hc; exact hc
  rcases hp.s1 with h | h | h
  · obtain ⟨hk, e⟩ := byte_of (s := s) (k := p.fe + 1) (c := a) (by rw [HL.out]; exact hg a (by rw [h, hX]; rfl))
    refine ⟨hk, ?_, ?_⟩ <;> rw [e, h] <;> simp <;> omega
  · obtain ⟨hk, e⟩ := byte_of (s := s) (k := p.fe + 1) (c := 43) (by rw [HL.out]; exact hg 43 (by rw [h]; rfl))
    refine ⟨hk, ?_, ?_⟩ <;> rw [e, h] <;> decide
  · obtain ⟨hk, e⟩ := byte_of (s := s) (k := p.fe + 1) (c := 45) (by rw [HL.out]; exact hg 45 (by rw [h]; rfl))
    refine ⟨hk, ?_, ?_⟩ <;> rw [e, h] <;> decide
theorem x_at {s : ByteArray} {p : Pl.Parts} (hp : p.Ok) (HL : Hid (s.data.toList = p.text)) (hE : p.hasE = true) (j : Nat) (hj : j < p.X.length) : ∃ h : p.xs + j < s.size, s[p.xs + j] = p.X[j] := by
  apply byte_of
  rw [HL.out]
  exact Pl.get_of_drop (b := []) (by rw [Pl.drop_xs hp hE]; simp) j hj
theorem e_end {p : Pl.Parts} {s : ByteArray} (hp : p.Ok) (HL : Hid (s.data.toList = p.text)) (hE : p.hasE = false) : p.fe = s.size := by
  rw [← size_text HL, Pl.text_len hp]; unfold Pl.Parts.ep; rw [hE]; rfl
theorem e_of {p : Pl.Parts} (h : eneg p = true) : p.e = -Pl.sat p.X := by unfold Pl.Parts.e; rw [if_pos (of_decide_eq_true h)]
theorem e_of' {p : Pl.Parts} (h : eneg p = false) : p.e = Pl.sat p.X := by unfold Pl.Parts.e; rw [if_neg (of_decide_eq_false h)]
theorem e_zero {p : Pl.Parts} (hp : p.Ok) (hE : p.hasE = false) : p.e = 0 := Pl.no_exp hp hE
theorem infoU8 : (Tryd.prog.info? 5).map (fun i => (i.zero, i.size, i.bytes)) = some (some (.int .u8 0), 1, 1) := by kernel_rfl
def bv (c : UInt8) : Value := .int .u8 c.toNat
theorem own_snoc {w1 : World} {B cap : Nat} {a : Option Addr} {mant : List UInt8} {c : UInt8} (h : w1.ownsRow B 5 1 (.slice a (mant.length + 1) cap) (mant.length + 1) (mant.map bv ++ [.int .u8 c.toNat])) :
    w1.ownsRow B 5 1 (.slice a (mant ++ [c]).length cap) (mant ++ [c]).length ((mant ++ [c]).map bv) := by
  rw [List.length_append, List.map_append]; exact h
theorem below_app {w wr w1 : World} {o : Obj} (hb : Below w.heap.size w wr) (hg : (wr.alloc o).grownBy w1 (some w.heap.size)) : Below w.heap.size w w1 :=
  (hb.alloc hb.size o).grown hg (by have := hb.size; simp; omega) (fun k e => by cases e; exact Nat.le_refl _)
theorem own_cells {w : World} {B g cap : Nat} {mant : List UInt8} (h : w.ownsRow B 5 1 (.slice (some ⟨g, 0, none⟩) mant.length cap) mant.length (mant.map bv)) (j : Nat) (hj : j < mant.length) : w.cell? ⟨g, j, none⟩ = some (.int .u8 mant[j].toNat) := by
  rw [h.cellAt j (by omega), List.getElem?_map, List.getElem?_eq_getElem hj]; rfl
theorem conv_all {wo : World} {B cap : Nat} {mant : List UInt8} (hc : ∀ i (hi : i < mant.length), wo.cell? ⟨B, i, none⟩ = some (.int .u8 mant[i].toNat)) (nq : Nat) :
    (convert 31 9 (.slice (some ⟨B, 0, none⟩) mant.length cap)).run Tryd.prog (wo.drewN nq) = .ok (.string ⟨mant.toArray⟩) (wo.drewN nq) :=
  run_convert_bytes_back (P := Tryd.prog) (wo.drewN nq) 31 9 5 ⟨B, 0, none⟩ cap mant Tryd.underlying31 Tryd.underlying5 Tryd.underlying9 (fun i hi => by
    have e : (⟨B, 0, none⟩ : Addr).add i = ⟨B, i, none⟩ := by unfold Addr.add; split <;> simp_all
    rw [e, World.cell?_drewN]
    exact hc i hi)
def res3 (r : Pl.Res) : Value := .tuple #[.int .i64 r.sign, .string ⟨r.dig.toArray⟩, .int .i64 r.point]
theorem slice_len {a : Option Addr} {n m cap : Nat} (h : n = m) : Value.slice a n cap = .slice a m cap := by rw [h]

theorem wrap8 {c : UInt8} (h1 : (48 : Int) ≤ (c.toNat : Int)) : (IntKind.u8.wrap ((c.toNat : Int) - 48)) = (c.toNat : Int) - 48 := by
  have := c.toNat_lt
  simp [IntKind.wrap, IntKind.bits, IntKind.signed]; omega
theorem val_snoc {l : List UInt8} {j : Nat} (h : j < l.length) : Pl.val (l.take (j + 1)) = Pl.val (l.take j) * 10 + ((l[j].toNat : Int) - 48) := by
  unfold Pl.val; rw [List.take_succ_eq_append_getElem h, List.foldl_append]; rfl
theorem val_lt15 {l : List UInt8} {j : Nat} (hl : ∀ c ∈ l, Pl.isD c = true) (h16 : l.length ≤ 16) (hj : j < l.length) : Pl.val (l.take j) < 1000000000000000 := by
  have h2 := Pl.foldl_hi (l.take j) (fun c hc => hl c (List.mem_of_mem_take hc)) 0 (by omega)
  have h3 : 10 ^ (l.take j).length ≤ 10 ^ 15 := Nat.pow_le_pow_right (by omega) (by rw [List.length_take]; omega)
  unfold Pl.val
  generalize 10 ^ (l.take j).length = q at *
  omega

theorem first_in_W {p : Pl.Parts} (hp : p.Ok) {f : Nat} (hf : Pl.First p f) (hz : Pl.Z p p.fs p.fe) : p.ws ≤ p.pos f ∧ p.pos f < p.we ∧ Hid (∃ c, p.text[p.pos f]? = some c ∧ c ≠ 48) := by
  have hg := Pl.get_M hp f hf.1
  have hn := hf.2.2 hf.1
  have hne : p.M[f]'hf.1 ≠ 48 := by simpa using hn
  rcases Pl.pos_in hp hf.1 with ⟨h3, h4⟩ | ⟨h3, h4, h5⟩
  · refine ⟨by omega, by rw [Pl.we_eq]; omega, ⟨_, hg, hne⟩⟩
  · have := hz (p.pos f) (by omega) (by rw [Pl.fe_eq]; omega)
    rw [hg] at this
    exact absurd (Option.some.inj this) hne

theorem dot_of {c : UInt8} (h : ((c.toNat : Int) == 46) = true) : c = 46 := by
  simp at h; exact UInt8.toNat_inj.1 (by rw [show (46 : UInt8).toNat = 46 from rfl]; omega)

set_option maxRecDepth 100000 in
set_option maxHeartbeats 8000000 in
theorem model_any (p : Pl.Parts) (hp : p.Ok) (s : ByteArray) (HL : Hid (s.data.toList = p.text)) (hs : s.size ≤ 1048576) (w : World) :
    Calls Tryd.prog 8 #[.string s] w fun e w' => e = .returned (res3 p.res) ∧ Below w.heap.size w w' := by
  obtain ⟨wo, hwo⟩ : ∃ wo : World, wo = w := ⟨_, rfl⟩
  subst hwo
  have HTL := hide (size_text HL)
  have hW1 : 1 ≤ p.W.length := by
    cases e : p.W with
    | nil => exact absurd e hp.w0
    | cons a t => simp
  have hb1 : p.ws + 1 ≤ p.we := by have := Pl.we_eq p; omega
  have hb2 : p.we ≤ p.fs := by unfold Pl.Parts.fs; split <;> omega
  have hb3 : p.fs ≤ p.fe := by have := Pl.fe_eq p; omega
  have hb4 : p.fe ≤ s.size := by have := Pl.text_len hp; have := HTL.out; omega
  have h0 : 0 < s.size := by omega
  have h45 := neg_head hp HL h0
  clear hW1
  go_enter Tryd.func8, Tryd.ntmps8
  go_upto_if 25 with fail
  go_cut [5, 6, 25] (fun c5 c6 _ wx => wo = wx ∧ c5 = .int .i64 p.ws ∧ c6 = .bool p.neg)
  case first =>
    as_aux_lemma =>
      cases hn : p.neg
      · have hws : p.ws = 0 := by unfold Pl.Parts.ws; rw [hn]; rfl
        have HWS := hide hws
        rw [hn] at h45
        clear hws
        go_wp2
        go_meet
        exact ⟨rfl, by rw [HWS.out]; rfl, by rw [hn]⟩
      · have hws : p.ws = 1 := by unfold Pl.Parts.ws; rw [hn]; rfl
        have HWS := hide hws
        rw [hn] at h45
        clear hws
        go_wp2
        go_meet
        exact ⟨rfl, by rw [HWS.out]; rfl, by rw [hn]⟩
  case rest =>
    obtain ⟨rfl, rfl, rfl⟩ := hcut
    clear h45
    go_upto_block 0 with fail
    go_cut [5] (fun c5 wx => wo = wx ∧ c5 = .int .i64 p.we)
    case first =>
      as_aux_lemma =>
        go_wp2_with fail
        go_loopg [5] (s.size - p.ws) (fun g c4 wx => ∃ k : Nat, k ≤ s.size ∧ g = s.size - k ∧ c4 = .int .i64 k ∧ Hid (DigTo s.data.toList p.ws k) ∧ wo = wx)
        case atStart => exact ⟨p.ws, by omega, rfl, rfl, DigTo.refl _ _, rfl⟩
        case round =>
          obtain ⟨k, hk, rfl, rfl, HDT, rfl⟩ := hrel
          have hk0 : p.ws ≤ k := HDT.out.1
          by_cases hlt : k < s.size
          · cases hD : Pl.isD s[k]
            · have HS := hide (HDT.out.stop (fun _ => hD))
              have HK := hide (drop_inj (l := p.text) (a := k) (b := p.we) (by rw [HTL.out]; exact hk) (by rw [HTL.out]; omega) (by rw [Pl.drop_we, ← HL.out, ← HS.out.1, HL.out, Pl.drop_ws]; exact (Pl.dg_of hp.wd (Pl.fpep_noD hp)).2))
              go_wp2_with (go_at_call 12; refine (isd12 _ _).mono ?_; rintro e w' ⟨rfl, rfl⟩)
              go_meet
              exact ⟨rfl, int_eq (by rw [HK.out])⟩
            · have HST := hide (HDT.out.step hlt hD)
              go_wp2_with (go_at_call 12; refine (isd12 _ _).mono ?_; rintro e w' ⟨rfl, rfl⟩)
              go_roundg (s.size - (k + 1))
              case measure => omega
              case rel => exact ⟨k + 1, by omega, rfl, by go_num, HST, rfl⟩
          · have HS := hide (HDT.out.stop (fun h => absurd h hlt))
            have HK := hide (drop_inj (l := p.text) (a := k) (b := p.we) (by rw [HTL.out]; exact hk) (by rw [HTL.out]; omega) (by rw [Pl.drop_we, ← HL.out, ← HS.out.1, HL.out, Pl.drop_ws]; exact (Pl.dg_of hp.wd (Pl.fpep_noD hp)).2))
            go_wp2_with (go_at_call 12; refine (isd12 _ _).mono ?_; rintro e w' ⟨rfl, rfl⟩)
            go_meet
            exact ⟨rfl, int_eq (by rw [HK.out])⟩
    case rest =>
      obtain ⟨rfl, rfl⟩ := hcut
      go_upto_region 12 with fail
      go_cut [51] (fun v wx => wo = wx ∧ v = .bool p.hasF)
      case first =>
        as_aux_lemma =>
          by_cases hlt : p.we < s.size
          · have hdt := dot_at hp HL hlt
            cases hF : p.hasF
            all_goals
              rw [hF] at hdt
              go_wp2
              go_meet
              exact ⟨rfl, by rw [hF]⟩
          · have HF := hide (dot_end HL hlt)
            go_wp2
            go_meet
            exact ⟨rfl, by rw [HF.out]⟩
      case rest =>
        obtain ⟨rfl, rfl⟩ := hcut
        go_upto_if 51 with fail
        go_cut [5, 9, 10, 51] (fun c5 c9 c10 _ wx => wo = wx ∧ c5 = .int .i64 p.fe ∧ c9 = .int .i64 p.fs ∧ c10 = .int .i64 p.fe)
        case first =>
          as_aux_lemma =>
            cases hF : p.hasF
            · have HFS := hide (show p.fs = p.we by unfold Pl.Parts.fs; rw [hF]; rfl)
              have HFE := hide (show p.fe = p.we by rw [Pl.fe_eq, HFS.out, hp.f0 hF]; rfl)
              go_wp2
              go_meet
              exact ⟨rfl, int_eq (by rw [HFE.out]), int_eq (by rw [HFS.out]), int_eq (by rw [HFE.out])⟩
            · have HFS := hide (show p.fs = p.we + 1 by unfold Pl.Parts.fs; rw [hF]; rfl)
              have hfl : p.we < s.size := by
                rcases Nat.lt_or_ge p.we s.size with h | h
                · exact h
                · have := dot_end HL (by omega); rw [hF] at this; cases this
              go_upto_block 2 with fail
              go_cut [5] (fun c5 wx => wo = wx ∧ c5 = .int .i64 p.fe)
              case first =>
                go_wp2_with fail
                go_loopg [5] (s.size - p.fs) (fun g c4 wx => ∃ k : Nat, k ≤ s.size ∧ g = s.size - k ∧ c4 = .int .i64 k ∧ Hid (DigTo s.data.toList p.fs k) ∧ wo = wx)
                case atStart => exact ⟨p.fs, by omega, rfl, int_eq (by rw [HFS.out]; omega), DigTo.refl _ _, rfl⟩
                case round =>
                  obtain ⟨k, hk, rfl, rfl, HDT, rfl⟩ := hrel
                  have hk0 : p.fs ≤ k := HDT.out.1
                  by_cases hlt : k < s.size
                  · cases hD : Pl.isD s[k]
                    · have HS := hide (HDT.out.stop (fun _ => hD))
                      have HK := hide (drop_inj (l := p.text) (a := k) (b := p.fe) (by rw [HTL.out]; exact hk) (by rw [HTL.out]; omega) (by rw [Pl.drop_fe hp, ← HL.out, ← HS.out.1, HL.out, Pl.drop_fs hF]; exact (Pl.dg_of hp.fd (Pl.ep_noD hp)).2))
                      go_wp2_with (go_at_call 12; refine (isd12 _ _).mono ?_; rintro e w' ⟨rfl, rfl⟩)
                      go_meet
                      exact ⟨rfl, int_eq (by rw [HK.out])⟩
                    · have HST := hide (HDT.out.step hlt hD)
                      go_wp2_with (go_at_call 12; refine (isd12 _ _).mono ?_; rintro e w' ⟨rfl, rfl⟩)
                      go_roundg (s.size - (k + 1))
                      case measure => omega
                      case rel => exact ⟨k + 1, by omega, rfl, by go_num, HST, rfl⟩
                  · have HS := hide (HDT.out.stop (fun h => absurd h hlt))
                    have HK := hide (drop_inj (l := p.text) (a := k) (b := p.fe) (by rw [HTL.out]; exact hk) (by rw [HTL.out]; omega) (by rw [Pl.drop_fe hp, ← HL.out, ← HS.out.1, HL.out, Pl.drop_fs hF]; exact (Pl.dg_of hp.fd (Pl.ep_noD hp)).2))
                    go_wp2_with (go_at_call 12; refine (isd12 _ _).mono ?_; rintro e w' ⟨rfl, rfl⟩)
                    go_meet
                    exact ⟨rfl, int_eq (by rw [HK.out])⟩
              case rest =>
                obtain ⟨rfl, rfl⟩ := hcut
                go_wp2
                go_meet
                exact ⟨rfl, rfl, int_eq (by rw [HFS.out]; omega), rfl⟩
        case rest =>
          obtain ⟨rfl, rfl, rfl, rfl⟩ := hcut
          go_upto_if 71 with fail
          go_cut [5, 11, 12, 71] (fun _ c11 _ _ wx => wo = wx ∧ c11 = .int .i64 p.e)
          case first =>
            as_aux_lemma =>
              cases hE : p.hasE
              · have HFE := hide (e_end hp HL hE)
                have hnl : ¬ p.fe < s.size := by rw [HFE.out]; omega
                have HE0 := hide (e_zero hp hE)
                go_wp2
                go_meet
                exact ⟨rfl, int_eq (by rw [HE0.out])⟩
              · obtain ⟨hf1, hs43, hs45⟩ := sg_at hp HL hE
                have hfl : p.fe < s.size := by omega
                have HXL := hide (Pl.len_xs hp hE)
                have hxl : p.xs + p.X.length = s.size := by rw [← HXL.out]; exact HTL.out
                have HXN := hide hxl
                have hxle : p.xs + p.X.length ≤ s.size := by omega
                have hxge : s.size ≤ p.xs + p.X.length := by omega
                have HXE := hide (show p.xs = p.fe + 1 + p.sg.length from rfl)
                clear hxl HXL
                go_upto_if 77 with fail
                go_cut [5, 12, 77] (fun c5 c12 _ wx => wo = wx ∧ c5 = .int .i64 p.xs ∧ c12 = .bool (eneg p))
                case first => as_aux_lemma =>
                  rcases hp.s1 with h | h | h
                  · have HSG := hide h
                    have d43 : epos p = false := by unfold epos; rw [h]; rfl
                    have d45 : eneg p = false := by unfold eneg; rw [h]; rfl
                    have HX1 : Hid (p.xs = p.fe + 1) := (by rw [HXE.out, h]; rfl : _ = _)
                    rw [d43] at hs43
                    rw [d45] at hs45
                    clear h
                    rw [d43]
                    go_wp2
                    go_meet
                    exact ⟨rfl, int_eq (by rw [HX1.out]; omega), by rw [d45]⟩
                  · have d43 : epos p = true := by unfold epos; rw [h]; rfl
                    have d45 : eneg p = false := by unfold eneg; rw [h]; rfl
                    have HX1 : Hid (p.xs = p.fe + 1 + 1) := (by rw [HXE.out, h]; rfl : _ = _)
                    rw [d43] at hs43
                    rw [d45] at hs45
                    clear h
                    rw [d43]
                    go_wp2
                    go_meet
                    exact ⟨rfl, int_eq (by rw [HX1.out]; omega), by rw [d45]⟩
                  · have d43 : epos p = false := by unfold epos; rw [h]; rfl
                    have d45 : eneg p = true := by unfold eneg; rw [h]; rfl
                    have HX1 : Hid (p.xs = p.fe + 1 + 1) := (by rw [HXE.out, h]; rfl : _ = _)
                    rw [d43] at hs43
                    rw [d45] at hs45
                    clear h
                    rw [d43]
                    go_wp2
                    go_meet
                    exact ⟨rfl, int_eq (by rw [HX1.out]; omega), by rw [d45]⟩
                case rest =>
                  obtain ⟨rfl, rfl, rfl⟩ := hcut
                  clear hs43 hs45 hf1 hfl HXE
                  go_upto_block 4 with fail
                  go_cut [5] (fun c5 wx => wo = wx ∧ ∃ z : Nat, z ≤ p.X.length ∧ c5 = .int .i64 ((p.xs + z : Nat) : Int) ∧ Hid (Pl.trL p.X = p.X.drop z))
                  case first => as_aux_lemma =>
                    go_wp2_with fail
                    go_loopg [5] p.X.length (fun g c5 wx => wo = wx ∧ ∃ z : Nat, z ≤ p.X.length ∧ g = p.X.length - z ∧ c5 = .int .i64 ((p.xs + z : Nat) : Int) ∧ Hid (∀ j (hj : j < p.X.length), j < z → (p.X[j] == 48) = true))
                    case atStart => exact ⟨rfl, 0, Nat.zero_le _, rfl, rfl, fun j hj h => by omega⟩
                    case round =>
                      obtain ⟨rfl, z, hz, rfl, rfl, HZ⟩ := hrel
                      by_cases hlt : z < p.X.length
                      · obtain ⟨hk, hb⟩ := x_at hp HL hE z hlt
                        cases h48 : ((s[p.xs + z].toNat : Int) == 48)
                        · have HT := hide (Pl.trL_at (l := p.X) (k := z) HZ.out (fun _ => by rw [← hb]; simpa using ne_b h48))
                          clear hb
                          go_wp2
                          go_meet
                          exact ⟨rfl, z, hz, rfl, HT⟩
                        · have HB := hide (show (p.X[z] == 48) = true by rw [← hb, eq_b h48]; rfl)
                          clear hb
                          go_wp2
                          go_roundg (p.X.length - (z + 1))
                          case measure => omega
                          case rel =>
                            refine ⟨rfl, z + 1, by omega, rfl, int_eq (by omega), fun j hj hjk => ?_⟩
                            by_cases e : j = z
                            · subst e; exact HB.out
                            · exact HZ.out j hj (by omega)
                      · have hk : ¬ p.xs + z < s.size := by omega
                        have HT := hide (Pl.trL_at (l := p.X) (k := z) HZ.out (fun h => absurd h hlt))
                        go_wp2
                        go_meet
                        exact ⟨rfl, z, hz, rfl, HT⟩
                  case rest =>
                    obtain ⟨rfl, z, hz, rfl, HT⟩ := hcut
                    have HTX : Hid ((Pl.trL p.X).length = p.X.length - z) := (by rw [HT.out, List.length_drop] : _ = _)
                    go_upto_if 102 with fail
                    go_cut [5, 11, 102] (fun _ c11 _ wx => wo = wx ∧ c11 = .int .i64 (Pl.sat p.X))
                    case first => as_aux_lemma =>
                      by_cases h16 : 16 < p.X.length - z
                      · have h16i : (16 : Int) < (s.size : Int) - ((p.xs : Int) + (z : Int)) := by omega
                        have HSB := hide (Pl.sat_big hp.xd (by rw [HTX.out]; exact h16))
                        go_wp2
                        go_meet
                        exact ⟨rfl, int_eq (by rw [HSB.out])⟩
                      · have h16i : ¬ (16 : Int) < (s.size : Int) - ((p.xs : Int) + (z : Int)) := by omega
                        have HVX := hide (show ∀ c ∈ p.X.drop z, Pl.isD c = true from fun c hc => hp.xd c (List.mem_of_mem_drop hc))
                        have HVL := hide (show (p.X.drop z).length ≤ 16 by rw [List.length_drop]; omega)
                        have HSM : Hid (Pl.sat p.X = min (Pl.val (p.X.drop z)) 9007199254740992) := (by rw [Pl.sat_small hp.xd, HT.out] : _ = _)
                        go_wp2_with fail
                        go_loopg [5, 11] p.X.length (fun g c5 c11 wx => wo = wx ∧ ∃ j : Nat, z + j ≤ p.X.length ∧ g = p.X.length - j ∧ c5 = .int .i64 ((p.xs + z + j : Nat) : Int) ∧ c11 = .int .i64 (Pl.val ((p.X.drop z).take j)))
                        case atStart => exact ⟨rfl, 0, by omega, rfl, rfl, rfl⟩
                        case round =>
                          obtain ⟨rfl, j, hj, rfl, rfl, rfl⟩ := hrel
                          obtain ⟨hv1, hv2⟩ := Pl.val_bound ((p.X.drop z).take j) (fun c hc => HVX.out c (List.mem_of_mem_take hc)) (by have := HVL.out; rw [List.length_take]; omega)
                          by_cases hlt : z + j < p.X.length
                          · obtain ⟨hk, hb⟩ := x_at hp HL hE (z + j) hlt
                            have hka : p.xs + z + j < s.size := by omega
                            have hba : s[p.xs + z + j] = p.X[z + j] := by rw [← hb]; congr 1; omega
                            have hdb := Pl.isD_b (hp.xd _ (List.getElem_mem hlt))
                            rw [← hba] at hdb
                            obtain ⟨hd1, hd2⟩ := hdb
                            have HST : Hid (Pl.val ((p.X.drop z).take (j + 1)) = Pl.val ((p.X.drop z).take j) * 10 + ((s[p.xs + z + j].toNat : Int) - 48)) := (by rw [val_snoc (by rw [List.length_drop]; omega), List.getElem_drop, hba] : _ = _)
                            have hw8 := wrap8 hd1
                            have hlast : (p.X.drop z).take (j + 1) = (p.X.drop z).take (j + 1) := rfl
                            have hj16 : Pl.val ((p.X.drop z).take j) < 1000000000000000 := val_lt15 HVX.out HVL.out (by rw [List.length_drop]; omega)
                            clear hb hba hk hlast
                            go_wp2
                            go_roundg (p.X.length - (j + 1))
                            case measure => omega
                            case rel => exact ⟨rfl, j + 1, by omega, rfl, int_eq (by omega), int_eq (by rw [HST.out])⟩
                          · have HJ : Hid ((p.X.drop z).take j = p.X.drop z) := (List.take_of_length_le (by rw [List.length_drop]; omega) : _ = _)
                            have hka : ¬ p.xs + z + j < s.size := by omega
                            by_cases hM : (9007199254740992 : Int) < Pl.val ((p.X.drop z).take j)
                            · have HF := hide (show Pl.sat p.X = 9007199254740992 by rw [HSM.out, ← HJ.out]; omega)
                              go_wp2
                              go_meet
                              exact ⟨rfl, int_eq (by rw [HF.out])⟩
                            · have HF := hide (show Pl.sat p.X = Pl.val ((p.X.drop z).take j) by rw [HSM.out, HJ.out]; rw [HJ.out] at hM; omega)
                              go_wp2
                              go_meet
                              exact ⟨rfl, int_eq (by rw [HF.out])⟩
                    case rest =>
                      obtain ⟨rfl, rfl⟩ := hcut
                      have hsb := Pl.sat_bound p.X hp.xd
                      obtain ⟨hsb1, hsb2⟩ := hsb
                      cases h45d : eneg p
                      · have HEE := hide (e_of' h45d)
                        go_wp2
                        go_meet
                        exact ⟨rfl, int_eq (by rw [HEE.out])⟩
                      · have HEE := hide (e_of h45d)
                        go_wp2
                        go_meet
                        exact ⟨rfl, int_eq (by rw [HEE.out])⟩
          case rest =>
            obtain ⟨rfl, rfl⟩ := hcut
            go_upto_block 8 with fail
            go_cut [13, 14, 15] (fun c13 c14 _ wx => wo = wx ∧ ∃ F1 P1 : Int, c13 = .int .i64 F1 ∧ c14 = .int .i64 P1 ∧ -1 ≤ F1 ∧ F1 ≤ 4194304 ∧ Hid ((∃ f : Nat, Pl.First p f ∧ F1 = p.pos f ∧ P1 = (p.W.length : Int) - (f : Int)) ∨ (Pl.Z p p.ws p.we ∧ F1 = -1 ∧ P1 = 0)))
            case first =>
              as_aux_lemma =>
                go_wp2_with fail
                go_loopg [13, 14, 15] (p.we - p.ws) (fun g c13 c14 cq wx => wo = wx ∧ ∃ k : Nat, p.ws ≤ k ∧ k ≤ p.we ∧ g = p.we - k ∧ cq = .int .i64 k ∧ c13 = .int .i64 (-1) ∧ c14 = .int .i64 0 ∧ Hid (Pl.Z p p.ws k))
                case atStart => exact ⟨rfl, p.ws, Nat.le_refl _, by omega, rfl, rfl, rfl, rfl, Pl.Z.nil _ _⟩
                case round =>
                  obtain ⟨rfl, k, hk1, hk2, rfl, rfl, rfl, rfl, HZ⟩ := hrel
                  by_cases hlt : k < p.we
                  · have hks : k < s.size := by omega
                    have HGS := hide (get_s HL k hks)
                    cases h48 : ((s[k].toNat : Int) == 48)
                    · have hbne : ((s[k].toNat : Int) != 48) = true := by simp at h48 ⊢; exact h48
                      have HNE := hide (ne_b h48)
                      obtain ⟨f, HF1, hf2, hf3⟩ := Pl.firstW hp hk1 hlt HZ.out HGS.out HNE.out
                      have HF := hide (show p.pos f = k ∧ (p.W.length : Int) - f = (p.we : Int) - k from ⟨hf2, hf3⟩)
                      have HFI := hide HF1
                      clear hf2 hf3 HF1
                      go_wp2
                      go_meet
                      exact ⟨rfl, k, (p.we : Int) - k, rfl, rfl, by omega, by omega, Or.inl ⟨f, HFI.out, by rw [HF.out.1], HF.out.2.symm⟩⟩
                    · have hbne : ((s[k].toNat : Int) != 48) = false := by simp at h48 ⊢; exact h48
                      have HZ2 := hide (HZ.out.snoc (HGS.out.trans (by rw [eq_b h48])))
                      go_wp2
                      go_roundg (p.we - (k + 1))
                      case measure => omega
                      case rel => exact ⟨rfl, k + 1, by omega, by omega, rfl, by go_num, rfl, rfl, HZ2⟩
                  · obtain rfl : k = p.we := by omega
                    go_wp2
                    go_meet
                    exact ⟨rfl, -1, 0, rfl, rfl, by omega, by omega, Or.inr ⟨HZ.out, rfl, rfl⟩⟩
            case rest =>
              obtain ⟨rfl, F1, P1, rfl, rfl, hF1a, hF1b, hv⟩ := hcut
              go_upto_if 137 with fail
              go_cut [13, 14, 16, 137] (fun c13 c14 _ _ wx => wo = wx ∧ ((∃ f : Nat, Hid (Pl.First p f) ∧ c13 = .int .i64 (p.pos f) ∧ c14 = .int .i64 ((p.W.length : Int) - (f : Int))) ∨ (Hid (p.res = ⟨0, [], 0⟩) ∧ c13 = .int .i64 (-1))))
              case first =>
                as_aux_lemma =>
                  rcases hv.out with ⟨f, hf, rfl, rfl⟩ | ⟨hzw, rfl, rfl⟩
                  · have HF := hide hf
                    clear hv hf
                    go_wp2
                    go_meet
                    exact ⟨rfl, Or.inl ⟨f, HF, rfl, rfl⟩⟩
                  · have HZW := hide hzw
                    clear hv hzw
                    go_wp2_with fail
                    go_loopg [13, 14, 16] (p.fe - p.fs) (fun g c13 c14 cq wx => wo = wx ∧ ∃ k : Nat, p.fs ≤ k ∧ k ≤ p.fe ∧ g = p.fe - k ∧ cq = .int .i64 k ∧ c13 = .int .i64 (-1) ∧ c14 = .int .i64 0 ∧ Hid (Pl.Z p p.fs k))
                    case atStart => exact ⟨rfl, p.fs, Nat.le_refl _, by omega, rfl, rfl, rfl, rfl, Pl.Z.nil _ _⟩
                    case round =>
                      obtain ⟨rfl, k, hk1, hk2, rfl, rfl, rfl, rfl, HZ⟩ := hrel
                      by_cases hlt : k < p.fe
                      · have hks : k < s.size := by omega
                        have HGS := hide (get_s HL k hks)
                        cases h48 : ((s[k].toNat : Int) == 48)
                        · have hbne : ((s[k].toNat : Int) != 48) = true := by simp at h48 ⊢; exact h48
                          have HNE := hide (ne_b h48)
                          obtain ⟨f, HF1, hf2, hf3⟩ := Pl.firstF hp hk1 hlt HZW.out HZ.out HGS.out HNE.out
                          have HF := hide (show p.pos f = k ∧ (p.W.length : Int) - f = -((k : Int) - p.fs) from ⟨hf2, hf3⟩)
                          have HFI := hide HF1
                          clear hf2 hf3 HF1
                          go_wp2
                          go_meet
                          exact ⟨rfl, Or.inl ⟨f, HFI.out, int_eq (by rw [HF.out.1]), int_eq (by rw [HF.out.2])⟩⟩
                        · have hbne : ((s[k].toNat : Int) != 48) = false := by simp at h48 ⊢; exact h48
                          have HZ2 := hide (HZ.out.snoc (HGS.out.trans (by rw [eq_b h48])))
                          go_wp2
                          go_roundg (p.fe - (k + 1))
                          case measure => omega
                          case rel => exact ⟨rfl, k + 1, by omega, by omega, rfl, by go_num, rfl, rfl, HZ2⟩
                      · obtain rfl : k = p.fe := by omega
                        have HN := hide (Pl.firstN hp HZW.out HZ.out)
                        go_wp2
                        go_meet
                        exact ⟨rfl, Or.inr ⟨HN, rfl⟩⟩
              case rest =>
                clear hv hF1a hF1b
                obtain ⟨rfl, hv⟩ := hcut
                rcases hv with ⟨f, HF, rfl, rfl⟩ | ⟨HN, rfl⟩
                rotate_left
                · go_wp2
                  go_ret3
                  exact ⟨by rw [HN.out]; rfl, Below.refl _ _⟩
                · go_upto_block 12 with fail
                  go_cut [17, 18] (fun c17 _ wx => wo = wx ∧ ∃ L1 : Int, c17 = .int .i64 L1 ∧ -1 ≤ L1 ∧ L1 ≤ 4194304 ∧ Hid ((∃ g : Nat, Pl.Last p g ∧ L1 = p.pos g) ∨ (Pl.Z p p.fs p.fe ∧ L1 = -1)))
                  case first =>
                    as_aux_lemma =>
                      go_wp2_with fail
                      go_loopg [17, 18] (p.fe - p.fs) (fun g c17 c18 wx => wo = wx ∧ ∃ q : Nat, p.fs ≤ q + 1 ∧ q + 1 ≤ p.fe ∧ g = q + 1 - p.fs ∧ c18 = .int .i64 q ∧ c17 = .int .i64 (-1) ∧ Hid (Pl.Z p (q + 1) p.fe))
                      case atStart => exact ⟨rfl, p.fe - 1, by omega, by omega, by omega, int_eq (by omega), rfl, by rw [show p.fe - 1 + 1 = p.fe by omega]; exact Pl.Z.nil _ _⟩
                      case round =>
                        obtain ⟨rfl, q, hq1, hq2, hgq, rfl, rfl, HZ⟩ := hrel
                        subst hgq
                        by_cases hlt : p.fs ≤ q
                        · have hks : q < s.size := by omega
                          have HGS := hide (get_s HL q hks)
                          cases h48 : ((s[q].toNat : Int) == 48)
                          · have hbne : ((s[q].toNat : Int) != 48) = true := by simp at h48 ⊢; exact h48
                            obtain ⟨g, HG1, hg2⟩ := Pl.lastF hp hlt (by omega) HZ.out HGS.out (ne_b h48)
                            have HG := hide HG1
                            have HGP := hide hg2
                            clear HG1 hg2
                            go_wp2
                            go_meet
                            exact ⟨rfl, q, rfl, by omega, by omega, Or.inl ⟨g, HG.out, by rw [HGP.out]⟩⟩
                          · have hbne : ((s[q].toNat : Int) != 48) = false := by simp at h48 ⊢; exact h48
                            have HZ2 := hide (HZ.out.cons (HGS.out.trans (by rw [eq_b h48])))
                            go_wp2
                            go_roundg (q - p.fs)
                            case measure => omega
                            case rel => exact ⟨rfl, q - 1, by omega, by omega, by omega, int_eq (by omega), rfl, by rw [show q - 1 + 1 = q by omega]; exact HZ2⟩
                        · have HZ3 : Hid (Pl.Z p p.fs p.fe) := by rw [show p.fs = q + 1 by omega]; exact HZ
                          have hnl : ¬ (p.fs : Int) ≤ (q : Int) := by omega
                          go_wp2
                          go_meet
                          exact ⟨rfl, -1, rfl, by omega, by omega, Or.inr ⟨HZ3.out, rfl⟩⟩
                  case rest =>
                    obtain ⟨rfl, L1, rfl, hL1a, hL1b, hv⟩ := hcut
                    go_upto_if 168 with fail
                    go_cut [17, 19, 168] (fun c17 _ _ wx => wo = wx ∧ ∃ g : Nat, Hid (Pl.Last p g) ∧ c17 = .int .i64 (p.pos g))
                    case first =>
                      as_aux_lemma =>
                        rcases hv.out with ⟨g, hg, rfl⟩ | ⟨hzf, rfl⟩
                        · have HG := hide hg
                          clear hv hg
                          go_wp2
                          go_meet
                          exact ⟨rfl, g, HG, rfl⟩
                        · have HZF := hide hzf
                          clear hv hzf
                          obtain ⟨hfk1, hfk2, HFT⟩ : p.ws ≤ p.pos f ∧ p.pos f < p.we ∧ Hid (∃ c, p.text[p.pos f]? = some c ∧ c ≠ 48) := first_in_W hp HF.out HZF.out
                          go_wp2_with fail
                          go_loopg [17, 19] (p.we - p.pos f) (fun g c17 c19 wx => wo = wx ∧ ∃ q : Nat, p.pos f ≤ q ∧ q + 1 ≤ p.we ∧ g = q + 1 - p.pos f ∧ c19 = .int .i64 q ∧ c17 = .int .i64 (-1) ∧ Hid (Pl.Z p (q + 1) p.we))
                          case atStart => exact ⟨rfl, p.we - 1, by omega, by omega, by omega, int_eq (by omega), rfl, by rw [show p.we - 1 + 1 = p.we by omega]; exact Pl.Z.nil _ _⟩
                          case round =>
                            obtain ⟨rfl, q, hq1, hq2, hgq, rfl, rfl, HZ⟩ := hrel
                            subst hgq
                            have hks : q < s.size := by omega
                            have HGS := hide (get_s HL q hks)
                            cases h48 : ((s[q].toNat : Int) == 48)
                            · have hbne : ((s[q].toNat : Int) != 48) = true := by simp at h48 ⊢; exact h48
                              obtain ⟨g, HG1, hg2⟩ := Pl.lastW hp (by omega) (by omega) HZ.out HZF.out HGS.out (ne_b h48)
                              have HG := hide HG1
                              have HGP := hide hg2
                              clear HG1 hg2
                              go_wp2
                              go_meet
                              exact ⟨rfl, g, HG, int_eq (by rw [HGP.out])⟩
                            · have hbne : ((s[q].toNat : Int) != 48) = false := by simp at h48 ⊢; exact h48
                              have hqn : q ≠ p.pos f := fun e => by
                                obtain ⟨c, hc1, hc2⟩ := HFT.out
                                rw [← e, HGS.out] at hc1
                                exact hc2 (by rw [← Option.some.inj hc1]; exact eq_b h48)
                              have HZ2 := hide (HZ.out.cons (HGS.out.trans (by rw [eq_b h48])))
                              go_wp2
                              go_roundg (q - p.pos f)
                              case measure => omega
                              case rel => exact ⟨rfl, q - 1, by omega, by omega, by omega, int_eq (by omega), rfl, by rw [show q - 1 + 1 = q by omega]; exact HZ2⟩
                    case rest =>
                      clear hv hL1a hL1b
                      obtain ⟨rfl, g, HG, rfl⟩ := hcut
                      as_aux_lemma =>
                        have hfg := Pl.first_le_last HF.out HG.out
                        have hpp := Pl.pos_le p hfg
                        have HPP := hide hfg
                        have HRES := hide (Pl.res_fl HF.out HG.out)
                        have HSEG := hide (Pl.seg_all hp HG.out.1 hfg)
                        obtain ⟨hgs0, _⟩ := byte_of (s := s) (by rw [HL.out]; exact Pl.get_M hp g HG.out.1)
                        obtain ⟨i0, hi, hz0, hz1, hz2⟩ := info_parts infoU8
                        clear hfg
                        go_wp2_with (at_make; refine wpList_make_own _ rfl _ _ 31 rfl wo.heap.size 5 i0 (.int .u8 0) 1 Tryd.underlying31 hi hz0 hz1 _ _ _ (p.pos g - p.pos f + 1) rfl rfl (by omega) ?b2 ?b3 (Nat.le_refl _) ?_)
                        case b2 => rw [hz2]; omega
                        case b3 => unfold maxLen; omega
                        intro w1 hown1 hgrow1
                        go_upto_block 16 with fail
                        go_cut [20, 21] (fun c20 _ wx => ∃ cs : List UInt8, c20 = .slice (some ⟨wo.heap.size, 0, none⟩) cs.length (p.pos g - p.pos f + 1) ∧ Hid (cs = (p.M.drop f).take (g + 1 - f)) ∧ wx.ownsRow wo.heap.size 5 1 (.slice (some ⟨wo.heap.size, 0, none⟩) cs.length (p.pos g - p.pos f + 1)) cs.length (cs.map bv) ∧ Below wo.heap.size wo wx)
                        case first => as_aux_lemma =>
                          go_wp2_with fail
                          go_loopg [20, 21] (p.pos g + 1 - p.pos f) (fun gg c20 c21 wx => ∃ (k : Nat) (cs : List UInt8), p.pos f ≤ k ∧ k ≤ p.pos g + 1 ∧ gg = p.pos g + 1 - k ∧ c21 = .int .i64 k ∧ c20 = .slice (some ⟨wo.heap.size, 0, none⟩) cs.length (p.pos g - p.pos f + 1) ∧ cs.length ≤ k - p.pos f ∧ Hid (cs = p.seg (p.pos f) k) ∧ wx.ownsRow wo.heap.size 5 1 (.slice (some ⟨wo.heap.size, 0, none⟩) cs.length (p.pos g - p.pos f + 1)) cs.length (cs.map bv) ∧ Below wo.heap.size wo wx)
                          case atStart => exact ⟨p.pos f, [], Nat.le_refl _, by omega, rfl, rfl, rfl, by simp, (Pl.seg_nil _ _).symm, hown1, (Below.refl _ _).grown hgrow1 (Nat.le_refl _) (by simp)⟩
                          case round =>
                            obtain ⟨k, cs, hk1, hk2, hgg, rfl, rfl, hcl, HC, hown, hb⟩ := hrel
                            subst hgg
                            by_cases hlt : k ≤ p.pos g
                            · have hks : k < s.size := by omega
                              have HST := hide (Pl.seg_step hk1 (get_s HL k hks))
                              cases h46 : ((s[k].toNat : Int) == 46)
                              · have hbne : ((s[k].toNat : Int) != 46) = true := by simp at h46 ⊢; exact h46
                                have HC2 : Hid (cs ++ [s[k]] = p.seg (p.pos f) (k + 1)) := (by rw [HST.out, ← HC.out, if_neg (fun e => by rw [e] at h46; exact absurd h46 (by decide))] : _ = _)
                                clear HST
                                go_wp2_with (at_builtin; refine wpList_append_fits _ rfl (.tmp 196) (.tmp 200) 31 rfl wo.heap.size 5 i0 1 Tryd.underlying31 hi hz1 wo.heap.size cs.length (p.pos g - p.pos f + 1) _ rfl (hown.alloc _) ⟨wr.heap.size, 0, none⟩ 1 1 [.int .u8 s[k].toNat] rfl rfl (cell_one_new _ _ _) (by intro u hu; simp at hu; subst hu; rfl) (by omega) ?_; intro w2 hown2 hgrow2)
                                go_roundg (p.pos g + 1 - (k + 1))
                                case measure => omega
                                case rel => exact ⟨k + 1, cs ++ [s[k]], by omega, by omega, rfl, by go_num, slice_len (by simp), by simp; omega, HC2, own_snoc hown2, below_app hb hgrow2⟩
                              · have hbne : ((s[k].toNat : Int) != 46) = false := by simp at h46 ⊢; exact h46
                                have HC2 : Hid (cs = p.seg (p.pos f) (k + 1)) := (by rw [HST.out, ← HC.out, if_pos (dot_of h46), List.append_nil] : _ = _)
                                clear HST
                                go_wp2
                                go_roundg (p.pos g + 1 - (k + 1))
                                case measure => omega
                                case rel => exact ⟨k + 1, cs, by omega, by omega, rfl, by go_num, rfl, by omega, HC2, hown, hb⟩
                            · obtain rfl : k = p.pos g + 1 := by omega
                              have HC2 : Hid (cs = (p.M.drop f).take (g + 1 - f)) := (HC.out.trans HSEG.out : _ = _)
                              go_wp2
                              go_meet
                              exact ⟨cs, rfl, HC2, hown, hb⟩
                        case rest =>
                          obtain ⟨cs, rfl, HCS, hown, hb⟩ := hcut
                          have hcl := own_cells hown
                          have hcv := conv_all (cap := p.pos g - p.pos f + 1) hcl
                          have HV : Hid (p.res = ⟨if p.neg then -1 else 1, cs, (p.W.length : Int) - f + p.e⟩) := (by rw [HCS.out]; exact HRES.out : _ = _)
                          have HCL := hide hcl
                          clear hcl HRES HSEG
                          have hWf : (p.W.length : Int) ≤ 1048576 := by have := Pl.we_eq p; omega
                          have hff : (f : Int) ≤ 4194304 := by have h1 := HF.out.1; rw [Pl.M_len] at h1; have := Pl.we_eq p; have := Pl.fe_eq p; omega
                          obtain ⟨heb1, heb2⟩ := Pl.e_bound hp
                          cases hn : p.neg
                          · go_wp2_with fail
                            go_quiet (fail)
                            go_wp2
                            go_ret3
                            exact ⟨by rw [HV.out, hn]; rfl, below_drewN hb _⟩
                          · go_wp2_with fail
                            go_quiet (fail)
                            go_wp2
                            go_ret3
                            exact ⟨by rw [HV.out, hn]; rfl, below_drewN hb _⟩
end Md
end Go.Proofs.Qxb6603262aDoor
