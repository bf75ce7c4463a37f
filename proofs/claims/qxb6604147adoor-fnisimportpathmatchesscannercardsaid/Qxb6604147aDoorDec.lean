import Derived.Test.Qxb6604147aDoorWf
import Derived.Test.Qxb6604147aDoorTie
import Derived.Test.Qxb6604147aDoorCards
import Derived.ProofKit
import Derived.OpenShut
import Derived.LaidMore
import Derived.Lay
import Derived.SevenTiedAt
import Derived.Stop.Joined
namespace Go.Proofs.Qxb6604147aDoor
open Go.ChangeShapes Go.WideShapes Go.ChangeAt Go.RowKit
open Go.ChangeMaps (open_string shut_string)
namespace fnIsImportPathMatchesScanner

theorem own : ownKnob Tryd.prog.godebug = none := by kernel_rfl
def L : List (String × DataW Unit) := Rows.fnIsImportPathMatchesScannerRow.laid

set_option maxRecDepth 100000 in
theorem lifted (os : Os) (started : os.Started) (H : Type) (enc : TypeId × Value → H) :
    ReturnsInHanded {} Tryd.checked os 3 .any (fun w args => (Rows.fnIsImportPathMatchesScannerSpec.pre enc Tryd.prog Tryd.f3 [] false w args ∧ laidMetH Tryd.prog L w) ∧ sizedMet enc Tryd.prog Tryd.f3 (OpenSpec.ofChange Rows.fnIsImportPathMatchesScannerSpec) false w args)
      (Rows.fnIsImportPathMatchesScannerSpec.post enc Tryd.prog Tryd.f3 false true false false) := by
  refine returnsInHanded_of_calls own started (by kernel_rfl)
    (ChangeSpec.witness_shaped (enc := enc) (C := Tryd.checked) (os := os) (X := fun w _ => laidMetH Tryd.prog L w) false (World.laidAll Tryd.prog os L) #[.string ⟨#[]⟩] 8 (World.laidAll_os _ _ _)
      (World.shaped_of_ZipB (by kernel_rfl) (by kernel_rfl)) (by kernel_rfl) (by kernel_rfl) (by kernel_rfl)
      (by rw [MakeChecks.laidMetH_plain _ _ _ (by kernel_rfl)]; exact laidMet_laidAll _ (by kernel_rfl) (by kernel_rfl))) ?_
  intro w tape i _ hsh _ hok hpre _
  obtain ⟨_, _, _, fn', hfn', _, _, _, _, hval0⟩ := hok
  obtain rfl : fn' = Tryd.f3 := Option.some.inj (hfn'.symm.trans Tryd.func3)
  obtain ⟨⟨⟨ds, gs, before, hw0, _⟩, _⟩, _⟩ := hpre
  have hW := DataW.Whole.of_heap (w' := w.forCall tape i) (by rfl) hw0
  refine Calls.mono (R := fun e W' => ∃ v, e = .returned v ∧ Rows.fnIsImportPathMatchesScannerSpec.post enc Tryd.prog Tryd.f3 false true false false (w.forCall tape i) i.args v W') ?_ fun e W' ⟨v, he, hp⟩ => by
    subst he
    exact ChangeSpec.post_blind hp
  clear hw0 hfn'
  revert hW hval0 hsh
  generalize w.forCall tape i = W
  generalize i.args = args
  intro hsh hval0 hW
  have hval : ∀ (j : Nat) t v, Tryd.f3.params[j]? = some t → args[j]? = some v → Value.okWide Tryd.prog W .any w.heap.size t v := hval0
  have hW' := hW
  obtain ⟨p, q, hA0, hV, rfl, _, _⟩ := hW
  have hA : DataW.TrodAll enc Tryd.prog W 0 (fun _ => true) true Tryd.f3.params.toList args.toList ds p := hA0
  rw [Tryd.params3] at hA hval
  obtain ⟨v0, d0, rfl, rfl, h0⟩ := trodAll_one hA
  obtain ⟨rfl, rfl⟩ := trodVars_none hV
  obtain ⟨s, rfl, rfl, rfl, hs⟩ := open_string Tryd.underlying9 (hval 0 9 v0 rfl rfl) h0
  simp only [List.append_nil] at hW'
  refine (law3 s W hsh).mono fun e W' ⟨he, hb⟩ => ?_
  subst he
  exact ⟨_, rfl, _, _, _, [], [], [], hW', trodAll_mk1 (shut_bool Tryd.underlying4 _), trodAll_mk1 (shut_string Tryd.underlying9 hs), rfl, hb.frame _, fun h => by cases h⟩

theorem holds : Rows.FnIsImportPathMatchesScannerSaid :=
  OpenClaim.holds_of_wide 3 Tryd.f3 rfl rfl rfl rfl rfl rfl rfl ⟨rfl, rfl, rfl, rfl, rfl⟩ rfl rfl rfl rfl rfl (by kernel_rfl) Tryd.func3 (by kernel_rfl)
    (of_decide_eq_true (by kernel_rfl)) (by unfold Func.isWrapper; first | (rw [if_pos (by decide +kernel)]; kernel_rfl) | (rw [if_neg (by decide +kernel)]; exact ⟨rfl, rfl⟩))
    (fun os started H enc _ => lifted os started H enc)
end fnIsImportPathMatchesScanner

/-- ████ THE CARD ████ -/
theorem fnIsImportPathMatchesScanner_card : Rows.FnIsImportPathMatchesScannerCardSaid :=
  Claim7.holds_tied_plain_at .later [] [.data, .pinned] true (true, "07dac53def78501325e38580918ebb63b4646f2b4ab9a17df5f6a9fdf8efdbb0") false fnIsImportPathMatchesScanner.holds (fun _ h => by cases h) (by kernel_rfl) (fun _ h => by cases h) fnIsImportPathMatchesScanner_row_tie rfl ⟨rfl, rfl⟩ (by kernel_rfl) rfl
    (fun f fn hf hfn => by
      obtain rfl : f = 3 := Option.some.inj ((show Tryd.prog.funcNamed Rows.fnIsImportPathMatchesScannerRow.func = some 3 by kernel_rfl).symm.trans hf) |>.symm
      obtain rfl : fn = Tryd.f3 := (Option.some.inj (Tryd.func3.symm.trans hfn)).symm
      exact ⟨by kernel_rfl, fun j t ht => by
        rw [Tryd.params3] at ht
        have hm : t ∈ [9] := by simpa using Array.mem_of_getElem? ht
        have hall : ([9].all fun u => !Tryd.prog.wantsStandIn u) = true := by kernel_rfl
        exact (show Tryd.prog.wantsStandIn t = false by simpa using List.all_eq_true.1 hall t hm)⟩)
    (by kernel_rfl)
end Go.Proofs.Qxb6604147aDoor
