import Derived.Test.Qxb6604147aDoorWc
import Derived.Lib.CountLaws
namespace Go.Proofs.Qxb6604147aDoor
open Go.RowKit

theorem Pl.sp_small : ∀ (l : List UInt8), ∀ x ∈ Pl.sp l, x.length ≤ l.length
  | [], x, hx => by simp [Pl.sp] at hx; simp [hx]
  | c :: t, x, hx => by
    have ih := Pl.sp_small t
    obtain ⟨h, r, hs⟩ := Pl.sp_ne t
    unfold Pl.sp at hx
    rw [hs] at hx ih
    split at hx
    · rcases List.mem_cons.1 hx with rfl | h2
      · simp
      · have := ih x h2; simp; omega
    · rcases List.mem_cons.1 hx with rfl | h2
      · have := ih h (List.mem_cons_self ..); simp; omega
      · have := ih x (List.mem_cons_of_mem _ h2); simp; omega

/-- strings.Split(p, "/"): a new row of the pieces. -/
theorem split10 (p : ByteArray) (w : World) (hsh : w.ShapedOpen Tryd.prog) (hs : p.size ≤ 1048576) : Calls Tryd.prog 10 #[.string p, .string ⟨#[47]⟩] w fun e w' =>
    ∃ (n : Nat) (ps : List ByteArray), e = .returned (.slice (some ⟨w.heap.size, 0, none⟩) n n) ∧ n ≤ 1048577 ∧ Hid (ps.length = n) ∧ Hid (ps.map (·.data.toList) = Pl.sp p.data.toList) ∧ Hid (∀ x ∈ ps, x.size ≤ 1048576) ∧
      Hid (∀ k (hk : k < ps.length), w'.cell? ⟨w.heap.size, k, none⟩ = some (.string ps[k])) ∧ Hid (Below w.heap.size w w') ∧ Hid (w.heap.size < w'.heap.size) := by
  refine (Tryd.strings_Split_shaped p ⟨#[47]⟩ w hsh (by omega) (by decide)).mono ?_
  rintro e w' ⟨rfl, rfl⟩
  have hd : (Lib.splitB ⟨#[47]⟩ 0 (Lib.countB p ⟨#[47]⟩) p).map (·.data.toList) = Pl.sp p.data.toList := by
    rw [Lib.splitB_data]; exact Pl.split_sp _
  have hc : Lib.countB p ⟨#[47]⟩ ≤ p.size := Lib.countB_le ⟨#[47]⟩ (by decide) p.size p (Nat.le_refl _)
  have hl : (Lib.splitB ⟨#[47]⟩ 0 (Lib.countB p ⟨#[47]⟩) p).length = Lib.countB p ⟨#[47]⟩ + 1 := Lib.splitB_all ⟨#[47]⟩ (by decide) 0 _ p rfl
  refine ⟨_, Lib.splitB ⟨#[47]⟩ 0 (Lib.countB p ⟨#[47]⟩) p, rfl, by omega, hl, hd, fun x hx => ?_, fun k hk => ?_, (Below.refl _ _).alloc (Nat.le_refl _) _, by show _ < (w.alloc _).heap.size; simp⟩
  · have h1 := Pl.sp_small p.data.toList x.data.toList (by rw [← hd]; exact List.mem_map_of_mem hx)
    have h2 : x.data.toList.length = x.size := by simp
    have h3 : p.data.toList.length = p.size := by simp
    omega
  · rw [World.cell?_alloc_at _ _ _ _ (by simp)]
    simp [hk]
end Go.Proofs.Qxb6604147aDoor
