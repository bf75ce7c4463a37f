/-
  zzBytes, zzMembersTooBig.
-/
import Derived.Test.Qxb6603514aDoorMo
namespace Go.Proofs.Qxb6603514aDoor
open Go.RowKit
def Row (w : World) (b o n : Nat) (N : Nat → ByteArray) (A : Nat → Option Addr) (C : Nat → Nat) (L : Nat → List UInt8) : Prop :=
  ∀ i, i < n → w.cell? ⟨b, o + i * 2, none⟩ = some (.string (N i)) ∧ w.cell? ⟨b, o + i * 2 + 1, none⟩ = some (.slice (A i) (L i).length (C i))
/-- A text: where it isn't empty its bytes lie in a row. -/
def Txt (w : World) (ao : Option Addr) (tl : List UInt8) : Prop :=
  0 < tl.length → ∃ b o, ao = some ⟨b, o, none⟩ ∧ b < w.heap.size ∧ ∀ j (hj : j < tl.length), w.cell? ⟨b, o + j, none⟩ = some (.int .u8 tl[j].toNat)
theorem Txt.old {w0 w : World} {ao : Option Addr} {tl : List UInt8} (h : Txt w0 ao tl) (ho : Old w0 w) : Txt w ao tl := fun hp => by
  obtain ⟨b, o, e, hb, hc⟩ := h hp
  exact ⟨b, o, e, Nat.lt_of_lt_of_le hb ho.size, fun j hj => ho.cell (hc j hj)⟩
/-- The members that a slice leads to. -/
def Mem (w : World) (a : Option Addr) (n : Nat) (N : Nat → ByteArray) (A : Nat → Option Addr) (C : Nat → Nat) (L : Nat → List UInt8) : Prop :=
  0 < n → ∃ b o, a = some ⟨b, o, none⟩ ∧ Row w b o n N A C L ∧ ∀ i, i < n → Txt w (A i) (L i) ∧ (L i).length ≤ C i
theorem Mem.old {w0 w : World} {a : Option Addr} {n : Nat} {N : Nat → ByteArray} {A : Nat → Option Addr} {C : Nat → Nat} {L : Nat → List UInt8} (h : Mem w0 a n N A C L) (ho : Old w0 w) : Mem w a n N A C L := fun hp => by
  obtain ⟨b, o, e, hr, ht⟩ := h hp
  exact ⟨b, o, e, fun i hi => ⟨ho.cell (hr i hi).1, ho.cell (hr i hi).2⟩, fun i hi => ⟨(ht i hi).1.old ho, (ht i hi).2⟩⟩
set_option maxHeartbeats 2000000 in
theorem bytes5 (w : World) (a : Option Addr) (n c : Nat) (N : Nat → ByteArray) (A : Nat → Option Addr) (C : Nat → Nat) (L : Nat → List UInt8) (hR : Mem w a n N A C L) :
    Calls Tryd.prog 5 #[.slice a n c] w fun e w' => (e = .returned (.bool false) ∧ w' = w) ∨ (e = .returned (.bool true) ∧ w' = w ∧ Hid (n ≤ 1048576 ∧ ∀ i, i < n → (N i).size ≤ 1048576 ∧ (L i).length ≤ 1048576)) := by
  have HR := hide hR
  clear hR
  go_enter Tryd.func5, Tryd.ntmps5
  by_cases h1 : (1048576 : Int) < (n : Int)
  · go_wp2_with fail
    go_ret
    exact .inl ⟨rfl, rfl⟩
  · go_wp2_with fail
    go_loopg [3, 4] n (fun g c3 c4 wx => ∃ (k z : Nat), k + g = n ∧ c3 = .int .i64 z ∧ c4 = .int .i64 k ∧ z ≤ 1048576 ∧ wx = w ∧ Hid (∀ i, i < k → (N i).size ≤ 1048576 ∧ (L i).length ≤ 1048576))
    case atStart => exact ⟨0, n, by omega, rfl, rfl, by omega, rfl, fun i hi => by omega⟩
    case round =>
      obtain ⟨k, z, hkg, rfl, rfl, hz, rfl, HK⟩ := hrel
      by_cases hk : k < n
      · obtain ⟨b, o, rfl, hrow, _⟩ := HR.out (by omega)
        obtain ⟨hc1, hc2⟩ := hrow k hk
        clear hrow
        obtain ⟨s, hs⟩ : ∃ s, s = N k := ⟨_, rfl⟩
        obtain ⟨m, hm⟩ : ∃ m, m = (L k).length := ⟨_, rfl⟩
        rw [← hs] at hc1
        rw [← hm] at hc2
        have Hs := hide hs
        have Hm := hide hm
        clear hs hm
        by_cases h2 : (1048576 : Int) < (s.size : Int)
        · go_wp2_with fail
          go_ret
          exact .inl ⟨rfl, rfl⟩
        · by_cases h3 : (1048576 : Int) < (z : Int) + (s.size : Int)
          · go_wp2_with fail
            go_ret
            exact .inl ⟨rfl, rfl⟩
          · by_cases h4 : (1048576 : Int) < (m : Int)
            · go_wp2_with fail
              go_ret
              exact .inl ⟨rfl, rfl⟩
            · by_cases h5 : (1048576 : Int) < (z : Int) + (s.size : Int) + (m : Int)
              · go_wp2_with fail
                go_ret
                exact .inl ⟨rfl, rfl⟩
              · go_wp2_with fail
                go_roundg (n - (k + 1))
                case measure => omega
                case rel => exact ⟨k + 1, z + s.size + m, by omega, by go_num, rfl, by omega, rfl, fun i hi => by
                  rcases Nat.lt_succ_iff_lt_or_eq.1 hi with h | rfl
                  · exact HK.out i h
                  · rw [← Hs.out, ← Hm.out]; omega⟩
      · go_wp2_with fail
        go_ret
        exact .inr ⟨rfl, rfl, ⟨by omega, fun i hi => HK.out i (by omega)⟩⟩
set_option maxHeartbeats 2000000 in
theorem big6 (w : World) (a : Option Addr) (n c : Nat) (N : Nat → ByteArray) (A : Nat → Option Addr) (C : Nat → Nat) (L : Nat → List UInt8) (hR : Mem w a n N A C L) (hn : n ≤ 1048576) (hb : ∀ i, i < n → (N i).size ≤ 1048576 ∧ (L i).length ≤ 1048576) :
    Calls Tryd.prog 6 #[.slice a n c] w fun e w' => (e = .returned (.bool false) ∨ e = .returned (.bool true)) ∧ Old w w' := by
  have HR := hide hR
  have HB := hide hb
  clear hR hb
  go_enter Tryd.func6, Tryd.ntmps6
  by_cases h1 : (16384 : Int) < (n : Int)
  · go_wp2_with fail
    go_ret
    exact ⟨.inr rfl, Old.refl _⟩
  · go_wp2_with fail
    go_loopg [3, 4] n (fun g c3 c4 wx => ∃ (k z : Nat), k + g = n ∧ c3 = .int .i64 z ∧ c4 = .int .i64 k ∧ z ≤ 1048576 ∧ Hid (Old w wx))
    case atStart => exact ⟨0, 40 * n, by omega, by go_num, rfl, by omega, Old.refl _⟩
    case round =>
      obtain ⟨k, z, hkg, rfl, rfl, hz, HO⟩ := hrel
      by_cases hk : k < n
      · obtain ⟨b, o, rfl, hrow, _⟩ := HR.out (by omega)
        obtain ⟨hc1, hc2⟩ := hrow k hk
        clear hrow
        have hc1 := HO.out.cell hc1
        have hc2 := HO.out.cell hc2
        obtain ⟨hb1, hb2⟩ := HB.out k hk
        obtain ⟨s, hs⟩ : ∃ s, s = N k := ⟨_, rfl⟩
        obtain ⟨m, hm⟩ : ∃ m, m = (L k).length := ⟨_, rfl⟩
        rw [← hs] at hc1 hb1
        rw [← hm] at hc2 hb2
        clear hs hm
        have hki : (k : Int) < (n : Int) := by omega
        by_cases h3 : (1048576 : Int) < (z : Int) + ((s.size : Int) + (m : Int))
        · go_wp2_with fail
          go_quiet (fail)
          go_wp2_with fail
          go_ret
          exact ⟨.inr rfl, HO.out.drewN _⟩
        · go_wp2_with fail
          go_quiet (fail)
          go_wp2_with fail
          go_roundg (n - (k + 1))
          case measure => omega
          case rel => exact ⟨k + 1, z + (s.size + m), by omega, by go_num, rfl, by omega, HO.out.drewN _⟩
      · go_wp2_with fail
        go_ret
        exact ⟨.inl rfl, HO.out⟩
end Go.Proofs.Qxb6603514aDoor
