/-
  THE WALK OF FnDateTimeFieldsRoundTrip, every input.
-/
import Derived.Test.Qxb6601586aDtK
import Derived.Test.Qxb6601586aDtL
import Derived.OpenShut
namespace Go.Proofs.Qxb6601586a.Dt
open Go.RowKit
set_option linter.unusedVariables false

theorem trip_walk (a0 a1 a2 a3 a4 a5 a6 a7 : Int) (a8 : Bool) (w7 : (Lit.int .u8 a7).wf = true) (w : World) :
    Calls Try.prog 7 #[.int .i64 a0, .int .i64 a1, .int .i64 a2, .int .i64 a3, .int .i64 a4, .int .i64 a5, .int .i64 a6, .int .u8 a7, .bool a8] w fun e w' => e = .returned (.bool true) ∧ Below w.heap.size w w' := by
  have hb := bounds_u8 w7
  obtain ⟨p, hp⟩ : ∃ p : UInt8, (p.toNat : Int) = a7 := ⟨UInt8.ofNat a7.toNat, by
    rw [UInt8.toNat_ofNat_of_lt' (by show a7.toNat < 256; omega)]; omega⟩
  subst hp
  by_cases hh : (0 ≤ a0 ∧ a0 ≤ 9999) ∧ (0 ≤ a1 ∧ a1 ≤ 99) ∧ (0 ≤ a2 ∧ a2 ≤ 99) ∧ (0 ≤ a3 ∧ a3 ≤ 99) ∧ (0 ≤ a4 ∧ a4 ≤ 99) ∧ (0 ≤ a5 ∧ a5 ≤ 99) ∧ (0 ≤ a6 ∧ a6 ≤ 999999) ∧ punct p = true
  · obtain ⟨⟨c0, d0⟩, ⟨c1, d1⟩, ⟨c2, d2⟩, ⟨c3, d3⟩, ⟨c4, d4⟩, ⟨c5, d5⟩, ⟨c6, d6⟩, hp⟩ := hh
    obtain ⟨n0, rfl⟩ := Int.eq_ofNat_of_zero_le c0
    obtain ⟨n1, rfl⟩ := Int.eq_ofNat_of_zero_le c1
    obtain ⟨n2, rfl⟩ := Int.eq_ofNat_of_zero_le c2
    obtain ⟨n3, rfl⟩ := Int.eq_ofNat_of_zero_le c3
    obtain ⟨n4, rfl⟩ := Int.eq_ofNat_of_zero_le c4
    obtain ⟨n5, rfl⟩ := Int.eq_ofNat_of_zero_le c5
    obtain ⟨n6, rfl⟩ := Int.eq_ofNat_of_zero_le c6
    exact trip_in ⟨n0, n1, n2, n3, n4, n5, n6, p, if a8 then 84 else 32⟩ ⟨by show n0 ≤ 9999; omega, by show n1 ≤ 99; omega, by show n2 ≤ 99; omega, by show n3 ≤ 99; omega, by show n4 ≤ 99; omega, by show n5 ≤ 99; omega, by show n6 ≤ 999999; omega⟩ hp a8 rfl w
  · refine (trip_out a0 a1 a2 a3 a4 a5 a6 p a8 w hh).mono ?_
    rintro e w' ⟨rfl, rfl⟩
    exact ⟨rfl, Below.refl _ _⟩
end Go.Proofs.Qxb6601586a.Dt
