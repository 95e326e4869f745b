/-
  WALK: isDelimiter.
-/
import Derived.Test.Qxb6601586aDtC
import Derived.Laws.BitsAllLaws
namespace Go.Proofs.Qxb6601586a.Dt
open Go.RowKit

theorem or32 : ∀ n, n < 127 → (32 < n → ((97 ≤ n ||| 32 ∧ n ||| 32 ≤ 122) ↔ (97 ≤ n ∧ n ≤ 122 ∨ 65 ≤ n ∧ n ≤ 90))) := by decide
theorem bits32 (c : UInt8) : bits .or .u8 (c.toNat : Int) 32 = ((c.toNat ||| 32 : Nat) : Int) := u8_or_nat c.toNat 32 c.toNat_lt (by omega)

set_option maxRecDepth 100000 in
set_option maxHeartbeats 2000000 in
theorem delim_any (c : UInt8) (k : Nat) (w : World) :
    Calls Try.prog 31 #[.int .u8 c.toNat, .int .i64 k] w fun e w' => e = .returned (.bool (delim c k)) ∧ w' = w := by
  have hc := c.toNat_lt
  by_cases h3 : k = 3
  · have hk : ((k : Int) == 3) = true := beq_iff_eq.2 (by omega)
    have HD : Hid (delim c k = (c.toNat == 32 || c.toNat == 84)) := by unfold delim Hid; rw [if_pos h3]
    clear h3
    by_cases h1 : c.toNat = 32
    · have t1 : ((c.toNat : Int) == 32) = true := beq_iff_eq.2 (by omega)
      replace h1 := hide h1
      go_enter Try.func31, Try.ntmps31
      go_wp2
      go_ret
      exact ⟨by rw [HD.out, h1.out]; rfl, rfl⟩
    · have t1 : ((c.toNat : Int) == 32) = false := beq_eq_false_iff_ne.2 (by omega)
      replace h1 := hide h1
      by_cases h2 : c.toNat = 84
      · have t2 : ((c.toNat : Int) == 84) = true := beq_iff_eq.2 (by omega)
        replace h2 := hide h2
        go_enter Try.func31, Try.ntmps31
        go_wp2
        go_ret
        exact ⟨by rw [HD.out, h2.out]; rfl, rfl⟩
      · have t2 : ((c.toNat : Int) == 84) = false := beq_eq_false_iff_ne.2 (by omega)
        have HE : Hid ((c.toNat == 32 || c.toNat == 84) = false) := by unfold Hid; rw [Bool.or_eq_false_iff]; exact ⟨beq_eq_false_iff_ne.2 h1.out, beq_eq_false_iff_ne.2 h2⟩
        clear h1 h2
        go_enter Try.func31, Try.ntmps31
        go_wp2
        go_ret
        exact ⟨by rw [HD.out, HE.out]; rfl, rfl⟩
  · have hk : ((k : Int) == 3) = false := beq_eq_false_iff_ne.2 (by omega)
    have HD : Hid (delim c k = punct c) := by unfold delim Hid; rw [if_neg h3]
    clear h3
    by_cases h1 : (32 : Int) < (c.toNat : Int)
    · by_cases h2 : (c.toNat : Int) < 127
      · cases hd : Num.isD c
        · have ho := or32 c.toNat (by omega) (by omega)
          have hb := bits32 c
          by_cases h4 : 97 ≤ c.toNat ||| 32
          · have t4 : (97 : Int) ≤ bits .or .u8 (c.toNat : Int) 32 := by rw [hb]; omega
            by_cases h5 : c.toNat ||| 32 ≤ 122
            · have t5 : bits .or .u8 (c.toNat : Int) 32 ≤ 122 := by rw [hb]; omega
              have HP : Hid (punct c = false) := by
                have := ho.1 ⟨h4, h5⟩
                unfold Hid punct
                rw [hd]
                simp
                omega
              clear ho hb h4 h5
              go_enter Try.func31, Try.ntmps31
              go_wp2_with (go_at_call 28; refine (isDigit_any _ _).mono ?_; rintro e w' ⟨rfl, rfl⟩)
              go_ret
              exact ⟨by rw [HD.out, HP.out]; rfl, rfl⟩
            · have t5 : decide (bits .or .u8 (c.toNat : Int) 32 ≤ 122) = false := decide_eq_false (by rw [hb]; omega)
              have HP : Hid (punct c = true) := by
                have := mt ho.2 (fun h => h5 h.2)
                unfold Hid punct
                rw [hd]
                simp
                omega
              clear ho hb h4 h5
              go_enter Try.func31, Try.ntmps31
              go_wp2_with (go_at_call 28; refine (isDigit_any _ _).mono ?_; rintro e w' ⟨rfl, rfl⟩)
              go_ret
              exact ⟨by rw [HD.out, HP.out]; rfl, rfl⟩
          · have t4 : ¬ (97 : Int) ≤ bits .or .u8 (c.toNat : Int) 32 := by rw [hb]; omega
            have HP : Hid (punct c = true) := by
              have := mt ho.2 (fun h => h4 h.1)
              unfold Hid punct
              rw [hd]
              simp
              omega
            clear ho hb h4
            go_enter Try.func31, Try.ntmps31
            go_wp2_with (go_at_call 28; refine (isDigit_any _ _).mono ?_; rintro e w' ⟨rfl, rfl⟩)
            go_ret
            exact ⟨by rw [HD.out, HP.out]; rfl, rfl⟩
        · have HP : Hid (punct c = false) := by unfold Hid punct; rw [hd]; simp
          go_enter Try.func31, Try.ntmps31
          go_wp2_with (go_at_call 28; refine (isDigit_any _ _).mono ?_; rintro e w' ⟨rfl, rfl⟩)
          go_ret
          exact ⟨by rw [HD.out, HP.out]; rfl, rfl⟩
      · have HP : Hid (punct c = false) := by unfold Hid punct; rw [show decide (c.toNat < 127) = false from decide_eq_false (by omega)]; simp
        go_enter Try.func31, Try.ntmps31
        go_wp2
        go_ret
        exact ⟨by rw [HD.out, HP.out]; rfl, rfl⟩
    · have HP : Hid (punct c = false) := by unfold Hid punct; rw [show decide (32 < c.toNat) = false from decide_eq_false (by omega)]; simp
      go_enter Try.func31, Try.ntmps31
      go_wp2
      go_ret
      exact ⟨by rw [HD.out, HP.out]; rfl, rfl⟩
end Go.Proofs.Qxb6601586a.Dt
