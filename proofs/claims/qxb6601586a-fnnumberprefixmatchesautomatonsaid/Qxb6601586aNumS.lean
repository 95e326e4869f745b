/-
  WALKS: zzStep, zzNumberModel, FnNumberPrefixMatchesAutomaton.
-/
import Derived.Test.Qxb6601586aNumX
namespace Go.Proofs.Qxb6601586a.Auto
open Go.RowKit
set_option linter.unusedSimpArgs false

/-- the state as Go writes it: 9 stands for -1 -/
def enc (st : Nat) : Int := if st = 9 then -1 else (st : Int)

/-- what is known of a byte in each of its seven classes -/
def Facts (c : UInt8) (b43 b45 b101 b69 b46 bd : Bool) : Prop :=
  ((c.toNat : Int) == 43) = b43 ∧ ((c.toNat : Int) == 45) = b45 ∧ ((c.toNat : Int) == 101) = b101 ∧ ((c.toNat : Int) == 69) = b69 ∧ ((c.toNat : Int) == 46) = b46 ∧ Num.isD c = bd ∧
  Hid (Num.isSg c = (b43 || b45)) ∧ Hid (Num.isE c = (b101 || b69)) ∧ Hid (Num.isP c = b46) ∧ Hid (Num.isD c = bd)
theorem facts_mk (c : UInt8) (n : Nat) (h : c.toNat = n) : Facts c (n == 43) (n == 45) (n == 101) (n == 69) (n == 46) (decide (48 ≤ n) && decide (n ≤ 57)) := by
  subst h
  unfold Facts Hid
  have e : ∀ k : Nat, ((c.toNat : Int) == (k : Int)) = (c.toNat == k) := by
    intro k
    rw [Bool.eq_iff_iff, beq_iff_eq, beq_iff_eq]
    omega
  exact ⟨e 43, e 45, e 101, e 69, e 46, rfl, rfl, rfl, rfl, rfl⟩
theorem cls (c : UInt8) : Facts c true false false false false false ∨ Facts c false true false false false false ∨ Facts c false false true false false false ∨ Facts c false false false true false false ∨
    Facts c false false false false true false ∨ Facts c false false false false false true ∨ Facts c false false false false false false := by
  have h := facts_mk c c.toNat rfl
  generalize c.toNat = n at h
  by_cases h1 : n = 43
  · subst h1; exact .inl h
  by_cases h2 : n = 45
  · subst h2; exact .inr (.inl h)
  by_cases h3 : n = 101
  · subst h3; exact .inr (.inr (.inl h))
  by_cases h4 : n = 69
  · subst h4; exact .inr (.inr (.inr (.inl h)))
  by_cases h5 : n = 46
  · subst h5; exact .inr (.inr (.inr (.inr (.inl h))))
  rw [show (n == 43) = false from beq_eq_false_iff_ne.2 h1, show (n == 45) = false from beq_eq_false_iff_ne.2 h2, show (n == 101) = false from beq_eq_false_iff_ne.2 h3, show (n == 69) = false from beq_eq_false_iff_ne.2 h4, show (n == 46) = false from beq_eq_false_iff_ne.2 h5] at h
  cases hd : (decide (48 ≤ n) && decide (n ≤ 57))
  · rw [hd] at h; exact .inr (.inr (.inr (.inr (.inr (.inr h)))))
  · rw [hd] at h; exact .inr (.inr (.inr (.inr (.inr (.inl h)))))

set_option maxHeartbeats 2000000 in
theorem step0 (c : UInt8) (w : World) :
    Calls Try.prog 21 #[.int .i64 0, .int .u8 c.toNat] w fun e w' => e = .returned (.int .i64 (enc (Num.step 0 c))) ∧ w' = w := by
  rcases cls c with ⟨h1, h2, h3, h4, h5, h6, g1, g2, g3, g4⟩ | ⟨h1, h2, h3, h4, h5, h6, g1, g2, g3, g4⟩ | ⟨h1, h2, h3, h4, h5, h6, g1, g2, g3, g4⟩ | ⟨h1, h2, h3, h4, h5, h6, g1, g2, g3, g4⟩ | ⟨h1, h2, h3, h4, h5, h6, g1, g2, g3, g4⟩ | ⟨h1, h2, h3, h4, h5, h6, g1, g2, g3, g4⟩ | ⟨h1, h2, h3, h4, h5, h6, g1, g2, g3, g4⟩
  all_goals
    go_enter Try.func21, Try.ntmps21
    go_wp2_with (go_at_call 12; refine (zzIsDigit_any _ _).mono ?_; rintro e w' ⟨rfl, rfl⟩)
    go_ret
    exact ⟨ret1 (by simp only [Num.step, g1.out, g2.out, g3.out, g4.out]; rfl), rfl⟩

set_option maxHeartbeats 2000000 in
theorem step1 (c : UInt8) (w : World) :
    Calls Try.prog 21 #[.int .i64 1, .int .u8 c.toNat] w fun e w' => e = .returned (.int .i64 (enc (Num.step 1 c))) ∧ w' = w := by
  rcases cls c with ⟨h1, h2, h3, h4, h5, h6, g1, g2, g3, g4⟩ | ⟨h1, h2, h3, h4, h5, h6, g1, g2, g3, g4⟩ | ⟨h1, h2, h3, h4, h5, h6, g1, g2, g3, g4⟩ | ⟨h1, h2, h3, h4, h5, h6, g1, g2, g3, g4⟩ | ⟨h1, h2, h3, h4, h5, h6, g1, g2, g3, g4⟩ | ⟨h1, h2, h3, h4, h5, h6, g1, g2, g3, g4⟩ | ⟨h1, h2, h3, h4, h5, h6, g1, g2, g3, g4⟩
  all_goals
    go_enter Try.func21, Try.ntmps21
    go_wp2_with (go_at_call 12; refine (zzIsDigit_any _ _).mono ?_; rintro e w' ⟨rfl, rfl⟩)
    go_ret
    exact ⟨ret1 (by simp only [Num.step, g1.out, g2.out, g3.out, g4.out]; rfl), rfl⟩

set_option maxHeartbeats 2000000 in
theorem step2 (c : UInt8) (w : World) :
    Calls Try.prog 21 #[.int .i64 2, .int .u8 c.toNat] w fun e w' => e = .returned (.int .i64 (enc (Num.step 2 c))) ∧ w' = w := by
  rcases cls c with ⟨h1, h2, h3, h4, h5, h6, g1, g2, g3, g4⟩ | ⟨h1, h2, h3, h4, h5, h6, g1, g2, g3, g4⟩ | ⟨h1, h2, h3, h4, h5, h6, g1, g2, g3, g4⟩ | ⟨h1, h2, h3, h4, h5, h6, g1, g2, g3, g4⟩ | ⟨h1, h2, h3, h4, h5, h6, g1, g2, g3, g4⟩ | ⟨h1, h2, h3, h4, h5, h6, g1, g2, g3, g4⟩ | ⟨h1, h2, h3, h4, h5, h6, g1, g2, g3, g4⟩
  all_goals
    go_enter Try.func21, Try.ntmps21
    go_wp2_with (go_at_call 12; refine (zzIsDigit_any _ _).mono ?_; rintro e w' ⟨rfl, rfl⟩)
    go_ret
    exact ⟨ret1 (by simp only [Num.step, g1.out, g2.out, g3.out, g4.out]; rfl), rfl⟩

set_option maxHeartbeats 2000000 in
theorem step3 (c : UInt8) (w : World) :
    Calls Try.prog 21 #[.int .i64 3, .int .u8 c.toNat] w fun e w' => e = .returned (.int .i64 (enc (Num.step 3 c))) ∧ w' = w := by
  rcases cls c with ⟨h1, h2, h3, h4, h5, h6, g1, g2, g3, g4⟩ | ⟨h1, h2, h3, h4, h5, h6, g1, g2, g3, g4⟩ | ⟨h1, h2, h3, h4, h5, h6, g1, g2, g3, g4⟩ | ⟨h1, h2, h3, h4, h5, h6, g1, g2, g3, g4⟩ | ⟨h1, h2, h3, h4, h5, h6, g1, g2, g3, g4⟩ | ⟨h1, h2, h3, h4, h5, h6, g1, g2, g3, g4⟩ | ⟨h1, h2, h3, h4, h5, h6, g1, g2, g3, g4⟩
  all_goals
    go_enter Try.func21, Try.ntmps21
    go_wp2_with (go_at_call 12; refine (zzIsDigit_any _ _).mono ?_; rintro e w' ⟨rfl, rfl⟩)
    go_ret
    exact ⟨ret1 (by simp only [Num.step, g1.out, g2.out, g3.out, g4.out]; rfl), rfl⟩

set_option maxHeartbeats 2000000 in
theorem step4 (c : UInt8) (w : World) :
    Calls Try.prog 21 #[.int .i64 4, .int .u8 c.toNat] w fun e w' => e = .returned (.int .i64 (enc (Num.step 4 c))) ∧ w' = w := by
  rcases cls c with ⟨h1, h2, h3, h4, h5, h6, g1, g2, g3, g4⟩ | ⟨h1, h2, h3, h4, h5, h6, g1, g2, g3, g4⟩ | ⟨h1, h2, h3, h4, h5, h6, g1, g2, g3, g4⟩ | ⟨h1, h2, h3, h4, h5, h6, g1, g2, g3, g4⟩ | ⟨h1, h2, h3, h4, h5, h6, g1, g2, g3, g4⟩ | ⟨h1, h2, h3, h4, h5, h6, g1, g2, g3, g4⟩ | ⟨h1, h2, h3, h4, h5, h6, g1, g2, g3, g4⟩
  all_goals
    go_enter Try.func21, Try.ntmps21
    go_wp2_with (go_at_call 12; refine (zzIsDigit_any _ _).mono ?_; rintro e w' ⟨rfl, rfl⟩)
    go_ret
    exact ⟨ret1 (by simp only [Num.step, g1.out, g2.out, g3.out, g4.out]; rfl), rfl⟩

set_option maxHeartbeats 2000000 in
theorem step5 (c : UInt8) (w : World) :
    Calls Try.prog 21 #[.int .i64 5, .int .u8 c.toNat] w fun e w' => e = .returned (.int .i64 (enc (Num.step 5 c))) ∧ w' = w := by
  rcases cls c with ⟨h1, h2, h3, h4, h5, h6, g1, g2, g3, g4⟩ | ⟨h1, h2, h3, h4, h5, h6, g1, g2, g3, g4⟩ | ⟨h1, h2, h3, h4, h5, h6, g1, g2, g3, g4⟩ | ⟨h1, h2, h3, h4, h5, h6, g1, g2, g3, g4⟩ | ⟨h1, h2, h3, h4, h5, h6, g1, g2, g3, g4⟩ | ⟨h1, h2, h3, h4, h5, h6, g1, g2, g3, g4⟩ | ⟨h1, h2, h3, h4, h5, h6, g1, g2, g3, g4⟩
  all_goals
    go_enter Try.func21, Try.ntmps21
    go_wp2_with (go_at_call 12; refine (zzIsDigit_any _ _).mono ?_; rintro e w' ⟨rfl, rfl⟩)
    go_ret
    exact ⟨ret1 (by simp only [Num.step, g1.out, g2.out, g3.out, g4.out]; rfl), rfl⟩

set_option maxHeartbeats 2000000 in
theorem step6 (c : UInt8) (w : World) :
    Calls Try.prog 21 #[.int .i64 6, .int .u8 c.toNat] w fun e w' => e = .returned (.int .i64 (enc (Num.step 6 c))) ∧ w' = w := by
  rcases cls c with ⟨h1, h2, h3, h4, h5, h6, g1, g2, g3, g4⟩ | ⟨h1, h2, h3, h4, h5, h6, g1, g2, g3, g4⟩ | ⟨h1, h2, h3, h4, h5, h6, g1, g2, g3, g4⟩ | ⟨h1, h2, h3, h4, h5, h6, g1, g2, g3, g4⟩ | ⟨h1, h2, h3, h4, h5, h6, g1, g2, g3, g4⟩ | ⟨h1, h2, h3, h4, h5, h6, g1, g2, g3, g4⟩ | ⟨h1, h2, h3, h4, h5, h6, g1, g2, g3, g4⟩
  all_goals
    go_enter Try.func21, Try.ntmps21
    go_wp2_with (go_at_call 12; refine (zzIsDigit_any _ _).mono ?_; rintro e w' ⟨rfl, rfl⟩)
    go_ret
    exact ⟨ret1 (by simp only [Num.step, g1.out, g2.out, g3.out, g4.out]; rfl), rfl⟩

set_option maxHeartbeats 2000000 in
theorem step7 (c : UInt8) (w : World) :
    Calls Try.prog 21 #[.int .i64 7, .int .u8 c.toNat] w fun e w' => e = .returned (.int .i64 (enc (Num.step 7 c))) ∧ w' = w := by
  rcases cls c with ⟨h1, h2, h3, h4, h5, h6, g1, g2, g3, g4⟩ | ⟨h1, h2, h3, h4, h5, h6, g1, g2, g3, g4⟩ | ⟨h1, h2, h3, h4, h5, h6, g1, g2, g3, g4⟩ | ⟨h1, h2, h3, h4, h5, h6, g1, g2, g3, g4⟩ | ⟨h1, h2, h3, h4, h5, h6, g1, g2, g3, g4⟩ | ⟨h1, h2, h3, h4, h5, h6, g1, g2, g3, g4⟩ | ⟨h1, h2, h3, h4, h5, h6, g1, g2, g3, g4⟩
  all_goals
    go_enter Try.func21, Try.ntmps21
    go_wp2_with (go_at_call 12; refine (zzIsDigit_any _ _).mono ?_; rintro e w' ⟨rfl, rfl⟩)
    go_ret
    exact ⟨ret1 (by simp only [Num.step, g1.out, g2.out, g3.out, g4.out]; rfl), rfl⟩

set_option maxHeartbeats 2000000 in
theorem step8 (c : UInt8) (w : World) :
    Calls Try.prog 21 #[.int .i64 8, .int .u8 c.toNat] w fun e w' => e = .returned (.int .i64 (enc (Num.step 8 c))) ∧ w' = w := by
  rcases cls c with ⟨h1, h2, h3, h4, h5, h6, g1, g2, g3, g4⟩ | ⟨h1, h2, h3, h4, h5, h6, g1, g2, g3, g4⟩ | ⟨h1, h2, h3, h4, h5, h6, g1, g2, g3, g4⟩ | ⟨h1, h2, h3, h4, h5, h6, g1, g2, g3, g4⟩ | ⟨h1, h2, h3, h4, h5, h6, g1, g2, g3, g4⟩ | ⟨h1, h2, h3, h4, h5, h6, g1, g2, g3, g4⟩ | ⟨h1, h2, h3, h4, h5, h6, g1, g2, g3, g4⟩
  all_goals
    go_enter Try.func21, Try.ntmps21
    go_wp2_with (go_at_call 12; refine (zzIsDigit_any _ _).mono ?_; rintro e w' ⟨rfl, rfl⟩)
    go_ret
    exact ⟨ret1 (by simp only [Num.step, g1.out, g2.out, g3.out, g4.out]; rfl), rfl⟩

theorem step_any (st : Nat) (h : st < 9) (c : UInt8) (w : World) :
    Calls Try.prog 21 #[.int .i64 st, .int .u8 c.toNat] w fun e w' => e = .returned (.int .i64 (enc (Num.step st c))) ∧ w' = w := by
  match st, h with
  | 0, _ => exact step0 c w
  | 1, _ => exact step1 c w
  | 2, _ => exact step2 c w
  | 3, _ => exact step3 c w
  | 4, _ => exact step4 c w
  | 5, _ => exact step5 c w
  | 6, _ => exact step6 c w
  | 7, _ => exact step7 c w
  | 8, _ => exact step8 c w
end Go.Proofs.Qxb6601586a.Auto
