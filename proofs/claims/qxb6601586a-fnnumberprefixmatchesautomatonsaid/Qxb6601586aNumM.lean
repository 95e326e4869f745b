/-
  THE WALK OF zzNumberModel AND OF FnNumberPrefixMatchesAutomaton.
-/
import Derived.Test.Qxb6601586aNumS
namespace Go.Proofs.Qxb6601586a.Auto
open Go.RowKit

theorem step_le (st : Nat) (c : UInt8) : Num.step st c ≤ 9 := by
  unfold Num.step
  split <;> (repeat' split) <;> omega
/-- the ways of the test on the new state -/
theorem acc_ways (st : Nat) (h : st ≤ 9) : st = 2 ∨ st = 3 ∨ st = 5 ∨ st = 8 ∨
    ((enc st == 2) = false ∧ (enc st == 3) = false ∧ (enc st == 5) = false ∧ (enc st == 8) = false ∧ Num.acc st = false) := by
  match st, h with
  | 0, _ => exact .inr (.inr (.inr (.inr ⟨rfl, rfl, rfl, rfl, rfl⟩)))
  | 1, _ => exact .inr (.inr (.inr (.inr ⟨rfl, rfl, rfl, rfl, rfl⟩)))
  | 2, _ => exact .inl rfl
  | 3, _ => exact .inr (.inl rfl)
  | 4, _ => exact .inr (.inr (.inr (.inr ⟨rfl, rfl, rfl, rfl, rfl⟩)))
  | 5, _ => exact .inr (.inr (.inl rfl))
  | 6, _ => exact .inr (.inr (.inr (.inr ⟨rfl, rfl, rfl, rfl, rfl⟩)))
  | 7, _ => exact .inr (.inr (.inr (.inr ⟨rfl, rfl, rfl, rfl, rfl⟩)))
  | 8, _ => exact .inr (.inr (.inr (.inl rfl)))
  | 9, _ => exact .inr (.inr (.inr (.inr ⟨rfl, rfl, rfl, rfl, rfl⟩)))
theorem md_at (s : ByteArray) (st j b : Nat) (h : j < s.size) : Num.md st j b (s.data.toList.drop j) = Num.md (Num.step st s[j]) (j + 1) (if Num.acc (Num.step st s[j]) then j + 1 else b) (s.data.toList.drop (j + 1)) := by
  rw [drop_cons s j h]; rfl

set_option maxHeartbeats 2000000 in
theorem model_any (s : ByteArray) (w : World) (hs : s.size ≤ maxLen) :
    Calls Try.prog 10 #[.string s] w fun e w' => e = .returned (.int .i64 (Num.md 0 0 0 s.data.toList)) ∧ w' = w := by
  unfold maxLen at hs
  obtain ⟨R, HR⟩ : ∃ R, Hid (Num.md 0 0 0 s.data.toList = R) := ⟨_, hide rfl⟩
  rw [HR.out]
  go_enter Try.func10, Try.ntmps10
  go_wp2
  go_loop [3, 4, 5] (fun v3 v4 v5 => ∃ st b j : Nat, st ≤ 9 ∧ b ≤ j ∧ j ≤ s.size ∧ Num.md st j b (s.data.toList.drop j) = R ∧ v3 = .int .i64 (enc st) ∧ v4 = .int .i64 b ∧ v5 = .int .i64 j) (fun _ _ v5 => s.size - (intOf v5).toNat)
  case atStart => exact ⟨0, 0, 0, by omega, by omega, by omega, HR.out, rfl, rfl, rfl⟩
  case round =>
    obtain ⟨st, b, j, hst, hbj, hj, H1, rfl, rfl, rfl⟩ := hrel
    replace H1 := hide H1
    clear HR
    by_cases hlt : j < s.size
    · by_cases h9 : st = 9
      · subst h9
        rw [show enc 9 = -1 from rfl]
        have hb : b = R := by have := H1.out; rw [Num.md9] at this; exact this
        go_wp2
        go_ret
        exact ⟨ret1 rfl, rfl⟩
      · have h8 : st < 9 := by omega
        rw [show enc st = (st : Int) from if_neg h9]
        have H2 := hide (md_at s st j b hlt)
        have HC := hide (fun w => step_any st h8 s[j] w)
        have hle := step_le st s[j]
        generalize Num.step st s[j] = st' at *
        go_wp2_with fail
        refine (HC.out _).mono ?_; rintro e w' ⟨rfl, rfl⟩
        clear HC h9
        rw [H1.out] at H2
        rcases acc_ways st' hle with rfl | rfl | rfl | rfl | ⟨t2, t3, t5, t8, ha⟩
        · rw [show enc 2 = 2 from rfl]
          go_wp2
          go_round
          case rel => exact ⟨2, j + 1, j + 1, by omega, by omega, by omega, H2.out.symm, rfl, by go_num, by go_num⟩
          case measure => simp [intOf]; omega
        · rw [show enc 3 = 3 from rfl]
          go_wp2
          go_round
          case rel => exact ⟨3, j + 1, j + 1, by omega, by omega, by omega, H2.out.symm, rfl, by go_num, by go_num⟩
          case measure => simp [intOf]; omega
        · rw [show enc 5 = 5 from rfl]
          go_wp2
          go_round
          case rel => exact ⟨5, j + 1, j + 1, by omega, by omega, by omega, H2.out.symm, rfl, by go_num, by go_num⟩
          case measure => simp [intOf]; omega
        · rw [show enc 8 = 8 from rfl]
          go_wp2
          go_round
          case rel => exact ⟨8, j + 1, j + 1, by omega, by omega, by omega, H2.out.symm, rfl, by go_num, by go_num⟩
          case measure => simp [intOf]; omega
        · have HA := hide ha
          clear ha
          go_wp2
          go_round
          case rel => exact ⟨st', b, j + 1, by omega, by omega, by omega, by have := H2.out; rw [HA.out] at this; exact this.symm, rfl, rfl, by go_num⟩
          case measure => simp [intOf]; omega
    · have hb : b = R := by have := H1.out; rw [drop_none s j (by omega)] at this; exact this
      go_wp2
      go_ret
      exact ⟨ret1 rfl, rfl⟩

theorem bytes_ok (a0 : ByteArray) (h : a0.size ≤ 1048576) (w : World) :
    Calls Try.prog 8 #[.string a0] w fun e w' => e = .returned (.bool true) ∧ w' = w := by
  go_enter Try.func8, Try.ntmps8
  go_wp2
  go_ret
  exact ⟨rfl, rfl⟩
theorem bytes_no (a0 : ByteArray) (w0 : a0.size ≤ maxLen) (h : 1048576 < a0.size) (w : World) :
    Calls Try.prog 8 #[.string a0] w fun e w' => e = .returned (.bool false) ∧ w' = w := by
  unfold maxLen at w0
  go_enter Try.func8, Try.ntmps8
  go_wp2
  go_ret
  exact ⟨rfl, rfl⟩

set_option maxHeartbeats 1000000 in
theorem walk (a0 : ByteArray) (w0 : a0.size ≤ maxLen) (w : World) :
    Calls Try.prog 3 #[.string a0] w fun e w' => e = .returned (.bool true) ∧ Grown w w' := by
  have w1 := hide w0
  unfold maxLen at w0
  by_cases hb : a0.size ≤ 1048576
  · have HA := hide (fun w => zzNumberPrefix_any a0 w w1.out)
    have HB := hide (fun w => model_any a0 w w1.out)
    rw [Num.model_eq] at HB
    generalize Num.numPre a0.data.toList = k at *
    go_enter Try.func3, Try.ntmps3
    go_wp2_with fail
    refine (bytes_ok a0 hb _).mono ?_; rintro e w' ⟨rfl, rfl⟩
    go_wp2_with fail
    refine (HA.out _).mono ?_; rintro e w' ⟨rfl, rfl⟩
    go_wp2_with fail
    refine (HB.out _).mono ?_; rintro e w' ⟨rfl, rfl⟩
    go_wp2
    go_ret
    exact ⟨rfl, Grown.refl _⟩
  · go_enter Try.func3, Try.ntmps3
    go_wp2_with fail
    refine (bytes_no a0 w1.out (by omega) _).mono ?_; rintro e w' ⟨rfl, rfl⟩
    go_wp2
    go_ret
    exact ⟨rfl, Grown.refl _⟩
end Go.Proofs.Qxb6601586a.Auto
